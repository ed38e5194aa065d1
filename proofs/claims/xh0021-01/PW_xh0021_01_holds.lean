import PyProof.Rows.All
import Wide.All
import OpenK.AllK
import Wide.FinOn
import PySem.Challenge.RW_xh0021_01
open PySem PySem.W PyProof.Rows
set_option Elab.async false
set_option maxRecDepth 100000
set_option linter.unusedVariables false
set_option linter.unusedSimpArgs false
set_option genSizeOf false
set_option genInjectivity false
set_option bootstrap.genMatcherCode false
set_option genCtorIdx false
set_option compiler.extract_closed false
namespace Mine
noncomputable abbrev atY:=@wpAny_bind
noncomputable abbrev atZ:=@Heap.get?_push_of_some
noncomputable abbrev at0:=@Nat.le_trans
noncomputable abbrev at1:=@wpAny_mono
noncomputable abbrev at2:=@Nat.le_of_ble_eq_true
noncomputable abbrev at3:=@wpAny_pure
noncomputable abbrev at4:=@Heap.get?_push_size
noncomputable abbrev at5:=@Nat.lt_of_lt_of_le
noncomputable abbrev at6:=@Heap.get?_none_of_le
noncomputable abbrev at7:=@wpAny_standAt
noncomputable abbrev at8:=@Nat.add_le_add_left
noncomputable abbrev at9:=@Nat.le_add_right
noncomputable abbrev aua:=@Heap.lt_size
noncomputable abbrev aub:=@Nat.le_of_eq
noncomputable abbrev auc:=@Nat.lt_of_le_of_lt
noncomputable abbrev aud:=@wpAny_holding
noncomputable abbrev aue:=@Int.natCast_nonneg
noncomputable abbrev auf:=@Nat.le_refl
noncomputable abbrev aug:=@Nat.le_of_lt
noncomputable abbrev auh:=@Nat.succ_pos
noncomputable abbrev aui:=@wpAny_execs_cons
noncomputable abbrev auj:=@Nat.add_le_add_right
noncomputable abbrev auk:=@Nat.le_of_lt_succ
noncomputable abbrev aul:=@List.getElem?_eq_getElem
noncomputable abbrev aum:=@Nat.ne_of_lt
noncomputable abbrev aun:=@Nat.le_of_succ_le
noncomputable abbrev auo:=@wpAny_field
noncomputable abbrev aup:=@Nat.zero_le
noncomputable abbrev auq:=@Nat.le_max_right
noncomputable abbrev aur:=@Nat.lt_trans
noncomputable abbrev aus:=@Heap.get?_update_other
noncomputable abbrev aut:=@Nat.add_comm
noncomputable abbrev auu:=@Nat.le_max_left
noncomputable abbrev auv:=@Nat.lt_succ_of_lt
noncomputable abbrev auw:=@Nat.pow_le_pow_right
noncomputable abbrev aux:=@List.mem_of_getElem?
noncomputable abbrev auy:=@Int.le_trans
noncomputable abbrev auz:=@Nat.sub_add_cancel
noncomputable abbrev auA:=@Heap.get?_update_self
noncomputable abbrev auB:=@Heap.SameBut.update
noncomputable abbrev auC:=@wpAny_callSpecial?_slot
noncomputable abbrev auD:=@wpAny_newObj_type
noncomputable abbrev auE:=@Nat.pow_lt_pow_right
noncomputable abbrev auF:=@Nat.add_right_comm
noncomputable abbrev auG:=@Nat.add_le_add
noncomputable abbrev auH:=@Nat.lt_irrefl
noncomputable abbrev auI:=@Nat.succ_le_succ
noncomputable abbrev auJ:=@Nat.ne_of_gt
noncomputable abbrev auK:=@Nat.mod_lt
noncomputable abbrev auL:=@List.mem_append_right
noncomputable abbrev auM:=@Nat.le_of_add_le_add_right
noncomputable abbrev auN:=@Int.mul_le_mul_of_nonneg_right
noncomputable abbrev auO:=@wpAny_call_entry
noncomputable abbrev auP:=@Heap.size_push
noncomputable abbrev auQ:=@Nat.le_add_left
noncomputable abbrev auR:=@Int.sub_le_self
noncomputable abbrev auS:=@Int.eq_ofNat_of_zero_le
noncomputable abbrev auT:=@Nat.lt_succ_self
noncomputable abbrev auU:=@Nat.add_sub_cancel'
noncomputable abbrev auV:=@Nat.le_antisymm
noncomputable abbrev auW:=@Nat.dvd_trans
noncomputable abbrev auX:=@wpAny_call
noncomputable abbrev auY:=@Nat.zero_lt_of_lt
noncomputable abbrev auZ:=@Nat.dvd_mul_right
noncomputable abbrev au0:=@wpAny_execs_nil
noncomputable abbrev au1:=@Int.lt_irrefl
noncomputable abbrev au2:=@Nat.lt_of_sub_eq_succ
noncomputable abbrev au3:=@wpAny_seqItems
noncomputable abbrev au4:=@wpAny_setField_rec
noncomputable abbrev au5:=@List.length_filter_le
noncomputable abbrev au6:=@wpAny_loadPart'
noncomputable abbrev au7:=@List.mem_append_left
noncomputable abbrev au8:=@wpAny_assign_Name
noncomputable abbrev au9:=@Nat.mul_le_mul_left
noncomputable abbrev ava:=@Nat.noConfusion
variable{it:Bool}{r:Nat}{A:Around}{a6:Shared}{env:Env}{fz:List (Str×Addr)}{E:Value->Shared->Prop}{n:Nat}{ow:Str->Bool}{ad:Str->Addr}{s s':Shared}{ad':Str->Addr}{s'':Shared}{aG:Str->Addr}{a8 sst:Shared}{m:Nat}
theorem ai8{n i k:Nat}(h:n-i=k+1):n-(i+1)=k:=(Nat.sub_add_eq n i 1).trans (congrArg (·-1) h)
theorem akU{L M R:Nat}(h1:L<=M) (h2:M<=R):M-L+(R-M)=R-L:=(aut _ _).trans (Nat.sub_add_sub_cancel h2 h1)
theorem asd{f l r m:Nat}(h:r-l<=f+1) (h2:m<r):m-l<=f:=Nat.sub_le_of_le_add (auk (at5 h2 (at0 (Nat.sub_le_iff_le_add.mp h) (aub (Nat.succ_add f l)))))
theorem ase{f l r m:Nat}(h:r-l<=f+1) (h1:l<=m):r-(m+1)<=f:=Nat.sub_le_of_le_add (at0 (Nat.sub_le_iff_le_add.mp h) (at0 (aub (Nat.add_assoc f 1 l)) (at8 (aut 1 l▸auI h1) f)))
theorem asf{k:Nat}:k<6->k=0\/k=1\/k=2\/k=3\/k=4\/k=5:=by revert k;decide
theorem ap4{k:Nat}:k<4->k=0\/k=1\/k=2\/k=3:=by revert k;decide
theorem ajY{a b c d n:Nat}(h:a+b+c+d<=n):a<=n/\b<=n/\c<=n/\d<=n:=have h3:=at0 (at9 _ _) h;have h2:=at0 (at9 _ _) h3;⟨at0 (at9 _ _) h2,at0 (auQ _ _) h2,at0 (auQ _ _) h3,at0 (auQ _ _) h⟩
theorem asg{c d:Nat}:(c=0/\d=0)↔(c:Int)+d=0:=Nat.add_eq_zero_iff.symm.trans (Int.natCast_inj (m:=c+d) (n:=0)).symm
theorem ahh{n m:Nat}(h:n<=m) (hm:Nat.blt m (2^100)=true):(n:Int).natAbs<2^100:=auc h (at2 hm)
theorem aaK{n m k:Nat}(h:n<=m) (hm:Nat.ble m k=true):n<=k:=at0 h (at2 hm)
theorem akV{n m k:Nat}(h:n<=m) (hm:Nat.blt m k=true):n<k:=auc h (at2 hm)
theorem acA{a b m n k:Nat}(h1:a<=m) (h2:b<=n) (hk:Nat.ble (m+n) k=true):a+b<=k:=at0 (auG h1 h2) (at2 hk)
theorem ace{n m k:Nat}(h:n<=m) (hm:Nat.blt m k=true):(n:Int)<(k:Int):=Int.ofNat_lt.mpr (akV h hm)
theorem acM{n m k:Nat}(h:n<=m) (hm:Nat.ble m k=true):(n:Int)<=(k:Int):=Int.ofNat_le.mpr (aaK h hm)
theorem adI{x:Nat}:x%3*2<=4:=Nat.mul_le_mul_right 2 (auk (auK x (by decide)))
theorem dbl (k:Nat):2+k*2=(1+k)+(1+k):=(congrArg (2+·) (Nat.mul_two k)).trans (Nat.add_add_add_comm 1 1 k k)
theorem akW{k L n:Nat}(h:L+1+1<=n):min k L+(0+1)+(L-k)+(0+1)<=n:=by
 show min k L+1+(L-k)+1<=n
 rw [Nat.add_right_comm (min k L) 1,Nat.add_comm (min k L),Nat.min_comm,Nat.sub_add_min_cancel];exact h
theorem zero4{a b c d:Nat}:(a=0/\b=0)/\c=0/\d=0↔(a:Int)+c+(b+d)=0:=by
 rw [show (a:Int)+c+(b+d)=((a+c+(b+d):Nat):Int) from rfl]
 refine Iff.trans ?_ (Int.natCast_inj (n:=0)).symm
 rw [Nat.add_eq_zero_iff,Nat.add_eq_zero_iff,Nat.add_eq_zero_iff]
 exact ⟨λh=>⟨⟨h.1.1,h.2.1⟩,h.1.2,h.2.2⟩,λh=>⟨⟨h.1.1,h.2.1⟩,h.1.2,h.2.2⟩⟩
theorem four4{a b c d:Nat}:a+b+c+d=4↔(a:Int)+(b+(c+d))=4:=by rw [Nat.add_assoc,Nat.add_assoc];exact (Int.natCast_inj (n:=4)).symm
theorem apf{R L:Nat}(h1:L<R) (h3:R-L<=1):R=L+1:=auV (Nat.sub_le_iff_le_add'.mp h3) h1
theorem akX{i n:Nat}(h:n-i=0) (hi:i<=n):i=n:=auV hi (Nat.le_of_sub_eq_zero h)
theorem agB{a b c d:Nat}(h1:b<=a) (h2:d<=c):a-b+(c-d)=a+c-(b+d):=by rw [Nat.sub_add_eq,Nat.sub_add_comm h1,Nat.add_sub_assoc h2]
theorem anD{v p q:Nat}(h:p<=v):((v-p+q:Nat):Int)=v+((q:Int)-p):=by rw [Int.natCast_add,Int.ofNat_sub h];lia
theorem ash{n i:Nat}(h:i<n):((n-1-i:Nat):Int)=(n:Int)-1-i:=by rw [Int.ofNat_sub (Nat.le_sub_one_of_lt h),Int.ofNat_sub (Nat.zero_lt_of_lt h)];rfl
theorem na4{x:Int}{n:Nat}(h1:x<=n) (h2:-x<=n):x.natAbs<=n:=by
 cases x with
 | ofNat m=>exact Int.ofNat_le.mp h1
 | negSucc m=>exact Int.ofNat_le.mp h2
theorem lt5{a b c d:Nat}:a+b+c+d<=4↔a<5/\b<5-a/\c<5-a-b/\d<5-a-b-c:=
 ⟨λh=>have h:=Nat.lt_succ_of_le h
  have h3:=auc (at9 (a+b+c) d) h
  have h2:=auc (at9 (a+b) c) h3
  ⟨auc (at9 a b) h2,Nat.lt_sub_of_add_lt (aut a b▸h2),Nat.lt_sub_of_add_lt (Nat.lt_sub_of_add_lt (by rw [Nat.add_assoc,Nat.add_comm c,Nat.add_comm b];exact h3)),by rw [Nat.sub_sub,Nat.sub_sub,<- Nat.add_assoc];exact Nat.lt_sub_of_add_lt (aut d _▸h)⟩,λh=>by
  have h4:=h.2.2.2
  rw [Nat.sub_sub,Nat.sub_sub,<- Nat.add_assoc] at h4
  exact auk (aut d _▸Nat.add_lt_of_lt_sub h4)⟩
theorem asi{k:Int}{n:Nat}(h:k.natAbs<n):-(n:Int)<=k/\k<n:=by
 cases k with
 | ofNat m=>exact ⟨auy (Int.neg_nonpos_of_nonneg (aue n)) (aue m),Int.ofNat_lt.mpr h⟩
 | negSucc m=>exact ⟨Int.neg_le_neg (Int.ofNat_le.mpr (aug h)),Int.lt_of_lt_of_le (Int.negSucc_lt_zero m) (aue n)⟩
theorem asj{x y r:Nat}(h:y+r=x):(x:Int)+y-2*y=r:=by subst h;rw [Int.natCast_add];lia
theorem ag{P:Prop}(h:∀ G:Prop,(P->G)->G):P:=h P id
theorem ff{G:Prop}(h:false=true):G:=Bool.noConfusion h
theorem tf{G:Prop}(h:true=false):G:=Bool.noConfusion h
theorem nos{α:Type}{a:α}{G:Prop}(h:none=some a):G:=Option.noConfusion rfl (heq_of_eq h)
theorem son{α:Type}{a:α}{G:Prop}(h:some a=none):G:=nos h.symm
theorem ifs{α:Type}{b:Bool}{o:Option α}{y:α}(h:(if b=true then o else none)=some y):b=true/\o=some y:=by
 cases b with
 | true=>exact ⟨rfl,h⟩
 | false=>exact nos h
theorem nty{x:String}(h:Value.type x=Value.none):False:=Value.noConfusion h
theorem soi{α:Type}{a b:α}(h:some a=some b):a=b:=Option.some.inj h
set_option genCtorIdx true in
inductive T where
 | none
 | bool (b:Bool)
 | int (i:Int)
 | str (x:Str)
 | tup (l:List T)
 | lst (l:List T)
 | dct (l:List (Int×T))
 | cmp (keys:T)
theorem ap5{a b:List T}(h:T.tup a=.tup b):a=b:=by cases h;rfl
noncomputable abbrev aag:=Addr->Prop
variable{it:Bool}{r:Nat}{A:Around}{X P a9:aag}{a6:Shared}{env:Env}{fz:List (Str×Addr)}{E:Value->Shared->Prop}{n:Nat}{ow:Str->Bool}{V:aag}{ad:Str->Addr}{s s':Shared}{ad':Str->Addr}{s'':Shared}{aG:Str->Addr}{a8 sst:Shared}{m:Nat}{V' Z N az:aag}
@[irreducible] noncomputable def pg:Program:=PySem.Challenge.rw_xh0021_01.row.prog
structure Gm where
 w:World
 KF:Frag
 mg:Str->Option Value
 mb:Str->Option Value
variable{it:Bool}{r:Nat}{A:Around}{X P a9:aag}{a6:Shared}{env:Env}{fz:List (Str×Addr)}{E:Value->Shared->Prop}{n:Nat}{ow:Str->Bool}{V:aag}{ad:Str->Addr}{s s':Shared}{ad':Str->Addr}{s'':Shared}{aG:Str->Addr}{a8 sst:Shared}{m:Nat}{V' Z N az:aag}{γ:Gm}
noncomputable def w0:World:=⟨λ_ _=>0,{ strHash:=λ_=>0,shareClass:=λ_=>0,mergeTok:=id,idOf:=λ_=>0,idOfShared:=λ_ _=>0,followText:=λ_=>true,idOfImm:=λ_=>0 }⟩
noncomputable abbrev iK:=intKind pg w0
noncomputable abbrev aaO:Addr:=38
noncomputable abbrev aea:List (Addr×Addr×Nat×Nat×Str):=
 [(55,51,27,42,"add_callers.<locals>.<genexpr>"),(76,72,64,4,"_int2digits.<locals>.inner"),(83,79,79,4,"_digits2int.<locals>.inner"),(152,150,162,32,"_law_least.<locals>.<lambda>")]
noncomputable abbrev aa7:List Addr:=[51,72,79,150]
inductive TabOk (h:Heap) (q:Addr×Addr×Nat×Nat×Str):Prop
 | mk (hd:CodeHd h q.1 q.2.1) (ps:Array Value) (e:h.get? q.2.1=some (tabObj ps)) (c:ps=#[]\/∃ c',ps=#[rawInt q.2.2.1,rawInt q.2.2.2.1,.ref c']/\h.CodeRec (.ref c') q.2.2.2.2):TabOk h q
noncomputable def TabInv (h:Heap):Prop:=∀ q∈aea,TabOk h q
theorem ahi{h h':Heap}{c P:Addr}(p:CodeHd h c P) (k:∀ o vs,h.get? c=some o->o.cls=.type "code"->o.data=.fields vs->c≠P->h'.get? c=some o):CodeHd h' c P:=by
 obtain ⟨o,vs,file,tf,flags,tg,inF,text,tt,e,c1,d,r⟩:=p
 exact ⟨o,vs,file,tf,flags,tg,inF,text,tt,k o vs e c1 d r.2.2.2.2.2.2,c1,d,r⟩
theorem ap6{h h':Heap}{c:Value}{q:Str}(k:∀ {b o vs t},h.get? b=some o->o.data=.fields vs->vs[1]?=some (.str q t)->h'.get? b=some o) (r:h.CodeRec c q):h'.CodeRec c q:=
 (r).elim λc hX1=>hX1.elim λo hX2=>hX2.elim λvs hX3=>hX3.elim λt hX4=>hX4.elim λe1 hX5=>hX5.elim λe2 hX6=>hX6.elim λe3 e4=>⟨c,o,vs,t,e1,k e2 e3 e4,e3,e4⟩
theorem TabOk.move{h h':Heap}{q:Addr×Addr×Nat×Nat×Str}(x:TabOk h q) (k1:∀ o vs,h.get? q.1=some o->o.cls=.type "code"->o.data=.fields vs->q.1≠q.2.1->h'.get? q.1=some o) (k2:∀ ps,h.get? q.2.1=some (tabObj ps)->h'.get? q.2.1=some (tabObj ps))
  (k3:∀ {b o vs t},h.get? b=some o->o.data=.fields vs->vs[1]?=some (.str q.2.2.2.2 t)->h'.get? b=some o):TabOk h' q:=
 let ⟨p,ps,e,c⟩:=x
 ⟨ahi p k1,ps,k2 _ e,c.imp id λz=>z.elim λc' z=>⟨c',z.1,ap6 k3 z.2⟩⟩
theorem ahj{h:Heap}{q:Addr×Addr×Nat×Nat×Str}(x:TabOk h q) {o:Obj}{vs:Array Value}{u:Str}{t:Tok}(e:h.get? q.2.1=some o) (d:o.data=.fields vs) (s:vs[1]?=some (.str u t)):False:=by
 obtain ⟨_,ps,e',c⟩:=x
 cases soi (e'.symm.trans e)
 cases d
 rcases c with c | ⟨_,c,_⟩ <;> (rw [c] at s;simp [rawInt] at s)
theorem TabOk.tab{h:Heap}{q:Addr×Addr×Nat×Nat×Str}(x:TabOk h q):∃ ps,h.get? q.2.1=some (tabObj ps)/\True:=let ⟨_,ps,e,_⟩:=x;⟨ps,e,trivial⟩
theorem ai9:∀ q∈aea,q.2.1∈aa7:=by decide
theorem ac6:∀ b∈aa7,∃ q∈aea,q.2.1=b:=by decide
theorem TabInv.off{h:Heap}(x:TabInv h) {b:Addr}{o:Obj}(e:h.get? b=some o) (hc:o.cls≠.none):b∉aa7:=λhb=>
 let ⟨q,hq,z⟩:=ac6 b hb
 let ⟨_,_,hp,_⟩:=x q hq
 hc (soi (e.symm.trans (z▸hp))▸rfl)
theorem TabInv.keeps{h h':Heap}(x:TabInv h) (k:∀ b o,h.get? b=some o->h'.get? b=some o):TabInv h':=λq hq=>(x q hq).move (λo _ e _ _ _=>k _ o e) (λ_ e=>k _ _ e) λe _ _=>k _ _ e
theorem TabInv.keepF{h h':Heap}(x:TabInv h) (k:∀ b o vs,o.data=.fields vs->h.get? b=some o->h'.get? b=some o):TabInv h':=λq hq=>(x q hq).move (λo vs e _ d _=>k _ o vs d e) (λ_ e=>k _ _ _ rfl e) λe d _=>k _ _ _ d e
section
variable (γ:Gm)
mutual
inductive Rep (V:aag) (h:Heap):Value->T->Prop
 | none:Rep V h .none .none
 | bool (b):Rep V h (.bool b) (.bool b)
 | int (i t):Rep V h (.int i t) (.int i)
 | str (x t):Rep V h (.str x t) (.str x)
 | tup {a vs l}:V a->h.IsTuple a vs->RepL V h vs.toList l->Rep V h (.ref a) (.tup l)
 | lst {a vs l}:V a->h.PlainList a vs->RepL V h vs.toList l->Rep V h (.ref a) (.lst l)
 | dct {a o kvs l}:V a->(a==sysModules)=false->h.get? a=some o->o.IsDictOf iK kvs->RepD V h kvs l->Rep V h (.ref a) (.dct l)
 | cmp {a dx e tk n t}:V a->V dx->h.get? a=some (instObj aaO dx)->h.get? dx=some (dictOf [e] n)->e.key=.str "comp_select_list" tk->Rep V h e.val t->Rep V h (.ref a) (.cmp t)
inductive RepL (V:aag) (h:Heap):List Value->List T->Prop
 | nil:RepL V h [] []
 | cons {v vs t ts}:Rep V h v t->RepL V h vs ts->RepL V h (v ::vs) (t ::ts)
inductive RepD (V:aag) (h:Heap):List (Int×Value)->List (Int×T)->Prop
 | nil:RepD V h [] []
 | cons {k v vs t ts}:Rep V h v t->RepD V h vs ts->RepD V h ((k,v) ::vs) ((k,t) ::ts)
end
theorem abH{V:aag}{h:Heap}{P:List Value->List T->Prop}(n:P [] []) (c:∀ {v vs t ts},Rep V h v t->RepL V h vs ts->P vs ts->P (v ::vs) (t ::ts)) {vs ts}(r:RepL V h vs ts):P vs ts:=
 RepL.rec (motive_1:=λ_ _ _=>True) (motive_2:=λvs ts _=>P vs ts) (motive_3:=λ_ _ _=>True) trivial (λ_=>trivial) (λ_ _=>trivial) (λ_ _=>trivial) (λ_ _ _ _=>trivial) (λ_ _ _ _=>trivial) (λ_ _ _ _ _ _=>trivial) (λ_ _ _ _ _ _ _=>trivial)
  n (λa b _ ih=>c a b ih) trivial (λ_ _ _ _=>trivial) r
theorem abI{V:aag}{h:Heap}{P:List (Int×Value)->List (Int×T)->Prop}(n:P [] []) (c:∀ {k v vs t ts},Rep V h v t->RepD V h vs ts->P vs ts->P ((k,v) ::vs) ((k,t) ::ts)) {vs ts}(r:RepD V h vs ts):P vs ts:=
 RepD.rec (motive_1:=λ_ _ _=>True) (motive_2:=λ_ _ _=>True) (motive_3:=λvs ts _=>P vs ts) trivial (λ_=>trivial) (λ_ _=>trivial) (λ_ _=>trivial) (λ_ _ _ _=>trivial) (λ_ _ _ _=>trivial) (λ_ _ _ _ _ _=>trivial) (λ_ _ _ _ _ _ _=>trivial)
  trivial (λ_ _ _ _=>trivial) n (λa b _ ih=>c a b ih) r
theorem Rep.map{V V':aag}{h h':Heap}(k:∀ a o,V a->h.get? a=some o->V' a/\(o.cls≠.none->h'.get? a=some o)) {v t}(r:Rep V h v t):Rep V' h' v t:=
 Rep.rec (motive_1:=λv t _=>Rep V' h' v t) (motive_2:=λv t _=>RepL V' h' v t) (motive_3:=λv t _=>RepD V' h' v t) .none .bool .int .str
  (λva hq _ ih=>hq.elim λo hq=>hq.elim λho hq=>hq.elim λhc hd=>.tup (k _ _ va ho).1 ⟨o,(k _ _ va ho).2 (by rw [hc];exact nty),hc,hd⟩ ih)
  (λva hq _ ih=>hq.elim λn ho=>.lst (k _ _ va ho).1 ⟨n,(k _ _ va ho).2 nty⟩ ih)
  (λva hs ho hd _ ih=>.dct (k _ _ va ho).1 hs ((k _ _ va ho).2 ((hd).elim λ_ hX1=>hX1.elim λ_ hX2=>hX2.elim λhx _=>by rw [hx.1];exact nty)) hd ih)
  (λva vd ho hd hn _ ih=>.cmp (k _ _ va ho).1 (k _ _ vd hd).1 ((k _ _ va ho).2 (λh=>Value.noConfusion h)) ((k _ _ vd hd).2 nty) hn ih)
  .nil (λ_ _ a b=>.cons a b) .nil (λ_ _ a b=>.cons a b) r
section
variable{h h':Heap}
theorem Rep.mono (hV:∀ a,V a->V' a) (hk:∀ b o,o.cls≠.none->V b->h.get? b=some o->h'.get? b=some o) {v t}(r:Rep V h v t):Rep V' h' v t:=
 r.map λa o va e=>⟨hV a va,λc=>hk a o c va e⟩
theorem RepL.mono (hV:∀ a,V a->V' a) (hk:∀ b o,o.cls≠.none->V b->h.get? b=some o->h'.get? b=some o) {v t}(r:RepL V h v t):RepL V' h' v t:=
 abH .nil (λa _ ih=>.cons (a.mono hV hk) ih) r
theorem RepD.mono (hV:∀ a,V a->V' a) (hk:∀ b o,o.cls≠.none->V b->h.get? b=some o->h'.get? b=some o) {v t}(r:RepD V h v t):RepD V' h' v t:=
 abI .nil (λa _ ih=>.cons (a.mono hV hk) ih) r
theorem Rep.live {v t}(r:Rep V h v t):Rep (λa=>V a/\∃ o,h.get? a=some o) h v t:=
 r.map λ_ o va e=>⟨⟨va,o,e⟩,λ_=>e⟩
theorem RepL.live {v t}(r:RepL V h v t):RepL (λa=>V a/\∃ o,h.get? a=some o) h v t:=
 abH .nil (λa _ ih=>.cons (a.live) ih) r
theorem RepD.live {v t}(r:RepD V h v t):RepD (λa=>V a/\∃ o,h.get? a=some o) h v t:=
 abI .nil (λa _ ih=>.cons (a.live) ih) r
end
end
structure ExtX (X:aag) (s s':Shared):Prop where
 keep:∀ b o,b∉aa7->¬ X b->s.heap.get? b=some o->s'.heap.get? b=some o
 keepC:∀ b o,o.cls≠.none->¬ X b->s.heap.get? b=some o->s'.heap.get? b=some o
 there:∀ b,¬ X b->s'.heap.get? b=none->s.heap.get? b=none
 tab:TabInv s.heap->TabInv s'.heap
 os:s'.os=s.os
 gens:AllBare s.gens->AllBare s'.gens
noncomputable abbrev Ext:=ExtX λ_=>False
theorem ExtX.refl{X:aag}(s:Shared):ExtX X s s:=⟨λ_ _ _ _ e=>e,λ_ _ _ _ e=>e,λ_ _ e=>e,id,rfl,id⟩
theorem ExtX.trans{X:aag}{s s' s'':Shared}(x:ExtX X s s') (y:ExtX X s' s''):ExtX X s s'':=
 ⟨λb o n q e=>y.keep b o n q (x.keep b o n q e),λb o n q e=>y.keepC b o n q (x.keepC b o n q e),λb n e=>x.there b n (y.there b n e),λi=>y.tab (x.tab i),y.os.trans x.os,λi=>y.gens (x.gens i)⟩
theorem ExtX.mono{X Y:aag}{s s':Shared}(x:ExtX X s s') (h:∀ b,X b->Y b):ExtX Y s s':=
 ⟨λb o n q=>x.keep b o n λz=>q (h b z),λb o n q=>x.keepC b o n λz=>q (h b z),λb q=>x.there b λz=>q (h b z),x.tab,x.os,x.gens⟩
theorem Ext.toX{X:aag}{s s':Shared}(x:Ext s s'):ExtX X s s':=x.mono λ_ h=>h.elim
theorem Ext.then{X:aag}{a6 s s':Shared}(x:Ext a6 s) (y:ExtX X s s') (h:∀ b,X b->a6.heap.get? b=none):Ext a6 s':=
 ⟨λb o n q e=>y.keep b o n (λz=>by rw [h b z] at e;cases e) (x.keep b o n q e),λb o n q e=>y.keepC b o n (λz=>by rw [h b z] at e;cases e) (x.keepC b o n q e),λb _ e=>Classical.byCases (λz:X b=>h b z) λz=>x.there b id (y.there b z e),λi=>y.tab (x.tab i),y.os.trans x.os,λi=>y.gens (x.gens i)⟩
theorem aja{X:aag}{h h':Heap}(k:∀ b o,h.get? b=some o->h'.get? b=some o) (b:Addr) (_:¬ X b) (e:h'.get? b=none):h.get? b=none:=by
 cases q:h.get? b with
 | none=>rfl
 | some o=>replace e:=(k b o q)▸e;exact son e
theorem Ext.of{s:Shared}{h':Heap}{tk:Nat}(k:∀ b o,s.heap.get? b=some o->h'.get? b=some o):Ext s { s with heap:=h',toks:=tk }:=
 ⟨λb o _ _ e=>k b o e,λb o _ _ e=>k b o e,aja k,λx=>x.keeps k,rfl,id⟩
theorem Ext.tok{s:Shared}{tk:Nat}:Ext s { s with toks:=tk }:=Ext.of λ_ _ e=>e
theorem Ext.push{s:Shared}{o:Obj}{tk:Nat}:Ext s { s with heap:=s.heap.push o,toks:=tk }:=
 Ext.of (λ_ _ e=>atZ _ e)
theorem TabInv.but{h h':Heap}{a:Addr}{o:Obj}(x:TabInv h) (e:h.get? a=some o) (hn:∀ vs,o.data≠.fields vs) (k:∀ b o,b≠a->h.get? b=some o->h'.get? b=some o):TabInv h':=
 x.keepF λb o' vs d e'=>k _ _ (λz=>hn vs (soi ((z▸e).symm.trans e')▸d)) e'
theorem akY{X:aag}{h h':Heap}{a:Addr}(k:∀ b o,b≠a->h.get? b=some o->h'.get? b=some o) (ht:∃ o',h'.get? a=some o') (b:Addr) (_:¬ X b) (e:h'.get? b=none):h.get? b=none:=by
 by_cases z:b=a
 . obtain rfl:=z.symm;obtain ⟨o',q⟩:=ht;replace q:=e▸q;exact nos q
 . cases q:h.get? b with
   | none=>rfl
   | some o=>have:=k b o z q;replace this:=e▸this;exact nos this
theorem ExtX.but{X:aag}{s:Shared}{h':Heap}{tk:Nat}{a:Addr}{o:Obj}(e:s.heap.get? a=some o) (hn:∀ vs,o.data≠.fields vs) (hX:X a)
  (k:∀ b o,b≠a->s.heap.get? b=some o->h'.get? b=some o) (ht:∃ o',h'.get? a=some o'):ExtX X s { s with heap:=h',toks:=tk }:=
 ⟨λb o _ n e'=>k b o (λz=>n (z▸hX)) e',λb o _ n e'=>k b o (λz=>n (z▸hX)) e',akY k ht,λx=>x.but e hn k,rfl,id⟩
noncomputable def Nv (V:aag) (s:Shared):aag:=λa=>V a\/s.heap.get? a=none
theorem Nv.le{V:aag}{s s':Shared}(e:Ext s s') {a:Addr}(h:Nv V s' a):Nv V s a:=h.imp id (e.there a id)
section
theorem idV{V:aag}:∀ a,V a->V a:=λ_ h=>h
theorem Rep.ext {v t}(r:Rep V s.heap v t) (x:Ext s s') (hV:∀ a,V a->V' a:=by exact idV):Rep V' s'.heap v t:=
 r.mono hV λb o n _ e=>x.keepC b o n id e
theorem RepL.ext {v t}(r:RepL V s.heap v t) (x:Ext s s') (hV:∀ a,V a->V' a:=by exact idV):RepL V' s'.heap v t:=
 r.mono hV λb o n _ e=>x.keepC b o n id e
theorem RepD.ext {v t}(r:RepD V s.heap v t) (x:Ext s s') (hV:∀ a,V a->V' a:=by exact idV):RepD V' s'.heap v t:=
 r.mono hV λb o n _ e=>x.keepC b o n id e
noncomputable def Off (X V:aag):Prop:=∀ b,X b->¬ V b
theorem Off.keep{X V:aag}{b:Addr}(f:Off X V) (n:V b):¬ X b:=λhx=>f b hx n
theorem Rep.extX{X:aag} {v t}(r:Rep V s.heap v t) (x:ExtX X s s') (f:Off X V) (hV:∀ a,V a->V' a:=by exact idV):Rep V' s'.heap v t:=
 r.mono hV λb o n q e=>x.keepC b o n (f.keep q) e
theorem RepL.extX{X:aag} {v t}(r:RepL V s.heap v t) (x:ExtX X s s') (f:Off X V) (hV:∀ a,V a->V' a:=by exact idV):RepL V' s'.heap v t:=
 r.mono hV λb o n q e=>x.keepC b o n (f.keep q) e
theorem RepL.length{h:Heap} {vs ts}(r:RepL V h vs ts):vs.length=ts.length:=abH (P:=λvs ts=>vs.length=ts.length) rfl (λ_ _ e=>congrArg (·+1) e) r
theorem RepD.length{h:Heap} {vs ts}(r:RepD V h vs ts):vs.length=ts.length:=abI (P:=λvs ts=>vs.length=ts.length) rfl (λ_ _ e=>congrArg (·+1) e) r
theorem RepL.get{h:Heap} {vs ts}(r:RepL V h vs ts):∀ {i:Nat} {v},vs[i]?=some v->∃ t,ts[i]?=some t/\Rep V h v t:=
 abH (P:=λvs ts=>∀ {i:Nat} {v},vs[i]?=some v->∃ t,ts[i]?=some t/\Rep V h v t) nos (λa _ ih=>λ{i v}=>match i with
  | 0=>λe=>⟨_,rfl,soi e▸a⟩
  | _+1=>λe=>ih e) r
theorem RepL.get' {h:Heap} {vs ts}(r:RepL V h vs ts):∀ {i:Nat} {t},ts[i]?=some t->∃ v,vs[i]?=some v/\Rep V h v t:=
 abH (P:=λvs ts=>∀ {i:Nat} {t},ts[i]?=some t->∃ v,vs[i]?=some v/\Rep V h v t) nos (λa _ ih=>λ{i v}=>match i with
  | 0=>λe=>⟨_,rfl,soi e▸a⟩
  | _+1=>λe=>ih e) r
theorem RepL.append{h:Heap} {vs ts us rs}(a:RepL V h vs ts) (b:RepL V h us rs):RepL V h (vs++us) (ts++rs):=
 abH (P:=λvs ts=>RepL V h (vs++us) (ts++rs)) b (λa _ ih=>.cons a ih) a
theorem RepL.take{h:Heap} {vs ts}(n:Nat) (r:RepL V h vs ts):RepL V h (vs.take n) (ts.take n):=
 abH (P:=λvs ts=>∀ n,RepL V h (vs.take n) (ts.take n)) (λn=>(List.take_nil.symm▸List.take_nil.symm▸.nil)) (λa b ih n=>match n with
  | 0=>.nil
  | n+1=>.cons a (ih n)) r n
end
theorem ae5 (n:Str) (h:Int) (k v:Value) (o:Obj):(Obj.putName n h k v o).cls=o.cls:=by
 refine Obj.putName_eq▸?_
 obtain ⟨c,d,dt,sl⟩:=o
 cases dt <;> try rfl
 simp only [Obj.putNameByArray]
 split <;> rfl
theorem ajZ{M:Model}{A:Around}{E:Value->Shared->Prop}{s:Shared}{a:Addr}{o:Obj}{es:Array DictEntry}{ep:Nat}{name:Str}{v:Value}{Q:Unit->Shared->Prop}
  (ho:s.heap.get? a=some o) (hd:o.data=.dict es ep) (hk:StrKeys es)
  (k:∀ h' o' es' ep',h'.get? a=some o'->o'.cls=o.cls->o'.data=.dict es' ep'->StrKeys es'->(∀ x,nsFind es' x=if x=name then some v else nsFind es x)->Heap.SameBut a s.heap h'->Q () { s with heap:=h',toks:=s.toks+1 }) :
  wpAny M A (nsSet a name v) Q E s:=λΓ p hΓ=>by
 simp only [nsSet,strHash,Sem.wp_bind',Sem.wp_cmd_ask,Sem.wp_pure',Sem.wp_cmd_mkText]
 rw [Sem.wp_loadPart_of M Γ _ p { s with toks:=s.toks+1 } (o:=o) _ ho]
 have hany:es.any (·.refKey)=false:=by
  rw [Array.any_eq_false'];intro e he;obtain ⟨n,t,h⟩:=hk e he;simp [DictEntry.refKey,h]
 simp only [hd,aRefKeyMayBeTheName_eq,aRefKeyMayBeTheNameByArray,hany,Bool.and_false,Bool.false_eq_true,if_false,Sem.wp_cmd_updatePart]
 refine ⟨by rw [ho];rfl,?_⟩
 have hfind:∀ i,es.findIdx? (·.key.isStr name)=some i->∀ x,nsFind (es.modify i λe=>{ e with val:=v }) x=if x=name then some v else nsFind es x:=
  λi hi x=>findBy_modify (λn v=>v.isStr n) Value.isStr_inj es name x v i hi
 have hpush:es.findIdx? (·.key.isStr name)=none->∀ (hash:Int) (t:Tok) x,nsFind (es.push ⟨hash,.str name t,v⟩) x=if x=name then some v else nsFind es x:=
  λhi hash t x=>findBy_push (λn v=>v.isStr n) es name x hash _ v (λy=>by
   show (name==y)=decide (y=name)
   by_cases h:y=name
   . obtain rfl:=h.symm;simp
   . have:¬ name=y:=λe=>h e.symm
     simp [h,this]) hi
 obtain ⟨c,d,dt,sl⟩:=o
 simp only at hd
 subst hd
 cases hi:es.findIdx? (·.key.isStr name) with
 | some i=>
  exact k _ _ _ _ (auA _ ho (by simp only [Obj.putName_eq,Obj.putNameByArray,hi];rfl)) (ae5 ..) (by simp only [Obj.putName_eq,Obj.putNameByArray,hi];rfl) (hk.modify _ _) (hfind i hi) (auB ..)
 | none=>
  exact k _ _ _ _ (auA _ ho (by simp only [Obj.putName_eq,Obj.putNameByArray,hi];rfl)) (ae5 ..) (by simp only [Obj.putName_eq,Obj.putNameByArray,hi];rfl) (hk.push _ _ _ _) (hpush hi _ _) (auB ..)
set_option backward.match.sparseCases false
noncomputable def HandOK (A:Around) (h:Heap):Prop:=
 A.handled=none\/∃ e o vs,A.handled=some (.ref e)/\h.get? e=some o/\o.cls≠.none/\o.data=.fields vs/\vs[2]?=some .none
structure AOK (it:Bool) (r:Nat) (A:Around) (h:Heap):Prop where
 hand:HandOK A h
 free:it=true->A.handled=none
 depth:A.depth+r<recursionLimit
 units:A.units+8*r+400<cLine
theorem HandOK.ext{A:Around}{X:aag}{s s':Shared}(x:HandOK A s.heap) (e:ExtX X s s') (hX:∀ e,A.handled=some (.ref e)->¬ X e):HandOK A s'.heap:=by
 refine (x).elim ?_ ?_
 . rintro x
   exact .inl x
 . rintro ⟨a,o,vs,h1,h2,h3,h4,h5⟩
   exact .inr ⟨a,o,vs,h1,e.keepC _ _ h3 (hX _ h1) h2,h3,h4,h5⟩
theorem AOK.extX{it:Bool}{r:Nat}{A:Around}{X:aag}{s s':Shared}(x:AOK it r A s.heap) (e:ExtX X s s') (hX:∀ e,A.handled=some (.ref e)->¬ X e):AOK it r A s'.heap:=
 ⟨x.hand.ext e hX,x.free,x.depth,x.units⟩
theorem AOK.ext{it:Bool}{r:Nat}{A:Around}{s s':Shared}(x:AOK it r A s.heap) (e:Ext s s'):AOK it r A s'.heap:=x.extX e λ_ _ h=>h.elim
theorem AOK.in1{it:Bool}{r:Nat}{A:Around}{h:Heap}(x:AOK it (r+1) A h):AOK it r A.in1 h:=
 ⟨x.hand,x.free,by have:=x.depth;show A.depth+r<_;exact auc (Nat.le_succ _) this,by have:=x.units;show A.units+1+_+_<_;exact auc (auj (at0 (aub (auF _ 1 _)) (at8 (by decide:1<=8) (A.units+8*r))) 400) this⟩
theorem AOK.deeper{it:Bool}{r:Nat}{A:Around}{h:Heap}{env:Env}(x:AOK it (r+1) A h):AOK it r (A.deeper env) h:=
 ⟨x.hand,x.free,by have:=x.depth;show A.depth+1+r<_;lia,by have:=x.units;show A.units+3+_+_<_;exact auc (auj (at0 (aub (auF _ 3 _)) (at8 (by decide:3<=8) (A.units+8*r))) 400) this⟩
theorem AOK.le{it:Bool}{r r':Nat}{A:Around}{h:Heap}(x:AOK it r A h) (e:r'<=r):AOK it r' A h:=
 ⟨x.hand,x.free,by have:=x.depth;exact auc (at8 e _) this,by have:=x.units;exact auc (auj (at8 (au9 8 e) _) _) this⟩
theorem AOK.off{it:Bool}{r:Nat}{A:Around}{h:Heap}(x:AOK it r A h):AOK false r A h:=⟨x.hand,(λh=>by exact ff h),x.depth,x.units⟩
noncomputable def ap7:List Stmt:=PySem.Challenge.pw_xh0021_01.main.body
noncomputable def aaa (i:Nat):Stmt:=ap7.getD i (.Pass ⟨0,0,0,0⟩)
noncomputable def stB:Stmt->List Stmt
 | .FunctionDef _ _ b ..=>b
 | .ClassDef _ _ _ b ..=>b
 | .For _ _ b _ _=>b
 | .While _ b _ _=>b
 | .If _ b _ _=>b
 | .Try b _ _ _ _=>b
 | _=>[]
noncomputable def stO:Stmt->List Stmt
 | .If _ _ b _=>b
 | .Try _ (.ExceptHandler _ _ b _ ::_) _ _ _=>b
 | _=>[]
noncomputable def stE:Stmt->Expr
 | .Assign _ v _=>v
 | .For _ i _ _ _=>i
 | .While t _ _ _=>t
 | .If t _ _ _=>t
 | .Return (some e) _=>e
 | .Expr e _=>e
 | _=>.Name "" ⟨0,0,0,0⟩
noncomputable def stT:Stmt->Expr
 | .For t _ _ _ _=>t
 | .Assign (t ::_) _ _=>t
 | _=>.Name "" ⟨0,0,0,0⟩
noncomputable def exK:Expr->List Expr
 | .Call _ as ks _=>as++ks.map λk=>k.value
 | .Tuple es _ _=>es
 | .BoolOp _ es _=>es
 | .UnaryOp _ e _=>[e]
 | .Compare l _ _ _=>[l]
 | .Lambda _ b _ _=>[b]
 | _=>[]
noncomputable def exI (i:Nat) (e:Expr):Expr:=(exK e).getD i e
noncomputable def afW:Stmt->Arguments
 | .FunctionDef _ a ..=>a
 | _=>default
noncomputable def abE (s:Stmt):List Stmt:=stB s
noncomputable def aaD:Stmt->Scope
 | .FunctionDef _ _ _ _ _ _ sc ..=>sc
 | _=>default
noncomputable def clsB (s:Stmt):List Stmt:=stB s
inductive FnIn (K:Frag) (a:Addr) (st:Stmt):Prop
 | mk (o:Obj) (fd:FuncData) (c:Addr) (oc:Obj) (vs:Array Value) (t:Tok) (k1:K.lookup a=some o) (k2:o.cls=.type "function") (k3:o.data=.func fd) (k4:fd.params=afW st) (k5:fd.body=.stmts (abE st)) (k6:fd.scope=aaD st) (k7:fd.globals=mainGlobals) (k8:fd.builtins=builtinsNs)
  (k9:fd.closure=[]) (k10:fd.defaults=.none) (k11:fd.kwdefaults=.none) (k12:fd.code=.ref c) (k13:K.lookup c=some oc) (k14:oc.data=.fields vs) (k15:vs[1]?=some (.str fd.qualname t)):FnIn K a st
inductive FnInC (K:Frag) (a c:Addr) (q:Str) (st:Stmt):Prop
 | mk (o:Obj) (fd:FuncData) (oc:Obj) (vs:Array Value) (t:Tok) (k1:K.lookup a=some o) (k2:o.cls=.type "function") (k3:o.data=.func fd) (k4:fd.params=afW st) (k5:fd.body=.stmts (abE st)) (k6:fd.scope=aaD st) (k7:fd.globals=mainGlobals) (k8:fd.builtins=builtinsNs)
  (k9:fd.closure=[]) (k10:fd.defaults=.none) (k11:fd.qualname=q) (k12:fd.code=.ref c) (k13:K.lookup c=some oc) (k14:oc.data=.fields vs) (k15:vs[1]?=some (.str fd.qualname t)):FnInC K a c q st
noncomputable abbrev fncL:List (Addr×Addr×Str×Nat):=[(56,55,"add_callers",3),(77,76,"_int2digits",8),(84,83,"_digits2int",9),(153,152,"_law_least",24)]
noncomputable abbrev fnL:List (Str×Addr×Nat):=
 [("add_func_stats",49,2),("add_callers",56,3),("_div2n1n",63,6),("_int2digits",77,8),("_digits2int",84,9),("_divmod_pos",91,10),("int_divmod",98,11),("ISTERMINAL",105,15),("ISNONTERMINAL",112,16),("ISEOF",119,17),("_law_sides",126,19),("_law_bag",133,20),("_law_keys",138,21),("_law_down",143,22),("_law_complete",148,23),("_law_least",153,24),("_law_entry",158,25),("_law_kept",163,26),("_law_rest",170,27),("_law_told",175,28),("law",180,29)]
noncomputable abbrev conL:List (Str×Int):=[("_DIV_LIMIT",4000),("ENDMARKER",0),("NT_OFFSET",256)]
noncomputable abbrev anw:List (Str×Value):=
 [("len",.builtin "len"),("range",.type "range"),("zip",.type "zip"),("enumerate",.type "enumerate"),("reversed",.type "reversed"),("sum",.builtin "sum"),("max",.builtin "max"),("min",.builtin "min"),("sorted",.builtin "sorted"),("isinstance",.builtin "isinstance"),("tuple",.type "tuple"),("list",.type "list"),("divmod",.builtin "divmod"),("ZeroDivisionError",.type "ZeroDivisionError")]
noncomputable def ah8:Stmt:=(clsB (aaa 1)).getD 1 (.Pass ⟨0,0,0,0⟩)
noncomputable def aeQ:Stmt:=.Pass ⟨0,0,0,0⟩
noncomputable def agC:Stmt:=(clsB (aaa 1)).getD 0 aeQ
structure Stat (γ:Gm):Prop where
 koff:∀ a o,γ.KF.lookup a=some o->a∉aa7
 fn:∀ p∈fnL,γ.mg p.1=some (.ref p.2.1)/\FnIn γ.KF p.2.1 (aaa p.2.2)
 con:∀ p∈conL,∃ t,γ.mg p.1=some (.int p.2 t)
 blt:∀ p∈anw,γ.mg p.1=none/\γ.mb p.1=some p.2
 fnc:∀ p∈fncL,FnInC γ.KF p.1 p.2.1 p.2.2.1 (aaa p.2.2.2)
 bm:∃ b o,γ.mg "__builtins__"=some (.ref b)/\b≠builtinsNs/\b≠mainGlobals/\γ.KF.lookup b=some o/\o.cls=.type "module"/\o.dict=some builtinsNs/\o.data=.plain
 cmp:FnIn γ.KF 35 ah8
 c1:plainGet γ.KF aaO "compare"=true
 c2:findIn γ.KF (.ref aaO) "compare"=some (some (.ref 35))
 c3:typeIn γ.KF (.ref 35)=some (.type "function")
 c4:hasDictIn γ.KF aaO=true
 c5:findIn γ.KF (.ref aaO) "comp_select_list"=some none
structure Wd (γ:Gm) (h:Heap):Prop where
 st:Stat γ
 tabs:TabInv h
 k:γ.KF.In h
 g:h.Ns mainGlobals γ.mg
 b:h.Ns builtinsNs γ.mb
 nolimit:h.NoLimit
noncomputable def OldOff (X:aag) (h:Heap) (K:Frag):Prop:=(∀ a o,K.lookup a=some o->¬ X a)/\¬ X mainGlobals/\¬ X builtinsNs/\¬ X cStatics
theorem Wd.extX{γ:Gm}{X:aag}{s s':Shared}(x:Wd γ s.heap) (e:ExtX X s s') (f:OldOff X s.heap γ.KF):Wd γ s'.heap where
 st:=x.st
 tabs:=e.tab x.tabs
 k:=λa o q=>e.keep a o (x.st.koff a o q) (f.1 a o q) (x.k a o q)
 g:=x.g.at' λo q=>e.keep _ o (by decide) f.2.1 q
 b:=x.b.at' λo q=>e.keep _ o (by decide) f.2.2.1 q
 nolimit:=(x.nolimit).elim λmc hX1=>hX1.elim λa b=>⟨mc,a.at' λo q=>e.keep _ o (by decide) f.2.2.2 q,b⟩
theorem OldOff.nil{h:Heap}{K:Frag}:OldOff (λ_=>False) h K:=⟨λ_ _ _ h=>h,id,id,id⟩
theorem ab6{X:aag}{a6:Shared}{a:Addr}{m:Str->Option Value}(n:a6.heap.Ns a m) (hX:∀ b,X b->a6.heap.get? b=none):¬ X a:=λz=>by
 obtain ⟨o,_,_,e,_⟩:=n;replace e:=(hX _ z)▸e;exact nos e
theorem OldOff.fresh{X:aag}{γ:Gm}{a6:Shared}{h:Heap}(x:Wd γ a6.heap) (hX:∀ b,X b->a6.heap.get? b=none):OldOff X h γ.KF:=
 ⟨λa o q z=>(by have:=x.k a o q;rw [hX a z] at this;exact absurd this (λq=>by exact nos q)),ab6 x.g hX,ab6 x.b hX,(x.nolimit).elim λ_ hX1=>hX1.elim λn _=>ab6 n hX⟩
theorem Wd.ext{γ:Gm}{s s':Shared}(x:Wd γ s.heap) (e:Ext s s'):Wd γ s'.heap:=x.extX e OldOff.nil
theorem TabInv.offCode{h:Heap}(x:TabInv h) {c:Addr}{q:Str}(e:h.CodeRec (.ref c) q):c∉aa7:=λhc=>by
 obtain ⟨c',o,vs,t,e1,e2,e3,e4⟩:=e
 obtain ⟨q',hq,z⟩:=ac6 c hc
 exact ahj (x q' hq) (z▸Value.ref.inj e1▸e2) e3 e4
noncomputable def abJ (k:Option NameKind):Prop:=k=some .cell\/k=some .free
noncomputable def Sees (h:Heap) (env:Env) (x:Str) (v:Value):Prop:=
 (env.kindOf x=some .local/\∃ m,h.Ns env.locals m/\m x=some v)\/
 (abJ (env.kindOf x)/\∃ c o,env.cells.lookup x=some c/\h.get? c=some o/\o.cls=.type "cell"/\o.data=.cell (some v))
theorem aaA{M:Model}{A:Around}{E:Value->Shared->Prop}{s:Shared}{env:Env}{x:Str}{v:Value}{Q:Value->Shared->Prop}(hk:env.scope.kind=.function)
  (hs:Sees s.heap env x v) (hx:(x==("__classdict__":Str))=false) (h:Q v s):wpAny M A (loadName env x) Q E s:=by
 rcases hs with ⟨hl,m,hn,hm⟩ | ⟨hl | hl,c,o,hc,ho,_,hd⟩
 . exact λΓ p hΓ=>by rw [Sem.wp_loadName_local M Γ _ p s hk hl hn hm];exact h
 . exact wpAny_loadName_cell hk hl hc ⟨o,ho,hd⟩ h
 . exact wpAny_loadName_free hk hl hc ⟨o,ho,hd⟩ h hx
section
noncomputable def aeR (a b:Option NameKind):Prop:=a=b\/(abJ a/\abJ b)
structure EnvS (env:Env) (sc:List (Str×NameKind)):Prop where
 kind:env.scope.kind=.function
 glob:env.globals=mainGlobals
 bins:env.builtins=builtinsNs
 names:∀ x,aeR (env.kindOf x) (sc.lookup x)
 cells:∀ x,abJ (sc.lookup x)->∃ c,env.cells.lookup x=some c
noncomputable def VarsOK (V:aag) (h:Heap) (env:Env) (ρ:List (Str×T)):Prop:=
 ∀ x t,ρ.lookup x=some t->∃ v,Sees h env x v/\Rep V h v t
theorem Sees.ext{s s':Shared}{env:Env}{x:Str}{v:Value}(y:Sees s.heap env x v) (i:TabInv s.heap) (e:Ext s s') (hL:env.locals∉aa7):Sees s'.heap env x v:=by
 refine (y).elim ?_ ?_
 . rintro ⟨hl,m,hn,hm⟩
   exact .inl ⟨hl,m,hn.at' λo q=>e.keep _ o hL id q,hm⟩
 . rintro ⟨hl,c,o,hc,ho,hcl,hd⟩
   exact .inr ⟨hl,c,o,hc,e.keepC _ _ (by refine hcl▸?_;exact λz=>by cases z) id ho,hcl,hd⟩
theorem VarsOK.ext{V V':aag}{s s':Shared}{env:Env}{ρ:List (Str×T)}(y:VarsOK V s.heap env ρ) (i:TabInv s.heap) (e:Ext s s') (hL:env.locals∉aa7)
  (hV:∀ a,V a->V' a:=by exact idV):VarsOK V' s'.heap env ρ:=λx t h=>by
 obtain ⟨v,a,b⟩:=y x t h
 exact ⟨v,a.ext i e hL,b.ext e hV⟩
end
section
variable (γ:Gm)
inductive EvR (V:aag) (s:Shared) (K:T->Prop) (v:Value) (s':Shared):Prop
 | mk (r:T) (k:K r) (x:Ext s s') (rep:Rep (Nv V s) s'.heap v r):EvR V s K v s'
inductive EvRL (V:aag) (s:Shared) (K:List T->Prop) (v:List Value) (s':Shared):Prop
 | mk (r:List T) (k:K r) (x:Ext s s') (rep:RepL (Nv V s) s'.heap v r):EvRL V s K v s'
theorem EvR.elim{V:aag}{s:Shared}{K:T->Prop}{v:Value}{s':Shared}{G:Prop}(z:EvR V s K v s') (f:∀ r,K r->Ext s s'->Rep (Nv V s) s'.heap v r->G):G:=EvR.rec f z
theorem EvRL.elim{V:aag}{s:Shared}{K:List T->Prop}{v:List Value}{s':Shared}{G:Prop}(z:EvRL V s K v s') (f:∀ r,K r->Ext s s'->RepL (Nv V s) s'.heap v r->G):G:=EvRL.rec f z
noncomputable def Ev (A:Around) (V:aag) (s:Shared) (t:Sem Value) (K:T->Prop):Prop:=
 wpAny (model pg γ.w) A t (EvR V s K) (λ_ _=>False) s
noncomputable def EvL (A:Around) (V:aag) (s:Shared) (t:Sem (List Value)) (K:List T->Prop):Prop:=
 wpAny (model pg γ.w) A t (EvRL V s K) (λ_ _=>False) s
noncomputable def EvB (A:Around) (s:Shared) (t:Sem Bool) (K:Bool->Prop):Prop:=
 wpAny (model pg γ.w) A t (λb s'=>K b/\Ext s s') (λ_ _=>False) s
noncomputable def CallOK (wd:Heap->Prop) (it:Bool) (r:Nat) (f:Value) (F:List T->(T->Prop)->Prop):Prop:=
 ∀ (A:Around) (V:aag) (s:Shared) (vs:List Value) (ts:List T) (K:T->Prop),AOK it r A s.heap->wd s.heap->RepL V s.heap vs ts->F ts K->Ev γ A V s (call f vs) K
end
noncomputable abbrev fnQ:List (Addr×Addr×Str×Stmt):=
 fnL.map (λp=>(p.2.1,p.2.1-1,p.1,aaa p.2.2))++([(35,34,"TupleComp.compare",ah8),(28,27,"TupleComp.__init__",agC)]:List (Addr×Addr×Str×Stmt))
noncomputable abbrev asQ:List Addr:=fnQ.map (·.1)++fnQ.map (·.2.1)++[4,37,38]
noncomputable def KQ (h:Heap):Frag:=asQ.filterMap λa=>(h.get? a).map λo=>(a,o)
noncomputable def apg (K:Frag) (v:Value):Option Str:=match v with
 | .ref c=>(K.lookup c).bind λo=>match o.data with
  | .fields vs=>(vs[1]?).bind λv=>match v with
   | .str q _=>some q
   | _=>none
  | _=>none
 | _=>none
structure FV where
 cls:Value
 params:Arguments
 body:FuncBody
 scope:Scope
 globals:Addr
 builtins:Addr
 closure:List (Str×Addr)
 defaults:Value
 kwdefaults:Value
 code:Value
 qual:Str
 cd:Option Str
noncomputable def ajb (K:Frag) (a:Addr):Option FV:=(K.lookup a).bind λo=>match o.data with
 | .func fd=>some ⟨o.cls,fd.params,fd.body,fd.scope,fd.globals,fd.builtins,fd.closure,fd.defaults,fd.kwdefaults,fd.code,fd.qualname,apg K fd.code⟩
 | _=>none
noncomputable def fvOf (q:Addr×Addr×Str×Stmt):Option FV:=some ⟨.type "function",afW q.2.2.2,.stmts (abE q.2.2.2),aaD q.2.2.2,mainGlobals,builtinsNs,[],.none,.none,.ref q.2.1,q.2.2.1,some q.2.2.1⟩
noncomputable abbrev akZ:List Str:=fnL.map (·.1)++(["_DIV_LIMIT","ENDMARKER","NT_OFFSET","__builtins__","TupleComp"]:List Str)++anw.map (·.1)
noncomputable abbrev anE:List (Option Value):=fnL.map (λp=>some (.ref p.2.1))++[some (.int 4000 262),some (.int 0 344),some (.int 256 346),some (.ref 4),some (.ref aaO)]++anw.map λ_=>none
noncomputable def ak0 (h:Heap):List (Option Value):=match (h.get? mainGlobals).map Obj.data with
 | some (Data.dict es _)=>akZ.map (nsFind es)
 | _=>[]
noncomputable def ajc (K:Frag):List Bool:=[plainGet K aaO "compare",hasDictIn K aaO,keepIn K (.ref aaO),makesIn K aaO,plainOver K aaO,(clsIn K aaO).any (·.hasDict)]++aea.map λq=>codeHdIn K q.1 q.2.1
noncomputable def aph (K:Frag):List (Option (Option Value)):=[findIn K (.ref aaO) "compare",findIn K (.ref aaO) "comp_select_list",findIn K (.ref aaO) "__init__",findIn K (.ref aaO) "__setattr__"]
noncomputable def obsQ (s:Shared):List (Option Value)×List (Option FV)×List Bool×List (Option (Option Value))×Option (Option Value)×List (Option Value)×Option Obj×List (Option Obj):=
 (ak0 s.heap,fnQ.map (λq=>ajb (KQ s.heap) q.1),ajc (KQ s.heap),aph (KQ s.heap),takerIn (KQ s.heap) aaO "comp_select_list",[typeIn (KQ s.heap) (.ref 35),typeIn (KQ s.heap) (.ref 28)],(KQ s.heap).lookup 4,aa7.map s.heap.get?)
noncomputable def api:List (Option Value)×List (Option FV)×List Bool×List (Option (Option Value))×Option (Option Value)×List (Option Value)×Option Obj×List (Option Obj):=
 (anE,fnQ.map fvOf,List.replicate 10 true,[some (some (.ref 35)),some none,some (some (.ref 28)),some (some (.builtin "object.__setattr__"))],some none,[some (.type "function"),some (.type "function")],some { cls:=.type "module",dict:=some builtinsNs,data:=.plain },aa7.map λ_=>some (tabObj #[]))
structure Says (h:Heap):Prop where
 ns:∃ o es ep,h.get? mainGlobals=some o/\o.data=.dict es ep/\akZ.map (nsFind es)=anE
 k:∃ K:Frag,K.In h/\(∀ a o,K.lookup a=some o->a∈asQ)/\(fnQ.map (λq=>ajb K q.1),ajc K,aph K,takerIn K aaO "comp_select_list",[typeIn K (.ref 35),typeIn K (.ref 28)],K.lookup 4)=(api.2.1,api.2.2.1,api.2.2.2.1,api.2.2.2.2.1,api.2.2.2.2.2.1,api.2.2.2.2.2.2.1)
 t:∀ P∈aa7,h.get? P=some (tabObj #[])
theorem asl (h:Heap):(KQ h).In h/\∀ a o,(KQ h).lookup a=some o->a∈asQ:=by
 have key:∀ a o,(KQ h).lookup a=some o->a∈asQ/\h.get? a=some o:=λa o e=>by
  refine ag λG kG=>?_
  obtain ⟨b,hb,e'⟩:=List.mem_filterMap.mp (mem_of_lookupK e)
  obtain ⟨o',e1,e2⟩:=Option.map_eq_some_iff.mp e'
  refine kG ?_
  clear e'
  cases e2
  exact ⟨hb,e1⟩
 exact ⟨λa o e=>(key a o e).2,λa o e=>(key a o e).1⟩
theorem ap8 (s:Shared) (e:obsQ s=api):Says s.heap:=by
 have e1:ak0 s.heap=anE:=congrArg (·.1) e
 refine ⟨?_,⟨KQ s.heap,(asl _).1,(asl _).2,?_⟩,List.map_inj_left.mp (congrArg (λx=>x.2.2.2.2.2.2) (congrArg (λx=>x.2) e))⟩
 . unfold ak0 at e1
   split at e1
   . rename_i es ep q
     refine (Option.map_eq_some_iff.mp q).elim λo hX1=>hX1.elim λh1 h2=>?_
     exact ⟨o,es,ep,h1,h2,e1⟩
   . exact absurd (congrArg List.length e1) (by decide)
 . exact congrArg (λx=>(x.1,x.2.1,x.2.2.1,x.2.2.2.1,x.2.2.2.2.1,x.2.2.2.2.2.1)) (congrArg (λx=>x.2) e)
theorem Says.keeps{h h':Heap}(x:Says h) (k:∀ b o,h.get? b=some o->h'.get? b=some o):Says h':=
 (x.ns).elim λo hX1=>hX1.elim λes hX2=>hX2.elim λep hX3=>hX3.elim λe r=>(x.k).elim λK hX1=>hX1.elim λi r'=>⟨⟨o,es,ep,k _ _ e,r⟩,⟨K,λa o e=>k a o (i a o e),r'⟩,λP hP=>k _ _ (x.t P hP)⟩
noncomputable def ah9:Hook:=⟨_,obsQ,λ_=>api,λ_ h=>Says h,λ_ s e=>ap8 s e,λ_ _ _ x k=>x.keeps k⟩
set_option backward.match.sparseCases true
noncomputable def isDef:Stmt->Bool
 | .Assign [.Name x _] _ _=>!(x==("__name__":Str))
 | _=>true
noncomputable def ak1:Program:={ PySem.Challenge.pw_xh0021_01 with main:={ PySem.Challenge.pw_xh0021_01.main with body:=PySem.Challenge.pw_xh0021_01.main.body.filter isDef } }
theorem anF:LeftO PySem.Challenge.rw_xh0021_01.row.prog ak1 [] (λs=>xlAt ak1 [] s&&recOk (RowW.records PySem.Challenge.rw_xh0021_01.row.toRowW) s) ah9.obs ah9.val 2118:=by
 intro w
 kernel_rfl
noncomputable def apj (prog:Program):Prop:=∀ {w:World}{mg mb:Str->Option Value}{s:Shared}{fa:Addr}{v:Value}{l:List Int},Says s.heap->s.heap.Ns mainGlobals mg->s.heap.Ns builtinsNs mb->s.heap.NoLimit->(∀ x:Str,x≠"__name__"->mb x=bootBuiltins x)->
  mg "law"=some (.ref fa)->¬ (63:Int)<l.length->s.gens=#[]->Well w.params s.heap v (ofPy (.list (l.map .int)))->
  wpAny (model prog w) callerA (call (.ref fa) [v]) (λu s'=>u=.bool true/\OldK s.heap s'.heap/\s'.os=s.os/\AllBare s'.gens) (λ_ _=>False) s
set_option maxHeartbeats 8000000 in
theorem head (H:apj PySem.Challenge.rw_xh0021_01.row.prog):PySem.Challenge.rw_xh0021_01.Holds:=by
 w_on
 refine holds_law (by kernel_rfl!) λsaid=>?_
 refine holds_open (q:=ak1) (loose:=[]) (Xt:=λs=>xlAt ak1 [] s&&recOk (RowW.records PySem.Challenge.rw_xh0021_01.row.toRowW) s) (XP:=XL ak1 []) (Yf:=ah9.obs) (Ya:=ah9.val) (YP:=ah9.says) (N:=2118) anF ah9.of ah9.keeps (λs e=>xl_of s (Bool.and_eq_true_iff.mp e).1) XL.keeps (by rfl) (by rfl) (by rfl) (λs e=>recFacts_of (Bool.and_eq_true_iff.mp e).2) (by rfl) (by first | assumption | decide +kernel) (by decide +kernel) ⟨rfl,rfl,rfl,rfl,rfl,by decide +kernel⟩ ?hw ?hc
 case hw=>w_witness2
 intro w a6 a8 mg mb G Y fa o pm cd doc dV kV ho hd hcd hD hmg hg args vals as hpre hlay hrd hwl hlo
 clear ho hd hcd hD
 obtain ⟨T⟩:=G
 have top:=λl v=>H (w:=w) (mb:=mb) (v:=v) (l:=l) Y T.g T.b T.nolimit T.builtins hmg
 wrow_args hpre hlay hrd hwl hlo
 rename_i l _ _ _ _ _ _ _ a _ _ _ _ wl _ _ _ hl _
 refine at1 (top l _ hl hg wl) (λu s' ⟨e,r1,r2,r3⟩=>⟨.inl ⟨.bool true,.bool true,[],by rw [e],λ_=>rfl,.bool true,by wrow_post,λ_=>⟨List.nodup_nil,λ_ h=>nomatch h⟩⟩,r1,r2,r3⟩) λ_ _ h=>h.elim
set_option backward.match.sparseCases false
noncomputable def gd (b:Bool) (K:Prop):Prop:=match b with
 | true=>K
 | false=>False
theorem gdi{b:Bool}{K:Prop}(h:b=true) (k:K):gd b K:=by subst h;exact k
theorem gd_{b:Bool}{K:Prop}(h:gd b K):b=true/\K:=by
 cases b
 . exact h.elim
 . exact ⟨rfl,h⟩
theorem gd2{b c:Bool}{K:Prop}(h:gd (b&&c) K):b=true/\c=true/\K:=by
 refine (gd_ h).elim λa k=>?_
 exact ⟨(Bool.and_eq_true_iff.mp a).1,(Bool.and_eq_true_iff.mp a).2,k⟩
noncomputable def szl (n:Nat) (K:Prop):Prop:=gd (Nat.ble n 10000) K
theorem szi{n:Nat}{K:Prop}(h:n<=10000) (k:K):szl n K:=gdi (Nat.ble_eq_true_of_le h) k
theorem aco{n:Nat}{K:Prop}(h:szl n K):n<=10000/\K:=⟨at2 (gd_ h).1,(gd_ h).2⟩
noncomputable def br (b:Bool) (P Q:Prop):Prop:=match b with
 | true=>P
 | false=>Q
theorem bri{b:Bool}{P Q:Prop}(h:b=true->P) (k:b=false->Q):br b P Q:=by
 cases b
 . exact k rfl
 . exact h rfl
theorem br_{b:Bool}{P Q:Prop}(h:br b P Q):(b=true/\P)\/(b=false/\Q):=by
 cases b
 . exact .inr ⟨rfl,h⟩
 . exact .inl ⟨rfl,h⟩
noncomputable def opt{α:Type}(o:Option α) (K:α->Prop):Prop:=match o with
 | some t=>K t
 | none=>False
theorem abK{α:Type}{o:Option α}{K:α->Prop}{t:α}(e:o=some t) (k:K t):opt o K:=by subst e;exact k
theorem ap9{α:Type}{o:Option α}{K:α->Prop}{G:Prop}(h:opt o K) (k:∀ t,o=some t->K t->G):G:=by
 revert h
 cases o with
 | some t=>exact k t rfl
 | none=>exact False.elim
theorem ak2{α:Type}{o:Option α}{K:α->Prop}(h:opt o K):∃ t,o=some t/\K t:=by
 cases o
 . exact h.elim
 . exact ⟨_,rfl,h⟩
theorem eqi{α:Type} [DecidableEq α] {a b:α}{K:Prop}(h:a=b) (k:K):gd (a==b) K:=gdi (by simp [h]) k
theorem dci{P:Prop} [Decidable P] {K:Prop}(h:P) (k:K):gd (decide P) K:=gdi (decide_eq_true h) k
noncomputable def ajd (k:Nat) (b:Int):Bool:=match b with
 | .ofNat n=>Nat.ble n k
 | .negSucc _=>false
theorem ae6{k:Nat}{b:Int}(h:ajd k b=true):0<=b/\b<=k:=by
 cases b with
 | ofNat n=>exact ⟨aue n,Int.ofNat_le.mpr (at2 h)⟩
 | negSucc n=>exact ff h
theorem aje{k:Nat}{b:Int}(h0:0<=b) (h:b<=k):ajd k b=true:=by
 cases b with
 | ofNat n=>exact Nat.ble_eq_true_of_le (Int.ofNat_le.mp h)
 | negSucc n=>cases h0
theorem upi{k:Nat}{b:Int}{K:Prop}(h0:0<=b) (h:b<=k) (x:K):gd (ajd k b) K:=gdi (aje h0 h) x
noncomputable def sz (i:Int):Prop:=i.natAbs<2^4000
noncomputable def szg (x:Int) (K:Prop):Prop:=br (Nat.blt x.natAbs 1267650600228229401496703205376) K (sz x/\K)
theorem aa2{x:Int}{K:Prop}(h:sz x) (k:K):szg x K:=bri (λ_=>k) λ_=>⟨h,k⟩
theorem asm{x:Int}(h:Nat.blt x.natAbs 1267650600228229401496703205376=true):sz x:=
 at5 (at2 h) (show 2^100<=2^4000 from auw ((auh _)) (by exact at2 rfl))
theorem szg_{x:Int}{K:Prop}(h:szg x K):sz x/\K:=by
 rcases br_ h with ⟨h1,h2⟩ | ⟨_,h2⟩
 . exact ⟨asm h1,h2⟩
 . exact h2
theorem ak3{i:Int}(h:sz i):i.natAbs.log2<4000:=by
 by_cases h0:i.natAbs=0
 . refine h0▸?_;decide +kernel
 . exact (Nat.log2_lt h0).mpr h
theorem agD{i:Int}(h:sz i):Builtin.Int.intBits i<=4001:=by
 have:=ak3 h
 unfold Builtin.Int.intBits
 split <;> lia
section
variable (γ:Gm)
variable {γ}
variable{K:T->Prop}
theorem adl{t:Sem Value}{v:Value}{tk:Nat}{r:T}(hr:Rep (Nv V s) s.heap v r) (hK:K r)
  (h:∀ Q:Value->Shared->Prop,Q v { s with toks:=tk }->wpAny (model pg γ.w) A t Q (λ_ _=>False) s):Ev γ A V s t K:=
 h _ ⟨r,hK,Ext.tok,hr⟩
theorem aaj{t:Sem Value}{Q:Value->Shared->Prop}{E:Value->Shared->Prop}(h:Ev γ A V s t K) (k:∀ v s' r,K r->Ext s s'->Rep (Nv V s) s'.heap v r->Q v s'):wpAny (model pg γ.w) A t Q E s:=
 at1 h (λv s' hq=>hq.elim λr a b c=>k v s' r a b c) λ_ _ e=>e.elim
theorem Ev.from{t:Sem Value}{az:aag}{a8:Shared}(x:Ext s a8) (hV:∀ a,az a->Nv V s a) (h:Ev γ A az a8 t K) :
  wpAny (model pg γ.w) A t (EvR V s K) (λ_ _=>False) a8:=
 at1 h (λv s' hq=>hq.elim λr a b c=>⟨r,a,x.trans b,c.mono (λa h=>h.elim (hV a) λz=>.inr (x.there a id z)) λ_ _ _ _ e=>e⟩) λ_ _ e=>e
theorem aao{h:Heap}{v:Value}{i:Int}{G:Prop}(r:Rep V h v (.int i)) (k:∀ t,v=.int i t->G):G:=by
 cases r with | int _ t=>exact k t rfl
theorem aa3{h:Heap}{v:Value}{l:List T}{G:Prop}(r:Rep V h v (.lst l)) (k:∀ a vs,v=.ref a->V a->h.PlainList a vs->RepL V h vs.toList l->G):G:=by
 cases r with | lst va e rs=>exact k _ _ rfl va e rs
theorem abk{h:Heap}{v:Value}{l:List T}{G:Prop}(r:Rep V h v (.tup l)) (k:∀ a vs,v=.ref a->V a->h.IsTuple a vs->RepL V h vs.toList l->G):G:=by
 cases r with | tup va e rs=>exact k _ _ rfl va e rs
theorem acp{h:Heap}{v:Value}{b:Bool}{G:Prop}(r:Rep V h v (.bool b)) (k:v=.bool b->G):G:=by
 cases r with | bool _=>exact k rfl
theorem ak4{p p':Program}{w w':World}{es:List DictEntry}{kvs:List (Int×Value)}(h:Pairs (intKind p w) es kvs):Pairs (intKind p' w') es kvs:=by
 induction h with
 | nil=>exact .nil
 | cons a b _ ih=>exact .cons a b ih
theorem aaE{p p':Program}{w w':World}{o:Obj}{kvs:List (Int×Value)}:o.IsDictOf (intKind p w) kvs->o.IsDictOf (intKind p' w') kvs:=λhX=>hX.elim λes hX1=>hX1.elim λep hX2=>hX2.elim λa hX3=>hX3.elim λb hX4=>hX4.elim λc hX5=>hX5.elim λd e=>⟨es,ep,a,b,c,ak4 d,e⟩
theorem acB{h:Heap}{v:Value}{l:List (Int×T)}{G:Prop}(r:Rep V h v (.dct l)) (k:∀ a o kvs,v=.ref a->V a->(a==sysModules)=false->h.get? a=some o->o.IsDictOf iK kvs->RepD V h kvs l->G):G:=by
 cases r with | dct va hs ho hd r=>exact k _ _ _ rfl va hs ho hd r
theorem anG{h:Heap}{v:Value}{t:T}{G:Prop}(r:Rep V h v (.cmp t)) (k:∀ a dx e tk n,v=.ref a->V a->V dx->h.get? a=some (instObj aaO dx)->h.get? dx=some (dictOf [e] n)->e.key=.str "comp_select_list" tk->Rep V h e.val t->G):G:=by
 cases r with | cmp va vd ha hd hn r=>exact k _ _ _ _ _ rfl va vd ha hd hn r
theorem aa8{h:Heap}{v:Value}{i:Int}(r:Rep V h v (.int i)):∃ t,v=.int i t:=aao r λt e=>⟨t,e⟩
theorem ak5{h:Heap}{v:Value}{l:List T}(r:Rep V h v (.lst l)):∃ a vs,v=.ref a/\h.PlainList a vs/\RepL V h vs.toList l:=aa3 r λa vs q _ e rs=>⟨a,vs,q,e,rs⟩
theorem aia{h:Heap}{v:Value}{l:List T}(r:Rep V h v (.tup l)):∃ a vs,v=.ref a/\V a/\h.IsTuple a vs/\RepL V h vs.toList l:=abk r λa vs q va e rs=>⟨a,vs,q,va,e,rs⟩
theorem adJ{h:Heap}{vs:List Value}(r:RepL V h vs []):vs=[]:=List.eq_nil_of_length_eq_zero r.length
theorem acq{h:Heap}{vs:List Value}{t:T}{ts:List T}{G:Prop}(r:RepL V h vs (t ::ts)) (k:∀ v us,vs=v ::us->Rep V h v t->RepL V h us ts->G):G:=by
 cases r with | cons a b=>exact k _ _ rfl a b
theorem acN{h:Heap}{vs:List Value}{t:T}{ts:List T}(r:RepL V h vs (t ::ts)):∃ v us,vs=v ::us/\Rep V h v t/\RepL V h us ts:=acq r λv us e a b=>⟨v,us,e,a,b⟩
theorem ae7{vs:List Value}{h:Heap}{t:T}(r:RepL V h vs [t]):∃ v,vs=[v]/\Rep V h v t:=by
 obtain ⟨v,us,rfl,a,b⟩:=acN r
 exact ⟨v,by exact (adJ b)▸rfl,a⟩
theorem aeS{vs:List Value}{h:Heap}{t u:T}(r:RepL V h vs [t,u]):∃ v v',vs=[v,v']/\Rep V h v t/\Rep V h v' u:=by
 obtain ⟨v,us,rfl,a,b⟩:=acN r
 clear r
 obtain ⟨v',rfl,c⟩:=ae7 b
 exact ⟨v,v',rfl,a,c⟩
@[elab_as_elim] theorem agE{P:Value->Prop}{v:Value}{h:Heap}{i:Int}(r:Rep V h v (.int i)) (k:∀ t,P (.int i t)):P v:=aao r λt e=>e▸k t
@[elab_as_elim] theorem aqa{P:Value->Prop}{v:Value}{h:Heap}{x:T}{i:Int}(e:x=.int i) (r:Rep V h v x) (k:∀ t,P (.int i t)):P v:=agE (P:=P) (e▸r) k
@[elab_as_elim] theorem ajf{P:Value->Prop}{v:Value}{h:Heap}{l:List T}(r:Rep V h v (.lst l)) (k:∀ a vs,h.PlainList a vs->RepL V h vs.toList l->P (.ref a)):P v:=aa3 r λa vs e _ p rs=>e▸k a vs p rs
@[elab_as_elim] theorem repTup{P:Value->Prop}{v:Value}{h:Heap}{l:List T}(r:Rep V h v (.tup l)) (k:∀ a vs,V a->h.IsTuple a vs->RepL V h vs.toList l->P (.ref a)):P v:=abk r λa vs e va p rs=>e▸k a vs va p rs
@[elab_as_elim] theorem oneA{P:List Value->Prop}{vs:List Value}{h:Heap}{t:T}(r:RepL V h vs [t]) (k:∀ v,Rep V h v t->P [v]):P vs:=(ae7 r).elim λv hq=>hq.1▸k v hq.2
@[elab_as_elim] theorem twoA{P:List Value->Prop}{vs:List Value}{h:Heap}{t u:T}(r:RepL V h vs [t,u]) (k:∀ v v',Rep V h v t->Rep V h v' u->P [v,v']):P vs:=(aeS r).elim λv hq=>hq.elim λv' hq=>hq.1▸k v v' hq.2.1 hq.2.2
@[elab_as_elim] theorem anH{P:List Value->Prop}{vs:List Value}{h:Heap}{ts:List T}{a b:Int}(e:ts=[.int a,.int b]) (r:RepL V h vs ts) (k:∀ t u,P [.int a t,.int b u]):P vs:=twoA (P:=P) (e▸r) λv v' r r'=>agE (P:=λv=>P [v,v']) r λt=>agE (P:=λv'=>P [.int a t,v']) r' λu=>k t u
@[elab_as_elim] theorem aqb{P:List Value->Prop}{vs:List Value}{h:Heap}{ts:List T}{a b c:Int}(e:ts=[.int a,.int b,.int c]) (r:RepL V h vs ts) (k:∀ t u w,P [.int a t,.int b u,.int c w]):P vs:=by
 subst e
 obtain ⟨v,us,rfl,r1,r⟩:=acN r
 exact agE (P:=λv=>P (v ::us)) r1 λt=>anH (P:=λvs=>P (.int a t ::vs)) rfl r λu w=>k t u w
noncomputable def adu (a b:T) (K:Int->Int->Prop):Prop:=
 match a with
 | .int x=>(match b with
  | .int y=>K x y
  | _=>False)
 | _=>False
theorem aeb{a b:T}{K:Int->Int->Prop}{G:T->T->Prop}(h:adu a b K) (k:∀ x y,K x y->G (.int x) (.int y)):G a b:=by
 revert h
 cases a with
 | int x=>cases b with
  | int y=>exact k x y
  | _=>exact False.elim
 | _=>exact False.elim
theorem ints_of2{a b:T}{K:Int->Int->Prop}(h:adu a b K):∃ x y,a=.int x/\b=.int y/\K x y:=aeb (G:=λa b=>∃ x y,a=.int x/\b=.int y/\K x y) h λx y h=>⟨x,y,rfl,rfl,h⟩
noncomputable def addE (a b:T) (K:T->Prop):Prop:=
 match a with
 | .int x=>(match b with
  | .int y=>K (.int (x+y))
  | _=>False)
 | .lst xs=>(match b with
  | .lst ys=>szl (xs.length+ys.length) (K (.lst (xs++ys)))
  | _=>False)
 | .tup xs=>(match b with
  | .tup ys=>szl (xs.length+ys.length) (gd (!xs.isEmpty&&!ys.isEmpty) (K (.tup (xs++ys))))
  | _=>False)
 | _=>False
theorem ak6{a b:T}{G:T->T->Prop}(h:addE a b K) (ki:∀ x y,K (.int (x+y))->G (.int x) (.int y)) (kl:∀ xs ys,szl (xs.length+ys.length) (K (.lst (xs++ys)))->G (.lst xs) (.lst ys))
  (kt:∀ xs ys,szl (xs.length+ys.length) (gd (!xs.isEmpty&&!ys.isEmpty) (K (.tup (xs++ys))))->G (.tup xs) (.tup ys)):G a b:=by
 revert h
 cases a with
 | int x=>cases b with
  | int y=>exact ki x y
  | _=>exact False.elim
 | lst x=>cases b with
  | lst y=>exact kl x y
  | _=>exact False.elim
 | tup x=>cases b with
  | tup y=>exact kt x y
  | _=>exact False.elim
 | _=>exact False.elim
noncomputable def mulE (a b:T) (K:T->Prop):Prop:=
 match a with
 | .int x=>(match b with
  | .int y=>szg x (szg y (K (.int (x*y))))
  | .bool y=>K (.int (x*if y=true then (1:Int) else 0))
  | _=>False)
 | .lst xs=>(match b with
  | .int n=>gd (ajd 10000 n) (szl (xs.length*n.toNat) (gd (!xs.isEmpty) (K (.lst (List.replicate n.toNat xs).flatten))))
  | _=>False)
 | _=>False
theorem ak7{a b:T}{G:T->T->Prop}(h:mulE a b K) (ki:∀ x y,szg x (szg y (K (.int (x*y))))->G (.int x) (.int y)) (kb:∀ x y,K (.int (x*if y=true then (1:Int) else 0))->G (.int x) (.bool y))
  (kl:∀ xs n,gd (ajd 10000 n) (szl (xs.length*n.toNat) (gd (!xs.isEmpty) (K (.lst (List.replicate n.toNat xs).flatten))))->G (.lst xs) (.int n)):G a b:=by
 revert h
 cases a with
 | int x=>cases b with
  | int y=>exact ki x y
  | bool y=>exact kb x y
  | _=>exact False.elim
 | lst x=>cases b with
  | int y=>exact kl x y
  | _=>exact False.elim
 | _=>exact False.elim
noncomputable def asn (op:Operator) (a b:T) (K:T->Prop):Prop:=
 match op with
 | .Add=>addE a b K
 | .Sub=>adu a b λx y=>K (.int (x-y))
 | .Mult=>mulE a b K
 | .FloorDiv=>adu a b λx y=>gd (y != 0) (szg y (K (.int (x.fdiv y))))
 | .Mod=>adu a b λx y=>gd (y != 0) (K (.int (x.fmod y)))
 | .Pow=>adu a b λx y=>gd (ajd 10000 y) (szg x (K (.int (x^y.toNat))))
 | .LShift=>adu a b λx y=>gd (ajd 10000 y) (szg x (K (.int (x*2^y.toNat))))
 | .RShift=>adu a b λx y=>gd (ajd 10000 y) (K (.int (x.fdiv (2^y.toNat))))
 | .BitXor=>adu a b λx y=>K (.int (Builtin.bitXor x y))
 | _=>False
theorem af2{t:Sem Value}{i:Int}(hK:K (.int i))
  (h:∀ Q:Value->Shared->Prop,Q (.int i s.toks) { s with toks:=s.toks+1 }->wpAny (model pg γ.w) A t Q (λ_ _=>False) s):Ev γ A V s t K:=
 adl (tk:=s.toks+1) (.int i s.toks) hK h
theorem aac{h:Heap}{vs:Array Value}{l:List T}(r:RepL V h vs.toList l):vs.size=l.length:=by
 have:=r.length;simpa using this
theorem aaf{n:Nat}(h:n<=10000):n<=sizeLine:=by exact aaK h rfl
theorem aeT{s:Shared}{o:Obj}:Ext s { s with heap:=s.heap.push o }:=Ext.push (tk:=s.toks)
theorem ahk{s:Shared}:s.heap.get? s.heap.objs.size=none:=at6 (auf _)
theorem ak8{ws:Array Value}{ts:List T}{vs:List Value}(hK:K (.lst ts)) (e:ws.toList=vs) (r:RepL V s.heap vs ts) :
  EvR V s K (.ref s.heap.objs.size) { s with heap:=s.heap.push { cls:=.type "list",data:=.seq ws } }:=
 ⟨_,hK,aeT,.lst (.inr ahk) ⟨_,at4 _ rfl⟩ (e▸r.ext (aeT (o:={ cls:=.type "list",data:=.seq ws })) λ_ h=>.inl h)⟩
theorem aqc{ws:Array Value}{ts:List T}{vs:List Value}(hK:K (.tup ts)) (e:ws.toList=vs) (r:RepL V s.heap vs ts) :
  EvR V s K (.ref s.heap.objs.size) { s with heap:=s.heap.push { cls:=.type "tuple",data:=.seq ws } }:=
 ⟨_,hK,aeT,.tup (.inr ahk) ⟨_,at4 _ rfl,rfl,_,rfl⟩ (e▸r.ext (aeT (o:={ cls:=.type "tuple",data:=.seq ws })) λ_ h=>.inl h)⟩
theorem ahl{u v:Value}{xs ys:List T}(ra:Rep V s.heap u (.lst xs)) (rb:Rep V s.heap v (.lst ys)) (hn:xs.length+ys.length<=10000) (hK:K (.lst (xs++ys))) :
  Ev γ A V s (binaryOp .Add u v) K:=
 aa3 ra λl vs e _ hq r1=>hq.elim λn ho=>aa3 rb λb ws e' _ hq r2=>hq.elim λn2 ho2=>by
  clear ra
  clear rb
  subst e e'
  exact concat_meets ⟨_,ho,rfl⟩ ⟨_,ho2,rfl⟩ noFill_list_add seq_list_add PySem.F.slot_list_add PySem.F.entry_list_add (PySem.F.args_list_add_2 _ _)
   (list_addW l b vs ws n n2 none none #[] #[] (aaf (((aac r1)▸(aac r2)▸hn)))) ⟨ho,ho2,ak8 hK Array.toList_append (r1.append r2)⟩
theorem ae8{vs:Array Value}{xs:List T}(e:vs.size=xs.length) (hx:(!xs.isEmpty)=true):¬ vs.isEmpty=true:=λz=>by
 replace e:=(Array.isEmpty_iff.mp z)▸e
 replace hx:=(List.eq_nil_of_length_eq_zero e.symm)▸hx;exact ff hx
theorem aib{u v:Value}{xs ys:List T}(ra:Rep V s.heap u (.tup xs)) (rb:Rep V s.heap v (.tup ys)) (hn:xs.length+ys.length<=10000) (hx:(!xs.isEmpty)=true) (hy:(!ys.isEmpty)=true) (hK:K (.tup (xs++ys))) :
  Ev γ A V s (binaryOp .Add u v) K:=by
 refine abk ra λl vs e _ ha r1=>abk rb λb ws e' _ hb r2=>?_
 clear ra
 clear rb
 subst e e'
 refine ag λG kG=>?_
 obtain ⟨⟨cls,dd,data,sl⟩,ho,hc,n,hd⟩:=ha
 obtain ⟨⟨cls2,dd2,data2,sl2⟩,ho2,hc2,n2,hd2⟩:=hb
 refine kG ?_
 subst hc;subst hd;subst hc2;subst hd2
 exact concat_meets ⟨_,ho,rfl⟩ ⟨_,ho2,rfl⟩ noFill_tuple_add seq_tuple_add PySem.F.slot_tuple_add PySem.F.entry_tuple_add (PySem.F.args_tuple_add_2 _ _)
  (tuple_addW2 l b vs ws n n2 dd dd2 sl sl2 (ae8 (aac r1) hx) (ae8 (aac r2) hy) (aaf (((aac r1)▸(aac r2)▸hn)))) ⟨ho,ho2,aqc hK Array.toList_append (r1.append r2)⟩
theorem ahm{xs:Array Value}:∀ (n:Nat) (a:Array Value),(List.foldl (λx1 x2=>x1++x2) a (List.replicate n xs)).toList=a.toList++(List.replicate n xs.toList).flatten
 | 0,a=>by simp
 | n+1,a=>by rw [List.replicate_succ,List.foldl_cons,ahm n,List.replicate_succ,List.flatten_cons,Array.toList_append,List.append_assoc]
theorem RepL.rep{h:Heap}{vs:List Value}{ts:List T}(r:RepL V h vs ts):∀ n:Nat,RepL V h (List.replicate n vs).flatten (List.replicate n ts).flatten
 | 0=>.nil
 | n+1=>by exact r.append (r.rep n)
theorem adm{l:Addr}{items:Array Value}{x:Int}{u:Tok}{Q:Value->Shared->Prop}{E:Value->Shared->Prop}(hl:s.heap.PlainList l items) (h0:0<=x) (hx:x<=10000) (hsz:items.size*x.toNat<=10000) (hne:items.isEmpty=false)
  (h:∀ vs,vs.toList=(List.replicate x.toNat items.toList).flatten->Q (.ref s.heap.objs.size) { s with heap:=s.heap.push { cls:=.type "list",data:=.seq vs } }) :
  wpAny (model pg γ.w) A (binaryOp .Mult (.ref l) (.int x u)) Q E s:=by
 refine (hl).elim λk hl=>?_
 refine wpAny_binaryOp_repeat_ref (T:="list") (U:="int") (rfl) ⟨_,hl,rfl⟩ (λs'=>typeIs_int s' x u) noFill_list_mul F.fills_int_mul F.slot_int_rmul repeat_list F.slot_int_index.lookup
  (call_meets F.slot_int_rmul (typeIs_int s x u) F.entry_int_rmul (F.args_int_rmul_2 _ _) (int___rmul___int_list x u l items k)
    ⟨hl,rfl,⟨_,hl,rfl⟩,call_meets F.slot_list_mul ⟨_,hl,rfl⟩ F.entry_list_mul (F.args_list_mul_2 _ _)
     (AutoListH.list___mul___list_int_3 l items k x u (by simp [Builtin.List.listFitsIndex];exact ⟨auy (by decide) h0,Int.lt_of_le_of_lt hx (by decide)⟩) (by lia) (by simp [Builtin.List.listTooLong,sizeLine];lia)) ⟨hl,h _ ?_⟩⟩)
 rw [hne,if_neg (by decide),ahm]
 rfl
theorem aso{u v:Value}{a b:T}(ra:Rep V s.heap u a) (rb:Rep V s.heap v b) (h:addE a b K):Ev γ A V s (binaryOp .Add u v) K:=
 ak6 (G:=λa b=>Rep V s.heap u a->Rep V s.heap v b->Ev γ A V s (binaryOp .Add u v) K) h
  (λ_ _ h ra rb=>aao ra λ_ e=>aao rb λ_ e'=>by subst e e';exact af2 h λQ q=>add_int q) (λ_ _ h ra rb=>ahl ra rb (aco h).1 (aco h).2)
  (λ_ _ h ra rb=>have g:=gd2 (aco h).2;aib ra rb (aco h).1 g.1 g.2.1 g.2.2) ra rb
theorem asp{u v:Value}{a b:T}(ra:Rep V s.heap u a) (rb:Rep V s.heap v b) (h:mulE a b K):Ev γ A V s (binaryOp .Mult u v) K:=
 ak7 (G:=λa b=>Rep V s.heap u a->Rep V s.heap v b->Ev γ A V s (binaryOp .Mult u v) K) h
  (λ_ _ h ra rb=>aao ra λ_ e=>aao rb λ_ e'=>by subst e e';exact have g1:=szg_ h;have g2:=szg_ g1.2;af2 g2.2 λQ q=>mul_int q (hm:=IntMulOk.of_bits (at0 (agD g1.1) (by decide)) (at0 (agD g2.1) (by decide))))
  (λx y h ra rb=>aao ra λ_ e=>acp rb λe'=>by
    subst e e'
    exact af2 h λQ q=>IntBool.mul_int_bool q)
  (λxs n h ra rb=>aao rb λt e1=>aa3 ra λl vs e2 va hl r=>by
    subst e1 e2
    exact adm hl (ae6 (gd_ h).1).1 (ae6 (gd_ h).1).2 ((aac r)▸(aco (gd_ h).2).1) (Bool.eq_false_iff.mpr (ae8 (aac r) (gd_ (aco (gd_ h).2).2).1)) λws hw=>ak8 (gd_ (aco (gd_ h).2).2).2 hw (r.rep _)) ra rb
theorem adv{op:Operator}{u v:Value}{a b:T}{P:Int->Int->Prop}{F:Int->Int->Int}{H:Int->Int->Prop}(ra:Rep V s.heap u a) (rb:Rep V s.heap v b) (h:adu a b H) (hh:∀ x y,H x y->P x y/\K (.int (F x y)))
  (rule:∀ x t y t' (Q:Value->Shared->Prop),P x y->Q (.int (F x y) s.toks) { s with toks:=s.toks+1 }->wpAny (model pg γ.w) A (binaryOp op (.int x t) (.int y t')) Q (λ_ _=>False) s):Ev γ A V s (binaryOp op u v) K:=
 aeb (G:=λa b=>Rep V s.heap u a->Rep V s.heap v b->Ev γ A V s (binaryOp op u v) K) h
  (λx y h ra rb=>aao ra λ_ e=>aao rb λ_ e'=>have g:=hh x y h;by subst e e';exact af2 g.2 λQ q=>rule _ _ _ _ Q g.1 q) ra rb
theorem ak9{b:Bool}{x:Int}{K:Prop}(h:gd b (szg x K)):(b=true/\sz x)/\K:=have g:=gd_ h;have g2:=szg_ g.2;⟨⟨g.1,g2.1⟩,g2.2⟩
theorem ala{op:Operator}{u v:Value}{a b:T}(ra:Rep V s.heap u a) (rb:Rep V s.heap v b) (h:asn op a b K):Ev γ A V s (binaryOp op u v) K:=by
 revert h
 cases op <;> first | exact False.elim | intro h
 case Add=>exact aso ra rb h
 case Sub=>exact adv ra rb h (λ_ _ h=>⟨trivial,h⟩) λ_ _ _ _ Q _ q=>sub_int q
 case Mult=>exact asp ra rb h
 case Mod=>exact adv ra rb h (λ_ _ h=>gd_ h) λ_ _ _ _ Q p q=>mod_int (by simpa using p) q
 case Pow=>
  refine adv ra rb h (λ_ _ h=>ak9 h) λx _ y _ Q p q=>?_
  have p1:=ae6 p.1
  refine pow_int p1.1 ?_ q
  exact auy (Int.mul_le_mul (Int.ofNat_le.mpr (agD p.2)) p1.2 p1.1 (aue _)) (by decide)
 case LShift=>
  refine adv ra rb h (λ_ _ h=>ak9 h) λx _ y _ Q p q=>?_
  refine lshift_int (ae6 p.1).1 ?_ q
  have:=agD p.2
  have:=(ae6 p.1).2
  lia
 case RShift=>exact adv ra rb h (λ_ _ h=>gd_ h) λ_ _ _ _ Q p q=>rshift_int (ae6 p).1 q
 case BitXor=>exact adv ra rb h (λ_ _ h=>⟨trivial,h⟩) λ_ _ _ _ Q _ q=>xor_int q
 case FloorDiv=>exact adv ra rb h (λ_ _ h=>ak9 h) λ_ _ _ _ Q p q=>floordiv_int (by simpa using p.1) q (hp:=.inl (PyProof.noPylong_of_log2 (aur (ak3 p.2) (by exact at2 rfl))))
end
mutual
noncomputable def T.py:T->PyData
 | .none=>.none
 | .bool b=>.bool b
 | .int i=>.int i
 | .str x=>.str x
 | .tup l=>.tuple (T.pyL l)
 | .lst l=>.list (T.pyL l)
 | .dct _=>.dict []
 | .cmp _=>.dict []
noncomputable def T.pyL:List T->List PyData
 | []=>[]
 | t ::ts=>t.py ::T.pyL ts
end
section
theorem Rep.reads{V:aag}{h:Heap} {v t}(r:Rep V h v t):t.py.canLay0=true->∃ as,Reads h v t.py as:=
 Rep.rec (motive_1:=λv t _=>t.py.canLay0=true->∃ as,Reads h v t.py as) (motive_2:=λv t _=>PyData.canLayAll0 (T.pyL t)=true->∃ as,ReadsAll h v (T.pyL t) as) (motive_3:=λ_ _ _=>True)
  (λ_=>⟨_,Reads.none⟩) (λb _=>⟨_,Reads.bool b⟩) (λi t _=>⟨_,Reads.int i t⟩) (λx t _=>⟨_,Reads.str x t⟩)
  (λ_ hq _ ih hc=>hq.elim λ_ hq=>hq.elim λho hq=>hq.elim λhcl hq=>hq.elim λ_ hd=>let ⟨_,q⟩:=ih hc;⟨_,Reads.tuple ho hcl hd q⟩)
  (λ_ e _ ih hc=>let ⟨_,q⟩:=ih hc;(e.isList).elim λ_ hX1=>hX1.elim λho hX2=>hX2.elim λhcl hX3=>hX3.elim λ_ hd=>⟨_,Reads.list ho hcl hd q⟩)
  (λ_ _ _ _ _ _ hc=>ff hc) (λ_ _ _ _ _ _ _ hc=>ff hc)
  (λ_=>⟨_,ReadsAll.nil⟩) (λ_ _ a b hc=>(Bool.and_eq_true_iff.mp hc).elim λc1 c2=>(a c1).elim λ_ p=>(b c2).elim λ_ q=>⟨_,ReadsAll.cons p q⟩) trivial (λ_ _ _ _=>trivial) r
noncomputable def abR (l:List (Int×T)) (k:Int):Option T:=(l.find? λp=>p.1==k).map (·.2)
theorem RepD.find{V:aag}{h:Heap}(k:Int) {kvs l}(r:RepD V h kvs l):(∀ t,abR l k=some t->∃ v,valueAt kvs k=some v/\Rep V h v t)/\(abR l k=none->valueAt kvs k=none):=
 abI (P:=λkvs l=>(∀ t,abR l k=some t->∃ v,valueAt kvs k=some v/\Rep V h v t)/\(abR l k=none->valueAt kvs k=none)) ⟨λ_=>nos,λ_=>rfl⟩
  (λ{k' v vs t ts} r _ ih=>by
    by_cases hk:k'=k
    . have e1:abR ((k',t) ::ts) k=some t:=by unfold abR;rw [List.find?_cons_of_pos (by simpa using hk)];rfl
      refine e1▸?_
      exact ⟨λt e=>⟨v,by unfold valueAt;rw [List.find?_cons_of_pos (by simpa using hk)];rfl,soi e▸r⟩,son⟩
    . have e1:abR ((k',t) ::ts) k=abR ts k:=by unfold abR;rw [List.find?_cons_of_neg (by simpa using hk)]
      refine e1▸?_;refine ((by unfold valueAt;rw [List.find?_cons_of_neg (by simpa using hk)]:valueAt ((k',v) ::vs) k=valueAt vs k))▸?_;exact ih) r
variable{K:T->Prop}
noncomputable def adg (a b:T) (K:Bool->Prop):Prop:=gd (SeqAt.shaped a.py&&SeqAt.shaped b.py) (K (PyData.eqv a.py b.py))
noncomputable def isD:T->Bool
 | .dct _=>true
 | _=>false
noncomputable def eqD (a b:T):Prop:=
 match a with
 | .dct l=>(match b with
  | .dct l'=>l.length=l'.length/\∀ p∈l,∃ t,abR l' p.1=some t/\adg p.2 t λc=>c=true
  | _=>False)
 | _=>adg a b λc=>c=true
noncomputable def apk:List T->List T->Prop
 | [],[]=>True
 | a ::as,b ::bs=>eqD a b/\apk as bs
 | _,_=>False
noncomputable def eqE (a b:T) (K:Bool->Prop):Prop:=
 match a with
 | .int x=>(match b with
  | .int y=>K (x==y)
  | _=>adg a b K)
 | .tup l=>(match b with
  | .tup l'=>if l.any isD=true then apk l l'/\K true else adg a b K
  | _=>adg a b K)
 | _=>adg a b K
noncomputable def neE (a b:T) (K:Bool->Prop):Prop:=
 match a with
 | .int x=>(match b with
  | .int y=>K (x != y)
  | _=>adg a b λc=>K (!c))
 | _=>adg a b λc=>K (!c)
noncomputable def inE (a b:T) (K:Bool->Prop):Prop:=
 match a with
 | .int x=>(match b with
  | .dct l=>K (abR l x).isSome
  | _=>False)
 | _=>False
noncomputable def isE (a b:T) (K:Bool->Prop):Prop:=
 match a with
 | .bool x=>(match b with
  | .bool y=>K (x==y)
  | _=>False)
 | _=>False
noncomputable def asq (op:CmpOp) (a b:T) (K:Bool->Prop):Prop:=
 match op with
 | .Lt=>adu a b λx y=>K (decide (x<y))
 | .Gt=>adu a b λx y=>K (decide (y<x))
 | .LtE=>adu a b λx y=>K (decide (x<=y))
 | .GtE=>adu a b λx y=>K (decide (y<=x))
 | .Eq=>eqE a b K
 | .NotEq=>neE a b K
 | .Is=>isE a b K
 | .In=>inE a b K
 | .NotIn=>inE a b λc=>K (!c)
 | _=>False
theorem af0{M:Model}{a b:Value}{E:Value->Shared->Prop}{Q:Value->Shared->Prop}(h:wpAny M A (compareOp .In a b) Q E s):wpAny M A (contains b a) (λr s'=>Q (.bool r) s') E s:=λΓ p hΓ=>by
 have:=h Γ p hΓ
 have e:compareOp .In a b=(contains b a >>= λr=>pure (.bool r)):=rfl
 rw [e,Sem.wp_bind'] at this
 exact this
noncomputable def Cm (γ:Gm) (A:Around) (s:Shared) (t:Sem Value) (K:Bool->Prop):Prop:=
 wpAny (model pg γ.w) A t (λv s'=>∃ b,v=.bool b/\K b/\Ext s s') (λ_ _=>False) s
theorem agF{t:Sem Value}{b:Bool}{K:Bool->Prop}(hK:K b) (h:∀ Q:Value->Shared->Prop,Q (.bool b) s->wpAny (model pg γ.w) A t Q (λ_ _=>False) s):Cm γ A s t K:=h _ ⟨b,rfl,hK,.refl s⟩
theorem cm_in{k:Int}{t:Tok}{v:Value}{l:List (Int×T)}{K:Bool->Prop}(r:Rep V s.heap v (.dct l)) (hK:K (abR l k).isSome):Cm γ A s (compareOp .In (.int k t) v) K:=
 acB r λa o kvs e _ hs ho hd rd=>by
  clear r
  subst e
  refine wpAny_in_of (knd:=intKind pg γ.w) (k:=k) (intKind_is _ _ k t) hs (Heap.DictOf.mapOf (Heap.dictOf_iff.mpr ⟨_,ho,aaE hd⟩)) ⟨_,rfl,?_,Ext.tok⟩
  cases q:abR l k with
  | none=>replace hK:=q▸hK;refine ((rd.find k).2 q)▸?_;exact hK
  | some t=>rw [q] at hK;obtain ⟨_,e,_⟩:=(rd.find k).1 t q;refine e▸?_;exact hK
theorem cm_eq{u v:Value}{a b:T}{K:Bool->Prop}(hu:A.units+64<cLine) (ra:Rep V s.heap u a) (rb:Rep V s.heap v b) (ha:SeqAt.shaped a.py=true) (hb:SeqAt.shaped b.py=true) (hK:K (PyData.eqv a.py b.py)) :
  Cm γ A s (compareOp .Eq u v) K:=by
 refine (ra.reads (SeqAt.canLay_of_shaped ha)).elim λas p=>?_
 obtain ⟨bs,q⟩:=rb.reads (SeqAt.canLay_of_shaped hb)
 exact SeqAt.compareEq_shaped p q ha hb hu ⟨_,rfl,hK,.refl s⟩
theorem cm_ne{u v:Value}{a b:T}{K:Bool->Prop}(hu:A.units+64<cLine) (ra:Rep V s.heap u a) (rb:Rep V s.heap v b) (ha:SeqAt.shaped a.py=true) (hb:SeqAt.shaped b.py=true) (hK:K (!PyData.eqv a.py b.py)) :
  Cm γ A s (compareOp .NotEq u v) K:=by
 refine (ra.reads (SeqAt.canLay_of_shaped ha)).elim λas p=>?_
 obtain ⟨bs,q⟩:=rb.reads (SeqAt.canLay_of_shaped hb)
 exact SeqAt.compareNe_shaped p q ha hb hu ⟨_,rfl,hK,.refl s⟩
theorem alb{u v:Value}{a b:T}{K:Bool->Prop}(hu:A.in1.units+64<cLine) (ra:Rep V s.heap u a) (rb:Rep V s.heap v b) (h:adg a b K):∃ c,K c/\SeqAt.EqAt A.in1 s u v c:=by
 have hX:=gd2 h
 have g1:=hX.1
 have g2:=hX.2.1
 have g3:=hX.2.2
 obtain ⟨as,p⟩:=ra.reads (SeqAt.canLay_of_shaped g1)
 obtain ⟨bs,q⟩:=rb.reads (SeqAt.canLay_of_shaped g2)
 exact ⟨_,g3,keq_at p q g1 g2 hu⟩
theorem aqd{A:Around}{kb:List (Int×Value)}{lb:List (Int×T)}(hu:A.in1.units+64<cLine) (rb:RepD V s.heap kb lb) {ka:List (Int×Value)}{la:List (Int×T)}(ra:RepD V s.heap ka la) :
  (∀ p∈la,∃ t,abR lb p.1=some t/\adg p.2 t λc=>c=true)->KeqHits A.in1 s kb ka true:=
 abI (P:=λka la=>(∀ p∈la,∃ t,abR lb p.1=some t/\adg p.2 t λc=>c=true)->KeqHits A.in1 s kb ka true) (λ_=>.nil)
  (λ{k _ _ _ _} r _ ih h=>by
    obtain ⟨t,e,hs⟩:=h _ (.head _)
    refine ((rb.find k).1 t e).elim λy hX1=>hX1.elim λhy ry=>?_
    obtain ⟨c,rfl,hc⟩:=alb hu r ry hs
    exact .hit (e:=true) (b:=true) hy hc (ih λp hp=>h p (.tail _ hp))) ra
theorem anI{a b:T}{G:T->T->Prop}(h:eqD a b) (sh:∀ a b,(adg a b λc=>c=true)->G a b) (kd:∀ l l',l.length=l'.length->(∀ p∈l,∃ t,abR l' p.1=some t/\adg p.2 t λc=>c=true)->G (.dct l) (.dct l')):G a b:=by
 revert h
 cases a with
 | dct l=>cases b with
  | dct l'=>exact λh=>kd l l' h.1 h.2
  | _=>exact False.elim
 | _=>exact sh _ _
theorem asr{A:Around}{u v:Value}{a b:T}(hu:A.units+82<cLine) (ra:Rep V s.heap u a) (rb:Rep V s.heap v b) (h:eqD a b):SeqAt.EqAt A.in1 s u v true:=
 anI (G:=λa b=>Rep V s.heap u a->Rep V s.heap v b->SeqAt.EqAt A.in1 s u v true) h (λa b h ra rb=>let ⟨_,e,hc⟩:=alb (A:=A) (by lia) ra rb h;e▸hc)
  (λl l' hl h ra rb=>acB ra λx o kvs e _ hs ho hd r1=>acB rb λy o' kvs' e' _ hs' ho' hd' r2=>by
    subst e e'
    by_cases hxy:x=y
    . refine hxy▸?_;exact SeqAt.EqAt.same _
    . refine SeqAt.EqAt.of_refs hxy λprog' w' E Q hq=>?_
      refine keq_eq (knd:=intKind prog' w') (r:=true) hs hs' (Heap.dictOf_iff.mpr ⟨_,ho,aaE hd⟩) (Heap.dictOf_iff.mpr ⟨_,ho',aaE hd'⟩) (by lia) (λ_=>aqd (A:=A.in1) (by lia) r2 r1 h) ?_
      refine r1.length▸?_;refine r2.length▸?_;refine hl▸?_;rw [beq_self_eq_true];exact hq) ra rb
theorem alc{A:Around}(hu:A.units+82<cLine):∀ {l l':List T}{vs us:List Value},RepL V s.heap vs l->RepL V s.heap us l'->apk l l'->vs.length=us.length/\∀ j (h1:j<vs.length) (h2:j<us.length),SeqAt.EqAt A.in1 s vs[j] us[j] true:=by
 intro l
 induction l with
 | nil=>
  intro l' vs us a b h
  cases l' with
  | nil=>cases adJ a;cases adJ b;exact ⟨rfl,λj h=>absurd h (Nat.not_lt_zero j)⟩
  | cons=>exact h.elim
 | cons t l ih=>
  intro l' vs us a b h
  cases l' with
  | nil=>exact h.elim
  | cons t' l'=>
   refine acq a λv vs' e r rs=>acq b λu us' e' q qs=>?_
   subst e e'
   exact ⟨congrArg (·+1) (ih rs qs h.2).1,λj=>match j with
    | 0=>λ_ _=>asr hu r q h.1
    | j+1=>λa b=>(ih rs qs h.2).2 j (Nat.lt_of_succ_lt_succ a) (Nat.lt_of_succ_lt_succ b)⟩
theorem aqe{u v:Value}{l l':List T}{K:Bool->Prop}(hu:A.units+82<cLine) (ra:Rep V s.heap u (.tup l)) (rb:Rep V s.heap v (.tup l')) (h:apk l l') (hK:K true):Cm γ A s (compareOp .Eq u v) K:=
 abk ra λx vs e _ ha r1=>abk rb λy us e' _ hb r2=>by
  clear ra
  clear rb
  subst e e'
  refine SeqAt.eq_tupleAt (e:=λ_=>true) ha hb (Nat.lt_of_add_right_lt hu) (λj a b=>(alc (A:=A) hu r1 r2 h).2 j a b) ⟨_,rfl,?_,.refl s⟩
  rw [show (vs.size==us.size)=true from beq_iff_eq.mpr (alc (A:=A) hu r1 r2 h).1,List.all_eq_true.mpr λ_ _=>rfl];exact hK
theorem anJ{a b:T}{K:Bool->Prop}{G:T->T->Prop}(h:eqE a b K) (sh:∀ a b,adg a b K->G a b) (ki:∀ x y,K (x==y)->G (.int x) (.int y)) (kt:∀ l l',apk l l'->K true->G (.tup l) (.tup l')):G a b:=by
 revert h
 cases a with
 | int x=>cases b with
  | int y=>exact ki x y
  | _=>exact sh _ _
 | tup l=>cases b with
  | tup l'=>
   intro h
   by_cases hd:l.any isD=true
   . have h:=(if_pos hd).mp h
     exact kt l l' h.1 h.2
   . exact sh _ _ ((if_neg hd).mp h)
  | _=>exact sh _ _
 | _=>exact sh _ _
theorem anK{a b:T}{K:Bool->Prop}{G:T->T->Prop}(h:neE a b K) (sh:∀ a b,(adg a b λc=>K (!c))->G a b) (ki:∀ x y,K (x != y)->G (.int x) (.int y)):G a b:=by
 revert h
 cases a with
 | int x=>cases b with
  | int y=>exact ki x y
  | _=>exact sh _ _
 | _=>exact sh _ _
theorem anL{a b:T}{K:Bool->Prop}{G:T->T->Prop}(h:isE a b K) (k:∀ x y,K (x==y)->G (.bool x) (.bool y)):G a b:=by
 revert h
 cases a with
 | bool x=>cases b with
  | bool y=>exact k x y
  | _=>exact False.elim
 | _=>exact False.elim
theorem anM{a b:T}{K:Bool->Prop}{G:T->T->Prop}(h:inE a b K) (k:∀ x l,K (abR l x).isSome->G (.int x) (.dct l)):G a b:=by
 revert h
 cases a with
 | int x=>cases b with
  | dct l=>exact k x l
  | _=>exact False.elim
 | _=>exact False.elim
theorem ev_eq{u v:Value}{a b:T}{K:Bool->Prop}(hu:A.units+82<cLine) (ra:Rep V s.heap u a) (rb:Rep V s.heap v b) (h:eqE a b K):Cm γ A s (compareOp .Eq u v) K:=
 anJ (G:=λa b=>Rep V s.heap u a->Rep V s.heap v b->Cm γ A s (compareOp .Eq u v) K) h (λa b h ra rb=>cm_eq (by lia) ra rb (gd2 h).1 (gd2 h).2.1 (gd2 h).2.2)
  (λx y h ra rb=>aao ra λ_ e=>aao rb λ_ e'=>by subst e e';exact agF h λQ q=>eq_int q) (λl l' h hK ra rb=>aqe hu ra rb h hK) ra rb
theorem ev_ne{u v:Value}{a b:T}{K:Bool->Prop}(hu:A.units+82<cLine) (ra:Rep V s.heap u a) (rb:Rep V s.heap v b) (h:neE a b K):Cm γ A s (compareOp .NotEq u v) K:=
 anK (G:=λa b=>Rep V s.heap u a->Rep V s.heap v b->Cm γ A s (compareOp .NotEq u v) K) h (λa b h ra rb=>cm_ne (by lia) ra rb (gd2 h).1 (gd2 h).2.1 (gd2 h).2.2)
  (λx y h ra rb=>aao ra λ_ e=>aao rb λ_ e'=>by subst e e';exact agF h λQ q=>ne_int q) ra rb
theorem agG{op:CmpOp}{u v:Value}{a b:T}{F:Int->Int->Bool}{K:Bool->Prop}(ra:Rep V s.heap u a) (rb:Rep V s.heap v b) (h:adu a b λx y=>K (F x y))
  (rule:∀ x t y t' (Q:Value->Shared->Prop),Q (.bool (F x y)) s->wpAny (model pg γ.w) A (compareOp op (.int x t) (.int y t')) Q (λ_ _=>False) s):Cm γ A s (compareOp op u v) K:=
 aeb (G:=λa b=>Rep V s.heap u a->Rep V s.heap v b->Cm γ A s (compareOp op u v) K) h
  (λx y h ra rb=>aao ra λ_ e=>aao rb λ_ e'=>by subst e e';exact agF h λQ q=>rule _ _ _ _ Q q) ra rb
theorem apl{u v:Value}{a b:T}{K:Bool->Prop}(ra:Rep V s.heap u a) (rb:Rep V s.heap v b) (h:inE a b K):Cm γ A s (compareOp .In u v) K:=
 anM (G:=λa b=>Rep V s.heap u a->Rep V s.heap v b->Cm γ A s (compareOp .In u v) K) h (λx l h ra rb=>aao ra λ_ e=>e▸cm_in rb h) ra rb
theorem ev_is{u v:Value}{a b:T}{K:Bool->Prop}(ra:Rep V s.heap u a) (rb:Rep V s.heap v b) (h:isE a b K):Cm γ A s (compareOp .Is u v) K:=
 anL (G:=λa b=>Rep V s.heap u a->Rep V s.heap v b->Cm γ A s (compareOp .Is u v) K) h (λx y h ra rb=>acp ra λe=>acp rb λe'=>by subst e e';exact agF h λQ q=>is_bool q) ra rb
theorem anN{u v:Value}{a b:T}{K:Bool->Prop}(ra:Rep V s.heap u a) (rb:Rep V s.heap v b) (h:inE a b λc=>K (!c)):Cm γ A s (compareOp .NotIn u v) K:=
 show wpAny _ _ (contains v u >>= λr=>pure (Value.bool (!r))) _ _ _ from
  atY (at1 (af0 (apl (K:=λc=>K (!c)) ra rb h)) (λr s' hZ5=>hZ5.elim λb hZ6=>hZ6.elim λe hZ7=>hZ7.elim λk x=>at3 ⟨!r,rfl,Value.bool.inj e▸k,x⟩) λ_ _ e=>e)
theorem ass{op:CmpOp}{u v:Value}{a b:T}{K:Bool->Prop}(hu:A.units+82<cLine) (ra:Rep V s.heap u a) (rb:Rep V s.heap v b) (h:asq op a b K):Cm γ A s (compareOp op u v) K:=by
 revert h
 cases op with
 | Lt=>exact λh=>agG ra rb h λ_ _ _ _ Q q=>lt_int q
 | Gt=>exact λh=>agG ra rb h λ_ _ _ _ Q q=>gt_int q
 | LtE=>exact λh=>agG ra rb h λ_ _ _ _ Q q=>le_int q
 | GtE=>exact λh=>agG ra rb h λ_ _ _ _ Q q=>ge_int q
 | Eq=>exact ev_eq hu ra rb
 | NotEq=>exact ev_ne hu ra rb
 | Is=>exact ev_is ra rb
 | In=>exact apl ra rb
 | NotIn=>exact anN ra rb
 | _=>exact False.elim
noncomputable def unE (op:UnaryOp) (a:T) (K:T->Prop):Prop:=
 match op with
 | .USub=>(match a with
  | .int x=>K (.int (-x))
  | _=>False)
 | .Invert=>(match a with
  | .int x=>K (.int (Builtin.bitNot x))
  | _=>False)
 | _=>False
theorem anO{op:UnaryOp}{a:T}{G:UnaryOp->T->Prop}(h:unE op a K) (k1:∀ x,K (.int (-x))->G .USub (.int x)) (k2:∀ x,K (.int (Builtin.bitNot x))->G .Invert (.int x)):G op a:=by
 revert h
 cases op with
 | USub=>cases a with
  | int x=>exact k1 x
  | _=>exact False.elim
 | Invert=>cases a with
  | int x=>exact k2 x
  | _=>exact False.elim
 | _=>exact False.elim
theorem ev_un{op:UnaryOp}{u:Value}{a:T}(ra:Rep V s.heap u a) (h:unE op a K):Ev γ A V s (unaryOp op u) K:=
 anO (G:=λop a=>Rep V s.heap u a->Ev γ A V s (unaryOp op u) K) h (λx h ra=>aao ra λ_ e=>e▸af2 h λQ q=>neg_int q) (λx h ra=>aao ra λ_ e=>e▸af2 h λQ q=>invert_int q) ra
noncomputable def ar3 (a:T) (K:Bool->Prop):Prop:=
 match a with
 | .bool b=>K b
 | .int x=>K (x != 0)
 | .lst l=>szl l.length (K (!l.isEmpty))
 | _=>False
theorem ald{a:T}{K:Bool->Prop}{G:T->Prop}(h:ar3 a K) (kb:∀ b,K b->G (.bool b)) (ki:∀ x,K (x != 0)->G (.int x)) (kl:∀ l,l.length<=10000->K (!l.isEmpty)->G (.lst l)):G a:=by
 revert h
 cases a with
 | bool b=>exact kb b
 | int x=>exact ki x
 | lst l=>exact λh=>kl l (aco h).1 (aco h).2
 | _=>exact False.elim
theorem anP{vs:Array Value}{l:List T}(e:vs.size=l.length):vs.isEmpty=l.isEmpty:=by
 unfold Array.isEmpty
 refine e▸?_
 clear e
 cases l <;> rfl
theorem apm{u:Value}{a:T}{K:Bool->Prop}(ra:Rep V s.heap u a) (h:ar3 a K):EvB γ A s (truthy u) K:=
 ald (G:=λa=>Rep V s.heap u a->EvB γ A s (truthy u) K) h (λb h ra=>acp ra λe=>e▸wpAny_truthy_bool ⟨h,.refl s⟩) (λx h ra=>aao ra λ_ e=>e▸P.truthy_int ⟨h,.refl s⟩)
  (λl hl h ra=>aa3 ra λa vs e _ ha r=>have q:=aac r;e▸wpAny_truthy_list ha.isList (by refine q▸?_;exact ace hl (by decide)) ⟨anP q▸h,Ext.tok⟩) ra
end
section
variable{K:T->Prop}
noncomputable def adh (l:List T) (k:Int):Option T:=(seqIndex? k l.length).bind λj=>l[j]?
noncomputable def apn (k:Int):Bool:=Nat.blt k.natAbs 9223372036854775808
theorem ast{k:Int}(h:apn k=true):-(2^63)<=k/\k<2^63:=by
 exact asi (n:=2^63) (at2 h)
noncomputable def ixE (l:List T) (i:T) (K:T->Prop):Prop:=
 match i with
 | .int k=>gd (apn k) (opt (adh l k) K)
 | _=>False
noncomputable def asu (a i:T) (K:T->Prop):Prop:=
 match a with
 | .lst l=>ixE l i K
 | .tup l=>ixE l i K
 | .dct l=>(match i with
  | .int k=>opt (abR l k) K
  | _=>False)
 | _=>False
theorem ale{l:List T}{k:Int}{t:T}(h:adh l k=some t):∃ j,seqIndex? k l.length=some j/\l[j]?=some t:=Option.bind_eq_some_iff.mp h
theorem acO{k:Int}{n j:Nat}(h0:0<=k) (h:seqIndex? k n=some j):j=k.toNat:=by
 unfold seqIndex? at h
 simp only [show ¬ k<0 by exact Int.not_lt_of_ge h0,if_false] at h
 split at h
 . exact (Option.some.inj h).symm
 . exact nos h
theorem ajg{l:List T}{i:T}{G:T->Prop}(h:ixE l i K) (k:∀ k t j,(-(2^63)<=k/\k<2^63)->seqIndex? k l.length=some j->l[j]?=some t->K t->G (.int k)):G i:=by
 revert h
 cases i with
 | int n=>exact λh=>ap9 (gd_ h).2 λt e hK=>(ale e).elim λj hX1=>hX1.elim λe1 e2=>k n t j (ast (gd_ h).1) e1 e2 hK
 | _=>exact False.elim
theorem alf{a i:T}{G:T->T->Prop}(h:asu a i K) (kl:∀ l,ixE l i K->G (.lst l) i) (kt:∀ l,ixE l i K->G (.tup l) i) (kd:∀ l k t,abR l k=some t->K t->G (.dct l) (.int k)):G a i:=by
 revert h
 cases a with
 | lst l=>exact kl l
 | tup l=>exact kt l
 | dct l=>cases i with
  | int k=>exact λh=>ap9 h λt=>kd l k t
  | _=>exact False.elim
 | _=>exact False.elim
theorem aic{b:Addr}{vs:Array Value}{l:List T}{k:Int}{u:Tok}{t:T}{j:Nat}(ha:s.heap.PlainList b vs) (r:RepL V s.heap vs.toList l) (h:-(2^63)<=k/\k<2^63) (e1:seqIndex? k l.length=some j) (e2:l[j]?=some t) (hK:K t):Ev γ A V s (getItem (.ref b) (.int k u)) K:=by
 refine (r.get' e2).elim λx hX1=>hX1.elim λex rx=>?_
 rw [Array.getElem?_toList] at ex
 by_cases h0:0<=k
 . exact adl (tk:=s.toks) (rx.ext (.refl s) λa h=>.inl h) hK λQ q=>wpAny_getItem_list ha.isList h0 h.2 (acO h0 e1▸ex) q
 . exact adl (tk:=s.toks) (rx.ext (.refl s) λa h=>.inl h) hK λQ q=>kde_getNeg (vs:=vs.toList) ha.isList (Int.not_le.mp h0) h.1 (r.length▸e1) ((Array.getElem?_toList).trans (ex)) q
theorem aid{b:Addr}{vs:Array Value}{l:List T}{k:Int}{u:Tok}{t:T}{j:Nat}(ha:s.heap.IsTuple b vs) (r:RepL V s.heap vs.toList l) (h:-(2^63)<=k/\k<2^63) (e1:seqIndex? k l.length=some j) (e2:l[j]?=some t) (hK:K t):Ev γ A V s (getItem (.ref b) (.int k u)) K:=by
 refine (r.get' e2).elim λx hX1=>hX1.elim λex rx=>?_
 replace ex:=(Array.getElem?_toList)▸ex
 exact adl (tk:=s.toks) (rx.ext (.refl s) λa h=>.inl h) hK λQ q=>PyProof.Rows.getItem_tuple ha h.1 h.2 (aac r▸e1) ex q
noncomputable def typeNm:T->String
 | .lst _=>"list"
 | .tup _=>"tuple"
 | .dct _=>"dict"
 | _=>""
noncomputable def agH:Expr->Bool
 | .Slice ..=>false
 | _=>true
theorem abt{slice:Expr}(h:agH slice=true) (o i:Value):subscripted slice false o i=operate [o,i] (getItem o i):=by
 revert h
 cases slice with
 | Slice=>exact ff
 | _=>exact λ_=>rfl
theorem asv{value slice:Expr}(hs:agH slice=true) {u v:Value}{a i:T}(ra:Rep V s.heap u a) (ri:Rep V s.heap v i) (h:asu a i K):Ev γ A V s (subscriptTail value slice u v) K:=
 alf (G:=λa i=>Rep V s.heap u a->Rep V s.heap v i->Ev γ A V s (subscriptTail value slice u v) K) h
  (λl h ra ri=>aa3 ra λb vs e _ ha r=>ajg (G:=λi=>Rep V s.heap v i->Ev γ A V s (subscriptTail value slice u v) K) h
    (λk t j hk e1 e2 hK ri=>aao ri λ_ e'=>by subst e e';exact tail_any ha.isList.typeIs slot_list_getitem.lookup (aic ha r hk e1 e2 hK) (abt hs _ _)) ri)
  (λl h ra ri=>abk ra λb vs e _ ha r=>ajg (G:=λi=>Rep V s.heap v i->Ev γ A V s (subscriptTail value slice u v) K) h
    (λk t j hk e1 e2 hK ri=>aao ri λ_ e'=>by subst e e';exact tail_any (PyProof.Rows.IsTup.typeIs ha) slot_tuple_getitem.lookup (aid ha r hk e1 e2 hK) (abt hs _ _)) ri)
  (λl k t q hK ra ri=>acB ra λb o kvs e _ hs' ho hd r=>aao ri λn e'=>by
    subst e e'
    have hm:=Heap.DictOf.mapOf (knd:=intKind pg γ.w) (Heap.dictOf_iff.mpr ⟨_,ho,aaE hd⟩)
    refine ((r.find k).1 t q).elim λx hX1=>hX1.elim λex rx=>?_
    exact tail_any hm.typeIs slot_dict_getitem.lookup (adl (tk:=s.toks+1) (rx.ext (.refl s) λa h=>.inl h) hK λQ q=>wpAny_getItem_of (knd:=intKind pg γ.w) (k:=k) (intKind_is _ _ k n) hm ex q) (abt hs _ _)) ra ri
noncomputable def ae9:T->Option (Option Int)
 | .none=>some none
 | .int i=>some (some i)
 | _=>none
noncomputable def aeG (l:List T) (lo hi st:Option Int):List T:=
 (sliceRange (sliceBounds lo hi st l.length).1 (sliceBounds lo hi st l.length).2.1 (sliceBounds lo hi st l.length).2.2).filterMap (l[·]?)
noncomputable def asw (lo hi st:Option Int):Option {n:Nat // lo=none/\st=none/\hi=some (n:Int)}:=
 match lo,st,hi with
 | none,none,some (.ofNat n)=>some ⟨n,rfl,rfl,rfl⟩
 | _,_,_=>none
noncomputable def aqf (a:T) (lo hi st:Option Int) (K:T->Prop):Prop:=
 match a with
 | .lst l=>szl l.length (gd (st != some 0) (K (.lst (aeG l lo hi st))))
 | .tup l=>szl l.length (opt (asw lo hi st) λn=>gd (Nat.blt n.1 l.length) (K (.tup (l.take n.1))))
 | _=>False
noncomputable def ajh (a lo hi st:T) (K:T->Prop):Prop:=
 opt (ae9 lo) λlo=>opt (ae9 hi) λhi=>opt (ae9 st) λst=>aqf a lo hi st K
theorem asx{a lo hi st:T}(h:ajh a lo hi st K):∃ l u k,ae9 lo=some l/\ae9 hi=some u/\ae9 st=some k/\aqf a l u k K:=by
 refine (ak2 h).elim λl hX1=>hX1.elim λh1 h=>?_
 refine (ak2 h).elim λu hX1=>hX1.elim λh2 h=>?_
 refine (ak2 h).elim λk hX1=>hX1.elim λh3 h=>?_
 exact ⟨l,u,k,h1,h2,h3,h⟩
theorem alg (n m:Nat) (h:n<=m):Builtin.Slice.sliceAdjust none (some (n:Int)) 1 (m:Int)=(0,(n:Int)):=by
 unfold Builtin.Slice.sliceAdjust
 congr 1
 lia
theorem alh (n:Nat):Builtin.Slice.slicePlaces 0 (n:Int) 1=n:=by
 unfold Builtin.Slice.slicePlaces
 have h1:(1:Int) > 0:=by lia
 simp only [h1,if_true,Int.ediv_one]
 split <;> lia
theorem afa{sl:Addr}{n m:Nat}{vl vk:Value}{u:Tok}{Q:Int×Int×Nat->Shared->Prop}{E:Value->Shared->Prop}(hs:s.heap.IsSliceOf sl .none (.int n u) .none) (ha:n<=m) (h:Q (0,1,n) s) :
  wpAny (model pg γ.w) A (Builtin.Slice.sliceApplied (.ref sl) (pure (m:Int))) Q E s:=by
 refine (id hs).elim λos hX1=>hX1.elim λhos hX2=>hX2.elim λhcs hds=>?_
 refine atY (atY (auo hos hds (x:=.none) rfl (atY (auo hos hds (x:=.int n u) rfl (atY (auo hos hds (x:=.none) rfl (at3 ?_)))))))
 refine atY (slicePart_none ?_)
 refine atY (slicePart_none (atY (slicePart_int (atY (at3 ?_)))))
 refine (alg n m ha)▸?_
 show wpAny _ _ (pure ((0:Int),(1:Int),Builtin.Slice.slicePlaces 0 (n:Int) 1)) _ _ s
 refine (alh n).symm▸?_
 exact at3 h
theorem aqg (xs:Array Value) (n:Nat):((List.range n).filterMap λ(k:Nat)=>xs[((0:Int)+(k:Int)*1).toNat]?)=xs.toList.take n:=by
 have e:(λ(k:Nat)=>xs[((0:Int)+(k:Int)*1).toNat]?)=λk=>xs[0+k]?:=by
  funext k
  have:((0:Int)+(k:Int)*1).toNat=0+k:=by lia
  exact this.symm▸rfl
 refine e▸?_
 have:=pick_run xs 0 n
 rw [List.filterMap_map] at this
 exact this
theorem aeH{t sl:Addr}{items:Array Value}{n:Nat}{u:Tok}{Q:Value->Shared->Prop}{E:Value->Shared->Prop}(ht:PyProof.Rows.IsTup s.heap t items) (hs:s.heap.IsSliceOf sl .none (.int n u) .none) (hn:n<items.size)
  (h:∀ vs,vs.toList=items.toList.take n->Q (.ref s.heap.objs.size) { s with heap:=s.heap.push { cls:=.type "tuple",data:=.seq vs } }) (hsz:items.size<=sizeLine):wpAny (model pg γ.w) A (getItem (.ref t) (.ref sl)) Q E s:=by
 have hdrop:sizeOk (.seq (items.toList.take n).toArray):=by
  show (items.toList.take n).toArray.size<=sizeLine
  rw [List.size_toArray,List.length_take,Array.length_toList]
  exact at0 (Nat.min_le_right _ _) hsz
 refine (id hs).elim λos hX1=>hX1.elim λhos hX2=>hX2.elim λhcs hds=>?_
 unfold getItem
 try with_reducible refine aud ?_
 first | refine atY (at3 ?_) | skip
 refine atY (wpAny_sequenceKey ht.typeIs (rfl) ?_)
 refine atY (auC (name:=Str.ofString "__getitem__") ht.typeIs slot_tuple_getitem
  (auO slot_tuple_getitem ht.typeIs entry_tuple_getitem ?_ (args_tuple_getitem _ _)))
 show wpAny _ _ (Builtin.Tuple.tupleItemsOf (.ref t) >>= _) _ _ s
 refine atY (tupleItemsOf_ ht ?_)
 refine atY (wpAny_typeOf (⟨os,hos,hcs⟩) ?_)
 refine atY (afa (vl:=.none) (vk:=.none) hs (aug hn) ?_)
 have hno:¬ (((0:Int)==0&&(1:Int)==1&&n==items.size)=true):=by
  have:(n==items.size)=false:=by rw [beq_eq_false_iff_ne];lia
  refine this▸?_;simp
 show wpAny _ _ (if ((0:Int)==0&&(1:Int)==1&&n==items.size)=true then _ else _) _ _ s
 rw [if_neg hno,aqg items n]
 have h:=h (items.toList.take n).toArray (rfl)
 first
  | exact atY (m:=Builtin.Tuple.tupleExact _) (auD (at3 ⟨_,rfl,at3 h⟩) hdrop)
  | exact atY (m:=Builtin.Tuple.tupleExact _) (auD (atY (at3 (at3 ⟨_,rfl,at3 h⟩))) hdrop)
  | exact atY (atY (m:=Builtin.Tuple.tupleExact _) (auD (at3 (at3 ⟨_,rfl,at3 h⟩)) hdrop))
  | exact atY (atY (m:=Builtin.Tuple.tupleExact _) (auD (at3 ⟨_,rfl,at3 h⟩) hdrop))
theorem afb{v:Value}{t:T}{o:Option Int}(r:Rep V s.heap v t) (h:ae9 t=some o):IsPart v o:=by
 revert h
 cases r with
 | none=>exact λh=>soi h▸.none
 | int i t=>exact λh=>soi h▸.int i t
 | _=>exact nos
theorem RepL.places{h:Heap}{vs:List Value}{ts:List T}(r:RepL V h vs ts):∀ l:List Nat,RepL V h (l.filterMap (vs[·]?)) (l.filterMap (ts[·]?))
 | []=>.nil
 | i ::l=>by
  cases q:vs[i]? with
  | none=>
   have q':ts[i]?=none:=by
    cases q':ts[i]? with
    | none=>rfl
    | some t=>obtain ⟨v,e,_⟩:=r.get' q';replace e:=q▸e;exact nos e
   rw [List.filterMap_cons_none q,List.filterMap_cons_none q'];exact r.places l
  | some v=>
   refine (r.get q).elim λt hX1=>hX1.elim λq' x=>?_
   rw [List.filterMap_cons_some q,List.filterMap_cons_some q'];exact .cons x (r.places l)
noncomputable def ah7:Expr->Bool
 | .Name ..=>true
 | _=>false
noncomputable def asy:Expr->Bool
 | .Slice ..=>true
 | _=>false
theorem nmK{e:Expr}{G:Expr->Prop}(h:ah7 e=true) (k:∀ x p,G (.Name x p)):G e:=by
 revert h
 cases e with
 | Name x p=>exact λ_=>k x p
 | _=>exact ff
theorem slK{e:Expr}{G:Expr->Prop}(h:asy e=true) (k:∀ a b c p,G (.Slice a b c p)):G e:=by
 revert h
 cases e with
 | Slice a b c p=>exact λ_=>k a b c p
 | _=>exact ff
theorem aie{value:Expr}(h:ah7 value=true) (o r:Value):letTemporaryGo value o r=pure ():=nmK (G:=λe=>letTemporaryGo e o r=pure ()) h λ_ _=>rfl
theorem ahn{slice:Expr}(h:asy slice=true) (o i:Value):∃ ops,subscripted slice false o i=operate ops (getItem o i):=
 slK (G:=λe=>∃ ops,subscripted e false o i=operate ops (getItem o i)) h λ_ _ c _=>by cases c <;> exact ⟨_,rfl⟩
theorem aj0{value slice:Expr}(hv:ah7 value=true) (hs:asy slice=true) {vl vu vk:Value}{b:Addr}{vs:Array Value}{lo hi st:Option Int}{Q:Value->Shared->Prop}{E:Value->Shared->Prop}(ha:s.heap.IsList b vs) (hz:vs.size<=10000)
  (pl:IsPart vl lo) (pu:IsPart vu hi) (pk:IsPart vk st) (h0:st≠some 0) (k:∀ a s',(s.heap.get? a=none)->Ext s s'->s'.heap.PlainList a (slicePick vs lo hi st)->Q (.ref a) s') :
  wpAny (model pg γ.w) A (newFields "slice" [vl,vu,vk]) (λi s'=>wpAny (model pg γ.w) A (subscriptTail value slice (.ref b) i) Q E s') E s:=by
 refine auD ?_ (by size_fits)
 refine (ahn hs (.ref b) (.ref s.heap.objs.size)).elim λops e=>?_
 have x:Ext s { s with heap:=s.heap.push { cls:=.type "slice",data:=.fields [vl,vu,vk].toArray } }:=Ext.push (tk:=s.toks)
 exact subscriptTail_ops (Heap.IsList.typeIs (s:={ s with heap:=s.heap.push { cls:=.type "slice",data:=.fields [vl,vu,vk].toArray } }) (ha.push _)) list_getitem_lookup
  (wpAny_getItem_list_slice (ha.push _) (Heap.IsSliceOf.new ..) pl pu pk h0 (k _ _ (x.there _ id (at6 (auf _))) (x.trans (Ext.push (tk:=s.toks))) ⟨_,at4 _ rfl⟩) (aaf hz)) e (aie hv _)
theorem ali{value slice:Expr}(hv:ah7 value=true) (hs:asy slice=true) {b:Addr}{vs:Array Value}{n:Nat}{u:Tok}{Q:Value->Shared->Prop}{E:Value->Shared->Prop}(ha:s.heap.IsTuple b vs) (hz:vs.size<=10000) (hn:n<vs.size)
  (k:∀ a s' ws,(s.heap.get? a=none)->Ext s s'->s'.heap.IsTuple a ws->ws.toList=vs.toList.take n->Q (.ref a) s') :
  wpAny (model pg γ.w) A (newFields "slice" [.none,.int n u,.none]) (λi s'=>wpAny (model pg γ.w) A (subscriptTail value slice (.ref b) i) Q E s') E s:=by
 refine auD ?_ (by size_fits)
 refine (ahn hs (.ref b) (.ref s.heap.objs.size)).elim λops e=>?_
 have x:Ext s { s with heap:=s.heap.push { cls:=.type "slice",data:=.fields #[.none,.int n u,.none] } }:=Ext.push (tk:=s.toks)
 have ha':PyProof.Rows.IsTup (s.heap.push { cls:=.type "slice",data:=.fields #[.none,.int n u,.none] }) b vs:=PyProof.Rows.IsTup.keeps ha λ_ _ e=>atZ _ e
 exact subscriptTail_ops (PyProof.Rows.IsTup.typeIs (s:={ s with heap:=s.heap.push { cls:=.type "slice",data:=.fields #[.none,.int n u,.none] } }) ha') slot_tuple_getitem.lookup
  (aeH ha' (Heap.IsSliceOf.new ..) hn (λws hw=>k _ _ _ (x.there _ id (at6 (auf _))) (x.trans (Ext.push (tk:=s.toks))) ⟨_,at4 _ rfl,rfl,_,rfl⟩ hw) (aaf hz)) e (aie hv _)
theorem aif (vs:Array Value) {n:Nat}(e:vs.toList.length=n) (lo hi st:Option Int):(slicePick vs lo hi st).toList=(sliceRange (sliceBounds lo hi st n).1 (sliceBounds lo hi st n).2.1 (sliceBounds lo hi st n).2.2).filterMap (vs.toList[·]?):=by
 subst e;simp [slicePick]
theorem aj1{a:T}{lo hi st:Option Int}{G:T->Prop}(h:aqf a lo hi st K) (kl:∀ l,l.length<=10000->st≠some 0->K (.lst (aeG l lo hi st))->G (.lst l))
  (kt:∀ l (n:Nat),l.length<=10000->lo=none->hi=some (n:Int)->st=none->n<l.length->K (.tup (l.take n))->G (.tup l)):G a:=by
 revert h
 cases a with
 | lst l=>exact λh=>kl l (aco h).1 (bne_iff_ne.mp (gd_ (aco h).2).1) (gd_ (aco h).2).2
 | tup l=>exact λh=>ap9 (aco h).2 λ⟨n,q⟩ _ hK=>kt l n (aco h).1 q.1 q.2.2 q.2.1 (at2 (gd_ hK).1) (gd_ hK).2
 | _=>exact False.elim
theorem anQ{value slice:Expr}(hv:ah7 value=true) (hs:asy slice=true) {u vl vu vk:Value}{a lo hi st:T}(ra:Rep V s.heap u a) (rl:Rep V s.heap vl lo) (ru:Rep V s.heap vu hi) (rk:Rep V s.heap vk st)
  (h:ajh a lo hi st K):wpAny (model pg γ.w) A (newFields "slice" [vl,vu,vk]) (λi s'=>wpAny (model pg γ.w) A (subscriptTail value slice u i) (EvR V s K) (λ_ _=>False) s') (λ_ _=>False) s:=by
 refine ap9 h λlo' h1 h=>ap9 h λhi' h2 h=>ap9 h λst' h3 h=>?_
 have pl:=afb rl h1
 have pu:=afb ru h2
 have pk:=afb rk h3
 refine aj1 (G:=λa=>Rep V s.heap u a->wpAny (model pg γ.w) A (newFields "slice" [vl,vu,vk]) (λi s'=>wpAny (model pg γ.w) A (subscriptTail value slice u i) (EvR V s K) (λ_ _=>False) s') (λ_ _=>False) s) h
  (λl hn h0 hK ra=>aa3 ra λb vs e _ ha r=>?_) (λl n hn q1 q2 q3 hn' hK ra=>abk ra λb vs e _ ha r=>?_) ra
 . have el:=aac r
   clear ra
   clear ra
   subst e
   exact aj0 hv hs ha.isList (el▸hn) pl pu pk h0 λa s' e x hw=>⟨_,hK,x,.lst (.inr e) hw (aif vs r.length _ _ _▸RepL.places (r.ext x λa h=>.inl h) _)⟩
 . have el:=aac r
   clear h1
   clear h3
   clear ra
   clear rk
   clear rl
   clear ru
   subst e q1 q2 q3
   cases pl;cases pu;cases pk
   exact ali hv hs ha (el▸hn) (el▸hn') λa s' ws e x hw e'=>⟨_,hK,x,.tup (.inr e) hw (e'▸(r.ext x λa h=>.inl h).take n)⟩
end
noncomputable abbrev aab:=List (Str×T)
variable{it:Bool}{r:Nat}{A:Around}{X P a9:aag}{a6:Shared}{env:Env}{fz:List (Str×Addr)}{E:Value->Shared->Prop}{n:Nat}{ow:Str->Bool}{V:aag}{ad:Str->Addr}{s:Shared}{ρ ω:aab}{s':Shared}{ad':Str->Addr}{s'':Shared}{aG:Str->Addr}{a8 sst:Shared}{m:Nat}{V' Z N az:aag}{γ:Gm}{af au aS aJ:aab}
noncomputable abbrev aad:=List (Str×NameKind)
variable{it:Bool}{r:Nat}{A:Around}{X P a9:aag}{a6:Shared}{env:Env}{sc:aad}{fz:List (Str×Addr)}{E:Value->Shared->Prop}{n:Nat}{ow:Str->Bool}{V:aag}{ad:Str->Addr}{s:Shared}{ρ ω:aab}{s':Shared}{ad':Str->Addr}{s'':Shared}{aG:Str->Addr}{a8 sst:Shared}{m:Nat}{V' Z N az:aag}{γ:Gm}{af au aS aJ:aab}
noncomputable abbrev EvF:=aad->Expr->aab->(T->Prop)->Prop
variable{it:Bool}{r:Nat}{A:Around}{X P a9:aag}{a6:Shared}{env:Env}{sc:aad}{fz:List (Str×Addr)}{E:Value->Shared->Prop}{ev:EvF}{n:Nat}{ow:Str->Bool}{V:aag}{ad:Str->Addr}{s:Shared}{ρ ω:aab}{s':Shared}{ad':Str->Addr}{s'':Shared}{aG:Str->Addr}{a8 sst:Shared}{m:Nat}{V' Z N az:aag}{γ:Gm}{af au aS aJ:aab}
structure Sg where
 fn:Str->Option (List T->(T->Prop)->Prop)
 con:Str->Option Int
 mt:Str->Option (List T->(T->Prop)->Prop)
 hk:Expr->Option (aad->aab->(T->Prop)->Prop)
variable{it:Bool}{r:Nat}{A:Around}{X P a9:aag}{a6:Shared}{env:Env}{sc:aad}{fz:List (Str×Addr)}{E:Value->Shared->Prop}{ev:EvF}{S:Sg}{n:Nat}{ow:Str->Bool}{V:aag}{ad:Str->Addr}{s:Shared}{ρ ω:aab}{s':Shared}{ad':Str->Addr}{s'':Shared}{aG:Str->Addr}{a8 sst:Shared}{m:Nat}{V' Z N az:aag}{γ:Gm}{af au aS aJ:aab}
noncomputable def aaW (sc:aad) (x:Str):Bool:=sc.lookup x==some .globalImplicit
noncomputable def abW (sc:aad) (x:Str):Bool:=sc.lookup x==some .local || sc.lookup x==some .cell
noncomputable def aai:Expr->Bool
 | .Starred .. | .Set ..=>false
 | _=>true
noncomputable def aae (es:List Expr):Bool:=es.all aai
noncomputable def ahe (ev:Expr->(T->Prop)->Prop):List Expr->(List T->Prop)->Prop
 | [],K=>K []
 | e ::es,K=>ev e λt=>ahe ev es λts=>K (t ::ts)
noncomputable def adn (ev:Expr->(T->Prop)->Prop) (left:T):List CmpOp->List Expr->(Bool->Prop)->Prop
 | [op],[r],K=>ev r λb=>asq op left b K
 | op ::ops,r ::rs,K=>ev r λb=>asq op left b λc=>br c (adn ev b ops rs K) (K false)
 | _,_,_=>False
noncomputable def anR (op:BoolOp) (b:Bool) (P Q:Prop):Prop:=
 match op with
 | .And=>br b P Q
 | .Or=>br b Q P
theorem ar4{op:BoolOp}{b:Bool}{P Q:Prop}{G:BoolOp->Bool->Prop}(h:anR op b P Q) (k1:P->G .And true) (k2:Q->G .And false) (k3:Q->G .Or true) (k4:P->G .Or false):G op b:=by
 revert h
 cases op <;> cases b
 . exact k2
 . exact k1
 . exact k4
 . exact k3
noncomputable def allF (te:Expr->(Bool->Prop)->Prop) (op:BoolOp):List Expr->(Bool->Prop)->Prop
 | [],K=>K (op==.And)
 | x ::rest,K=>te x λb=>anR op b (allF te op rest K) (K b)
noncomputable def abq (ev:Expr->(T->Prop)->Prop):Nat->Expr->(Bool->Prop)->Prop
 | 0,_,_=>False
 | n+1,e,K=>match e with
  | .UnaryOp .Not x _=>abq ev n x λb=>K (!b)
  | .BoolOp op vs _=>allF (abq ev n) op vs K
  | .IfExp ..=>False
  | .Compare l ops cs _=>gd (aae cs&&ops.length==cs.length) (ev l λa=>adn ev a ops cs K)
  | e=>ev e λt=>ar3 t K
theorem aj2{ev:Expr->(T->Prop)->Prop}{n:Nat}{e:Expr}{K:Bool->Prop}{G:Expr->Prop}(h:abq ev (n+1) e K) (kn:∀ x p,abq ev n x (λb=>K (!b))->G (.UnaryOp .Not x p)) (kb:∀ op vs p,allF (abq ev n) op vs K->G (.BoolOp op vs p))
  (kc:∀ l ops cs p,gd (aae cs&&ops.length==cs.length) (ev l λa=>adn ev a ops cs K)->G (.Compare l ops cs p)) (kp:∀ e,(ev e λt=>ar3 t K)->(∀ env t,isTrue e env t=(do let v <- t;standAt e.pos;holding [v] (truthy v)))->G e):G e:=by
 revert h
 cases e with
 | UnaryOp op x p=>cases op with
  | Not=>exact kn x p
  | _=>exact λh=>kp _ h λ_ _=>rfl
 | BoolOp op vs p=>exact kb op vs p
 | IfExp=>exact False.elim
 | Compare l ops cs p=>exact kc l ops cs p
 | _=>exact λh=>kp _ h λ_ _=>rfl
noncomputable def aj3 (ev:Expr->(T->Prop)->Prop) (op:BoolOp):List Expr->(T->Prop)->Prop
 | [],_=>False
 | [x],K=>ev x K
 | x ::rest,K=>ev x λa=>ar3 a λb=>anR op b (aj3 ev op rest K) (K a)
noncomputable def aqh (ev:Expr->(T->Prop)->Prop):Option Expr->(T->Prop)->Prop
 | none,K=>K .none
 | some e,K=>ev e K
noncomputable def alj (c:Const) (K:T->Prop):Prop:=
 match c with
 | .none=>K .none
 | .bool b=>K (.bool b)
 | .int i=>K (.int i)
 | .str x=>K (.str x)
 | _=>False
noncomputable def ab7 (a:T) (m:Str):Option Value:=
 match a with
 | .lst _=>if m==("index":Str) then some (.builtin "list.index") else none
 | .int _=>if m==("bit_length":Str) then some (.builtin "int.bit_length") else none
 | .cmp _=>if m==("compare":Str) then some (.ref 35) else none
 | _=>none
theorem abL{a:T}{m:Str}{f:Value}{G:T->Str->Value->Prop}(h:ab7 a m=some f) (kl:∀ l,G (.lst l) "index" (.builtin "list.index")) (ki:∀ i,G (.int i) "bit_length" (.builtin "int.bit_length")) (kc:∀ k,G (.cmp k) "compare" (.ref 35)):G a m f:=by
 revert h
 cases a with
 | lst l=>exact λh=>eq_of_beq (ifs h).1▸soi (ifs h).2▸kl l
 | int i=>exact λh=>eq_of_beq (ifs h).1▸soi (ifs h).2▸ki i
 | cmp k=>exact λh=>eq_of_beq (ifs h).1▸soi (ifs h).2▸kc k
 | _=>exact nos
noncomputable def acP:Expr->Bool
 | .Call ..=>false
 | _=>true
noncomputable def acr:List Expr->List T->aad->aab->Option aab
 | [],[],_,ρ=>some ρ
 | .Name x _ ::es,t ::ts,sc,ρ=>if abW sc x&&(ρ.lookup x).isNone then acr es ts sc ((x,t) ::ρ) else none
 | _,_,_,_=>none
noncomputable def agI (target:Expr) (t:T) (sc:aad) (ρ:aab):Option aab:=
 match target,t with
 | .Name x _,t=>if abW sc x&&(ρ.lookup x).isNone then some ((x,t) ::ρ) else none
 | .Tuple es _ _,.tup ts=>acr es ts sc ρ
 | _,_=>none
noncomputable def aex (te:Expr->(Bool->Prop)->Prop):List Expr->(Bool->Prop)->Prop
 | [],K=>K true
 | c ::cs,K=>te c λb=>br b (aex te cs K) (K false)
noncomputable def ab8 (a b:Int):List T:=(List.range (b-a).toNat).map λ(i:Nat)=>T.int (a+(i:Int))
noncomputable def alk (t:T) (K:List T->Prop):Prop:=
 match t with
 | .lst l=>szl l.length (K l)
 | .tup l=>szl l.length (K l)
 | .dct l=>szl l.length (K (l.map λp=>.int p.1))
 | _=>False
noncomputable def apo (t:T) (K:List T->Prop):Prop:=
 match t with
 | .lst l=>szl l.length (K l)
 | .tup l=>szl l.length (K l)
 | _=>False
inductive Src where
 | plain (e:Expr)
 | range1 (b:Expr)
 | range2 (a b:Expr)
 | zip (a b:Expr)
 | enum (a:Expr)
 | items (o:Expr)
noncomputable def aqi (sc:aad) (e:Expr):Src:=
 match e with
 | .Call (.Name f _) [a] [] _=>if aaW sc f&&aai a then (if f==("range":Str) then .range1 a else if f==("enumerate":Str) then .enum a else .plain e) else .plain e
 | .Call (.Name f _) [a,b] [] _=>if aaW sc f&&aai a&&aai b then (if f==("range":Str) then .range2 a b else if f==("zip":Str) then .zip a b else .plain e) else .plain e
 | .Call (.Attribute o m ap) [] [] p=>if m==("items":Str)&&ap.endLine==p.line&&acP o then .items o else .plain e
 | _=>.plain e
noncomputable def akS:List T->List T->List T
 | a ::as,b ::bs=>.tup [a,b] ::akS as bs
 | _,_=>[]
noncomputable def aig:Nat->List T->List T
 | _,[]=>[]
 | n,a ::as=>.tup [.int n,a] ::aig (n+1) as
noncomputable def aih:Expr->Bool
 | .Tuple ..=>true
 | _=>false
theorem tupK{e:Expr}{G:Expr->Prop}(h:aih e=true) (k:∀ es n p,G (.Tuple es n p)):G e:=by
 revert h
 cases e with
 | Tuple a b p=>exact λ_=>k a b p
 | _=>exact ff
theorem ifK{α:Type}{b:Bool}{x y:α}{G:α->Prop}(k1:b=true->G x) (k2:G y):G (if b=true then x else y):=by
 cases b with
 | true=>exact k1 rfl
 | false=>exact k2
theorem aj4{sc:aad}{G:Expr->Src->Prop}(e:Expr) (kp:∀ e,G e (.plain e)) (k1:∀ p q a,aaW sc "range"=true->aai a=true->G (.Call (.Name "range" p) [a] [] q) (.range1 a))
  (ke:∀ p q a,aaW sc "enumerate"=true->aai a=true->G (.Call (.Name "enumerate" p) [a] [] q) (.enum a)) (k2:∀ p q a b,aaW sc "range"=true->aai a=true->aai b=true->G (.Call (.Name "range" p) [a,b] [] q) (.range2 a b))
  (kz:∀ p q a b,aaW sc "zip"=true->aai a=true->aai b=true->G (.Call (.Name "zip" p) [a,b] [] q) (.zip a b)) (ki:∀ o ap p,(ap.endLine==p.line)=true->acP o=true->G (.Call (.Attribute o "items" ap) [] [] p) (.items o)):G e (aqi sc e):=by
 cases e with
 | Call g as ks p=>
  cases g with
  | Name f q=>
   cases as with
   | nil=>exact kp _
   | cons a r=>
    cases r with
    | nil=>
     cases ks with
     | nil=>
      refine ifK (G:=G _) (λh=>?_) (kp _)
      have h:=Bool.and_eq_true_iff.mp h
      refine ifK (G:=G _) (λe=>?_) (ifK (G:=G _) (λe=>?_) (kp _)) <;> cases eq_of_beq e
      . exact k1 _ _ _ h.1 h.2
      . exact ke _ _ _ h.1 h.2
     | cons=>exact kp _
    | cons b r=>
     cases r with
     | nil=>
      cases ks with
      | nil=>
       refine ifK (G:=G _) (λh=>?_) (kp _)
       have h:=Bool.and_eq_true_iff.mp h
       have h1:=Bool.and_eq_true_iff.mp h.1
       refine ifK (G:=G _) (λe=>?_) (ifK (G:=G _) (λe=>?_) (kp _)) <;> cases eq_of_beq e
       . exact k2 _ _ _ _ h1.1 h1.2 h.2
       . exact kz _ _ _ _ h1.1 h1.2 h.2
      | cons=>exact kp _
     | cons=>exact kp _
  | Attribute o m ap=>
   cases as with
   | nil=>
    cases ks with
    | nil=>
     refine ifK (G:=G _) (λh=>?_) (kp _)
     have h1:=Bool.and_eq_true_iff.mp (Bool.and_eq_true_iff.mp h).1
     cases eq_of_beq h1.1
     exact ki _ _ _ h1.2 (Bool.and_eq_true_iff.mp h).2
    | cons=>exact kp _
   | cons=>exact kp _
  | _=>exact kp _
 | _=>exact kp _
noncomputable def aii (ev:EvF) (sc:aad) (target:Expr) (q:Src) (ρ:aab) (K:List T->Prop):Prop:=
 match q with
 | .plain e=>ev sc e ρ λt=>alk t K
 | .range1 b=>ev sc b ρ λt=>match t with
  | .int b=>gd (ajd 10000 b) (K (ab8 0 b))
  | _=>False
 | .range2 a b=>ev sc a ρ λt=>ev sc b ρ λu=>match t,u with
  | .int a,.int b=>gd (ajd 1000000000 a&&ajd 1000010000 b) (szl (b-a).toNat (K (ab8 a b)))
  | _,_=>False
 | .zip a b=>ev sc a ρ λt=>ev sc b ρ λu=>apo t λl=>apo u λl'=>gd (l.length==l'.length) (K (akS l l'))
 | .enum a=>gd (aih target) (ev sc a ρ λt=>apo t λl=>K (aig 0 l))
 | .items o=>gd (aih target) (ev sc o ρ λt=>match t with
  | .dct l=>szl l.length (K (l.map λp=>.tup [.int p.1,p.2]))
  | _=>False)
noncomputable def afc (ev:EvF) (sc:aad) (target e:Expr) (ρ:aab) (K:List T->Prop):Prop:=aii ev sc target (aqi sc e) ρ K
noncomputable def aij{R:Type}(bind:T->aab->Option aab) (body:aab->List R->(List R->Prop)->Prop):List T->aab->List R->(List R->Prop)->Prop
 | [],_,acc,K=>K acc
 | t ::ts,ρ,acc,K=>opt (bind t ρ) λaf=>body af acc λacc'=>aij bind body ts ρ acc' K
noncomputable def aik{R:Type}(ev:EvF) (n:Nat) (sc:aad) (emit:aab->(R->Prop)->Prop):List Comprehension->aab->List R->(List R->Prop)->Prop
 | [],ρ,acc,K=>szl (acc.length+1) (emit ρ λr=>K (acc++[r]))
 | g ::gs,ρ,acc,K=>afc ev sc g.target g.iter ρ λitems=>
  aij (λt ρ=>agI g.target t sc ρ) (λaf acc K'=>aex (λe k=>abq (λe k=>ev sc e af k) n e k) g.ifs λb=>br b (aik ev n sc emit gs af acc K') (K' acc)) items ρ acc K
noncomputable def abr (l:List (Int×T)) (p:Int×T):List (Int×T):=
 if l.any (λq=>q.1==p.1) then l.map λq=>if q.1==p.1 then (q.1,p.2) else q else l++[p]
noncomputable def abv (sc':aad) (ρ:aab):aab:=ρ.filter λp=>sc'.lookup p.1==some .free
noncomputable def aho (sc sc':aad):Bool:=sc'.all λp=>sc'.lookup p.1==some p.2&&(p.2 != .free || sc.lookup p.1==some .cell || sc.lookup p.1==some .free)
noncomputable def adK (gs:List Comprehension):Bool:=gs.all λg=>g.is_async==0&&aai g.iter
noncomputable def ahp{R:Type}(ev:EvF) (n:Nat) (sc:aad) (scope:Scope) (emit:aab->(R->Prop)->Prop) (gs:List Comprehension) (ρ:aab) (K:List R->Prop):Prop:=
 gd (aho sc scope.names&&adK gs&&scope.kind==.function) (match gs with
  | []=>False
  | g ::gs=>afc ev sc g.target g.iter ρ λitems=>
   aij (λt ρ=>agI g.target t scope.names ρ) (λaf acc K'=>aex (λe k=>abq (λe k=>ev scope.names e af k) n e k) g.ifs λb=>br b (aik ev n scope.names emit gs af acc K') (K' acc)) items (abv scope.names ρ) [] K)
noncomputable def aqj (S:Sg) (sc:aad) (x:Str) (ρ:aab) (K:T->Prop):Prop:=
 gd (!(x==("__debug__":Str))&&!(x==("__classdict__":Str))) (match ρ.lookup x with
  | some t=>K t
  | none=>gd (aaW sc x) (opt (S.con x) λi=>K (.int i)))
noncomputable def anS (S:Sg) (ev:EvF) (sc:aad) (g:Expr) (args:List Expr) (p:Pos) (ρ:aab) (K:T->Prop):Prop:=
 match g with
 | .Attribute o m ap=>gd ((acP o&&ap.endLine==p.line)&&(aae args&&decide (args.length<20))) (ev sc o ρ λa=>gd (ab7 a m).isSome (opt (S.mt m) λF=>ahe (λe k=>ev sc e ρ k) args λts=>F (a ::ts) K))
 | .Name f _=>gd ((!(f==("__debug__":Str))&&aaW sc f)&&(aae args&&decide (args.length<20))) (opt (S.fn f) λF=>ahe (λe k=>ev sc e ρ k) args λts=>F ts K)
 | _=>False
noncomputable def aqk (ev:EvF) (sc:aad) (v i:Expr) (ρ:aab) (K:T->Prop):Prop:=
 match i with
 | .Slice lo hi st _=>gd (ah7 v) (ev sc v ρ λa=>aqh (λe k=>ev sc e ρ k) lo λl=>aqh (λe k=>ev sc e ρ k) hi λh=>aqh (λe k=>ev sc e ρ k) st λt=>ajh a l h t K)
 | _=>gd (agH i) (ev sc v ρ λa=>ev sc i ρ λk=>asu a k K)
noncomputable def adw (S:Sg) (it:Bool) (ev:EvF) (n:Nat) (sc:aad) (e:Expr) (ρ:aab) (K:T->Prop):Prop:=
 match S.hk e with
 | some F=>F sc ρ K
 | none=>match e with
 | .Constant c _ _=>alj c K
 | .Name x _=>aqj S sc x ρ K
 | .BinOp l op r _=>ev sc l ρ λa=>ev sc r ρ λb=>asn op a b K
 | .UnaryOp op x _=>ev sc x ρ λa=>unE op a K
 | .IfExp c a b _=>abq (λe k=>ev sc e ρ k) n c λt=>br t (ev sc a ρ K) (ev sc b ρ K)
 | .BoolOp op vs _=>aj3 (λe k=>ev sc e ρ k) op vs K
 | .Compare l ops cs _=>gd (aae cs&&ops.length==cs.length) (ev sc l ρ λa=>adn (λe k=>ev sc e ρ k) a ops cs λb=>K (.bool b))
 | .Tuple es _ _=>gd (aae es) (ahe (λe k=>ev sc e ρ k) es λts=>szl ts.length (K (.tup ts)))
 | .List es _=>gd (aae es) (ahe (λe k=>ev sc e ρ k) es λts=>szl ts.length (K (.lst ts)))
 | .Subscript v i _=>aqk ev sc v i ρ K
 | .Call g args kws p=>gd kws.isEmpty (anS S ev sc g args p ρ K)
 | .Attribute v m _=>gd (ah7 v&&m==("comp_select_list":Str)) (ev sc v ρ λa=>match a with
  | .cmp (.lst k)=>K (.lst k)
  | _=>False)
 | .ListComp elt gens scope _=>gd it <| ahp ev n sc scope (λaf K'=>ev scope.names elt af K') gens ρ λts=>K (.lst ts)
 | .DictComp k v gens scope _=>gd it <| ahp (R:=Int×T) ev n sc scope (λaf K'=>ev scope.names k af λa=>ev scope.names v af λb=>match a with
   | .int i=>K' (i,b)
   | _=>False) gens ρ λps=>K (.dct (ps.foldl abr []))
 | _=>False
noncomputable def aam (S:Sg) (it:Bool):Nat->EvF
 | 0=>λ_ _ _ _=>False
 | n+1=>adw S it (aam S it n) n
set_option backward.match.sparseCases true
section
variable (γ:Gm)
noncomputable def afd (f:Value):Prop:=∀ (M:Model) (h:Heap),Wd γ h->∃ k,(k=Keeper.frame\/k=Keeper.machine\/k=Keeper.boundFrame)/\Looks M h (keeperOf f) k
structure Cx (it:Bool) (r:Nat) (A:Around) (V:aag) (s:Shared) (env:Env) (sc:aad) (ρ:aab):Prop where
 aok:AOK it r A s.heap
 wd:Wd γ s.heap
 envS:EnvS env sc
 loc:env.locals∉aa7
 vars:VarsOK V s.heap env ρ
 live:∀ x c,abJ (sc.lookup x)->env.cells.lookup x=some c->∃ o,s.heap.get? c=some o/\o.cls=.type "cell"
structure SgOK (S:Sg) (it:Bool) (r:Nat):Prop where
 fn:∀ x F,S.fn x=some F->∃ f,(γ.mg x=some f\/(γ.mg x=none/\γ.mb x=some f))/\afd γ f/\CallOK γ (Wd γ) it r f F
 con:∀ x i,S.con x=some i->∃ t,γ.mg x=some (.int i t)
 mt:∀ x F,S.mt x=some F->∀ a f,ab7 a x=some f->afd γ f/\CallOK γ (Wd γ) it r f F
 hkn:∀ e g sc p,S.hk (.ListComp e g sc p)=none/\S.hk (.SetComp e g sc p)=none/\∀ v,S.hk (.DictComp e v g sc p)=none
 hk:∀ e F,S.hk e=some F->∀ sc ρ K,F sc ρ K->∀ A V s env,Cx γ it r A V s env sc ρ->Ev γ A V s (eval e env) K
noncomputable def aaz (it:Bool) (r:Nat) (ev:EvF):Prop:=
 ∀ sc e ρ K,ev sc e ρ K->∀ A V s env,Cx γ it r A V s env sc ρ->Ev γ A V s (eval e env) K
end
section
variable{K:T->Prop}
theorem Cx.ext (c:Cx γ it r A V s env sc ρ) (x:Ext s s'):Cx γ it r A V s' env sc ρ:=
 ⟨c.aok.ext x,c.wd.ext x,c.envS,c.loc,c.vars.ext c.wd.tabs x c.loc,λy a hc h=>(c.live y a hc h).elim λo hX1=>hX1.elim λe q=>⟨o,x.keepC a o (by refine q▸?_;exact λz=>by cases z) id e,q⟩⟩
theorem Cx.units (c:Cx γ it r A V s env sc ρ):A.units+82<cLine:=by have:=c.aok.units;exact auc (at0 (at8 (by decide:82<=400) _) (auj (at9 _ _) _)) this
theorem alm{x:Str}(e:EnvS env sc) (h:aaW sc x=true):env.kindOf x=some .globalImplicit:=by
 refine (e.names x).elim ?_ ?_
 . rintro z
   rw [z,(eq_of_beq h)]
 . rintro ⟨_,z⟩
   rw [(eq_of_beq h)] at z;exact z.elim (λz=>nomatch z) λz=>nomatch z
theorem acQ{x:Str}{f:Value}{Q:Value->Shared->Prop}{E:Value->Shared->Prop}(wd:Wd γ s.heap) (e:EnvS env sc) (h:aaW sc x=true) (hf:γ.mg x=some f\/(γ.mg x=none/\γ.mb x=some f)) (hQ:Q f s) :
  wpAny (model pg γ.w) A (loadName env x) Q E s:=by
 rw [PyProof.Rows.loadName_read e.kind (alm e h)]
 unfold loadGlobal
 refine e.glob▸?_;refine e.bins▸?_
 refine atY (wpAny_nsGet wd.g ?_)
 rcases hf with hf | ⟨h1,h2⟩
 . refine hf▸?_;exact at3 hQ
 . refine h1▸?_
   refine atY (wpAny_nsGet wd.b ?_)
   refine h2▸?_;exact at3 hQ
theorem anT{c:Const}(h:alj c K):Ev γ A V s (constValue env c) K:=by
 revert h
 cases c with
 | none=>exact λh=>adl (tk:=s.toks) .none h λQ q=>at3 q
 | bool=>exact λh=>adl (tk:=s.toks) (.bool _) h λQ q=>at3 q
 | int=>exact λh=>adl (tk:=s.toks+1) (.int _ _) h λQ q=>wpAny_mkInt q
 | str=>exact λh=>adl (tk:=s.toks+1) (.str _ _) h λQ q=>wpAny_mkText q
 | _=>exact False.elim
theorem aaF{e:Expr}{es:List Expr}(h:aai e=true):starEach (e ::es) env=(false,eval e env) ::starEach es env:=by
 revert h
 cases e with
 | Starred=>exact ff
 | Set=>exact ff
 | _=>exact λ_=>rfl
theorem aaL{e:Expr}{es:List Expr}(h:aae (e ::es)=true):aai e=true/\aae es=true:=Bool.and_eq_true_iff.mp h
theorem aec{pos:Pos}{es:List Expr}:aae es=true->(backTo pos (starEach es env)).any (·.1)=false:=by
 induction es with
 | nil=>exact λ_=>rfl
 | cons e es ih=>
  intro h
  refine (aaF (aaL h).1)▸?_
  exact ih (aaL h).2
theorem aaX (hs:aaz γ it r ev) {pos:Pos}{es:List Expr}:∀ {K:List T->Prop}{A:Around}{V:aag}{s:Shared},aae es=true->ahe (λe k=>ev sc e ρ k) es K->Cx γ it r A V s env sc ρ->
  EvL γ A V s (spliced (backTo pos (starEach es env))) K:=by
 induction es with
 | nil=>exact λhp h c=>at3 ⟨_,h,.refl _,.nil⟩
 | cons e es ih=>
  intro K A V s hp h c
  rw [aaF (aaL hp).1]
  show wpAny _ _ (eval e env >>= λv=>(pure [v] >>= λhere=>(holding here (spliced (backTo pos (starEach es env))) >>= λr=>pure (here++r)))) _ _ _
  exact atY (aaj (hs _ _ _ _ h A V s env c) λv a8 t hK x rv=>atY (at3 (atY (aud (at1 (ih (aaL hp).2 hK (c.ext x)) (λvs aa hq=>hq.elim λts hK2 x2 rs=>
   at3 ⟨_,hK2,x.trans x2,.cons (rv.ext x2) (rs.mono (λa h=>h.elim .inl λz=>.inr (x.there a id z)) λ_ _ _ _ e=>e)⟩) λ_ _ e=>e)))))
theorem aln{pos:Pos}{f:Value}{first:List Value}{es:List Expr}{Q:Value->Shared->Prop}{E:Value->Shared->Prop}(hk:afd γ f) (wd:Wd γ s.heap) (hp:aae es=true)
  (h:wpAny (model pg γ.w) A (spliced (backTo pos (starEach es env))) (λvs a8=>Ext s a8/\wpAny (model pg γ.w) A (call f (first++vs)) Q E a8) E s) :
  wpAny (model pg γ.w) A (callWith pos f first (backTo pos (starEach es env)) []) Q E s:=by
 cases es with
 | nil=>
  intro Γ p hΓ
  have k:=((show Ext s s/\wpAny (model pg γ.w) A (call f (first++[])) Q E s from h Γ p hΓ)).2
  exact callWith_of (P:=Wd γ) rfl (λh' x=>hk _ h' x) (evalArgs_nil3 ⟨wd,k⟩) Γ p hΓ
 | cons e es=>
  refine callWith_of (P:=Wd γ) (by refine (aec hp).symm▸?_;rfl) (λh' x=>hk _ h' x) ?_
  rw [aaF (aaL hp).1] at h ⊢
  exact Calls.evalArgs_plain (at1 h (λvs a8 hZ7=>hZ7.elim λx k=>⟨wd.ext x,k⟩) λ_ _ e=>e)
end
section
variable{K:T->Prop}
theorem Ev.then{t:Sem Value}{f:Value->Sem Value}{cK:T->Prop}(h:Ev γ A V s t cK)
  (k:∀ v a8 a,cK a->Ext s a8->Rep (Nv V s) a8.heap v a->wpAny (model pg γ.w) A (f v) (EvR V s K) (λ_ _=>False) a8) :
  Ev γ A V s (t >>= f) K:=atY (aaj h k)
theorem Rep.nv{v:Value}{t:T}{a8 aa:Shared}(x:Ext s a8) (r:Rep (Nv V a8) aa.heap v t):Rep (Nv V s) aa.heap v t:=
 r.mono (λa h=>h.elim .inl λz=>.inr (x.there a id z)) λ_ _ _ _ e=>e
theorem RepL.nv{v:List Value}{t:List T}{a8 aa:Shared}(x:Ext s a8) (r:RepL (Nv V a8) aa.heap v t):RepL (Nv V s) aa.heap v t:=
 r.mono (λa h=>h.elim .inl λz=>.inr (x.there a id z)) λ_ _ _ _ e=>e
theorem aql (sg:SgOK γ S it r) {x:Str}{pos:Pos}(h:aqj S sc x ρ K) (c:Cx γ it r A V s env sc ρ):Ev γ A V s (eval (.Name x pos) env) K:=by
 refine (gd2 h).elim λh1 hX1=>hX1.elim λh2 h=>?_
 replace h2:=(Bool.not_eq_true' _).mp h2
 refine (eval_Name _ _ _ ((Bool.not_eq_true' _).mp h1))▸?_
 refine atY (at7 ?_)
 cases q:ρ.lookup x with
 | some t=>
  replace h:=q▸h
  refine ag λG kG=>?_
  refine (c.vars x t q).elim λv hZ1=>hZ1.elim λhv rv=>?_
  refine kG ?_
  exact aaA c.envS.kind hv h2 ⟨t,h,.refl s,rv.ext (.refl s) λa h=>.inl h⟩
 | none=>
  rw [q] at h
  obtain ⟨hg,h⟩:=gd_ h
  refine (ak2 h).elim λi hZ4=>hZ4.elim λq2 h=>?_
  refine (sg.con x i q2).elim λt e=>?_
  exact acQ c.wd c.envS hg (.inl e) ⟨_,h,.refl s,.int i t⟩
theorem asz (hs:aaz γ it r ev) {l r':Expr}{op:Operator}{pos:Pos}(h:ev sc l ρ λa=>ev sc r' ρ λb=>asn op a b K) (c:Cx γ it r A V s env sc ρ):Ev γ A V s (eval (.BinOp l op r' pos) env) K:=by
 refine Ev.then (hs _ _ _ _ h A V s env c) λa a8 ta ak ae ra=>?_
 refine atY (aud (aaj (hs _ _ _ _ ak A V a8 env (c.ext ae)) λb aa tb aq am rb=>?_))
 refine atY (at7 ?_)
 refine wpAny_operate' ?_
 exact (ala (V:=Nv V s) (ra.ext am) (rb.nv ae) aq).from (ae.trans am) λa h=>h
theorem sd_un (hs:aaz γ it r ev) {x:Expr}{op:UnaryOp}{pos:Pos}(h:ev sc x ρ λa=>unE op a K) (c:Cx γ it r A V s env sc ρ):Ev γ A V s (eval (.UnaryOp op x pos) env) K:=by
 refine Ev.then (hs _ _ _ _ h A V s env c) λa a8 ta ak ae ra=>?_
 refine atY (at7 (aud ?_))
 exact (ev_un (V:=Nv V s) ra ak).from ae λa h=>h
theorem EvB.from{t:Sem Bool}{K:Bool->Prop}{a8:Shared}(x:Ext s a8) (h:EvB γ A a8 t K):wpAny (model pg γ.w) A t (λb s'=>K b/\Ext s s') (λ_ _=>False) a8:=
 at1 h (λb s' hZ5=>hZ5.elim λa y=>⟨a,x.trans y⟩) λ_ _ e=>e
theorem ahq{op:CmpOp}{e:Expr}{t:Sem Value}(h:aai e=true):markedBehindIn op e t=t:=by
 have:behindInMarks op e=false:=by
  revert h
  cases e with
  | Starred=>exact ff
  | Set=>exact ff
  | _=>exact λ_=>rfl
 dsimp only [markedBehindIn];exact this▸rfl
theorem abc{env:Env}:∀ {ops:List CmpOp}{es:List Expr},aae es=true->markedEach ops es (evalEach es env)=evalEach es env
 | [],_,_=>by rfl
 | [op],[],_=>rfl
 | [op],[e],h=>by
  show [markedBehindIn op e (eval e env)]=_
  refine (ahq (aaL h).1)▸?_;rfl
 | [op],e ::e' ::es,h=>by
  show (eval e env) ::markedEach [] (e' ::es) (evalEach (e' ::es) env)=_
  rw [abc (aaL h).2];rfl
 | op ::op' ::ops,[],h=>rfl
 | op ::op' ::ops,e ::es,h=>by
  show (eval e env) ::markedEach (op' ::ops) es (evalEach es env)=_
  rw [abc (aaL h).2];rfl
theorem agJ{t:Sem Value}{K:Bool->Prop}{a8:Shared}(x:Ext s a8) (h:Cm γ A a8 t K):wpAny (model pg γ.w) A t (λv s'=>∃ b,v=.bool b/\K b/\Ext s s') (λ_ _=>False) a8:=
 at1 h (λv s' hZ6=>hZ6.elim λb hZ7=>hZ7.elim λe hZ8=>hZ8.elim λk y=>⟨b,e,k,x.trans y⟩) λ_ _ e=>e
theorem alo{P:List CmpOp->List Expr->Prop}(one:∀ op e,P [op] [e]) (more:∀ op op' ops e e' cs,P (op' ::ops) (e' ::cs)->P (op ::op' ::ops) (e ::e' ::cs)):∀ {op:CmpOp}{ops:List CmpOp}{cs:List Expr},(op ::ops).length=cs.length->P (op ::ops) cs:=by
 intro op ops
 induction ops generalizing op with
 | nil=>
  intro cs h
  cases cs with
  | nil=>exact ava h
  | cons e cs=>cases cs with
   | nil=>exact one op e
   | cons=>exact ava (Nat.succ.inj h)
 | cons op' ops ih=>
  intro cs h
  cases cs with
  | nil=>exact ava h
  | cons e cs=>cases cs with
   | nil=>exact ava (Nat.succ.inj h)
   | cons e' cs=>exact more _ _ _ _ _ _ (ih (Nat.succ.inj h))
theorem acC{α:Type}(hs:aaz γ it r ev) {pos:Pos}{e:Expr}{op:CmpOp}{left:Value}{tl:T}{V':aag}{KK:T->Bool->Prop}{F:Value->Sem α}{Q:α->Shared->Prop}{E:Value->Shared->Prop}(h:ev sc e ρ λb=>asq op tl b (KK b)) (c:Cx γ it r A V s env sc ρ) (rl:Rep V' s.heap left tl)
  (k:∀ rv a8 t,Ext s a8->Rep (Nv V s) a8.heap rv t->Cm γ A a8 (compareOp op left rv) (KK t)->wpAny (model pg γ.w) A (F rv) Q E a8):wpAny (model pg γ.w) A (holding [left] (eval e env) >>= λrv=>(standAt pos >>= λ_=>F rv)) Q E s:=
 atY (aud (aaj (hs _ _ _ _ h A V s env c) λv a8 t ak ae rv=>atY (at7 (k v a8 t ae rv
  (ass (V:=λa=>V' a\/Nv V s a) c.units (rl.ext ae λa h=>.inl h) (rv.mono (λa h=>.inr h) λ_ _ _ _ e=>e) ak)))))
theorem af3{α:Type}{t:Sem Value}{rs:List Value}{g:Value->List Value}{KK:Bool->Prop}{X:Sem α}{Y:Value->Sem α}{Q:α->Shared->Prop}{E:Value->Shared->Prop}(h:Cm γ A s t KK) (k1:∀ s',KK true->Ext s s'->wpAny (model pg γ.w) A X Q E s') (k0:∀ s',KK false->Ext s s'->wpAny (model pg γ.w) A (Y (.bool false)) Q E s') :
  wpAny (model pg γ.w) A (holding rs t >>= λc=>(release rs [c] >>= λ_=>(holding (g c) (truthy c) >>= λb=>if b=true then X else Y c))) Q E s:=
 atY (aud (at1 h (λu aa hq=>hq.elim λb hq=>hq.elim λe hq=>hq.elim λk y=>by
  subst e
  refine atY (wpAny_release' (atY (aud (wpAny_truthy_bool ?_))))
  cases b with
  | true=>exact k1 _ k y
  | false=>exact k0 _ k y) λ_ _ e=>e.elim))
theorem aj5 (hs:aaz γ it r ev) {pos:Pos}{op:CmpOp}{ops:List CmpOp}{cs:List Expr}(hl:(op ::ops).length=cs.length):∀ {left:Value}{tl:T}{K:Bool->Prop}{s:Shared}{V':aag},adn (λe k=>ev sc e ρ k) tl (op ::ops) cs K->
  Cx γ it r A V s env sc ρ->Rep V' s.heap left tl->EvB γ A s (testChain pos left (op ::ops) (evalEach cs env)) K:=
 alo (P:=λops cs=>∀ {left:Value}{tl:T}{K:Bool->Prop}{s:Shared}{V':aag},adn (λe k=>ev sc e ρ k) tl ops cs K->
   Cx γ it r A V s env sc ρ->Rep V' s.heap left tl->EvB γ A s (testChain pos left ops (evalEach cs env)) K)
  (λop e {left tl K s V'} h c rl=>acC hs h c rl λrv a8 t ae _ hc=>atY (wpAny_operate' (at1 (agJ ae hc) (λv aa hZ15=>hZ15.elim λb hZ16=>hZ16.elim λe hZ17=>hZ17.elim λk y=>e▸aud (wpAny_truthy_bool ⟨k,y⟩)) λ_ _ e=>e)))
  (λop op' ops e e' cs ih {left tl K s V'} h c rl=>acC hs h c rl λrv a8 t ae rr hc=>af3 (Y:=λ_=>pure false) hc (λs' k y=>(ih k (c.ext (ae.trans y)) (rr.ext y)).from (ae.trans y)) λs' k y=>at3 ⟨k,ae.trans y⟩) hl
theorem ail (hs:aaz γ it r ev) {pos:Pos}{op:CmpOp}{ops:List CmpOp}{cs:List Expr}(hl:(op ::ops).length=cs.length):∀ {left:Value}{tl:T}{K:Bool->Prop}{s:Shared}{V':aag},adn (λe k=>ev sc e ρ k) tl (op ::ops) cs K->
  Cx γ it r A V s env sc ρ->Rep V' s.heap left tl->Cm γ A s (compareChain pos left (op ::ops) (evalEach cs env)) K:=
 alo (P:=λops cs=>∀ {left:Value}{tl:T}{K:Bool->Prop}{s:Shared}{V':aag},adn (λe k=>ev sc e ρ k) tl ops cs K->
   Cx γ it r A V s env sc ρ->Rep V' s.heap left tl->Cm γ A s (compareChain pos left ops (evalEach cs env)) K)
  (λop e {left tl K s V'} h c rl=>acC hs h c rl λrv a8 t ae _ hc=>wpAny_operate' (agJ ae hc))
  (λop op' ops e e' cs ih {left tl K s V'} h c rl=>acC hs h c rl λrv a8 t ae rr hc=>af3 (Y:=λc=>pure c) hc (λs' k y=>agJ (ae.trans y) (ih k (c.ext (ae.trans y)) (rr.ext y))) λs' k y=>at3 ⟨_,rfl,k,ae.trans y⟩) hl
theorem aj6 (hs:aaz γ it r ev) {l:Expr}{ops:List CmpOp}{cs:List Expr}{pos:Pos}(h:gd (aae cs&&ops.length==cs.length) (ev sc l ρ λa=>adn (λe k=>ev sc e ρ k) a ops cs λb=>K (.bool b)))
  (c:Cx γ it r A V s env sc ρ):Ev γ A V s (eval (.Compare l ops cs pos) env) K:=by
 have g:=gd2 h
 show wpAny _ _ (eval l env >>= λa=>compareChain pos a ops (markedEach ops cs (evalEach cs env))) _ _ _
 refine (abc g.1).symm▸?_
 refine Ev.then (hs _ _ _ _ g.2.2 A V s env c) λa a8 ta ak ae ra=>?_
 clear h
 cases ops with
 | nil=>exact nomatch cs <;> exact ak.elim
 | cons op ops=>exact at1 (agJ ae (ail hs (eq_of_beq g.2.1) ak (c.ext ae) ra)) (λv s' hZ18=>hZ18.elim λb hZ19=>hZ19.elim λe hZ20=>hZ20.elim λk y=>e▸⟨_,k,y,.bool b⟩) λ_ _ e=>e
theorem alp{n:Nat}{op:BoolOp}{pos:Pos}(ih:∀ {e:Expr}{K:Bool->Prop}{s:Shared},abq (λe k=>ev sc e ρ k) n e K->Cx γ it r A V s env sc ρ->EvB γ A s (isTrue e env (eval e env)) K) {vs:List Expr}:∀ {K:Bool->Prop}{s:Shared},allF (abq (λe k=>ev sc e ρ k) n) op vs K->Cx γ it r A V s env sc ρ->EvB γ A s (isTrue (.BoolOp op vs pos) env (eval (.BoolOp op vs pos) env)) K:=by
 induction vs with
 | nil=>intro K s h c;cases op <;> first | exact isTrue_and_nil ⟨h,.refl s⟩ | exact isTrue_or_nil ⟨h,.refl s⟩
 | cons x rest ih2=>
  intro K s h c
  cases op with
  | And=>exact isTrue_and (at1 (ih h c) (λb s' hZ21=>hZ21.elim λk x=>by
    clear hZ21
    cases b with
    | true=>exact (ih2 k (c.ext x)).from x
    | false=>exact ⟨k,x⟩) λ_ _ e=>e)
  | Or=>exact isTrue_or (at1 (ih h c) (λb s' hZ23=>hZ23.elim λk x=>by
    clear hZ23
    cases b with
    | true=>exact ⟨k,x⟩
    | false=>exact (ih2 k (c.ext x)).from x) λ_ _ e=>e)
theorem aaU (hs:aaz γ it r ev) (n:Nat):∀ {e:Expr}{K:Bool->Prop}{s:Shared},abq (λe k=>ev sc e ρ k) n e K->Cx γ it r A V s env sc ρ->EvB γ A s (isTrue e env (eval e env)) K:=by
 induction n with
 | zero=>exact λh=>h.elim
 | succ n ih=>
  intro e K s h c
  refine aj2 (G:=λe=>EvB γ A s (isTrue e env (eval e env)) K) h (λx p h=>isTrue_not (ih h c)) (λop vs p h=>alp ih h c) (λl ops cs p h=>?_) λe h he=>?_
  . have g:=gd2 h
    show wpAny _ _ (eval l env >>= λa=>testChain p a ops (markedEach ops cs (evalEach cs env))) _ _ _
    refine (abc g.1).symm▸?_
    refine atY (aaj (hs _ _ _ _ g.2.2 A V s env c) λa a8 ta ak ae ra=>?_)
    cases ops with
    | nil=>exact nomatch cs <;> exact ak.elim
    | cons op ops=>exact (aj5 hs (eq_of_beq g.2.1) ak (c.ext ae) ra).from ae
  . rw [he]
    exact atY (aaj (hs _ _ _ _ h A V s env c) λv a8 t ak ae rv=>atY (at7 (aud ((apm rv ak).from ae))))
end
section
variable{K:T->Prop}
theorem anU (hs:aaz γ it r ev) {t a b:Expr}{pos:Pos}(h:abq (λe k=>ev sc e ρ k) n t λt=>br t (ev sc a ρ K) (ev sc b ρ K)) (c:Cx γ it r A V s env sc ρ) :
  Ev γ A V s (eval (.IfExp t a b pos) env) K:=by
 exact atY (at1 (aaU hs n h c) (λx a8 hZ1=>hZ1.elim λk y=>by
  clear hZ1
  cases x with
  | true=>exact (hs _ _ _ _ k A V a8 env (c.ext y)).from y λa h=>.inl h
  | false=>exact (hs _ _ _ _ k A V a8 env (c.ext y)).from y λa h=>.inl h) λ_ _ e=>e)
theorem aqm (hs:aaz γ it r ev) {op:BoolOp}{pos:Pos}{vs:List Expr}:∀ {s:Shared},aj3 (λe k=>ev sc e ρ k) op vs K->Cx γ it r A V s env sc ρ->Ev γ A V s (boolOp pos op (evalEach vs env)) K:=by
 induction vs with
 | nil=>exact λh=>h.elim
 | cons x rest ih=>
  intro s h c
  cases rest with
  | nil=>exact hs _ _ _ _ h A V s env c
  | cons y rest=>
   refine Ev.then (hs _ _ _ _ (show ev sc x ρ λa=>ar3 a λb=>anR op b (aj3 (λe k=>ev sc e ρ k) op (y ::rest) K) (K a) from h) A V s env c) λv a8 a ak ae rv=>?_
   refine atY (at7 (atY (aud (at1 (apm rv ak) (λb aa hZ2=>hZ2.elim λk am=>?_) λ_ _ e=>e))))
   have go:aj3 (λe k=>ev sc e ρ k) op (y ::rest) K->wpAny (model pg γ.w) A (boolOp pos op (evalEach (y ::rest) env)) (EvR V s K) (λ_ _=>False) aa:=λk=>(ih k (c.ext (ae.trans am))).from (ae.trans am) λa h=>.inl h
   clear h ak ih
   clear hZ2
   cases op <;> cases b
   . exact (λk=>at3 ⟨a,k,ae.trans am,rv.ext am⟩:K a->wpAny (model pg γ.w) A (pure v) (EvR V s K) (λ_ _=>False) aa) k
   . exact go k
   . exact go k
   . exact (λk=>at3 ⟨a,k,ae.trans am,rv.ext am⟩:K a->wpAny (model pg γ.w) A (pure v) (EvR V s K) (λ_ _=>False) aa) k
theorem af4{s:Shared}{V:aag}:Nv V s s.heap.objs.size:=.inr (at6 (auf _))
theorem anV (hs:aaz γ it r ev) {es:List Expr}{k:Nat}{pos:Pos}(h:gd (aae es) (ahe (λe k=>ev sc e ρ k) es λts=>szl ts.length (K (.tup ts)))) (c:Cx γ it r A V s env sc ρ) :
  Ev γ A V s (eval (.Tuple es k pos) env) K:=by
 show wpAny _ _ (standAt pos >>= λ_=>(spliced (backTo pos (starEach es env)) >>= λvs=>newTuple vs)) _ _ _
 refine atY (at7 (atY (at1 (aaX hs (gd_ h).1 (gd_ h).2 c) (λvs a8 hq=>hq.elim λts hg x rs=>?_) λ_ _ e=>e)))
 refine (aco hg).elim λhl hK=>?_
 refine wpAny_newTuple ⟨_,hK,x.trans (Ext.push (tk:=a8.toks)),.tup (Nv.le x af4) ⟨_,at4 _ rfl,rfl,_,rfl⟩ ?_⟩ (aaf (by refine rs.length▸?_;exact hl))
 exact rs.ext (Ext.push (tk:=a8.toks))
theorem aqn (hs:aaz γ it r ev) {es:List Expr}{pos:Pos}(h:gd (aae es) (ahe (λe k=>ev sc e ρ k) es λts=>szl ts.length (K (.lst ts)))) (c:Cx γ it r A V s env sc ρ) :
  Ev γ A V s (eval (.List es pos) env) K:=by
 show wpAny _ _ (standAt pos >>= λ_=>(spliced (backTo pos (starEach es env)) >>= λvs=>newList vs)) _ _ _
 refine atY (at7 (atY (at1 (aaX hs (gd_ h).1 (gd_ h).2 c) (λvs a8 hq=>hq.elim λts hg x rs=>?_) λ_ _ e=>e)))
 refine (aco hg).elim λhl hK=>?_
 refine wpAny_newList ⟨_,hK,x.trans (Ext.push (tk:=a8.toks)),.lst (Nv.le x af4) ⟨_,at4 _ rfl⟩ ?_⟩ (aaf (by refine rs.length▸?_;exact hl))
 exact rs.ext (Ext.push (tk:=a8.toks))
theorem asA (hs:aaz γ it r ev) {v i:Expr}{pos:Pos}(h:gd (agH i) (ev sc v ρ λa=>ev sc i ρ λk=>asu a k K)) (c:Cx γ it r A V s env sc ρ):Ev γ A V s (eval (.Subscript v i pos) env) K:=by
 refine Subscript_ (aaj (hs _ _ _ _ (gd_ h).2 A V s env c) λa a8 ta ak ae ra=>?_)
 refine aaj (hs _ _ _ _ ak A V a8 env (c.ext ae)) λb aa tb aq am rb=>?_
 exact (asv (V:=Nv V s) (gd_ h).1 (ra.ext am) (rb.nv ae) aq).from (ae.trans am) λa h=>h
theorem alq (hs:aaz γ it r ev) {o:Option Expr}(h:aqh (λe k=>ev sc e ρ k) o K) (c:Cx γ it r A V s env sc ρ):Ev γ A V s (valueOrNone (evalOpt o env)) K:=by
 cases o with
 | none=>exact adl (tk:=s.toks) .none h λQ q=>at3 q
 | some e=>exact hs _ _ _ _ h A V s env c
theorem anW (hs:aaz γ it r ev) {v:Expr}{lo hi st:Option Expr}{p pos:Pos}
  (h:gd (ah7 v) (ev sc v ρ λa=>aqh (λe k=>ev sc e ρ k) lo λl=>aqh (λe k=>ev sc e ρ k) hi λh=>aqh (λe k=>ev sc e ρ k) st λt=>ajh a l h t K))
  (c:Cx γ it r A V s env sc ρ):Ev γ A V s (eval (.Subscript v (.Slice lo hi st p) pos) env) K:=by
 refine Subscript_ (aaj (hs _ _ _ _ (gd_ h).2 A V s env c) λa a8 ta ak ae ra=>?_)
 have al:=c.ext ae
 refine atY (aaj (alq hs ak al) λvl aa tl aq am rl=>?_)
 refine atY (aud (aaj (alq hs aq (al.ext am)) λvu ai tu aB an ru=>?_))
 refine atY (aud (aaj (alq hs aB ((al.ext am).ext an)) λvk ao tk aO ay rk=>?_))
 refine at1 (anQ (slice:=.Slice lo hi st p) (V:=Nv V s) (gd_ h).1 rfl (ra.ext ((am.trans an).trans ay)) ((rl.nv ae).ext (an.trans ay)) ((ru.nv (ae.trans am)).ext ay) (rk.nv ((ae.trans am).trans an)) aO) (λi aI z=>?_) λ_ _ e=>e
 refine at1 z (λv aT hq=>hq.elim λr k y q=>⟨r,k,(((ae.trans am).trans an).trans ay).trans y,q.mono (λa h=>h.elim id λz=>.inr ((((ae.trans am).trans an).trans ay).there a id z)) λ_ _ _ _ e=>e⟩) λ_ _ e=>e
theorem aqo (hs:aaz γ it r ev) (sg:SgOK γ S it r) {f:Str}{p pos:Pos}{args:List Expr}(h:anS S ev sc (.Name f p) args pos ρ K) (c:Cx γ it r A V s env sc ρ):Ev γ A V s (eval (.Call (.Name f p) args [] pos) env) K:=by
 refine (gd2 h).elim λh1 hX1=>hX1.elim λh3 h=>?_
 refine (ak2 h).elim λF hX1=>hX1.elim λq h=>?_
 refine (sg.fn f F q).elim λg hX1=>hX1.elim λhg hX2=>hX2.elim λhk hc=>?_
 have h3:=(Bool.and_eq_true_iff.mp h3).1
 show wpAny _ _ (eval (.Name f p) env >>= λg=>callWith pos g [] (backTo pos (starEach args env)) []) _ _ _
 refine (eval_Name _ _ _ ((Bool.not_eq_true' _).mp (Bool.and_eq_true_iff.mp h1).1))▸?_
 refine atY (atY (at7 (acQ c.wd c.envS (Bool.and_eq_true_iff.mp h1).2 hg ?_)))
 refine aln hk c.wd h3 (at1 (aaX hs h3 h c) (λvs a8 hq=>hq.elim λts hF x rs=>⟨x,?_⟩) λ_ _ e=>e)
 exact (hc A (Nv V s) a8 vs ts K (c.aok.ext x) (c.wd.ext x) rs hF).from x λa h=>h
theorem acf{o:Expr}{m:Str}{t:Sem Value}(h:acP o=true):attributeBase o m env t=t:=by
 revert h
 cases o with
 | Call=>exact ff
 | _=>exact λ_=>rfl
theorem aji{pos:Pos}{es:List Expr}(h:aae es=true):(backTo pos (starEach es env)).all (!·.1)=true:=by
 have:=aec (env:=env) (pos:=pos) h
 rw [List.all_eq_not_any_not]
 simp only [Bool.not_not]
 refine this▸?_;rfl
theorem anX{a:T}{m:Str}{f:Value}{ov:Value}{pl:Sem Bool}{Q:Value×List Value->Shared->Prop}{E:Value->Shared->Prop}(wd:Wd γ s.heap) (h:ab7 a m=some f) (ra:Rep V s.heap ov a) (hQ:Q (f,[ov]) s) :
  wpAny (model pg γ.w) A (getMethod ov m pl) Q E s:=
 abL (G:=λa m f=>Rep V s.heap ov a->Q (f,[ov]) s->wpAny (model pg γ.w) A (getMethod ov m pl) Q E s) h
  (λl ra hQ=>aa3 ra λa vs e va ha _=>by subst e;exact getMethod_list_of F.slot_list_index F.type_list_index ha.isList ((ha).elim λ_ e=>⟨_,e,rfl⟩) hQ)
  (λi ra hQ=>aao ra λt e=>by subst e;exact getMethod_int_bit_length hQ)
  (λk ra hQ=>anG ra λa' dx e tk nn q va vd ha hd hn r=>by
    subst q
    have st:=wd.st
    exact method_fn (C:=aaO) (ox:=instObj aaO dx) (od:=some (dictOf [e] nn)) wd.k ⟨ha,rfl,rfl,hd⟩ (plainGet_of st.c1).1 (plainGet_of st.c1).2 st.c2 st.c3
     (by show (lookIn "compare" (dictOf [e] nn)).map _=_;rw [lookIn_dict];unfold getL;simp only [List.find?_cons,List.find?_nil,hn,List.any_cons,List.any_nil,DictEntry.refKey];rfl) hQ) ra hQ
theorem agK{o:Expr}{ap pos:Pos}(h:(ap.endLine==pos.line)=true):methodCallPos true o env ap pos=pure pos:=by unfold methodCallPos;refine h.symm▸?_;rfl
theorem alr{pos:Pos}{args:List Expr}(h:(aae args&&decide (args.length<20))=true):methodCallForm (args.length+0) (backTo pos (starEach args env)) []=true:=by
 unfold methodCallForm
 refine (aji (Bool.and_eq_true_iff.mp h).1).symm▸?_
 exact decide_eq_true (at5 (of_decide_eq_true (Bool.and_eq_true_iff.mp h).2) (by decide))
theorem aqp (hs:aaz γ it r ev) (sg:SgOK γ S it r) {o:Expr}{m:Str}{ap pos:Pos}{args:List Expr}(h:anS S ev sc (.Attribute o m ap) args pos ρ K) (c:Cx γ it r A V s env sc ρ):Ev γ A V s (eval (.Call (.Attribute o m ap) args [] pos) env) K:=by
 have g:=gd2 h
 show wpAny _ _ (attributeBase o m env (eval o env) >>= λov=>(standAt ap.atName >>= λ_=>methodCall o m ap pos env ov (args.length+0) (backTo pos (starEach args env)) [])) _ _ _
 refine (acf (Bool.and_eq_true_iff.mp g.1).1)▸?_
 refine Ev.then (hs _ _ _ _ g.2.2 A V s env c) λov a8 a ak ae ra=>atY (at7 (ap9 (gd_ ak).2 λF q2 aq=>?_))
 cases q:ab7 a m with
 | none=>have z:=(gd_ ak).1;rw [q] at z;exact ff z
 | some f=>
  show wpAny _ _ (holding [ov] (calleeOf (methodCallForm (args.length+0) (backTo pos (starEach args env)) []) o env ov m) >>= λfs=>(methodCallPos (methodCallForm (args.length+0) (backTo pos (starEach args env)) []) o env ap pos >>= λcp=>callWith cp fs.1 fs.2 (backTo pos (starEach args env)) [])) _ _ _
  refine (alr g.2.1)▸?_;refine (agK (Bool.and_eq_true_iff.mp g.1).2)▸?_
  have al:=c.ext ae
  exact atY (aud (anX al.wd q ra (atY (at3 (aln (sg.mt m F q2 a f q).1 al.wd ((Bool.and_eq_true_iff.mp g.2.1).1) (at1 (aaX hs ((Bool.and_eq_true_iff.mp g.2.1).1) aq al) (λvs aa hq=>hq.elim λts hF x rs=>⟨x,((sg.mt m F q2 a f q).2 A (Nv V s) aa (ov ::vs) (a ::ts) K (al.aok.ext x) (al.wd.ext x) (.cons (ra.ext x) (rs.nv ae)) hF).from (ae.trans x) λa h=>h⟩) λ_ _ e=>e))))))
end
inductive LocOk (h:Heap) (L:Addr):Prop
 | mk (o:Obj) (es:Array DictEntry) (ep:Nat) (e:h.get? L=some o) (d:o.data=.dict es ep) (k:StrKeys es):LocOk h L
inductive CellOk (X:aag) (h:Heap) (env:Env) (x:Str):Prop
 | mk (c:Addr) (o:Obj) (v:Option Value) (e1:env.cells.lookup x=some c) (e2:X c) (e3:c≠env.locals) (e4:h.get? c=some o) (e5:o.cls=.type "cell") (e6:o.data=.cell v):CellOk X h env x
theorem LocOk.keep{h h':Heap}{L:Addr}(l:LocOk h L) (k:∀ o,h.get? L=some o->h'.get? L=some o):LocOk h' L:=let ⟨o,es,ep,e,d,q⟩:=l;⟨o,es,ep,k o e,d,q⟩
theorem CellOk.keep{X:aag}{h h':Heap}{env:Env}{x:Str}(l:CellOk X h env x) (k:∀ c o,X c->c≠env.locals->h.get? c=some o->o.cls≠.none->h'.get? c=some o):CellOk X h' env x:=
 let ⟨c,o,v,h1,h2,h3,h4,h5,h6⟩:=l;⟨c,o,v,h1,h2,h3,k c o h2 h3 h4 (λz=>nty (h5.symm.trans z)),h5,h6⟩
structure Slots (X:aag) (h:Heap) (env:Env) (sc:aad):Prop where
 kind:env.scope.kind=.function
 loc:X env.locals/\LocOk h env.locals
 cell:∀ x,sc.lookup x=some .cell->abJ (env.kindOf x)/\CellOk X h env x
 apart:∀ x y c,sc.lookup x=some .cell->env.cells.lookup x=some c->env.cells.lookup y=some c->x=y
 other:∀ y c,env.cells.lookup y=some c->c≠env.locals
 local_:∀ x,sc.lookup x=some .local->env.kindOf x=some .local
theorem Slots.ext{X:aag}{s s':Shared}{env:Env}{sc:aad}(sl:Slots X s.heap env sc) (x:Ext s s') (hL:env.locals∉aa7):Slots X s'.heap env sc where
 kind:=sl.kind
 loc:=⟨sl.loc.1,sl.loc.2.keep λo e=>x.keep _ o hL id e⟩
 cell:=λy hy=>⟨(sl.cell y hy).1,(sl.cell y hy).2.keep λc o _ _ e n=>x.keepC _ _ n id e⟩
 apart:=sl.apart
 other:=sl.other
 local_:=sl.local_
section
variable{M:Model}
theorem af5{x:Str}{v:Value}{Q:Unit->Shared->Prop}(sl:Slots X s.heap env sc) (own:abW sc x=true)
  (k:∀ s',ExtX X s s'->Slots X s'.heap env sc->Sees s'.heap env x v->(∀ y u,y≠x->Sees s.heap env y u->Sees s'.heap env y u)->Q () s'):wpAny M A (storeName env x v) Q E s:=by
 obtain ⟨hL,oL,es,ep,eL,dL,kL⟩:=sl.loc
 rcases (by simpa [abW] using own) with hx | hx
 . have hk:=sl.local_ x hx
   rw [storeName_local hk (by refine sl.kind▸?_;rfl)]
   refine ajZ eL dL kL λh' o' es' ep' e' c' d' k' f' hs=>?_
   refine k { s with heap:=h',toks:=s.toks+1 } (ExtX.but eL (by refine dL▸?_;exact λ_ z=>by cases z) hL (λb o n e=>hs.extBut b o n e) ⟨o',e'⟩) ?_ ?_ ?_
   . exact { kind:=sl.kind,loc:=⟨hL,o',es',ep',e',d',k'⟩,cell:=λy hy=>⟨(sl.cell y hy).1,(sl.cell y hy).2.keep λc o _ n e _=>hs.extBut _ _ n e⟩,apart:=sl.apart,other:=sl.other,local_:=sl.local_ }
   . exact .inl ⟨hk,_,⟨o',es',ep',e',d',k',λ_=>rfl⟩,by rw [f'];simp⟩
   . rintro y u hy (⟨a,m,hm,hu⟩ | ⟨a,c,o,h1,h2,h3,h4⟩)
     . refine .inl ⟨a,_,⟨o',es',ep',e',d',k',λ_=>rfl⟩,?_⟩
       rw [f',if_neg hy]
       refine ag λG kG=>?_
       obtain ⟨o2,es2,ep2,e2,d2,_,f2⟩:=hm
       refine kG ?_
       replace e2:=eL▸e2;cases e2
       replace d2:=dL▸d2;cases d2
       rw [f2,hu]
     . exact .inr ⟨a,c,o,h1,hs.extBut _ _ (sl.other y c h1) h2,h3,h4⟩
 . obtain ⟨hk,c,o,ed,hc,hX,hne,eo,ho,hd⟩:=sl.cell x hx
   have set:wpAny M A (cellOf env x >>= λc=>cellSet c (some v)) Q E s:=by
    refine atY (wpAny_cellOf hc ?_)
    refine atY (wpAny_load eo ?_)
    refine hd▸?_
    refine wpAny_update eo ?_
    have e':(s.heap.update c λo=>{ o with data:=.cell (some v) }).get? c=some { o with data:=.cell (some v) }:=auA _ eo rfl
    have hs:∀ b,b≠c->(s.heap.update c λo=>{ o with data:=.cell (some v) }).get? b=s.heap.get? b:=λb hb=>Heap.get?_update_ne _ _ _ _ hb
    refine k { s with heap:=s.heap.update c λo=>{ o with data:=.cell (some v) } } (ExtX.but (tk:=s.toks) eo (by refine hd▸?_;exact λ_ z=>by cases z) hX (λb o n e=>(hs b n).trans e) ⟨_,e'⟩) ?_ ?_ ?_
    . refine ⟨sl.kind,⟨hL,oL,es,ep,(hs _ (Ne.symm hne)).trans eL,dL,kL⟩,λy hy=>?_,sl.apart,sl.other,sl.local_⟩
      obtain ⟨a,c',o',u,h1,h2,h3,h4,h5,h6⟩:=sl.cell y hy
      by_cases hcc:c'=c
      . subst hcc;exact ⟨a,c',_,_,h1,h2,h3,e',ho,rfl⟩
      . exact ⟨a,c',o',u,h1,h2,h3,(hs _ hcc).trans h4,h5,h6⟩
    . exact .inr ⟨hk,c,_,hc,e',ho,rfl⟩
    . rintro y u hy (⟨a,m,hm,hu⟩ | ⟨a,c',o',h1,h2,h3,h4⟩)
      . exact .inl ⟨a,m,hm.at' λo q=>(hs _ (Ne.symm hne)).trans q,hu⟩
      . refine .inr ⟨a,c',o',h1,(hs _ ?_).trans h2,h3,h4⟩
        intro z;obtain rfl:=z.symm;exact hy (sl.apart x y _ hx hc h1).symm
   dsimp only [storeName]
   rcases hk with hk | hk
   . simp only [hk,sl.kind];exact set
   . simp only [hk,sl.kind];exact set
end
theorem agL:entryFor table "proto.unchain"=some Builtin.«proto.unchain»:=entryFor_of_fast (by kernel_rfl)
section
theorem aj7{α:Type}{e:Addr}{oe:Obj}{vs:Array Value}{Q:α->Shared->Prop}(he:s.heap.get? e=some oe) (hd:oe.data=.fields vs) (hz:2<vs.size) (hand:HandOK A s.heap) (hne:A.handled≠some (.ref e))
  (k:∀ h' o',h'.get? e=some o'->o'.cls=oe.cls->Heap.SameBut e s.heap h'->E (.ref e) { s with heap:=h' }):wpAny (model pg γ.w) A (raiseNew (.ref e):Sem α) Q E s:=by
 dsimp only [raiseNew]
 refine atY (wpAny_handled ?_)
 rcases hand with h | ⟨x,o,xs,h1,h2,h3,h4,h5⟩
 . rw [h]
   exact atY (at3 (wpAny_throw (k s.heap oe he rfl (Heap.SameBut.refl ..))))
 . refine h1▸?_
   have hxe:(Value.ref x != Value.ref e)=true:=by
    rw [bne_iff_ne,ne_eq,Value.ref.injEq]
    intro z;obtain rfl:=z.symm;exact hne h1
   simp only [hxe,if_true]
   refine atY (aud (wpAny_runValue (codeAny_builtin agL ?_)))
   refine atY (auo h2 h4 h5 ?_)
   refine atY (at3 (at3 ?_))
   refine atY ?_
   exact wpAny_setField he hd hz (wpAny_throw (k _ _ (auA _ he (Obj.isFreed_of_fields (Obj.data_mapFields hd _))) (Obj.cls_mapFields ..) (auB ..)))
theorem afe{α:Type}{Q:α->Shared->Prop}(hand:HandOK A s.heap)
  (k:∀ h' e o',h'.get? e=some o'->o'.cls=.type "StopIteration"->(∀ b o,s.heap.get? b=some o->h'.get? b=some o)->E (.ref e) { s with heap:=h' }) :
  wpAny (model pg γ.w) A (newExc (.type "StopIteration") [] >>= λe=>(raiseNew e:Sem α)) Q E s:=by
 refine atY ?_
 refine atY (auD ?_ (by size_fits))
 refine atY (m:=firstArgMember _ _) (wpAny_of_eq (a:=Value.none) (by first | rfl | (simp only [firstArgMember];rfl)) ?_)
 refine auD ?_ (by size_fits)
 have up:∀ b o,s.heap.get? b=some o->((s.heap.push { cls:=.type "tuple",data:=.seq ([]:List Value).toArray }).push { cls:=.type "StopIteration",data:=.fields (#[.ref s.heap.objs.size,.none,.none,.none,.bool false,.none]++ownMembersOf (.type "StopIteration") []) }).get? b=some o:=
  λb o e=>atZ _ (atZ _ e)
 have fr:(s.heap.push { cls:=.type "tuple",data:=.seq ([]:List Value).toArray }).objs.size=s.heap.objs.size+1:=auP ..
 refine aj7 (at4 _ rfl) rfl (au2 rfl) ?_ ?_ (λh' o' e1 e2 e3=>k h' _ o' e1 e2 λb o e=>e3.extBut b o ?_ (up b o e))
 . refine (hand).elim ?_ ?_
   . rintro h
     exact .inl h
   . rintro ⟨x,o,xs,h1,h2,r⟩
     exact .inr ⟨x,o,xs,h1,up _ _ h2,r⟩
 . intro z
   rcases hand with h | ⟨x,o,xs,h1,h2,r⟩
   . replace z:=h▸z;exact nos z
   . rw [h1] at z
     have:=aua h2
     have e:=congrArg (λv:Option Value=>match v with | some (.ref a)=>a | _=>0) z
     simp only at e
     rw [fr] at e
     exact absurd e (aum (auv this))
 . have:=aua e
   show b≠_
   rw [fr];exact aum (auv this)
theorem aff{it t:Addr}{i:Nat} {items}{Q:Option Value->Shared->Prop}(hh:HandOK A s.heap)
  (hit:IsTupIter s.heap it t i) (ht:IsTup s.heap t items) (hx:items[i]?=none) (hne:A.handled≠some (.ref it))
  (hQ:∀ h',Heap.ExtBut it s.heap h'->(∃ o',h'.get? it=some o')->Q none { s with heap:=h' }):wpAny (model pg γ.w) A (pyNext (.ref it)) Q E s:=by
 refine (id hit).elim λo hX1=>hX1.elim λho hX2=>hX2.elim λhc hd=>?_
 refine (ht).elim λol hX1=>hX1.elim λhol hX2=>hX2.elim λ_ hX3=>hX3.elim λnl hdl=>?_
 refine atY (wpAny_attempt (auC (name:=Str.ofString "__next__") hit.typeIs slot_tupleiter_next
  (auO slot_tupleiter_next hit.typeIs entry_tupleiter_next ?_ (args_tupleiter_next _))))
 show wpAny _ _ (field (.ref it) 0 >>= _) _ _ s
 refine atY (auo ho hd (x:=.ref t) rfl ?_)
 refine atY (auo ho hd (x:=.int i 0) rfl ?_)
 refine atY (au3 hol hdl ?_)
 simp only [Int.toNat_natCast,hx]
 refine atY (wpAny_rule (atY (wpAny_setField ho hd ((auh _)) ?_)))
 refine afe (s:={ s with heap:=s.heap.update it (Obj.mapFields (·.setIfInBounds 0 Value.none)) }) ?_ λh' e o' e1 e2 e3=>?_
 . refine (hh).elim ?_ ?_
   . rintro h
     exact .inl h
   . rintro ⟨x,o,xs,h1,h2,r⟩
     refine .inr ⟨x,o,xs,h1,(Heap.get?_update_ne _ _ _ _ ?_).trans h2,r⟩
     intro z;obtain rfl:=z.symm;exact hne h1
 . refine atY (wpAny_isInstance (T:="StopIteration") (b:=true) ⟨_,e1,e2⟩ isSubtype_stop ?_)
   exact at3 (hQ _ (λb o hb e=>e3 b o ((Heap.get?_update_ne _ _ _ _ hb).trans e)) ⟨_,e3 _ _ (auA (Obj.mapFields (·.setIfInBounds 0 Value.none)) ho (Obj.isFreed_of_fields (Obj.data_mapFields hd _)))⟩)
end
set_option backward.match.sparseCases false
section
theorem aj8 (hh:HandOK A s.heap):A.handled≠some (.ref s.heap.objs.size):=by
 intro z
 refine (hh).elim ?_ ?_
 . rintro h
   replace z:=h▸z;exact nos z
 . rintro ⟨x,o,xs,h1,h2,r⟩
   replace z:=h1▸z;cases z;exact auH _ (aua h2)
theorem HandOK.keeps{h h':Heap}(hh:HandOK A h) (k:∀ b o,h.get? b=some o->h'.get? b=some o):HandOK A h':=
 hh.imp id λhX=>hX.elim λx hX1=>hX1.elim λo hX2=>hX2.elim λxs hX3=>hX3.elim λh1 hX4=>hX4.elim λh2 r=>⟨x,o,xs,h1,k _ _ h2,r⟩
theorem aaG{t:Addr}{items:Array Value}{Q:List Value->Shared->Prop}(hh:HandOK A s.heap) (ht:IsTup s.heap t items)
  (hQ:∀ h',(∀ b o,s.heap.get? b=some o->h'.get? b=some o)->Q items.toList { s with heap:=h' }):wpAny (model pg γ.w) A (unpackItems (.ref t) items.size none) Q E s:=by
 have hlt:t≠s.heap.objs.size:=by obtain ⟨o,ho,_⟩:=ht;exact aum (aua ho)
 have old:∀ {b:Addr}{o:Obj},s.heap.get? b=some o->b≠s.heap.objs.size:=λe=>aum (aua e)
 refine atY ?_
 refine atY (wpAny_specialOf ht.typeIs slot_tuple_iter.lookup ?_)
 refine at3 ?_
 refine atY (aud (iter_tuple ht ?_))
 refine atY (aud (draw_tuple hlt items.size 0 _ _ ⟨_,at4 _ rfl,rfl,rfl⟩ (ht.push _) (by simp) λak cL aF=>?_))
 have hall:List.take items.size (List.drop 0 items.toList)=items.toList:=by
  refine List.drop_zero▸?_;exact List.take_of_length_le (by simp)
 refine hall.symm▸?_
 rw [if_neg (by simp)]
 have up:∀ b o,s.heap.get? b=some o->ak.get? b=some o:=λb o e=>aF.extBut b o (old e) (atZ _ e)
 refine atY (aud (aff (hh.keeps up) cL ((ht.push _).extBut aF.extBut hlt) (by simp) (aj8 hh) λaq bu _=>?_))
 exact at3 (hQ aq λb o e=>bu b o (old e) (up b o e))
noncomputable def abX:Expr->Option Str
 | .Name x _=>some x
 | _=>none
structure Fm (X V:aag) (s:Shared) (env:Env) (sc:aad) (ρ:aab):Prop where
 slots:Slots X s.heap env sc
 vars:VarsOK V s.heap env ρ
 off:Off X V
theorem lookup_cons{x y:Str}{t:T}:((x,t) ::ρ).lookup y=if y==x then some t else ρ.lookup y:=by
 rw [List.lookup_cons];cases y==x <;> rfl
theorem af6{x:Str}{v:Value}{t:T}{Q:Unit->Shared->Prop}(f:Fm X V s env sc ρ) (own:abW sc x=true) (hr:Rep V s.heap v t)
  (k:∀ s',ExtX X s s'->Slots X s'.heap env sc->VarsOK V s'.heap env ((x,t) ::ρ)->Q () s'):wpAny (model pg γ.w) A (storeName env x v) Q E s:=by
 refine af5 f.slots own λs' e sl sx so=>k s' e sl λy u hy=>?_
 rw [lookup_cons] at hy
 by_cases h:y=x
 . obtain rfl:=h.symm
   rw [if_pos (by simp)] at hy
   cases hy
   exact ⟨v,sx,hr.extX e f.off⟩
 . rw [if_neg (by simpa using h)] at hy
   obtain ⟨z,a,b⟩:=f.vars y u hy
   exact ⟨z,so y z h a,b.extX e f.off⟩
end
set_option backward.match.sparseCases true
section
theorem aed{it l:Addr}{i:Nat} {items}{x:Value}{Q:Value->Shared->Prop}(hit:s.heap.IsTupleIter it l i) (hl:s.heap.IsTuple l items) (hx:items[i]?=some x)
  (hQ:∀ h',h'.IsTupleIter it l (i+1)->Heap.SameBut it s.heap h'->Q x { s with heap:=h' }):wpAny (model pg γ.w) A (Builtin.SmallTypes.nextOf (.ref it)) Q E s:=by
 refine (id hit).elim λo hX1=>hX1.elim λho hX2=>hX2.elim λhc hd=>?_
 refine (hl).elim λol hX1=>hX1.elim λhol hX2=>hX2.elim λ_ hX3=>hX3.elim λnl hdl=>?_
 refine atY (auC (name:=Str.ofString "__next__") hit.typeIs F.slot_tuple_iterator_next
  (auO F.slot_tuple_iterator_next hit.typeIs F.entry_tuple_iterator_next ?_ (F.args_tuple_iterator_next_1 _)))
 show wpAny _ _ (field (.ref it) 0 >>= _) _ _ s
 refine atY (auo ho hd (x:=.ref l) rfl ?_)
 refine atY (auo ho hd (x:=.int i 0) rfl ?_)
 refine atY (au3 hol hdl ?_)
 simp only [Int.toNat_natCast,hx]
 refine atY (wpAny_setField ho hd (by exact at2 rfl) (at3 ⟨x,rfl,at3 (hQ _ ?_ (auB ..))⟩))
 exact ⟨_,auA _ ho (Obj.isFreed_of_fields (Obj.data_mapFields hd _)),(Obj.cls_mapFields ..).trans hc,by
  rw [Obj.data_mapFields hd];simp [rawInt]⟩
theorem aeI{it l:Addr}{i:Nat} {items}{Q:Value->Shared->Prop}(hh:A.handled=none) (hit:s.heap.IsTupleIter it l i) (hl:s.heap.IsTuple l items) (hx:items[i]?=none)
  (hE:∀ h' e,Heap.ExtBut it s.heap h'->(∃ o,h'.get? e=some o/\o.cls=.type "StopIteration")->E (.ref e) { s with heap:=h' }):wpAny (model pg γ.w) A (Builtin.SmallTypes.nextOf (.ref it)) Q E s:=by
 refine (id hit).elim λo hX1=>hX1.elim λho hX2=>hX2.elim λhc hd=>?_
 refine (hl).elim λol hX1=>hX1.elim λhol hX2=>hX2.elim λ_ hX3=>hX3.elim λnl hdl=>?_
 refine atY (auC (name:=Str.ofString "__next__") hit.typeIs F.slot_tuple_iterator_next
  (auO F.slot_tuple_iterator_next hit.typeIs F.entry_tuple_iterator_next ?_ (F.args_tuple_iterator_next_1 _)))
 show wpAny _ _ (field (.ref it) 0 >>= _) _ _ s
 refine atY (auo ho hd (x:=.ref l) rfl ?_)
 refine atY (auo ho hd (x:=.int i 0) rfl ?_)
 refine atY (au3 hol hdl ?_)
 simp only [Int.toNat_natCast,hx]
 refine atY (wpAny_rule (atY (wpAny_setField ho hd ((auh _)) ?_)))
 refine afe (s:={ s with heap:=s.heap.update it (Obj.mapFields (·.setIfInBounds 0 Value.none)) }) (.inl hh) λh' e o' e1 e2 e3=>?_
 exact hE h' e (λb o hb e=>e3 b o ((Heap.get?_update_ne _ _ _ _ hb).trans e)) ⟨o',e1,e2⟩
theorem afg (hh:A.handled=none) (it l:Addr) (hne:l≠it) (items:Array Value) :
  Draws pg γ.w A it [it,l] items.size (λi v=>items[i]?=some v) (λi h=>h.IsTupleIter it l i/\h.IsTuple l items) where
 live:=λ_ _ st=>(st.1).elim λo hX1=>hX1.elim λho _=>⟨o,ho⟩
 frame:=λ_ _ _ st hk=>⟨st.1.at λo e=>hk it ((.head _)) o e,st.2.at λo e=>hk l ((.tail _ (.head _))) o e⟩
 item:=λi s Q E hi st hQ=>by
  refine aed st.1 st.2 (x:=items[i]) (by simp) λh' hit' hs'=>?_
  exact hQ _ h' s.toks (by simp) ⟨hit',st.2.extBut hs'.extBut hne⟩ hs'
 done:=λs Q E st hE=>aeI hh st.1 st.2 (by simp) hE
noncomputable abbrev IsZ (h:Heap) (z TI TO:Addr) (f0:Value) (f1:Bool):Prop:=
 h.get? z=some { cls:=.type "zip",dict:=none,data:=.fields #[f0,.bool f1,.bool false,.ref TI,.ref TO],slots:=#[] }
structure ZApart (z TI TO i1 i2:Addr) (fp1 fp2:List Addr):Prop where
 TIz:TI≠z
 TOz:TO≠z
 TITO:TI≠TO
 TIi1:TI≠i1
 TIi2:TI≠i2
 TOi1:TO≠i1
 TOi2:TO≠i2
 i1z:i1≠z
 i2z:i2≠z
 z1:z∉fp1
 z2:z∉fp2
 t1:TO∉fp1
 t2:TO∉fp2
 i12:i1∉fp2
 i21:i2∉fp1
variable{z TI TO i1 i2:Addr}{fp1 fp2:List Addr}{P1 P2:Nat->Value->Prop}{St1 St2:Nat->Heap->Prop}
noncomputable def apq (f0:Value):Prop:=f0=.none\/∃ T:Addr,f0=rawInt T
theorem als{a:Addr}{Q:Option Obj->Shared->Prop}(h:Q (s.heap.get? a) s):wpAny (model pg γ.w) A (loadIfAlive a) Q E s:=λ_ _ _=>h
theorem af7{f0:Value}{f1:Bool}{Q:Bool->Shared->Prop}(hz:IsZ s.heap z TI TO f0 f1) (ho:apq f0) (h1:Q true s)
  (h2:∀ h' f1',IsZ h' z TI TO f0 f1'->Heap.SameBut z s.heap h'->Q false { s with heap:=h' }):wpAny (model pg γ.w) A (Builtin.SmallTypes.ownedTupleIsFree (.ref z)) Q E s:=by
 refine (ho).elim ?_ ?_
 . rintro rfl
   exact atY (auo hz rfl (x:=.none) rfl (at3 h1))
 . rintro ⟨T,rfl⟩
   refine atY (auo hz rfl (x:=rawInt T) rfl ?_)
   show wpAny _ _ (loadIfAlive ((T:Int).toNat) >>= _) _ _ _
   rw [Int.toNat_natCast]
   refine atY (als ?_)
   cases hT:s.heap.get? T with
   | none=>dsimp only [Option.isNone_none,if_true];exact at3 h1
   | some oT=>
    refine atY (auo hz rfl (x:=.bool f1) rfl ?_)
    cases f1 with
    | true=>
     exact at3 (h2 s.heap true hz (Heap.SameBut.refl ..))
    | false=>
     exact atY (au4 hz (by exact at2 rfl) λaB d9 aA=>at3 (h2 aB true d9 aA))
theorem adp{k:Nat}{f0 a b:Value}{f1:Bool}{Q:Value->Shared->Prop}(D1:Draws pg γ.w A i1 fp1 n P1 St1) (D2:Draws pg γ.w A i2 fp2 n P2 St2) (D:ZApart z TI TO i1 i2 fp1 fp2)
  (hz:IsZ s.heap z TI TO f0 f1) (ho:apq f0) (hTI:IsPair s.heap TI (.ref i1) (.ref i2)) (hTO:IsPair s.heap TO a b) (h1:St1 k s.heap) (h2:St2 k s.heap) (hk:k<n)
  (hQ:∀ h' tk f0' f1' x y a' b' T,P1 k x->P2 k y->IsZ h' z TI TO f0' f1'->apq f0'->IsPair h' TO a' b'->St1 (k+1) h'->St2 (k+1) h'->IsPair h' T x y->s.heap.get? T=none->
    (∀ c o,c≠z->c≠TO->c≠i1->c≠i2->s.heap.get? c=some o->h'.get? c=some o)->Q (.ref T) { s with heap:=h',toks:=tk }) :
  wpAny (model pg γ.w) A (Builtin.«zip.__next__» ⟨[.ref z],[]⟩) (λfin s'=>∃ v,fin=.done (.ret v)/\Q v s') E s:=by
 show wpAny _ _ (field (.ref z) 2 >>= _) _ _ _
 refine atY (auo hz rfl (x:=.bool false) rfl ?_)
 refine atY (auo hz rfl (x:=.ref TI) rfl ?_)
 refine atY (au3 hTI rfl ?_)
 refine atY (af7 hz ho ?_ λak f1' aN aF=>?_)
 . refine atY (wpAny_rule ?_)
   refine atY (auo hz rfl (x:=.ref TO) rfl ?_)
   refine atY (au4 hz ((auh _)) λak aN aF=>?_)
   replace aN:IsZ ak z TI TO .ellipsis f1:=aN
   refine atY ?_
   simp only [List.zipIdx_cons,List.zipIdx_nil,List.forIn_cons,List.forIn_nil]
   have aU:St1 k ak:=D1.frame _ _ _ h1 λb hb o e=>aF.extBut _ _ (λq=>D.z1 (q▸hb)) e
   have cM:St2 k ak:=D2.frame _ _ _ h2 λb hb o e=>aF.extBut _ _ (λq=>D.z2 (q▸hb)) e
   refine atY (atY (wpAny_onRaise ?_))
   refine atY (D1.item k _ _ _ hk aU λx aq da hx bJ aH=>at3 ?_)
   have c9:IsPair aq TO a b:=aH.extBut _ _ D.TOi1 (aF.extBut _ _ D.TOz hTO)
   have cN:St2 k aq:=D2.frame _ _ _ cM λb hb o e=>aH.extBut _ _ (λq=>D.i12 (q▸hb)) e
   refine atY (au3 c9 rfl ?_)
   refine atY (wpAny_updateSeq_pair c9 λaB bK aA=>?_)
   refine atY (wpAny_letGo (at3 ?_))
   have bL:St1 (k+1) aB:=D1.frame _ _ _ bJ λb hb o e=>aA.extBut _ _ (λq=>D.t1 (q▸hb)) e
   have bM:St2 k aB:=D2.frame _ _ _ cN λb hb o e=>aA.extBut _ _ (λq=>D.t2 (q▸hb)) e
   refine atY (atY (wpAny_onRaise ?_))
   refine atY (D2.item k _ _ _ hk bM λy aO dW hy cO aZ=>at3 ?_)
   have ca:IsPair aO TO x b:=aZ.extBut _ _ D.TOi2 bK
   have cP:St1 (k+1) aO:=D1.frame _ _ _ bL λb hb o e=>aZ.extBut _ _ (λq=>D.i21 (q▸hb)) e
   refine atY (au3 ca rfl ?_)
   refine atY (wpAny_updateSeq_pair ca λax bw b5=>?_)
   replace bw:IsPair ax TO x y:=bw
   refine atY (wpAny_letGo (at3 (at3 ?_)))
   have cQ:St1 (k+1) ax:=D1.frame _ _ _ cP λb hb o e=>b5.extBut _ _ (λq=>D.t1 (q▸hb)) e
   have cR:St2 (k+1) ax:=D2.frame _ _ _ cO λb hb o e=>b5.extBut _ _ (λq=>D.t2 (q▸hb)) e
   refine atY (au3 bw rfl ?_)
   refine atY (wpAny_newTuple ?_)
   have hsz:ax.objs.size=s.heap.objs.size:=by rw [b5.1,aZ.1,aA.1,aH.1,aF.1]
   have db:∀ c o,c≠z->c≠TO->c≠i1->c≠i2->s.heap.get? c=some o->ax.get? c=some o:=λc o c1 c2 c3 c4 e=>
    b5.extBut _ _ c2 (aZ.extBut _ _ c4 (aA.extBut _ _ c2 (aH.extBut _ _ c3 (aF.extBut _ _ c1 e))))
   refine atY ?_
   have dc:IsZ (ax.push { cls:=.type "tuple",data:=.seq #[x,y] }) z TI TO .ellipsis f1:=atZ _ (b5.extBut _ _ D.TOz.symm (aZ.extBut _ _ D.i2z.symm (aA.extBut _ _ D.TOz.symm (aH.extBut _ _ D.i1z.symm aN))))
   refine atY (au4 dc ((auh _)) λaC bR cw=>?_)
   replace bR:IsZ aC z TI TO (rawInt ax.objs.size) f1:=bR
   refine au4 bR (by exact at2 rfl) λbN de cy=>?_
   have up:∀ c o,c≠z->ax.get? c=some o->bN.get? c=some o:=λc o c1 e=>cy.extBut _ _ c1 (cw.extBut _ _ c1 (atZ _ e))
   refine at3 ⟨_,rfl,?_⟩
   show Q (.ref ax.objs.size) _
   exact hQ bN _ _ _ x y x y ax.objs.size hx hy de (.inr ⟨ax.objs.size,rfl⟩) (up _ _ D.TOz bw) (D1.frame _ _ _ cQ λb hb o e=>up _ o (λq=>D.z1 (q▸hb)) e) (D2.frame _ _ _ cR λb hb o e=>up _ o (λq=>D.z2 (q▸hb)) e) (cy.extBut _ _ (auJ (aua (b5.extBut _ _ D.TOz.symm (aZ.extBut _ _ D.i2z.symm (aA.extBut _ _ D.TOz.symm (aH.extBut _ _ D.i1z.symm aN)))))) (cw.extBut _ _ (auJ (aua (b5.extBut _ _ D.TOz.symm (aZ.extBut _ _ D.i2z.symm (aA.extBut _ _ D.TOz.symm (aH.extBut _ _ D.i1z.symm aN)))))) (at4 _ rfl)))
    (at6 (aub hsz.symm)) λc o c1 c2 c3 c4 e=>up c o c1 (db c o c1 c2 c3 c4 e)
 . have aU:St1 k ak:=D1.frame _ _ _ h1 λb hb o e=>aF.extBut _ _ (λq=>D.z1 (q▸hb)) e
   have cS:IsPair ak TO a b:=aF.extBut _ _ D.TOz hTO
   refine atY ?_
   simp only [List.forIn_toArray,List.forIn_cons,List.forIn_nil]
   refine atY (atY (aud ?_))
   refine atY (D1.item k _ _ _ hk aU λx aq da hx bJ aH=>at3 (at3 ?_))
   refine atY (atY (aud ?_))
   refine atY (D2.item k _ _ _ hk (D2.frame _ _ _ (D2.frame _ _ _ h2 λb hb o e=>aF.extBut _ _ (λq=>D.z2 (q▸hb)) e) λb hb o e=>aH.extBut _ _ (λq=>D.i12 (q▸hb)) e:St2 k aq) λy aB dX hy bM aA=>at3 (at3 (at3 ?_)))
   have bL:St1 (k+1) aB:=D1.frame _ _ _ bJ λb hb o e=>aA.extBut _ _ (λq=>D.i21 (q▸hb)) e
   have hsz:aB.objs.size=s.heap.objs.size:=by rw [aA.1,aH.1,aF.1]
   have bS:IsZ aB z TI TO f0 f1':=aA.extBut _ _ D.i2z.symm (aH.extBut _ _ D.i1z.symm aN)
   have bK:IsPair aB TO a b:=aA.extBut _ _ D.TOi2 (aH.extBut _ _ D.TOi1 cS)
   have df:∀ c o,c≠z->c≠TO->c≠i1->c≠i2->s.heap.get? c=some o->aB.get? c=some o:=λc o c1 c2 c3 c4 e=>
    aA.extBut _ _ c4 (aH.extBut _ _ c3 (aF.extBut _ _ c1 e))
   refine atY (wpAny_newTuple ?_ (aaf (by exact at2 rfl)))
   refine at3 ⟨_,rfl,?_⟩
   have up:∀ c o,aB.get? c=some o->(aB.push { cls:=.type "tuple",data:=.seq #[x,y] }).get? c=some o:=λc o e=>atZ _ e
   exact hQ _ _ f0 f1' x y a b aB.objs.size hx hy (up _ _ bS) ho (up _ _ bK) (D1.frame _ _ _ bL λb hb o e=>up _ o e) (D2.frame _ _ _ bM λb hb o e=>up _ o e) (at4 _ rfl)
    (at6 (aub hsz.symm)) λc o c1 c2 c3 c4 e=>up c o (df c o c1 c2 c3 c4 e)
theorem adL{f0 a b:Value}{f1:Bool}{Q:Fin->Shared->Prop}(D1:Draws pg γ.w A i1 fp1 n P1 St1) (D:ZApart z TI TO i1 i2 fp1 fp2)
  (hz:IsZ s.heap z TI TO f0 f1) (ho:apq f0) (hTI:IsPair s.heap TI (.ref i1) (.ref i2)) (hTO:IsPair s.heap TO a b) (h1:St1 n s.heap)
  (hE:∀ h' e,(∀ c o,c≠z->c≠TO->c≠i1->c≠i2->s.heap.get? c=some o->h'.get? c=some o)->(∃ o,h'.get? e=some o/\o.cls=.type "StopIteration")->E (.ref e) { s with heap:=h' }) :
  wpAny (model pg γ.w) A (Builtin.«zip.__next__» ⟨[.ref z],[]⟩) Q E s:=by
 show wpAny _ _ (field (.ref z) 2 >>= _) _ _ _
 refine atY (auo hz rfl (x:=.bool false) rfl ?_)
 refine atY (auo hz rfl (x:=.ref TI) rfl ?_)
 refine atY (au3 hTI rfl ?_)
 refine atY (af7 hz ho ?_ λak f1' aN aF=>?_)
 . refine atY (wpAny_rule ?_)
   refine atY (auo hz rfl (x:=.ref TO) rfl ?_)
   refine atY (au4 hz ((auh _)) λak aN aF=>?_)
   replace aN:IsZ ak z TI TO .ellipsis f1:=aN
   refine atY ?_
   have aU:St1 n ak:=D1.frame _ _ _ h1 λb hb o e=>aF.extBut _ _ (λq=>D.z1 (q▸hb)) e
   refine atY (atY (wpAny_onRaise ?_))
   refine atY (D1.done _ _ _ aU λaq e aH he=>?_)
   obtain ⟨oe,hoe,hce⟩:=he
   have cz:IsZ aq z TI TO .ellipsis f1:=aH _ _ D.i1z.symm aN
   have hez:e≠z:=λx=>by obtain rfl:=x.symm;replace hoe:=cz▸hoe;cases hoe;simp at hce
   refine au4 cz ((auh _)) λaB _ aA=>hE aB e (λc o c1 _ c3 _ x=>aA.extBut _ _ c1 (aH _ _ c3 (aF.extBut _ _ c1 x))) ⟨oe,aA.extBut _ _ hez hoe,hce⟩
 . have aU:St1 n ak:=D1.frame _ _ _ h1 λb hb o e=>aF.extBut _ _ (λq=>D.z1 (q▸hb)) e
   refine atY ?_
   refine atY (atY (aud ?_))
   exact atY (D1.done _ _ _ aU λaq e aH he=>hE aq e (λc o c1 _ c3 _ x=>aH _ _ c3 (aF.extBut _ _ c1 x)) he)
end
noncomputable def aa9 (h:Heap) (b:Addr):Prop:=∃ o,h.get? b=some o/\o.cls≠.none/\o.cls≠.type "code"/\∀ vs x t,o.data=.fields vs->vs[1]?≠some (.str x t)
theorem TabInv.wr{h h':Heap}{wr:Addr->Prop}(x:TabInv h) (q:∀ b,wr b->aa9 h b) (k:∀ b o,¬ wr b->h.get? b=some o->h'.get? b=some o):TabInv h':=λp hp=>by
 have off:∀ {b o'},h.get? b=some o'->(∀ o,h.get? b=some o->o.cls≠.none->o.cls≠.type "code"->(∀ vs x t,o.data=.fields vs->vs[1]?≠some (.str x t))->False)->h'.get? b=some o':=λ{b o'} e d=>k b o' (λz=>by
  obtain ⟨o,e',n1,n2,n3⟩:=q b z
  exact d o e' n1 n2 n3) e
 exact (x p hp).move (λo vs e c _ _=>off e λo' e' _ n _=>n (soi (e'.symm.trans e)▸c)) (λps e=>off e λo' e' n _ _=>n (soi (e'.symm.trans e)▸rfl)) λe d z=>off e λo' e' _ _ n=>n _ _ _ (soi (e'.symm.trans e)▸d) z
theorem ExtX.wr{W:aag}{s:Shared}{h':Heap}{tk:Nat}{wr:List Addr}(hw:∀ b∈wr,W b) (q:∀ b∈wr,aa9 s.heap b) (k:∀ b o,b∉wr->s.heap.get? b=some o->h'.get? b=some o):ExtX W s { s with heap:=h',toks:=tk } where
 keep:=λb o _ n e=>k b o (λz=>n (hw b z)) e
 keepC:=λb o _ n e=>k b o (λz=>n (hw b z)) e
 there:=λb n e=>by
  cases q:s.heap.get? b with
  | none=>rfl
  | some o=>exact nos (e.symm.trans (k b o (λz=>n (hw b z)) q))
 tab:=λx=>x.wr q k
 os:=rfl
 gens:=id
section
variable (γ:Gm)
noncomputable def TItem (target:Expr) (V:aag) (h:Heap) (v:Value) (t:T):Prop:=
 Rep V h v t\/(∃ es k p,target=.Tuple es k p)/\∃ T vals ts,v=.ref T/\h.IsTuple T vals/\t=.tup ts/\RepL V h vals.toList ts
structure Turns (A:Around) (target:Expr) (I:Addr) (W V:aag) (items:List T) (St:Nat->Shared->Prop):Prop where
 frame:∀ i s s' (Y:aag),(∀ b,Y b->¬ V b/\¬ W b)->St i s->ExtX Y s s'->St i s'
 live:∀ i s,St i s->∀ b,W b->∃ o,s.heap.get? b=some o
 item:∀ i t s (Q:Option Value->Shared->Prop) (E:Value->Shared->Prop),items[i]?=some t->St i s->
  (∀ v a8,ExtX W s a8->(∀ (Q':Unit->Shared->Prop) (E':Value->Shared->Prop),(∀ aa,ExtX W s aa->St (i+1) aa->TItem target (λa=>V a\/s.heap.get? a=none) aa.heap v t->Q' () aa)->
    wpAny (model pg γ.w) A (letOwnedTupleGo target (.ref I) v) Q' E' a8)->Q (some v) a8)->wpAny (model pg γ.w) A (pyNext (.ref I)) Q E s
 done:∀ s (Q:Option Value->Shared->Prop) (E:Value->Shared->Prop),HandOK A s.heap->St items.length s->(∀ s',ExtX W s s'->Q none s')->wpAny (model pg γ.w) A (pyNext (.ref I)) Q E s
 self:∀ i s (Q:Value->Shared->Prop) (E:Value->Shared->Prop),St i s->Q (.ref I) s->wpAny (model pg γ.w) A (pyIter (.ref I)) Q E s
end
section
variable{target:Expr}{I:Addr}{fp wr:List Addr}{P Md:Nat->Value->Heap->Prop}{St:Nat->Heap->Prop}{W:aag}{R:Heap->Prop}{items:List T}
theorem Turns.ofK (KT:KTurns pg γ.w A target I fp wr n P Md St) (hlen:items.length=n) (hw:∀ b∈wr,W b) (hfp:∀ b∈fp,(V b\/W b)/\b∉aa7) (hoff:∀ b,V b->¬ W b)
  (qs:∀ i h,St i h->∀ b∈wr,aa9 h b) (qm:∀ i v h,Md i v h->∀ b∈wr,aa9 h b) (lv:∀ i h,St i h->∀ b,W b->∃ o,h.get? b=some o)
  (hR:∀ h h':Heap,R h->(∀ b o,o.cls≠.none->V b->h.get? b=some o->h'.get? b=some o)->R h')
  (hP:∀ i v h t,items[i]?=some t->P i v h->R h->TItem target V h v t)
  (hs:∀ i s (Q:Value->Shared->Prop) (E:Value->Shared->Prop),St i s.heap->Q (.ref I) s->wpAny (model pg γ.w) A (pyIter (.ref I)) Q E s) :
  Turns γ A target I W V items λi s=>St i s.heap/\R s.heap where
 frame:=λi s s' Y hY st x=>⟨KT.frame i _ _ st.1 λb hb o e=>x.keep b o (hfp b hb).2 (λy=>((hfp b hb).1.elim (hY b y).1 (hY b y).2)) e,hR _ _ st.2 λb o c v e=>x.keepC b o c (λy=>(hY b y).1 v) e⟩
 live:=λi s st b hb=>lv i _ st.1 b hb
 item:=λi t s Q E hi st hQ=>by
  have hlt:i<n:=by refine hlen▸?_;exact (List.getElem?_eq_some_iff.mp hi).1
  refine KT.item i s Q E hlt st.1 λv h' tk hm hk=>?_
  refine hQ v _ (ExtX.wr hw (qs _ _ st.1) hk) λQ' E' hQ'=>?_
  refine KT.go i v _ _ _ hm λaq hp av bU=>?_
  have x2:ExtX W s { s with heap:=aq,toks:=tk }:=ExtX.wr hw (qs _ _ st.1) (λb o hb e=>bU b o hb (hk b o hb e))
  have r2:R aq:=hR _ _ st.2 λb o c v e=>x2.keepC b o c (hoff b v) e
  refine hQ' _ x2 ⟨av,r2⟩ ?_
  rcases hP i v aq t hi hp r2 with z | ⟨a,T,vals,ts,b1,b2,b3,b4⟩
  . exact .inl (z.mono (λa h=>.inl h) λ_ _ _ _ e=>e)
  . exact .inr ⟨a,T,vals,ts,b1,b2,b3,b4.mono (λa h=>.inl h) λ_ _ _ _ e=>e⟩
 done:=λs Q E _ st hQ=>KT.done s Q E (hlen▸st.1) λh' tk hk=>hQ _ (ExtX.wr hw (qs _ _ st.1) hk)
 self:=λi s Q E st hQ=>hs i s Q E st.1 hQ
inductive Iters (γ:Gm) (A:Around) (target:Expr) (V:aag) (s:Shared) (items:List T) (it:Value) (s':Shared):Prop
 | mk (I:Addr) (W V':aag) (St:Nat->Shared->Prop) (e1:it=.ref I) (e2:Turns γ A target I W V' items St) (e3:St 0 s') (e4:Ext s s') (e5:∀ b,W b->s.heap.get? b=none) (e6:∀ a,V' a->V a/\¬ W a/\∃ o,s'.heap.get? a=some o):Iters γ A target V s items it s'
end
section
variable{target:Expr}
theorem acg{h:Heap}(x:TabInv h) {b:Addr}(hb:h.objs.size<=b):b∉aa7:=λz=>by
 obtain ⟨q,hq,e⟩:=ac6 b z
 obtain ⟨_,hp,_⟩:=(x q hq).tab
 exact Nat.not_lt.mpr hb (e▸aua hp)
theorem aaw{h:Heap}{b:Addr}{o:Obj}{n:String}{vs:Array Value}(e:h.get? b=some o) (c:o.cls=.type n) (hn:n≠"code") (d:o.data=.fields vs) (hv:∀ x t,vs[1]?≠some (.str x t)):aa9 h b:=
 ⟨o,e,λz=>nty (c.symm.trans z),λz=>hn (Value.type.inj (c.symm.trans z)),λvs' x t d'=>Data.fields.inj (d.symm.trans d')▸hv x t⟩
theorem ab9{h:Heap}{b:Addr}{n:String}{vs:Array Value}(x:∃ o,h.get? b=some o/\o.cls=.type n/\o.data=.fields vs) (hn:n≠"code") (hv:∀ x t,vs[1]?≠some (.str x t)):aa9 h b:=
 (x).elim λ_ hX1=>hX1.elim λe1 hX2=>hX2.elim λe2 e3=>aaw e1 e2 hn e3 hv
theorem alu{h:Heap}{b:Addr}{o:Obj}{n:String}{vs:Array Value}{k:Nat}(e:h.get? b=some o) (c:o.cls=.type n) (hn:n≠"code") (d:o.data=.seq vs k):aa9 h b:=
 ⟨o,e,λz=>nty (c.symm.trans z),λz=>hn (Value.type.inj (c.symm.trans z)),λvs' x t d'=>Data.noConfusion (d.symm.trans d')⟩
noncomputable abbrev liveIn (V:aag) (s:Shared):aag:=λa=>V a/\∃ o,s.heap.get? a=some o
theorem aim{V:aag}{vs:List Value}{l:List T}(h h':Heap) (r:RepL V h vs l) (k:∀ b o,o.cls≠.none->V b->h.get? b=some o->h'.get? b=some o):RepL V h' vs l:=
 r.mono (λ_ h=>h) λb o c v e=>k b o c v e
theorem aan{s:Shared}:s.heap.get? s.heap.objs.size=none:=at6 (auf _)
theorem abY{a:Addr}{o:Obj}(e:s.heap.get? a=some o):a≠s.heap.objs.size:=aum (aua e)
theorem abF{I:Addr}{P:Addr->Prop}(h:P I):∀ b∈[I],P b:=λb hb=>List.mem_singleton.mp hb▸h
theorem aey{I a:Addr}{P:Addr->Prop}(h:P I) (h':P a):∀ b∈[I,a],P b:=λb hb=>(List.mem_cons.mp hb).elim (λe=>e▸h) λhb=>List.mem_singleton.mp hb▸h'
theorem Iters.make{I:Addr}{fp wr:List Addr}{n:Nat}{P Md:Nat->Value->Heap->Prop}{St:Nat->Heap->Prop}{R:Heap->Prop}{items:List T}{h':Heap}(KT:KTurns pg γ.w A target I fp wr n P Md St) (hlen:items.length=n) (hn:∀ b∈wr,s.heap.get? b=none)
  (hfp:∀ b∈fp,b∉aa7/\(b∈wr\/liveIn V s b)) (qs:∀ i h,St i h->∀ b∈wr,aa9 h b) (qm:∀ i v h,Md i v h->∀ b∈wr,aa9 h b) (hR:∀ h h':Heap,R h->(∀ b o,o.cls≠.none->liveIn V s b->h.get? b=some o->h'.get? b=some o)->R h')
  (hP:∀ i v h t,items[i]?=some t->P i v h->R h->TItem target (liveIn V s) h v t) (hs:∀ i s (Q:Value->Shared->Prop) (E:Value->Shared->Prop),St i s.heap->Q (.ref I) s->wpAny (model pg γ.w) A (pyIter (.ref I)) Q E s)
  (st:St 0 h') (r:R h') (up:∀ b o,s.heap.get? b=some o->h'.get? b=some o):Iters γ A target V s items (.ref I) { s with heap:=h' }:=
 have no:∀ b,liveIn V s b->¬ b∈wr:=λb v hb=>let ⟨_,_,e⟩:=v;nos ((hn b hb).symm.trans e)
 ⟨I,(·∈wr),liveIn V s,_,rfl,Turns.ofK (W:=(·∈wr)) (R:=R) KT hlen (λb hb=>hb) (λb hb=>⟨(hfp b hb).2.symm,(hfp b hb).1⟩) no qs qm (λi h st b hb=>(qs i h st b hb).elim λo hX1=>hX1.elim λe _=>⟨o,e⟩) hR hP hs,⟨st,r⟩,Ext.of (tk:=s.toks) up,hn,λa v=>⟨v.1,no a v,let ⟨_,o,e⟩:=v;⟨o,up _ _ e⟩⟩⟩
theorem ajj{h:Heap}{vs:Array Value}{l:List T}{i:Nat}{v:Value}{t:T}(hi:l[i]?=some t) (hp:vs[i]?=some v) (hr:RepL V h vs.toList l):TItem target V h v t:=by
 refine (hr.get (i:=i) (v:=v) ((Array.getElem?_toList).trans (hp))).elim λu hX1=>hX1.elim λh1 h2=>?_
 exact .inl (soi (h1.symm.trans hi)▸h2)
theorem ain{a:Addr}{o:Obj}(tb:TabInv s.heap) (va:V a) (e:s.heap.get? a=some o) (c:o.cls≠.none):∀ b∈[s.heap.objs.size,a],b∉aa7/\(b∈[s.heap.objs.size]\/liveIn V s b):=
 aey ⟨acg tb (auf _),.inl (.head _)⟩ ⟨tb.off e c,.inr ⟨va,o,e⟩⟩
theorem af8 (hh:A.handled=none) (tb:TabInv s.heap) {v:Value}{l:List T}(r:Rep V s.heap v (.lst l)) :
  wpAny (model pg γ.w) A (pyIter v) (λit s'=>Iters γ A target V s l it s') E s:=
 aa3 r λa vs q va hp rs=>by
  clear r
  subst q
  obtain ⟨n,e⟩:=id hp
  exact wpAny_pyIter_list hp.isList (Iters.make (KTurns.ofWalks (Walks.list hh s.heap.objs.size a (abY e) vs) λi v s Q E st q=>letGo_listiter st.1 q) (R:=λh=>RepL (liveIn V s) h vs.toList l) (aac rs).symm (abF aan) (ain tb va e λz=>nty z)
   (λi h st=>abF (ab9 st.1 (by decide) λ_ _ z=>nomatch z)) (λi v h st=>abF (ab9 st.2.1 (by decide) λ_ _ z=>nomatch z)) (aim) (λi v h t hi hp hr=>ajj hi hp hr)
   (λi s Q E st q=>wpAny_pyIter_listiter st.1 q) ⟨⟨_,at4 _ rfl,rfl,rfl⟩,hp.isList.push _⟩ ((RepL.live rs).mono (λ_ h=>h) λb o _ _ e=>atZ _ e) λb o e=>atZ _ e)
theorem aio (hh:A.handled=none) (tb:TabInv s.heap) {v:Value}{l:List T}(r:Rep V s.heap v (.tup l)) :
  wpAny (model pg γ.w) A (pyIter v) (λit s'=>Iters γ A target V s l it s') E s:=
 abk r λa vs q va hl rs=>by
  clear r
  subst q
  refine (id hl).elim λol hZ8=>hZ8.elim λe hZ9=>hZ9.elim λec _=>?_
  exact iter_tuple hl (Iters.make (KTurns.ofWalks (Walks.tuple hh s.heap.objs.size a (abY e) vs) λi v s Q E st q=>letGo_tupleiter st.1 q) (R:=λh=>RepL (liveIn V s) h vs.toList l) (aac rs).symm (abF aan) (ain tb va e λz=>nty (ec.symm.trans z))
   (λi h st=>abF (ab9 st.1 (by decide) λ_ _ z=>nomatch z)) (λi v h st=>abF (ab9 st.2.1 (by decide) λ_ _ z=>nomatch z)) (aim) (λi v h t hi hp hr=>ajj hi hp hr)
   (λi s Q E st q=>wpAny_pyIter_tupleiter st.1 q) ⟨⟨_,at4 _ rfl,rfl,rfl⟩,hl.push _⟩ ((RepL.live rs).mono (λ_ h=>h) λb o _ _ e=>atZ _ e) λb o e=>atZ _ e)
theorem RepD.get{h:Heap} {vs ts}(r:RepD V h vs ts):∀ {i:Nat} {p},vs[i]?=some p->∃ t,ts[i]?=some (p.1,t)/\Rep V h p.2 t:=
 abI (P:=λvs ts=>∀ {i:Nat}{p:Int×Value},vs[i]?=some p->∃ t,ts[i]?=some (p.1,t)/\Rep V h p.2 t) nos (λa _ ih=>λ{i v}=>match i with
  | 0=>λe=>soi e▸⟨_,rfl,a⟩
  | _+1=>λe=>ih e) r
theorem asB{V:aag}{vs:List (Int×Value)}{l:List (Int×T)}(h h':Heap) (r:RepD V h vs l) (k:∀ b o,o.cls≠.none->V b->h.get? b=some o->h'.get? b=some o):RepD V h' vs l:=
 r.mono (λ_ h=>h) λb o c v e=>k b o c v e
theorem apr{p:Program}{w:World}{k:Int}{v:Value}(h:(intKind p w).is k v=true):∃ t,v=.int k t:=by
 revert h
 cases v with
 | int i t=>exact λh=>⟨t,congrArg (Value.int · t) (eq_of_beq h)⟩
 | _=>exact ff
theorem ajk{p:Program}{w:World}{o:Obj}{kvs:List (Int×Value)}(hd:o.IsDictOf (intKind p w) kvs):o.cls≠.none:=λz=>by
 refine (hd).elim λ_ hX1=>hX1.elim λ_ hx=>?_
 exact nty (hx.1.1.symm.trans z)
theorem aj9 (hh:A.handled=none) (tb:TabInv s.heap) {v:Value}{l:List (Int×T)}(r:Rep V s.heap v (.dct l)) :
  wpAny (model pg γ.w) A (pyIter v) (λit s'=>Iters γ A target V s (l.map λp=>.int p.1) it s') E s:=
 acB r λa o kvs q va hs e hd rs=>by
  rw [q]
  obtain ⟨es,ep,hx⟩:=aaE (p':=pg) (w':=γ.w) hd
  have hat:s.heap.DictAt (intKind pg γ.w) a kvs ep:=⟨_,es,e,hx⟩
  exact wpAny_pyIter_dict hs hat (Iters.make (KTurns.ofWalks (Walks.dictKeys (knd:=intKind pg γ.w) hh s.heap.objs.size a (abY e) kvs ep) λi v s Q E st q=>letGo_keyiter st.1 q) (R:=λh=>RepD (liveIn V s) h kvs l) (by rw [List.length_map,<- rs.length]) (abF aan) (ain tb va e (ajk hd))
   (λi h st=>abF (ab9 st.1 (by decide) λ_ _ z=>nomatch z)) (λi v h st=>abF (ab9 st.2.1 (by decide) λ_ _ z=>nomatch z)) asB
   (λi v h t hi hq hr=>hq.elim λk hq=>hq.elim λx hq=>hq.elim λhk hi2=>by
     refine (hr.get (i:=i) hk).elim λu hX1=>hX1.elim λh1 h2=>?_
     obtain ⟨tk,rfl⟩:=apr hi2
     rw [List.getElem?_map,h1] at hi
     exact .inl (soi hi▸.int _ _))
   (λi s Q E st q=>wpAny_pyIter_keyiter st.1 q) ⟨⟨_,at4 _ rfl,rfl,rfl⟩,hat.push _⟩ ((RepD.live rs).mono (λ_ h=>h) λb o _ _ e=>atZ _ e) λb o e=>atZ _ e)
end
section
variable{target:Expr}
theorem aip{I:Addr}{o:Obj}{n:String}{vs:Array Value}{v:Value}{Q:Unit->Shared->Prop}(ho:s.heap.get? I=some o) (hc:o.cls=.type n) (hd:o.data=.fields vs)
  (hn:(["enumerate","zip","dict_itemiterator","dict_reverseitemiterator","odict_iterator","itertools.zip_longest","itertools.pairwise"].contains n)=false) (h:Q () s):wpAny (model pg γ.w) A (letOwnedTupleGo target (.ref I) v) Q E s:=by
 cases target <;> first
  | exact at3 h
  | (cases v <;> first
      | exact at3 h
      | (refine atY (wpAny_load ho ?_)
         refine hc▸?_;refine hd▸?_
         show wpAny _ _ (if (["enumerate","zip","dict_itemiterator","dict_reverseitemiterator","odict_iterator","itertools.zip_longest","itertools.pairwise"].contains n&&_)=true then _ else _) _ _ _
         refine hn▸?_
         exact at3 h))
theorem aka{a b:Int}{i:Nat}{t:T}(h:(ab8 a b)[i]?=some t):t=.int (a+(i:Int)):=by
 unfold ab8 at h
 rw [List.getElem?_map] at h
 refine (Option.map_eq_some_iff.mp h).elim λj hX1=>hX1.elim λq e=>?_
 obtain ⟨z,e2⟩:=List.getElem?_eq_some_iff.mp q
 rw [List.getElem_range] at e2
 refine e▸?_;exact e2▸rfl
theorem afh (hh:A.handled=none) (tb:TabInv s.heap) {r:Addr}{a b:Int}{t u v:Tok}(hr:IsRange s.heap r a b 1 t u v) (h1:-(2^62)<=a) (h2:a<2^62) (h3:-(2^62)<=b) (h4:b<2^62) :
  wpAny (model pg γ.w) A (pyIter (.ref r)) (λit s'=>Iters γ A target V s (ab8 a b) it s') E s:=by
 refine wpAny_pyIter_range hr (small_one h1 h2 h3 h4) ?_
 refine (by rw [rangeSize_one];split <;> grind:Builtin.Range.rangeSize a b 1=((b-a).toNat:Int))▸?_
 refine Iters.make (R:=λ_=>True) (KTurns.ofWalks (Walks.range hh s.heap.objs.size a 1 (b-a).toNat) λi v s Q E st q=>aip st rfl rfl (rfl) q) (by unfold ab8;rw [List.length_map,List.length_range]) (abF aan) (abF ⟨acg tb (auf _),.inl (.head _)⟩)
  (λi h e=>abF (aaw e rfl (by decide) rfl λ_ _ z=>nomatch z)) (λi v h st=>abF (aaw st.2 rfl (by decide) rfl λ_ _ z=>nomatch z)) (λ_ _ _ _=>trivial)
  (λi v h t hi hp _=>(by obtain ⟨⟨tk,rfl⟩,_⟩:=(⟨hp,trivial⟩:_/\True);rw [aka hi,Int.mul_one];exact .inl (.int _ _))) (λi s Q E st q=>wpAny_pyIter_rangeiter st q) ?_ trivial λb o e=>atZ _ e
 rw [show a+((0:Nat):Int)*1=a by simp,show (((b-a).toNat:Nat):Int)-((0:Nat):Int)=(((b-a).toNat:Nat):Int) by simp]
 exact at4 _ rfl
noncomputable def SeqV (h:Heap) (v:Value) (vs:Array Value) (c:String):Prop:=(∃ a,v=.ref a/\h.IsList a vs/\c="list_iterator")\/(∃ a,v=.ref a/\h.IsTuple a vs/\c="tuple_iterator")
noncomputable def SeqIt (h:Heap) (v:Value) (vs:Array Value) (it:Addr) (i:Nat):Prop:=(∃ a,v=.ref a/\h.IsListIter it a i/\h.IsList a vs)\/(∃ a,v=.ref a/\h.IsTupleIter it a i/\h.IsTuple a vs)
theorem aeU{p:Program}{w:World}{v:Value}{vs:Array Value}{c:String}{Q:Value->Shared->Prop}(hv:SeqV s.heap v vs c) (h:Q (.ref s.heap.objs.size) { s with heap:=s.heap.push { cls:=.type c,data:=.fields #[v,.int 0 0] } }) :
  wpAny (model p w) A (pyIter v) Q E s:=by
 rcases hv with ⟨a,rfl,hl,rfl⟩ | ⟨a,rfl,hl,rfl⟩
 . exact wpAny_pyIter_list hl h
 . exact iter_tuple hl h
theorem SeqV.push{h:Heap}{v:Value}{vs:Array Value}{c:String}(x:SeqV h v vs c) (o:Obj):SeqV (h.push o) v vs c:=by
 refine (x).elim ?_ ?_
 . rintro ⟨a,e,hl,r⟩
   exact .inl ⟨a,e,hl.push _,r⟩
 . rintro ⟨a,e,hl,r⟩
   exact .inr ⟨a,e,hl.push _,r⟩
theorem abZ (hh:A.handled=none) {it a:Addr}(hne:a≠it) (items:Array Value) :
  Draws pg γ.w A it [it,a] items.size (λi v=>items[i]?=some v) (λi h=>SeqIt h (.ref a) items it i) where
 live:=λ_ _ st=>st.elim (λhZ1=>hZ1.elim λ_ hZ2=>hZ2.elim λ_ hZ3=>hZ3.elim λhZ4 _=>hZ4.elim λo hZ5=>hZ5.elim λho _=>⟨o,ho⟩) λhZ11=>hZ11.elim λ_ hZ12=>hZ12.elim λ_ hZ13=>hZ13.elim λhZ14 _=>hZ14.elim λo hZ15=>hZ15.elim λho _=>⟨o,ho⟩
 frame:=λi h h' st hk=>by
  rcases st with ⟨a',e,h1,h2⟩ | ⟨a',e,h1,h2⟩ <;> cases e
  . exact .inl ⟨a,rfl,h1.at λo e=>hk it (by simp) o e,h2.at λo e=>hk a (by simp) o e⟩
  . exact .inr ⟨a,rfl,h1.at λo e=>hk it (by simp) o e,h2.at λo e=>hk a (by simp) o e⟩
 item:=λi s Q E hi st hQ=>by
  rcases st with ⟨a',e,h1,h2⟩ | ⟨a',e,h1,h2⟩ <;> cases e
  . exact (Draws.list hh it a hne items).item i s Q E hi ⟨h1,h2⟩ λx h' tk hp hs=>hQ x h' tk hp (.inl ⟨a,rfl,hs.1,hs.2⟩)
  . exact (afg hh it a hne items).item i s Q E hi ⟨h1,h2⟩ λx h' tk hp hs=>hQ x h' tk hp (.inr ⟨a,rfl,hs.1,hs.2⟩)
 done:=λs Q E st hE=>by
  rcases st with ⟨a',e,h1,h2⟩ | ⟨a',e,h1,h2⟩ <;> cases e
  . exact (Draws.list hh it a hne items).done s Q E ⟨h1,h2⟩ hE
  . exact (afg hh it a hne items).done s Q E ⟨h1,h2⟩ hE
noncomputable abbrev zh1 (h:Heap) (v:Value) (c:String):Heap:=h.push { cls:=.type c,data:=.fields #[v,.int 0 0] }
noncomputable abbrev zh3 (h:Heap) (v1 v2:Value) (c1 c2:String):Heap:=(zh1 (zh1 h v1 c1) v2 c2).push { cls:=.type "tuple",data:=.seq #[.ref h.objs.size,.ref (zh1 h v1 c1).objs.size] }
noncomputable abbrev zh4 (h:Heap) (v1 v2:Value) (c1 c2:String):Heap:=(zh3 h v1 v2 c1 c2).push { cls:=.type "tuple",data:=.seq #[.none,.none] }
noncomputable abbrev zh5 (h:Heap) (v1 v2:Value) (c1 c2:String):Heap:=(zh4 h v1 v2 c1 c2).push { cls:=.type "zip",data:=.fields #[.none,.bool false,.bool false,.ref (zh1 (zh1 h v1 c1) v2 c2).objs.size,.ref (zh3 h v1 v2 c1 c2).objs.size] }
theorem agM (v1 v2:Value) (xs ys:Array Value) (c1 c2:String) :
  Meets (Builtin.«zip.__new__» ⟨[.type "zip",v1,v2],[]⟩) (λ_ R s=>SeqV s.heap v1 xs c1/\SeqV s.heap v2 ys c2/\
   R (.ok (.ret (.ref (zh4 s.heap v1 v2 c1 c2).objs.size))) { s with heap:=zh5 s.heap v1 v2 c1 c2 }):=
 .of_wp λprog w A R s h=>by
  obtain ⟨hp,g,d,tk,os⟩:=s;obtain ⟨hl1,hl2,h⟩:=h
  have hsub:=sub_zip
  have hL2:SeqV (Shared.heap ⟨hp.push { cls:=.type c1,data:=.fields #[v1,.int 0 0] },g,d,tk,os⟩) v2 ys c2:=hl2.push _
  wp_walk using aeU hl1,aeU hL2
  exact ⟨_,rfl,h⟩
theorem aez{v1 v2:Value}{xs ys:Array Value}{c1 c2:String}{Q:Value->Shared->Prop}(hl1:SeqV s.heap v1 xs c1) (hl2:SeqV s.heap v2 ys c2)
  (h:∀ h',IsZ h' (s.heap.objs.size+4) (s.heap.objs.size+2) (s.heap.objs.size+3) .none false->IsPair h' (s.heap.objs.size+2) (.ref s.heap.objs.size) (.ref (s.heap.objs.size+1))->
    IsPair h' (s.heap.objs.size+3) .none .none->SeqIt h' v1 xs s.heap.objs.size 0->SeqIt h' v2 ys (s.heap.objs.size+1) 0->
    (∀ c o,s.heap.get? c=some o->h'.get? c=some o)->Q (.ref (s.heap.objs.size+4)) { s with heap:=h' }) :
  wpAny (model pg γ.w) A (call (.type "zip") [v1,v2]) Q E s:=by
 refine callType_new F.called_zip (rfl) (F.typeCall_zip_2 _ _) (F.newCall_zip_2 _ _) (λobj=>F.args_object_init_3 obj _ _) F.entry_zip_new
  (agM v1 v2 xs ys c1 c2) ⟨hl1,hl2,?_⟩
 have z1:(zh1 s.heap v1 c1).objs.size=s.heap.objs.size+1:=auP ..
 have z2:(zh1 (zh1 s.heap v1 c1) v2 c2).objs.size=s.heap.objs.size+2:=by rw [Heap.size_push,z1]
 have z3:(zh3 s.heap v1 v2 c1 c2).objs.size=s.heap.objs.size+3:=by rw [Heap.size_push,z2]
 have g5:(zh5 s.heap v1 v2 c1 c2).get? (zh4 s.heap v1 v2 c1 c2).objs.size=some _:=at4 _ rfl
 have g4:(zh5 s.heap v1 v2 c1 c2).get? (zh3 s.heap v1 v2 c1 c2).objs.size=some _:=atZ _ (at4 _ rfl)
 have g3:(zh5 s.heap v1 v2 c1 c2).get? (zh1 (zh1 s.heap v1 c1) v2 c2).objs.size=some _:=atZ _ (atZ _ (at4 _ rfl))
 have g2:(zh5 s.heap v1 v2 c1 c2).get? (zh1 s.heap v1 c1).objs.size=some _:=atZ _ (atZ _ (atZ _ (at4 _ rfl)))
 have up:∀ c o,s.heap.get? c=some o->(zh5 s.heap v1 v2 c1 c2).get? c=some o:=λc o x=>
  atZ _ (atZ _ (atZ _ (atZ _ (atZ _ x))))
 replace g5:=z2▸g5;replace g5:=z3▸g5;rw [(by rw [Heap.size_push,z3]:(zh4 s.heap v1 v2 c1 c2).objs.size=s.heap.objs.size+4)] at g5
 replace g3:=z1▸g3;replace g3:=z2▸g3
 rw [z3] at g4
 rw [z1] at g2
 refine ((by rw [Heap.size_push,z3]:(zh4 s.heap v1 v2 c1 c2).objs.size=s.heap.objs.size+4))▸?_
 refine ⟨⟨_,g5,rfl⟩,h _ g5 g3 g4 ?_ ?_ up⟩
 . rcases hl1 with ⟨a,rfl,hl,rfl⟩ | ⟨a,rfl,hl,rfl⟩
   . exact .inl ⟨a,rfl,⟨_,(atZ _ (atZ _ (atZ _ (atZ _ (at4 _ rfl))))),rfl,rfl⟩,hl.at λo e=>up _ o e⟩
   . exact .inr ⟨a,rfl,⟨_,(atZ _ (atZ _ (atZ _ (atZ _ (at4 _ rfl))))),rfl,rfl⟩,hl.at λo e=>up _ o e⟩
 . refine (hl2).elim ?_ ?_
   . rintro ⟨a,rfl,hl,rfl⟩
     exact .inl ⟨a,rfl,⟨_,g2,rfl,rfl⟩,hl.at λo e=>up _ o e⟩
   . rintro ⟨a,rfl,hl,rfl⟩
     exact .inr ⟨a,rfl,⟨_,g2,rfl,rfl⟩,hl.at λo e=>up _ o e⟩
end
section
variable{target:Expr}
theorem SeqIt.at{h h':Heap}{a it:Addr}{vs:Array Value}{i:Nat}(x:SeqIt h (.ref a) vs it i) (k1:∀ o,o.cls≠.none->h.get? it=some o->h'.get? it=some o) (k2:∀ o,o.cls≠.none->h.get? a=some o->h'.get? a=some o):SeqIt h' (.ref a) vs it i:=
 x.imp (λhZ1=>hZ1.elim λa' hZ2=>hZ2.elim λe hZ3=>hZ3.elim λhZ4 hZ5=>hZ4.elim λo hZ8=>hZ8.elim λe1 hZ9=>hZ9.elim λe2 e3=>hZ5.elim λo' hZ6=>hZ6.elim λf1 hZ7=>hZ7.elim λf2 f3=>⟨a',e,⟨o,k1 o (λz=>nty (e2.symm.trans z)) e1,e2,e3⟩,⟨o',Value.ref.inj e▸k2 o' (λz=>nty (f2.symm.trans z)) (Value.ref.inj e▸f1),f2,f3⟩⟩)
  (λhZ19=>hZ19.elim λa' hZ20=>hZ20.elim λe hZ21=>hZ21.elim λhZ22 hZ23=>hZ22.elim λo hZ26=>hZ26.elim λe1 hZ27=>hZ27.elim λe2 e3=>hZ23.elim λo' hZ24=>hZ24.elim λf1 hZ25=>hZ25.elim λf2 f3=>⟨a',e,⟨o,k1 o (λz=>nty (e2.symm.trans z)) e1,e2,e3⟩,⟨o',Value.ref.inj e▸k2 o' (λz=>nty (f2.symm.trans z)) (Value.ref.inj e▸f1),f2,f3⟩⟩)
theorem SeqIt.quiet{h:Heap}{v:Value}{it:Addr}{vs:Array Value}{i:Nat}(x:SeqIt h v vs it i):aa9 h it:=
 x.elim (λz=>let ⟨_,_,e,_⟩:=z;ab9 e (by decide) λ_ _ z=>nomatch z) (λz=>let ⟨_,_,e,_⟩:=z;ab9 e (by decide) λ_ _ z=>nomatch z)
theorem SeqIt.live{h:Heap}{v:Value}{it:Addr}{vs:Array Value}{i:Nat}(x:SeqIt h v vs it i):∃ o,h.get? it=some o:=(x.quiet).elim λo hX1=>hX1.elim λe _=>⟨o,e⟩
theorem anY{l:List T}:∀ {m:List T}{i:Nat}{t:T},(akS l m)[i]?=some t->∃ a b,l[i]?=some a/\m[i]?=some b/\t=.tup [a,b]:=by
 induction l with
 | nil=>exact λh=>nos h
 | cons a l ih=>
  intro m i t h
  cases m with
  | nil=>exact nos h
  | cons b m=>cases i with
   | zero=>exact ⟨a,b,rfl,rfl,(soi h).symm⟩
   | succ i=>exact ih h
theorem adx{l:List T}:∀ {m:List T},l.length=m.length->(akS l m).length=l.length:=by
 induction l with
 | nil=>exact λ_=>rfl
 | cons a l ih=>
  intro m h
  cases m with
  | nil=>exact ava h
  | cons b m=>exact congrArg (·+1) (ih (Nat.succ.inj h))
theorem af9{h:Heap}{t:Addr}{a b:Value}(x:IsPair h t a b):aa9 h t:=alu x rfl (by decide) rfl
theorem ahr{z TI TO T:Addr}{f0:Value}{f1:Bool}{Q:Unit->Shared->Prop}(hz:IsZ s.heap z TI TO f0 f1) (ho:apq f0)
  (hQ:∀ h' f0' f1',IsZ h' z TI TO f0' f1'->apq f0'->Heap.SameBut z s.heap h'->Q () { s with heap:=h' }):wpAny (model pg γ.w) A (letOwnedTupleGo target (.ref z) (.ref T)) Q E s:=by
 have stay:Q () s:=hQ s.heap f0 f1 hz ho (Heap.SameBut.refl ..)
 cases target <;> first
  | exact at3 stay
  | skip
 all_goals
  refine atY (wpAny_load hz ?_)
  show wpAny _ _ (if (["enumerate","zip","dict_itemiterator","dict_reverseitemiterator","odict_iterator","itertools.zip_longest","itertools.pairwise"].contains "zip" &&
   (#[f0,.bool f1,.bool false,.ref TI,.ref TO]:Array Value)[0]?==some (rawInt T))=true then _ else _) Q E s
  split
  . refine atY (wpAny_rule ?_)
    exact au4 hz ((auh _)) λh' hz' hs'=>hQ h' .none f1 hz' (.inl rfl) hs'
  . exact at3 stay
theorem aee{a b c d:Addr}{P:Addr->Prop}(h1:P a) (h2:P b) (h3:P c) (h4:P d):∀ x∈[a,b,c,d],P x:=λx hx=>
 (List.mem_cons.mp hx).elim (λe=>e▸h1) λhx=>(List.mem_cons.mp hx).elim (λe=>e▸h2) λhx=>aey h3 h4 x hx
structure ZR where
 (z TI TO i1 i2 a1 a2:Addr)
 (xs ys:Array Value)
 (l1 l2:List T)
noncomputable def ZR.W (Z:ZR):aag:=λb=>b∈[Z.TI,Z.z,Z.TO,Z.i1,Z.i2]
structure ZSt (V:aag) (Z:ZR) (i:Nat) (s:Shared):Prop where
 zz:∃ f0 f1,IsZ s.heap Z.z Z.TI Z.TO f0 f1/\apq f0
 oo:∃ a b,IsPair s.heap Z.TO a b
 ii:IsPair s.heap Z.TI (.ref Z.i1) (.ref Z.i2)
 h1:SeqIt s.heap (.ref Z.a1) Z.xs Z.i1 i
 h2:SeqIt s.heap (.ref Z.a2) Z.ys Z.i2 i
 r1:RepL V s.heap Z.xs.toList Z.l1
 r2:RepL V s.heap Z.ys.toList Z.l2
structure ZOK (V:aag) (Z:ZR):Prop where
 D:ZApart Z.z Z.TI Z.TO Z.i1 Z.i2 [Z.i1,Z.a1] [Z.i2,Z.a2]
 len:Z.l1.length=Z.l2.length
 v1:V Z.a1
 v2:V Z.a2
 off:∀ b,V b->b≠Z.z/\b≠Z.TI/\b≠Z.TO/\b≠Z.i1/\b≠Z.i2
section
variable{Z:ZR}{i:Nat}
theorem ZSt.move (ok:ZOK V Z) (c:ZSt V Z i s) (kW:∀ b o,o.cls≠.none->Z.W b->s.heap.get? b=some o->s'.heap.get? b=some o) (kV:∀ b o,o.cls≠.none->V b->s.heap.get? b=some o->s'.heap.get? b=some o):ZSt V Z i s' where
 zz:=(c.zz).elim λf0 hX1=>hX1.elim λf1 hX2=>hX2.elim λe z=>⟨f0,f1,kW _ _ nty (.tail _ (.head _)) e,z⟩
 oo:=(c.oo).elim λa hX1=>hX1.elim λb e=>⟨a,b,kW _ _ nty (.tail _ (.tail _ (.head _))) e⟩
 ii:=kW _ _ nty (.head _) c.ii
 h1:=c.h1.at (λo n e=>kW _ o n (.tail _ (.tail _ (.tail _ (.head _)))) e) λo n e=>kV _ o n ok.v1 e
 h2:=c.h2.at (λo n e=>kW _ o n (.tail _ (.tail _ (.tail _ (.tail _ (.head _))))) e) λo n e=>kV _ o n ok.v2 e
 r1:=aim _ _ c.r1 kV
 r2:=aim _ _ c.r2 kV
theorem ZSt.quiet (c:ZSt V Z i s):∀ b∈[Z.z,Z.TO,Z.i1,Z.i2],aa9 s.heap b:=
 let ⟨_,_,e,_⟩:=c.zz
 (c.oo).elim λ_ hX1=>hX1.elim λ_ e'=>aee (aaw e rfl (by decide) rfl λ_ _ z=>nomatch z) (af9 e') c.h1.quiet c.h2.quiet
theorem ZSt.ext{h':Heap}{tk:Nat}(c:ZSt V Z i s) (k:∀ b o,b≠Z.z->b≠Z.TO->b≠Z.i1->b≠Z.i2->s.heap.get? b=some o->h'.get? b=some o):ExtX Z.W s { s with heap:=h',toks:=tk }:=
 ExtX.wr (wr:=[Z.z,Z.TO,Z.i1,Z.i2]) (aee (.tail _ (.head _)) (.tail _ (.tail _ (.head _))) (.tail _ (.tail _ (.tail _ (.head _)))) (.tail _ (.tail _ (.tail _ (.tail _ (.head _)))))) c.quiet
  λb o n e=>k b o (λq=>n (q▸.head _)) (λq=>n (q▸.tail _ (.head _))) (λq=>n (q▸.tail _ (.tail _ (.head _)))) (λq=>n (q▸.tail _ (.tail _ (.tail _ (.head _))))) e
theorem ZOK.offV (ok:ZOK V Z) {h h':Heap}(k:∀ b o,b≠Z.z->b≠Z.TO->b≠Z.i1->b≠Z.i2->h.get? b=some o->h'.get? b=some o) (b:Addr) (o:Obj) (_:o.cls≠.none) (v:V b) (e:h.get? b=some o):h'.get? b=some o:=
 have n:=ok.off b v;k b o n.1 n.2.2.1 n.2.2.2.1 n.2.2.2.2 e
theorem aqq (hh:A.handled=none) (ok:ZOK V Z) {Q:Option Value->Shared->Prop}(c:ZSt V Z (akS Z.l1 Z.l2).length s) (hQ:∀ s',ExtX Z.W s s'->Q none s'):wpAny (model pg γ.w) A (pyNext (.ref Z.z)) Q E s:=by
 refine (c.zz).elim λf0 hX1=>hX1.elim λf1 hX2=>hX2.elim λhz ho=>?_
 obtain ⟨a,b,hO⟩:=c.oo
 have h1:=c.h1
 rw [adx ok.len,<- aac c.r1] at h1
 refine atY (wpAny_attempt (auC (name:=Str.ofString "__next__") (⟨_,hz,rfl⟩) F.slot_zip_next
  (auO F.slot_zip_next (⟨_,hz,rfl⟩) F.entry_zip_next (adL (abZ (A:=A.in1) hh (ok.off _ ok.v1).2.2.2.1 Z.xs) ok.D hz ho c.ii hO h1 λh' e hk he=>?_) (F.args_zip_next_1 _))))
 exact atY (wpAny_isInstance (T:="StopIteration") (b:=true) he isSubtype_stop (at3 (hQ _ (c.ext hk))))
theorem aqr (hh:A.handled=none) (ok:ZOK V Z) {t:T}{Q:Option Value->Shared->Prop}(hi:(akS Z.l1 Z.l2)[i]?=some t) (c:ZSt V Z i s)
  (hQ:∀ v a8,ExtX Z.W s a8->(∀ (Q':Unit->Shared->Prop) (E':Value->Shared->Prop),(∀ aa,ExtX Z.W s aa->ZSt V Z (i+1) aa->TItem target (λa=>V a\/s.heap.get? a=none) aa.heap v t->Q' () aa)->
    wpAny (model pg γ.w) A (letOwnedTupleGo target (.ref Z.z) v) Q' E' a8)->Q (some v) a8):wpAny (model pg γ.w) A (pyNext (.ref Z.z)) Q E s:=by
 refine (c.zz).elim λf0 hX1=>hX1.elim λf1 hX2=>hX2.elim λhz ho=>?_
 refine (c.oo).elim λa hX1=>hX1.elim λb hO=>?_
 refine ag λG kG=>?_
 obtain ⟨ta,tb,ia,ib,rfl⟩:=anY hi
 refine kG ?_
 have D2:=abZ (γ:=γ) (A:=A.in1) hh (ok.off _ ok.v2).2.2.2.2 Z.ys
 rw [show Z.ys.size=Z.xs.size by refine (aac c.r1)▸?_;rw [aac c.r2,ok.len]] at D2
 refine atY (wpAny_attempt (auC (name:=Str.ofString "__next__") (⟨_,hz,rfl⟩) F.slot_zip_next
  (auO F.slot_zip_next (⟨_,hz,rfl⟩) F.entry_zip_next (adp (abZ (A:=A.in1) hh (ok.off _ ok.v1).2.2.2.1 Z.xs) D2 ok.D hz ho c.ii hO c.h1 c.h2 (aac c.r1▸(List.getElem?_eq_some_iff.mp ia).1) ?_) (F.args_zip_next_1 _))))
 intro h' tk f0' f1' x y a' b' T' hpx hpy hz' ho' hO' h1' h2' hT' hfr hk
 refine at3 (hQ _ _ (c.ext hk) λQ' E' hQ'=>ahr hz' ho' λaB dh dj bS dk aA=>?_)
 have k3:∀ b o,b≠Z.z->b≠Z.TO->b≠Z.i1->b≠Z.i2->s.heap.get? b=some o->aB.get? b=some o:=λb o n1 n2 n3 n4 e=>aA.extBut _ _ n1 (hk b o n1 n2 n3 n4 e)
 have cA:=aim _ _ c.r1 (ok.offV k3)
 have cB:=aim _ _ c.r2 (ok.offV k3)
 refine ag λG kG=>?_
 obtain ⟨ta',e1,ra⟩:=cA.get (i:=i) (v:=x) ((Array.getElem?_toList).trans (hpx))
 obtain ⟨tb',e2,rb⟩:=cB.get (i:=i) (v:=y) ((Array.getElem?_toList).trans (hpy))
 refine kG ?_
 cases soi (e1.symm.trans ia)
 cases soi (e2.symm.trans ib)
 refine hQ' _ (c.ext k3) ⟨⟨dh,dj,bS,dk⟩,⟨a',b',aA.extBut _ _ ok.D.TOz hO'⟩,k3 _ _ ok.D.TIz ok.D.TITO ok.D.TIi1 ok.D.TIi2 c.ii,h1'.at (λo _ e=>aA.extBut _ _ ok.D.i1z e) (λo _ e=>aA.extBut _ _ (ok.off _ ok.v1).1 e),h2'.at (λo _ e=>aA.extBut _ _ ok.D.i2z e) (λo _ e=>aA.extBut _ _ (ok.off _ ok.v2).1 e),cA,cB⟩ (.inl (.tup (.inr hfr) ⟨_,aA.extBut _ _ (λq=>nos (hfr.symm.trans (q▸hz))) hT',rfl,_,rfl⟩ (.cons ?_ (.cons ?_ .nil))))
 . exact ra.mono (λa h=>.inl h) λ_ _ _ _ e=>e
 . exact rb.mono (λa h=>.inl h) λ_ _ _ _ e=>e
theorem aqs{Q:Value->Shared->Prop}(c:ZSt V Z i s) (hQ:Q (.ref Z.z) s):wpAny (model pg γ.w) A (pyIter (.ref Z.z)) Q E s:=by
 refine (c.zz).elim λf0 hX1=>hX1.elim λf1 hX2=>hX2.elim λhz ho=>?_
 have hT:s.TypeIs (.ref Z.z) "zip":=⟨_,hz,rfl⟩
 refine wpAny_pyIter_slot hT F.slot_zip_iter (auO F.slot_zip_iter hT F.entry_zip_iter ?_ (F.args_zip_iter_1 _))
 exact at3 ⟨_,rfl,"zip",_,hT,F.slot_zip_next.lookup,hQ⟩
end
theorem ahs (hh:A.handled=none) {Z:ZR}(ok:ZOK V Z):Turns γ A target Z.z Z.W V (akS Z.l1 Z.l2) (ZSt V Z) where
 frame:=λi s s' Y hY c x=>c.move ok (λb o n hb e=>x.keepC b o n (λy=>(hY b y).2 hb) e) λb o n hb e=>x.keepC b o n (λy=>(hY b y).1 hb) e
 live:=λi s c b hb=>(List.mem_cons.mp hb).elim (λe=>e▸⟨_,c.ii⟩) λhb=>(c.quiet b hb).elim λo hX1=>hX1.elim λe _=>⟨o,e⟩
 item:=λi t s Q E hi c hQ=>aqr hh ok hi c hQ
 done:=λs Q E _ c hQ=>aqq hh ok c hQ
 self:=λi s Q E c hQ=>aqs c hQ
end
section
variable{target:Expr}
theorem Iters.again{v:Value}{items:List T}{s':Shared}{Q:Value->Shared->Prop}(x:Iters γ A target V s items v s') (h:Q v s'):wpAny (model pg γ.w) A (pyIter v) Q E s':=by
 refine ag λG kG=>?_
 obtain ⟨I,W,V',St,rfl,Tn,st,_⟩:=x
 refine kG ?_
 exact Tn.self 0 _ _ _ st h
theorem akb{N b:Nat}(h:b<N):b≠N+4/\b≠N+2/\b≠N+3/\b≠N/\b≠N+1:=by exact ⟨aum (Nat.lt_add_right 4 h),aum (Nat.lt_add_right 2 h),aum (Nat.lt_add_right 3 h),aum h,aum (Nat.lt_add_right 1 h)⟩
theorem aiq{N a1 a2:Nat}(h1:a1<N) (h2:a2<N):ZApart (N+4) (N+2) (N+3) N (N+1) [N,a1] [N+1,a2]:=by
 have e:∀ {x y:Nat},x≠y->(x:Addr)≠y:=λh=>h
 have m:∀ {x y z:Nat},x≠y->x≠z->(x:Addr)∉[(y:Addr),z]:=λh h'=>by simp only [List.mem_cons,List.not_mem_nil,or_false,not_or];exact ⟨h,h'⟩
 exact ⟨e (by simp),e (by simp),e (by simp),e (by lia),e (by simp),e (by lia),e (by lia),e (by lia),e (by simp),m (by lia) (by lia),m (by simp) (by lia),m (by lia) (by lia),m (by lia) (by lia),m (by simp) (Ne.symm (aum h2)),m (by simp) (by lia)⟩
noncomputable def aeJ (t:T) (l:List T):Prop:=t=.lst l\/t=.tup l
theorem afi{v:Value}{t:T}{l:List T}{G:Prop}(r:Rep V s.heap v t) (h:aeJ t l) (k:∀ a vs c,v=.ref a->V a->SeqV s.heap v vs c->RepL V s.heap vs.toList l->(∃ o,s.heap.get? a=some o/\o.cls≠.none)->G):G:=by
 rcases h with rfl | rfl
 . exact aa3 r λa vs e va hp rs=>k a vs _ e va (.inl ⟨a,e,hp.isList,rfl⟩) rs ((hp).elim λn e=>⟨_,e,nty⟩)
 . exact abk r λa vs e va hp rs=>k a vs _ e va (.inr ⟨a,e,hp,rfl⟩) rs ((hp).elim λo hX1=>hX1.elim λe hX2=>hX2.elim λc _=>⟨_,e,λz=>nty (c.symm.trans z)⟩)
theorem ajl (hh:A.handled=none) {v1 v2:Value}{t1 t2:T}{l1 l2:List T}{A':Around}(r1:Rep V s.heap v1 t1) (r2:Rep V s.heap v2 t2) (h1:aeJ t1 l1) (h2:aeJ t2 l2) (hlen:l1.length=l2.length) {Q:Value->Shared->Prop}
  (hQ:∀ I s',Iters γ A target V s (akS l1 l2) (.ref I) s'->(∃ W V' St,Turns γ A target I W V' (akS l1 l2) St/\St 0 s'/\Ext s s'/\(∀ b,W b->s.heap.get? b=none)/\(∀ a,V' a->V a/\¬ W a/\∃ o,s'.heap.get? a=some o)/\∀ i s,St i s->s.TypeIs (.ref I) "zip")->Q (.ref I) s') :
  wpAny (model pg γ.w) A' (call (.type "zip") [v1,v2]) Q E s:=by
 refine afi r1 h1 λa1 xs c1 q1 va1 sv1 rl1 z1=>afi r2 h2 λa2 ys c2 q2 va2 sv2 rl2 z2=>aez sv1 sv2 λh' hz hTI hTO hi1 hi2 up=>?_
 clear r1
 clear r2
 clear sv1
 clear sv2
 subst q1 q2
 refine ag λG kG=>?_
 obtain ⟨o1,e1,_⟩:=z1
 refine kG ?_
 refine (z2).elim λo2 hX1=>hX1.elim λe2 _=>?_
 let Z:ZR:=⟨s.heap.objs.size+4,s.heap.objs.size+2,s.heap.objs.size+3,s.heap.objs.size,s.heap.objs.size+1,a1,a2,xs,ys,l1,l2⟩
 have st:ZSt (liveIn V s) Z 0 { s with heap:=h' }:=⟨⟨_,_,hz,.inl rfl⟩,⟨_,_,hTO⟩,hTI,hi1,hi2,(RepL.live rl1).mono (λ_ h=>h) λb o _ _ e=>up b o e,(RepL.live rl2).mono (λ_ h=>h) λb o _ _ e=>up b o e⟩
 have hw:∀ b,Z.W b->s.heap.get? b=none:=λb hb=>at6 ((List.mem_cons.mp hb).elim (λe=>e▸at9 _ 2) λhb=>aee (P:=λb=>s.heap.objs.size<=b) (at9 _ 4) (at9 _ 3) (auf _) (at9 _ 1) b hb)
 have x:Ext s { s with heap:=h' }:=Ext.of (tk:=s.toks) up
 exact hQ Z.z _ ⟨Z.z,Z.W,liveIn V s,_,rfl,ahs hh (⟨aiq (aua e1) (aua e2),hlen,⟨va1,_,e1⟩,⟨va2,_,e2⟩,λb hq=>hq.elim λ_ hq=>hq.elim λo e=>akb (aua e)⟩),st,x,hw,(λa v=>⟨v.1,λhb=>let ⟨_,_,e⟩:=v;nos ((hw a hb).symm.trans e),let ⟨_,o,e⟩:=v;⟨o,up _ _ e⟩⟩)⟩ ⟨Z.W,liveIn V s,_,ahs hh (⟨aiq (aua e1) (aua e2),hlen,⟨va1,_,e1⟩,⟨va2,_,e2⟩,λb hq=>hq.elim λ_ hq=>hq.elim λo e=>akb (aua e)⟩),st,x,hw,(λa v=>⟨v.1,λhb=>let ⟨_,_,e⟩:=v;nos ((hw a hb).symm.trans e),let ⟨_,o,e⟩:=v;⟨o,up _ _ e⟩⟩),λi s c=>(c.zz).elim λ_ hX1=>hX1.elim λ_ hX2=>hX2.elim λe _=>⟨_,e,rfl⟩⟩
theorem alv (hh:A.handled=none) {v1 v2:Value}{t1 t2:T}{l1 l2:List T}(r1:Rep V s.heap v1 t1) (r2:Rep V s.heap v2 t2) (h1:aeJ t1 l1) (h2:aeJ t2 l2) (hlen:l1.length=l2.length) :
  wpAny (model pg γ.w) A (call (.type "zip") [v1,v2]) (λv s'=>Iters γ A target V s (akS l1 l2) v s') E s:=
 ajl hh r1 r2 h1 h2 hlen λ_ _ z _=>z
theorem anZ{α:Type}{M:Model}{A:Around}{b:α}{Q:α->Shared->Prop}{E:Value->Shared->Prop}{s:Shared}(h:∀ b,Q b s):wpAny M A (pure b) Q E s:=at3 (h b)
theorem ady (v:Value) (vs:Array Value) (c:String) :
  Meets (Builtin.«enumerate.__new__» ⟨[.type "enumerate",v],[]⟩) (λ_ R s=>SeqV s.heap v vs c/\
   R (.ok (.ret (.ref (zh1 s.heap v c).objs.size))) { s with heap:=(zh1 s.heap v c).push { cls:=.type "enumerate",data:=.fields #[.none,.bool false,.ref s.heap.objs.size,rawInt 0,.none,.none] } }):=
 .of_wp λprog w A R s h=>by
  obtain ⟨hp,g,d,tk,os⟩:=s;obtain ⟨hl,h⟩:=h
  have hsub:=sub_enumerate
  have hL:SeqV (Shared.heap ⟨hp,g,d,tk,os⟩) v vs c:=hl
  wp_walk
  refine wpAny_stack_any λst=>anZ λb=>?_
  cases b
  . wp_walk using aeU hL
    exact ⟨_,rfl,h⟩
  . wp_walk using aeU hL
    exact ⟨_,rfl,h⟩
theorem adM{v:Value}{vs:Array Value}{c:String}{Q:Value->Shared->Prop}(hL:SeqV s.heap v vs c)
  (h:∀ h',IsEnum h' (s.heap.objs.size+1) s.heap.objs.size 0 .none->SeqIt h' v vs s.heap.objs.size 0->(∀ b o,s.heap.get? b=some o->h'.get? b=some o)->Q (.ref (s.heap.objs.size+1)) { s with heap:=h' }) :
  wpAny (model pg γ.w) A (call (.type "enumerate") [v]) Q E s:=by
 refine callType_new F.called_enumerate (rfl) (F.typeCall_enumerate_1 _) (F.newCall_enumerate_1 _) (λobj=>F.args_object_init_2 obj _) F.entry_enumerate_new
  (ady v vs c) ⟨hL,?_⟩
 refine (auP ..)▸?_
 have he:IsEnum ((zh1 s.heap v c).push { cls:=.type "enumerate",data:=.fields #[.none,.bool false,.ref s.heap.objs.size,rawInt 0,.none,.none] }) (s.heap.objs.size+1) s.heap.objs.size 0 .none:=by
  have:=at4 (zh1 s.heap v c) (o:={ cls:=.type "enumerate",data:=.fields #[.none,.bool false,.ref s.heap.objs.size,rawInt 0,.none,.none] }) rfl
  rw [(Heap.size_push ..)] at this;exact this
 have up:∀ b o,s.heap.get? b=some o->((zh1 s.heap v c).push { cls:=.type "enumerate",data:=.fields #[.none,.bool false,.ref s.heap.objs.size,rawInt 0,.none,.none] }).get? b=some o:=λb o x=>atZ _ (atZ _ x)
 refine ⟨⟨_,he,rfl⟩,h _ he ?_ up⟩
 clear h
 clear he
 rcases hL with ⟨a,rfl,hl,rfl⟩ | ⟨a,rfl,hl,rfl⟩
 . exact .inl ⟨a,rfl,⟨_,atZ _ (at4 _ rfl),rfl,rfl⟩,hl.at λo e=>up _ o e⟩
 . exact .inr ⟨a,rfl,⟨_,atZ _ (at4 _ rfl),rfl,rfl⟩,hl.at λo e=>up _ o e⟩
theorem alw{l:List T}:∀ {k i:Nat}{t:T},(aig k l)[i]?=some t->∃ a,l[i]?=some a/\t=.tup [.int ((k+i:Nat):Int),a]:=by
 induction l with
 | nil=>exact λh=>nos h
 | cons a l ih=>
  intro k i t h
  cases i with
  | zero=>exact ⟨a,rfl,(soi h).symm⟩
  | succ i=>
   obtain ⟨b,h1,h2⟩:=ih (k:=k+1) h
   exact ⟨b,h1,by rw [h2,show k+1+i=k+(i+1) by exact Nat.succ_add_eq_add_succ k i]⟩
theorem aeA{l:List T}:∀ {k:Nat},(aig k l).length=l.length:=by
 induction l with
 | nil=>exact rfl
 | cons a l ih=>exact congrArg (·+1) ih
theorem akc (hh:A.handled=none) (tb:TabInv s.heap) {es:List Expr}{kk:Nat}{pos:Pos}{v1:Value}{t1:T}{l1:List T}(r1:Rep V s.heap v1 t1) (h1:aeJ t1 l1) :
  wpAny (model pg γ.w) A (call (.type "enumerate") [v1]) (λv s'=>Iters γ A (.Tuple es kk pos) V s (aig 0 l1) v s') E s:=
 afi r1 h1 λa1 xs c1 q va1 sv1 rl1 z=>adM sv1 λh' he hi up=>by
  rw [q] at sv1 hi
  refine (z).elim λo1 hX1=>hX1.elim λe1 hc1=>?_
  have lt1:a1<s.heap.objs.size:=aua e1
  have ne2:s.heap.objs.size+1≠s.heap.objs.size:=Nat.succ_ne_self _
  have WT:=(WalksT.enumerateD (abZ (γ:=γ) (A:=A.in1) hh (aum lt1) xs) (s.heap.objs.size+1) ne2 (λz=>aey (P:=λb=>s.heap.objs.size+1≠b) ne2 (auJ (auv lt1)) _ z rfl) (.head _)).toU
  refine Iters.make (KTurns.ofWalksU WT) (R:=λh=>RepL (liveIn V s) h xs.toList l1) (by refine aeA.symm▸?_;exact (aac rl1).symm) (aey (at6 (Nat.le_succ _)) aan)
   (λb hb=>(List.mem_cons.mp hb).elim (λe=>⟨acg tb (e▸Nat.le_succ _),.inl (e▸.head _)⟩) (aey (P:=λb=>b∉aa7/\(b∈[s.heap.objs.size+1,s.heap.objs.size]\/liveIn V s b)) ⟨acg tb (auf _),.inl (.tail _ (.head _))⟩ ⟨tb.off e1 hc1,.inr ⟨va1,_,e1⟩⟩ b))
   (λi h st=>st.1.elim λ_ e=>aey (aaw e rfl (by decide) rfl λ_ _ z=>nomatch z) st.2.quiet) (λi v h st=>st.elim λ_ st=>st.elim λ_ st=>st.2.2.2.1.elim λ_ e=>aey (aaw e rfl (by decide) rfl λ_ _ z=>nomatch z) st.2.2.2.2.1.quiet) (aim) ?_
   (λi s Q E st q=>WT.self i s Q E st q) ⟨⟨_,he⟩,hi⟩ ((RepL.live rl1).mono (λ_ h=>h) λb o _ _ e=>up b o e) up
  rintro i v h t hi ⟨T',vals,rfl,⟨tk,x,hp,rfl⟩,hT⟩ hr
  obtain ⟨u,h1,rfl⟩:=alw hi
  obtain ⟨u',h2,h3⟩:=hr.get (i:=i) (v:=x) ((Array.getElem?_toList).trans (hp))
  cases soi (h1.symm.trans h2)
  refine .inr ⟨⟨_,_,_,rfl⟩,T',_,_,rfl,hT,rfl,.cons ?_ (.cons h3 .nil)⟩
  rw [show 0+i=i from Nat.zero_add i]
  exact .int _ _
theorem air (hh:A.handled=none) (tb:TabInv s.heap) {es:List Expr}{kk:Nat}{pos:Pos}{v:Value}{l:List (Int×T)}(r:Rep V s.heap v (.dct l)) :
  wpAny (model pg γ.w) A (call (.builtin "dict.items") [v]) (λvw a8=>Ext s a8/\wpAny (model pg γ.w) A (pyIter vw) (λit s'=>Iters γ A (.Tuple es kk pos) V s (l.map λp=>.tup [.int p.1,p.2]) it s') E a8) E s:=
 acB r λa o kvs q va hs e hd rs=>by
  subst q
  refine ag λG kG=>?_
  refine (aaE (p':=pg) (w':=γ.w) hd).elim λesd hZ77=>hZ77.elim λep hx=>?_
  refine kG ?_
  have hat:s.heap.DictAt (intKind pg γ.w) a kvs ep:=⟨_,esd,e,hx⟩
  have hD:s.heap.DictOf (intKind pg γ.w) a kvs:=Heap.dictOf_iff.mpr ⟨_,e,aaE hd⟩
  refine call_meetsIn PySem.F.slot_dict_items hD.typeIs PySem.F.entry_dict_items (PySem.F.args_dict_items_1 _) (meets_dict_items (intKind pg γ.w) a hs) ⟨⟨kvs,hD⟩,Ext.push (tk:=s.toks),?_⟩
  have sz1:(s.heap.push { cls:=.type "dict_items",data:=.fields #[.ref a] }).objs.size=s.heap.objs.size+1:=auP ..
  have alt:∀ {b o},s.heap.get? b=some o->b≠(s.heap.push { cls:=.type "dict_items",data:=.fields #[.ref a] }).objs.size:=λe=>by rw [sz1];exact aum (auv (aua e))
  have hi:s.heap.objs.size<=(s.heap.push { cls:=.type "dict_items",data:=.fields #[.ref a] }).objs.size:=by rw [sz1];exact Nat.le_succ _
  refine wpAny_pyIter_items (s:={ s with heap:=s.heap.push _ }) ⟨_,at4 _ rfl,rfl,rfl⟩ (hat.push _) (Iters.make (h':=(s.heap.push _).push _) (s:=s) (kti_itemsTurns (knd:=intKind pg γ.w) hh _ a (alt e) kvs ep) (R:=λh=>RepD (liveIn V s) h kvs l) (by rw [List.length_map,<- rs.length])
   (abF (at6 hi)) (aey ⟨acg tb hi,.inl (.head _)⟩ ⟨tb.off e (ajk hd),.inr ⟨va,_,e⟩⟩)
   (λi h st=>st.1.elim λ_ st=>st.elim λ_ e1=>abF (aaw e1 rfl (by decide) rfl λ_ _ z=>nomatch z)) (λi v h st=>st.elim λ_ st=>st.elim λ_ st=>st.elim λ_ st=>st.elim λ_ st=>st.elim λ_ st=>st.elim λ_ st=>abF (aaw st.2.2.2.2.1 rfl (by decide) rfl λ_ _ z=>nomatch z)) (asB) ?_
   (λi s Q E st q=>st.1.elim λ_ st=>st.elim λ_ e1=>kcp_self e1 q) ⟨⟨_,_,at4 _ rfl⟩,(hat.push _).push _⟩ ((RepD.live rs).mono (λ_ h=>h) λb o _ _ e=>atZ _ (atZ _ e)) λb o e=>atZ _ (atZ _ e))
  rintro i v h t hi ⟨T',key,k,x,rfl,hk,hi2,hT⟩ hr
  refine (hr.get (i:=i) hk).elim λu hZ79=>hZ79.elim λh1 h2=>?_
  obtain ⟨tk,rfl⟩:=apr hi2
  rw [List.getElem?_map,h1] at hi
  exact soi hi▸.inr ⟨⟨_,_,_,rfl⟩,T',_,_,rfl,hT,rfl,.cons (.int _ _) (.cons h2 .nil)⟩
end
set_option backward.match.sparseCases false
noncomputable def abM:List Expr->List T->aad->aab->Option aab
 | [],[],_,ρ=>some ρ
 | .Name x _ ::es,t ::ts,sc,ρ=>if abW sc x then abM es ts sc ((x,t) ::ρ) else none
 | _,_,_,_=>none
noncomputable def putT (target:Expr) (t:T) (sc:aad) (ρ:aab):Option aab:=
 match target,t with
 | .Name x _,t=>if abW sc x then some ((x,t) ::ρ) else none
 | .Tuple es _ _,.tup ts=>abM es ts sc ρ
 | _,_=>none
theorem aeB{sc:aad}{af:aab}{G:List Expr->List T->aab->Prop}(n:G [] [] af) (c:∀ x p es t ts ρ,abW sc x=true->G es ts ((x,t) ::ρ)->G (.Name x p ::es) (t ::ts) ρ):∀ {es:List Expr}{ts:List T}{ρ:aab},abM es ts sc ρ=some af->G es ts ρ:=by
 intro es
 induction es with
 | nil=>
  intro ts ρ
  cases ts with
  | nil=>exact λh=>soi h▸n
  | cons=>exact nos
 | cons e es ih=>
  intro ts ρ
  cases ts with
  | nil=>cases e <;> exact nos
  | cons t ts=>
   cases e with
   | Name x p=>exact λh=>c x p es t ts ρ (ifs h).1 (ih (ifs h).2)
   | _=>exact nos
theorem adN{sc:aad}{af:aab}{G:List Expr->List T->aab->Prop}(n:G [] [] af) (c:∀ x p es t ts ρ,abW sc x=true->(ρ.lookup x).isNone=true->G es ts ((x,t) ::ρ)->G (.Name x p ::es) (t ::ts) ρ):∀ {es:List Expr}{ts:List T}{ρ:aab},acr es ts sc ρ=some af->G es ts ρ:=by
 intro es
 induction es with
 | nil=>
  intro ts ρ
  cases ts with
  | nil=>exact λh=>soi h▸n
  | cons=>exact nos
 | cons e es ih=>
  intro ts ρ
  cases ts with
  | nil=>cases e <;> exact nos
  | cons t ts=>
   cases e with
   | Name x p=>exact λh=>have q:=Bool.and_eq_true_iff.mp (ifs h).1;c x p es t ts ρ q.1 q.2 (ih (ifs h).2)
   | _=>exact nos
theorem aga{sc:aad}{ρ af:aab}{target:Expr}{t:T}{G:Expr->T->Prop}(h:agI target t sc ρ=some af) (k1:∀ x p t,abW sc x=true->(ρ.lookup x).isNone=true->(x,t) ::ρ=af->G (.Name x p) t) (k2:∀ es n p ts,acr es ts sc ρ=some af->G (.Tuple es n p) (.tup ts)):G target t:=by
 revert h
 cases target with
 | Name x p=>exact λh=>have q:=Bool.and_eq_true_iff.mp (ifs h).1;k1 x p t q.1 q.2 (soi (ifs h).2)
 | Tuple es n p=>cases t with
  | tup ts=>exact k2 es n p ts
  | _=>exact nos
 | _=>exact nos
theorem alx{sc:aad}{ρ af:aab}{target:Expr}{t:T}{G:Expr->T->Prop}(h:putT target t sc ρ=some af) (k1:∀ x p t,abW sc x=true->(x,t) ::ρ=af->G (.Name x p) t) (k2:∀ es n p ts,abM es ts sc ρ=some af->G (.Tuple es n p) (.tup ts)):G target t:=by
 revert h
 cases target with
 | Name x p=>exact λh=>k1 x p t (ifs h).1 (soi (ifs h).2)
 | Tuple es n p=>cases t with
  | tup ts=>exact k2 es n p ts
  | _=>exact nos
 | _=>exact nos
theorem aeK{es:List Expr}{ts:List T}{sc:aad}{ρ af:aab}(h:acr es ts sc ρ=some af):abM es ts sc ρ=some af:=
 adN (G:=λes ts ρ=>abM es ts sc ρ=some af) rfl (λ_ _ _ _ _ _ o _ ih=>(if_pos o).trans ih) h
theorem ais{target:Expr}{t:T}{sc:aad}{ρ af:aab}(h:agI target t sc ρ=some af):putT target t sc ρ=some af:=
 aga (G:=λtarget t=>putT target t sc ρ=some af) h (λ_ _ _ o _ e=>(if_pos o).trans (congrArg some e)) λ_ _ _ _ h=>aeK h
theorem an0{env:Env}{es:List Expr}{ts:List T}{sc:aad}{ρ af:aab}(h:abM es ts sc ρ=some af):(assignEach es env).length=es.length/\(assignEach es env).findIdx? (·.1)=none/\es.length=ts.length:=
 aeB (G:=λes ts _=>(assignEach es env).length=es.length/\(assignEach es env).findIdx? (·.1)=none/\es.length=ts.length) ⟨rfl,rfl,rfl⟩
  (λx p es t ts ρ _ ih=>⟨congrArg (·+1) ih.1,by
    show (List.findIdx? (·.1) ((false,assign (.Name x p) env) ::assignEach es env))=none
    rw [List.findIdx?_cons,ih.2.1];rfl,congrArg (·+1) ih.2.2⟩) h
theorem afj{ρ:aab}{x y:Str}{t u:T}(hn:(ρ.lookup x).isNone=true) (hy:ρ.lookup y=some u):((x,t) ::ρ).lookup y=some u:=by
 rw [lookup_cons,if_neg]
 . exact hy
 . intro z
   rw [<- eq_of_beq z,hy] at hn;exact ff hn
theorem af1{es:List Expr}{ts:List T}{sc:aad}{ρ af:aab}{y:Str}{u:T}(h:acr es ts sc ρ=some af):ρ.lookup y=some u->af.lookup y=some u:=
 adN (G:=λ_ _ ρ=>ρ.lookup y=some u->af.lookup y=some u) id (λ_ _ _ _ _ _ _ hn ih hy=>ih (afj hn hy)) h
theorem akd{target:Expr}{t:T}{sc:aad}{ρ af:aab}{y:Str}{u:T}(h:agI target t sc ρ=some af) (hy:ρ.lookup y=some u):af.lookup y=some u:=
 aga (G:=λ_ _=>af.lookup y=some u) h (λ_ _ _ _ hn e=>e▸afj hn hy) λ_ _ _ _ h=>af1 h hy
section
theorem Fm.ext (f:Fm X V s env sc ρ) (tb:TabInv s.heap) (x:Ext s s') (hL:env.locals∉aa7):Fm X V s' env sc ρ:=
 ⟨f.slots.ext x hL,f.vars.ext tb x hL,f.off⟩
theorem ait{es:List Expr}{ts:List T}{ρ af:aab}(h:abM es ts sc ρ=some af):∀ {vs:List Value}{s:Shared}{Q:Unit->Shared->Prop},Fm X V s env sc ρ->RepL V s.heap vs ts->
  (∀ s',ExtX X s s'->Fm X V s' env sc af->Q () s')->wpAny (model pg γ.w) A (assignInOrder ((assignEach es env).map (·.2)) vs) Q E s:=
 aeB (G:=λes ts ρ=>∀ {vs:List Value}{s:Shared}{Q:Unit->Shared->Prop},Fm X V s env sc ρ->RepL V s.heap vs ts->
   (∀ s',ExtX X s s'->Fm X V s' env sc af->Q () s')->wpAny (model pg γ.w) A (assignInOrder ((assignEach es env).map (·.2)) vs) Q E s)
  (λ{vs s Q} f r k=>adJ r▸assignInOrder_nil (k s (ExtX.refl s) f))
  (λx p es t ts ρ own ih {vs s Q} f r k=>acq r λv us e rv rs=>by
    clear r
    subst e
    exact assignInOrder_cons (au8 (af6 f own rv λa8 aP sl vr=>ih ⟨sl,vr,f.off⟩ (rs.extX aP f.off) λaa aD ce=>k aa (aP.trans aD) ce)) ) h
theorem aly{es:List Expr}{kk:Nat}{pos:Pos}{T':Addr}{vals:Array Value}{ts:List T}{Q:Unit->Shared->Prop}(hand:HandOK A s.heap) (tb:TabInv s.heap) (hL:env.locals∉aa7) (f:Fm X V s env sc ρ) (hT:s.heap.IsTuple T' vals) (rs:RepL V s.heap vals.toList ts) (hb:abM es ts sc ρ=some af)
  (k:∀ s',ExtX X s s'->Fm X V s' env sc af->Q () s'):wpAny (model pg γ.w) A (assign (.Tuple es kk pos) env (.ref T')) Q E s:=by
 have e:=an0 (env:=env) hb
 refine atY (at7 ?_)
 unfold unpack
 rw [e.1,e.2.1,e.2.2,<- rs.length,Array.length_toList]
 refine atY (aud (aaG hand hT λh' k'=>?_))
 have x:Ext s { s with heap:=h' }:=Ext.of (tk:=s.toks) k'
 exact ait hb (f.ext tb x hL) (rs.ext x) λaa aD ce=>k aa (x.toX.trans aD) ce
theorem ake{target:Expr}{v:Value}{t:T}{Q:Unit->Shared->Prop}(hand:HandOK A s.heap) (tb:TabInv s.heap) (hL:env.locals∉aa7) (f:Fm X V s env sc ρ) (ti:TItem target V s.heap v t) (hb:putT target t sc ρ=some af)
  (k:∀ s',ExtX X s s'->Fm X V s' env sc af->Q () s'):wpAny (model pg γ.w) A (assign target env v) Q E s:=
 alx (G:=λtarget t=>TItem target V s.heap v t->wpAny (model pg γ.w) A (assign target env v) Q E s) hb
  (λx p t own e ti=>by
    refine ag λG kG=>?_
    rcases ti with r | ⟨⟨_,_,_,q⟩,_⟩
    refine kG ?_
    . exact au8 (af6 f own r λa8 aP sl vr=>k a8 aP (e▸⟨sl,vr,f.off⟩))
    . exact Expr.noConfusion q)
  (λes n p ts hb ti=>by
    rcases ti with r | ⟨_,T',vals,ts',e',hT,e,rs⟩
    . refine abk r λT' vals e va hT rs=>?_
      rw [e]
      exact aly hand tb hL f hT rs hb k
    . subst e'
      exact aly hand tb hL f hT rs (ap5 e▸hb) k) ti
end
set_option backward.match.sparseCases true
noncomputable def aay (env:Env):List (Str×NameKind)->List (Str×Addr)->List (Str×Addr)
 | [],acc=>acc
 | (n,k) ::r,acc=>if k==.free then aay env r ((n,(env.cells.lookup n).getD 0) ::acc) else aay env r acc
theorem aef{env:Env}:∀ {names:List (Str×NameKind)}{acc:List (Str×Addr)},(∀ p∈names,p.2=.free->∃ c,env.cells.lookup p.1=some c)->
  (forIn names acc λ(x:Str×NameKind) (cs:List (Str×Addr))=>(do
    if x.2==.free then do let c <- cellOf env x.1;pure (ForInStep.yield ((x.1,c) ::cs)) else pure (ForInStep.yield cs):Sem _))=pure (aay env names acc)
 | [],acc,_=>rfl
 | (n,k) ::r,acc,h=>by
  rw [List.forIn_cons]
  dsimp only [aay]
  by_cases q:(k==.free)=true
  . refine (h (n,k) (.head _) (by simpa using q)).elim λc hc=>?_
    simp only [q,if_true]
    rw [(by unfold cellOf;exact hc▸rfl:cellOf env n=pure c),hc]
    exact aef λp hp=>h p (.tail _ hp)
  . simp only [q]
    exact aef λp hp=>h p (.tail _ hp)
theorem aeg{env:Env}{scope:Scope}(h:∀ p∈scope.names,p.2=.free->∃ c,env.cells.lookup p.1=some c):closureFor scope env=pure (aay env scope.names []):=by
 have:=aef (acc:=[]) h
 show (forIn scope.names [] _ >>= λcs=>pure cs)=_
 have e:(forIn scope.names ([]:List (Str×Addr)) λ(x:Str×NameKind) (cs:List (Str×Addr))=>(do
   if x.2==.free then do let c <- cellOf env x.1;pure (ForInStep.yield ((x.1,c) ::cs)) else pure (ForInStep.yield cs):Sem _))=pure (aay env scope.names []):=this
 refine Eq.trans ?_ (congrArg (λm=>m >>= λcs=>pure cs) e)
 congr 1
theorem abS{env:Env}:∀ {names:List (Str×NameKind)}{acc:List (Str×Addr)}{p:Str×Addr},(∀ p∈names,p.2=.free->∃ c,env.cells.lookup p.1=some c)->p∈aay env names acc->
  p∈acc\/((p.1,NameKind.free)∈names/\env.cells.lookup p.1=some p.2)
 | [],acc,p,_,hp=>.inl hp
 | (n,k) ::r,acc,p,h,hp=>by
  dsimp only [aay] at hp
  by_cases q:(k==.free)=true
  . replace hp:=(if_pos q)▸hp
    have qk:k=.free:=by simpa using q
    rcases abS (λp hp=>h p (.tail _ hp)) hp with z | ⟨z1,z2⟩
    . rcases List.mem_cons.mp z with rfl | z
      . refine (h (n,k) (.head _) qk).elim λc hc=>?_
        right;rw [qk] at *;exact ⟨.head _,by simp [hc]⟩
      . exact .inl z
    . exact .inr ⟨.tail _ z1,z2⟩
  . replace hp:=(if_neg q)▸hp
    rcases abS (λp hp=>h p (.tail _ hp)) hp with z | ⟨z1,z2⟩
    . exact .inl z
    . exact .inr ⟨.tail _ z1,z2⟩
theorem aeh{env:Env}:∀ {names:List (Str×NameKind)}{acc:List (Str×Addr)}{p:Str×Addr},p∈acc->p∈aay env names acc
 | [],acc,p,hp=>hp
 | (n,k) ::r,acc,p,hp=>by
  dsimp only [aay]
  split
  . exact aeh (.tail _ hp)
  . exact aeh hp
theorem ac7{env:Env}{x:Str}:∀ {names:List (Str×NameKind)}{acc:List (Str×Addr)},(x,NameKind.free)∈names->∃ c,(x,c)∈aay env names acc
 | (n,k) ::r,acc,h=>by
  dsimp only [aay]
  rcases List.mem_cons.mp h with e | h
  . cases e
    exact ⟨_,aeh (.head _)⟩
  . split
    . exact ac7 h
    . exact ac7 h
theorem aa4:∀ {names:List (Str×NameKind)}{n:Nat}{acc:List (Str×Addr)}{p:Str×Addr},p∈cellsFrom n names acc->p∈acc\/((p.1,NameKind.cell)∈names/\n<=p.2)
 | [],n,acc,p,hp=>.inl hp
 | (x,k) ::r,n,acc,p,hp=>by
  dsimp only [cellsFrom] at hp
  by_cases q:(k==.cell)=true
  . replace hp:=(if_pos q)▸hp
    have qk:k=.cell:=by simpa using q
    rcases aa4 hp with z | ⟨z1,z2⟩
    . rcases List.mem_cons.mp z with rfl | z
      . subst qk;exact .inr ⟨.head _,auf _⟩
      . exact .inl z
    . exact .inr ⟨.tail _ z1,aun z2⟩
  . replace hp:=(if_neg q)▸hp
    rcases aa4 hp with z | ⟨z1,z2⟩
    . exact .inl z
    . exact .inr ⟨.tail _ z1,z2⟩
theorem abN:∀ {names:List (Str×NameKind)}{n:Nat}{acc:List (Str×Addr)}{p:Str×Addr},p∈acc->p∈cellsFrom n names acc
 | [],n,acc,p,hp=>hp
 | (x,k) ::r,n,acc,p,hp=>by
  dsimp only [cellsFrom]
  split
  . exact abN (.tail _ hp)
  . exact abN hp
theorem abl{x:Str}:∀ {names:List (Str×NameKind)}{n:Nat}{acc:List (Str×Addr)},(x,NameKind.cell)∈names->∃ c,(x,c)∈cellsFrom n names acc
 | (y,k) ::r,n,acc,h=>by
  dsimp only [cellsFrom]
  rcases List.mem_cons.mp h with e | h
  . cases e
    exact ⟨n,abN (.head _)⟩
  . split
    . exact abl h
    . exact abl h
theorem abd:∀ {names:List (Str×NameKind)}{n:Nat}{a b:List (Str×Addr)},cellsFrom n names (a++b)=cellsFrom n names a++b
 | [],_,_,_=>rfl
 | (x,k) ::r,n,a,b=>by
  dsimp only [cellsFrom]
  split
  . exact abd (a:=(x,n) ::a)
  . exact abd
theorem abT{α:Type}:∀ {l:List (Str×α)}{x:Str}{c:α},(x,c)∈l->∃ c',l.lookup x=some c'/\(x,c')∈l
 | (y,d) ::r,x,c,h=>by
  rw [List.lookup_cons]
  cases q:x==y with
  | true=>exact ⟨d,rfl,by rw [beq_iff_eq.mp q];exact .head _⟩
  | false=>
   rcases List.mem_cons.mp h with e | h
   . cases e;simp at q
   . refine (abT h).elim λc' hX1=>hX1.elim λh1 h2=>?_
     exact ⟨c',h1,.tail _ h2⟩
theorem abm:∀ {names:List (Str×NameKind)}{h:Heap}{acc:List (Str×Addr)}{p:Str×Addr},p∈cellsFrom h.objs.size names acc->p∈acc\/(pushCells h names).get? p.2=some { cls:=.type "cell",data:=.cell none }
 | [],h,acc,p,hp=>.inl hp
 | (x,k) ::r,h,acc,p,hp=>by
  dsimp only [cellsFrom] at hp
  dsimp only [pushCells]
  split at hp
  . rename_i q
    rw [if_pos q]
    have:=abm (h:=h.push { cls:=.type "cell",data:=.cell none }) (acc:=(x,h.objs.size) ::acc) (p:=p) (by rw [Heap.size_push];exact hp)
    rcases this with z | z
    . rcases List.mem_cons.mp z with rfl | z
      . exact .inr (pushCells_keeps _ _ _ _ (at4 _ rfl))
      . exact .inl z
    . exact .inr z
  . rename_i q
    rw [if_neg q]
    exact abm hp
theorem aiu{M:Model}{A:Around}{E:Value->Shared->Prop}{s:Shared}{scope:Scope}{g:Addr}{cl:List (Str×Addr)}{qual:Str}{env:Env}{Q:Env->Shared->Prop}
  (h:Q { scope:=scope,locals:=s.heap.objs.size,globals:=g,cells:=cellsFrom (s.heap.objs.size+1) scope.names cl,qual:=qual,func:=none,code:=env.code,frame:=env.frame,builtins:=env.builtins }
    { s with heap:=pushCells (s.heap.push { cls:=.type "dict",data:=.dict #[] }) scope.names }) :
  wpAny M A (newFunctionEnv scope g cl [] qual none .none (some env)) Q E s:=by
 dsimp only [newFunctionEnv,Option.isSome_some,if_true]
 refine atY (wpAny_alloc ?_)
 refine atY (wpAny_layCells _ (λname kind cells=>by exact ite_cond_congr rfl) _ _ _ _ ?_)
 refine (show ({ s with heap:=s.heap.push { cls:=.type "dict",data:=.dict #[] } }:Shared).heap.objs.size=s.heap.objs.size+1 from auP ..)▸?_
 exact atY (at3 (at3 h))
theorem ach{env:Env}:∀ {names:List (Str×NameKind)}{x:Str},aeR ((names.map λ(n,k)=>if (k==NameKind.free&&env.scope.kind==.function&&env.kindOf n==some .cell) then (n,NameKind.cell) else (n,k)).lookup x) (names.lookup x)
 | [],_=>.inl rfl
 | (n,k) ::r,x=>by
  show aeR (List.lookup x ((if (k==NameKind.free&&env.scope.kind==.function&&env.kindOf n==some .cell)=true then (n,NameKind.cell) else (n,k)) ::_)) _
  cases hx:x==n with
  | true=>
   simp only [List.lookup_cons,hx]
   by_cases hc:(k==NameKind.free&&env.scope.kind==.function&&env.kindOf n==some .cell)=true
   . rw [if_pos hc]
     simp only [List.lookup_cons,hx]
     simp only [Bool.and_eq_true,beq_iff_eq] at hc
     rw [hc.1.1]
     exact .inr ⟨.inl rfl,.inr rfl⟩
   . rw [if_neg hc];simp only [List.lookup_cons,hx];exact .inl rfl
  | false=>
   simp only [List.lookup_cons,hx]
   by_cases hc:(k==NameKind.free&&env.scope.kind==.function&&env.kindOf n==some .cell)=true
   . rw [if_pos hc];simp only [List.lookup_cons,hx];exact (@ach env r x)
   . rw [if_neg hc];simp only [List.lookup_cons,hx];exact (@ach env r x)
noncomputable def abe (scope:Scope) (n:Nat) (env:Env):Env:=
 { scope:=relabel scope env,locals:=n,globals:=env.globals,cells:=cellsFrom (n+1) scope.names (aay env scope.names []),qual:=env.qual,func:=none,code:=env.code,frame:=env.frame,builtins:=env.builtins }
noncomputable def aa5 (scope:Scope) (h:Heap):Heap:=pushCells (h.push { cls:=.type "dict",data:=.dict #[] }) scope.names
noncomputable def aqt (scope:Scope) (n:Nat) (env:Env):aag:=λb=>b=n\/∃ x,scope.names.lookup x=some .cell/\(abe scope n env).cells.lookup x=some b
section
variable{scope:Scope}
theorem aeC{names:aad}{x:Str}{t:T}:∀ {ρ:aab},(abv names ρ).lookup x=some t->names.lookup x=some .free/\ρ.lookup x=some t
 | [],h=>by simp [abv] at h
 | (y,u) ::ρ,h=>by
  unfold abv at h
  rw [List.filter_cons] at h
  have ih:=λh=>@aeC names x t ρ h
  unfold abv at ih
  rw [List.lookup_cons]
  by_cases e:x==y
  . cases eq_of_beq e
    simp only [beq_self_eq_true]
    split at h
    . rename_i q
      simp only [List.lookup_cons,beq_self_eq_true] at h
      exact ⟨by simpa using q,h⟩
    . rename_i q
      have:=(ih h).1
      simp [this] at q
  . have e':(x==y)=false:=by simpa using e
    simp only [e']
    split at h
    . dsimp only [List.lookup_cons] at h
      simp only [e'] at h
      exact ih h
    . exact ih h
structure FrameC (V:aag) (s:Shared) (env:Env) (scope:Scope) (ρ:aab):Prop where
 ext:Ext s { s with heap:=aa5 scope s.heap }
 envS:EnvS (abe scope s.heap.objs.size env) scope.names
 loc:(abe scope s.heap.objs.size env).locals∉aa7
 slots:Slots (aqt scope s.heap.objs.size env) (aa5 scope s.heap) (abe scope s.heap.objs.size env) scope.names
 vars:VarsOK V (aa5 scope s.heap) (abe scope s.heap.objs.size env) (abv scope.names ρ)
 live:∀ x c,(abe scope s.heap.objs.size env).cells.lookup x=some c->∃ o,(aa5 scope s.heap).get? c=some o/\o.cls=.type "cell"
 fresh:∀ b,aqt scope s.heap.objs.size env b->s.heap.get? b=none
 free:∀ x c,scope.names.lookup x=some .free->(abe scope s.heap.objs.size env).cells.lookup x=some c->env.cells.lookup x=some c
 dict:∃ o es ep,(aa5 scope s.heap).get? s.heap.objs.size=some o/\o.data=.dict es ep/\StrKeys es
theorem akf (c:Cx γ it r A V s env sc ρ) (hf:aho sc scope.names=true) (hk:scope.kind=.function):FrameC V s env scope ρ:=by
 have hf':∀ p∈scope.names,scope.names.lookup p.1=some p.2/\(p.2=.free->abJ (sc.lookup p.1)):=by
  intro p hp
  have:=List.all_eq_true.mp hf p hp
  simp only [Bool.and_eq_true,Bool.or_eq_true,beq_iff_eq,bne_iff_ne,ne_eq] at this
  refine ⟨this.1,λe=>?_⟩
  rcases this.2 with (z | z) | z
  . exact absurd e z
  . exact .inl z
  . exact .inr z
 have keep:∀ b o,s.heap.get? b=some o->(aa5 scope s.heap).get? b=some o:=λb o e=>pushCells_keeps _ _ b o (atZ _ e)
 have hsz:(s.heap.push { cls:=.type "dict",data:=.dict #[] }).objs.size=s.heap.objs.size+1:=auP ..
 -- where a cell comes from
 have from_:∀ p∈cellsFrom (s.heap.objs.size+1) scope.names (aay env scope.names []),((p.1,NameKind.free)∈scope.names/\env.cells.lookup p.1=some p.2)\/
   ((p.1,NameKind.cell)∈scope.names/\s.heap.objs.size+1<=p.2/\(aa5 scope s.heap).get? p.2=some { cls:=.type "cell",data:=.cell none }/\p∈cellsFrom (s.heap.objs.size+1) scope.names []):=by
  intro p hp
  rw [show aay env scope.names []=[]++aay env scope.names [] from rfl,abd] at hp
  rcases List.mem_append.mp hp with hp | hp
  . right
    refine (aa4 hp).elim ?_ ?_
    . rintro z
      exact nomatch z
    . rintro ⟨z1,z2⟩
      refine ⟨z1,z2,?_,hp⟩
      rw [<- hsz] at hp
      exact (abm hp).elim (λz=>nomatch z) id
  . left
    refine (abS (λp hp e=>c.envS.cells _ ((hf' p hp).2 e)) hp).elim ?_ ?_
    . rintro z
      exact nomatch z
    . rintro z
      exact z
 have lcell:∀ x,scope.names.lookup x=some .cell->∃ cc,(abe scope s.heap.objs.size env).cells.lookup x=some cc/\s.heap.objs.size+1<=cc/\(aa5 scope s.heap).get? cc=some { cls:=.type "cell",data:=.cell none }/\(x,cc)∈cellsFrom (s.heap.objs.size+1) scope.names []:=by
  intro x hx
  refine (abl (n:=s.heap.objs.size+1) (acc:=aay env scope.names []) (mem_of_lookup hx)).elim λc0 h0=>?_
  refine (abT h0).elim λc1 hX1=>hX1.elim λh1 h2=>?_
  rcases from_ _ h2 with ⟨z,_⟩ | ⟨_,z2,z3,z4⟩
  . have:=(hf' _ z).1;replace this:=hx▸this;cases this
  . exact ⟨c1,h1,z2,z3,z4⟩
 have lfree:∀ x,scope.names.lookup x=some .free->∃ cc,(abe scope s.heap.objs.size env).cells.lookup x=some cc/\env.cells.lookup x=some cc:=by
  intro x hx
  refine (ac7 (env:=env) (acc:=[]) (mem_of_lookup hx)).elim λc0 h0=>?_
  obtain ⟨c1,h1,h2⟩:=abT (abN (names:=scope.names) (n:=s.heap.objs.size+1) h0)
  refine ag λG kG=>?_
  rcases from_ _ h2 with ⟨_,z⟩ | ⟨z,_⟩
  refine kG ?_
  . exact ⟨c1,h1,z⟩
  . have:=(hf' _ z).1;replace this:=hx▸this;cases this
 have hdict:(aa5 scope s.heap).get? s.heap.objs.size=some { cls:=.type "dict",data:=.dict #[] }:=pushCells_keeps _ _ _ _ (at4 _ rfl)
 have ok:=(cellsFrom_ok scope.names (s.heap.push { cls:=.type "dict",data:=.dict #[] }) (s.heap.objs.size+1) [] ⟨λ_ _ hm=>(nomatch hm),List.Pairwise.nil⟩ (by rw [hsz];exact auf _)).apart
 rw [hsz] at ok
 have kin:∀ x,aeR ((abe scope s.heap.objs.size env).kindOf x) (scope.names.lookup x):=λx=>ach
 have old:∀ {x cc},(x,NameKind.free)∈scope.names->env.cells.lookup x=some cc->∃ o,s.heap.get? cc=some o/\o.cls=.type "cell":=λhm h=>c.live _ _ ((hf' _ hm).2 rfl) h
 have ltOld:∀ {x cc},(x,NameKind.free)∈scope.names->env.cells.lookup x=some cc->cc<s.heap.objs.size:=λhm h=>(old hm h).elim λo hX1=>hX1.elim λe _=>aua e
 have ext:Ext s { s with heap:=aa5 scope s.heap }:=Ext.of (tk:=s.toks) keep
 refine ⟨ext,⟨hk,c.envS.glob,c.envS.bins,kin,?_⟩,acg c.wd.tabs (auf _),⟨hk,?_,?_,?_,?_,?_⟩,?_,?_,?_,?_,⟨_,_,_,hdict,rfl,by intro e he;simp at he⟩⟩
 . rintro x (h | h)
   . obtain ⟨cc,h1,_⟩:=lcell x h;exact ⟨cc,h1⟩
   . obtain ⟨cc,h1,_⟩:=lfree x h;exact ⟨cc,h1⟩
 . exact ⟨.inl rfl,_,_,_,hdict,rfl,by intro e he;simp at he⟩
 . intro x hx
   refine (lcell x hx).elim λcc hX1=>hX1.elim λh1 hX2=>hX2.elim λh2 hX3=>hX3.elim λh3 h4=>?_
   refine ⟨?_,cc,_,_,h1,.inr ⟨x,hx,h1⟩,auJ h2,h3,rfl,rfl⟩
   rcases kin x with z | ⟨z,_⟩
   . rw [z,hx];exact .inl rfl
   . exact z
 . intro x y cc hx h1 h2
   obtain ⟨c1,g1,g2,g3,g4⟩:=lcell x hx
   replace g1:=h1▸g1;cases g1
   rcases from_ _ (mem_of_lookup h2) with ⟨hm,z⟩ | ⟨_,_,_,z4⟩
   . exact absurd (ltOld hm z) (Nat.not_lt.mpr (aun g2))
   . exact name_of_addr ok g4 z4
 . intro y cc h1 h2
   rcases from_ _ (mem_of_lookup h1) with ⟨hm,z⟩ | ⟨_,z,_⟩
   . have:=ltOld hm z;rw [h2] at this;exact auH _ this
   . rw [h2] at z;exact auH _ z
 . intro x hx;exact lookup_relabel_local hx
 . intro x t hx
   obtain ⟨q,hr⟩:=aeC hx
   refine (c.vars x t hr).elim λv hX1=>hX1.elim λhs hv=>?_
   refine (lfree x q).elim λcc hX1=>hX1.elim λg1 g2=>?_
   have hkind:abJ (env.kindOf x):=by
    rcases c.envS.names x with z | ⟨z,_⟩
    . rw [z];exact ((hf' _ (mem_of_lookup q)).2 rfl)
    . exact z
   refine (hs).elim ?_ ?_
   . rintro ⟨hl,_⟩
     rw [hl] at hkind;rcases hkind with z | z <;> cases z
   . rintro ⟨_,c',o,h1,h2,h3,h4⟩
     replace h1:=g2▸h1;cases h1
     refine ⟨v,.inr ⟨?_,cc,o,g1,keep _ _ h2,h3,h4⟩,hv.ext ext⟩
     rcases kin x with z | ⟨z,_⟩
     . rw [z,q];exact .inr rfl
     . exact z
 . intro x cc h
   rcases from_ _ (mem_of_lookup h) with ⟨hm,z⟩ | ⟨_,_,z,_⟩
   . obtain ⟨o,e,q⟩:=old hm z;exact ⟨o,keep _ _ e,q⟩
   . exact ⟨_,z,rfl⟩
 . rintro b (h | ⟨x,hx,h⟩)
   . rw [h];exact aan
   . obtain ⟨c1,g1,g2,_⟩:=lcell x hx
     replace g1:=h▸g1;cases g1
     exact at6 (aun g2)
 . intro x cc hx h
   obtain ⟨c1,g1,g2⟩:=lfree x hx
   replace g1:=h▸g1;cases g1
   exact g2
end
section
theorem abn{T':String}:afd γ (.type T'):=λM h _=>⟨.machine,.inr (.inl rfl),Looks.of_pure rfl⟩
theorem aaY{T':String}:afd γ (.builtin T'):=λM h _=>⟨.machine,.inr (.inl rfl),Looks.of_pure rfl⟩
theorem aaH{f:Str}{p pos:Pos}{args:List Expr}{vf:Value}{Q:Value->Shared->Prop}{E:Value->Shared->Prop}(c:Cx γ it r A V s env sc ρ) (hd:(f==("__debug__":Str))=false) (hg:aaW sc f=true)
  (hv:γ.mg f=some vf\/(γ.mg f=none/\γ.mb f=some vf)) (hk:afd γ vf) (hp:aae args=true)
  (h:wpAny (model pg γ.w) A (spliced (backTo pos (starEach args env))) (λvs a8=>Ext s a8/\wpAny (model pg γ.w) A (call vf vs) Q E a8) E s):wpAny (model pg γ.w) A (eval (.Call (.Name f p) args [] pos) env) Q E s:=by
 show wpAny _ _ (eval (.Name f p) env >>= λg=>callWith pos g [] (backTo pos (starEach args env)) []) _ _ _
 refine (eval_Name _ _ _ hd)▸?_
 refine atY (atY (at7 (acQ c.wd c.envS hg hv ?_)))
 exact aln hk c.wd hp h
theorem Iters.from{target:Expr}{items:List T}{v:Value}{a8 aa:Shared}(x:Ext s a8) (i:Iters γ A target V a8 items v aa):Iters γ A target V s items v aa:=by
 obtain ⟨I,W,V',St,e,Tn,st,y,hw,hv⟩:=i
 exact ⟨I,W,V',St,e,Tn,st,x.trans y,λb hb=>x.there b id (hw b hb),hv⟩
theorem Iters.mono{target:Expr}{items:List T}{v:Value}{aa:Shared}{aw:aag}(h:∀ a,V a->aw a) (i:Iters γ A target V s items v aa):Iters γ A target aw s items v aa:=by
 obtain ⟨I,W,V',St,e,Tn,st,y,hw,hv⟩:=i
 exact ⟨I,W,V',St,e,Tn,st,y,hw,λa ha=>⟨h a (hv a ha).1,(hv a ha).2⟩⟩
theorem alz{t:T}{K:List T->Prop}{G:T->Prop}(h:apo t K) (kl:∀ l,l.length<=10000->K l->G (.lst l)) (kt:∀ l,l.length<=10000->K l->G (.tup l)):G t:=by
 revert h
 cases t with
 | lst l=>exact λh=>kl l (aco h).1 (aco h).2
 | tup l=>exact λh=>kt l (aco h).1 (aco h).2
 | _=>exact False.elim
theorem adO{t:T}{K:List T->Prop}(h:apo t K):∃ l,aeJ t l/\l.length<=10000/\K l:=
 alz (G:=λt=>∃ l,aeJ t l/\l.length<=10000/\K l) h (λl a b=>⟨l,.inl rfl,a,b⟩) λl a b=>⟨l,.inr rfl,a,b⟩
theorem ajm{e:Expr}(h:aih e=true):∃ es k p,e=.Tuple es k p:=tupK (G:=λe=>∃ es k p,e=.Tuple es k p) h λes k p=>⟨es,k,p,rfl⟩
theorem aiv{t:T}{K:List T->Prop}{G:T->Prop}(h:alk t K) (kl:∀ l,l.length<=10000->K l->G (.lst l)) (kt:∀ l,l.length<=10000->K l->G (.tup l)) (kd:∀ l:List (Int×T),l.length<=10000->K (l.map λp=>.int p.1)->G (.dct l)):G t:=by
 revert h
 cases t with
 | lst l=>exact λh=>kl l (aco h).1 (aco h).2
 | tup l=>exact λh=>kt l (aco h).1 (aco h).2
 | dct l=>exact λh=>kd l (aco h).1 (aco h).2
 | _=>exact False.elim
noncomputable abbrev ItQ (γ:Gm) (A:Around) (target:Expr) (V:aag) (s:Shared) (K:List T->Prop) (i:Value) (aa:Shared):Prop:=∃ items,K items/\items.length<=10000/\Iters γ A target V s items i aa
theorem akg (hh:A.handled=none) (tb:TabInv s.heap) {target:Expr}{v:Value}{t:T}{K:List T->Prop}(rv:Rep V s.heap v t) (h:alk t K) :
  wpAny (model pg γ.w) A (pyIter v) (ItQ γ A target V s K) (λ_ _=>False) s:=
 aiv (G:=λt=>Rep V s.heap v t->wpAny (model pg γ.w) A (pyIter v) (ItQ γ A target V s K) (λ_ _=>False) s) h
  (λl hl hK rv=>at1 (af8 hh tb rv) (λi aa z=>⟨_,hK,hl,z⟩) λ_ _ e=>e) (λl hl hK rv=>at1 (aio hh tb rv) (λi aa z=>⟨_,hK,hl,z⟩) λ_ _ e=>e)
  (λl hl hK rv=>at1 (aj9 hh tb rv) (λi aa z=>⟨_,hK,by rw [List.length_map];exact hl,z⟩) λ_ _ e=>e) rv
theorem evL_one{es:List Expr}{P:List T->Prop}{Q:List Value->Shared->Prop}{E:Value->Shared->Prop}{pos:Pos}(hs:aaz γ it r ev) (c:Cx γ it r A V s env sc ρ) (hp:aae es=true) (h:ahe (λe k=>ev sc e ρ k) es P)
  (k:∀ vs a8 ts,P ts->Ext s a8->RepL (Nv V s) a8.heap vs ts->Q vs a8):wpAny (model pg γ.w) A (spliced (backTo pos (starEach es env))) Q E s:=
 at1 (aaX hs hp h c) (λvs a8 hq=>hq.elim λts a b c=>k vs a8 ts a b c) λ_ _ f=>f.elim
theorem alA{a b:Int}(h:b<=a+10000):(ab8 a b).length<=10000:=by
 unfold ab8;rw [List.length_map,List.length_range];exact Int.toNat_le.mpr (Int.sub_left_le_of_le_add h)
theorem abG (wd:Wd γ s.heap) {x:Str}{v:Value}(h:(x,v)∈anw):γ.mg x=some v\/(γ.mg x=none/\γ.mb x=some v):=.inr (wd.st.blt _ h)
theorem acD{a:Expr}(h:aai a=true):aae [a]=true:=by simp [aae,h]
theorem aca{a b:Expr}(h:aai a=true) (h':aai b=true):aae [a,b]=true:=by simp [aae,h,h']
theorem acR{a:Expr}{pos:Pos}{Q:List Value->Shared->Prop}{E:Value->Shared->Prop}(h:aai a=true) (k:wpAny (model pg γ.w) A (eval a env) (λv a8=>Q [v] a8) E s) :
  wpAny (model pg γ.w) A (spliced (backTo pos (starEach [a] env))) Q E s:=by
 rw [aaF h]
 exact Calls.spliced_cons (at1 k (λv a8 ak=>Calls.spliced_nil ak) λ_ _ e=>e)
theorem adz{a b:Expr}{pos:Pos}{Q:List Value->Shared->Prop}{E:Value->Shared->Prop}(h:aai a=true) (h':aai b=true)
  (k:wpAny (model pg γ.w) A (eval a env) (λv a8=>wpAny (model pg γ.w) A (eval b env) (λu aa=>Q [v,u] aa) E a8) E s) :
  wpAny (model pg γ.w) A (spliced (backTo pos (starEach [a,b] env))) Q E s:=by
 rw [aaF h,aaF h']
 exact Calls.spliced_cons (at1 k (λv a8 ak=>Calls.spliced_cons (at1 ak (λu aa aq=>Calls.spliced_nil aq) λ_ _ e=>e)) λ_ _ e=>e)
noncomputable abbrev ItG (γ:Gm) (A:Around) (V:aag) (s:Shared) (env:Env) (target:Expr) (K:List T->Prop) (e:Expr):Prop:=
 wpAny (model pg γ.w) A (eval e env) (λv a8=>wpAny (model pg γ.w) A (pyIter v) (ItQ γ A target (Nv V s) s K) (λ_ _=>False) a8) (λ_ _=>False) s
section
variable (hs:aaz γ it r ev) {target:Expr}{K:List T->Prop}(hh:A.handled=none) (c:Cx γ it r A V s env sc ρ) {p q:Pos}{a b o:Expr}
include hs hh c
theorem aqu (hg:aaW sc "range"=true) (hp:aai a=true) (h:aii ev sc target (.range1 a) ρ K):ItG γ A V s env target K (.Call (.Name "range" p) [a] [] q):=by
 refine aaH c rfl hg (abG c.wd (v:=.type "range") (by decide)) abn (acD hp) (acR hp (aaj (hs _ _ _ _ h A V s env c) λv a8 t ak ae rv=>⟨ae,?_⟩))
 revert ak
 cases t with
 | int i=>
  refine λak=>aao rv λt e=>?_
  clear rv
  subst e
  have g:=ae6 (gd_ ak).1
  refine call_range_1 (at1 (afh (target:=target) (V:=Nv V s) hh ((c.ext ae).wd.tabs.keeps λb o e=>atZ _ e) (IsRange.new ..) (by decide) (by decide) (auy (by decide) g.1) (Int.lt_of_le_of_lt g.2 (by decide)))
   (λi aa z=>⟨_,(gd_ ak).2,alA (by exact g.2),z.from (ae.trans Ext.push)⟩) λ_ _ e=>e)
 | _=>exact False.elim
theorem aqv (hg:aaW sc "range"=true) (hp:aai a=true) (hp':aai b=true) (h:aii ev sc target (.range2 a b) ρ K):ItG γ A V s env target K (.Call (.Name "range" p) [a,b] [] q):=by
 refine aaH c rfl hg (abG c.wd (v:=.type "range") (by decide)) abn (aca hp hp') (adz hp hp' (aaj (hs _ _ _ _ h A V s env c) λv a8 t ak ae rv=>aaj (hs _ _ _ _ ak A V a8 env (c.ext ae)) λu aa t' aq am ru=>⟨ae.trans am,?_⟩))
 revert aq
 clear ak
 cases t with
 | int i=>cases t' with
  | int j=>
   refine λaq=>aao rv λt e=>aao ru λt' e'=>?_
   clear ru
   clear rv
   subst e e'
   have g:=gd2 aq
   refine call_range_2 (at1 (afh (target:=target) (V:=Nv V s) hh (((c.ext ae).ext am).wd.tabs.keeps λb o e=>atZ _ e) (IsRange.new ..) (auy (by decide) (ae6 g.1).1) (Int.lt_of_le_of_lt (ae6 g.1).2 (by decide)) (auy (by decide) (ae6 g.2.1).1) (Int.lt_of_le_of_lt (ae6 g.2.1).2 (by decide)))
    (λi aa z=>⟨_,(aco g.2.2).2,by unfold ab8;rw [List.length_map,List.length_range];exact (aco g.2.2).1,z.from ((ae.trans am).trans Ext.push)⟩) λ_ _ e=>e)
  | _=>exact False.elim
 | _=>exact False.elim
theorem an1 (hg:aaW sc "zip"=true) (hp:aai a=true) (hp':aai b=true) (h:aii ev sc target (.zip a b) ρ K):ItG γ A V s env target K (.Call (.Name "zip" p) [a,b] [] q):=by
 refine aaH c rfl hg (abG c.wd (v:=.type "zip") (by decide)) abn (aca hp hp') (adz hp hp' (aaj (hs _ _ _ _ h A V s env c) λv a8 t ak ae rv=>aaj (hs _ _ _ _ ak A V a8 env (c.ext ae)) λu aa t' aq am ru=>⟨ae.trans am,?_⟩))
 refine (adO aq).elim λl hX1=>hX1.elim λe1 hX2=>hX2.elim λb1 aq=>?_
 refine (adO aq).elim λl' hX1=>hX1.elim λe2 hX2=>hX2.elim λb2 aq=>?_
 exact at1 (alv (target:=target) (V:=Nv V s) hh (rv.ext am) (ru.nv ae) e1 e2 (eq_of_beq (gd_ aq).1)) (λv ai z=>z.again ⟨_,(gd_ aq).2,by rw [adx (eq_of_beq (gd_ aq).1)];exact b1,z.from (ae.trans am)⟩) λ_ _ e=>e
theorem alB (hg:aaW sc "enumerate"=true) (hp:aai a=true) (h:aii ev sc target (.enum a) ρ K):ItG γ A V s env target K (.Call (.Name "enumerate" p) [a] [] q):=by
 have g:=gd_ h
 clear h
 obtain ⟨es,k,p',rfl⟩:=ajm g.1
 refine aaH c rfl hg (abG c.wd (v:=.type "enumerate") (by decide)) abn (acD hp) (acR hp (aaj (hs _ _ _ _ g.2 A V s env c) λv a8 t ak ae rv=>⟨ae,?_⟩))
 refine (adO ak).elim λl hX1=>hX1.elim λe1 hX2=>hX2.elim λb1 ak=>?_
 exact at1 (akc (es:=es) (kk:=k) (pos:=p') (V:=Nv V s) hh (c.ext ae).wd.tabs rv e1) (λv ai z=>z.again ⟨_,ak,by rw [aeA];exact b1,z.from ae⟩) λ_ _ e=>e
theorem akh (he:(p.endLine==q.line)=true) (hp:acP o=true) (h:aii ev sc target (.items o) ρ K):ItG γ A V s env target K (.Call (.Attribute o "items" p) [] [] q):=by
 have g:=gd_ h
 clear h
 obtain ⟨es,k,p',rfl⟩:=ajm g.1
 show wpAny _ _ (attributeBase o "items" env (eval o env) >>= λov=>(standAt p.atName >>= λ_=>methodCall o "items" p q env ov (0+0) (backTo q (starEach [] env)) [])) _ _ _
 refine (acf hp)▸?_
 refine atY (aaj (hs _ _ _ _ g.2 A V s env c) λov a8 t ak ae rv=>atY (at7 ?_))
 revert ak
 cases t with
 | dct l=>
  intro ak
  show wpAny _ _ (holding [ov] (calleeOf true o env ov "items") >>= λfs=>(methodCallPos true o env p q >>= λcp=>callWith cp fs.1 fs.2 (backTo q (starEach [] env)) [])) _ _ _
  refine (by unfold methodCallPos;refine he.symm▸?_;rfl:methodCallPos true o env p q=pure q)▸?_
  refine atY (aud (acB rv λa od kvs e _ hs eo hd _=>?_))
  subst e
  refine getMethod_builtin (Heap.DictOf.typeIs (Heap.dictOf_iff.mpr ⟨_,eo,hd⟩)) PySem.F.plainAttrs_dict PySem.F.slot_dict_items PySem.F.type_dict_items (by obtain ⟨es,ep,hx⟩:=hd;exact λo e=>by cases e;exact ⟨_,eo,hx.1.2.1⟩) ?_
  refine atY (at3 (aln (γ:=γ) (es:=[]) aaY (c.ext ae).wd rfl (at3 ⟨ExtX.refl _,?_⟩)))
  exact at1 (air (es:=es) (kk:=k) (pos:=p') (V:=Nv V s) hh (c.ext ae).wd.tabs rv) (λvw aa hZ7=>hZ7.elim λam z=>at1 z (λi ai z=>⟨_,(aco ak).2,by rw [List.length_map];exact (aco ak).1,z.from ae⟩) λ_ _ e=>e) λ_ _ e=>e
 | _=>exact False.elim
end
theorem aei (hs:aaz γ it r ev) {target e:Expr}{K:List T->Prop}(hit:it=true) (c:Cx γ it r A V s env sc ρ) (h:afc ev sc target e ρ K):ItG γ A V s env target K e:=
 have hh:=c.aok.free hit
 aj4 (sc:=sc) (G:=λe q=>aii ev sc target q ρ K->ItG γ A V s env target K e) e
  (λ_ h=>aaj (hs _ _ _ _ h A V s env c) λv a8 t ak ae rv=>at1 (akg hh (c.ext ae).wd.tabs rv ak) (λi aa hZ8=>hZ8.elim λl hZ9=>hZ9.elim λa hZ10=>hZ10.elim λb z=>⟨l,a,b,z.from ae⟩) λ_ _ e=>e)
  (λ_ _ _ hg hp h=>aqu hs hh c hg hp h) (λ_ _ _ hg hp h=>alB hs hh c hg hp h) (λ_ _ _ _ hg hp hp' h=>aqv hs hh c hg hp hp' h) (λ_ _ _ _ hg hp hp' h=>an1 hs hh c hg hp hp' h) (λ_ _ _ he hp h=>akh hs hh c he hp h) h
end
section
noncomputable abbrev ajn (ifs:List Expr) (env:Env):Sem Bool:=forIn ifs true λc r=>if r=true then do let ok <- isTrue c env (eval c env);pure (ForInStep.yield ok) else pure (ForInStep.yield r)
noncomputable abbrev No:Value->Shared->Prop:=λ_ _=>False
noncomputable def aqw (γ:Gm) (A:Around) (e:Expr) (gens:List Comprehension) (step:(Shared->Prop)->Shared->Prop) (d:Nat) (it acc:Value) (env:Env) (R:Result->Shared->Prop) (s:Shared):Prop:=
 ∃ g,gens[d]?=some g/\g.is_async=0/\wpAny (model pg γ.w) A (pyNext it) (λr a8=>match r with
  | none=>R (.ok .next) a8
  | some v=>wpAny (model pg γ.w) A (letOwnedTupleGo g.target it v) (λ_ aa=>wpAny (model pg γ.w) A (assign g.target env v) (λ_ ai=>wpAny (model pg γ.w) A (ajn g.ifs env) (λok ao=>
   (ok=false->codeAny (model pg γ.w) A (.compLoop e d it acc env) R ao)/\(ok=true->match gens[d+1]? with
     | none=>step (λaI=>codeAny (model pg γ.w) A (.compLoop e d it acc env) R aI) ao
     | some g'=>g'.is_async=0/\aai g'.iter=true/\wpAny (model pg γ.w) A (eval g'.iter env) (λx aI=>wpAny (model pg γ.w) A (pyIter x) (λit' aT=>
       codeAny (model pg γ.w) A (.compStart e (d+1) it' acc env) (λr aV=>∃ f,r=.ok f/\codeAny (model pg γ.w) A (.compLoop e d it acc env) R aV) aT) No aI) No ao)) No ai) No aa) No a8) No s
theorem aht{e:Expr}{env:Env}(h:aai e=true) (x:Value):foldedSetIterable e env x=pure x:=by
 cases e <;> first | rfl | exact ff h
noncomputable def asC (γ:Gm) (A:Around) (elt:Expr) (acc:Value) (env:Env) (K:Shared->Prop) (s:Shared):Prop:=
 wpAny (model pg γ.w) A (eval elt env) (λx a8=>wpAny (model pg γ.w) A (call (.builtin "list.append") [acc,x]) (λ_ aa=>K aa) No a8) No s
theorem alC{elt:Expr}{gens:List Comprehension}{scope:Scope}{pos:Pos}{d:Nat}{it acc:Value}{env:Env}{R:Result->Shared->Prop}
  (h:aqw γ A (.ListComp elt gens scope pos) gens (asC γ A elt acc env) d it acc env R s):codeAny (model pg γ.w) A (.compLoop (.ListComp elt gens scope pos) d it acc env) R s:=by
 refine (h).elim λg hX1=>hX1.elim λhg hX2=>hX2.elim λha h=>?_
 refine codeAny_of_tree ?_
 show wpAny _ A ((compTurn (.ListComp elt gens scope pos) d it acc env).onRaise (λx=>do noteFrame x env;theTreesLotGoes x)) _ _ s
 refine wpAny_noted ?_
 unfold compTurn
 dsimp only
 refine hg▸?_
 simp only [ha]
 refine atY (at7 (atY (at1 h (λr a8 ak=>?_) λ_ _ f=>f.elim)))
 cases r with
 | none=>exact at3 ak
 | some v=>
  refine atY (at1 ak (λ_ aa aq=>atY (at1 aq (λ_ ai aB=>atY (at1 aB (λok ao aO=>?_) λ_ _ f=>f.elim)) λ_ _ f=>f.elim)) λ_ _ f=>f.elim)
  cases ok with
  | false=>exact at3 ⟨rfl,aO.1 rfl⟩
  | true=>
   have ax:=aO.2 rfl
   cases q:gens[d+1]? with
   | none=>
    rw [q] at ax
    exact atY (atY (at1 ax (λx aI ax=>atY (at1 ax (λ_ aT b6=>at3 (at3 ⟨rfl,b6⟩)) λ_ _ f=>f.elim)) λ_ _ f=>f.elim))
   | some g'=>
    rw [q] at ax
    obtain ⟨ha',hp',ax⟩:=ax
    simp only [ha']
    refine atY (at1 ax (λx aI ax=>atY (at7 ?_)) λ_ _ f=>f.elim)
    refine atY ?_
    refine wpAny_of_eq (aht hp' x) ?_
    refine atY (aud (at1 ax (λit' aT b6=>?_) λ_ _ f=>f.elim))
    refine atY (wpAny_runOwn (codeAny_mono b6 λr aV aC=>?_))
    obtain ⟨f,rfl,aC⟩:=aC
    exact at3 ⟨rfl,aC⟩
noncomputable def asD (γ:Gm) (A:Around) (k v:Expr) (D:Addr) (env:Env) (K:Shared->Prop) (s:Shared):Prop:=
 wpAny (model pg γ.w) A (eval k env) (λx a8=>wpAny (model pg γ.w) A (eval v env) (λy aa=>wpAny (model pg γ.w) A (dictSet D x y) (λ_ ai=>K ai) No aa) No a8) No s
theorem alD{kx vx:Expr}{gens:List Comprehension}{scope:Scope}{pos:Pos}{d:Nat}{it:Value}{D:Addr}{env:Env}{R:Result->Shared->Prop}
  (h:aqw γ A (.DictComp kx vx gens scope pos) gens (asD γ A kx vx D env) d it (.ref D) env R s):codeAny (model pg γ.w) A (.compLoop (.DictComp kx vx gens scope pos) d it (.ref D) env) R s:=by
 refine (h).elim λg hX1=>hX1.elim λhg hX2=>hX2.elim λha h=>?_
 refine codeAny_of_tree ?_
 show wpAny _ A ((compTurn (.DictComp kx vx gens scope pos) d it (.ref D) env).onRaise (λx=>do noteFrame x env;theTreesLotGoes x)) _ _ s
 refine wpAny_noted ?_
 unfold compTurn
 dsimp only
 refine hg▸?_
 simp only [ha]
 refine atY (at7 (atY (at1 h (λr a8 ak=>?_) λ_ _ f=>f.elim)))
 cases r with
 | none=>exact at3 ak
 | some v=>
  refine atY (at1 ak (λ_ aa aq=>atY (at1 aq (λ_ ai aB=>atY (at1 aB (λok ao aO=>?_) λ_ _ f=>f.elim)) λ_ _ f=>f.elim)) λ_ _ f=>f.elim)
  cases ok with
  | false=>exact at3 ⟨rfl,aO.1 rfl⟩
  | true=>
   have ax:=aO.2 rfl
   cases q:gens[d+1]? with
   | none=>
    replace ax:=q▸ax
    refine atY (atY (at1 ax (λx aI ax=>atY (aud (at1 ax (λy aT b6=>?_) λ_ _ (f:False)=>f.elim))) λ_ _ (f:False)=>f.elim))
    refine atY (at7 ?_)
    exact aud (at1 b6 (λ_ aV aC=>at3 ⟨rfl,aC⟩) λ_ _ (f:False)=>f.elim)
   | some g'=>
    rw [q] at ax
    obtain ⟨ha',hp',ax⟩:=ax
    simp only [ha']
    refine atY (at1 ax (λx aI ax=>atY (at7 ?_)) λ_ _ f=>f.elim)
    refine atY ?_
    refine wpAny_of_eq (aht hp' x) ?_
    refine atY (aud (at1 ax (λit' aT b6=>?_) λ_ _ f=>f.elim))
    refine atY (wpAny_runOwn (codeAny_mono b6 λr aV aC=>?_))
    obtain ⟨f,rfl,aC⟩:=aC
    exact at3 ⟨rfl,aC⟩
theorem ahu{e:Expr}{d:Nat}{it acc:Value}{env:Env}{R:Result->Shared->Prop}{g:Comprehension}(hg:(clausesOf e)[d]?=some g) (ha:g.is_async=0)
  (hfr:(Code.compStart e d it acc env).isFrame=false) (hq:(Code.compLoop e d it acc env).quiet=true) (hq':∀ it',(Code.compLoop e d it' acc env).quiet=true) (hu:A.under (.compStart e d it acc env)=A)
  (h0:codeAny (model pg γ.w) A (.compLoop e d it acc env) R s) (hs:wpAny (model pg γ.w) A (pyIter it) (λit' s'=>codeAny (model pg γ.w) A (.compLoop e d it' acc env) R s') No s) :
  codeAny (model pg γ.w) A (.compStart e d it acc env) R s:=by
 refine codeAny_of_tree ?_
 show wpAny _ _ (if (Code.compStart e d it acc env).isFrame then (compStart e d it acc env).onRaise (leaving env) else (compStart e d it acc env).onRaise (λx=>do noteFrame x env;standAt theWindowsPlace)) _ _ s
 rw [hfr,hu]
 refine wpAny_notedAt ?_
 unfold compStart
 refine hg▸?_
 rw [Option.elim_some,ha]
 refine atY (wpAny_askSetting (wpAny_ite ?_))
 split
 . exact at3 (And.intro hq h0)
 . refine atY (wpAny_rule ?_)
   refine atY (at7 (atY (at1 hs (λit' s' h'=>at3 (And.intro (hq' it') h')) λ_ _ (f:False)=>f.elim)))
end
section
theorem Rep.shift {v t}(r:Rep V s.heap v t) (hV:∀ a,V a->(∃ o,s.heap.get? a=some o)->V' a) (hk:∀ b o,o.cls≠.none->V b->s.heap.get? b=some o->s'.heap.get? b=some o):Rep V' s'.heap v t:=
 (Rep.live r).mono (λa h=>hV a h.1 h.2) λb o n h e=>hk b o n h.1 e
theorem RepL.shift {v t}(r:RepL V s.heap v t) (hV:∀ a,V a->(∃ o,s.heap.get? a=some o)->V' a) (hk:∀ b o,o.cls≠.none->V b->s.heap.get? b=some o->s'.heap.get? b=some o):RepL V' s'.heap v t:=
 (RepL.live r).mono (λa h=>hV a h.1 h.2) λb o n h e=>hk b o n h.1 e
theorem RepD.shift {v t}(r:RepD V s.heap v t) (hV:∀ a,V a->(∃ o,s.heap.get? a=some o)->V' a) (hk:∀ b o,o.cls≠.none->V b->s.heap.get? b=some o->s'.heap.get? b=some o):RepD V' s'.heap v t:=
 (RepD.live r).mono (λa h=>hV a h.1 h.2) λb o n h e=>hk b o n h.1 e
theorem Slots.zone (sl:Slots X s.heap env sc) (x:ExtX Z s s') (hZ:∀ b,Z b->¬ X b) (hL:env.locals∉aa7):Slots X s'.heap env sc where
 kind:=sl.kind
 loc:=⟨sl.loc.1,sl.loc.2.keep λo e=>x.keep _ o hL (λz=>hZ _ z sl.loc.1) e⟩
 cell:=λy hy=>⟨(sl.cell y hy).1,(sl.cell y hy).2.keep λc o h _ e n=>x.keepC _ _ n (λz=>hZ _ z h) e⟩
 apart:=sl.apart
 other:=sl.other
 local_:=sl.local_
theorem agb (e:EnvS env sc) {y:Str}(h:abJ (env.kindOf y)):abJ (sc.lookup y):=by
 refine (e.names y).elim ?_ ?_
 . rintro z
   refine z▸?_;exact h
 . rintro ⟨_,z⟩
   exact z
theorem VarsOK.zone (vk:VarsOK V s.heap env ρ) (x:ExtX Z s s') (e:EnvS env sc) (hL:env.locals∉aa7) (zL:¬ Z env.locals) (zc:∀ y c,abJ (sc.lookup y)->env.cells.lookup y=some c->¬ Z c)
  (zV:Off Z V) (hV:∀ a,V a->(∃ o,s.heap.get? a=some o)->V' a):VarsOK V' s'.heap env ρ:=λy t h=>by
 obtain ⟨v,a,b⟩:=vk y t h
 refine ⟨v,?_,b.shift hV λb o n hb e=>x.keepC b o n (λz=>zV b z hb) e⟩
 refine (a).elim ?_ ?_
 . rintro ⟨hl,m,hn,hm⟩
   exact .inl ⟨hl,m,hn.at' λo q=>x.keep _ o hL zL q,hm⟩
 . rintro ⟨hl,c,o,hc,ho,hcl,hd⟩
   exact .inr ⟨hl,c,o,hc,x.keepC _ _ (by refine hcl▸?_;exact λz=>by cases z) (zc y c (agb e hl) hc) ho,hcl,hd⟩
end
section
variable (γ:Gm)
structure CSt (it:Bool) (r:Nat) (A:Around) (V X:aag) (D:Addr) (s:Shared) (env:Env) (sc:aad) (ρ:aab):Prop where
 cx:Cx γ it r A V s env sc ρ
 slots:Slots X s.heap env sc
 offX:Off X V
 offD:¬ V D
 fr:∀ a,s.heap.get? a=none->V a
 free:∀ x c,sc.lookup x=some .free->env.cells.lookup x=some c->¬ X c/\c≠D
 old:OldOff X s.heap γ.KF
 oldD:OldOff (·=D) s.heap γ.KF
 hand:∀ e,A.handled=some (.ref e)->¬ X e/\e≠D
 DX:¬ X D
end
section
variable{D:Addr}
theorem CSt.fm (c:CSt γ it r A V X D s env sc ρ):Fm X V s env sc ρ:=⟨c.slots,c.cx.vars,c.offX⟩
theorem CSt.zoneV (c:CSt γ it r A V X D s env sc ρ) (x:ExtX Z s s') (zV:Off Z V) (zX:∀ b,Z b->¬ X b) (zF:∀ y cc,sc.lookup y=some .free->env.cells.lookup y=some cc->¬ Z cc)
  (zO:OldOff Z s.heap γ.KF) (zh:∀ e,A.handled=some (.ref e)->¬ Z e) (hV:∀ a,V a->(∃ o,s.heap.get? a=some o)->V' a) (oX:Off X V') (oD:¬ V' D) (fr:∀ a,s'.heap.get? a=none->V' a):CSt γ it r A V' X D s' env sc ρ:=by
 have zc:∀ y cc,abJ (sc.lookup y)->env.cells.lookup y=some cc->¬ Z cc:=by
  rintro y cc (h | h) hc
  . obtain ⟨_,c',_,_,h1,h2,_⟩:=c.slots.cell y h
    replace h1:=hc▸h1;cases h1;exact λz=>zX _ z h2
  . exact zF y cc h hc
 have zL:¬ Z env.locals:=λz=>zX _ z c.slots.loc.1
 exact ⟨⟨c.cx.aok.extX x zh,c.cx.wd.extX x zO,c.cx.envS,c.cx.loc,c.cx.vars.zone x c.cx.envS c.cx.loc zL zc zV hV,λy cc hc h=>(c.cx.live y cc hc h).elim λo hX1=>hX1.elim λe q=>⟨o,x.keepC _ _ (by refine q▸?_;exact λz=>by cases z) (zc y cc hc h) e,q⟩⟩,c.slots.zone x zX c.cx.loc,oX,oD,fr,c.free,c.old,c.oldD,c.hand,c.DX⟩
theorem CSt.zone (c:CSt γ it r A V X D s env sc ρ) (x:ExtX Z s s') (zV:Off Z V) (zX:∀ b,Z b->¬ X b) (zF:∀ y cc,sc.lookup y=some .free->env.cells.lookup y=some cc->¬ Z cc)
  (zO:OldOff Z s.heap γ.KF) (zh:∀ e,A.handled=some (.ref e)->¬ Z e) (fr:∀ a,s'.heap.get? a=none->V a):CSt γ it r A V X D s' env sc ρ:=
 c.zoneV x zV zX zF zO zh (λ_ h _=>h) c.offX c.offD fr
theorem CSt.ext (c:CSt γ it r A V X D s env sc ρ) (x:Ext s s'):CSt γ it r A V X D s' env sc ρ:=
 c.zone x (λ_ h=>h.elim) (λ_ h=>h.elim) (λ_ _ _ _ h=>h.elim) OldOff.nil (λ_ _ h=>h.elim) λa e=>c.fr a (x.there a id e)
theorem CSt.set (c:CSt γ it r A V X D s env sc ρ) (x:ExtX X s s') (f:Fm X V s' env sc af) (liv:∀ b,X b->∃ o,s'.heap.get? b=some o):CSt γ it r A V X D s' env sc af:=by
 refine ⟨⟨c.cx.aok.extX x λe h=>(c.hand e h).1,c.cx.wd.extX x c.old,c.cx.envS,c.cx.loc,f.vars,?_⟩,f.slots,c.offX,c.offD,?_,c.free,c.old,c.oldD,c.hand,c.DX⟩
 . rintro y cc (hc | hc) h
   . obtain ⟨_,c',o,_,h1,_,_,h4,h5,_⟩:=f.slots.cell y hc
     replace h1:=h▸h1;cases h1;exact ⟨o,h4,h5⟩
   . obtain ⟨o,e,q⟩:=c.cx.live y cc (.inr hc) h
     exact ⟨o,x.keepC _ _ (by refine q▸?_;exact λz=>by cases z) (c.free y cc hc h).1 e,q⟩
 . intro a e
   by_cases hx:X a
   . obtain ⟨o,q⟩:=liv a hx;replace q:=e▸q;exact nos q
   . exact c.fr a (x.there a hx e)
theorem CSt.vars (c:CSt γ it r A V X D s env sc ρ) (h:∀ x t,af.lookup x=some t->ρ.lookup x=some t):CSt γ it r A V X D s env sc af:=
 ⟨⟨c.cx.aok,c.cx.wd,c.cx.envS,c.cx.loc,λx t e=>c.cx.vars x t (h x t e),c.cx.live⟩,c.slots,c.offX,c.offD,c.fr,c.free,c.old,c.oldD,c.hand,c.DX⟩
theorem CSt.view (c:CSt γ it r A V X D s env sc ρ) (hV:∀ a,V a->(∃ o,s.heap.get? a=some o)->V' a) (oX:Off X V') (oD:¬ V' D) (fr:∀ a,s.heap.get? a=none->V' a):CSt γ it r A V' X D s env sc ρ:=
 ⟨⟨c.cx.aok,c.cx.wd,c.cx.envS,c.cx.loc,λx t e=>(c.cx.vars x t e).elim λv hX1=>hX1.elim λa b=>⟨v,a,b.shift hV λ_ _ _ _ e=>e⟩,c.cx.live⟩,c.slots,oX,oD,fr,c.free,c.old,c.oldD,c.hand,c.DX⟩
theorem ExtX.thenW{Y W:aag}{a8:Shared}(x:ExtX Y s a8) (y:ExtX (λb=>Y b\/W b) a8 s') (hW:∀ b,W b->s.heap.get? b=none):ExtX Y s s' where
 keep:=λb o n q e=>y.keep b o n (λz=>z.elim q λz=>by rw [hW b z] at e;cases e) (x.keep b o n q e)
 keepC:=λb o n q e=>y.keepC b o n (λz=>z.elim q λz=>by rw [hW b z] at e;cases e) (x.keepC b o n q e)
 there:=λb q e=>Classical.byCases (λz:W b=>hW b z) λz=>x.there b q (y.there b (λh=>h.elim q z) e)
 tab:=λt=>y.tab (x.tab t)
 os:=y.os.trans x.os
 gens:=λt=>y.gens (x.gens t)
theorem aiw{ev:EvF}{n:Nat}(hs:aaz γ it r ev):∀ {cs:List Expr}{K:Bool->Prop}{s:Shared},aex (λe k=>abq (λe k=>ev sc e ρ k) n e k) cs K->Cx γ it r A V s env sc ρ->
  wpAny (model pg γ.w) A (ajn cs env) (λok s'=>K ok/\Ext s s') No s:=by
 have no:∀ {cs:List Expr}{K:Bool->Prop}{s:Shared},K false->wpAny (model pg γ.w) A (forIn cs false λc r=>if r=true then do let ok <- isTrue c env (eval c env);pure (ForInStep.yield ok) else pure (ForInStep.yield r)) (λok s'=>K ok/\Ext s s') No s:=by
  intro cs
  induction cs with
  | nil=>exact λh=>at3 ⟨h,ExtX.refl _⟩
  | cons c cs ih=>
   intro K s h
   rw [List.forIn_cons]
   exact atY (at3 (ih h))
 intro cs
 induction cs with
 | nil=>exact λh c=>at3 ⟨h,ExtX.refl _⟩
 | cons e cs ih=>
  intro K s h c
  show wpAny _ _ (forIn (e ::cs) true _) _ _ _
  rw [List.forIn_cons]
  refine atY (atY (at1 (aaU hs n h c) (λb a8 hZ49=>hZ49.elim λk x=>at3 ?_) λ_ _ e=>e))
  clear hZ49
  cases b with
  | true=>exact at1 (ih k (c.ext x)) (λok aa hq=>hq.elim λa b=>⟨a,x.trans b⟩) λ_ _ e=>e
  | false=>exact at1 (no k) (λok aa hq=>hq.elim λa b=>⟨a,x.trans b⟩) λ_ _ e=>e
end
section
variable (γ:Gm)
structure CompK{R:Type}(it:Bool) (r:Nat) (A:Around) (X:aag) (D:Addr) (env:Env) (sc:aad) (e:Expr) (gens:List Comprehension) (step:(Shared->Prop)->Shared->Prop) (emit:aab->(R->Prop)->Prop)
  (Acc:aag->Shared->List R->Prop):Prop where
 loop:∀ d i (R:Result->Shared->Prop) s,aqw γ A e gens step d i (.ref D) env R s->codeAny (model pg γ.w) A (.compLoop e d i (.ref D) env) R s
 start:∀ d i (R:Result->Shared->Prop) s g,gens[d]?=some g->g.is_async=0->codeAny (model pg γ.w) A (.compLoop e d i (.ref D) env) R s->
  wpAny (model pg γ.w) A (pyIter i) (λi' s'=>codeAny (model pg γ.w) A (.compLoop e d i' (.ref D) env) R s') No s->codeAny (model pg γ.w) A (.compStart e d i (.ref D) env) R s
 accK:∀ V V' s s' zs,Acc V s zs->(∀ a,V a->(∃ o,s.heap.get? a=some o)->V' a)->(∀ b o,o.cls≠.none->(V b\/b=D)->s.heap.get? b=some o->s'.heap.get? b=some o)->Acc V' s' zs
 step:∀ V s af zs (K':List R->Prop) (Kc:Shared->Prop),zs.length<10000->emit af (λr=>K' (zs++[r]))->CSt γ it r A V X D s env sc af->Acc V s zs->
  (∀ s' r',K' (zs++[r'])->ExtX (·=D) s s'->CSt γ it r A V X D s' env sc af->Acc V s' (zs++[r'])->Kc s')->step Kc s
 isX:∀ b,X b->b=env.locals\/∃ x,sc.lookup x=some .cell/\env.cells.lookup x=some b
 off:adK gens=true
end
section
variable{D:Addr}
 {R:Type}{e:Expr}{gens:List Comprehension}{step:(Shared->Prop)->Shared->Prop}{emit:aab->(R->Prop)->Prop}{Acc:aag->Shared->List R->Prop}
theorem aaM (sl:Slots X s.heap env sc) (hX:∀ b,X b->b=env.locals\/∃ x,sc.lookup x=some .cell/\env.cells.lookup x=some b) (b:Addr) (h:X b):∃ o,s.heap.get? b=some o:=by
 refine (hX b h).elim ?_ ?_
 . rintro rfl
   obtain ⟨_,o,_,_,e,_⟩:=sl.loc;exact ⟨o,e⟩
 . rintro ⟨x,h1,h2⟩
   refine ag λG kG=>?_
   obtain ⟨_,c,o,_,g1,_,_,g2,_⟩:=sl.cell x h1
   refine kG ?_
   replace g1:=h2▸g1;cases g1;exact ⟨o,g2⟩
noncomputable abbrev bodyF (ev:EvF) (n:Nat) (sc:aad) (emit:aab->(R->Prop)->Prop) (g:Comprehension) (gs:List Comprehension):aab->List R->(List R->Prop)->Prop:=
 λaf acc K'=>aex (λe k=>abq (λe k=>ev sc e af k) n e k) g.ifs λb=>br b (aik ev n sc emit gs af acc K') (K' acc)
noncomputable abbrev alE (γ:Gm) (A:Around) (D:Addr) (env:Env) (e:Expr) (gens:List Comprehension) (step:(Shared->Prop)->Shared->Prop) (d:Nat) (Kc:Shared->Prop) (s:Shared):Prop:=
 match gens[d+1]? with
 | none=>step Kc s
 | some g'=>g'.is_async=0/\aai g'.iter=true/\wpAny (model pg γ.w) A (eval g'.iter env) (λx aI=>wpAny (model pg γ.w) A (pyIter x) (λit' aT=>
   codeAny (model pg γ.w) A (.compStart e (d+1) it' (.ref D) env) (λr aV=>∃ f,r=.ok f/\Kc aV) aT) No aI) No s
noncomputable def alF (γ:Gm) (it:Bool) (r:Nat) (A:Around) (X:aag) (D:Addr) (env:Env) (sc:aad) (ev:EvF) (n:Nat) (e:Expr) (gens:List Comprehension) (step:(Shared->Prop)->Shared->Prop)
  (emit:aab->(R->Prop)->Prop) (Acc:aag->Shared->List R->Prop) (d:Nat) (gs:List Comprehension):Prop:=
 ∀ V s af zs (K':List R->Prop) (Kc:Shared->Prop),aik ev n sc emit gs af zs K'->CSt γ it r A V X D s env sc af->Acc V s zs->
  (∀ s' zs',K' zs'->ExtX (λb=>X b\/b=D) s s'->CSt γ it r A V X D s' env sc af->Acc V s' zs'->Kc s')->alE γ A D env e gens step d Kc s
theorem alG (ck:CompK γ it r A X D env sc e gens step emit Acc) (hs:aaz γ it r ev) {d:Nat}{g:Comprehension}{gs:List Comprehension}(hg:gens[d]?=some g) (ha:g.is_async=0)
  (inner:alF γ it r A X D env sc ev n e gens step emit Acc d gs) {I:Addr}{W Vo az:aag}{items:List T}{St:Nat->Shared->Prop}(Tn:Turns γ A g.target I W az items St)
  (hWo:∀ b,W b->Vo b) (b7:∀ a,az a->Vo a/\¬ W a) (hWF:∀ y cc,sc.lookup y=some .free->env.cells.lookup y=some cc->¬ W cc) (hWO:∀ h,OldOff W h γ.KF) (hWh:∀ e,A.handled=some (.ref e)->¬ W e) (oX:Off X Vo) (oD:¬ Vo D) :
  ∀ (m i:Nat) (s:Shared) (zs:List R) (K:List R->Prop) (Rr:Result->Shared->Prop),items.length-i=m->i<=items.length->St i s->CSt γ it r A (λa=>Vo a/\¬ W a) X D s env sc ρ->Acc (λa=>Vo a/\¬ W a) s zs->
   aij (λt ρ=>agI g.target t sc ρ) (bodyF ev n sc emit g gs) (items.drop i) ρ zs K->
   (∀ s' zs',K zs'->ExtX (λb=>(X b\/b=D)\/W b) s s'->CSt γ it r A Vo X D s' env sc ρ->Acc Vo s' zs'->Rr (.ok .next) s')->
   codeAny (model pg γ.w) A (.compLoop e d (.ref I) (.ref D) env) Rr s:=by
 have WX:∀ b,W b->¬ X b:=λb hw hx=>oX b hx (hWo b hw)
 have WD:¬ W D:=λh=>oD (hWo D h)
 intro m
 induction m with
 | zero=>
  intro i s zs K Rr hm hi st c acc hl fin
  have hi':i=items.length:=by exact akX hm hi
  subst hi'
  rw [List.drop_length] at hl
  refine ck.loop _ _ _ _ ⟨g,hg,ha,Tn.done _ _ _ c.cx.aok.hand st λs' x=>?_⟩
  refine fin s' zs hl (x.mono λ_ h=>.inr h) (c.zoneV x (λb hb h=>h.2 hb) WX hWF (hWO _) hWh (λa h _=>h.1) oX oD (λa ea=>Classical.byCases (λh:W a=>hWo a h) λh=>(c.fr a (x.there a h ea)).1)) ?_
  exact ck.accK _ _ _ _ _ acc (λa h _=>h.1) λb o n h eb=>x.keepC b o n (λhw=>h.elim (λh=>h.2 hw) λh=>WD (h▸hw)) eb
 | succ m ih=>
  intro i s zs K Rr hm hi st c acc hl fin
  have hlt:i<items.length:=by exact au2 hm
  obtain ⟨t,ht⟩:∃ t,items[i]?=some t:=⟨items[i],by simp⟩
  have hdrop:items.drop i=t ::items.drop (i+1):=by
   rw [List.drop_eq_getElem_cons hlt]
   replace ht:=(aul hlt)▸ht;cases ht;rfl
  rw [hdrop] at hl
  refine (ak2 hl).elim λaf hX1=>hX1.elim λhb hl=>?_
  refine ck.loop _ _ _ _ ⟨g,hg,ha,Tn.item i t s _ _ ht st λv a8 ae go=>?_⟩
  refine go _ _ λaa am av ti=>?_
  have ah:=c.zone am (λb hb h=>h.2 hb) WX hWF (hWO _) hWh λa ea=>by
   have hw:¬ W a:=λh=>by obtain ⟨o,q⟩:=Tn.live _ _ av a h;replace q:=ea▸q;exact nos q
   exact c.fr a (am.there a hw ea)
  have ti':TItem g.target (λa=>Vo a/\¬ W a) aa.heap v t:=by
   have up:∀ a,az a\/s.heap.get? a=none->Vo a/\¬ W a:=λa h=>h.elim (b7 a) (c.fr a)
   refine (ti).elim ?_ ?_
   . rintro z
     exact .inl (z.mono up λ_ _ _ _ e=>e)
   . rintro ⟨q,T',vals,ts,b1,b2,b3,b4⟩
     exact .inr ⟨q,T',vals,ts,b1,b2,b3,b4.mono up λ_ _ _ _ e=>e⟩
  refine ake ah.cx.aok.hand ah.cx.wd.tabs ah.cx.loc ah.fm ti' (ais hb) λai an bV=>?_
  have aj:=ah.set an bV (aaM bV.slots ck.isX)
  refine at1 (aiw hs hl aj.cx) (λok ao hZ34=>hZ34.elim λaO ay=>?_) λ_ _ f=>f
  have Yoff:∀ b,(X b\/b=D)->¬ az b/\¬ W b:=λb hb=>by
   clear c
   clear ck
   clear ah
   rcases hb with hb | rfl
   . exact ⟨λh=>oX b hb (b7 b h).1,λh=>oX b hb (hWo b h)⟩
   . exact ⟨λh=>oD (b7 b h).1,WD⟩
  have x24:ExtX (λb=>X b\/b=D) aa ao:=(an.mono λ_ h=>.inl h).trans ay.toX
  have arW:∀ aI,CSt γ it r A (λa=>Vo a/\¬ W a) X D aI env sc af->CSt γ it r A (λa=>Vo a/\¬ W a) X D aI env sc ρ:=λaI aM=>aM.vars λy u hy=>akd hb hy
  refine ⟨λhf=>?_,λhf=>?_⟩
  . subst hf
    exact ih (i+1) ao zs K Rr (by grind) hlt (Tn.frame _ _ _ _ Yoff av x24) (arW _ (aj.ext ay)) (ck.accK _ _ _ _ _ (ck.accK _ _ _ _ _ (ck.accK _ _ _ _ _ acc (λa h _=>h) λb o n h eb=>am.keepC b o n (λhw=>h.elim (λh=>h.2 hw) λh=>WD (h▸hw)) eb) (λa h _=>h) λb o n h eb=>an.keepC b o n (λhx=>h.elim (λh=>oX b hx h.1) λh=>ah.DX (h▸hx)) eb) (λa h _=>h) λb o n h eb=>ay.keepC b o n id eb) aO λs' zs' hk x c' a'=>fin s' zs' hk (((am.mono λ_ h=>.inr h).trans (x24.mono λ_ h=>.inl h)).trans x) c' a'
  . subst hf
    refine inner _ ao af zs _ _ aO (aj.ext ay) (ck.accK _ _ _ _ _ (ck.accK _ _ _ _ _ (ck.accK _ _ _ _ _ acc (λa h _=>h) λb o n h eb=>am.keepC b o n (λhw=>h.elim (λh=>h.2 hw) λh=>WD (h▸hw)) eb) (λa h _=>h) λb o n h eb=>an.keepC b o n (λhx=>h.elim (λh=>oX b hx h.1) λh=>ah.DX (h▸hx)) eb) (λa h _=>h) λb o n h eb=>ay.keepC b o n id eb) λaI zs' hk bx aM cU=>?_
    exact ih (i+1) aI zs' K Rr (by lia) hlt (Tn.frame _ _ _ _ Yoff av (x24.trans bx)) (arW _ aM) cU hk λs' zs' hk x c' a'=>fin s' zs' hk ((((am.mono λ_ h=>.inr h).trans (x24.mono λ_ h=>.inl h)).trans (bx.mono λ_ h=>.inl h)).trans x) c' a'
theorem an2 (ck:CompK γ it r A X D env sc e gens step emit Acc) (hs:aaz γ it r ev) (hit:it=true):∀ (gs:List Comprehension) (d:Nat),gens.drop (d+1)=gs->alF γ it r A X D env sc ev n e gens step emit Acc d gs:=by
 intro gs
 induction gs with
 | nil=>
  intro d hd V s af zs K' Kc h c acc fin
  have hn:gens[d+1]?=none:=by refine (List.head?_drop)▸?_;rw [hd];rfl
  unfold alE
  refine hn▸?_
  exact ck.step V s af zs K' Kc (aco h).1 (aco h).2 c acc λs' r' hk x c' a'=>fin s' _ hk (x.mono λ_ h=>.inr h) c' a'
 | cons g' gs ih=>
  intro d hd V s af zs K' Kc h c acc fin
  have hn:gens[d+1]?=some g':=by refine (List.head?_drop)▸?_;rw [hd];rfl
  have gok:=List.all_eq_true.mp ck.off g' (aux hn)
  rw [Bool.and_eq_true,beq_iff_eq] at gok
  unfold alE
  refine hn▸?_
  refine ⟨gok.1,gok.2,?_⟩
  refine at1 (aei hs hit c.cx h) (λx a8 ak=>at1 ak (λi aa aq=>?_) λ_ _ f=>f) λ_ _ f=>f
  refine ag λG kG=>?_
  obtain ⟨items,hk,_,I,W,V',St,rfl,Tn,st,x,hw,hv⟩:=aq
  refine kG ?_
  have wlive:∀ b o,s.heap.get? b=some o->¬ W b:=λb o e z=>by replace e:=(hw b z)▸e;exact nos e
  have hfr:∀ b,W b->V b:=λb h=>c.fr b (hw b h)
  have ah:CSt γ it r A (λa=>V a/\¬ W a) X D aa env sc af:=by
   refine c.zoneV (Z:=λ_=>False) x (λ_ h=>h.elim) (λ_ h=>h.elim) (λ_ _ _ _ h=>h.elim) OldOff.nil (λ_ _ h=>h.elim) (λa h hZ35=>hZ35.elim λo e=>⟨h,wlive a o e⟩) (λb hb h=>c.offX b hb h.1) (λh=>c.offD h.1) λa ea=>?_
   refine ⟨c.fr a (x.there a id ea),λh=>?_⟩
   obtain ⟨o,q⟩:=Tn.live _ _ st a h;replace q:=ea▸q;exact nos q
  have cV:=ck.accK _ (λa=>V a/\¬ W a) _ aa _ acc (λa h hZ38=>hZ38.elim λo e=>⟨h,wlive a o e⟩) λb o n h eb=>x.keepC b o n id eb
  have hWF:∀ y cc,sc.lookup y=some .free->env.cells.lookup y=some cc->¬ W cc:=λy cc h1 h2=>by
   obtain ⟨o,q,_⟩:=c.cx.live y cc (.inr h1) h2;exact wlive cc o q
  have b7:∀ a,V' a->V a/\¬ W a:=λa ha=>by
   have h1:=(hv a ha).1
   have h2:=(hv a ha).2.1
   exact ⟨h1.elim id λz=>c.fr a z,h2⟩
  have lp:codeAny (model pg γ.w) A (.compLoop e (d+1) (.ref I) (.ref D) env) (λr aV=>∃ f,r=.ok f/\Kc aV) aa:=
   alG ck hs (d:=d+1) hn gok.1 (ih (d+1) (by refine List.tail_drop▸?_;rw [hd];rfl)) Tn hfr b7 hWF (λh=>OldOff.fresh c.cx.wd hw) (λe he=>by replace he:=(c.cx.aok.free hit)▸he;exact nos he) c.offX c.offD _ 0 aa zs _ _ rfl (aup _) st ah cV (hk)
    λs' zs' hk' x' c' a'=>⟨_,rfl,fin s' zs' hk' (ExtX.thenW x.toX x' hw) c' a'⟩
  exact ck.start (d+1) _ _ _ g' hn gok.1 lp (Tn.self 0 _ _ _ st lp)
end
set_option backward.match.sparseCases false
theorem ExtX.but2{X:aag}{s:Shared}{h':Heap}{tk:Nat}{a:Addr}{o:Obj}(e:s.heap.get? a=some o) (hn:∀ vs,o.data≠.fields vs) (hX:X a)
  (k:∀ b o,b≠a->s.heap.get? b=some o->h'.get? b=some o):ExtX X s { s with heap:=h',toks:=tk }:=
 { keep:=λb o _ n e'=>k b o (λz=>n (z▸hX)) e',keepC:=λb o _ n e'=>k b o (λz=>n (z▸hX)) e',there:=λb n e'=>by
    cases q:s.heap.get? b with
    | none=>rfl
    | some o=>have:=k b o (λz=>n (z▸hX)) q;replace this:=e'▸this;exact nos this
   tab:=λx=>x.but e hn k,os:=rfl,gens:=id }
section
variable{D:Addr}
theorem Cx.liveIn (c:Cx γ it r A V s env sc ρ):Cx γ it r A (liveIn V s) s env sc ρ:=
 ⟨c.aok,c.wd,c.envS,c.loc,λx t h=>(c.vars x t h).elim λv hX1=>hX1.elim λa b=>⟨v,a,Rep.live b⟩,c.live⟩
noncomputable def AccL (D:Addr) (V:aag) (s:Shared) (zs:List T):Prop:=∃ vs,s.heap.PlainList D vs/\RepL V s.heap vs.toList zs
noncomputable def AccD (D:Addr) (V:aag) (s:Shared) (zs:List (Int×T)):Prop:=
 ∃ o kvs,s.heap.get? D=some o/\o.IsDictOf iK kvs/\RepD V s.heap kvs (zs.foldl abr [])
theorem aej (hs:aaz γ it r ev) {elt:Expr}{gens:List Comprehension}{scope:Scope}{pos:Pos}(hX:∀ b,X b->b=env.locals\/∃ x,sc.lookup x=some .cell/\env.cells.lookup x=some b) (hg:adK gens=true) :
  CompK γ it r A X D env sc (.ListComp elt gens scope pos) gens (asC γ A elt (.ref D) env) (λaf K'=>ev sc elt af K') (AccL D) where
 loop:=λd i R s h=>alC h
 start:=λd i R s g hg ha h0 h=>ahu (e:=.ListComp elt gens scope pos) hg ha rfl rfl (λ_=>rfl) rfl h0 h
 accK:=λV V' s s' zs ⟨vs,⟨n,e⟩,rs⟩ hV k=>⟨vs,⟨n,k D _ (λz=>by cases z) (.inr rfl) e⟩,rs.shift hV λb o n h e=>k b o n (.inl h) e⟩
 step:=by
  rintro V s af zs K' Kc hl h c ⟨vs,hp,rs⟩ fin
  refine aaj (hs _ _ _ _ h A V s env c.cx) λv a8 t hk x rv=>?_
  obtain ⟨n,e⟩:=hp
  have aP:=x.keepC D _ (λz=>by cases z) id e
  have al:=c.ext x
  have up:∀ a,Nv V s a->V a:=λa h=>h.elim id (c.fr a)
  refine wpAny_list_append_plain (hsz:=(aaf (by have:=rs.length;simp at this;exact this▸aug hl))) ⟨n,aP⟩ λh' hp' hs'=>?_
  have k':∀ b o,b≠D->a8.heap.get? b=some o->h'.get? b=some o:=λb o hb e=>hs'.extBut b o hb e
  have x':ExtX (·=D) a8 { a8 with heap:=h' }:=ExtX.but2 (tk:=a8.toks) aP (λ_ z=>by cases z) rfl k'
  have c':=al.zone x' (λb hb h=>c.offD (hb▸h)) (λb hb h=>c.DX (hb▸h)) (λy cc h1 h2=>(c.free y cc h1 h2).2) c.oldD (λe h=>(c.hand e h).2) λa ea=>by
   by_cases hq:a=D
   . obtain rfl:=hq.symm;obtain ⟨n',q⟩:=hp';replace q:=ea▸q;exact nos q
   . exact al.fr a (x'.there a hq ea)
  refine fin _ t hk (x.toX.trans x') c' ⟨_,hp',?_⟩
  rw [Array.toList_push]
  refine RepL.append ?_ (.cons ?_ .nil)
  . exact (rs.ext x).mono (λ_ h=>h) λb o n h e=>k' b o (λz=>c.offD (z▸h)) e
  . exact rv.mono up λb o n h e=>k' b o (λz=>c.offD (z▸up b h)) e
 isX:=hX
 off:=hg
theorem RepD.append{h:Heap} {vs ts us rs}(a:RepD V h vs ts) (b:RepD V h us rs):RepD V h (vs++us) (ts++rs):=
 abI (P:=λvs ts=>RepD V h (vs++us) (ts++rs)) b (λx _ ih=>.cons x ih) a
theorem RepD.any{h:Heap}{k:Int} {vs ts}(a:RepD V h vs ts):vs.any (λkv=>decide (kv.1=k))=ts.any (λq=>q.1==k):=
 abI (P:=λvs ts=>vs.any (λkv=>decide (kv.1=k))=ts.any (λq=>q.1==k)) rfl (λ_ _ ih=>by rw [List.any_cons,List.any_cons,ih];rfl) a
theorem RepD.put{h:Heap}{k:Int}{v:Value}{t:T}(rv:Rep V h v t) {vs ts}(a:RepD V h vs ts):RepD V h (vs.map λkv=>if kv.1=k then (kv.1,v) else kv) (ts.map λq=>if q.1==k then (q.1,t) else q):=
 abI (P:=λvs ts=>RepD V h (vs.map λkv=>if kv.1=k then (kv.1,v) else kv) (ts.map λq=>if q.1==k then (q.1,t) else q)) .nil (λ{k'} _ _ _ _ x _ ih=>by
  rw [List.map_cons,List.map_cons]
  by_cases e:k'=k
  . rw [if_pos e,if_pos (beq_iff_eq.mpr e)];exact .cons rv ih
  . rw [if_neg e,if_neg (λz=>e (beq_iff_eq.mp z))];exact .cons x ih) a
theorem RepD.stored{h:Heap}{k:Int}{v:Value}{t:T} {vs ts}(rv:Rep V h v t) (rs:RepD V h vs ts):RepD V h (PySem.stored vs k v) (abr ts (k,t)):=by
 dsimp only [PySem.stored,abr]
 refine rs.any▸?_
 split
 . exact rs.put rv
 . exact rs.append (.cons rv .nil)
theorem agN{l:List (Int×T)}{p:Int×T}:(abr l p).length<=l.length+1:=by
 unfold abr;split <;> simp
theorem ahv:∀ {zs:List (Int×T)}{l:List (Int×T)},(zs.foldl abr l).length<=l.length+zs.length
 | [],l=>by simp
 | z ::zs,l=>by
  have:=@ahv zs (abr l z)
  have:=@agN l z
  simp only [List.foldl_cons,List.length_cons];exact at0 ‹_<=(abr l z).length+_› (at0 (auj this _) (aub ((auF _ _ _).trans (Nat.add_assoc _ _ _))))
theorem aek (hs:aaz γ it r ev) {ke ve:Expr}{gens:List Comprehension}{scope:Scope}{pos:Pos}(hX:∀ b,X b->b=env.locals\/∃ x,sc.lookup x=some .cell/\env.cells.lookup x=some b) (hg:adK gens=true) :
  CompK γ it r A X D env sc (.DictComp ke ve gens scope pos) gens (asD γ A ke ve D env) (λaf (K':Int×T->Prop)=>ev sc ke af λa=>ev sc ve af λb=>match a with
   | .int i=>K' (i,b)
   | _=>False) (AccD D) where
 loop:=λd i R s h=>alD h
 start:=λd i R s g hg ha h0 h=>ahu (e:=.DictComp ke ve gens scope pos) hg ha rfl rfl (λ_=>rfl) rfl h0 h
 accK:=by
  rintro V V' s s' zs ⟨o,kvs,e,hd,rs⟩ hV k
  exact ⟨o,kvs,k D _ (λz=>by obtain ⟨es,ep,hx⟩:=hd;have q:=hx.1.1;replace q:=z▸q;cases q) (.inr rfl) e,hd,rs.shift hV λb o n h e=>k b o n (.inl h) e⟩
 step:=by
  rintro V s af zs K' Kc hl h c ⟨o,kvs,e,hd,rs⟩ fin
  refine aaj (hs _ _ _ _ h A V s env c.cx) λkv a8 ta ak ae rk=>?_
  refine aaj (hs _ _ _ _ ak A V a8 env (c.ext ae).cx) λv aa t aq am rv=>?_
  clear ak
  cases rk <;> first | exact aq.elim | skip
  rename_i i tk
  have x:Ext s aa:=ae.trans am
  have ah:=c.ext x
  have up:∀ a,Nv V a8 a->V a:=λa h=>h.elim id ((c.ext ae).fr a)
  replace hd:=aaE (p':=pg) (w':=γ.w) hd
  refine wpAny_dictSet_pairs (knd:=intKind pg γ.w) (k:=i) (hsz:=(aaf (by refine rs.length▸?_;have:=@ahv zs [];simp at this;exact at0 this (aug hl)))) (by simp [intKind,Value.isInt]) ((hd).elim λes hX1=>hX1.elim λep hx=>⟨_,es,ep,(x.keepC D _ (λz=>by obtain ⟨es,ep,hx⟩:=hd;have q:=hx.1.1;replace q:=z▸q;cases q) id e),hx⟩) λh' hp' hs'=>?_
  have k':∀ b o,b≠D->aa.heap.get? b=some o->h'.get? b=some o:=λb o hb e=>hs'.extBut b o hb e
  have x':ExtX (·=D) aa { aa with heap:=h',toks:=aa.toks+1 }:=ExtX.but2 (x.keepC D _ (λz=>by obtain ⟨es,ep,hx⟩:=hd;have q:=hx.1.1;replace q:=z▸q;cases q) id e) (λvs z=>by obtain ⟨es,ep,hx⟩:=hd;replace z:=hx.2.1▸z;cases z) rfl k'
  refine (id hp').elim λo' hX1=>hX1.elim λes' hX2=>hX2.elim λep' hX3=>hX3.elim λe' hx'=>?_
  have c':=ah.zone x' (λb hb h=>c.offD (hb▸h)) (λb hb h=>c.DX (hb▸h)) (λy cc h1 h2=>(c.free y cc h1 h2).2) c.oldD (λe h=>(c.hand e h).2) λa ea=>by
   by_cases hq:a=D
   . obtain rfl:=hq.symm;replace ea:=(show ({ aa with heap:=h',toks:=aa.toks+1 }:Shared).heap=h' from rfl)▸ea;replace ea:=e'▸ea;exact son ea
   . exact ah.fr a (x'.there a hq ea)
  refine fin _ (i,t) aq (x.toX.trans x') c' ⟨o',_,e',aaE (p:=pg) (w:=γ.w) ⟨es',ep',hx'⟩,?_⟩
  rw [List.foldl_append]
  refine RepD.stored ?_ ?_
  . exact rv.mono up λb o n h e=>k' b o (λz=>c.offD (z▸up b h)) e
  . exact (rs.ext x).mono (λ_ h=>h) λb o n h e=>k' b o (λz=>c.offD (z▸h)) e
 isX:=hX
 off:=hg
end
set_option backward.match.sparseCases true
theorem aah{E:Value->Shared->Prop}:∀ v s,No v s->E v s:=λ_ _ h=>h.elim
section
variable{D:Addr}
 {R:Type}
structure AccMade (γ:Gm) (newAcc:Sem Value) (Acc:Addr->aag->Shared->List R->Prop) (cls:String) (fin:List R->T):Prop where
 make:∀ (A:Around) (s:Shared) (Q:Value->Shared->Prop),(∀ o,o.cls=.type cls->o.isFreed=false->(∀ (V:aag) (s':Shared),s'.heap.get? s.heap.objs.size=some o->Acc s.heap.objs.size V s' [])->Q (.ref s.heap.objs.size) { s with heap:=s.heap.push o })->
  wpAny (model pg γ.w) A newAcc Q No s
 fin:∀ (D:Addr) (Vo V:aag) (s s':Shared) (zs:List R),(D==sysModules)=false->Acc D Vo s zs->(∀ a,Vo a->V a)->V D->(∀ b o,o.cls≠.none->(Vo b\/b=D)->s.heap.get? b=some o->s'.heap.get? b=some o)->Rep V s'.heap (.ref D) (fin zs)
 ne:cls≠"cell"
theorem adP{Acc:Addr->aag->Shared->List R->Prop}{newAcc:Sem Value}{cls:String}{fin:List R->T}{e:Expr}{gens:List Comprehension}{scope:Scope}{pos:Pos}{step:Addr->Env->(Shared->Prop)->Shared->Prop}{emit:aab->(R->Prop)->Prop}{K:T->Prop}{use:Option (Value->Sem Unit)}{Q:Value->Shared->Prop}{E:Value->Shared->Prop}
  (hs:aaz γ it r ev) (hit:it=true) (na:AccMade γ newAcc Acc cls fin) (hcl:clausesOf e=gens)
  (ck:∀ D env X,(∀ b,X b->b=env.locals\/∃ x,scope.names.lookup x=some .cell/\env.cells.lookup x=some b)->adK gens=true->CompK γ it r A X D env scope.names e gens (step D env) emit (Acc D))
  (c:Cx γ it r A V s env sc ρ) (h:ahp ev n sc scope emit gens ρ λzs=>K (fin zs))
  (post:∀ (D C:Addr) (s':Shared) (t:T),K t->Ext s s'->s.heap.get? C=none->s.heap.get? D=none->(∃ m,s'.heap.Ns C m)->Rep (λa=>Nv V s a/\a≠C) s'.heap (.ref D) t->compPost (model pg γ.w) A E use Q (.ref D) C (.ok .next) s') :
  wpAny (model pg γ.w) A (comprehension e scope env (firstIterPos gens pos) newAcc (firstAsync gens) (firstIter gens env) use) Q E s:=by
 refine (gd_ h).elim λh1 h2=>?_
 simp only [Bool.and_eq_true,beq_iff_eq] at h1
 obtain ⟨⟨hf,hg⟩,hk⟩:=h1
 cases gens with
 | nil=>exact h2.elim
 | cons g gs=>
  have gok:=List.all_eq_true.mp hg g (.head _)
  simp only [Bool.and_eq_true,beq_iff_eq] at gok
  have hf':∀ p∈scope.names,scope.names.lookup p.1=some p.2/\(p.2=.free->abJ (sc.lookup p.1)):=by
   intro p hp
   have:=List.all_eq_true.mp hf p hp
   simp only [Bool.and_eq_true,Bool.or_eq_true,beq_iff_eq,bne_iff_ne,ne_eq] at this
   refine ⟨this.1,λe=>?_⟩
   rcases this.2 with (z | z) | z
   . exact absurd e z
   . exact .inl z
   . exact .inr z
  rw [(by obtain ⟨a1,a2,a3,a4⟩:=g;simp only at gok;rw [gok.1];rfl:firstAsync (g ::gs)=false),(by obtain ⟨a1,a2,a3,a4⟩:=g;rfl:firstIter (g ::gs) env=eval g.iter env)]
  have c0:=c.liveIn
  refine wpAny_comprehension_free (use:=use) hcl (aht gok.2) (aeg λp hp e=>c.envS.cells _ ((hf' p hp).2 e)) hk (λp hp e=>by rw [(hf' p hp).1,e]) ?_
  refine at1 (aei hs hit c0 h2) (λv a8 ak=>at1 ak (λi aa aq=>?_) aah) aah
  refine ag λG kG=>?_
  obtain ⟨items,hl,_,I,W,az,St,rfl,Tn,st,x2,hw,hv⟩:=aq
  refine kG ?_
  refine at1 (na.make A aa (λacc ai=>wpAny (model pg γ.w) A (newFunctionEnv scope env.globals (aay env scope.names []) [] env.qual none .none (some env)) (λcenv ao=>
    codeAny (model pg γ.w) A (.compStart e 0 (.ref I) acc { cenv with scope:=relabel scope env }) (compPost (model pg γ.w) A E use Q acc cenv.locals) ao) E ai) λo hoc hof hacc=>?_) (λ_ _ h=>h) aah
  . generalize hD:aa.heap.objs.size=D at *
    generalize hs3:({ aa with heap:=aa.heap.push o }:Shared)=ai at *
    have x23:Ext aa ai:=by refine hs3▸?_;exact Ext.push (tk:=aa.toks)
    have eD:ai.heap.get? D=some o:=(hs3▸hD▸at4 _ hof)
    have fD:aa.heap.get? D=none:=by refine hD▸?_;exact aan
    have x3:Ext s ai:=x2.trans x23
    have fr:=akf (scope:=scope) (c0.ext x3) hf hk
    refine aiu ?_
    show codeAny _ _ (.compStart e 0 (.ref I) (.ref D) (abe scope ai.heap.objs.size env)) (compPost _ _ _ _ _ _ ai.heap.objs.size) { ai with heap:=aa5 scope ai.heap }
    generalize hs4:({ ai with heap:=aa5 scope ai.heap }:Shared)=ao
    have h4:ao.heap=aa5 scope ai.heap:=by exact hs4▸rfl
    have x34:Ext ai ao:=by refine hs4▸?_;exact fr.ext
    have x4:Ext s ao:=x3.trans x34
    have x24:Ext aa ao:=x23.trans x34
    generalize hX:aqt scope ai.heap.objs.size env=X
    generalize hE:abe scope ai.heap.objs.size env=cenv
    have frX:∀ b,X b->ai.heap.get? b=none:=λb hb=>fr.fresh b (by rw [hX];exact hb)
    have wlive:∀ b o,s.heap.get? b=some o->¬ W b:=λb o e z=>by replace e:=(hw b z)▸e;cases e
    have live2:∀ b o,aa.heap.get? b=some o->¬ X b/\b≠D:=λb o e=>⟨λh=>(by have:=x23.there b id (frX b h);replace this:=e▸this;exact son this),λh=>(by replace e:=h▸e;replace e:=fD▸e;exact nos e)⟩
    have lives:∀ b,(∃ o,s.heap.get? b=some o)->∃ o,aa.heap.get? b=some o:=λb hZ1=>hZ1.elim λo e=>by
     cases q:aa.heap.get? b with
     | none=>replace e:=(x2.there b id q)▸e;exact nos e
     | some o'=>exact ⟨o',rfl⟩
    have oD:o.cls≠.none:=by refine hoc▸?_;exact λz=>by cases z
    let Vo:aag:=λa=>Nv V s a/\¬ X a/\a≠D
    have frVo:∀ a,ao.heap.get? a=none->Vo a/\¬ W a:=λa ea=>by
     refine ⟨⟨.inr (x4.there a id ea),λhx=>?_,λhd=>?_⟩,λhw'=>?_⟩
     . obtain ⟨o',q⟩:=aaM (by rw [<- hX,<- hE,h4];exact fr.slots:Slots X ao.heap cenv scope.names) ((hX▸hE▸λb hb=>hb)) a hx;replace q:=ea▸q;exact nos q
     . replace ea:=hd▸ea;replace ea:=(x34.keepC _ _ oD id eD)▸ea;exact son ea
     . obtain ⟨o',q⟩:=Tn.live _ _ st a hw'
       have:=x24.there a id ea;replace q:=this▸q;cases q
    have WVo:∀ b,W b->Vo b:=λb hb=>by
     obtain ⟨o',q⟩:=Tn.live _ _ st b hb
     exact ⟨.inr (hw b hb),live2 b o' q⟩
    have ofree:∀ y cc,scope.names.lookup y=some .free->cenv.cells.lookup y=some cc->∃ o,s.heap.get? cc=some o/\o.cls=.type "cell":=λy cc h1 h2=>by
     exact c.live y cc ((hf' (y,.free) (mem_of_lookup h1)).2 rfl) (fr.free y cc h1 (by rw [hE];exact h2))
    have cst:CSt γ it r A (λa=>Vo a/\¬ W a) X D ao cenv scope.names (abv scope.names ρ):=by
     refine ⟨⟨c0.aok.ext x4,c0.wd.ext x4,by refine hE▸?_;exact fr.envS,by refine hE▸?_;exact fr.loc,?_,?_⟩,(by rw [<- hX,<- hE,h4];exact fr.slots:Slots X ao.heap cenv scope.names),λb hb h=>h.1.2.1 hb,λh=>h.1.2.2 rfl,frVo,?_,OldOff.fresh (c0.ext x3).wd frX,OldOff.fresh (a6:=aa) (c0.ext x2).wd (λb hb=>by refine hb▸?_;exact fD),(λe he=>by replace he:=(c.aok.free hit)▸he;exact nos he),(λh=>by replace eD:=(frX D h)▸eD;exact nos eD)⟩
     . rw [<- hE,h4]
       intro y t hy
       obtain ⟨v',a1,a2⟩:=fr.vars y t hy
       refine ⟨v',a1,a2.mono (λa ha=>?_) λ_ _ _ _ e=>e⟩
       obtain ⟨ha1,ha2⟩:=ha
       obtain ⟨o',q⟩:=lives a ha2
       obtain ⟨oo,qq⟩:=ha2
       exact ⟨⟨.inl ha1,live2 a o' q⟩,wlive a oo qq⟩
     . intro y cc hc hl
       refine h4▸?_
       exact fr.live y cc (by rw [hE];exact hl)
     . intro y cc h1 h2
       refine (ofree y cc h1 h2).elim λo' hZ85=>hZ85.elim λe' q=>?_
       obtain ⟨o2,e2⟩:=lives cc ⟨o',e'⟩
       exact live2 cc o2 e2
    have b7:∀ a,az a->Vo a/\¬ W a:=λa ha=>by
     refine (hv a ha).elim λb1 hX1=>hX1.elim λb2 hX2=>hX2.elim λo' b3=>?_
     exact ⟨⟨b1.elim (λz=>.inl z.1) .inr,live2 a o' b3⟩,b2⟩
    have ck':=ck D cenv X ((hX▸hE▸λb hb=>hb)) hg
    have hXY:∀ b,(X b\/b=D)\/W b->s.heap.get? b=none:=by
     rintro b ((h | h) | h)
     . exact x3.there b id (frX b h)
     . refine h▸?_;exact x2.there D id fD
     . exact hw b h
    have lp:codeAny (model pg γ.w) A (.compLoop e 0 (.ref I) (.ref D) cenv) (compPost (model pg γ.w) A E use Q (.ref D) ai.heap.objs.size) ao:=by
     refine alG ck' hs (d:=0) rfl gok.1 (an2 ck' hs hit gs 0 rfl) Tn WVo b7 (λy cc h1 h2=>(ofree y cc h1 h2).elim λo' hX1=>hX1.elim λe' _=>wlive cc o' e') (λ_=>OldOff.fresh c.wd hw) (λe he=>by replace he:=(c.aok.free hit)▸he;exact nos he) (λb hb h=>h.2.1 hb) (λh=>h.2.2 rfl)
      _ 0 ao [] _ _ rfl (aup _) (Tn.frame _ _ _ (λ_=>False) (λ_ h=>h.elim) st x24) cst (hacc _ _ (x34.keepC _ _ oD id eD)) (hl) λs' zs' hk x' c' a'=>?_
     obtain ⟨_,oL,es,ep,eL,dL,kL⟩:=c'.slots.loc
     rw [<- (by refine hE▸?_;rfl:ai.heap.objs.size=cenv.locals)] at eL
     have xLX:X ai.heap.objs.size:=by refine ((by refine hE▸?_;rfl:ai.heap.objs.size=cenv.locals))▸?_;exact c'.slots.loc.1
     refine post D ai.heap.objs.size s' _ hk (Ext.then x4 x' hXY) (x3.there _ id aan) (x2.there D id fD) ⟨_,oL,es,ep,eL,dL,kL,λ_=>rfl⟩ ?_
     refine na.fin D Vo _ s' s' zs' ?_ a' (λa h=>⟨h.1,λz=>h.2.1 (z▸xLX)⟩) ⟨.inr (x2.there D id fD),λz=>(λh=>by replace eD:=(frX D h)▸eD;exact nos eD) (z▸xLX)⟩ λb o n h e=>e
     obtain ⟨oc,fd,_,_,_,_,kl,_⟩:=c.wd.st.cmp
     have l1:(35:Nat)<aa.heap.objs.size:=aua ((c0.ext x2).wd.k _ _ kl)
     rw [hD] at l1
     simp only [beq_eq_false_iff_ne,ne_eq]
     intro z
     rw [z] at l1
     exact absurd l1 (by decide)
    exact ck'.start 0 _ _ _ g rfl gok.1 lp (Tn.self 0 _ _ _ (Tn.frame _ _ _ (λ_=>False) (λ_ h=>h.elim) st x24) lp)
theorem agc{Acc:Addr->aag->Shared->List R->Prop}{newAcc:Sem Value}{cls:String}{fin:List R->T}{e:Expr}{gens:List Comprehension}{scope:Scope}{pos:Pos}{step:Addr->Env->(Shared->Prop)->Shared->Prop}{emit:aab->(R->Prop)->Prop}{K:T->Prop}
  (hs:aaz γ it r ev) (hit:it=true) (na:AccMade γ newAcc Acc cls fin) (hcl:clausesOf e=gens)
  (ck:∀ D env X,(∀ b,X b->b=env.locals\/∃ x,scope.names.lookup x=some .cell/\env.cells.lookup x=some b)->adK gens=true->CompK γ it r A X D env scope.names e gens (step D env) emit (Acc D))
  (c:Cx γ it r A V s env sc ρ) (h:ahp ev n sc scope emit gens ρ λzs=>K (fin zs)) :
  Ev γ A V s (comprehension e scope env (firstIterPos gens pos) newAcc (firstAsync gens) (firstIter gens env)) K:=
 adP hs hit na hcl ck c h λD C s' t hk x hC hD hq rt=>hq.elim λm hm=>⟨m,hm,λh' hs'=>by
  refine (hm).elim λoL hX1=>hX1.elim λes hX2=>hX2.elim λep hX3=>hX3.elim λeL hX4=>hX4.elim λdL hX5=>hX5.elim λkL _=>?_
  have xL:ExtX (·=C) s' { s' with heap:=h' }:=ExtX.but2 (tk:=s'.toks) eL (λ_ z=>by replace z:=dL▸z;cases z) rfl λb o hb e=>hs'.extBut b o hb e
  exact ⟨_,hk,x.then xL (λb hb=>by refine hb▸?_;exact hC),rt.mono (λa h=>h.1) λb o n h e=>hs'.extBut b o h.2 e⟩⟩
end
set_option backward.match.sparseCases false
section
variable{D:Addr}
theorem afk:AccMade γ (newList []) (AccL) "list" T.lst where
 make:=λA s Q h=>auD (h _ rfl rfl λV s' e=>⟨#[],⟨_,e⟩,.nil⟩)
 fin:=λD Vo V s s' zs hs ⟨vs,⟨n,e⟩,rs⟩ hV vD k=>.lst vD ⟨n,k D _ (λz=>by cases z) (.inr rfl) e⟩ (rs.mono hV λb o n h e=>k b o n (.inl h) e)
 ne:=by decide
theorem afl:AccMade γ newDict (AccD) "dict" (λps=>T.dct (ps.foldl abr [])) where
 make:=λA s Q h=>auD (h _ rfl rfl λV s' e=>⟨_,[],e,⟨#[],0,⟨rfl,rfl,rfl⟩,rfl,by intro e he;simp at he,.nil,by decide⟩,.nil⟩)
 fin:=λD Vo V s s' zs hs ⟨o,kvs,e,hd,rs⟩ hV vD k=>.dct vD hs (k D _ (λz=>by obtain ⟨es,ep,hx⟩:=hd;have q:=hx.1.1;replace q:=z▸q;cases q) (.inr rfl) e) hd (rs.mono hV λb o n h e=>k b o n (.inl h) e)
 ne:=by decide
theorem asE{a:T}{F:List T->Prop}(h:match a with
  | .cmp (.lst k)=>F k
  | _=>False):∃ k,a=.cmp (.lst k)/\F k:=by
 cases a with
 | cmp t=>cases t with
  | lst k=>exact ⟨k,rfl,h⟩
  | _=>exact h.elim
 | _=>exact h.elim
noncomputable def evalM (S:Sg) (it:Bool) (ev:EvF) (n:Nat) (sc:aad) (e:Expr) (ρ:aab) (K:T->Prop):Prop:=match e with
 | .Constant c _ _=>alj c K
 | .Name x _=>aqj S sc x ρ K
 | .BinOp l op r _=>ev sc l ρ λa=>ev sc r ρ λb=>asn op a b K
 | .UnaryOp op x _=>ev sc x ρ λa=>unE op a K
 | .IfExp c a b _=>abq (λe k=>ev sc e ρ k) n c λt=>br t (ev sc a ρ K) (ev sc b ρ K)
 | .BoolOp op vs _=>aj3 (λe k=>ev sc e ρ k) op vs K
 | .Compare l ops cs _=>gd (aae cs&&ops.length==cs.length) (ev sc l ρ λa=>adn (λe k=>ev sc e ρ k) a ops cs λb=>K (.bool b))
 | .Tuple es _ _=>gd (aae es) (ahe (λe k=>ev sc e ρ k) es λts=>szl ts.length (K (.tup ts)))
 | .List es _=>gd (aae es) (ahe (λe k=>ev sc e ρ k) es λts=>szl ts.length (K (.lst ts)))
 | .Subscript v i _=>aqk ev sc v i ρ K
 | .Call g args kws p=>gd kws.isEmpty (anS S ev sc g args p ρ K)
 | .Attribute v m _=>gd (ah7 v&&m==("comp_select_list":Str)) (ev sc v ρ λa=>match a with
  | .cmp (.lst k)=>K (.lst k)
  | _=>False)
 | .ListComp elt gens scope _=>gd it <| ahp ev n sc scope (λaf K'=>ev scope.names elt af K') gens ρ λts=>K (.lst ts)
 | .DictComp k v gens scope _=>gd it <| ahp (R:=Int×T) ev n sc scope (λaf K'=>ev scope.names k af λa=>ev scope.names v af λb=>match a with
   | .int i=>K' (i,b)
   | _=>False) gens ρ λps=>K (.dct (ps.foldl abr []))
 | _=>False
theorem aqx (hs:aaz γ it r ev) {K:T->Prop}{v:Expr}{m:Str}{pos:Pos}(h:gd (ah7 v&&m==("comp_select_list":Str)) (ev sc v ρ λa=>match a with
  | .cmp (.lst k)=>K (.lst k)
  | _=>False)) (c:Cx γ it r A V s env sc ρ):Ev γ A V s (eval (.Attribute v m pos) env) K:=by
 replace h:=gd2 h
 obtain ⟨hn,hm,h⟩:=h
 cases eq_of_beq hm
 rw [arm_eval_Attribute]
 refine (nmK (G:=λv=>attributeBase v "comp_select_list" env (eval v env)=eval v env) hn λ_ _=>rfl).symm▸?_
 refine Ev.then (hs _ _ _ _ h A V s env c) λov a8 a ak ae ra=>?_
 refine atY (at7 ?_)
 obtain ⟨k,rfl,ak⟩:=asE ak
 have al:=c.ext ae
 have st:=al.wd.st
 cases ra with
 | @cmp a' dx e tk nn t va vd ha hd he r'=>
 have hl:getL "comp_select_list" [e]=some (some e.val):=by unfold getL;rw [List.find?_cons,List.find?_nil,he,List.any_cons,DictEntry.refKey];rfl
 refine atY (aud ?_)
 refine get_value (od:=some (dictOf [e] nn)) al.wd.k ⟨ha,rfl,rfl,hd⟩ (plainGet_of st.c1).1 (findObj_own st.c4 st.c5 (by rfl) hl) (by generalize e.val=ev at r';cases r';rfl) ?_
 rw [aie hn]
 refine atY (at3 (at3 ⟨_,ak,ae.trans (Ext.tok (tk:=a8.toks+1)),?_⟩))
 exact r'
theorem aal (sg:SgOK γ S it r):∀ n,aaz γ it r (aam S it n):=by
 intro n
 induction n with
 | zero=>intro sc e ρ K h;exact h.elim
 | succ n hs=>
  intro sc e ρ K h A V s env c
  replace h:adw S it (aam S it n) n sc e ρ K:=h
  cases hh:S.hk e with
  | some F=>unfold adw at h;rw [hh] at h;exact sg.hk e F hh sc ρ K h A V s env c
  | none=>
  replace h:evalM S it (aam S it n) n sc e ρ K:=by unfold adw at h;rw [hh] at h;exact h
  clear hh
  cases e <;> first | exact h.elim | skip
  case Constant=>exact anT h
  case Name=>exact aql sg h c
  case BinOp=>exact asz hs h c
  case UnaryOp=>exact sd_un hs h c
  case IfExp=>exact anU hs h c
  case BoolOp=>exact aqm hs h c
  case Compare=>exact aj6 hs h c
  case Tuple=>exact anV hs h c
  case List=>exact aqn hs h c
  case Subscript v i _=>replace h:aqk (aam S it n) sc v i ρ K:=h;cases i <;> first | exact asA hs h c | exact anW hs h c
  case Call g args kws p=>
   obtain ⟨hk,h⟩:=gd_ h
   refine (List.isEmpty_iff.mp hk)▸?_
   cases g <;> first | exact h.elim | exact aqp hs sg h c | exact aqo hs sg h c
  case Attribute=>exact aqx hs h c
  case ListComp=>
   exact agc (fin:=T.lst) hs (gd_ h).1 afk rfl (λD env X hX hg=>aej hs hX hg) c (gd_ h).2
  case DictComp=>
   exact agc (fin:=λps=>T.dct (ps.foldl abr [])) hs (gd_ h).1 afl rfl (λD env X hX hg=>aek hs hX hg) c (gd_ h).2
end
section
variable (γ:Gm)
noncomputable def OwnT (V:aag) (h:Heap) (a:Addr):T->Prop
 | .lst l=>∃ vs,h.PlainList a vs/\RepL V h vs.toList l
 | .dct l=>(a==sysModules)=false/\∃ o kvs,h.get? a=some o/\o.IsDictOf iK kvs/\RepD V h kvs l
 | _=>False
end
section
variable{a:Addr}{t:T}
theorem OwnT.obj (h:OwnT V s.heap a t):∃ o,s.heap.get? a=some o/\o.cls≠.none/\o.cls≠.type "cell"/\(∀ vs,o.data≠.fields vs):=by
 cases t <;> try exact h.elim
 . obtain ⟨vs,⟨n,e⟩,_⟩:=h
   exact ⟨_,e,λz=>(by cases z),λz=>(by injection z with z;exact absurd z (by decide)),λ_ z=>(by cases z)⟩
 . refine (h).elim λ_ hZ11=>hZ11.elim λo hZ12=>hZ12.elim λkvs hZ13=>hZ13.elim λe hZ14=>hZ14.elim λhZ15 _=>hZ15.elim λes hZ16=>hZ16.elim λep hx=>?_
   refine ⟨o,e,λz=>?_,λz=>?_,λvs z=>?_⟩
   . have q:=hx.1.1;replace q:=z▸q;cases q
   . have q:=hx.1.1;replace q:=z▸q;injection q with q;exact absurd q (by decide)
   . replace z:=hx.2.1▸z;cases z
theorem OwnT.rep (h:OwnT V s.heap a t) (hV:∀ b,V b->V' b) (ha:V' a):Rep V' s.heap (.ref a) t:=by
 cases t <;> try exact h.elim
 . obtain ⟨vs,e,rs⟩:=h
   exact .lst ha e (rs.mono hV λ_ _ _ _ e=>e)
 . refine (h).elim λhs hZ25=>hZ25.elim λo hZ26=>hZ26.elim λkvs hZ27=>hZ27.elim λe hZ28=>hZ28.elim λhd rs=>?_
   exact .dct ha hs e hd (rs.mono hV λ_ _ _ _ e=>e)
theorem OwnT.shift (h:OwnT V s.heap a t) (hV:∀ a,V a->(∃ o,s.heap.get? a=some o)->V' a) (hk:∀ b o,o.cls≠.none->V b->s.heap.get? b=some o->s'.heap.get? b=some o)
  (ha:∀ o,o.cls≠.none->s.heap.get? a=some o->s'.heap.get? a=some o):OwnT V' s'.heap a t:=by
 cases t <;> try exact h.elim
 . obtain ⟨vs,⟨n,e⟩,rs⟩:=h
   exact ⟨vs,⟨n,ha _ (λz=>by cases z) e⟩,rs.shift hV hk⟩
 . refine (h).elim λhs hZ38=>hZ38.elim λo hZ39=>hZ39.elim λkvs hZ40=>hZ40.elim λe hZ41=>hZ41.elim λhd rs=>?_
   exact ⟨hs,o,kvs,ha _ (λz=>by obtain ⟨es,ep,hx⟩:=hd;have q:=hx.1.1;replace q:=z▸q;cases q) e,hd,rs.shift hV hk⟩
end
section
variable (γ:Gm)
structure FrK (it:Bool) (r:Nat) (A:Around) (X:aag) (a9:aag) (a6:Shared) (env:Env) (sc:aad):Prop where
 isX:∀ b,X b->b=env.locals\/∃ x,sc.lookup x=some .cell/\env.cells.lookup x=some b
 Xf:∀ b,X b->a6.heap.get? b=none
 fre:∀ y c,sc.lookup y=some .free->env.cells.lookup y=some c->∃ o,a6.heap.get? c=some o
 wd:Wd γ a6.heap
 aok:AOK it r A a6.heap
structure OwnAt (X P V:aag) (a6 s:Shared) (env:Env) (x:Str) (a:Addr) (t:T):Prop where
 see:Sees s.heap env x (.ref a)
 nV:¬ V a
 nX:¬ X a
 nP:¬ P a
 n0:a6.heap.get? a=none
 own:OwnT V s.heap a t
structure SSt (it:Bool) (r:Nat) (A:Around) (X P:aag) (a9:aag) (a6:Shared) (env:Env) (sc:aad) (fz:List (Str×Addr)) (V:aag) (ad:Str->Addr) (s:Shared) (ρ ω:aab):Prop where
 cx:Cx γ it r A V s env sc ρ
 slots:Slots X s.heap env sc
 offX:Off X V
 fr:∀ a,s.heap.get? a=none->V a
 own:∀ x t,ω.lookup x=some t->OwnAt X P V a6 s env x (ad x) t
 apart:∀ x y t u,ω.lookup x=some t->ω.lookup y=some u->ad x=ad y->x=y
 offP:∀ b,P b->¬ V b/\¬ X b/\∃ o,s.heap.get? b=some o
 frz:∀ p∈fz,Sees s.heap env p.1 (.ref p.2)/\P p.2
 ext:Ext a6 s
 vw:∀ a,V a->Nv a9 a6 a
end
section
theorem Sees.zone{h h':Heap}{x:Str}{v:Value}(a:Sees h env x v) (e:EnvS env sc) (kL:∀ o,h.get? env.locals=some o->h'.get? env.locals=some o)
  (kc:∀ y c o,abJ (sc.lookup y)->env.cells.lookup y=some c->o.cls≠.none->h.get? c=some o->h'.get? c=some o):Sees h' env x v:=by
 refine (a).elim ?_ ?_
 . rintro ⟨hl,m,hn,hm⟩
   exact .inl ⟨hl,m,hn.at' λo q=>kL o q,hm⟩
 . rintro ⟨hl,c,o,hc,ho,hcl,hd⟩
   exact .inr ⟨hl,c,o,hc,kc x c o (agb e hl) hc (by refine hcl▸?_;exact λz=>by cases z) ho,hcl,hd⟩
theorem SSt.move (k:FrK γ it r A X a9 a6 env sc) (c:SSt γ it r A X P a9 a6 env sc fz V ad s ρ ω) (x:ExtX Z s s') (zf:∀ b,Z b->a6.heap.get? b=none) (zV:Off Z V) (zX:∀ b,Z b->¬ X b)
  (zO:∀ y t,ω.lookup y=some t->¬ Z (ad y)) (zP:∀ b,Z b->¬ P b) (fr:∀ a,s'.heap.get? a=none->V a):SSt γ it r A X P a9 a6 env sc fz V ad s' ρ ω:=by
 have zc:∀ y cc,abJ (sc.lookup y)->env.cells.lookup y=some cc->¬ Z cc:=by
  rintro y cc (h | h) hc
  . obtain ⟨_,c',_,_,h1,h2,_⟩:=c.slots.cell y h
    replace h1:=hc▸h1;cases h1;exact λz=>zX _ z h2
  . obtain ⟨o,e⟩:=k.fre y cc h hc
    exact λz=>by replace e:=(zf _ z)▸e;exact nos e
 have zL:¬ Z env.locals:=λz=>zX _ z c.slots.loc.1
 have see:∀ {y v},Sees s.heap env y v->Sees s'.heap env y v:=λh=>h.zone c.cx.envS (λo e=>x.keep _ o c.cx.loc zL e) λy cc o h1 h2 n e=>x.keepC _ o n (zc y cc h1 h2) e
 exact {
  cx:=⟨⟨(k.aok.ext (c.ext.then x zf)).hand,k.aok.free,k.aok.depth,k.aok.units⟩,c.cx.wd.extX x (OldOff.fresh k.wd zf),c.cx.envS,c.cx.loc,c.cx.vars.zone x c.cx.envS c.cx.loc zL zc zV λa h _=>h,λy cc hc h=>(c.cx.live y cc hc h).elim λo hX1=>hX1.elim λe q=>⟨o,x.keepC _ _ (by refine q▸?_;exact λz=>by cases z) (zc y cc hc h) e,q⟩⟩
  slots:=c.slots.zone x zX c.cx.loc
  offX:=c.offX
  fr:=fr
  own:=λy t h=>let ⟨h1,h2,h3,h4,h5,h6⟩:=c.own y t h
   ⟨see h1,h2,h3,h4,h5,h6.shift (λ_ h _=>h) (λb o n hb e=>x.keepC b o n (λz=>zV b z hb) e) λo n e=>x.keepC _ o n (zO y t h) e⟩
  apart:=c.apart
  offP:=λb hb=>(c.offP b hb).elim λh1 hX1=>hX1.elim λh2 hX2=>hX2.elim λo h3=>⟨h1,h2,by
   cases q:s'.heap.get? b with
   | none=>have:=x.there b (λz=>zP b z hb) q;replace this:=h3▸this;exact son this
   | some o'=>exact ⟨o',rfl⟩⟩
  frz:=λp hp=>⟨see (c.frz p hp).1,(c.frz p hp).2⟩
  ext:=c.ext.then x zf
  vw:=c.vw }
theorem SSt.run (k:FrK γ it r A X a9 a6 env sc) (c:SSt γ it r A X P a9 a6 env sc fz V ad s ρ ω) (x:Ext s s'):SSt γ it r A X P a9 a6 env sc fz V ad s' ρ ω:=
 c.move k x (λ_ h=>h.elim) (λ_ h=>h.elim) (λ_ h=>h.elim) (λ_ _ _ h=>h.elim) (λ_ h=>h.elim) λa e=>c.fr a (x.there a id e)
noncomputable def Vs (V:aag) (ω:aab) (ad:Str->Addr):aag:=λa=>V a\/∃ x t,ω.lookup x=some t/\a=ad x
theorem aaN{α:Type}{ω ρ:List (Str×α)}{x:Str}:(ω++ρ).lookup x=match ω.lookup x with | some t=>some t | none=>ρ.lookup x:=by
 induction ω with
 | nil=>rfl
 | cons p ω ih=>
  obtain ⟨y,t⟩:=p
  rw [List.cons_append,List.lookup_cons,List.lookup_cons]
  cases x==y with
  | true=>rfl
  | false=>exact ih
theorem SSt.shown (c:SSt γ it r A X P a9 a6 env sc fz V ad s ρ ω):Cx γ it r A (Vs V ω ad) s env sc (ω++ρ):=
 ⟨c.cx.aok,c.cx.wd,c.cx.envS,c.cx.loc,λx t h=>by
  replace h:=aaN▸h
  cases q:ω.lookup x with
  | some u=>
   replace h:=q▸h;cases h
   obtain ⟨h1,_,_,_,_,h6⟩:=c.own x t q
   exact ⟨_,h1,h6.rep (λb h=>.inl h) (.inr ⟨x,t,q,rfl⟩)⟩
  | none=>
   replace h:=q▸h
   obtain ⟨v,a,b⟩:=c.cx.vars x t h
   exact ⟨v,a,b.mono (λ_ h=>.inl h) λ_ _ _ _ e=>e⟩,c.cx.live⟩
noncomputable def scalar:T->Bool
 | .none | .bool _ | .int _ | .str _=>true
 | _=>false
theorem Rep.scalar{h:Heap}{v:Value}{t:T}(r:Rep V h v t) (hs:scalar t=true):Rep V' h v t:=by
 cases r <;> first | (exact ff hs;done) | constructor
end
set_option backward.match.sparseCases true
noncomputable def er (x:Str) (ω:aab):aab:=ω.filter λp=>p.1 != x
theorem aak{x y:Str}:∀ {ω:aab},(er x ω).lookup y=if y=x then none else ω.lookup y
 | []=>by unfold er;simp
 | (z,t) ::ω=>by
  have ih:=@aak x y ω
  unfold er at ih ⊢
  rw [List.filter_cons,List.lookup_cons]
  by_cases h:z=x
  . subst h
    simp only [bne_self_eq_false,Bool.false_eq_true,if_false,ih]
    by_cases h2:y=z
    . simp [h2]
    . have:(y==z)=false:=by simpa using h2
      simp [h2,this]
  . have hz:(z != x)=true:=by simpa using h
    simp only [hz,if_true,List.lookup_cons,ih]
    by_cases h2:y=z
    . subst h2;simp [h]
    . have:(y==z)=false:=by simpa using h2
      simp [this]
section
theorem SSt.shrink (k:FrK γ it r A X a9 a6 env sc) (c:SSt γ it r A X P a9 a6 env sc fz V ad s ρ ω) (x:Ext s s') (hN:∀ b,N b->s.heap.get? b=none) (hN':∀ b,N b->∃ o,s'.heap.get? b=some o) :
  SSt γ it r A X P a9 a6 env sc fz (λb=>V b/\¬ N b) ad s' ρ ω:=by
 have c':=c.run k x
 have lv:∀ a,V a->(∃ o,s.heap.get? a=some o)->V a/\¬ N a:=λa h hZ1=>hZ1.elim λo e=>⟨h,λhn=>by replace e:=(hN a hn)▸e;exact nos e⟩
 exact {
  cx:=⟨c'.cx.aok,c'.cx.wd,c'.cx.envS,c'.cx.loc,c.cx.vars.zone (Z:=λ_=>False) x c.cx.envS c.cx.loc id (λ_ _ _ _ h=>h) (λ_ h=>h.elim) lv,c'.cx.live⟩
  slots:=c'.slots
  offX:=λb hb h=>c.offX b hb h.1
  fr:=λa e=>⟨c'.fr a e,λhn=>by obtain ⟨o,q⟩:=hN' a hn;replace q:=e▸q;exact nos q⟩
  own:=λy t h=>let ⟨h1,h2,h3,h4,h5,h6⟩:=c.own y t h
   ⟨(c'.own y t h).see,λz=>h2 z.1,h3,h4,h5,h6.shift lv (λb o n hb e=>x.keepC b o n id e) λo n e=>x.keepC _ o n id e⟩
  apart:=c.apart
  offP:=λb hb=>(c'.offP b hb).elim λh1 hX1=>hX1.elim λh2 h3=>⟨λh=>h1 h.1,h2,h3⟩
  frz:=c'.frz
  ext:=c'.ext
  vw:=λa h=>c.vw a h.1 }
structure Stp (X:aag) (V:aag) (ad:Str->Addr) (s:Shared) (ω:aab) (V':aag) (ad':Str->Addr) (s':Shared) (au:aab):Prop where
 x:ExtX (λb=>X b\/∃ y t,ω.lookup y=some t/\b=ad y) s s'
 lv:∀ b,s'.heap.get? b=none->s.heap.get? b=none
 dn:∀ a,V' a->V a\/s.heap.get? a=none
 up:∀ a,V a->(∃ o,s.heap.get? a=some o)->V' a
 ow:∀ y t,au.lookup y=some t->(∃ z u,ω.lookup z=some u/\ad' y=ad z)\/s.heap.get? (ad' y)=none
theorem Stp.refl:Stp X V ad s ω V ad s ω:=⟨ExtX.refl s,λ_ e=>e,λ_ h=>.inl h,λ_ h _=>h,λy t h=>.inl ⟨y,t,h,rfl⟩⟩
theorem Stp.run (x:Ext s s'):Stp X V ad s ω V ad s' ω:=⟨x.toX,λb e=>x.there b id e,λ_ h=>.inl h,λ_ h _=>h,λy t h=>.inl ⟨y,t,h,rfl⟩⟩
theorem Stp.trans{V'':aag}{ad'':Str->Addr}(a:Stp X V ad s ω V' ad' s' au) (b:Stp X V' ad' s' au V'' ad'' s'' aS):Stp X V ad s ω V'' ad'' s'' aS:=by
 have fresh':=a.lv
 refine ⟨ExtX.thenW (W:=λb=>∃ y t,au.lookup y=some t/\b=ad' y/\s.heap.get? b=none) a.x (b.x.mono λq h=>?_) ?_,λq e=>a.lv q (b.lv q e),λq h=>?_,λq h l=>?_,λy t h=>?_⟩
 . rcases h with h | ⟨y,t,h,rfl⟩
   . exact .inl (.inl h)
   . rcases a.ow y t h with ⟨z,u,h1,h2⟩ | h1
     . exact .inl (.inr ⟨z,u,h1,h2⟩)
     . exact .inr ⟨y,t,h,rfl,h1⟩
 . rintro q ⟨_,_,_,_,h⟩;exact h
 . rcases b.dn q h with h | h
   . exact a.dn q h
   . exact .inr (fresh' q h)
 . have h':=a.up q h l
   refine b.up q h' ?_
   cases e:s'.heap.get? q with
   | none=>replace l:=(fresh' q e)▸l;obtain ⟨o,z⟩:=l;exact nos z
   | some o=>exact ⟨o,rfl⟩
 . rcases b.ow y t h with ⟨z,u,h1,h2⟩ | h1
   . rcases a.ow z u h1 with ⟨z',u',h3,h4⟩ | h3
     . exact .inl ⟨z',u',h3,h2.trans h4⟩
     . exact .inr (h2▸h3)
   . exact .inr (fresh' _ h1)
theorem SSt.store (k:FrK γ it r A X a9 a6 env sc) (c:SSt γ it r A X P a9 a6 env sc fz V ad s ρ ω) {x:Str}{v:Value}{Q:Unit->Shared->Prop}{E:Value->Shared->Prop}(own:abW sc x=true) (hz:∀ p∈fz,p.1≠x)
  (q:∀ s',SSt γ it r A X P a9 a6 env sc fz V ad s' (er x ρ) (er x ω)->Sees s'.heap env x v->ExtX X s s'->(∀ b,s'.heap.get? b=none->s.heap.get? b=none)->Q () s'):wpAny (model pg γ.w) A (storeName env x v) Q E s:=by
 refine af5 c.slots own λs' e sl sx so=>?_
 have lv:∀ b,s'.heap.get? b=none->s.heap.get? b=none:=λb eb=>Classical.byCases (λh:X b=>by obtain ⟨o,z⟩:=(aaM sl k.isX) b h;replace z:=eb▸z;exact nos z) λh=>e.there b h eb
 have ne:∀ {y:Str}{l:aab}{u:T},(er x l).lookup y=some u->y≠x/\l.lookup y=some u:=λ{y l u} h=>by
  replace h:=aak▸h
  split at h
  . exact nos h
  . exact ⟨by assumption,h⟩
 refine q s' ?_ sx e lv
 exact {
  cx:=⟨⟨(k.aok.ext (c.ext.then e k.Xf)).hand,k.aok.free,k.aok.depth,k.aok.units⟩,c.cx.wd.extX e (OldOff.fresh k.wd k.Xf),c.cx.envS,c.cx.loc,λy u hy=>by
    obtain ⟨z,a,b⟩:=c.cx.vars y u (ne hy).2
    exact ⟨z,so y z (ne hy).1 a,b.extX e c.offX⟩,λy cc hc h=>by
    refine (c.cx.live y cc hc h).elim λo hZ29=>hZ29.elim λeo qo=>?_
    rcases hc with hc | hc
    . obtain ⟨_,c',o',_,h1,_,_,h4,h5,_⟩:=sl.cell y hc
      replace h1:=h▸h1;cases h1;exact ⟨o',h4,h5⟩
    . refine ⟨o,e.keepC _ _ (by refine qo▸?_;exact λz=>by cases z) (λhx=>?_) eo,qo⟩
      obtain ⟨o',e'⟩:=k.fre y cc hc h
      replace e':=(k.Xf _ hx)▸e';exact nos e'⟩
  slots:=sl
  offX:=c.offX
  fr:=λa ea=>c.fr a (lv a ea)
  own:=λy u hy=>by
   obtain ⟨h1,h2,h3,h4,h5,h6⟩:=c.own y u (ne hy).2
   exact ⟨so y _ (ne hy).1 h1,h2,h3,h4,h5,h6.shift (λ_ h _=>h) (λb o n hb eb=>e.keepC b o n (λz=>c.offX b z hb) eb) λo n eb=>e.keepC _ o n h3 eb⟩
  apart:=λy z u u' hy hz'=>c.apart y z u u' (ne hy).2 (ne hz').2
  offP:=λb hb=>(c.offP b hb).elim λh1 hX1=>hX1.elim λh2 hX2=>hX2.elim λo h3=>⟨h1,h2,by
   cases q:s'.heap.get? b with
   | none=>have:=lv b q;replace this:=h3▸this;exact son this
   | some o'=>exact ⟨o',rfl⟩⟩
  frz:=λp hp=>⟨so p.1 _ (hz p hp) (c.frz p hp).1,(c.frz p hp).2⟩
  ext:=c.ext.then e k.Xf
  vw:=c.vw }
theorem aqy{x:Str}{v:Value}{t:T}{h:Heap}(hr:Rep V h v t) (sx:Sees h env x v) (hv:VarsOK V h env (er x ρ)):VarsOK V h env ((x,t) ::ρ):=λy u hy=>by
 rw [lookup_cons] at hy
 by_cases h:y=x
 . obtain rfl:=h.symm
   rw [if_pos (by simp)] at hy;cases hy
   exact ⟨v,sx,hr⟩
 . rw [if_neg (by simpa using h)] at hy
   exact hv y u (by rw [aak,if_neg h];exact hy)
theorem SSt.put (k:FrK γ it r A X a9 a6 env sc) (c:SSt γ it r A X P a9 a6 env sc fz V ad s ρ ω) {x:Str}{v:Value}{t:T}{Q:Unit->Shared->Prop}{E:Value->Shared->Prop}(own:abW sc x=true) (hz:∀ p∈fz,p.1≠x) (hr:Rep V s.heap v t)
  (q:∀ s',SSt γ it r A X P a9 a6 env sc fz V ad s' ((x,t) ::ρ) (er x ω)->ExtX X s s'->(∀ b,s'.heap.get? b=none->s.heap.get? b=none)->Q () s'):wpAny (model pg γ.w) A (storeName env x v) Q E s:=
 c.store k own hz λs' c' sx e lv=>q s' { c' with cx:=⟨c'.cx.aok,c'.cx.wd,c'.cx.envS,c'.cx.loc,aqy (hr.extX e c.offX) sx c'.cx.vars,c'.cx.live⟩ } e lv
theorem SSt.putO (k:FrK γ it r A X a9 a6 env sc) (c:SSt γ it r A X P a9 a6 env sc fz V ad s ρ ω) {x:Str}{a:Addr}{t:T}{Q:Unit->Shared->Prop}{E:Value->Shared->Prop}(own:abW sc x=true) (hz:∀ p∈fz,p.1≠x) (hr:OwnT V s.heap a t)
  (hV:¬ V a) (hX:¬ X a) (hP:¬ P a) (h0:a6.heap.get? a=none) (hne:∀ y u,(er x ω).lookup y=some u->ad y≠a)
  (q:∀ s',SSt γ it r A X P a9 a6 env sc fz V (λy=>if y=x then a else ad y) s' (er x ρ) ((x,t) ::er x ω)->ExtX X s s'->(∀ b,s'.heap.get? b=none->s.heap.get? b=none)->Q () s'):wpAny (model pg γ.w) A (storeName env x (.ref a)) Q E s:=by
 refine c.store k own hz λs' c' sx e lv=>q s' ?_ e lv
 have at_:∀ y u,List.lookup y ((x,t) ::er x ω)=some u->y=x/\u=t\/y≠x/\(er x ω).lookup y=some u:=λy u hy=>by
  rw [lookup_cons] at hy
  by_cases h:y=x
  . obtain rfl:=h.symm;rw [if_pos (by simp)] at hy;cases hy;exact .inl ⟨rfl,rfl⟩
  . rw [if_neg (by simpa using h)] at hy;exact .inr ⟨h,hy⟩
 exact { c' with
  own:=λy u hy=>by
   clear hz
   clear own
   clear q
   rcases at_ y u hy with ⟨rfl,rfl⟩ | ⟨h,hy⟩
   . simp only [if_true]
     exact ⟨sx,hV,hX,hP,h0,hr.shift (λ_ h _=>h) (λb o n hb eb=>e.keepC b o n (λz=>c.offX b z hb) eb) λo n eb=>e.keepC _ o n hX eb⟩
   . simp only [h,if_false]
     exact c'.own y u hy
  apart:=λy z u u' hy hz'=>by
   rcases at_ y u hy with ⟨e1,_⟩ | ⟨h1,g1⟩ <;> rcases at_ z u' hz' with ⟨e2,_⟩ | ⟨h2,g2⟩
   . exact λ_=>e1.trans e2.symm
   . simp only [e1,h2,if_true,if_false]
     exact λz'=>absurd z'.symm (hne z u' g2)
   . simp only [e2,h1,if_true,if_false]
     exact λz'=>absurd z' (hne y u g1)
   . simp only [h1,h2,if_false]
     exact c'.apart y z u u' g1 g2 }
theorem SSt.putZ (k:FrK γ it r A X a9 a6 env sc) (c:SSt γ it r A X P a9 a6 env sc fz V ad s ρ ω) {x:Str}{f:Addr}{Q:Unit->Shared->Prop}{E:Value->Shared->Prop}(own:abW sc x=true) (hz:∀ p∈fz,p.1≠x)
  (hV:¬ V f) (hX:¬ X f) (hl:∃ o,s.heap.get? f=some o) (hne:∀ y u,ω.lookup y=some u->ad y≠f)
  (q:∀ s',SSt γ it r A X (λb=>P b\/b=f) a9 a6 env sc ((x,f) ::fz) V ad s' (er x ρ) (er x ω)->ExtX X s s'->(∀ b,s'.heap.get? b=none->s.heap.get? b=none)->Q () s'):wpAny (model pg γ.w) A (storeName env x (.ref f)) Q E s:=by
 refine c.store k own hz λs' c' sx e lv=>q s' ?_ e lv
 exact { c' with
  own:=λy u hy=>by
   obtain ⟨h1,h2,h3,h4,h5,h6⟩:=c'.own y u hy
   replace hy:=aak▸hy
   split at hy
   . exact nos hy
   . exact ⟨h1,h2,h3,λz=>z.elim h4 (hne y u hy),h5,h6⟩
  offP:=λb hb=>by
   clear hne
   rcases hb with hb | rfl
   . exact c'.offP b hb
   . refine ⟨hV,hX,?_⟩
     obtain ⟨o,h3⟩:=hl
     cases q:s'.heap.get? b with
     | none=>have:=lv b q;replace this:=h3▸this;exact son this
     | some o'=>exact ⟨o',rfl⟩
  frz:=λp hp=>by
   rcases List.mem_cons.mp hp with rfl | hp
   . exact ⟨sx,.inr rfl⟩
   . exact ⟨(c'.frz p hp).1,.inl (c'.frz p hp).2⟩ }
theorem SSt.mut (k:FrK γ it r A X a9 a6 env sc) (c:SSt γ it r A X P a9 a6 env sc fz V ad s ρ ω) {x:Str}{t t':T}(hx:ω.lookup x=some t) (e:ExtX (·=ad x) s s') (hr:OwnT V s'.heap (ad x) t') :
  SSt γ it r A X P a9 a6 env sc fz V ad s' ρ ((x,t') ::er x ω)/\(∀ b,s'.heap.get? b=none->s.heap.get? b=none):=by
 refine ag λG kG=>?_
 obtain ⟨x1,x2,x3,x4,x5,x6⟩:=c.own x t hx
 refine kG ?_
 have lv:∀ b,s'.heap.get? b=none->s.heap.get? b=none:=λb eb=>Classical.byCases (λh:b=ad x=>by obtain ⟨o,z,_⟩:=hr.obj (s:=s');replace eb:=h▸eb;replace eb:=z▸eb;exact son eb) λh=>e.there b h eb
 refine ⟨?_,lv⟩
 have hc:∀ y cc,abJ (sc.lookup y)->env.cells.lookup y=some cc->cc≠ad x:=λy cc h1 h2 z=>by
  refine (c.cx.live y cc h1 h2).elim λo hX1=>hX1.elim λeo qo=>?_
  obtain ⟨o',eo',_,n,_⟩:=x6.obj
  replace eo:=z▸eo;replace eo:=eo'▸eo;cases eo;exact n qo
 have see:∀ {y v},Sees s.heap env y v->Sees s'.heap env y v:=λh=>h.zone c.cx.envS (λo eo=>e.keep _ o c.cx.loc (λz=>x3 (z▸c.slots.loc.1)) eo) λy cc o h1 h2 n eo=>e.keepC _ o n (hc y cc h1 h2) eo
 have kV:∀ b o,o.cls≠.none->V b->s.heap.get? b=some o->s'.heap.get? b=some o:=λb o n hb eb=>e.keepC b o n (λz=>x2 (z▸hb)) eb
 have zf:∀ b,b=ad x->a6.heap.get? b=none:=λb hb=>hb▸x5
 exact {
  cx:=⟨⟨(k.aok.ext (c.ext.then e zf)).hand,k.aok.free,k.aok.depth,k.aok.units⟩,c.cx.wd.extX e (OldOff.fresh k.wd zf),c.cx.envS,c.cx.loc,λy u hy=>(c.cx.vars y u hy).elim λz hX1=>hX1.elim λa b=>⟨z,see a,b.shift (λ_ h _=>h) kV⟩,λy cc h1 h2=>(c.cx.live y cc h1 h2).elim λo hX1=>hX1.elim λeo qo=>⟨o,e.keepC _ _ (by refine qo▸?_;exact λz=>by cases z) (hc y cc h1 h2) eo,qo⟩⟩
  slots:=c.slots.zone e (λb hb=>hb▸x3) c.cx.loc
  offX:=c.offX
  fr:=λa ea=>c.fr a (lv a ea)
  own:=λy u hy=>by
   rw [lookup_cons] at hy
   by_cases h:y=x
   . obtain rfl:=h.symm
     rw [if_pos (by simp)] at hy;cases hy
     exact ⟨see x1,x2,x3,x4,x5,hr⟩
   . rw [if_neg (by simpa using h),aak,if_neg h] at hy
     obtain ⟨h1,h2,h3,h4,h5,h6⟩:=c.own y u hy
     exact ⟨see h1,h2,h3,h4,h5,h6.shift (λ_ h _=>h) kV λo n eb=>e.keepC _ o n (λz=>h (c.apart y x u t hy hx z)) eb⟩
  apart:=λy z u u' hy hz'=>by
   have f:∀ y u,List.lookup y ((x,t') ::er x ω)=some u->∃ u',ω.lookup y=some u':=λy u hy=>by
    rw [lookup_cons] at hy
    by_cases h:y=x
    . obtain rfl:=h.symm;exact ⟨t,hx⟩
    . rw [if_neg (by simpa using h),aak,if_neg h] at hy;exact ⟨u,hy⟩
   obtain ⟨v1,g1⟩:=f y u hy
   obtain ⟨v2,g2⟩:=f z u' hz'
   exact c.apart y z v1 v2 g1 g2
  offP:=λb hb=>(c.offP b hb).elim λh1 hX1=>hX1.elim λh2 hX2=>hX2.elim λo h3=>⟨h1,h2,by
   cases q:s'.heap.get? b with
   | none=>have:=lv b q;replace this:=h3▸this;exact son this
   | some o'=>exact ⟨o',rfl⟩⟩
  frz:=λp hp=>⟨see (c.frz p hp).1,(c.frz p hp).2⟩
  ext:=c.ext.then e zf
  vw:=c.vw }
end
set_option backward.match.sparseCases false
inductive Out where
 | nx (ρ ω:aab)
 | br (ρ ω:aab)
 | rt (t:T)
variable{it:Bool}{r:Nat}{A:Around}{X P a9:aag}{a6:Shared}{env:Env}{sc:aad}{fz:List (Str×Addr)}{E:Value->Shared->Prop}{ev:EvF}{S:Sg}{n:Nat}{ow:Str->Bool}{V:aag}{ad:Str->Addr}{s:Shared}{ρ ω:aab}{K:Out->Prop}{s':Shared}{ad':Str->Addr}{s'':Shared}{aG:Str->Addr}{a8 sst:Shared}{m:Nat}{V' Z N az:aag}{γ:Gm}{af au aS aJ:aab}
noncomputable def aar:Nat->(Str->Bool)->Expr->Bool
 | 0,_,_=>false
 | n+1,f,e=>match e with
  | .Name x _=>f x
  | .BinOp l _ r _=>aar n f l || aar n f r
  | .UnaryOp _ x _=>aar n f x
  | .IfExp a b c _=>aar n f a || aar n f b || aar n f c
  | .BoolOp _ vs _=>vs.any (aar n f)
  | .Compare l _ cs _=>aar n f l || cs.any (aar n f)
  | .Tuple es _ _=>es.any (aar n f)
  | .List es _=>es.any (aar n f)
  | .Subscript v i _=>aar n f v || aar n f i
  | .Slice a b c _=>[a,b,c].any λo=>match o with
   | some x=>aar n f x
   | none=>false
  | .Call g as _ _=>aar n f g || as.any (aar n f)
  | .Attribute v _ _=>aar n f v
  | .ListComp e gs _ _=>aar n f e || gs.any λg=>aar n f g.iter || g.ifs.any (aar n f)
  | .DictComp k v gs _ _=>aar n f k || aar n f v || gs.any λg=>aar n f g.iter || g.ifs.any (aar n f)
  | _=>false
noncomputable def ar5 (ω:aab) (e:Expr):Bool:=aar 20 (λx=>(ω.lookup x).isSome) e
noncomputable def evM (ev:EvF) (sc:aad) (ρ ω:aab) (e:Expr) (K:T->Prop):Prop:=
 br (ar5 ω e) (ev sc e (ω++ρ) λt=>gd (scalar t) (K t)) (ev sc e ρ K)
noncomputable def anx (x:Str):Bool:=!(x==("__debug__":Str))&&!(x==("__classdict__":Str))
noncomputable def abi (sc:aad) (fz:List Str) (x:Str):Bool:=abW sc x&&!fz.contains x
noncomputable def acs:List Str->Bool
 | []=>true
 | x ::l=>!l.contains x&&acs l
noncomputable def aci (sc:aad) (fz:List Str) (es:List Expr):Bool:=(es.all λe=>match e with
 | .Name x _=>abi sc fz x
 | _=>false)&&acs (es.filterMap abX)
noncomputable def abo:List Expr->List T->Option (List (Str×Bool×T))
 | [],[]=>some []
 | .Name x _ ::es,t ::ts=>(abo es ts).map λl=>(x,false,t) ::l
 | _,_=>none
noncomputable def aaT:List (Str×Bool×T)->aab×aab->aab×aab
 | [],p=>p
 | (x,b,t) ::l,(ρ,ω)=>aaT l (if b then (er x ρ,(x,t) ::er x ω) else ((x,t) ::ρ,er x ω))
noncomputable def aix (es:List Expr) (l:List T) (ρ ω:aab) (K:Out->Prop):Prop:=
 opt (abo es l) λL=>K (.nx (aaT L (ρ,ω)).1 (aaT L (ρ,ω)).2)
noncomputable def asF (it:Bool) (ev:EvF) (sc:aad) (es:List Expr) (v:Expr) (ρ ω:aab) (K:Out->Prop):Prop:=
 br (ar5 ω v) (ev sc v (ω++ρ) λt=>match t with
  | .tup l=>gd (l.all scalar) (aix es l ρ ω K)
  | .lst l=>gd ((it&&!aih v)&&l.all scalar) (aix es l ρ ω K)
  | _=>False)
 (ev sc v ρ λt=>match t with
   | .tup l=>aix es l ρ ω K
   | .lst l=>gd (it&&!aih v) (aix es l ρ ω K)
   | _=>False)
noncomputable def acE:Expr->Bool
 | .Tuple vs _ _=>!(vs.all (constantsAlone 8))
 | _=>true
noncomputable def ar6 (ev:EvF) (sc:aad) (ow:Str->Bool) (ρ:aab):List Expr->List Expr->(List (Str×Bool×T)->Prop)->Prop
 | [],[],K=>K []
 | .Name x _ ::es,v ::vs,K=>br (ow x) (match v with
   | .List us _=>gd (aae us) (ahe (λe k=>ev sc e ρ k) us λts=>szl ts.length (ar6 ev sc ow ρ es vs λl=>K ((x,true,.lst ts) ::l)))
   | _=>False)
  (ev sc v ρ λt=>ar6 ev sc ow ρ es vs λl=>K ((x,false,t) ::l))
 | _,_,_=>False
noncomputable def alH (l:List T) (k:Int) (t:T):Option (List T):=(seqIndex? k l.length).map λj=>l.set j t
noncomputable def abO (ks:List Str) (ρ:aab):aab:=ks.filterMap λx=>(ρ.lookup x).map λt=>(x,t)
theorem aaP{x:Str}{t:T}{ρ:aab}:∀ {ks:List Str},(abO ks ρ).lookup x=some t->ρ.lookup x=some t
 | [],h=>by exact nos h
 | k ::ks,h=>by
  unfold abO at h
  replace h:=List.filterMap_cons▸h
  cases q:ρ.lookup k with
  | none=>replace h:=q▸h;exact aaP (ks:=ks) h
  | some u=>
   replace h:=q▸h
   dsimp only [Option.map_some,List.lookup_cons] at h
   cases e:x==k with
   | true=>replace h:=e▸h;cases h;refine (eq_of_beq e)▸?_;exact q
   | false=>replace h:=e▸h;exact aaP (ks:=ks) h
noncomputable def afX (bind:T->aab->aab->Option (aab×aab)) (body:aab->aab->(Out->Prop)->Prop) (ks ko:List Str):List T->aab->aab->(Out->Prop)->Prop
 | [],ρ,ω,K=>K (.nx ρ ω)
 | t ::ts,ρ,ω,K=>opt (bind t ρ ω) λp=>body p.1 p.2 λo=>match o with
   | .nx ρ ω=>afX bind body ks ko ts (abO ks ρ) (abO ko ω) K
   | .br ρ ω=>K (.nx (abO ks ρ) (abO ko ω))
   | .rt t=>K (.rt t)
noncomputable def agd (test:aab->aab->(Bool->Prop)->Prop) (body:aab->aab->(Out->Prop)->Prop) (ks ko:List Str):Nat->aab->aab->(Out->Prop)->Prop
 | 0,_,_,_=>False
 | n+1,ρ,ω,K=>test ρ ω λc=>br c (body ρ ω λo=>match o with
   | .nx ρ ω=>agd test body ks ko n (abO ks ρ) (abO ko ω) K
   | .br ρ ω=>K (.nx (abO ks ρ) (abO ko ω))
   | .rt t=>K (.rt t)) (K (.nx ρ ω))
noncomputable def alI:Expr->T->Option (List (Str×Bool×T))
 | .Name x _,t=>some [(x,false,t)]
 | .Tuple es _ _,.tup ts=>abo es ts
 | _,_=>none
noncomputable def agO (sc:aad) (fz:List Str):Expr->Bool
 | .Name x _=>abi sc fz x
 | .Tuple es _ _=>aci sc fz es
 | _=>false
noncomputable def acF (sc:aad) (fz:List Str) (target:Expr) (t:T) (ρ ω:aab):Option (aab×aab):=
 if agO sc fz target then (alI target t).map λL=>aaT L (ρ,ω) else none
noncomputable def age:Expr->Bool
 | .ListComp .. | .SetComp .. | .DictComp ..=>false
 | _=>true
noncomputable def afm (iter:Expr) (ω:aab):Option (Str×T):=
 match iter with
 | .Name x _=>(ω.lookup x).map λt=>(x,t)
 | _=>none
theorem ahw{iter:Expr}{ω:aab}{x:Str}{t:T}(h:afm iter ω=some (x,t)):∃ p,iter=.Name x p/\ω.lookup x=some t:=by
 cases iter <;> first | (exact nos h;done) | skip
 rename_i y p
 dsimp only [afm] at h
 cases q:ω.lookup y with
 | none=>replace h:=q▸h;exact nos h
 | some u=>replace h:=q▸h;cases h;exact ⟨p,rfl,q⟩
noncomputable abbrev BlF:=List Str->List Stmt->aab->aab->(Out->Prop)->Prop
variable{it:Bool}{r:Nat}{A:Around}{X P a9:aag}{a6:Shared}{env:Env}{sc:aad}{fz:List (Str×Addr)}{E:Value->Shared->Prop}{ev:EvF}{S:Sg}{n:Nat}{ow:Str->Bool}{bl:BlF}{V:aag}{ad:Str->Addr}{s:Shared}{ρ ω:aab}{K:Out->Prop}{s':Shared}{ad':Str->Addr}{s'':Shared}{aG:Str->Addr}{a8 sst:Shared}{m:Nat}{V' Z N az:aag}{γ:Gm}{af au aS aJ:aab}
noncomputable abbrev HkS:=Stmt->Option (List Str->aab->aab->(Out->Prop)->Prop)
noncomputable def afY:HkS:=λ_=>none
noncomputable def adQ (ev:EvF) (sc:aad) (fz:List Str) (x:Str) (v:Expr) (ρ ω:aab) (K:Out->Prop):Prop:=
 gd (abi sc fz x) (evM ev sc ρ ω v λt=>K (.nx ((x,t) ::ρ) (er x ω)))
noncomputable def aps (sc:aad) (fz:List Str) (x y:Str) (ap p:Pos) (ρ ω:aab) (K:Out->Prop):Prop:=
 gd (abi sc fz x&&(x != y&&ap.endLine==p.line&&anx y)) (match ω.lookup y with
  | some (.lst l)=>szl l.length (match l.reverse with
   | t ::l'=>K (.nx ((x,t) ::ρ) (er x ((y,.lst l'.reverse) ::er y ω)))
   | []=>False)
  | _=>False)
noncomputable def acG (ev:EvF) (sc:aad) (ow:Str->Bool) (fz:List Str) (x:Str) (v:Expr) (ρ ω:aab) (K:Out->Prop):Prop:=
 match v with
 | .List es _=>gd (abi sc fz x&&aae es) (ahe (λe k=>ev sc e ρ k) es λts=>szl ts.length (br (ow x) (K (.nx (er x ρ) ((x,.lst ts) ::er x ω))) (K (.nx ((x,.lst ts) ::ρ) (er x ω)))))
 | .Dict ks vs _=>gd ((ks.isEmpty&&vs.isEmpty)&&(abi sc fz x&&ow x)) (K (.nx (er x ρ) ((x,.dct []) ::er x ω)))
 | .Call (.Attribute (.Name y _) m ap) args kws p=>br (m==("pop":Str)) (gd (args.isEmpty&&kws.isEmpty) (aps sc fz x y ap p ρ ω K)) (adQ ev sc fz x v ρ ω K)
 | _=>adQ ev sc fz x v ρ ω K
noncomputable def apt (it:Bool) (ev:EvF) (sc:aad) (ow:Str->Bool) (fz:List Str) (es:List Expr) (v:Expr) (ρ ω:aab) (K:Out->Prop):Prop:=
 gd (aci sc fz es&&acE v) (br ((es.filterMap abX).any ow) (match v with
   | .Tuple vs _ _=>gd (aae vs) (ar6 ev sc ow ρ es vs λl=>szl l.length (K (.nx (aaT l (ρ,ω)).1 (aaT l (ρ,ω)).2)))
   | _=>False)
  (asF it ev sc es v ρ ω K))
noncomputable def alJ (ev:EvF) (sc:aad) (x:Str) (i v:Expr) (ρ ω:aab) (K:Out->Prop):Prop:=
 gd (anx x&&age v) (match ω.lookup x with
  | some (.lst l)=>evM ev sc ρ ω v λt=>ev sc i (ω++ρ) λk=>(match k with
   | .int k=>gd (apn k) (opt (alH l k t) λl'=>K (.nx ρ ((x,.lst l') ::er x ω)))
   | _=>False)
  | some (.dct l)=>evM ev sc ρ ω v λt=>ev sc i (ω++ρ) λk=>(match k with
   | .int k=>szl (l.length+1) (K (.nx ρ ((x,.dct (abr l (k,t))) ::er x ω)))
   | _=>False)
  | _=>False)
noncomputable def asgF (it:Bool) (ev:EvF) (sc:aad) (ow:Str->Bool) (fz:List Str) (t v:Expr) (ρ ω:aab) (K:Out->Prop):Prop:=
 match t with
 | .Name x _=>acG ev sc ow fz x v ρ ω K
 | .Tuple es _ _=>apt it ev sc ow fz es v ρ ω K
 | .Subscript (.Name x _) i _=>alJ ev sc x i v ρ ω K
 | _=>False
noncomputable def augF (ev:EvF) (sc:aad) (fz:List Str) (x:Str) (v:Expr) (ρ ω:aab) (K:Out->Prop):Prop:=
 gd ((abi sc fz x&&anx x)&&!ar5 ω v) (match ω.lookup x with
  | some (.lst l)=>ev sc v ρ λt=>(match t with
   | .lst ts=>szl (l.length+ts.length) (K (.nx (er x ρ) ((x,.lst (l++ts)) ::er x ω)))
   | _=>False)
  | _=>False)
noncomputable def aqz (ev:EvF) (sc:aad) (x m:Str) (a:Expr) (ap p:Pos) (ρ ω:aab) (K:Out->Prop):Prop:=
 gd (ap.endLine==p.line&&(aai a&&anx x)) (match ω.lookup x with
  | some (.lst l)=>br (m==("append":Str)) (evM ev sc ρ ω a λt=>szl (l.length+1) (K (.nx ρ ((x,.lst (l++[t])) ::er x ω))))
   (gd (m==("extend":Str)&&!ar5 ω a) (ev sc a ρ λt=>(match t with
     | .lst ts=>szl (l.length+ts.length) (K (.nx ρ ((x,.lst (l++ts)) ::er x ω)))
     | _=>False)))
  | _=>False)
noncomputable def aqA (ev:EvF) (sc:aad) (e:Expr) (ρ ω:aab) (K:Out->Prop):Prop:=
 match e with
 | .Call (.Attribute (.Name x _) m ap) [a] [] p=>aqz ev sc x m a ap p ρ ω K
 | _=>False
noncomputable def alK (it:Bool) (ev:EvF) (sc:aad) (bl:BlF) (fz:List Str) (target iter:Expr) (b:List Stmt) (ρ ω:aab) (K:Out->Prop):Prop:=
 gd (it&&aai iter) (match afm iter ω with
  | some p=>(match p.2 with
   | .lst l=>gd (anx p.1) (afX (acF sc (p.1 ::fz) target) (λρ ω K=>bl (p.1 ::fz) b ρ ω K) (ρ.map (·.1)) ((er p.1 ω).map (·.1)) l ρ (er p.1 ω) λo=>(match o with
    | .nx ρ ω=>K (.nx (er p.1 ρ) ((p.1,.lst l) ::er p.1 ω))
    | .rt t=>K (.rt t)
    | .br _ _=>False))
   | _=>False)
  | none=>afc ev sc target iter ρ λitems=>afX (acF sc fz target) (λρ ω K=>bl fz b ρ ω K) (ρ.map (·.1)) (ω.map (·.1)) items ρ ω K)
noncomputable def stG (it:Bool) (ev:EvF) (n:Nat) (sc:aad) (ow:Str->Bool) (bl:BlF) (fz:List Str) (st:Stmt) (ρ ω:aab) (K:Out->Prop):Prop:=
 match st with
 | .Assign [t] v _=>asgF it ev sc ow fz t v ρ ω K
 | .AugAssign (.Name x _) .Add v _=>augF ev sc fz x v ρ ω K
 | .Expr e _=>aqA ev sc e ρ ω K
 | .If t b o _=>abq (λe k=>ev sc e (ω++ρ) k) n t λc=>br c (bl fz b ρ ω K) (bl fz o ρ ω K)
 | .While t b [] _=>∃ f,agd (λρ ω k=>abq (λe k=>ev sc e (ω++ρ) k) n t k) (λρ ω K=>bl fz b ρ ω K) (ρ.map (·.1)) (ω.map (·.1)) f ρ ω K
 | .For target iter b [] _=>alK it ev sc bl fz target iter b ρ ω K
 | .Return v _=>(match v with
  | some e=>ev sc e (ω++ρ) λt=>K (.rt t)
  | none=>K (.rt .none))
 | .Break _=>K (.br ρ ω)
 | _=>False
noncomputable def stF (it:Bool) (ev:EvF) (n:Nat) (sc:aad) (ow:Str->Bool) (hk:HkS) (bl:BlF) (fz:List Str) (st:Stmt) (ρ ω:aab) (K:Out->Prop):Prop:=
 match hk st with
 | some F=>F fz ρ ω K
 | none=>stG it ev n sc ow bl fz st ρ ω K
section
variable{hk:HkS}{fz:List Str}
theorem aki{G:Expr->Prop}{e:Expr}(h:aqA ev sc e ρ ω K) (k:∀ x q m ap a p,aqz ev sc x m a ap p ρ ω K->G (.Call (.Attribute (.Name x q) m ap) [a] [] p)):G e:=by
 cases e with
 | Call g as ks p=>
  cases g with
  | Attribute o m ap=>
   cases o with
   | Name x q=>
    cases as with
    | nil=>exact h.elim
    | cons a r=>
     cases r with
     | nil=>
      cases ks with
      | nil=>exact k _ _ _ _ _ _ h
      | cons=>exact h.elim
     | cons=>exact h.elim
   | _=>exact h.elim
  | _=>exact h.elim
 | _=>exact h.elim
theorem an3{G:Stmt->Prop}{st:Stmt}(h:stG it ev n sc ow bl fz st ρ ω K) (kA:∀ t v p,asgF it ev sc ow fz t v ρ ω K->G (.Assign [t] v p)) (kU:∀ x q v p,augF ev sc fz x v ρ ω K->G (.AugAssign (.Name x q) .Add v p))
  (kE:∀ e p,aqA ev sc e ρ ω K->G (.Expr e p)) (kI:∀ t b o p,(abq (λe k=>ev sc e (ω++ρ) k) n t λc=>br c (bl fz b ρ ω K) (bl fz o ρ ω K))->G (.If t b o p))
  (kW:∀ t b p,(∃ f,agd (λρ ω k=>abq (λe k=>ev sc e (ω++ρ) k) n t k) (λρ ω K=>bl fz b ρ ω K) (ρ.map (·.1)) (ω.map (·.1)) f ρ ω K)->G (.While t b [] p))
  (kF:∀ x i b p,alK it ev sc bl fz x i b ρ ω K->G (.For x i b [] p)) (kR:∀ e p,(ev sc e (ω++ρ) λt=>K (.rt t))->G (.Return (some e) p)) (kN:∀ p,K (.rt .none)->G (.Return none p)) (kB:∀ p,K (.br ρ ω)->G (.Break p)):G st:=by
 cases st with
 | Assign ts v p=>
  cases ts with
  | nil=>exact h.elim
  | cons t r=>cases r with
   | nil=>exact kA _ _ _ h
   | cons=>exact h.elim
 | AugAssign t op v p=>cases t with
  | Name x q=>cases op with
   | Add=>exact kU _ _ _ _ h
   | _=>exact h.elim
  | _=>exact h.elim
 | Expr e p=>exact kE _ _ h
 | If t b o p=>exact kI _ _ _ _ h
 | While t b e p=>cases e with
  | nil=>exact kW _ _ _ h
  | cons=>exact h.elim
 | For x i b e p=>cases e with
  | nil=>exact kF _ _ _ _ h
  | cons=>exact h.elim
 | Return v p=>cases v with
  | some e=>exact kR _ _ h
  | none=>exact kN _ h
 | Break p=>exact kB _ h
 | _=>exact h.elim
theorem an4{G:Prop}{st:Stmt}(h:stF it ev n sc ow hk bl fz st ρ ω K) (kH:∀ F,hk st=some F->F fz ρ ω K->G) (kS:stG it ev n sc ow bl fz st ρ ω K->G):G:=by
 revert h
 delta stF
 cases q:hk st with
 | some F=>exact kH F q
 | none=>exact kS
end
noncomputable def blF (it:Bool) (ev:EvF) (n:Nat) (sc:aad) (ow:Str->Bool) (hk:HkS):Nat->BlF
 | _,_,[],ρ,ω,K=>K (.nx ρ ω)
 | 0,_,_ ::_,_,_,_=>False
 | m+1,fz,st ::ss,ρ,ω,K=>stF it ev n sc ow hk (blF it ev n sc ow hk m) fz st ρ ω λo=>match o with
  | .nx ρ ω=>blF it ev n sc ow hk m fz ss ρ ω K
  | o=>K o
section
variable (γ:Gm)
noncomputable def PostS (it:Bool) (r:Nat) (A:Around) (X P:aag) (a9:aag) (a6:Shared) (env:Env) (sc:aad) (fz:List (Str×Addr)) (K:Out->Prop) (V:aag) (ad:Str->Addr) (s:Shared) (ω:aab) (f:Flow) (s':Shared):Prop:=
 ∃ o,K o/\(match o,f with
  | .nx af au,.next=>∃ V' ad',SSt γ it r A X P a9 a6 env sc fz V' ad' s' af au/\Stp X V ad s ω V' ad' s' au
  | .br af au,.brk=>∃ V' ad',SSt γ it r A X P a9 a6 env sc fz V' ad' s' af au/\Stp X V ad s ω V' ad' s' au
  | .rt t,.ret v=>Ext a6 s'/\Rep (Nv a9 a6) s'.heap v t
  | _,_=>False)
noncomputable def anz (it:Bool) (r:Nat) (A:Around) (X:aag) (a9:aag) (a6:Shared) (env:Env) (sc:aad) (bl:BlF):Prop:=
 ∀ (P:aag) fz ss ρ ω K V ad s,bl (fz.map (·.1)) ss ρ ω K->SSt γ it r A X P a9 a6 env sc fz V ad s ρ ω->
  wpAny (model pg γ.w) A (execs ss env) (PostS γ it r A X P a9 a6 env sc fz K V ad s ω) No s
end
section
noncomputable abbrev aaZ (γ:Gm) (it:Bool) (r:Nat) (A:Around) (X P:aag) (a9:aag) (a6:Shared) (env:Env) (sc:aad) (fz:List (Str×Addr)) (K:Out->Prop) (V:aag) (ad:Str->Addr) (s:Shared) (ω:aab) (st:Stmt):Prop:=
 wpAny (model pg γ.w) A (exec st env) (PostS γ it r A X P a9 a6 env sc fz K V ad s ω) No s
@[elab_as_elim] theorem ab0{G:Flow->Prop}{f:Flow}{s':Shared}(h:PostS γ it r A X P a9 a6 env sc fz K V ad s ω f s') (nx:∀ af au V' ad',K (.nx af au)->SSt γ it r A X P a9 a6 env sc fz V' ad' s' af au->Stp X V ad s ω V' ad' s' au->G .next)
  (br:∀ af au V' ad',K (.br af au)->SSt γ it r A X P a9 a6 env sc fz V' ad' s' af au->Stp X V ad s ω V' ad' s' au->G .brk) (rt:∀ t v,K (.rt t)->Ext a6 s'->Rep (Nv a9 a6) s'.heap v t->G (.ret v)):G f:=by
 obtain ⟨o,ho,p⟩:=h
 cases o with
 | nx af au=>cases f with
  | next=>obtain ⟨V',ad',c,a⟩:=p;exact nx _ _ V' ad' ho c a
  | _=>exact p.elim
 | br af au=>cases f with
  | brk=>obtain ⟨V',ad',c,a⟩:=p;exact br _ _ V' ad' ho c a
  | _=>exact p.elim
 | rt t=>cases f with
  | ret v=>exact rt t v ho p.1 p.2
  | _=>exact p.elim
theorem PostS.from{f:Flow}(a:Stp X V ad s ω V' ad' s' au) (p:PostS γ it r A X P a9 a6 env sc fz K V' ad' s' au f s''):PostS γ it r A X P a9 a6 env sc fz K V ad s ω f s'':=
 ab0 p (λ_ _ V'' ad'' hk c b=>⟨_,hk,V'',ad'',c,a.trans b⟩) (λ_ _ V'' ad'' hk c b=>⟨_,hk,V'',ad'',c,a.trans b⟩) λ_ _ hk x r=>⟨_,hk,x,r⟩
theorem PostS.mono{K':Out->Prop}{f:Flow}(h:∀ o,K o->K' o) (p:PostS γ it r A X P a9 a6 env sc fz K V ad s ω f s'):PostS γ it r A X P a9 a6 env sc fz K' V ad s ω f s':=
 (p).elim λo hX1=>hX1.elim λa b=>⟨o,h o a,b⟩
theorem Stp.put (x:ExtX X s s') (lv:∀ b,s'.heap.get? b=none->s.heap.get? b=none) {y:Str}:Stp X V ad s ω V ad s' (er y ω):=
 ⟨x.mono λ_ h=>.inl h,lv,λ_ h=>.inl h,λ_ h _=>h,λz t h=>by
  replace h:=aak▸h
  split at h
  . exact nos h
  . exact .inl ⟨z,t,h,rfl⟩⟩
theorem Stp.putO (x:ExtX X s s') (lv:∀ b,s'.heap.get? b=none->s.heap.get? b=none) {y:Str}{a:Addr}{t:T}(ha:s.heap.get? a=none\/∃ z u,ω.lookup z=some u/\a=ad z):Stp X V ad s ω V (λz=>if z=y then a else ad z) s' ((y,t) ::er y ω):=
 ⟨x.mono λ_ h=>.inl h,lv,λ_ h=>.inl h,λ_ h _=>h,λz u h=>by
  rw [lookup_cons] at h
  by_cases e:z=y
  . simp only [e,if_true]
    refine (ha).elim ?_ ?_
    . rintro ha
      exact .inr ha
    . rintro ⟨z',u',h1,h2⟩
      exact .inl ⟨z',u',h1,h2⟩
  . rw [if_neg (by simpa using e),aak,if_neg e] at h
    simp only [e,if_false]
    exact .inl ⟨z,u,h,rfl⟩⟩
theorem Stp.mut{y:Str}{t t':T}(hy:ω.lookup y=some t) (x:ExtX (·=ad y) s s') (lv:∀ b,s'.heap.get? b=none->s.heap.get? b=none):Stp X V ad s ω V ad s' ((y,t') ::er y ω):=
 ⟨x.mono λb h=>.inr ⟨y,t,hy,h⟩,lv,λ_ h=>.inl h,λ_ h _=>h,λz u h=>by
  rw [lookup_cons] at h
  by_cases e:z=y
  . rw [e];exact .inl ⟨y,t,hy,rfl⟩
  . rw [if_neg (by simpa using e),aak,if_neg e] at h
    exact .inl ⟨z,u,h,rfl⟩⟩
theorem acS (hs:aaz γ it r ev) (k:FrK γ it r A X a9 a6 env sc) (c:SSt γ it r A X P a9 a6 env sc fz V ad s ρ ω) {e:Expr}{K:T->Prop}{Q:Value->Shared->Prop}{E:Value->Shared->Prop}(h:evM ev sc ρ ω e K)
  (q:∀ v s' t,K t->Ext s s'->Rep V s'.heap v t->Q v s'):wpAny (model pg γ.w) A (eval e env) Q E s:=by
 unfold evM at h
 refine (br_ h).elim ?_ ?_
 . rintro ⟨_,h⟩
   exact aaj (hs _ _ _ _ h A _ s env c.shown) λv s' t h1 x rv=>q v s' t (gd_ h1).2 x (rv.scalar (gd_ h1).1)
 . rintro ⟨_,h⟩
   exact aaj (hs _ _ _ _ h A V s env c.cx) λv s' t h2 x rv=>q v s' t h2 x (rv.mono (λa h=>h.elim id (c.fr a)) λ_ _ _ _ e=>e)
theorem adi{x:Str}(h:abi sc (fz.map (·.1)) x=true):abW sc x=true/\∀ p∈fz,p.1≠x:=by
 unfold abi at h
 simp only [Bool.and_eq_true,Bool.not_eq_true',List.contains_eq_mem,decide_eq_false_iff_not,List.mem_map,not_exists,not_and] at h
 exact ⟨h.1,λp hp=>h.2 p hp⟩
theorem acH{v:Expr}{o:Option Expr}{l:Nat}(h:age v=true):swapsWith v o l env=pure false:=by
 cases v <;> first | rfl | exact ff h
theorem aqB (hs:aaz γ it r ev) (k:FrK γ it r A X a9 a6 env sc) (c:SSt γ it r A X P a9 a6 env sc fz V ad s ρ ω) {x:Str}{p pos:Pos}{v:Expr}(hn:age v=true)
  (hx:abi sc (fz.map (·.1)) x=true) (h:evM ev sc ρ ω v λt=>K (.nx ((x,t) ::ρ) (er x ω))):aaZ γ it r A X P a9 a6 env sc fz K V ad s ω (.Assign [.Name x p] v pos):=by
 refine wpAny_Assign_Name ?_ (acH hn)
 refine acS hs k c h λu a8 t hk e rv=>?_
 exact (c.run k e).put k ((adi hx).1) ((adi hx).2) rv λaa ah aD lv=>⟨_,hk,V,ad,ah,(Stp.run e).trans (Stp.put aD lv)⟩
theorem alL (hs:aaz γ it r ev) (c:SSt γ it r A X P a9 a6 env sc fz V ad s ρ ω) {pos:Pos}{v:Expr}(h:ev sc v (ω++ρ) λt=>K (.rt t)):aaZ γ it r A X P a9 a6 env sc fz K V ad s ω (.Return (some v) pos):=by
 refine wpAny_Return_some (aaj (hs _ _ _ _ h A _ s env c.shown) λu a8 t hk e rv=>⟨_,hk,c.ext.trans e,rv.mono (λa ha=>?_) λ_ _ _ _ e=>e⟩)
 rcases ha with (ha | ⟨x,t,h1,rfl⟩) | ha
 . exact c.vw a ha
 . exact .inr (c.own x t h1).n0
 . exact .inr (c.ext.there a id ha)
theorem st_if (hs:aaz γ it r ev) (k:FrK γ it r A X a9 a6 env sc) (hb:anz γ it r A X a9 a6 env sc bl) (c:SSt γ it r A X P a9 a6 env sc fz V ad s ρ ω) {t:Expr}{b o:List Stmt}{pos:Pos}
  (h:abq (λe k=>ev sc e (ω++ρ) k) n t λc=>br c (bl (fz.map (·.1)) b ρ ω K) (bl (fz.map (·.1)) o ρ ω K)):aaZ γ it r A X P a9 a6 env sc fz K V ad s ω (.If t b o pos):=by
 refine wpAny_If (at1 (aaU hs n h c.shown) (λx a8 hZ3=>hZ3.elim λhk e=>?_) aah)
 clear hZ3
 cases x with
 | true=>simp only [if_true];exact at1 (hb P fz b ρ ω K V ad a8 hk (c.run k e)) (λf aa p=>p.from (Stp.run e)) aah
 | false=>simp only [Bool.false_eq_true,if_false];exact at1 (hb P fz o ρ ω K V ad a8 hk (c.run k e)) (λf aa p=>p.from (Stp.run e)) aah
theorem aqC{bl':BlF}{st:Stmt}{ss:List Stmt}(hb:anz γ it r A X a9 a6 env sc bl')
  (h:aaZ γ it r A X P a9 a6 env sc fz (λo=>match o with | .nx ρ ω=>bl' (fz.map (·.1)) ss ρ ω K | o=>K o) V ad s ω st) :
  wpAny (model pg γ.w) A (execs (st ::ss) env) (PostS γ it r A X P a9 a6 env sc fz K V ad s ω) No s:=by
 refine aui (at1 h (λf a8 p=>?_) aah)
 refine ab0 p ?_ ?_ ?_
 . exact λaf au V' ad' hk c' a=>at1 (hb P fz ss af au K V' ad' a8 hk c') (λf aa p=>p.from a) aah
 . exact λ_ _ V' ad' hk c a=>⟨_,hk,V',ad',c,a⟩
 . exact λ_ _ hk x r=>⟨_,hk,x,r⟩
end
set_option backward.match.sparseCases true
section
theorem SSt.congr (c:SSt γ it r A X P a9 a6 env sc fz V ad s ρ ω) (h1:∀ x,af.lookup x=ρ.lookup x) (h2:∀ x,au.lookup x=ω.lookup x):SSt γ it r A X P a9 a6 env sc fz V ad s af au:=
 ⟨⟨c.cx.aok,c.cx.wd,c.cx.envS,c.cx.loc,λx t e=>c.cx.vars x t (h1 x▸e),c.cx.live⟩,c.slots,c.offX,c.fr,λx t e=>c.own x t (h2 x▸e),λx y t u e e'=>c.apart x y t u (h2 x▸e) (h2 y▸e'),c.offP,c.frz,c.ext,c.vw⟩
theorem Stp.congr (a:Stp X V ad s ω V' ad' s' au) (h2:∀ x,aS.lookup x=au.lookup x):Stp X V ad s ω V' ad' s' aS:=⟨a.x,a.lv,a.dn,a.up,λy t h=>a.ow y t (h2 y▸h)⟩
inductive Pend (X P V:aag) (a6 a8 s:Shared):List (Str×Bool×T)->List Value->List Addr->Prop
 | nil:Pend X P V a6 a8 s [] [] []
 | plain {x v t L vs as}:Rep V s.heap v t->Pend X P V a6 a8 s L vs as->Pend X P V a6 a8 s ((x,false,t) ::L) (v ::vs) as
 | owned {x a t L vs as}:OwnT V s.heap a t->¬ V a->¬ X a->¬ P a->a6.heap.get? a=none->a8.heap.get? a=none->Pend X P V a6 a8 s L vs as->Pend X P V a6 a8 s ((x,true,t) ::L) (.ref a ::vs) (a ::as)
theorem Pend.move (p:Pend X P V a6 a8 s L vs as) (x:ExtX X s s') (oX:Off X V):Pend X P V a6 a8 s' L vs as:=by
 induction p with
 | nil=>exact .nil
 | plain r _ ih=>exact .plain (r.extX x oX) ih
 | owned o h1 h2 h3 h4 h5 _ ih=>exact .owned (o.shift (λ_ h _=>h) (λb o n hb e=>x.keepC b o n (λz=>oX b z hb) e) λo n e=>x.keepC _ o n h2 e) h1 h2 h3 h4 h5 ih
inductive Sts (M:Model) (A:Around) (env:Env):List (Value->Sem Unit)->List Str->Prop
 | nil:Sts M A env [] []
 | cons {f x fs xs}:(∀ v Q E s,wpAny M A (storeName env x v) Q E s->wpAny M A (f v) Q E s)->Sts M A env fs xs->Sts M A env (f ::fs) (x ::xs)
theorem ajo (k:FrK γ it r A X a9 a6 env sc):∀ {L:List (Str×Bool×T)}{vs:List Value}{as:List Addr}{fs:List (Value->Sem Unit)}{ad:Str->Addr}{s:Shared}{ρ ω:aab}{Q:Unit->Shared->Prop}{E:Value->Shared->Prop},Pend X P V a6 a8 s L vs as->as.Nodup->(∀ a∈as,∀ y u,ω.lookup y=some u->ad y≠a)->Sts (model pg γ.w) A env fs (L.map (·.1))->(∀ p∈L,abi sc (fz.map (·.1)) p.1=true)->
  SSt γ it r A X P a9 a6 env sc fz V ad s ρ ω->Stp X az aG a8 aJ V ad s ω->
  (∀ s' ad',SSt γ it r A X P a9 a6 env sc fz V ad' s' (aaT L (ρ,ω)).1 (aaT L (ρ,ω)).2->Stp X az aG a8 aJ V ad' s' (aaT L (ρ,ω)).2->Q () s')->wpAny (model pg γ.w) A (assignInOrder fs vs) Q E s:=by
 intro L
 induction L with
 | nil=>
  intro vs as fs ad s ρ ω Q E p _ _ st _ c a q
  cases st
  exact assignInOrder_nil (q s ad c a)
 | cons e L ih=>
  intro vs as fs ad s ρ ω Q E p nd dis st cs c a q
  cases p with
  | @plain x v t L' vs' as' rv p=>
   cases st with
   | @cons f x' fs xs hf st=>
   obtain ⟨o1,o2⟩:=adi (cs _ (.head _))
   refine assignInOrder_cons (hf _ _ _ _ (c.put k o1 o2 rv λaa ah aD lv=>?_))
   refine ih (p.move aD c.offX) nd (λb hb y u hy=>?_) st (λp hp=>cs p (.tail _ hp)) ah (a.trans (Stp.put aD lv)) q
   rw [aak] at hy
   split at hy
   . exact nos hy
   . exact dis b hb y u hy
  | @owned x a' t L' vs' as' o h1 h2 h3 h4 h5 p=>
   cases st with
   | @cons f x' fs xs hf st=>
   obtain ⟨o1,o2⟩:=adi (cs _ (.head _))
   have hne:∀ y u,(er x ω).lookup y=some u->ad y≠a':=λy u hy=>by
    rw [aak] at hy
    split at hy
    . exact nos hy
    . exact dis a' (.head _) y u hy
   refine assignInOrder_cons (hf _ _ _ _ (c.putO k o1 o2 o h1 h2 h3 h4 hne λaa ah aD lv=>?_))
   obtain ⟨n1,n2⟩:=List.nodup_cons.mp nd
   refine ih (p.move aD c.offX) n2 (λb hb y u hy=>?_) st (λp hp=>cs p (.tail _ hp)) ah ?_ q
   . rw [lookup_cons] at hy
     by_cases h:y=x
     . simp only [h,if_true];exact λz=>n1 (z▸hb)
     . rw [if_neg (by simpa using h),aak,if_neg h] at hy
       simp only [h,if_false]
       exact dis b (.tail _ hb) y u hy
   . have b:Stp X V ad s ω V ad aa (er x ω):=Stp.put aD lv
     have ab:=a.trans b
     refine ⟨ab.x,ab.lv,ab.dn,ab.up,λy u hy=>?_⟩
     rw [lookup_cons] at hy
     by_cases h:y=x
     . simp only [h,if_true];exact .inr h5
     . rw [if_neg (by simpa using h)] at hy
       simp only [h,if_false]
       exact ab.ow y u hy
theorem agf{x:Str}{l:List Str}(h:acs (x ::l)=true):x∉l/\acs l=true:=by
 dsimp only [acs] at h
 rw [Bool.and_eq_true,Bool.not_eq_true',List.contains_eq_mem,decide_eq_false_iff_not] at h
 exact h
theorem ac8:∀ {L:List (Str×Bool×T)}{ρ ω:aab}{y:Str},(aaT L (ρ,ω)).1.lookup y=match (L.reverse.lookup y) with
  | some (b,t)=>if b then none else some t
  | none=>ρ.lookup y
 | [],ρ,ω,y=>rfl
 | (x,b,t) ::L,ρ,ω,y=>by
  cases b with
  | true=>
   show (aaT L (er x ρ,(x,t) ::er x ω)).1.lookup y=_
   rw [ac8,List.reverse_cons,aaN]
   cases L.reverse.lookup y with
   | some z=>rfl
   | none=>
    simp only [List.lookup_cons,List.lookup_nil,aak]
    by_cases h:y=x
    . subst h;simp
    . have:(y==x)=false:=by simpa using h
      simp [h,this]
  | false=>
   show (aaT L ((x,t) ::ρ,er x ω)).1.lookup y=_
   rw [ac8,List.reverse_cons,aaN]
   cases L.reverse.lookup y with
   | some z=>rfl
   | none=>
    simp only [List.lookup_cons,List.lookup_nil]
    cases y==x <;> rfl
theorem abU:∀ {L:List (Str×Bool×T)}{ρ ω:aab}{y:Str},(aaT L (ρ,ω)).2.lookup y=match (L.reverse.lookup y) with
  | some (b,t)=>if b then some t else none
  | none=>ω.lookup y
 | [],ρ,ω,y=>rfl
 | (x,b,t) ::L,ρ,ω,y=>by
  cases b with
  | true=>
   show (aaT L (er x ρ,(x,t) ::er x ω)).2.lookup y=_
   rw [abU,List.reverse_cons,aaN]
   cases L.reverse.lookup y with
   | some z=>rfl
   | none=>
    simp only [List.lookup_cons,List.lookup_nil,aak]
    by_cases h:y=x
    . subst h;simp
    . have:(y==x)=false:=by simpa using h
      simp [h,this]
  | false=>
   show (aaT L ((x,t) ::ρ,er x ω)).2.lookup y=_
   rw [abU,List.reverse_cons,aaN]
   cases L.reverse.lookup y with
   | some z=>rfl
   | none=>
    simp only [List.lookup_cons,List.lookup_nil,aak]
    by_cases h:y=x
    . subst h;simp
    . have:(y==x)=false:=by simpa using h
      simp [h,this]
theorem acj{α:Type}:∀ {l:List (Str×α)}{x:Str},x∉l.map (·.1)->l.lookup x=none
 | [],_,_=>rfl
 | (y,a) ::l,x,h=>by
  replace h:=List.map_cons▸h;rw [List.mem_cons,not_or] at h
  rw [List.lookup_cons]
  have:(x==y)=false:=by simpa using h.1
  refine this▸?_;exact acj h.2
theorem ac9{α:Type}{y:Str}:∀ {l:List (Str×α)},acs (l.map (·.1))=true->l.reverse.lookup y=l.lookup y
 | [],_=>rfl
 | (x,a) ::l,h=>by
  obtain ⟨h1,h2⟩:=agf h
  rw [List.reverse_cons,aaN,ac9 h2]
  dsimp only [List.lookup_cons,List.lookup_nil]
  by_cases e:y=x
  . subst e
    exact (acj h1).symm▸rfl
  . have:(y==x)=false:=by simpa using e
    refine this▸?_
    cases q:l.lookup y with
    | some z=>rfl
    | none=>rfl
theorem Pend.rev (p:Pend X P V a6 a8 s L vs as):Pend X P V a6 a8 s L.reverse vs.reverse as.reverse:=by
 have app:∀ {L vs as L' vs' as'},Pend X P V a6 a8 s L vs as->Pend X P V a6 a8 s L' vs' as'->Pend X P V a6 a8 s (L++L') (vs++vs') (as++as'):=by
  intro L vs as L' vs' as' a b
  induction a with
  | nil=>exact b
  | plain r _ ih=>exact .plain r ih
  | owned o h1 h2 h3 h4 h5 _ ih=>exact .owned o h1 h2 h3 h4 h5 ih
 induction p with
 | nil=>exact .nil
 | plain r _ ih=>rw [List.reverse_cons,List.reverse_cons];simpa using app ih (.plain r .nil)
 | owned o h1 h2 h3 h4 h5 _ ih=>rw [List.reverse_cons,List.reverse_cons,List.reverse_cons];exact app ih (.owned o h1 h2 h3 h4 h5 .nil)
end
section
noncomputable def ahx (es:List Expr):Bool:=es.all ah7
theorem adR{α β:Type}{f g:α->Option β}(h:∀ a,f a=none\/f a=g a):∀ {l:List α},(l.filterMap f).length=l.length->l.filterMap f=l.filterMap g
 | [],_=>rfl
 | a ::l,e=>by
  rw [List.filterMap_cons] at e ⊢
  cases q:f a with
  | none=>
   replace e:=q▸e
   have:=List.length_filterMap_le f l
   simp only [List.length_cons] at e
   lia
  | some b=>
   rw [q] at e
   rw [List.filterMap_cons,(by rcases h a with z | z <;> replace z:=q▸z;exact son z;exact z.symm:g a=some b)]
   simp only [List.length_cons,Nat.add_right_cancel_iff] at e
   rw [adR h e]
theorem an5{e:Expr}(h:ah7 e=true):∃ x p,e=.Name x p:=nmK (G:=λe=>∃ x p,e=.Name x p) h λx p=>⟨x,p,rfl⟩
theorem nm_of{e:Expr}{x:Str}(h:abX e=some x):ah7 e=true:=by
 cases e with
 | Name x p=>rfl
 | _=>exact nos h
theorem apu{e:Expr}{es:List Expr}(h:ahx (e ::es)=true):(∃ x p,e=.Name x p)/\ahx es=true:=(Bool.and_eq_true_iff.mp (List.all_cons▸h:(ah7 e&&ahx es)=true)).imp an5 id
theorem ahy:∀ {es:List Expr},ahx es=true->(es.filterMap abX).length=es.length
 | [],_=>rfl
 | _ ::_,h=>by
  obtain ⟨⟨x,p,rfl⟩,h⟩:=apu h
  exact congrArg (·+1) (ahy h)
theorem ifs5{α:Type}{a b c d e:Prop} [Decidable a] [Decidable b] [Decidable c] [Decidable d] [Decidable e] {x:Sem (Option α)}{z:α}(h:¬ e):∃ o,(if a then pure none else if b then pure none else if c then pure none else if d then pure none else if e then x else (pure (some z):Sem (Option α)))=pure o/\∀ y,o=some y->y=z/\¬ c:=by
 by_cases q1:a
 . exact ⟨none,if_pos q1,nofun⟩
 rw [if_neg q1]
 by_cases q2:b
 . exact ⟨none,if_pos q2,nofun⟩
 rw [if_neg q2]
 by_cases q3:c
 . exact ⟨none,if_pos q3,nofun⟩
 rw [if_neg q3]
 by_cases q4:d
 . exact ⟨none,if_pos q4,nofun⟩
 rw [if_neg q4,if_neg h]
 exact ⟨some z,rfl,λy e=>⟨(soi e).symm,q3⟩⟩
theorem aqD{m:Sem (Option (List Str))}{l:List Str}(h:m=pure none):∃ o,m=pure o/\∀ names,o=some names->names=l:=⟨none,h,nofun⟩
theorem akj{es:List Expr}{kk:Nat}{p:Pos}{v:Expr}(hes:ahx es=true) (hn:acE v=true) :
  ∃ o,swappedStores [.Tuple es kk p] v env=pure o/\∀ names,o=some names->names=es.filterMap abX:=by
 cases v with
 | Tuple vs k' p'=>
  have h:¬ vs.all (constantsAlone 8)=true:=λz=>by
   have:(!(vs.all (constantsAlone 8)))=true:=hn
   rw [z] at this;exact nomatch this
  obtain ⟨o,e,q⟩:∃ o,swappedStores [.Tuple es kk p] (.Tuple vs k' p') env=pure o/\∀ y,o=some y->y=_/\¬ _:=ifs5 h
  refine ⟨o,e,λnames hN=>?_⟩
  obtain ⟨rfl,h3⟩:=q names hN
  refine adR (λe=>?_) ?_
  . cases e with
    | Name x p=>
     dsimp only
     split
     . exact .inr rfl
     . exact .inl rfl
    | _=>exact .inl rfl
  . rw [Bool.or_eq_true,bne_iff_ne,ne_eq,not_or,Decidable.not_not] at h3
    exact h3.1
 | _=>exact aqD rfl
theorem agP:∀ {es:List Expr},ahx es=true->Sts (model pg γ.w) A env ((assignEach es env).map (·.2)) (es.filterMap abX)/\(assignEach es env).length=es.length/\(assignEach es env).findIdx? (·.1)=none
 | [],_=>⟨.nil,rfl,rfl⟩
 | e ::es,h=>by
  obtain ⟨⟨x,p,rfl⟩,h2⟩:=apu h
  have hX:=agP (es:=es) h2
  refine ⟨.cons (λv Q E s h=>au8 h) hX.1,congrArg (·+1) hX.2.1,?_⟩
  show (List.findIdx? (·.1) ((false,assign (.Name x p) env) ::assignEach es env))=none
  rw [List.findIdx?_cons,hX.2.2];rfl
theorem ahz:∀ {xs:List Str},Sts (model pg γ.w) A env (xs.map λn=>bindName env n) xs
 | []=>.nil
 | x ::xs=>.cons (λv Q E s h=>wpAny_bindName h) ahz
theorem aiy{l:List T}{L:List (Str×Bool×T)}(h:abo [] l=some L):l=[]/\L=[]:=by
 cases l with
 | nil=>exact ⟨rfl,(soi h).symm⟩
 | cons _ _=>exact nos h
theorem aiz{e:Expr}{es:List Expr}{l:List T}{L:List (Str×Bool×T)}(h:abo (e ::es) l=some L):∃ x p t ts L',e=.Name x p/\l=t ::ts/\abo es ts=some L'/\L=(x,false,t) ::L':=by
 have hn:ah7 e=true:=by
  cases l <;> cases e <;> first | rfl | exact nos h
 obtain ⟨x,p,rfl⟩:=an5 hn
 cases l with
 | nil=>exact nos h
 | cons t ts=>
  obtain ⟨L',e1,e2⟩:=Option.map_eq_some_iff.mp h
  exact ⟨x,p,t,ts,L',rfl,rfl,e1,e2.symm⟩
theorem afn:∀ {es:List Expr}{l:List T}{L:List (Str×Bool×T)},abo es l=some L->L.map (·.1)=es.filterMap abX/\es.length=l.length/\ahx es=true
 | [],_,_,h=>by obtain ⟨rfl,rfl⟩:=aiy h;exact ⟨rfl,rfl,rfl⟩
 | _ ::_,_,_,h=>by
  obtain ⟨x,p,t,ts,L',rfl,rfl,q,rfl⟩:=aiz h
  have hX:=afn q
  exact ⟨congrArg (x ::·) hX.1,congrArg (·+1) hX.2.1,hX.2.2⟩
theorem ajp:∀ {es:List Expr}{l:List T}{L:List (Str×Bool×T)}{vs:List Value},abo es l=some L->RepL V s.heap vs l->Pend X P V a6 a8 s L vs []
 | [],_,_,_,h,r=>by obtain ⟨rfl,rfl⟩:=aiy h;cases r;exact .nil
 | _ ::_,_,_,_,h,r=>by
  obtain ⟨x,p,t,ts,L',rfl,rfl,q,rfl⟩:=aiz h
  cases r with
  | cons r rs=>exact .plain r (ajp q rs)
theorem ahA{es:List Expr}(h:aci sc (fz.map (·.1)) es=true):(∀ x∈es.filterMap abX,abi sc (fz.map (·.1)) x=true)/\acs (es.filterMap abX)=true/\ahx es=true:=by
 refine (Bool.and_eq_true_iff.mp (h:(_&&_)=true)).elim λh1 h2=>?_
 rw [List.all_eq_true] at h1
 refine ⟨λx hx=>?_,h2,List.all_eq_true.mpr λe he=>?_⟩
 . obtain ⟨e,he,hn⟩:=List.mem_filterMap.mp hx
   clear hx
   obtain ⟨y,p,rfl⟩:=an5 (nm_of hn)
   obtain rfl:=soi hn;exact h1 _ he
 . have:=h1 e he
   clear he
   cases e with
   | Name _ _=>rfl
   | _=>exact ff this
inductive Ready (γ:Gm) (it:Bool) (r:Nat) (A:Around) (X P:aag) (a9:aag) (a6:Shared) (env:Env) (sc:aad) (fz:List (Str×Addr)) (K:Out->Prop) (az:aag) (aG:Str->Addr) (s:Shared) (aJ:aab) (xs:List Str) (us:List Value) (ai:Shared):Prop
 | mk (aw:aag) (aE:Str->Addr) (bf aQ:aab) (L:List (Str×Bool×T)) (as:List Addr) (hL:L.map (·.1)=xs) (nd:as.Nodup) (dis:∀ a∈as,∀ y t,aQ.lookup y=some t->aE y≠a) (hk:K (.nx (aaT L (bf,aQ)).1 (aaT L (bf,aQ)).2))
  (pd:Pend X P aw a6 s ai L us as) (c:SSt γ it r A X P a9 a6 env sc fz aw aE ai bf aQ) (a:Stp X az aG s aJ aw aE ai aQ):Ready γ it r A X P a9 a6 env sc fz K az aG s aJ xs us ai
theorem afo (k:FrK γ it r A X a9 a6 env sc) {es:List Expr}{kk:Nat}{p pos:Pos}{v:Expr}(cs:aci sc (fz.map (·.1)) es=true) (hn:acE v=true)
  (h:wpAny (model pg γ.w) A (eval v env) (λu aa=>wpAny (model pg γ.w) A (unpackItems u es.length none) (Ready γ it r A X P a9 a6 env sc fz K az aG s aJ (es.filterMap abX)) No aa) No s) :
  wpAny (model pg γ.w) A (exec (.Assign [.Tuple es kk p] v pos) env) (PostS γ it r A X P a9 a6 env sc fz K az aG s aJ) No s:=by
 have hX:=ahA cs
 have c1:=hX.1
 have c2:=hX.2.1
 have c3:=hX.2.2
 obtain ⟨o,ho,hnames⟩:=akj (env:=env) (kk:=kk) (p:=p) (v:=v) c3 hn
 have hsw:swapsWithSole [.Tuple es kk p] v pos.line env=pure false:=by
  clear hn
  cases v <;> rfl
 cases o with
 | none=>
  refine Assign_Tuple ?_ hsw ho
  refine at1 h (λu aa aq=>?_) aah
  have hX:=agP (γ:=γ) (A:=A) (env:=env) c3
  have st:=hX.1
  have e1:=hX.2.1
  have e2:=hX.2.2
  refine atY (at7 ?_)
  unfold unpack
  refine e1▸?_;refine e2▸?_
  refine atY (aud (at1 aq (λus ai ⟨V,ad,ρ,ω,L,as,hL,nd,dis,hk,pd,c,a⟩=>?_) aah))
  refine ajo k pd nd dis (by refine hL▸?_;exact st) (λp hp=>c1 _ (by refine hL▸?_;exact List.mem_map.mpr ⟨p,hp,rfl⟩)) c a λs' ad' c' a'=>⟨_,hk,V,ad',c',a'⟩
 | some names=>
  have e:=hnames names rfl
  subst e
  refine Assign_Tuple_swapped ?_ hsw ho
  refine at1 h (λu aa aq=>?_) aah
  refine (ahy c3)▸?_
  refine at1 aq (λus ai ⟨V,ad,ρ,ω,L,as,hL,nd,dis,hk,pd,c,a⟩=>?_) aah
  refine ajo k pd.rev ((List.reverse_perm as).nodup_iff.mpr nd) (λb hb=>dis b (List.mem_reverse.mp hb)) (by rw [(by rw [List.map_reverse,hL]:L.reverse.map (·.1)=(es.filterMap abX).reverse)];exact ahz) (λp hp=>c1 _ (by refine hL▸?_;exact List.mem_map.mpr ⟨p,List.mem_reverse.mp hp,rfl⟩)) c a λs' ad' c' a'=>?_
  exact ⟨_,hk,V,ad',c'.congr (λx=>by rw [ac8,ac8,List.reverse_reverse,ac9 (by rw [hL];exact c2)]) (λx=>by rw [abU,abU,List.reverse_reverse,ac9 (by rw [hL];exact c2)]),a'.congr (λx=>by rw [abU,abU,List.reverse_reverse,ac9 (by rw [hL];exact c2)])⟩
end
section
theorem RepL.scalar{h:Heap}{vs:List Value}{ts:List T}(r:RepL V h vs ts):ts.all scalar=true->RepL V' h vs ts:=
 abH (P:=λvs ts=>ts.all Mine.scalar=true->RepL V' h vs ts) (λ_=>.nil) (λr _ ih hs=>by
  rw [List.all_cons,Bool.and_eq_true] at hs
  exact .cons (r.scalar hs.1) (ih hs.2)) r
theorem akk (hand:HandOK A s.heap) {u:Value}{t:T}{l:List T}(hq:t=.tup l\/(t=.lst l/\A.handled=none)) (ru:Rep V s.heap u t) {n:Nat}(hn:n=l.length) {Q:List Value->Shared->Prop}{E:Value->Shared->Prop}
  (q:∀ vs s',vs.length=n->Ext s s'->RepL V s'.heap vs l->Q vs s'):wpAny (model pg γ.w) A (unpackItems u n none) Q E s:=by
 rcases hq with rfl | ⟨rfl,hh⟩
 . cases ru with
   | @tup a vs l va hp rs=>
   have:vs.size=n:=by rw [hn,<- rs.length];simp
   subst this
   exact aaG hand hp λh' up=>q _ _ (by simp) (Ext.of (tk:=s.toks) up) (rs.mono (λ_ h=>h) λb o _ _ e=>up b o e)
 . cases ru with
   | @lst a vs l va hp rs=>
   have:vs.size=n:=by rw [hn,<- rs.length];simp
   clear hn
   subst this
   refine kun_itemsOf hh hp.isList λh' up=>?_
   have up':∀ b o,s.heap.get? b=some o->h'.get? b=some o:=λb o e=>up b o (aum (aua e)) e
   exact q _ _ (by simp) (Ext.of (tk:=s.toks) up') (rs.mono (λ_ h=>h) λb o _ _ e=>up' b o e)
theorem asG (hs:aaz γ it r ev) (k:FrK γ it r A X a9 a6 env sc) (c:SSt γ it r A X P a9 a6 env sc fz V ad s ρ ω) {es:List Expr}{kk:Nat}{p pos:Pos}{v:Expr}
  (cs:aci sc (fz.map (·.1)) es=true) (hn:acE v=true) (h:asF it ev sc es v ρ ω K):aaZ γ it r A X P a9 a6 env sc fz K V ad s ω (.Assign [.Tuple es kk p] v pos):=by
 refine afo k cs hn ?_
 have main:∀ {Vx:aag}{u:Value}{aa:Shared}{t:T}{l:List T},Ext s aa->(t=.tup l\/(t=.lst l/\A.handled=none))->Rep Vx aa.heap u t->aix es l ρ ω K->(∀ {vs:List Value}{ai:Shared},Ext s ai->RepL Vx ai.heap vs l->RepL V ai.heap vs l)->
   wpAny (model pg γ.w) A (unpackItems u es.length none) (Ready γ it r A X P a9 a6 env sc fz K V ad s ω (es.filterMap abX)) No aa:=by
  intro Vx u aa t l x hq ru hp up
  . refine (ak2 hp).elim λL hX1=>hX1.elim λq hp=>?_
    obtain ⟨z1,z2,z3⟩:=afn q
    exact akk (c.run k x).cx.aok.hand hq ru z2 λvs ai hl an rs=>⟨V,ad,ρ,ω,L,[],z1,.nil,(λa ha=>nomatch ha),hp,ajp q (up (x.trans an) rs),(c.run k x).run k an,Stp.run (x.trans an)⟩
 unfold asF at h
 rcases br_ h with ⟨_,h⟩ | ⟨_,h⟩
 . refine aaj (hs _ _ _ _ h A _ s env c.shown) λu aa t hk x ru=>?_
   cases t <;> first | exact hk.elim | skip
   . exact main x (.inl rfl) ru (gd_ hk).2 λ_ r=>r.scalar (gd_ hk).1
   . obtain ⟨g1,g2,g3⟩:=gd2 hk
     exact main x (.inr ⟨rfl,k.aok.free (Bool.and_eq_true_iff.mp g1).1⟩) ru g3 λ_ r=>r.scalar g2
 . refine aaj (hs _ _ _ _ h A V s env c.cx) λu aa t hk x ru=>?_
   cases t <;> first | exact hk.elim | skip
   . exact main x (.inl rfl) ru hk λ_ r=>r.mono (λa h=>h.elim id (c.fr a)) λ_ _ _ _ e=>e
   . exact main x (.inr ⟨rfl,k.aok.free (gd2 hk).1⟩) ru (gd2 hk).2.2 λ_ r=>r.mono (λa h=>h.elim id (c.fr a)) λ_ _ _ _ e=>e
end
set_option backward.match.sparseCases false
section
theorem SSt.fresh (k:FrK γ it r A X a9 a6 env sc) (c:SSt γ it r A X P a9 a6 env sc fz V ad s ρ ω) {o:Obj}(hf:o.isFreed=false) :
  SSt γ it r A X P a9 a6 env sc fz (λb=>V b/\¬ b=s.heap.objs.size) ad { s with heap:=s.heap.push o } ρ ω/\¬ X s.heap.objs.size/\¬ P s.heap.objs.size/\a6.heap.get? s.heap.objs.size=none/\
   (∀ y u,ω.lookup y=some u->ad y≠s.heap.objs.size):=by
 refine ⟨c.shrink k (Ext.push (tk:=s.toks)) (λb hb=>hb▸aan) (λb hb=>hb▸⟨o,at4 _ hf⟩),λh=>?_,λh=>?_,c.ext.there _ id aan,λy u h z=>?_⟩
 . obtain ⟨o',e⟩:=aaM c.slots k.isX _ h;exact abY e rfl
 . obtain ⟨_,_,o',e⟩:=c.offP _ h;exact abY e rfl
 . obtain ⟨o',e,_⟩:=(c.own y u h).own.obj (s:=s);exact abY e z
inductive MixR (γ:Gm) (it:Bool) (r:Nat) (A:Around) (X P:aag) (a9:aag) (a6:Shared) (env:Env) (sc:aad) (fz:List (Str×Addr)) (ad:Str->Addr) (ρ ω:aab) (sst:Shared) (KK:List (Str×Bool×T)->Prop) (xs:List Str) (n:Nat) (V:aag) (s:Shared) (us:List Value) (s':Shared):Prop
 | mk (V':aag) (L:List (Str×Bool×T)) (as:List Addr) (g1:KK L) (g2:L.map (·.1)=xs) (g3:us.length=n) (g4:us.length=L.length) (g5:Pend X P V' a6 sst s' L us as) (g6:as.Nodup) (g7:∀ a∈as,s.heap.get? a=none)
  (g8:SSt γ it r A X P a9 a6 env sc fz V' ad s' ρ ω) (g9:Ext s s') (g10:∀ a,V' a->V a\/s.heap.get? a=none) (g11:∀ a,V a->(∃ o,s.heap.get? a=some o)->V' a):MixR γ it r A X P a9 a6 env sc fz ad ρ ω sst KK xs n V s us s'
theorem aqE{e:Expr}{es vs:List Expr}{KK:List (Str×Bool×T)->Prop}(h:ar6 ev sc ow ρ (e ::es) vs KK):∃ x p v us,e=.Name x p/\vs=v ::us:=by
 have hn:ah7 e=true:=by
  cases vs <;> cases e <;> first | rfl | exact (show False from h).elim
 obtain ⟨x,p,rfl⟩:=an5 hn
 cases vs with
 | nil=>exact (show False from h).elim
 | cons v us=>exact ⟨x,p,v,us,rfl,rfl⟩
theorem li_ex{v:Expr}{F:List Expr->Prop}(h:match v with
  | .List us _=>F us
  | _=>False):∃ us p,v=.List us p/\F us:=by
 cases v with
 | List us p=>exact ⟨us,p,rfl,h⟩
 | _=>exact h.elim
theorem apv (x:Ext s s') {b:Addr}(h:∃ o,s.heap.get? b=some o):∃ o,s'.heap.get? b=some o:=by
 obtain ⟨o,e⟩:=h
 cases q:s'.heap.get? b with
 | none=>exact nos ((x.there b id q).symm.trans e)
 | some o=>exact ⟨o,rfl⟩
theorem agQ (hs:aaz γ it r ev) (k:FrK γ it r A X a9 a6 env sc) {pos:Pos}:∀ {es vs:List Expr}{KK:List (Str×Bool×T)->Prop}{V:aag}{s:Shared},aae vs=true->ar6 ev sc ow ρ es vs KK->(∀ a,s.heap.get? a=none->sst.heap.get? a=none)->
  SSt γ it r A X P a9 a6 env sc fz V ad s ρ ω->
  wpAny (model pg γ.w) A (spliced (backTo pos (starEach vs env))) (MixR γ it r A X P a9 a6 env sc fz ad ρ ω sst KK (es.filterMap abX) es.length V s) No s
 | [],vs,KK,V,s,hp,h,hst,c=>by
  cases vs with
  | nil=>exact at3 ⟨V,[],[],h,rfl,rfl,rfl,.nil,.nil,(λ_ h=>nomatch h),c,ExtX.refl _,λ_ h=>.inl h,λ_ h _=>h⟩
  | cons _ _=>exact (show False from h).elim
 | e ::es,vs,KK,V,s,hp,h,hst,c=>by
  obtain ⟨x,p,v,vs,rfl,rfl⟩:=aqE h
  obtain ⟨p1,p2⟩:=aaL hp
  refine (aaF p1)▸?_
  refine Calls.spliced_cons ?_
  refine (br_ h).elim ?_ ?_
  . rintro ⟨how,h⟩
    clear hp
    clear p1
    obtain ⟨us,lp,rfl,h⟩:=li_ex h
    . obtain ⟨q1,h⟩:=gd_ h
      refine atY (at7 (atY (at1 (aaX hs q1 h c.cx) (λls a8 hq=>hq.elim λts hg ae rs=>?_) aah)))
      have hX:=aco hg
      have hK:=hX.2
      refine wpAny_newList ?_ (aaf (by refine rs.length▸?_;exact hX.1))
      have hX:=(c.run k ae).fresh k (o:={ cls:=.type "list",data:=.seq ls.toArray }) rfl
      have ah:=hX.1
      have nX:=hX.2.1
      have nP:=hX.2.2.1
      have n0:=hX.2.2.2.1
      generalize hN:a8.heap.objs.size=a at *
      generalize hs2:({ a8 with heap:=a8.heap.push { cls:=.type "list",data:=.seq ls.toArray } }:Shared)=aa at *
      have bP:Ext a8 aa:=by refine hs2▸?_;exact Ext.push (tk:=a8.toks)
      have am:Ext s aa:=ae.trans bP
      have fa:a8.heap.get? a=none:=by refine hN▸?_;exact aan
      have ea:aa.heap.get? a=some { cls:=.type "list",data:=.seq ls.toArray }:=(hs2▸hN▸at4 _ rfl)
      refine at1 (agQ hs k p2 hK (λb e=>hst b (am.there b id e)) ah) (λus' ai ⟨V',L,as,g1,g2,g3,g4,g5,g6,g7,g8,g9,g10,g11⟩=>?_) aah
      have ol:OwnT (λb=>V b/\¬ b=a) aa.heap a (.lst ts):=⟨ls.toArray,⟨_,ea⟩,by simpa using (rs.shift (s:=a8) (s':=aa) (λb hb hq=>hq.elim λo e=>⟨hb.elim id (c.fr b),λz=>by replace e:=z▸e;replace e:=fa▸e;exact nos e⟩) λb o n hb e=>bP.keepC b o n id e)⟩
      refine ⟨V',(x,true,.lst ts) ::L,a ::as,g1,by rw [List.map_cons,g2];rfl,congrArg (·+1) g3,congrArg (·+1) g4,.owned (ol.shift (s:=aa) (s':=ai) g11 (λb o n hb e=>g9.keepC b o n id e) λo n e=>g9.keepC _ o n id e) ?_ nX nP n0 (hst a (ae.there a id fa)) g5,?_,?_,g8,am.trans g9,?_,?_⟩
      . intro h
        rcases g10 a h with z | z
        . exact z.2 rfl
        . replace z:=ea▸z;exact son z
      . exact List.nodup_cons.mpr ⟨λhm=>(by replace ea:=(g7 a hm)▸ea;exact nos ea),g6⟩
      . intro b hb
        clear ah
        clear ea
        clear hN
        clear hX
        clear n0
        clear nP
        clear nX
        clear ol
        rcases List.mem_cons.mp hb with rfl | hb
        . exact ae.there b id fa
        . exact am.there b id (g7 b hb)
      . intro b hb
        rcases g10 b hb with z | z
        . exact .inl z.1
        . exact .inr (am.there b id z)
      . intro b hb ⟨o,e⟩
        exact g11 b ⟨hb,λz=>by replace e:=z▸e;replace e:=(ae.there a id fa)▸e;exact nos e⟩ (apv am ⟨o,e⟩)
  . rintro ⟨how,h⟩
    refine aaj (hs _ _ _ _ h A V s env c.cx) λu a8 t hK ae ru=>?_
    have ru':Rep V a8.heap u t:=ru.mono (λa h=>h.elim id (c.fr a)) λ_ _ _ _ e=>e
    refine at1 (agQ hs k p2 hK (λb e=>hst b (ae.there b id e)) (c.run k ae)) (λus' ai ⟨V',L,as,g1,g2,g3,g4,g5,g6,g7,g8,g9,g10,g11⟩=>?_) aah
    refine ⟨V',(x,false,t) ::L,as,g1,by rw [List.map_cons,g2];rfl,congrArg (·+1) g3,congrArg (·+1) g4,.plain (ru'.shift (s:=a8) (s':=ai) g11 λb o n hb e=>g9.keepC b o n id e) g5,g6,λb hb=>ae.there b id (g7 b hb),g8,ae.trans g9,?_,?_⟩
    . intro b hb
      rcases g10 b hb with z | z
      . exact .inl z
      . exact .inr (ae.there b id z)
    . exact λb hb h=>g11 b hb (apv ae h)
theorem asH (hs:aaz γ it r ev) (k:FrK γ it r A X a9 a6 env sc) (c:SSt γ it r A X P a9 a6 env sc fz V ad s ρ ω) {es vs:List Expr}{kk k':Nat}{p p' pos:Pos}
  (cs:aci sc (fz.map (·.1)) es=true) (hn:acE (.Tuple vs k' p')=true) (hp:aae vs=true) (h:ar6 ev sc ow ρ es vs λl=>szl l.length (K (.nx (aaT l (ρ,ω)).1 (aaT l (ρ,ω)).2))) :
  aaZ γ it r A X P a9 a6 env sc fz K V ad s ω (.Assign [.Tuple es kk p] (.Tuple vs k' p') pos):=by
 refine afo k cs hn ?_
 refine atY (at7 (atY (at1 (agQ hs k hp h (λ_ e=>e) c) (λus a8 ⟨V',L,as,g1,g2,g3,g4,g5,g6,g7,g8,g9,g10,g11⟩=>?_) aah)))
 refine wpAny_newTuple ?_ (aaf (by refine g4▸?_;exact (aco g1).1))
 have am:Ext a8 { a8 with heap:=a8.heap.push { cls:=.type "tuple",data:=.seq us.toArray } }:=Ext.push (tk:=a8.toks)
 refine (by exact g3.symm:es.length=us.toArray.size)▸?_
 refine aaG (g8.run k am).cx.aok.hand (t:=a8.heap.objs.size) ⟨_,at4 _ rfl,rfl,_,rfl⟩ λh' up=>?_
 have an:Ext { a8 with heap:=a8.heap.push { cls:=.type "tuple",data:=.seq us.toArray } } { a8 with heap:=h' }:=Ext.of (tk:=a8.toks) up
 have x13:Ext a8 { a8 with heap:=h' }:=am.trans an
 have x03:Ext s { a8 with heap:=h' }:=g9.trans x13
 refine ⟨V',ad,ρ,ω,L,as,g2,g6,λa ha y t hy z=>?_,(aco g1).2,?_,((g8.run k am).run k an),⟨x03.toX,λb e=>x03.there b id e,g10,g11,λy t h=>.inl ⟨y,t,h,rfl⟩⟩⟩
 . obtain ⟨o,e,_⟩:=(c.own y t hy).own.obj (s:=s)
   replace e:=z▸e;replace e:=(g7 a ha)▸e;exact nos e
 . have mv:∀ {L us as},Pend X P V' a6 s a8 L us as->Pend X P V' a6 s { a8 with heap:=h' } L us as:=by
    intro L us as p
    induction p with
    | nil=>exact .nil
    | plain r _ ih=>exact .plain (r.ext x13) ih
    | owned o h1 h2 h3 h4 h5 _ ih=>exact .owned (o.shift (λ_ h _=>h) (λb o n hb e=>x13.keepC b o n id e) λo n e=>x13.keepC _ o n id e) h1 h2 h3 h4 h5 ih
   exact mv g5
end
set_option backward.match.sparseCases true
section
theorem aaQ{l:Addr}{items:Array Value}{h:Heap}(hp:h.PlainList l items) (f:Array Value->Array Value):(h.update l (Obj.mapSeq f)).PlainList l (f items):=by
 refine (hp).elim λn e=>?_
 have:∃ n',Obj.mapSeq f { cls:=.type "list",data:=.seq items n }={ cls:=.type "list",data:=.seq (f items) n' }:=by
  exact ⟨_,rfl⟩
 refine (this).elim λn' e'=>?_
 exact ⟨n',by rw [Heap.get?_update_self _ e (by rw [e'];rfl),e']⟩
theorem an6{l:Addr}{items:Array Value}{y:Value}{Q:Value->Shared->Prop}(hp:s.heap.PlainList l (items.push y)) (hz:items.size<10000)
  (q:∀ h',h'.PlainList l items->Heap.SameBut l s.heap h'->Q y { s with heap:=h' }):wpAny (model pg γ.w) A (call (.builtin "list.pop") [.ref l]) Q E s:=by
 refine (id hp).elim λn e=>?_
 refine call_meets PySem.F.slot_list_pop ⟨_,e,rfl⟩ PySem.F.entry_list_pop (PySem.F.args_list_pop_1 _) (PySem.MeetsSeq.list_pop_last l _ n y (last_push items y) (aaf (by rw [Array.size_push];lia))) ⟨e,?_⟩
 have:=aaQ hp λxs=>xs.eraseIdxIfInBounds ((items.push y).size-1)
 refine q _ ?_ (auB ..)
 have e2:(items.push y).eraseIdxIfInBounds ((items.push y).size-1)=items:=by
  rw [(by simp:(items.push y).size-1=items.toList.length),(by apply Array.toList_inj.mp;simp:items.push y=(items.toList++y ::[]).toArray),kl_erase,List.append_nil]
 rw [e2] at this
 exact this
theorem aiA{l b:Addr}{xs ys:Array Value}{Q:Value->Shared->Prop}(h1:s.heap.PlainList l xs) (h2:s.heap.PlainList b ys) (hz:xs.size+ys.size<=10000)
  (q:∀ h',h'.PlainList l (xs++ys)->Heap.SameBut l s.heap h'->Q .none { s with heap:=h' }):wpAny (model pg γ.w) A (call (.builtin "list.extend") [.ref l,.ref b]) Q E s:=by
 refine (id h1).elim λn e=>?_
 obtain ⟨n2,e2⟩:=id h2
 refine call_meets PySem.F.slot_list_extend ⟨_,e,rfl⟩ PySem.F.entry_list_extend (PySem.F.args_list_extend_2 _ _) (PySem.AutoSeq1.list_extend_list_list_0 l xs n b ys n2 (extend_door (aaf hz)) (aaf (Nat.le_of_add_right_le hz)) (Nat.le_succ_of_le (aaf hz))) ⟨e,e2,?_⟩
 exact q _ (aaQ h1 λx=>x++ys) (auB ..)
theorem an7{l:Addr}{xs:Array Value}{k:Int}{t:Tok}{v:Value}{j:Nat}{Q:Unit->Shared->Prop}(h1:s.heap.PlainList l xs) (hk:-(2^63)<=k/\k<2^63) (hj:seqIndex? k xs.size=some j)
  (q:∀ h',h'.PlainList l (xs.setIfInBounds j v)->Heap.SameBut l s.heap h'->Q () { s with heap:=h' }):wpAny (model pg γ.w) A (setItem (.ref l) (.int k t) v) Q E s:=by
 refine (id h1).elim λn e=>?_
 by_cases h0:0<=k
 . have hj':=acO h0 hj
   subst hj'
   refine ki_setAt e h0 hk.2 ?_ (q _ (aaQ h1 _) (auB ..))
   unfold seqIndex? at hj
   simp only [show ¬ k<0 by lia,if_false] at hj
   split at hj
   . rename_i hc;simp only [Bool.and_eq_true,decide_eq_true_eq] at hc;exact hc.2
   . exact nos hj
 . obtain ⟨hlo,hj'⟩:=kde_place (by lia) hj
   refine ki_setBack e (by lia) hlo hk.1 ?_
   refine hj'▸?_
   exact q _ (aaQ h1 _) (auB ..)
end
section
theorem alM{l b:Addr}{xs ys:Array Value}{Q:Value->Shared->Prop}(h1:s.heap.PlainList l xs) (h2:s.heap.PlainList b ys) (hz:xs.size+ys.size<=10000)
  (q:∀ h',h'.PlainList l (xs++ys)->Heap.SameBut l s.heap h'->Q (.ref l) { s with heap:=h' }):wpAny (model pg γ.w) A (inplaceOp .Add (.ref l) (.ref b)) Q E s:=by
 refine (id h1).elim λn e=>?_
 obtain ⟨n2,e2⟩:=id h2
 refine aud ?_
 have hfi:fillsInplaceSlot (.type "list") "add" (Operator.Add==.Add)=pure false:=by
  show (typeLookup (.type "list") (dunderI "add") >>= λfi=>pure (fi.isSome&&!isSeqSlot fi))=pure false
  refine PySem.F.slot_list_iadd.lookup▸?_
  have q:isSeqSlot (some (.builtin "list.__iadd__"))=true:=by decide +kernel
  rw [pure_bind,q];rfl
 have hb:s.TypeIs (.ref b) "list":=⟨_,e2,rfl⟩
 refine atY (wpAny_typeOf (⟨_,e,rfl⟩) (atY (wpAny_of_eq hfi ?_)))
 refine atY (wpAny_binaryOp1_none (nm:="add") (⟨_,e,rfl⟩) hb noFill_list_add ?_)
 refine atY (wpAny_of_eq (PySem.seqSlot_of PySem.F.slot_list_iadd.lookup (by decide +kernel)) ?_)
 refine atY (wpAny_rule ?_)
 refine call_meets PySem.F.slot_list_iadd ⟨_,e,rfl⟩ PySem.F.entry_list_iadd (PySem.F.args_list_iadd_2 _ _) (PySem.AutoSeq1.list___iadd___list_list_0 l xs n b ys n2 (extend_door (aaf hz)) (aaf (Nat.le_of_add_right_le hz)) (Nat.le_succ_of_le (aaf hz))) ⟨e,e2,?_⟩
 exact q _ (aaQ h1 λx=>x++ys) (auB ..)
end
section
theorem Stp.thenO (a:Stp X az aG sst aJ V ad s ω) (e:ExtX X s s') (lv:∀ b,s'.heap.get? b=none->s.heap.get? b=none) {x:Str}{a':Addr}{t:T}(h5:sst.heap.get? a'=none) :
  Stp X az aG sst aJ V (λy=>if y=x then a' else ad y) s' ((x,t) ::er x ω):=by
 have ab:=a.trans (Stp.put (y:=x) e lv)
 refine ⟨ab.x,ab.lv,ab.dn,ab.up,λy u hy=>?_⟩
 rw [lookup_cons] at hy
 by_cases h:y=x
 . simp only [h,if_true];exact .inr h5
 . rw [if_neg (by simpa using h)] at hy
   simp only [h,if_false]
   exact ab.ow y u hy
theorem Stp.shrink (e:Ext s s') (hN:∀ b,N b->s.heap.get? b=none):Stp X V ad s ω (λb=>V b/\¬ N b) ad s' ω:=
 ⟨e.toX,λb h=>e.there b id h,λ_ h=>.inl h.1,λb h hZ1=>hZ1.elim λo z=>⟨h,λhn=>by replace z:=(hN b hn)▸z;exact nos z⟩,λy t h=>.inl ⟨y,t,h,rfl⟩⟩
theorem apw{x y:Str}{t:T}(h:(er x ω).lookup y=some t):ω.lookup y=some t:=by
 replace h:=aak▸h
 split at h
 . exact nos h
 . exact h
theorem aqF (hs:aaz γ it r ev) (k:FrK γ it r A X a9 a6 env sc) (c:SSt γ it r A X P a9 a6 env sc fz V ad s ρ ω) {x:Str}{p lp pos:Pos}{es:List Expr}
  (h:acG ev sc ow (fz.map (·.1)) x (.List es lp) ρ ω K):aaZ γ it r A X P a9 a6 env sc fz K V ad s ω (.Assign [.Name x p] (.List es lp) pos):=by
 have hX:=gd2 h
 have hx:=hX.1
 have hp:=hX.2.1
 have h:=hX.2.2
 have hX:=adi hx
 have o1:=hX.1
 have o2:=hX.2
 refine wpAny_Assign_Name ?_ rfl
 refine atY (at7 (atY (at1 (aaX hs hp h c.cx) (λls a8 hq=>hq.elim λts hg ae rs=>?_) aah)))
 have hX:=aco hg
 have hK:=hX.2
 have al:=c.run k ae
 refine wpAny_newList ?_ (aaf (by refine rs.length▸?_;exact hX.1))
 refine (br_ hK).elim ?_ ?_
 . rintro ⟨_,hK⟩
   have hX:=al.fresh k (o:={ cls:=.type "list",data:=.seq ls.toArray }) rfl
   have b8:RepL (λb=>V b/\¬ b=a8.heap.objs.size) (a8.heap.push { cls:=.type "list",data:=.seq ls.toArray }) ls ts:=
    rs.shift (s:=a8) (s':={ a8 with heap:=a8.heap.push { cls:=.type "list",data:=.seq ls.toArray } }) (λb hb hZ9=>hZ9.elim λo e=>⟨hb.elim id (c.fr b),λz=>abY e z⟩) λb o n hb e=>atZ _ e
   refine hX.1.putO k o1 o2 (t:=.lst ts) ⟨ls.toArray,⟨_,at4 _ rfl⟩,b8⟩ (λz=>z.2 rfl) hX.2.1 hX.2.2.1 hX.2.2.2.1 (λy u hy=>hX.2.2.2.2 y u (apw hy)) λai aj aL lv=>⟨_,hK,_,_,aj,Stp.thenO ((Stp.run ae).trans (Stp.shrink (N:=(·=a8.heap.objs.size)) (Ext.push (tk:=a8.toks)) λb hb=>(show b=_ from hb)▸aan)) aL lv (ae.there _ id aan)⟩
 . rintro ⟨_,hK⟩
   have am:Ext a8 { a8 with heap:=a8.heap.push { cls:=.type "list",data:=.seq ls.toArray } }:=Ext.push (tk:=a8.toks)
   have b8:RepL V (a8.heap.push { cls:=.type "list",data:=.seq ls.toArray }) ls ts:=
    rs.shift (s:=a8) (s':={ a8 with heap:=a8.heap.push { cls:=.type "list",data:=.seq ls.toArray } }) (λb hb _=>hb.elim id (c.fr b)) λb o n hb e=>atZ _ e
   exact (al.run k am).put k o1 o2 (t:=.lst ts) (.lst (al.fr _ aan) ⟨_,at4 _ rfl⟩ b8) λai aj aL lv=>⟨_,hK,V,ad,aj,(Stp.run (ae.trans am)).trans (Stp.put aL lv)⟩
theorem aqG (wd:Wd γ s.heap):(35:Nat)<s.heap.objs.size:=by
 obtain ⟨oc,fd,_,_,_,_,kl,_⟩:=wd.st.cmp
 exact aua (wd.k _ _ kl)
theorem aqH (k:FrK γ it r A X a9 a6 env sc) (c:SSt γ it r A X P a9 a6 env sc fz V ad s ρ ω) {x:Str}{p lp pos:Pos}
  (hx:abi sc (fz.map (·.1)) x=true) (hK:K (.nx (er x ρ) ((x,.dct []) ::er x ω))):aaZ γ it r A X P a9 a6 env sc fz K V ad s ω (.Assign [.Name x p] (.Dict [] [] lp) pos):=by
 refine (adi hx).elim λo1 o2=>?_
 refine wpAny_Assign_Name ?_ rfl
 refine atY (at7 ?_)
 show wpAny _ _ newDict _ _ _
 refine auD ?_
 refine (c.fresh k (o:={ cls:=.type "dict",data:=.dict #[] }) rfl).elim λah hX1=>hX1.elim λnX hX2=>hX2.elim λnP hX3=>hX3.elim λn0 dU=>?_
 have hsys:(s.heap.objs.size==sysModules)=false:=by
  have l1:=aqG c.cx.wd
  rw [beq_eq_false_iff_ne,ne_eq]
  intro z
  rw [z] at l1
  exact absurd l1 (by decide)
 refine ah.putO k o1 o2 (t:=.dct []) ⟨hsys,_,[],at4 _ rfl,⟨#[],0,⟨rfl,rfl,rfl⟩,rfl,by intro e he;simp at he,.nil,by decide⟩,.nil⟩ (λz=>z.2 rfl) nX nP n0 (λy u hy=>dU y u (apw hy)) λai aj aL lv=>⟨_,hK,_,_,aj,Stp.thenO (Stp.shrink (N:=(·=s.heap.objs.size)) (Ext.push (tk:=s.toks)) λb hb=>(show b=_ from hb)▸aan) aL lv aan⟩
end
set_option backward.match.sparseCases false
section
theorem akl{x:Str}(h:anx x=true):(x==("__debug__":Str))=false/\(x==("__classdict__":Str))=false:=by
 unfold anx at h
 simp only [Bool.and_eq_true,Bool.not_eq_true'] at h
 exact h
theorem asI{t:T}{F:List T->Prop}(h:match t with
  | .lst k=>F k
  | _=>False):∃ k,t=.lst k/\F k:=by
 cases t with
 | lst k=>exact ⟨k,rfl,h⟩
 | _=>exact h.elim
theorem apx{o:Option T}{F:List T->Prop}(h:match o with
  | some (.lst l)=>F l
  | _=>False):∃ l,o=some (.lst l)/\F l:=by
 cases o with
 | none=>exact h.elim
 | some t=>cases t with
  | lst l=>exact ⟨l,rfl,h⟩
  | _=>exact h.elim
theorem RepL.snoc_inv{h:Heap}:∀ {l:List T}{vs:List Value}{t:T},RepL V h vs (l++[t])->∃ us v,vs=us++[v]/\RepL V h us l/\Rep V h v t:=by
 intro l
 induction l with
 | nil=>
  intro vs t h
  cases h with
  | cons r rs=>cases rs with
   | nil=>exact ⟨[],_,rfl,.nil,r⟩
 | cons a l ih=>
  intro vs t h
  cases h with
  | cons r rs=>
   refine (ih rs).elim λus hX1=>hX1.elim λv hX2=>hX2.elim λe hX3=>hX3.elim λh1 h2=>?_
   exact ⟨_ ::us,v,by rw [e];rfl,.cons r h1,h2⟩
theorem aeV (c:SSt γ it r A X P a9 a6 env sc fz V ad s ρ ω) {x m:Str}{id:String}{xp ap p:Pos}{args:List Expr}{l:List T}{Q:Value->Shared->Prop}{E:Value->Shared->Prop}(hx:ω.lookup x=some (.lst l)) (hn:anx x=true) (he:(ap.endLine==p.line)=true)
  (hp:aae args=true) (hl:args.length<20) (slot:Slot "list" m id) (ty:typeOf (.builtin id)=pure (.type "method_descriptor"))
  (h:wpAny (model pg γ.w) A (spliced (backTo p (starEach args env))) (λvs a8=>Ext s a8/\wpAny (model pg γ.w) A (call (.builtin id) (.ref (ad x) ::vs)) Q E a8) E s) :
  wpAny (model pg γ.w) A (eval (.Call (.Attribute (.Name x xp) m ap) args [] p) env) Q E s:=by
 refine (akl hn).elim λh1 h2=>?_
 refine ag λG kG=>?_
 obtain ⟨g1,g2,g3,g4,g5,vs,hpl,rs⟩:=c.own x _ hx
 refine kG ?_
 show wpAny _ _ (attributeBase (.Name x xp) m env (eval (.Name x xp) env) >>= λov=>(standAt ap.atName >>= λ_=>methodCall (.Name x xp) m ap p env ov (args.length+0) (backTo p (starEach args env)) [])) _ _ _
 rw [acf (o:=.Name x xp) rfl,eval_Name _ _ _ h1]
 refine atY (atY (at7 (aaA c.slots.kind g1 h2 ?_)))
 refine atY (at7 ?_)
 have form:methodCallForm (args.length+0) (backTo p (starEach args env)) []=true:=by
  unfold methodCallForm
  refine (aji hp).symm▸?_
  dsimp only [List.all_nil,Bool.and_self,Bool.true_and,List.isEmpty_nil,if_true,Nat.add_zero,decide_eq_true_eq]
  exact decide_eq_true (p:=_<30) (at5 hl (by decide))
 show wpAny _ _ (holding [.ref (ad x)] (calleeOf (methodCallForm (args.length+0) (backTo p (starEach args env)) []) (.Name x xp) env (.ref (ad x)) m) >>= λfs=>(methodCallPos (methodCallForm (args.length+0) (backTo p (starEach args env)) []) (.Name x xp) env ap p >>= λcp=>callWith cp fs.1 fs.2 (backTo p (starEach args env)) [])) _ _ _
 refine form▸?_
 refine atY (aud (getMethod_list_of slot ty hpl.isList ((hpl).elim λ_ e=>⟨_,e,rfl⟩) ?_))
 refine (by dsimp only [methodCallPos];refine he.symm▸?_;rfl:methodCallPos true (.Name x xp) env ap p=pure p)▸?_
 refine atY (at3 ?_)
 exact aln aaY c.cx.wd hp h
theorem ada (c:SSt γ it r A X P a9 a6 env sc fz V ad s ρ ω) {x:Str}{l:List T}(hx:ω.lookup x=some (.lst l)):∃ vs,s.heap.PlainList (ad x) vs/\RepL V s.heap vs.toList l/\vs.size=l.length/\¬ V (ad x):=by
 refine ag λG kG=>?_
 obtain ⟨g1,g2,g3,g4,g5,vs,hpl,rs⟩:=c.own x _ hx
 refine kG ?_
 exact ⟨vs,hpl,rs,aac rs,g2⟩
theorem abV (k:FrK γ it r A X a9 a6 env sc) (c:SSt γ it r A X P a9 a6 env sc fz V ad s ρ ω) {x:Str}{l l':List T}{vs vs':Array Value}{h':Heap}(hx:ω.lookup x=some (.lst l)) (hpl:s.heap.PlainList (ad x) vs) (hpl':h'.PlainList (ad x) vs') (hs:Heap.SameBut (ad x) s.heap h')
  (rs:RepL V h' vs'.toList l'):SSt γ it r A X P a9 a6 env sc fz V ad { s with heap:=h' } ρ ((x,.lst l') ::er x ω)/\Stp X V ad s ω V ad { s with heap:=h' } ((x,.lst l') ::er x ω):=by
 refine (hpl).elim λn e=>?_
 have x':ExtX (·=ad x) s { s with heap:=h' }:=ExtX.but2 (tk:=s.toks) e (λ_ z=>by cases z) rfl λb o hb e=>hs.extBut b o hb e
 refine (c.mut k (t':=.lst l') hx x' ⟨vs',hpl',rs⟩).elim λc' lv=>?_
 exact ⟨c',Stp.mut hx x' lv⟩
theorem aba (c:SSt γ it r A X P a9 a6 env sc fz V ad s ρ ω) {x:Str}{l:List T}{h':Heap}(hx:ω.lookup x=some (.lst l)) (hs:Heap.SameBut (ad x) s.heap h'):∀ b o,o.cls≠.none->V b->s.heap.get? b=some o->h'.get? b=some o:=
 λb o _ hb e=>hs.extBut b o (λz=>(c.own x _ hx).nV (z▸hb)) e
theorem ahB (hs:aaz γ it r ev) (k:FrK γ it r A X a9 a6 env sc) (c:SSt γ it r A X P a9 a6 env sc fz V ad s ρ ω) {x m:Str}{xp ap p pos:Pos}{a:Expr}
  (h:aqz ev sc x m a ap p ρ ω K):aaZ γ it r A X P a9 a6 env sc fz K V ad s ω (.Expr (.Call (.Attribute (.Name x xp) m ap) [a] [] p) pos):=by
 replace h:=gd2 h
 obtain ⟨he,hp,h⟩:=h
 have hX:=Bool.and_eq_true_iff.mp hp
 have hp:=hX.1
 have hn:=hX.2
 have hi:interactive env=false:=by unfold interactive;refine c.slots.kind▸?_;rfl
 refine wpAny_Expr_any ?_ hi rfl
 replace h:=apx h
 obtain ⟨l,q,h⟩:=h
 replace h:=br_ h
 rcases h with ⟨hm,h⟩ | ⟨_,h⟩
 . cases eq_of_beq hm
   refine aeV c q hn he (acD hp) (Nat.lt_of_sub_ne_zero (n:=20) (m:=1) nofun) PySem.F.slot_list_append PySem.F.type_list_append (acR hp (acS hs k c h λv a8 t hg ae rv=>⟨ae,?_⟩))
   refine (aco hg).elim λhl hK=>?_
   have al:=c.run k ae
   refine ag λG kG=>?_
   obtain ⟨vs,hpl,rs,hz,nV⟩:=ada al q
   refine kG ?_
   refine wpAny_list_append_plain (hsz:=aaf (hz▸aun hl)) hpl λh' hpl' hs'=>?_
   obtain ⟨ah,st⟩:=abV k al (l':=l++[t]) q hpl hpl' hs' (by
    refine Array.toList_push.symm▸?_
    exact RepL.append (rs.mono (λ_ h=>h) (aba al q hs')) (.cons (rv.mono (λ_ h=>h) (aba al q hs')) .nil))
   exact ⟨_,hK,V,ad,ah,(Stp.run ae).trans st⟩
 . replace h:=gd2 h
   obtain ⟨hm,_,h⟩:=h
   cases eq_of_beq hm
   refine aeV c q hn he (acD hp) (Nat.lt_of_sub_ne_zero (n:=20) (m:=1) nofun) PySem.F.slot_list_extend PySem.F.type_list_extend (acR hp (aaj (hs _ _ _ _ h A V s env c.cx) λv a8 t hK ae rv=>⟨ae,?_⟩))
   have al:=c.run k ae
   refine ag λG kG=>?_
   obtain ⟨vs,hpl,rs,hz,nV⟩:=ada al q
   replace hK:=asI hK
   obtain ⟨ts,rfl,hK⟩:=hK
   obtain ⟨hl,hK⟩:=aco hK
   obtain ⟨b,ws,rfl,hb,rb⟩:=ak5 (rv.mono (V':=V) (λa h=>h.elim id (c.fr a)) λ_ _ _ _ e=>e)
   refine kG ?_
   have hz2:ws.size=ts.length:=aac rb
   refine aiA hpl hb (hz▸hz2▸hl) λh' hpl' hs'=>?_
   obtain ⟨ah,st⟩:=abV k al (l':=l++ts) q hpl hpl' hs' (by
    refine Array.toList_append.symm▸?_
    exact RepL.append (rs.mono (λ_ h=>h) (aba al q hs')) (rb.mono (λ_ h=>h) (aba al q hs')))
   exact ⟨_,hK,V,ad,ah,(Stp.run ae).trans st⟩
theorem asJ (k:FrK γ it r A X a9 a6 env sc) (c:SSt γ it r A X P a9 a6 env sc fz V ad s ρ ω) {x y m:Str}{xp yp ap p pos:Pos}
  (hm:(m==("pop":Str))=true) (h:aps sc (fz.map (·.1)) x y ap p ρ ω K):aaZ γ it r A X P a9 a6 env sc fz K V ad s ω (.Assign [.Name x xp] (.Call (.Attribute (.Name y yp) m ap) [] [] p) pos):=by
 replace h:=gd2 h
 obtain ⟨hx,h0,h⟩:=h
 have hX:=adi hx
 have o1:=hX.1
 have o2:=hX.2
 cases eq_of_beq hm
 obtain ⟨h0,hn⟩:=Bool.and_eq_true_iff.mp h0
 have hX:=Bool.and_eq_true_iff.mp h0
 have hne:=hX.1
 have he:=hX.2
 refine wpAny_Assign_Name ?_ rfl
 replace h:=apx h
 refine (h).elim λl hZ93=>hZ93.elim λq h=>?_
 replace h:=aco h
 refine (h).elim λhlen h=>?_
 cases hr:l.reverse with
 | nil=>rw [hr] at h;exact h.elim
 | cons t l'=>
  rw [hr] at h
  have hl:l=l'.reverse++[t]:=by rw [<- List.reverse_reverse l,hr,List.reverse_cons]
  refine aeV c q hn he rfl ((auh _)) PySem.F.slot_list_pop PySem.F.type_list_pop (at3 ⟨ExtX.refl s,?_⟩)
  refine (ada c q).elim λvs hX1=>hX1.elim λhpl hX2=>hX2.elim λrs hX3=>hX3.elim λhz nV=>?_
  rw [hl] at rs
  refine (rs.snoc_inv).elim λus hX1=>hX1.elim λv hX2=>hX2.elim λe hX3=>hX3.elim λr1 r2=>?_
  replace hpl:=(by apply Array.toList_inj.mp;rw [e];simp:vs=us.toArray.push v)▸hpl
  have hbig:us.toArray.size<10000:=by
   have:=r1.length
   rw [hl,List.length_append] at hlen
   exact lt_of_eq_of_lt this hlen
  refine an6 hpl hbig λh' hpl' hs'=>?_
  obtain ⟨ah,st⟩:=abV k c (l':=l'.reverse) q hpl hpl' hs' (r1.mono (λ_ h=>h) (aba c q hs'))
  exact ah.put k o1 o2 (r2.mono (λ_ h=>h) (aba c q hs')) λai aj aL lv=>⟨_,h,V,ad,aj,st.trans (Stp.put aL lv)⟩
end
section
theorem RepL.set{h:Heap}{v:Value}{t:T}(rv:Rep V h v t):∀ {vs:List Value}{l:List T}{j:Nat},RepL V h vs l->RepL V h (vs.set j v) (l.set j t)
 | _,_,_,.nil=>.nil
 | _,_,0,.cons r rs=>.cons rv rs
 | _,_,j+1,.cons r rs=>.cons r (rs.set rv)
theorem aiB (k:FrK γ it r A X a9 a6 env sc) (c:SSt γ it r A X P a9 a6 env sc fz V ad s ρ ω) {x:Str}{l:List (Int×T)}{kk:Int}{tk:Tok}{u:Value}{t:T}(q:ω.lookup x=some (.dct l)) (hl:l.length+1<=10000) (ru:Rep V s.heap u t) {Q:Unit->Shared->Prop}{E:Value->Shared->Prop}
  (hQ:∀ s',SSt γ it r A X P a9 a6 env sc fz V ad s' ρ ((x,.dct (abr l (kk,t))) ::er x ω)->Stp X V ad s ω V ad s' ((x,.dct (abr l (kk,t))) ::er x ω)->Q () s'):wpAny (model pg γ.w) A (setItem (.ref (ad x)) (.int kk tk) u) Q E s:=by
 refine ag λG kG=>?_
 obtain ⟨g1,g2,g3,g4,g5,hsys,o,kvs,e,hd,rs⟩:=c.own x _ q
 refine kG ?_
 replace hd:=aaE (p':=pg) (w':=γ.w) hd
 refine wpAny_setItem_pairs (knd:=intKind pg γ.w) (k:=kk) (hsz:=aaf (by refine rs.length▸?_;exact aun hl)) (intKind_is _ _ kk tk) ((hd).elim λes hX1=>hX1.elim λep hx=>⟨_,es,ep,e,hx⟩) λh' hp' hs'=>?_
 refine ag λG kG=>?_
 refine (id hp').elim λo' hZ22=>hZ22.elim λes' hZ23=>hZ23.elim λep' hZ24=>hZ24.elim λe' hx'=>?_
 have x':ExtX (·=ad x) s { s with heap:=h',toks:=s.toks+1 }:=ExtX.but2 e (λvs z=>by obtain ⟨es,ep,hx⟩:=hd;replace z:=hx.2.1▸z;cases z) rfl λb o hb e=>hs'.extBut b o hb e
 have kp:∀ b o,o.cls≠.none->V b->s.heap.get? b=some o->h'.get? b=some o:=λb o _ hb e=>hs'.extBut b o (λz=>g2 (z▸hb)) e
 have own':OwnT V h' (ad x) (.dct (abr l (kk,t))):=⟨hsys,o',_,e',aaE (p:=pg) (w:=γ.w) ⟨es',ep',hx'⟩,RepD.stored (ru.mono (λ_ h=>h) kp) (rs.mono (λ_ h=>h) kp)⟩
 obtain ⟨aj,lv⟩:=c.mut k q x' own'
 refine kG ?_
 exact hQ _ aj (Stp.mut q x' lv)
theorem asK (hs:aaz γ it r ev) (k:FrK γ it r A X a9 a6 env sc) (c:SSt γ it r A X P a9 a6 env sc fz V ad s ρ ω) {x:Str}{xp sp pos:Pos}{i v:Expr}
  (h:alJ ev sc x i v ρ ω K):aaZ γ it r A X P a9 a6 env sc fz K V ad s ω (.Assign [.Subscript (.Name x xp) i sp] v pos):=by
 replace h:=gd2 h
 have h0:=h.1
 have hv:=h.2.1
 have h:=h.2.2
 have h1:=(akl h0).1
 have h2:=(akl h0).2
 refine wpAny_Assign_Subscript ?_ (acH hv)
 cases q:ω.lookup x with
 | none=>replace h:=q▸h;exact h.elim
 | some cf=>
  rw [q] at h
  cases cf <;> first | exact h.elim | skip
  case lst l=>
   dsimp only at h
   refine acS hs k c h λu a8 t hK ae ru=>?_
   have al:=c.run k ae
   rw [eval_Name _ _ _ h1]
   refine atY (at7 (aaA al.slots.kind (al.own x _ q).see h2 ?_))
   refine aaj (hs _ _ _ _ hK A _ a8 env al.shown) λkv aa kt hK am rk=>?_
   cases kt <;> first | exact hK.elim | skip
   rename_i kk
   refine ag λG kG=>?_
   obtain ⟨hix,hK⟩:=gd_ hK
   obtain ⟨l',hj,hK⟩:=ak2 hK
   obtain ⟨tk,rfl⟩:=aa8 rk
   have ah:=al.run k am
   refine (ada ah q).elim λvs hZ28=>hZ28.elim λhpl hZ29=>hZ29.elim λrs hZ30=>hZ30.elim λhz nV=>?_
   obtain ⟨j,hj2,rfl⟩:=Option.map_eq_some_iff.mp (show (seqIndex? kk l.length).map _=some l' from hj)
   refine kG ?_
   refine an7 hpl (ast hix) (hz▸hj2) λh' hpl' hs'=>?_
   have kp:=aba ah q hs'
   obtain ⟨aj,st⟩:=abV k ah (l':=l.set j t) q hpl hpl' hs' (by
    refine Array.toList_setIfInBounds.symm▸?_
    exact RepL.set ((ru.ext am).mono (λ_ h=>h) kp) (rs.mono (λ_ h=>h) kp))
   exact ⟨_,hK,V,ad,aj,(Stp.run (ae.trans am)).trans st⟩
  case dct l=>
   dsimp only at h
   refine acS hs k c h λu a8 t hK ae ru=>?_
   have al:=c.run k ae
   rw [eval_Name _ _ _ h1]
   refine atY (at7 (aaA al.slots.kind (al.own x _ q).see h2 ?_))
   refine aaj (hs _ _ _ _ hK A _ a8 env al.shown) λkv aa kt hK am rk=>?_
   cases kt <;> first | exact hK.elim | skip
   rename_i kk
   refine ag λG kG=>?_
   obtain ⟨hl,hK⟩:=aco hK
   obtain ⟨tk,rfl⟩:=aa8 rk
   have ah:=al.run k am
   refine kG ?_
   exact aiB k ah q hl (ru.ext am) λai aj st=>⟨_,hK,V,ad,aj,(Stp.run (ae.trans am)).trans st⟩
theorem asL (hs:aaz γ it r ev) (k:FrK γ it r A X a9 a6 env sc) (c:SSt γ it r A X P a9 a6 env sc fz V ad s ρ ω) {x:Str}{xp pos:Pos}{v:Expr}
  (h:augF ev sc (fz.map (·.1)) x v ρ ω K):aaZ γ it r A X P a9 a6 env sc fz K V ad s ω (.AugAssign (.Name x xp) .Add v pos):=by
 replace h:=gd2 h
 refine ag λG kG=>?_
 obtain ⟨h0,_,h⟩:=h
 have hX:=Bool.and_eq_true_iff.mp h0
 have h1:=hX.2
 obtain ⟨h1,h2⟩:=akl h1
 obtain ⟨o1,o2⟩:=adi hX.1
 refine kG ?_
 cases q:ω.lookup x with
 | none=>replace h:=q▸h;exact h.elim
 | some cf=>
  rw [q] at h
  cases cf <;> first | exact h.elim | skip
  case lst l=>
   dsimp only at h
   refine wpAny_AugAssign_Name (aaA c.slots.kind (c.own x _ q).see h2 ?_)
   refine aaj (hs _ _ _ _ h A V s env c.cx) λu a8 t hK ae ru=>?_
   cases t <;> first | exact hK.elim | skip
   rename_i ts
   refine ag λG kG=>?_
   obtain ⟨hl,hK⟩:=aco hK
   have al:=c.run k ae
   obtain ⟨vs,hpl,rs,hz,nV⟩:=ada al q
   obtain ⟨b,ws,rfl,hb,rb⟩:=ak5 (ru.mono (V':=V) (λa h=>h.elim id (c.fr a)) λ_ _ _ _ e=>e)
   refine kG ?_
   have hz2:ws.size=ts.length:=aac rb
   refine alM hpl hb (hz▸hz2▸hl) λh' hpl' hs'=>?_
   obtain ⟨ah,st⟩:=abV k al (l':=l++ts) q hpl hpl' hs' (by
    refine Array.toList_append.symm▸?_
    exact RepL.append (rs.mono (λ_ h=>h) (aba al q hs')) (rb.mono (λ_ h=>h) (aba al q hs')))
   have cX:((x,T.lst (l++ts)) ::er x ω).lookup x=some (.lst (l++ts)):=by rw [lookup_cons,if_pos (by simp)]
   obtain ⟨g1,g2,g3,g4,g5,g6⟩:=ah.own x _ cX
   refine ah.putO k o1 o2 g6 g2 g3 g4 g5 (λy w' hy z=>?_) λai aj aL lv=>?_
   . replace hy:=aak▸hy
     split at hy
     . exact nos hy
     . rename_i hne
       exact hne (ah.apart y x w' _ hy cX z)
   . have ad_eq:(λy=>if y=x then ad x else ad y)=ad:=by funext y;split <;> simp_all
     rw [ad_eq] at aj
     have lk:∀ y,((x,T.lst (l++ts)) ::er x ω).lookup y=((x,T.lst (l++ts)) ::er x ((x,T.lst (l++ts)) ::er x ω)).lookup y:=λy=>by
      by_cases e:y=x
      . simp [e]
      . have:(y==x)=false:=by simpa using e
        simp only [this,Bool.false_eq_true,if_false,aak,e,lookup_cons]
     have av:Stp X V ad { a8 with heap:=h' } ((x,.lst (l++ts)) ::er x ω) V ad ai ((x,.lst (l++ts)) ::er x ω):=
      ⟨aL.mono λ_ h=>.inl h,lv,λ_ h=>.inl h,λ_ h _=>h,λy t h=>.inl ⟨y,t,h,rfl⟩⟩
     exact ⟨_,hK,V,ad,aj.congr (λ_=>rfl) lk,((Stp.run ae).trans st).trans av⟩
end
section
theorem ajq (hs:aaz γ it r ev) (k:FrK γ it r A X a9 a6 env sc) (c:SSt γ it r A X P a9 a6 env sc fz V ad s ρ ω) {x:Str}{p pos:Pos}{v:Expr}(hn:swapsWith v (some (.Name x p)) pos.line env=pure false)
  (hx:abi sc (fz.map (·.1)) x=true) (h:evM ev sc ρ ω v λt=>K (.nx ((x,t) ::ρ) (er x ω))):aaZ γ it r A X P a9 a6 env sc fz K V ad s ω (.Assign [.Name x p] v pos):=by
 have o1:=(adi hx).1
 have o2:=(adi hx).2
 refine wpAny_Assign_Name ?_ hn
 refine acS hs k c h λu a8 t hk e rv=>?_
 exact (c.run k e).put k o1 o2 rv λaa ah aD lv=>⟨_,hk,V,ad,ah,(Stp.run e).trans (Stp.put aD lv)⟩
theorem akm{h:Heap}(x:TabInv h) {b:Addr}(hb:h.get? b=none):b∉aa7:=λz=>by
 have:∃ q∈aea,q.2.1=b:=by
  rcases List.mem_cons.mp z with rfl | z
  . exact ⟨_,.head _,rfl⟩
  . rcases List.mem_cons.mp z with rfl | z
    . exact ⟨_,.tail _ (.head _),rfl⟩
    . rcases List.mem_cons.mp z with rfl | z
      . exact ⟨_,.tail _ (.tail _ (.head _)),rfl⟩
      . refine (List.mem_cons.mp z).elim ?_ ?_
        . rintro rfl
          exact ⟨_,.tail _ (.tail _ (.tail _ (.head _))),rfl⟩
        . rintro z
          cases z
 clear z
 obtain ⟨q,hq,rfl⟩:=this
 refine (x q hq).tab.elim λps hX2=>hX2.elim λhp _=>?_
 replace hp:=hb▸hp;exact nos hp
theorem SSt.moveV (k:FrK γ it r A X a9 a6 env sc) (c:SSt γ it r A X P a9 a6 env sc fz V ad s ρ ω) (x:ExtX Z s s') (zf:∀ b,Z b->a6.heap.get? b=none) (zV:Off Z V) (zX:∀ b,Z b->¬ X b)
  (zO:∀ y t,ω.lookup y=some t->¬ Z (ad y)) (zP:∀ b,Z b->¬ P b) (up:∀ a,V a->V' a) (oX:Off X V') (oO:∀ y t,ω.lookup y=some t->¬ V' (ad y)) (oP:∀ b,P b->¬ V' b) (vw:∀ a,V' a->Nv a9 a6 a) (fr:∀ a,s'.heap.get? a=none->V' a) :
  SSt γ it r A X P a9 a6 env sc fz V' ad s' ρ ω:=by
 have zc:∀ y cc,abJ (sc.lookup y)->env.cells.lookup y=some cc->¬ Z cc:=by
  rintro y cc (h | h) hc
  . obtain ⟨_,c',_,_,h1,h2,_⟩:=c.slots.cell y h
    replace h1:=hc▸h1;cases h1;exact λz=>zX _ z h2
  . obtain ⟨o,e⟩:=k.fre y cc h hc
    exact λz=>by replace e:=(zf _ z)▸e;exact nos e
 have zL:¬ Z env.locals:=λz=>zX _ z c.slots.loc.1
 have see:∀ {y v},Sees s.heap env y v->Sees s'.heap env y v:=λh=>h.zone c.cx.envS (λo e=>x.keep _ o c.cx.loc zL e) λy cc o h1 h2 n e=>x.keepC _ o n (zc y cc h1 h2) e
 exact {
  cx:=⟨⟨(k.aok.ext (c.ext.then x zf)).hand,k.aok.free,k.aok.depth,k.aok.units⟩,c.cx.wd.extX x (OldOff.fresh k.wd zf),c.cx.envS,c.cx.loc,c.cx.vars.zone x c.cx.envS c.cx.loc zL zc zV λa h _=>up a h,λy cc hc h=>(c.cx.live y cc hc h).elim λo hX1=>hX1.elim λe q=>⟨o,x.keepC _ _ (by refine q▸?_;exact λz=>by cases z) (zc y cc hc h) e,q⟩⟩
  slots:=c.slots.zone x zX c.cx.loc
  offX:=oX
  fr:=fr
  own:=λy t h=>let ⟨h1,h2,h3,h4,h5,h6⟩:=c.own y t h
   ⟨see h1,oO y t h,h3,h4,h5,h6.shift (λa h _=>up a h) (λb o n hb e=>x.keepC b o n (λz=>zV b z hb) e) λo n e=>x.keepC _ o n (zO y t h) e⟩
  apart:=c.apart
  offP:=λb hb=>(c.offP b hb).elim λh1 hX1=>hX1.elim λh2 hX2=>hX2.elim λo h3=>⟨oP b hb,h2,by
   cases q:s'.heap.get? b with
   | none=>have:=x.there b (λz=>zP b z hb) q;replace this:=h3▸this;exact son this
   | some o'=>exact ⟨o',rfl⟩⟩
  frz:=λp hp=>⟨see (c.frz p hp).1,(c.frz p hp).2⟩
  ext:=c.ext.then x zf
  vw:=vw }
theorem ahC (k:FrK γ it r A X a9 a6 env sc) (c:SSt γ it r A X P a9 a6 env sc fz V ad s ρ ω) {x:Str}{D C:Addr}{t:T}{Vx:aag}{Kt:T->Prop}{f:Value->Sem Unit}(hf:∀ v Q E s,wpAny (model pg γ.w) A (storeName env x v) Q E s->wpAny (model pg γ.w) A (f v) Q E s)
  (hx:abi sc (fz.map (·.1)) x=true) (hk:K (.nx ((x,t) ::ρ) (er x ω))) (e:Ext s s') (hC:s.heap.get? C=none) (hn:∃ m,s'.heap.Ns C m) (hr:Rep (λa=>V a/\a≠C) s'.heap (.ref D) t) :
  compPost (model pg γ.w) A No (some f) (λ_ s''=>PostS γ it r A X P a9 a6 env sc fz K V ad s ω .next s'') (.ref D) C (.ok .next) s':=by
 have o1:=(adi hx).1
 have o2:=(adi hx).2
 obtain ⟨bW,hn⟩:=hn
 refine (id hn).elim λoC hX1=>hX1.elim λes hX2=>hX2.elim λep hX3=>hX3.elim λeC hX4=>hX4.elim λdC hX5=>hX5.elim λkC fC=>?_
 have nX:¬ X C:=λh=>by obtain ⟨o,z⟩:=aaM c.slots k.isX C h;replace z:=hC▸z;cases z
 refine hf _ _ _ _ ((c.shrink k (N:=(·=C)) e (λb hb=>by refine hb▸?_;exact hC) (λb hb=>hb▸⟨oC,eC⟩)).put k o1 o2 hr λaa ah aD lv=>?_)
 have cC:aa.heap.get? C=some oC:=aD.keep C oC (akm c.cx.wd.tabs hC) nX eC
 refine ⟨bW,⟨oC,es,ep,cC,dC,kC,fC⟩,λh' hs'=>?_⟩
 have xC:ExtX (·=C) aa { aa with heap:=h' }:=ExtX.but2 (tk:=aa.toks) cC (λ_ z=>by replace z:=dC▸z;cases z) rfl λb o hb e=>hs'.extBut b o hb e
 have x02:ExtX X s aa:=e.toX.trans aD
 have lv3:∀ b,h'.get? b=none->s.heap.get? b=none:=λb h=>by
  by_cases hb:b=C
  . refine hb▸?_;exact hC
  . exact (λb h=>e.there b id (lv b h)) b (xC.there b hb h)
 have nO:∀ y t,ω.lookup y=some t->ad y≠C:=λy t hy z=>by
  obtain ⟨o,eo,_⟩:=(c.own y t hy).own.obj (s:=s);replace eo:=z▸eo;replace eo:=hC▸eo;exact nos eo
 have bX:∀ y t,(er x ω).lookup y=some t->∃ u,ω.lookup y=some u:=λy t hy=>by
  replace hy:=aak▸hy;split at hy
  . exact nos hy
  . exact ⟨t,hy⟩
 refine ⟨_,hk,V,ad,ah.moveV k xC (λb hb=>by refine hb▸?_;exact c.ext.there C id hC) (λb hb h=>h.2 hb) (λb hb=>by refine hb▸?_;exact nX) (λy t hy=>let ⟨u,h⟩:=bX y t hy;nO y u h) (λb hb=>by refine hb▸?_;exact (λh=>by obtain ⟨_,_,o,z⟩:=c.offP C h;replace z:=hC▸z;cases z))
  (λa h=>h.1) c.offX (λy t hy=>let ⟨u,h⟩:=bX y t hy;(c.own y u h).nV) (λb hb=>(c.offP b hb).1) c.vw (λa ha=>c.fr a (lv3 a ha)),?_⟩
 refine ⟨ExtX.thenW (W:=(·=C)) (x02.mono λ_ h=>.inl h) (xC.mono λ_ h=>.inr h) λb hb=>by refine hb▸?_;exact hC,λb hb=>lv3 b hb,λ_ h=>.inl h,λ_ h _=>h,λy t hy=>?_⟩
 obtain ⟨u,h⟩:=bX y t hy
 exact .inl ⟨y,u,h,rfl⟩
theorem alN{K:T->Prop}{elt:Expr}{gens:List Comprehension}{scope:Scope}{p:Pos}(hn:S.hk (.ListComp elt gens scope p)=none) (h:aam S it (m+1) sc (.ListComp elt gens scope p) ρ K) :
  it=true/\ahp (aam S it m) m sc scope (λaf K'=>aam S it m scope.names elt af K') gens ρ λts=>K (.lst ts):=by
 dsimp only [aam,adw] at h;rw [hn] at h;exact gd_ h
theorem alO{K:T->Prop}{elt v:Expr}{gens:List Comprehension}{scope:Scope}{p:Pos}(hn:S.hk (.DictComp elt v gens scope p)=none) (h:aam S it (m+1) sc (.DictComp elt v gens scope p) ρ K) :
  it=true/\ahp (R:=Int×T) (aam S it m) m sc scope (λaf K'=>aam S it m scope.names elt af λa=>aam S it m scope.names v af λb=>match a with
   | .int i=>K' (i,b)
   | _=>False) gens ρ λps=>K (.dct (ps.foldl abr [])):=by
 dsimp only [aam,adw] at h;rw [hn] at h;exact gd_ h
theorem asM{K:T->Prop}{C:Prop}{elt:Expr}{gens:List Comprehension}{scope:Scope}{p:Pos}(hn:S.hk (.SetComp elt gens scope p)=none) (h:aam S it (m+1) sc (.SetComp elt gens scope p) ρ K):C:=by
 dsimp only [aam,adw] at h;rw [hn] at h;exact h.elim
theorem alP{v:Expr}{G:Expr->Prop}(hv:age v=false) (l:∀ e g s p,G (.ListComp e g s p)) (d:∀ k e g s p,G (.DictComp k e g s p)) (t:∀ e g s p,G (.SetComp e g s p)):G v:=by
 cases v with
 | ListComp e g s p=>exact l e g s p
 | DictComp k e g s p=>exact d k e g s p
 | SetComp e g s p=>exact t e g s p
 | _=>exact ff (hv.symm:false=true)
theorem aqI (sg:SgOK γ S it r) (k:FrK γ it r A X a9 a6 env sc) (c:SSt γ it r A X P a9 a6 env sc fz V ad s ρ ω) {x:Str}{p pos:Pos}{v:Expr}(hv:age v=false)
  (hx:abi sc (fz.map (·.1)) x=true) (h:evM (aam S it (m+1)) sc ρ ω v λt=>K (.nx ((x,t) ::ρ) (er x ω))):aaZ γ it r A X P a9 a6 env sc fz K V ad s ω (.Assign [.Name x p] v pos):=by
 have hs:=aal sg m
 have noscal:∀ {Vx h D t},Rep Vx h (.ref D) t->scalar t=true->False:=by
  intro Vx h D t r z
  cases r <;> exact ff z
 revert h
 refine alP (G:=λv=>evM (aam S it (m+1)) sc ρ ω v (λt=>K (.nx ((x,t) ::ρ) (er x ω)))->aaZ γ it r A X P a9 a6 env sc fz K V ad s ω (.Assign [.Name x p] v pos)) hv (λelt gens scope cpos h=>?_) (λke ve gens scope cpos h=>?_) λelt gens scope cpos h=>?_
 . obtain ⟨b,hb⟩:∃ b,swapsWith (.ListComp elt gens scope cpos) (some (.Name x p)) pos.line env=pure b:=⟨_,rfl⟩
   cases b with
   | false=>exact ajq (aal sg (m+1)) k c hb hx h
   | true=>
    refine (congrArg (λt=>wpAny (model pg γ.w) A t (PostS γ it r A X P a9 a6 env sc fz K V ad s ω) No s) (exec_Assign_Name_used _ _ _ _ hb)).mpr ?_
    refine atY (at7 (atY ?_))
    refine atY (at1 (Q:=λ_ s''=>PostS γ it r A X P a9 a6 env sc fz K V ad s ω .next s'') ?_ (λ_ s'' h=>at3 (at3 h)) aah)
    refine (br_ h).elim ?_ ?_
    . rintro ⟨_,h⟩
      have hX:=alN (sg.hkn elt gens scope cpos).1 h
      have hit:=hX.1
      have h:=hX.2
      exact adP (K:=λt=>gd (scalar t) (K (.nx ((x,t) ::ρ) (er x ω)))) (n:=m) (fin:=T.lst) hs hit afk rfl (λD env X hX hg=>aej hs hX hg) c.shown h λD C s' t hk e hC hD hn hr=>(noscal hr (gd_ hk).1).elim
    . rintro ⟨_,h⟩
      have hX:=alN (sg.hkn elt gens scope cpos).1 h
      have hit:=hX.1
      have h:=hX.2
      exact adP (fin:=T.lst) hs hit afk rfl (λD env X hX hg=>aej hs hX hg) c.cx h λD C s' t hk e hC hD hn hr=>ahC (Vx:=V) (Kt:=λ_=>True) k c (λu Q E s h=>au8 h) hx hk e hC hn ((λr=>r.mono (λa h=>⟨h.1.elim id (c.fr a),h.2⟩) λ_ _ _ _ e=>e) hr)
 . obtain ⟨b,hb⟩:∃ b,swapsWith (.DictComp ke ve gens scope cpos) (some (.Name x p)) pos.line env=pure b:=⟨_,rfl⟩
   cases b with
   | false=>exact ajq (aal sg (m+1)) k c hb hx h
   | true=>
    refine (congrArg (λt=>wpAny (model pg γ.w) A t (PostS γ it r A X P a9 a6 env sc fz K V ad s ω) No s) (exec_Assign_Name_used _ _ _ _ hb)).mpr ?_
    refine atY (at7 (atY ?_))
    refine atY (at1 (Q:=λ_ s''=>PostS γ it r A X P a9 a6 env sc fz K V ad s ω .next s'') ?_ (λ_ s'' h=>at3 (at3 h)) aah)
    refine (br_ h).elim ?_ ?_
    . rintro ⟨_,h⟩
      obtain ⟨hit,h⟩:=alO ((sg.hkn ke gens scope cpos).2.2 ve) h
      exact adP (K:=λt=>gd (scalar t) (K (.nx ((x,t) ::ρ) (er x ω)))) (n:=m) (fin:=λps=>T.dct (ps.foldl abr [])) hs hit afl rfl (λD env X hX hg=>aek hs hX hg) c.shown h λD C s' t hk e hC hD hn hr=>(noscal hr (gd_ hk).1).elim
    . rintro ⟨_,h⟩
      obtain ⟨hit,h⟩:=alO ((sg.hkn ke gens scope cpos).2.2 ve) h
      exact adP (fin:=λps=>T.dct (ps.foldl abr [])) hs hit afl rfl (λD env X hX hg=>aek hs hX hg) c.cx h λD C s' t hk e hC hD hn hr=>ahC (Vx:=V) (Kt:=λ_=>True) k c (λu Q E s h=>au8 h) hx hk e hC hn ((λr=>r.mono (λa h=>⟨h.1.elim id (c.fr a),h.2⟩) λ_ _ _ _ e=>e) hr)
 . rcases br_ h with ⟨_,h⟩ | ⟨_,h⟩ <;> exact asM (sg.hkn elt gens scope cpos).2.1 h
end
set_option backward.match.sparseCases true
section
variable (γ:Gm)
structure TurnsU (A:Around) (target:Expr) (I:Addr) (W V U:aag) (items:List T) (St:Nat->Shared->Prop):Prop where
 frame:∀ i s s' (Y:aag),(∀ b,Y b->¬ V b/\¬ W b)->St i s->ExtX Y s s'->St i s'
 live:∀ i s,St i s->∀ b,W b->∃ o,s.heap.get? b=some o
 item:∀ i t s (Q:Option Value->Shared->Prop) (E:Value->Shared->Prop),items[i]?=some t->St i s->
  (∀ v a8,ExtX W s a8->(∀ (Q':Unit->Shared->Prop) (E':Value->Shared->Prop),(∀ aa,ExtX W s aa->St (i+1) aa->TItem target (λa=>U a\/s.heap.get? a=none) aa.heap v t->Q' () aa)->
    wpAny (model pg γ.w) A (letOwnedTupleGo target (.ref I) v) Q' E' a8)->Q (some v) a8)->wpAny (model pg γ.w) A (pyNext (.ref I)) Q E s
 done:∀ s (Q:Option Value->Shared->Prop) (E:Value->Shared->Prop),HandOK A s.heap->St items.length s->(∀ s',ExtX W s s'->Q none s')->wpAny (model pg γ.w) A (pyNext (.ref I)) Q E s
end
section
variable{P':aag}{fz':List (Str×Addr)}{U W:aag}{aa:Shared}
theorem Turns.toU{target:Expr}{I:Addr}{items:List T}{St:Nat->Shared->Prop}(Tn:Turns γ A target I W V items St):TurnsU γ A target I W V V items St:=⟨Tn.frame,Tn.live,Tn.item,Tn.done⟩
theorem SSt.moveW (k:FrK γ it r A X a9 a6 env sc) (c:SSt γ it r A X P a9 a6 env sc fz V ad s ρ ω) (x:ExtX Z s s') (zf:∀ b,Z b->a6.heap.get? b=none) (zV:Off Z V) (zX:∀ b,Z b->¬ X b)
  (zO:∀ y t,ω.lookup y=some t->¬ Z (ad y)) (lP:∀ b,P' b->¬ V' b/\¬ X b/\∃ o,s'.heap.get? b=some o) (up:∀ a,V a->(∃ o,s.heap.get? a=some o)->V' a) (oX:Off X V') (oO:∀ y t,ω.lookup y=some t->¬ V' (ad y)/\¬ P' (ad y))
  (hf:∀ p∈fz',p∈fz/\P' p.2) (vw:∀ a,V' a->Nv a9 a6 a) (fr:∀ a,s'.heap.get? a=none->V' a) :
  SSt γ it r A X P' a9 a6 env sc fz' V' ad s' ρ ω:=by
 have zc:∀ y cc,abJ (sc.lookup y)->env.cells.lookup y=some cc->¬ Z cc:=by
  rintro y cc (h | h) hc
  . obtain ⟨_,c',_,_,h1,h2,_⟩:=c.slots.cell y h
    replace h1:=hc▸h1;cases h1;exact λz=>zX _ z h2
  . obtain ⟨o,e⟩:=k.fre y cc h hc
    exact λz=>by replace e:=(zf _ z)▸e;exact nos e
 have zL:¬ Z env.locals:=λz=>zX _ z c.slots.loc.1
 have see:∀ {y v},Sees s.heap env y v->Sees s'.heap env y v:=λh=>h.zone c.cx.envS (λo e=>x.keep _ o c.cx.loc zL e) λy cc o h1 h2 n e=>x.keepC _ o n (zc y cc h1 h2) e
 exact {
  cx:=⟨⟨(k.aok.ext (c.ext.then x zf)).hand,k.aok.free,k.aok.depth,k.aok.units⟩,c.cx.wd.extX x (OldOff.fresh k.wd zf),c.cx.envS,c.cx.loc,c.cx.vars.zone x c.cx.envS c.cx.loc zL zc zV up,λy cc hc h=>(c.cx.live y cc hc h).elim λo hX1=>hX1.elim λe q=>⟨o,x.keepC _ _ (by refine q▸?_;exact λz=>by cases z) (zc y cc hc h) e,q⟩⟩
  slots:=c.slots.zone x zX c.cx.loc
  offX:=oX
  fr:=fr
  own:=λy t h=>let ⟨h1,h2,h3,h4,h5,h6⟩:=c.own y t h
   ⟨see h1,(oO y t h).1,h3,(oO y t h).2,h5,h6.shift up (λb o n hb e=>x.keepC b o n (λz=>zV b z hb) e) λo n e=>x.keepC _ o n (zO y t h) e⟩
  apart:=c.apart
  offP:=lP
  frz:=λp hp=>⟨see (c.frz p (hf p hp).1).1,(hf p hp).2⟩
  ext:=c.ext.then x zf
  vw:=vw }
theorem SSt.sub (c:SSt γ it r A X P a9 a6 env sc fz V ad s ρ ω) (h1:∀ x t,af.lookup x=some t->ρ.lookup x=some t) (h2:∀ x t,au.lookup x=some t->ω.lookup x=some t):SSt γ it r A X P a9 a6 env sc fz V ad s af au:=
 ⟨⟨c.cx.aok,c.cx.wd,c.cx.envS,c.cx.loc,λx t e=>c.cx.vars x t (h1 x t e),c.cx.live⟩,c.slots,c.offX,c.fr,λx t e=>c.own x t (h2 x t e),λx y t u e e'=>c.apart x y t u (h2 x t e) (h2 y u e'),c.offP,c.frz,c.ext,c.vw⟩
theorem Stp.sub (a:Stp X V ad s ω V' ad' s' au) (h2:∀ x t,aS.lookup x=some t->au.lookup x=some t):Stp X V ad s ω V' ad' s' aS:=⟨a.x,a.lv,a.dn,a.up,λy t h=>a.ow y t (h2 y t h)⟩
inductive WhI (γ:Gm) (it:Bool) (r:Nat) (A:Around) (X P:aag) (a9:aag) (a6:Shared) (env:Env) (sc:aad) (fz:List (Str×Addr)) (V:aag) (ad:Str->Addr) (s:Shared) (ω:aab) (F:Nat->aab->aab->Prop) (n:Nat) (s':Shared):Prop
 | mk (af au:aab) (V':aag) (ad':Str->Addr) (h:F n af au) (c:SSt γ it r A X P a9 a6 env sc fz V' ad' s' af au) (a:Stp X V ad s ω V' ad' s' au):WhI γ it r A X P a9 a6 env sc fz V ad s ω F n s'
theorem an8 (hs:aaz γ it r ev) (k:FrK γ it r A X a9 a6 env sc) (hb:anz γ it r A X a9 a6 env sc bl) (c:SSt γ it r A X P a9 a6 env sc fz V ad s ρ ω) {t:Expr}{b:List Stmt}{pos:Pos}
  (h:∃ f,agd (λρ ω k=>abq (λe k=>ev sc e (ω++ρ) k) n t k) (λρ ω K=>bl (fz.map (·.1)) b ρ ω K) (ρ.map (·.1)) (ω.map (·.1)) f ρ ω K):aaZ γ it r A X P a9 a6 env sc fz K V ad s ω (.While t b [] pos):=by
 refine (h).elim λf h=>?_
 refine wpAny_While (codeAny_whileLoop (WhI γ it r A X P a9 a6 env sc fz V ad s ω λn' af au=>agd (λρ ω k=>abq (λe k=>ev sc e (ω++ρ) k) n t k) (λρ ω K=>bl (fz.map (·.1)) b ρ ω K) (ρ.map (·.1)) (ω.map (·.1)) n' af au K) ?_ f
  ⟨ρ,ω,V,ad,h,c,Stp.refl⟩)
 rintro n' s' ⟨af,au,V',ad',h',c',a'⟩
 cases n' with
 | zero=>exact h'.elim
 | succ n'=>
  refine at1 (aaU hs n h' c'.shown) (λx a8 hZ37=>hZ37.elim λhk e=>?_) aah
  have rs:∀ {aa aw aE bf aQ},SSt γ it r A X P a9 a6 env sc fz aw aE aa bf aQ->Stp X V' ad' a8 au aw aE aa aQ->SSt γ it r A X P a9 a6 env sc fz aw aE aa (abO (ρ.map (·.1)) bf) (abO (ω.map (·.1)) aQ)/\Stp X V ad s ω aw aE aa (abO (ω.map (·.1)) aQ):=
   λah bz=>⟨ah.sub (λ_ _=>aaP) (λ_ _=>aaP),(a'.trans ((Stp.run e).trans bz)).sub λ_ _=>aaP⟩
  clear hZ37
  cases x with
  | true=>
   refine at1 (hb P fz b af au _ V' ad' a8 hk (c'.run k e)) (λf aa p=>?_) aah
   refine ab0 p ?_ ?_ ?_
   . exact λ_ _ aw aE ho ah bz=>⟨n',auT _,_,_,aw,aE,ho,(rs ah bz).1,(rs ah bz).2⟩
   . exact λ_ _ aw aE ho ah bz=>⟨_,ho,aw,aE,rs ah bz⟩
   . exact λ_ _ ho x r=>⟨_,ho,x,r⟩
  | false=>
   exact au0 ⟨_,hk,V',ad',(c'.run k e),a'.trans (Stp.run e)⟩
theorem asN{ω:aab}{x y:Str}{u:T}(h:(er x ω).lookup y=some u):ω.lookup y=some u:=by
 replace h:=aak▸h
 split at h
 . exact nos h
 . exact h
theorem agg (k:FrK γ it r A X a9 a6 env sc):∀ {es:List Expr}{ts:List T}{vs:List Value}{L:List (Str×Bool×T)}{ρ ω:aab}{s:Shared}{Q:Unit->Shared->Prop}{E:Value->Shared->Prop},abo es ts=some L->RepL V s.heap vs ts->
  (∀ x∈es.filterMap abX,abi sc (fz.map (·.1)) x=true)->SSt γ it r A X P a9 a6 env sc fz V ad s ρ ω->
  (∀ s',SSt γ it r A X P a9 a6 env sc fz V ad s' (aaT L (ρ,ω)).1 (aaT L (ρ,ω)).2->ExtX X s s'->(∀ b,s'.heap.get? b=none->s.heap.get? b=none)->(∀ y u,(aaT L (ρ,ω)).2.lookup y=some u->ω.lookup y=some u)->Q () s')->
  wpAny (model pg γ.w) A (assignInOrder ((assignEach es env).map (·.2)) vs) Q E s
 | [],_,_,L,ρ,ω,s,Q,E,h,r,_,c,q=>by
  refine ag λG kG=>?_
  obtain ⟨rfl,rfl⟩:=aiy h
  refine kG ?_
  exact assignInOrder_nil (q s c (ExtX.refl s) (λ_ e=>e) λ_ _ h=>h)
 | _ ::es,_,_,L,ρ,ω,s,Q,E,h,r,cs,c,q=>by
  obtain ⟨x,p,t,ts,l,rfl,rfl,z,rfl⟩:=aiz h
  cases r with
  | cons r rs=>
   obtain ⟨o1,o2⟩:=adi (cs x (.head _))
   refine assignInOrder_cons (au8 (c.put k o1 o2 r λa8 al aP lv=>?_))
   refine agg k z (rs.extX aP c.offX) (λy hy=>cs y (.tail _ hy)) al λaa ah aD dl bC=>q aa ah (aP.trans aD) (λb h=>lv b (dl b h)) λy u hy=>?_
   exact asN (bC y u hy)
inductive TgR (sc:aad) (fz:List Str) (ρ ω:aab) (p:aab×aab):Expr->T->Prop
 | nm (x:Str) (xp:Pos) (t:T) (h:abi sc fz x=true) (e:((x,t) ::ρ,er x ω)=p):TgR sc fz ρ ω p (.Name x xp) t
 | tp (es:List Expr) (k:Nat) (tp:Pos) (ts:List T) (L:List (Str×Bool×T)) (h:aci sc fz es=true) (z:abo es ts=some L) (e:aaT L (ρ,ω)=p):TgR sc fz ρ ω p (.Tuple es k tp) (.tup ts)
theorem an9{fz:List Str}{target:Expr}{t:T}{p:aab×aab}(hb:acF sc fz target t ρ ω=some p):TgR sc fz ρ ω p target t:=by
 have h1:agO sc fz target=true:=by
  cases q:agO sc fz target with
  | true=>rfl
  | false=>
   unfold acF at hb
   replace hb:=q▸hb;exact nos hb
 have h2:(alI target t).map (λL=>aaT L (ρ,ω))=some p:=by
  unfold acF at hb
  replace hb:=h1▸hb;exact hb
 clear hb
 cases target with
 | Name x xp=>exact .nm x xp t h1 (soi h2)
 | Tuple es k tp=>
  cases t with
  | tup ts=>
   refine (Option.map_eq_some_iff.mp h2).elim λL hX1=>hX1.elim λe1 e2=>?_
   exact .tp es k tp ts L h1 e1 e2
  | _=>exact nos h2
 | _=>exact ff h1
theorem akn (k:FrK γ it r A X a9 a6 env sc) (c:SSt γ it r A X P a9 a6 env sc fz V ad s ρ ω) {target:Expr}{t:T}{v:Value}{p:aab×aab}{Q:Unit->Shared->Prop}{E:Value->Shared->Prop}(hb:acF sc (fz.map (·.1)) target t ρ ω=some p) (ti:TItem target V s.heap v t)
  (q:∀ s',SSt γ it r A X P a9 a6 env sc fz V ad s' p.1 p.2->ExtX X s s'->(∀ b,s'.heap.get? b=none->s.heap.get? b=none)->(∀ y u,p.2.lookup y=some u->ω.lookup y=some u)->Q () s'):wpAny (model pg γ.w) A (assign target env v) Q E s:=by
 have tup:∀ {es:List Expr}{kk:Nat}{pos:Pos}{T':Addr}{vals:Array Value}{ts:List T}{L:List (Str×Bool×T)},s.heap.IsTuple T' vals->RepL V s.heap vals.toList ts->abo es ts=some L->aci sc (fz.map (·.1)) es=true->aaT L (ρ,ω)=p->wpAny (model pg γ.w) A (assign (.Tuple es kk pos) env (.ref T')) Q E s:=by
  intro es kk pos T' vals ts L hT rs hz hc hp
  subst hp
  obtain ⟨c1,c2,c3⟩:=ahA hc
  refine (agP (γ:=γ) (A:=A) (env:=env) c3).elim λst hZ41=>hZ41.elim λe1 e2=>?_
  have e3:=(afn hz).2.1
  refine atY (at7 ?_)
  unfold unpack
  rw [e1,e2,e3,<- rs.length,show vals.toList.length=vals.size by simp]
  refine atY (aud (aaG c.cx.aok.hand hT λh' up=>?_))
  have x:Ext s { s with heap:=h' }:=Ext.of (tk:=s.toks) up
  exact agg k hz (rs.ext x) c1 (c.run k x) λaa ah aD lv bC=>q aa ah (x.toX.trans aD) (λb h=>x.there b id (lv b h)) bC
 cases an9 hb with
 | nm x xp t hc e=>
  clear hb
  subst e
  obtain ⟨o1,o2⟩:=adi hc
  refine ag λG kG=>?_
  rcases ti with rv | ⟨⟨es,kk,p,z⟩,_⟩
  refine kG ?_
  . refine au8 (c.put k o1 o2 rv λa8 al aP lv=>q a8 al aP lv λy u hy=>asN hy)
  . cases z
 | tp es kk tp ts L hc z e=>
  rcases ti with rv | ⟨_,T',vals,ts',rfl,hT,e',rs⟩
  . cases rv with
    | tup va hT rs=>exact tup hT rs z hc e
  . cases e';exact tup hT rs z hc e
end
section
variable{P':aag}{fz':List (Str×Addr)}{aw U W:aag}{aa:Shared}
theorem Stp.monoX{X':aag}(a:Stp X V ad s ω V' ad' s' au) (h:∀ b,X b->X' b):Stp X' V ad s ω V' ad' s' au:=⟨a.x.mono λb hb=>hb.imp (h b) id,a.lv,a.dn,a.up,a.ow⟩
theorem aqJ{α:Type}{l:List α}{i:Nat}{t:α}(h:l[i]?=some t):l.drop i=t ::l.drop (i+1):=by
 refine (List.getElem?_eq_some_iff.mp h).elim λhi e=>?_
 rw [List.drop_eq_getElem_cons hi,e]
theorem aiC{h h':Heap}{b:Addr}(lv:h'.get? b=none->h.get? b=none) (l:∃ o,h.get? b=some o):∃ o,h'.get? b=some o:=by
 refine (l).elim λo e=>?_
 cases q:h'.get? b with
 | none=>exact nos ((lv q).symm.trans e)
 | some o=>exact ⟨o,rfl⟩
theorem TItem.mono{target:Expr}{U V':aag}{h:Heap}{v:Value}{t:T}(up:∀ a,U a->V' a) (ti:TItem target U h v t):TItem target V' h v t:=by
 refine (ti).elim ?_ ?_
 . rintro z
   exact .inl (z.mono up λ_ _ _ _ e=>e)
 . rintro ⟨q,T',vals,ts,b1,b2,b3,b4⟩
   exact .inr ⟨q,T',vals,ts,b1,b2,b3,b4.mono up λ_ _ _ _ e=>e⟩
inductive ForI (γ:Gm) (it:Bool) (r:Nat) (A:Around) (Y X P:aag) (a9:aag) (a6:Shared) (env:Env) (sc:aad) (fz:List (Str×Addr)) (V:aag) (ad:Str->Addr) (s:Shared) (ω:aab) (N:Nat) (F:Nat->aab->aab->Prop) (St:Nat->Shared->Prop) (n:Nat) (s':Shared):Prop
 | mk (i:Nat) (af au:aab) (V':aag) (ad':Str->Addr) (hn:n=N+1-i) (hi:i<=N) (h:F i af au) (st:St i s') (c:SSt γ it r A X P a9 a6 env sc fz V' ad' s' af au) (a:Stp Y V ad s ω V' ad' s' au):ForI γ it r A Y X P a9 a6 env sc fz V ad s ω N F St n s'
theorem ajr (k:FrK γ it r A X a9 a6 env sc) (hb:anz γ it r A X a9 a6 env sc bl) {target:Expr}{I:Addr}{items:List T}{St:Nat->Shared->Prop}{b:List Stmt}{K':Out->Prop}{Rr:Result->Shared->Prop}{ks ko:List Str}
  (Tn:TurnsU γ A target I W az U items St) (hXV:∀ b,X b->¬ az b) (hOV:∀ y t,ω.lookup y=some t->¬ az (ad y)) (hVl:∀ a,az a->∃ o,aa.heap.get? a=some o) (hU:∀ a,U a->aw a/\∃ o,aa.heap.get? a=some o)
  (hWP:∀ b,W b->P' b) (hWf:∀ b,W b->a6.heap.get? b=none) (st:St 0 aa) (c:SSt γ it r A X P' a9 a6 env sc fz' aw ad aa ρ ω)
  (h:afX (acF sc (fz'.map (·.1)) target) (λρ ω K=>bl (fz'.map (·.1)) b ρ ω K) ks ko items ρ ω K')
  (fin:∀ ai s' af au V' ad',K' (.nx af au)->SSt γ it r A X P' a9 a6 env sc fz' V' ad' ai af au->Stp (λb=>X b\/W b) aw ad aa ω V' ad' ai au->ExtX W ai s'->Rr (.ok .next) s')
  (ret:∀ s' t v,K' (.rt t)->Ext a6 s'->Rep (Nv a9 a6) s'.heap v t->Rr (.ok (.ret v)) s'):codeAny (model pg γ.w) A (.forLoop target (.ref I) b [] env) Rr aa:=by
 refine codeAny_forLoop_any (ForI γ it r A (λb=>X b\/W b) X P' a9 a6 env sc fz' aw ad aa ω items.length (λi af au=>afX (acF sc (fz'.map (·.1)) target) (λρ ω K=>bl (fz'.map (·.1)) b ρ ω K) ks ko (items.drop i) af au K') St) ?_ (items.length+1) ⟨0,ρ,ω,aw,ad,rfl,aup _,h,st,c,Stp.refl⟩
 rintro n' s' ⟨i,af,au,V',ad',rfl,hi,h',st',c',a'⟩
 by_cases hlt:i<items.length
 . obtain ⟨t,ht⟩:∃ t,items[i]?=some t:=⟨_,aul hlt⟩
   replace h':=(aqJ ht)▸h'
   obtain ⟨p,hp,h'⟩:=ak2 h'
   refine Tn.item i t s' _ _ ht st' λv a8 ae go=>?_
   refine go _ _ λdq am av ti=>?_
   have WV:Off W V':=λb hb h=>(c'.offP b (hWP b hb)).1 h
   have WX:∀ b,W b->¬ X b:=λb hb=>(c'.offP b (hWP b hb)).2.1
   have WO:∀ y t,au.lookup y=some t->¬ W (ad' y):=λy t hy hw=>(c'.own y t hy).nP (hWP _ hw)
   have lvW:∀ b,dq.heap.get? b=none->s'.heap.get? b=none:=λb hb=>by
    by_cases hw:W b
    . obtain ⟨o,z⟩:=Tn.live _ _ av b hw;exact nos (hb.symm.trans z)
    . exact am.there b hw hb
   refine akn k (c'.moveW k am hWf WV WX WO (λb hb=>⟨(c'.offP b hb).1,(c'.offP b hb).2.1,aiC (lvW b) (c'.offP b hb).2.2⟩) (λ_ h _=>h) c'.offX (λy t hy=>⟨(c'.own y t hy).nV,(c'.own y t hy).nP⟩) (λp hp=>⟨hp,(c'.frz p hp).2⟩) c'.vw λa ha=>c'.fr a (lvW a ha)) hp (ti.mono (λa ha=>ha.elim (λh=>a'.up a (hU a h).1 (hU a h).2) (c'.fr a))) λai aj aL dr bC=>?_
   have rs:∀ {ao b9 aX cD bD},SSt γ it r A X P' a9 a6 env sc fz' b9 aX ao cD bD->Stp X V' ad' ai p.2 b9 aX ao bD->SSt γ it r A X P' a9 a6 env sc fz' b9 aX ao (abO ks cD) (abO ko bD)/\Stp (λb=>X b\/W b) aw ad aa ω b9 aX ao (abO ko bD):=
    λaK ba=>⟨aK.sub (λ_ _=>aaP) (λ_ _=>aaP),(((a'.trans (⟨am.mono λb hb=>.inl (.inr hb),lvW,λ_ h=>.inl h,λ_ h _=>h,λy t h=>.inl ⟨y,t,h,rfl⟩⟩)).trans (⟨aL.mono λb hb=>.inl (.inl hb),dr,λ_ h=>.inl h,λ_ h _=>h,λy u hy=>.inl ⟨y,u,bC y u hy,rfl⟩⟩)).trans (ba.monoX λ_ h=>.inl h)).sub λ_ _=>aaP⟩
   refine at1 (hb P' fz' b p.1 p.2 _ V' ad' ai h' aj) (λf ao po=>?_) aah
   refine ab0 po (λ_ _ b9 aX ho aK ba=>?_) (λ_ _ b9 aX ho aK ba=>fin ao ao _ _ b9 aX ho (rs aK ba).1 (rs aK ba).2 (ExtX.refl _)) λ_ _ ho x rv=>ret ao _ _ ho x rv
   have hY:∀ b,(X b\/∃ y t,p.2.lookup y=some t/\b=ad' y)->¬ az b/\¬ W b:=by
    rintro q (hq | ⟨y,u,hy,rfl⟩)
    . exact ⟨hXV q hq,λhw=>WX q hw hq⟩
    . have hy':=bC y u hy
      refine ⟨λhv=>?_,WO y u hy'⟩
      rcases a'.ow y u hy' with ⟨z,u',h1,h2⟩ | h1
      . rw [h2] at hv;exact hOV z u' h1 hv
      . obtain ⟨o,z⟩:=hVl _ hv;exact nos (h1.symm.trans z)
   exact ⟨items.length+1-(i+1),Nat.sub_lt_sub_left (auv hlt) (auT i),i+1,_,_,b9,aX,rfl,hlt,ho,Tn.frame _ _ _ _ hY av ((aL.mono λb hb=>.inl hb).trans ba.x),(rs aK ba).1,(rs aK ba).2⟩
 . cases Nat.le_antisymm hi (Nat.not_lt.mp hlt)
   replace h':=List.drop_length▸h'
   refine Tn.done s' _ _ c'.cx.aok.hand st' λs'' x=>au0 ?_
   exact fin s' s'' _ _ V' ad' h' c' a' x
end
section
variable{P':aag}{fz':List (Str×Addr)}{aw U W:aag}{aa:Shared}
theorem ael (k:FrK γ it r A X a9 a6 env sc) (hb:anz γ it r A X a9 a6 env sc bl) (c:SSt γ it r A X P a9 a6 env sc fz V ad s ρ ω) {target iter:Expr}{b:List Stmt}{pos:Pos}{KI:List T->Prop}
  (hp:aai iter=true) (hI:wpAny (model pg γ.w) A (eval iter env) (λu a8=>wpAny (model pg γ.w) A (pyIter u) (λi aa=>∃ items,KI items/\Iters γ A target (Nv V s) s items i aa) No a8) No s)
  (h:∀ items,KI items->afX (acF sc (fz.map (·.1)) target) (λρ ω K=>bl (fz.map (·.1)) b ρ ω K) (ρ.map (·.1)) (ω.map (·.1)) items ρ ω K) :
  aaZ γ it r A X P a9 a6 env sc fz K V ad s ω (.For target iter b [] pos):=by
 refine wpAny_For ?_ (aht hp)
 refine at1 hI (λu a8 ak=>at1 ak (λi aa aq=>?_) aah) aah
 refine ag λG kG=>?_
 obtain ⟨items,hk,I,W,az,St,rfl,Tn,st,x,hw,hv⟩:=aq
 refine kG ?_
 replace hk:=h items hk
 have wl:∀ b,W b->∃ o,aa.heap.get? b=some o:=Tn.live _ _ st
 have live_s:∀ b o,s.heap.get? b=some o->¬ W b:=λb o e z=>by replace e:=(hw b z)▸e;exact nos e
 have al:=c.shrink k x hw wl
 have lv:∀ b,aa.heap.get? b=none->s.heap.get? b=none:=λb e=>x.there b id e
 have ah:SSt γ it r A X (λb=>P b\/W b) a9 a6 env sc fz (λb=>V b/\¬ W b) ad aa ρ ω:=
  al.moveW k (Z:=λ_=>False) (ExtX.refl _) (λ_ h=>h.elim) (λ_ h=>h.elim) (λ_ h=>h.elim) (λ_ _ _ h=>h.elim) (λb hb=>by
   rcases hb with hb | hb
   . exact al.offP b hb
   . exact ⟨λh=>h.2 hb,λhx=>by obtain ⟨o,e⟩:=aaM c.slots k.isX b hx;exact live_s b o e hb,wl b hb⟩) (λ_ h _=>h) al.offX
   (λy t hy=>⟨(al.own y t hy).nV,λh=>by
     rcases h with h | h
     . exact (al.own y t hy).nP h
     . obtain ⟨o,e,_⟩:=(c.own y t hy).own.obj (s:=s);exact live_s _ o e h⟩) (λp hp=>⟨hp,.inl (al.frz p hp).2⟩) al.vw al.fr
 refine ajr k hb Tn.toU (P':=λb=>P b\/W b) (fz':=fz) (aw:=λb=>V b/\¬ W b) (K':=K) ?_ ?_ (λa ha=>(hv a ha).2.2) (λa ha=>⟨⟨?_,(hv a ha).2.1⟩,(hv a ha).2.2⟩) (λb hb=>.inr hb) (λb hb=>c.ext.there b id (hw b hb)) st ah hk ?_ ?_
 . intro q hq hv'
   obtain ⟨o,e⟩:=aaM c.slots k.isX q hq
   rcases (hv q hv').1 with z | z
   . exact c.offX q hq z
   . replace z:=e▸z;exact son z
 . intro y t hy hv'
   refine ((c.own y t hy).own.obj (s:=s)).elim λo hZ6=>hZ6.elim λe _=>?_
   rcases (hv _ hv').1 with z | z
   . exact (c.own y t hy).nV z
   . replace z:=e▸z;exact son z
 . exact (hv a ha).1.elim id (c.fr a)
 . intro ai s' af au V' ad' hK aj aW xW
   have lvf:∀ q,s'.heap.get? q=none->s.heap.get? q=none:=λq hq=>by
    by_cases hw':W q
    . exact hw q hw'
    . exact lv q (aW.lv q (xW.there q hw' hq))
   refine ⟨_,hK,λq=>V' q\/W q,ad',?_,?_⟩
   . refine aj.moveW k xW (λb hb=>c.ext.there b id (hw b hb)) (λb hb h=>(aj.offP b (.inr hb)).1 h) (λb hb=>(aj.offP b (.inr hb)).2.1) (λy t hy h=>(aj.own y t hy).nP (.inr h)) (λq hq=>?_) (λ_ h _=>.inl h)
      (λq hq h=>h.elim (aj.offX q hq) λh=>(aj.offP q (.inr h)).2.1 hq) (λy t hy=>⟨λh=>h.elim (aj.own y t hy).nV λh=>(aj.own y t hy).nP (.inr h),λh=>(aj.own y t hy).nP (.inl h)⟩)
      (λp hp=>⟨hp,(c.frz p hp).2⟩) (λq hq=>hq.elim (aj.vw q) λh=>.inr (c.ext.there q id (hw q h))) (λq hq=>?_)
     . refine (c.offP q hq).elim λg1 hX1=>hX1.elim λg2 hX2=>hX2.elim λo g3=>?_
       refine ⟨λh=>h.elim (aj.offP q (.inl hq)).1 λh=>live_s q o g3 h,g2,?_⟩
       cases e:s'.heap.get? q with
       | none=>replace g3:=(lvf q e)▸g3;cases g3
       | some o=>exact ⟨o,rfl⟩
     . by_cases hw':W q
       . exact .inr hw'
       . exact .inl (aj.fr q (xW.there q hw' hq))
   . refine ⟨ExtX.thenW (W:=W) x.toX ((aW.x.mono ?_).trans (xW.mono λ_ h=>.inr h)) hw,lvf,λq hq=>?_,λq hq hl=>?_,λy t hy=>?_⟩
     . rintro q ((hq | hq) | hq)
       . exact .inl (.inl hq)
       . exact .inr hq
       . exact .inl (.inr hq)
     . rcases hq with hq | hq
       . refine (aW.dn q hq).elim ?_ ?_
         . rintro z
           exact .inl z.1
         . rintro z
           exact .inr (lv q z)
       . exact .inr (hw q hq)
     . obtain ⟨o,e⟩:=hl
       have dB:∃ o,aa.heap.get? q=some o:=by
        cases z:aa.heap.get? q with
        | none=>replace e:=(lv q z)▸e;cases e
        | some o=>exact ⟨o,rfl⟩
       exact .inl (aW.up q ⟨hq,live_s q o e⟩ dB)
     . rcases aW.ow y t hy with z | z
       . exact .inl z
       . exact .inr (lv _ z)
 . intro s' t v hK x' rv
   exact ⟨_,hK,x',rv⟩
theorem ahD (hs:aaz γ it r ev) (k:FrK γ it r A X a9 a6 env sc) (hb:anz γ it r A X a9 a6 env sc bl) (c:SSt γ it r A X P a9 a6 env sc fz V ad s ρ ω) {target iter:Expr}{b:List Stmt}{pos:Pos}
  (hit:it=true) (hp:aai iter=true) (h:afc ev sc target iter ρ λitems=>afX (acF sc (fz.map (·.1)) target) (λρ ω K=>bl (fz.map (·.1)) b ρ ω K) (ρ.map (·.1)) (ω.map (·.1)) items ρ ω K) :
  aaZ γ it r A X P a9 a6 env sc fz K V ad s ω (.For target iter b [] pos):=
 ael k hb c hp (at1 (aei hs hit c.cx h) (λ_ _ h=>at1 h (λ_ _ hZ9=>hZ9.elim λitems hZ10=>hZ10.elim λhk hZ11=>hZ11.elim λ_ hI=>⟨items,hk,hI⟩) aah) aah) λ_ h=>h
end
section
variable{target:Expr}{I:Addr}{fp wr:List Addr}{P Md:Nat->Value->Heap->Prop}{St:Nat->Heap->Prop}{W U:aag}{R:Heap->Prop}{items:List T}
theorem TurnsU.ofK (KT:KTurns pg γ.w A target I fp wr n P Md St) (hlen:items.length=n) (hw:∀ b∈wr,W b) (hfp:∀ b∈fp,(V b\/W b)/\b∉aa7) (hoff:∀ b,V b->¬ W b)
  (qs:∀ i h,St i h->∀ b∈wr,aa9 h b) (qm:∀ i v h,Md i v h->∀ b∈wr,aa9 h b) (lv:∀ i h,St i h->∀ b,W b->∃ o,h.get? b=some o)
  (hR:∀ h h':Heap,R h->(∀ b o,o.cls≠.none->V b->h.get? b=some o->h'.get? b=some o)->R h')
  (hP:∀ i v h t,items[i]?=some t->P i v h->R h->TItem target U h v t) :
  TurnsU γ A target I W V U items λi s=>St i s.heap/\R s.heap where
 frame:=λi s s' Y hY st x=>⟨KT.frame i _ _ st.1 λb hb o e=>x.keep b o (hfp b hb).2 (λy=>((hfp b hb).1.elim (hY b y).1 (hY b y).2)) e,hR _ _ st.2 λb o c v e=>x.keepC b o c (λy=>(hY b y).1 v) e⟩
 live:=λi s st b hb=>lv i _ st.1 b hb
 item:=λi t s Q E hi st hQ=>by
  have hlt:i<n:=by refine hlen▸?_;exact (List.getElem?_eq_some_iff.mp hi).1
  refine KT.item i s Q E hlt st.1 λv h' tk hm hk=>?_
  refine hQ v _ (ExtX.wr hw (qs _ _ st.1) hk) λQ' E' hQ'=>?_
  refine KT.go i v _ _ _ hm λaq hp av bU=>?_
  have x2:ExtX W s { s with heap:=aq,toks:=tk }:=ExtX.wr hw (qs _ _ st.1) (λb o hb e=>bU b o hb (hk b o hb e))
  have r2:R aq:=hR _ _ st.2 λb o c v e=>x2.keepC b o c (hoff b v) e
  refine hQ' _ x2 ⟨av,r2⟩ ?_
  rcases hP i v aq t hi hp r2 with z | ⟨a,T,vals,ts,b1,b2,b3,b4⟩
  . exact .inl (z.mono (λa h=>.inl h) λ_ _ _ _ e=>e)
  . exact .inr ⟨a,T,vals,ts,b1,b2,b3,b4.mono (λa h=>.inl h) λ_ _ _ _ e=>e⟩
 done:=λs Q E _ st hQ=>KT.done s Q E (hlen▸st.1) λh' tk hk=>hQ _ (ExtX.wr hw (qs _ _ st.1) hk)
end
section
variable{P':aag}{fz':List (Str×Addr)}{aw U W:aag}{aa:Shared}
inductive OwnIt (γ:Gm) (A:Around) (target:Expr) (V:aag) (s:Shared) (a:Addr) (l:List T) (i:Value) (s':Shared):Prop
 | mk (I:Addr) (W:aag) (St:Nat->Shared->Prop) (e1:i=.ref I) (e2:TurnsU γ A target I W (liveIn (λb=>V b\/b=a) s) (liveIn V s) l St) (e3:St 0 s') (e4:Ext s s') (e5:∀ b,W b->s.heap.get? b=none) (e6:∀ b,W b->∃ o,s'.heap.get? b=some o):OwnIt γ A target V s a l i s'
theorem alQ{E:Value->Shared->Prop}{target:Expr}(hh:A.handled=none) (tb:TabInv s.heap) {a:Addr}{vs:Array Value}{l:List T}(hp:s.heap.PlainList a vs) (rs:RepL V s.heap vs.toList l) :
  wpAny (model pg γ.w) A (pyIter (.ref a)) (OwnIt γ A target V s a l) E s:=by
 have hl:=hp.isList
 refine (hp).elim λn e=>?_
 refine wpAny_pyIter_list hl ?_
 refine ⟨s.heap.objs.size,(·=s.heap.objs.size),_,rfl,TurnsU.ofK (n:=vs.size) (R:=λh=>RepL (liveIn V s) h vs.toList l) (KTurns.ofWalks (Walks.list hh s.heap.objs.size a (abY e) vs) λi v s Q E st q=>letGo_listiter st.1 q) ?_ ?_ ?_ ?_ ?_ ?_ ?_ ?_ ?_,⟨⟨⟨_,at4 _ rfl,rfl,rfl⟩,hl.push _⟩,(RepL.live rs).mono (λ_ h=>h) λb o _ _ e=>atZ _ e⟩,Ext.push,?_,?_⟩
 . refine rs.length▸?_;simp
 . intro b hb;simpa using hb
 . intro b hb
   clear hl
   rcases (by simpa using hb) with rfl | rfl
   . exact ⟨.inr rfl,acg tb (auf _)⟩
   . exact ⟨.inl ⟨.inr rfl,_,e⟩,tb.off e λz=>by cases z⟩
 . rintro b ⟨_,o,z⟩ rfl;exact abY z rfl
 . rintro i h ⟨⟨o,e1,e2,e3⟩,_⟩ b hb
   refine (List.mem_singleton.mp hb)▸?_;exact aaw e1 e2 (by decide) e3 (λx t=>not_eq_of_beq_eq_false rfl)
 . rintro i v h ⟨_,⟨o,e1,e2,e3⟩,_⟩ b hb
   rw [List.mem_singleton.mp hb];exact aaw e1 e2 (by decide) e3 (λx t=>not_eq_of_beq_eq_false rfl)
 . rintro i h ⟨⟨o,e1,e2,e3⟩,_⟩ b rfl;exact ⟨_,e1⟩
 . exact λh h' r k=>r.mono (λ_ h=>h) λb o c v e=>k b o c ⟨.inl v.1,v.2⟩ e
 . intro i v h t hi hp hr
   obtain ⟨u,h1,h2⟩:=hr.get (i:=i) (v:=v) (by simpa using hp)
   replace h1:=hi▸h1;cases h1;exact .inl h2
 . rintro b rfl;exact aan
 . rintro b rfl;exact ⟨_,at4 _ rfl⟩
theorem SSt.adopt (c:SSt γ it r A X P a9 a6 env sc fz V ad s ρ ω) {x:Str}{a:Addr}{t:T}(hsee:Sees s.heap env x (.ref a)) (ho:OwnT V s.heap a t) (hV:¬ V a) (hX:¬ X a) (hP:¬ P a) (h0:a6.heap.get? a=none) (hne:∀ y u,ω.lookup y=some u->ad y≠a) :
  SSt γ it r A X P a9 a6 env sc fz V (λy=>if y=x then a else ad y) s (er x ρ) ((x,t) ::er x ω) where
 cx:=⟨c.cx.aok,c.cx.wd,c.cx.envS,c.cx.loc,λy u hy=>by
  replace hy:=aak▸hy
  split at hy
  . exact nos hy
  . exact c.cx.vars y u hy,c.cx.live⟩
 slots:=c.slots
 offX:=c.offX
 fr:=c.fr
 own:=λy u hy=>by
  rw [lookup_cons] at hy
  by_cases h:y=x
  . subst h
    rw [if_pos (by simp)] at hy;cases hy
    simp only [if_true]
    exact ⟨hsee,hV,hX,hP,h0,ho⟩
  . rw [if_neg (by simpa using h),aak,if_neg h] at hy
    simp only [h,if_false]
    exact c.own y u hy
 apart:=λy z u u' hy hz'=>by
  rw [lookup_cons] at hy hz'
  by_cases h1:y=x <;> by_cases h2:z=x
  . intro _;rw [h1,h2]
  . rw [if_neg (by simpa using h2),aak,if_neg h2] at hz'
    simp only [h1,h2,if_true,if_false]
    exact λz'=>absurd z'.symm (hne z u' hz')
  . rw [if_neg (by simpa using h1),aak,if_neg h1] at hy
    simp only [h1,h2,if_true,if_false]
    exact λz'=>absurd z' (hne y u hy)
  . rw [if_neg (by simpa using h1),aak,if_neg h1] at hy
    rw [if_neg (by simpa using h2),aak,if_neg h2] at hz'
    simp only [h1,h2,if_false]
    exact c.apart y z u u' hy hz'
 offP:=c.offP
 frz:=c.frz
 ext:=c.ext
 vw:=c.vw
theorem SSt.forget (c:SSt γ it r A X P a9 a6 env sc fz V ad s ρ ω) {x:Str}:SSt γ it r A X P a9 a6 env sc fz V ad s ρ (er x ω) where
 cx:=c.cx
 slots:=c.slots
 offX:=c.offX
 fr:=c.fr
 own:=λy u hy=>by
  replace hy:=aak▸hy
  split at hy
  . exact nos hy
  . exact c.own y u hy
 apart:=λy z u u' hy hz'=>by
  rw [aak] at hy hz'
  split at hy
  . exact nos hy
  . split at hz'
    . exact nos hz'
    . exact c.apart y z u u' hy hz'
 offP:=c.offP
 frz:=c.frz
 ext:=c.ext
 vw:=c.vw
end
section
variable{P':aag}{fz':List (Str×Addr)}{aw U W:aag}{aa:Shared}
theorem aqK{ω:aab}{x y:Str}{t:T}(h:(er x ω).lookup y=some t):y≠x/\ω.lookup y=some t:=by
 rw [aak] at h
 split at h
 . exact nos h
 . exact ⟨by assumption,h⟩
theorem ako (k:FrK γ it r A X a9 a6 env sc) (hb:anz γ it r A X a9 a6 env sc bl) (c:SSt γ it r A X P a9 a6 env sc fz V ad s ρ ω) {target:Expr}{x:Str}{l:List T}{b:List Stmt}{xp pos:Pos}
  (hit:it=true) (hx:ω.lookup x=some (.lst l)) (hn:anx x=true)
  (h:afX (acF sc (x ::fz.map (·.1)) target) (λρ ω K=>bl (x ::fz.map (·.1)) b ρ ω K) (ρ.map (·.1)) ((er x ω).map (·.1)) l ρ (er x ω) λo=>(match o with
    | .nx ρ ω=>K (.nx (er x ρ) ((x,.lst l) ::er x ω))
    | .rt t=>K (.rt t)
    | .br _ _=>False)):aaZ γ it r A X P a9 a6 env sc fz K V ad s ω (.For target (.Name x xp) b [] pos):=by
 have hX:=akl hn
 have h1:=hX.1
 have h2:=hX.2
 refine ag λG kG=>?_
 obtain ⟨g1,g2,g3,g4,g5,g6⟩:=c.own x _ hx
 refine (id g6).elim λvs hZ33=>hZ33.elim λhpl rs=>?_
 obtain ⟨nn,ea⟩:=id hpl
 refine kG ?_
 refine wpAny_For ?_ (aht (e:=.Name x xp) rfl)
 refine (eval_Name _ _ _ h1)▸?_
 refine atY (at7 (aaA c.slots.kind g1 h2 ?_))
 refine at1 (alQ (V:=V) (target:=target) (k.aok.free hit) c.cx.wd.tabs hpl rs) (λi aa h=>?_) aah
 obtain ⟨I,W,St,hi,Tn,st,e,hw,wl⟩:=h
 rw [hi]
 have live_s:∀ b o,s.heap.get? b=some o->¬ W b:=λb o e z=>nos ((hw b z).symm.trans e)
 have al:=(c.shrink k e hw wl).forget (x:=x)
 have lv:∀ b,aa.heap.get? b=none->s.heap.get? b=none:=λb h=>e.there b id h
 have lup:∀ b o,s.heap.get? b=some o->∃ o,aa.heap.get? b=some o:=λb o h=>aiC (lv b) ⟨o,h⟩
 have bo:∀ y t,(er x ω).lookup y=some t->y≠x/\ω.lookup y=some t:=λy t hy=>aqK hy
 have apart_x:∀ y t,(er x ω).lookup y=some t->ad y≠ad x:=λy t hy z=>(bo y t hy).1 (c.apart y x t _ (bo y t hy).2 hx z)
 have ah:SSt γ it r A X (λb=>(P b\/W b)\/b=ad x) a9 a6 env sc ((x,ad x) ::fz) (λb=>V b/\¬ W b) ad aa ρ (er x ω):=by
  have aR:SSt γ it r A X (λb=>(P b\/W b)\/b=ad x) a9 a6 env sc fz (λb=>V b/\¬ W b) ad aa ρ (er x ω):=
   al.moveW k (Z:=λ_=>False) (ExtX.refl _) (λ_ h=>h.elim) (λ_ h=>h.elim) (λ_ h=>h.elim) (λ_ _ _ h=>h.elim) (λb hb=>by
    rcases hb with (hb | hb) | hb
    . exact al.offP b hb
    . exact ⟨λh=>h.2 hb,λhx=>by obtain ⟨o,e⟩:=aaM c.slots k.isX b hx;exact live_s b o e hb,wl b hb⟩
    . exact ⟨λh=>g2 (hb▸h.1),λh=>g3 (hb▸h),hb▸lup _ _ ea⟩) (λ_ h _=>h) al.offX
    (λy t hy=>⟨(al.own y t hy).nV,λh=>by
      rcases h with (h | h) | h
      . exact (al.own y t hy).nP h
      . obtain ⟨o,e,_⟩:=(c.own y t (bo y t hy).2).own.obj (s:=s);exact live_s _ o e h
      . exact apart_x y t hy h⟩) (λp hp=>⟨hp,.inl (.inl (al.frz p hp).2)⟩) al.vw al.fr
  have fr':∀ p∈(x,ad x) ::fz,Sees aa.heap env p.1 (.ref p.2)/\((P p.2\/W p.2)\/p.2=ad x):=λp hp=>by
   refine (List.mem_cons.mp hp).elim ?_ ?_
   . rintro rfl
     exact ⟨(((c.run k e).own x _ hx).1),.inr rfl⟩
   . rintro hp
     exact aR.frz p hp
  exact ⟨aR.cx,aR.slots,aR.offX,aR.fr,aR.own,aR.apart,aR.offP,fr',aR.ext,aR.vw⟩
 refine ajr k hb Tn (P':=λb=>(P b\/W b)\/b=ad x) (fz':=(x,ad x) ::fz) (aw:=λb=>V b/\¬ W b) (ρ:=ρ) (ω:=er x ω) (ad:=ad) (K':=λo=>(match o with
   | .nx ρ ω=>K (.nx (er x ρ) ((x,.lst l) ::er x ω))
   | .rt t=>K (.rt t)
   | .br _ _=>False)) ?_ ?_ (λa ha=>lup a _ ha.2.choose_spec) (λa ha=>⟨⟨ha.1,live_s a _ ha.2.choose_spec⟩,lup a _ ha.2.choose_spec⟩) (λb hb=>.inl (.inr hb)) (λb hb=>c.ext.there b id (hw b hb)) st ah h ?_ ?_
 . rintro q hq ⟨hv | hv,_⟩
   . exact c.offX q hq hv
   . exact g3 (hv▸hq)
 . rintro y t hy ⟨hv | hv,_⟩
   . exact (c.own y t (bo y t hy).2).nV hv
   . exact apart_x y t hy hv
 . intro ai s' af au V' ad' hK aj aW xW
   have lvf:∀ q,s'.heap.get? q=none->s.heap.get? q=none:=λq hq=>by
    by_cases hw':W q
    . exact hw q hw'
    . exact lv q (aW.lv q (xW.there q hw' hq))
   have PX:∀ b,W b->¬ X b:=λb hb=>(aj.offP b (.inl (.inr hb))).2.1
   have zc:∀ y cc,abJ (sc.lookup y)->env.cells.lookup y=some cc->¬ W cc:=by
    rintro y cc (h | h) hc
    . obtain ⟨_,c',_,_,h1,h2,_⟩:=aj.slots.cell y h
      exact soi (h1.symm.trans hc)▸λz=>PX _ z h2
    . refine (k.fre y cc h hc).elim λo e'=>?_
      exact λz=>nos ((c.ext.there _ id (hw _ z)).symm.trans e')
   have aM:SSt γ it r A X P a9 a6 env sc fz (λq=>V' q\/W q) ad' s' af au:=by
    refine aj.moveW k xW (λb hb=>c.ext.there b id (hw b hb)) (λb hb h=>(aj.offP b (.inl (.inr hb))).1 h) PX (λy t hy h=>(aj.own y t hy).nP (.inl (.inr h))) (λq hq=>?_) (λ_ h _=>.inl h)
     (λq hq h=>h.elim (aj.offX q hq) λh=>PX q h hq) (λy t hy=>⟨λh=>h.elim (aj.own y t hy).nV λh=>(aj.own y t hy).nP (.inl (.inr h)),λh=>(aj.own y t hy).nP (.inl (.inl h))⟩)
     (λp hp=>⟨.tail _ hp,(c.frz p hp).2⟩) (λq hq=>hq.elim (aj.vw q) λh=>.inr (c.ext.there q id (hw q h))) (λq hq=>?_)
    . refine (c.offP q hq).elim λg1 hX1=>hX1.elim λg2 hX2=>hX2.elim λo g3=>?_
      exact ⟨λh=>h.elim (aj.offP q (.inl (.inl hq))).1 λh=>live_s q o g3 h,g2,aiC (lvf q) ⟨o,g3⟩⟩
    . by_cases hw':W q
      . exact .inr hw'
      . exact .inl (aj.fr q (xW.there q hw' hq))
   -- all that was changed
   have xall:ExtX (λq=>X q\/∃ y t,(er x ω).lookup y=some t/\q=ad y) s s':=by
    refine ExtX.thenW (W:=W) e.toX ((aW.x.mono ?_).trans (xW.mono λ_ h=>.inr h)) hw
    rintro q ((hq | hq) | hq)
    . exact .inl (.inl hq)
    . exact .inr hq
    . exact .inl (.inr hq)
   have upV:∀ q,V q->(∃ o,s.heap.get? q=some o)->V' q\/W q:=λq hq hZ16=>hZ16.elim λo ho=>.inl (aW.up q ⟨hq,live_s q o ho⟩ (lup q o ho))
   have own':OwnT (λq=>V' q\/W q) s'.heap (ad x) (.lst l):=g6.shift (s:=s) (s':=s') upV (λq o nn hq eq=>xall.keepC q o nn (λz=>by
     rcases z with z | ⟨y,t,hy,z⟩
     . exact c.offX q z hq
     . exact (c.own y t (bo y t hy).2).nV (z▸hq)) eq) λo nn eq=>xall.keepC _ o nn (λz=>by
     rcases z with z | ⟨y,t,hy,z⟩
     . exact g3 z
     . exact apart_x y t hy z.symm) eq
   refine ⟨_,hK,_,_,(aM.adopt (x:=x) (a:=ad x) (((aj.frz _ (.head _)).1).zone aj.cx.envS (λo e=>xW.keep _ o aj.cx.loc (λz=>PX _ z aj.slots.loc.1) e) λy cc o h1 h2 n e=>xW.keepC _ o n (zc y cc h1 h2) e) own' (λz=>z.elim (aj.offP _ (.inr rfl)).1 (live_s _ _ ea)) g3 g4 g5 (λy u hy z=>(aj.own y u hy).nP (.inr z))),⟨xall.mono λq hq=>hq.imp id λhX=>hX.elim λy hX1=>hX1.elim λt hX2=>hX2.elim λhy z=>⟨y,t,(bo y t hy).2,z⟩,lvf,λq hq=>?_,upV,λy t hy=>?_⟩⟩
   . rcases hq with hq | hq
     . refine (aW.dn q hq).elim ?_ ?_
       . rintro z
         exact .inl z.1
       . rintro z
         exact .inr (lv q z)
     . exact .inr (hw q hq)
   . rw [lookup_cons] at hy
     by_cases hyx:y=x
     . rw [if_pos hyx];exact .inl ⟨x,_,hx,rfl⟩
     . rw [if_neg (by simpa using hyx),aak,if_neg hyx] at hy
       rw [if_neg hyx]
       refine (aW.ow y t hy).elim ?_ ?_
       . rintro ⟨z,u,h1,h2⟩
         exact .inl ⟨z,u,(bo z u h1).2,h2⟩
       . rintro z
         exact .inr (lv _ z)
 . intro s' t v hK x' rv
   exact ⟨_,hK,x',rv⟩
end
set_option backward.match.sparseCases false
section
variable{P':aag}{fz':List (Str×Addr)}{aw U W:aag}{aa:Shared}{n':Nat}
noncomputable def HkOK (γ:Gm) (it:Bool) (r:Nat) (A:Around) (X:aag) (a9:aag) (a6:Shared) (env:Env) (sc:aad) (hk:HkS):Prop:=
 ∀ st F,hk st=some F->∀ (P:aag) (fz:List (Str×Addr)) ρ ω K V ad s,F (fz.map (·.1)) ρ ω K->SSt γ it r A X P a9 a6 env sc fz V ad s ρ ω->aaZ γ it r A X P a9 a6 env sc fz K V ad s ω st
theorem HkOK.none:HkOK γ it r A X a9 a6 env sc afY:=λst F h=>nomatch h
variable{hk:HkS}
theorem afp (sg:SgOK γ S it r) (k:FrK γ it r A X a9 a6 env sc) (c:SSt γ it r A X P a9 a6 env sc fz V ad s ρ ω) {x:Str}{xp p:Pos}{v:Expr}(h:adQ (aam S it (n+1)) sc (fz.map (·.1)) x v ρ ω K):aaZ γ it r A X P a9 a6 env sc fz K V ad s ω (.Assign [.Name x xp] v p):=by
 refine (gd_ h).elim λh1 h2=>?_
 cases hv:age v with
 | true=>exact aqB (aal sg (n+1)) k c hv h1 h2
 | false=>exact aqI sg k c hv h1 h2
theorem aqL{ev:EvF}{fz:List Str}{x:Str}{v:Expr}{G:Expr->Prop}(h:acG ev sc ow fz x v ρ ω K) (pl:∀ v,adQ ev sc fz x v ρ ω K->G v) (li:∀ es p,acG ev sc ow fz x (.List es p) ρ ω K->G (.List es p)) (di:∀ ks vs p,acG ev sc ow fz x (.Dict ks vs p) ρ ω K->G (.Dict ks vs p))
  (po:∀ y yp m ap as kws p,acG ev sc ow fz x (.Call (.Attribute (.Name y yp) m ap) as kws p) ρ ω K->G (.Call (.Attribute (.Name y yp) m ap) as kws p)):G v:=by
 cases v with
 | List es p=>exact li es p h
 | Dict ks vs p=>exact di ks vs p h
 | Call g as kws p=>cases g with
  | Attribute o m ap=>cases o with
   | Name y yp=>exact po y yp m ap as kws p h
   | _=>exact pl _ h
  | _=>exact pl _ h
 | _=>exact pl _ h
theorem aoa{ev:EvF}{fz:List Str}{t v:Expr}{G:Expr->Prop}(h:asgF it ev sc ow fz t v ρ ω K) (n:∀ x p,acG ev sc ow fz x v ρ ω K->G (.Name x p)) (tu:∀ es k p,apt it ev sc ow fz es v ρ ω K->G (.Tuple es k p)) (sb:∀ x xp i p,alJ ev sc x i v ρ ω K->G (.Subscript (.Name x xp) i p)):G t:=by
 cases t with
 | Name x p=>exact n x p h
 | Tuple es k p=>exact tu es k p h
 | Subscript o i p=>cases o with
  | Name x xp=>exact sb x xp i p h
  | _=>exact h.elim
 | _=>exact h.elim
theorem aqM{v:Expr}{F:List Expr->Prop}{G:Expr->Prop}(h:match v with
  | .Tuple vs _ _=>F vs
  | _=>False) (k:∀ vs k p,F vs->G (.Tuple vs k p)):G v:=by
 cases v with
 | Tuple vs kk p=>exact k vs kk p h
 | _=>exact h.elim
theorem alR (sg:SgOK γ S it r) (k:FrK γ it r A X a9 a6 env sc) (c:SSt γ it r A X P a9 a6 env sc fz V ad s ρ ω) {t v:Expr}{p:Pos}(h:asgF it (aam S it (n+1)) sc ow (fz.map (·.1)) t v ρ ω K):aaZ γ it r A X P a9 a6 env sc fz K V ad s ω (.Assign [t] v p):=by
 have hs:=aal (γ:=γ) sg (n+1)
 refine aoa (G:=λt=>aaZ γ it r A X P a9 a6 env sc fz K V ad s ω (.Assign [t] v p)) h (λx xp h=>?_) (λes kk tp h=>?_) λ_ _ _ _ h=>asK hs k c h
 . refine aqL (G:=λv=>aaZ γ it r A X P a9 a6 env sc fz K V ad s ω (.Assign [.Name x xp] v p)) h (λ_ h=>afp sg k c h) (λ_ _ h=>aqF hs k c h) (λks vs _ h=>?_) λy yp m ap as kws p h=>?_
   . refine (gd2 h).elim λe hX1=>hX1.elim λh1 h2=>?_
     cases List.isEmpty_iff.mp (Bool.and_eq_true_iff.mp e).1
     exact aqH k c (Bool.and_eq_true_iff.mp h1).1 h2
   . rcases br_ h with ⟨hm,h⟩ | ⟨_,h⟩
     . obtain ⟨e1,e2,h⟩:=gd2 h
       cases List.isEmpty_iff.mp e1
       cases List.isEmpty_iff.mp e2
       exact asJ k c hm h
     . exact afp sg k c h
 . have hX:=gd2 h
   have cs:=hX.1
   have hn:=hX.2.1
   have h:=hX.2.2
   rcases br_ h with ⟨_,h⟩ | ⟨_,h⟩
   . exact aqM (G:=λv=>acE v=true->aaZ γ it r A X P a9 a6 env sc fz K V ad s ω (.Assign [.Tuple es kk tp] v p)) h (λ_ _ _ h hn=>asH hs k c cs hn (gd_ h).1 (gd_ h).2) hn
   . exact asG hs k c cs hn h
theorem aiD (sg:SgOK γ S it r) (k:FrK γ it r A X a9 a6 env sc) (hb:anz γ it r A X a9 a6 env sc bl) (c:SSt γ it r A X P a9 a6 env sc fz V ad s ρ ω) {target iter:Expr}{b:List Stmt}{p:Pos}(h:alK it (aam S it (n+1)) sc bl (fz.map (·.1)) target iter b ρ ω K) :
  aaZ γ it r A X P a9 a6 env sc fz K V ad s ω (.For target iter b [] p):=by
 replace h:=gd2 h
 obtain ⟨hit,hp,h⟩:=h
 cases q:afm iter ω with
 | none=>rw [q] at h;exact ahD (aal sg (n+1)) k hb c hit hp h
 | some p=>
  rw [q] at h
  obtain ⟨x,t⟩:=p
  cases t <;> first | exact h.elim | skip
  obtain ⟨p,rfl,hx⟩:=ahw q
  exact ako k hb c hit hx (gd_ h).1 (gd_ h).2
theorem ahE (sg:SgOK γ S it r) (k:FrK γ it r A X a9 a6 env sc) (hh:HkOK γ it r A X a9 a6 env sc hk) (hb:anz γ it r A X a9 a6 env sc bl) {st:Stmt}(c:SSt γ it r A X P a9 a6 env sc fz V ad s ρ ω)
  (h:stF it (aam S it (n+1)) n' sc ow hk bl (fz.map (·.1)) st ρ ω K):aaZ γ it r A X P a9 a6 env sc fz K V ad s ω st:=by
 have hs:=aal (γ:=γ) sg (n+1)
 refine an4 h (λF q h=>hh st F q P fz ρ ω K V ad s h c) λh=>an3 h (λ_ _ _ h=>alR sg k c h) (λ_ _ _ _ h=>asL hs k c h) (λe p h=>aki (G:=λe=>aaZ γ it r A X P a9 a6 env sc fz K V ad s ω (.Expr e p)) h λ_ _ _ _ _ _ h=>ahB hs k c h) (λ_ _ _ _ h=>st_if hs k hb c h)
  (λ_ _ _ h=>an8 hs k hb c h) (λ_ _ _ _ h=>aiD sg k hb c h) (λ_ _ h=>alL hs c h) (λ_ h=>wpAny_Return_none ⟨_,h,c.ext,.none⟩) λ_ h=>wpAny_Break ⟨_,h,V,ad,c,Stp.refl⟩
theorem acT (sg:SgOK γ S it r) (k:FrK γ it r A X a9 a6 env sc) (hh:HkOK γ it r A X a9 a6 env sc hk):∀ m,anz γ it r A X a9 a6 env sc (blF it (aam S it (n+1)) n' sc ow hk m):=by
 intro m
 induction m with
 | zero=>
  intro P fz ss ρ ω K V ad s h c
  cases ss with
  | nil=>exact au0 ⟨_,h,V,ad,c,Stp.refl⟩
  | cons st ss=>exact h.elim
 | succ m ih=>
  intro P fz ss ρ ω K V ad s h c
  cases ss with
  | nil=>exact au0 ⟨_,h,V,ad,c,Stp.refl⟩
  | cons st ss=>
   exact aqC ih (ahE sg k hh ih c h)
end
set_option backward.match.sparseCases true
noncomputable def afq (p:Arguments):Bool:=p.posonlyargs.isEmpty&&p.vararg.isNone&&p.kwonlyargs.isEmpty&&p.kwarg.isNone
noncomputable def aaR (p:Arguments):List Str:=p.args.map (·.arg)
theorem agh{α β:Type} [BEq α] [LawfulBEq α]:∀ {xs:List α}{ys:List β}{x:α},xs.length=ys.length->x∈xs->((xs.zip ys).lookup x).isSome=true
 | x' ::xs,y ::ys,x,h,hx=>by
  rw [List.zip_cons_cons,List.lookup_cons]
  cases e:x==x' with
  | true=>rfl
  | false=>
   rcases List.mem_cons.mp hx with rfl | hx
   . simp at e
   . exact agh (by simpa using h) hx
theorem akp{β:Type}:∀ {xs:List Str}{ys:List β},acs xs=true->xs.length=ys.length->xs.filterMap (λn=>((xs.zip ys).lookup n).map (n,·))=xs.zip ys:=by
 have gen:∀ {xs:List Str}{ys:List β}{pre:List (Str×β)},acs xs=true->(∀ x∈xs,x∉pre.map (·.1))->xs.length=ys.length->xs.filterMap (λn=>((pre++xs.zip ys).lookup n).map (n,·))=xs.zip ys:=by
  intro xs
  induction xs with
  | nil=>intro ys pre _ _ h;rfl
  | cons x xs ih=>
   intro ys pre hnd hpre h
   cases ys with
   | nil=>cases h
   | cons y ys=>
    obtain ⟨n1,n2⟩:=agf hnd
    have hx:(pre++(x ::xs).zip (y ::ys)).lookup x=some y:=by
     rw [aaN,acj (hpre x (.head _))]
     simp [List.lookup_cons]
    rw [List.filterMap_cons,hx]
    congr 1
    have:=ih (ys:=ys) (pre:=pre++[(x,y)]) n2 (λz hz=>by
     simp only [List.map_append,List.map_cons,List.map_nil,List.mem_append,List.mem_singleton,not_or]
     exact ⟨hpre z (.tail _ hz),λe=>n1 (e▸hz)⟩) (by simpa using h)
    simpa using this
 intro xs ys h1 h2
 simpa using gen (pre:=[]) h1 (λ_ _ h=>by cases h) h2
theorem isn{α:Type}{o:Option α}(h:o.isNone=true) (h':o.isSome=true):False:=by
 cases o with
 | none=>exact ff h'
 | some _=>exact ff h
theorem nf{b:Bool}(h:b=false):¬ b=true:=by rw [h];exact Bool.false_ne_true
theorem skip2{α:Type}{c d:Prop} [Decidable c] [Decidable d] {x y z r:α}(hc:¬c) (hd:¬d) (hr:z=r):(if c then x else if d then y else z)=r:=by rw [if_neg hc,if_neg hd];exact hr
noncomputable def mkF (fd:FuncData) (ar:List Arg):FuncData:={ fd with params:=⟨[],ar,none,[],fd.params.kw_defaults,none,fd.params.defaults⟩,defaults:=.none }
theorem asO{fd:FuncData}(hp:afq fd.params=true) (hd:fd.defaults=.none):mkF fd fd.params.args=fd:=by
 have e:∀ {p:Arguments},afq p=true->⟨[],p.args,none,[],p.kw_defaults,none,p.defaults⟩=p:=λ{p} h=>by
  obtain ⟨a,_,c,d,_,f,_⟩:=p
  cases a with
  | cons _ _=>exact ff h
  | nil=>
  cases c with
  | some _=>exact ff h
  | none=>
  cases d with
  | cons _ _=>exact ff h
  | nil=>
  cases f with
  | some _=>exact ff h
  | none=>rfl
 unfold mkF;rw [e hp,<- hd]
theorem alS{fd:FuncData}{ar:List Arg}{ns:List Str}{vs:List Value}(hns:ar.map (·.arg)=ns) (hnd:acs ns=true) (hn:ns.length=vs.length):bindArgs (mkF fd ar) ⟨vs,[]⟩=pure (ns.zip vs):=by
 subst hns
 have hm:∀ k,((ar.map (·.arg)).take k).filter (λn=>(((ar.map (·.arg)).zip vs).lookup n).isNone)=[]:=λk=>
  List.filter_eq_nil_iff.mpr λx hx=>λz=>isn z (agh hn (List.mem_of_mem_take hx))
 refine skip2 (nf (congrArg (·&&true) (decide_eq_false λz=>auH _ (Nat.lt_of_lt_of_eq z hn.symm)))) (nf (congrArg (λl=>!l.isEmpty) (hm _))) ?_
 dsimp only [Option.getD_none,List.map_nil,List.nil_append]
 rw [List.drop_nil,List.zip_nil_right]
 refine Eq.trans (b:=pure (List.filterMap (λn=>(((ar.map (·.arg)).zip vs).lookup n).map (n,·)) (ar.map (·.arg)++[]))) rfl ?_
 rw [List.append_nil]
 exact congrArg pure (akp hnd hn)
theorem ab1{fd:FuncData}{vs:List Value}(hp:afq fd.params=true) (hd:fd.defaults=.none) (hnd:acs (aaR fd.params)=true) (hn:(aaR fd.params).length=vs.length):bindArgs fd ⟨vs,[]⟩=pure ((aaR fd.params).zip vs):=
 (congrArg (bindArgs · ⟨vs,[]⟩) (asO hp hd)).symm.trans (alS rfl hnd hn)
noncomputable def alT (names:aad):Bool:=names.all λp=>names.lookup p.1==some p.2&&p.2 != .free
noncomputable def fnX (names:aad) (n:Nat):aag:=λb=>b=n\/∃ x,names.lookup x=some .cell/\(cellsFrom (n+1) names []).lookup x=some b
noncomputable def aaI (names:aad) (h:Heap):Heap:=pushCells (h.push { cls:=.type "frame",data:=.dict #[] }) names
section
variable{A':Around}{scope:Scope}
theorem aob (hlo:env.locals=s.heap.objs.size) (hce:env.cells=cellsFrom (s.heap.objs.size+1) scope.names []) (hsc:env.scope=scope) (hg:env.globals=mainGlobals) (hbi:env.builtins=builtinsNs) (hk:scope.kind=.function) (hn:alT scope.names=true)
  (aok:AOK it r A s.heap) (wd:Wd γ s.heap) :
  FrK γ it r A (fnX scope.names s.heap.objs.size) V s env scope.names/\
  SSt γ it r A (fnX scope.names s.heap.objs.size) (λ_=>False) V s env scope.names [] (λa=>((V a/\∃ o,s.heap.get? a=some o)\/s.heap.get? a=none)/\¬ fnX scope.names s.heap.objs.size a) (λ_=>0) { s with heap:=aaI scope.names s.heap } [] []:=by
 have hn':∀ p∈scope.names,scope.names.lookup p.1=some p.2/\p.2≠.free:=by
  intro p hp
  have:=List.all_eq_true.mp hn p hp
  rw [Bool.and_eq_true,beq_iff_eq,bne_iff_ne,ne_eq] at this
  exact this
 have hsz:(s.heap.push { cls:=.type "frame",data:=.dict #[] }).objs.size=s.heap.objs.size+1:=auP ..
 have from_:∀ p∈cellsFrom (s.heap.objs.size+1) scope.names [],(p.1,NameKind.cell)∈scope.names/\s.heap.objs.size+1<=p.2/\(aaI scope.names s.heap).get? p.2=some { cls:=.type "cell",data:=.cell none }:=by
  intro p hp
  refine (aa4 hp).elim ?_ ?_
  . rintro z
    exact nomatch z
  . rintro ⟨z1,z2⟩
    refine ⟨z1,z2,?_⟩
    rw [<- hsz] at hp
    exact (abm hp).elim (λz=>nomatch z) id
 have lcell:∀ x,scope.names.lookup x=some .cell->∃ cc,(cellsFrom (s.heap.objs.size+1) scope.names []).lookup x=some cc/\s.heap.objs.size+1<=cc/\(aaI scope.names s.heap).get? cc=some { cls:=.type "cell",data:=.cell none }/\(x,cc)∈cellsFrom (s.heap.objs.size+1) scope.names []:=by
  intro x hx
  refine (abl (n:=s.heap.objs.size+1) (acc:=[]) (mem_of_lookup hx)).elim λc0 h0=>?_
  obtain ⟨c1,h1,h2⟩:=abT h0
  have z2:=(from_ _ h2).2.1
  have z3:=(from_ _ h2).2.2
  exact ⟨c1,h1,z2,z3,h2⟩
 have hdict:(aaI scope.names s.heap).get? s.heap.objs.size=some { cls:=.type "frame",data:=.dict #[] }:=pushCells_keeps _ _ _ _ (at4 _ rfl)
 have ok:=(cellsFrom_ok scope.names (s.heap.push { cls:=.type "frame",data:=.dict #[] }) (s.heap.objs.size+1) [] ⟨λ_ _ hm=>(nomatch hm),List.Pairwise.nil⟩ (by rw [hsz];exact auf _)).apart
 rw [hsz] at ok
 have ext:Ext s { s with heap:=aaI scope.names s.heap }:=Ext.of (tk:=s.toks) (λb o e=>pushCells_keeps _ _ b o (atZ _ e))
 have kin:∀ x,env.kindOf x=scope.names.lookup x:=λx=>by unfold Env.kindOf;exact hsc.symm▸rfl
 have Xf:∀ b,fnX scope.names s.heap.objs.size b->s.heap.get? b=none:=by
  rintro b (h | ⟨x,hx,h⟩)
  . rw [h];exact aan
  . obtain ⟨c1,g1,g2,_⟩:=lcell x hx
    replace g1:=h▸g1;cases g1
    exact at6 (aun g2)
 have Xl:∀ b,fnX scope.names s.heap.objs.size b->∃ o,(aaI scope.names s.heap).get? b=some o:=by
  rintro b (h | ⟨x,hx,h⟩)
  . refine h▸?_;exact ⟨_,hdict⟩
  . obtain ⟨c1,g1,g2,g3,_⟩:=lcell x hx
    replace g1:=h▸g1;cases g1
    exact ⟨_,g3⟩
 have kk:FrK γ it r A (fnX scope.names s.heap.objs.size) V s env scope.names:=by
  refine ⟨?_,Xf,(λy c h=>absurd h ((λx hx=>(hn' _ (mem_of_lookup hx)).2 rfl:∀ x,scope.names.lookup x≠some .free) y)),wd,aok⟩
  rintro b (h | ⟨x,hx,h⟩)
  . exact .inl (h.trans hlo.symm)
  . exact .inr ⟨x,hx,by rw [hce];exact h⟩
 have eS:EnvS env scope.names:=by
  refine ⟨(by rw [hsc];exact hk),hg,hbi,(λx=>.inl (kin x)),?_⟩
  rintro x (h | h)
  . obtain ⟨cc,h1,_⟩:=lcell x h;exact ⟨cc,by rw [hce];exact h1⟩
  . exact absurd h ((λx hx=>(hn' _ (mem_of_lookup hx)).2 rfl:∀ x,scope.names.lookup x≠some .free) x)
 have sl:Slots (fnX scope.names s.heap.objs.size) (aaI scope.names s.heap) env scope.names:=by
  refine ⟨(by rw [hsc];exact hk),?_,?_,?_,?_,?_⟩
  . refine hlo.symm▸?_;exact ⟨.inl rfl,_,_,_,hdict,rfl,by intro e he;simp at he⟩
  . intro x hx
    refine (lcell x hx).elim λcc hX1=>hX1.elim λh1 hX2=>hX2.elim λh2 hX3=>hX3.elim λh3 h4=>?_
    exact ⟨.inl ((kin x).trans hx),cc,_,_,(by rw [hce];exact h1),.inr ⟨x,hx,h1⟩,(by rw [hlo];exact auJ h2),h3,rfl,rfl⟩
  . intro x y cc hx h1 h2
    rw [hce] at h1 h2
    exact name_of_addr ok (mem_of_lookup h1) (mem_of_lookup h2)
  . intro y cc h1 h2
    rw [hce] at h1
    refine (from_ _ (mem_of_lookup h1)).elim λ_ hX1=>hX1.elim λz _=>?_
    rw [h2,hlo] at z;exact auH _ z
  . intro x hx;exact (kin x).trans hx
 have lvc:∀ x c,abJ (scope.names.lookup x)->env.cells.lookup x=some c->∃ o,(aaI scope.names s.heap).get? c=some o/\o.cls=.type "cell":=by
  intro x c hc h
  rw [hce] at h
  refine (from_ _ (mem_of_lookup h)).elim λ_ hX1=>hX1.elim λ_ z=>?_
  exact ⟨_,z,rfl⟩
 refine ⟨kk,{ cx:=⟨aok.ext ext,wd.ext ext,eS,(by refine hlo▸?_;exact acg wd.tabs (auf _)),(λx t h=>nomatch h),lvc⟩,slots:=sl,offX:=(λb hb h=>h.2 hb),fr:=?_,own:=(λx t h=>nomatch h),apart:=(λx y t u h=>nomatch h),offP:=(λb hb=>hb.elim),frz:=(λp hp=>nomatch hp),ext:=ext,vw:=?_ }⟩
 . intro a e
   refine ⟨.inr (ext.there a id e),λhx=>?_⟩
   obtain ⟨o,z⟩:=Xl a hx
   replace e:=(show ({ s with heap:=aaI scope.names s.heap }:Shared).heap=aaI scope.names s.heap from rfl)▸e;replace e:=z▸e;exact son e
 . intro a h
   exact h.1.elim (λz=>.inl z.1) .inr
theorem SSt.around{X P a9:aag}{a6:Shared}{fz:List (Str×Addr)}{ad:Str->Addr}{ρ ω:aab}(c:SSt γ it r A X P a9 a6 env sc fz V ad s ρ ω) (h:AOK it r A' s.heap):SSt γ it r A' X P a9 a6 env sc fz V ad s ρ ω:=
 ⟨⟨h,c.cx.wd,c.cx.envS,c.cx.loc,c.cx.vars,c.cx.live⟩,c.slots,c.offX,c.fr,c.own,c.apart,c.offP,c.frz,c.ext,c.vw⟩
theorem aqN{x:Str}{ω:aab}(h:ω.lookup x=none):er x ω=ω:=
 List.filter_eq_self.mpr λp hp=>by
  show (p.1 != x)=true
  exact bne_iff_ne.mpr λe=>List.lookup_eq_none_iff.mp h p hp |> λq=>by rw [e] at q;simp at q
theorem aeD{X P a9:aag}{a6:Shared}{ad:Str->Addr}{fz:List (Str×Addr)}{ω:aab}(k:FrK γ it r A X a9 a6 env sc):∀ {xs:List Str}{vs:List Value}{ts:List T}{ρ:aab}{s:Shared}{Q:PUnit->Shared->Prop}{E:Value->Shared->Prop},(∀ x∈xs,abW sc x=true/\ω.lookup x=none/\∀ p∈fz,p.1≠x)->xs.length=ts.length->RepL V s.heap vs ts->
  SSt γ it r A X P a9 a6 env sc fz V ad s ρ ω->
  (∀ s',SSt γ it r A X P a9 a6 env sc fz V ad s' ((xs.zip ts).reverse++ρ) ω->Q ⟨⟩ s')->wpAny (model pg γ.w) A (forIn (xs.zip vs) PUnit.unit λ(p:Str×Value) (_:PUnit)=>(do storeName env p.1 p.2;pure (ForInStep.yield ⟨⟩):Sem _)) Q E s:=by
 intro xs
 induction xs with
 | nil=>
  intro vs ts ρ s Q E ho h rs c q
  cases ts with
  | nil=>exact at3 (q s c)
  | cons=>cases h
 | cons x xs ih=>
  intro vs ts ρ s Q E ho h rs c q
  cases rs with
  | nil=>cases h
  | cons r rs=>
   refine List.zip_cons_cons▸?_;rw [List.forIn_cons]
   have hx:=ho x (.head _)
   refine atY (atY (c.put k hx.1 hx.2.2 r λa8 al aP lv=>at3 ?_))
   replace al:=(aqN hx.2.1)▸al
   refine ih (λy hy=>ho y (.tail _ hy)) (Nat.succ.inj h) (rs.extX aP c.offX) al λaa ah=>q aa ?_
   rw [List.zip_cons_cons,List.reverse_cons,List.append_assoc]
   exact ah
theorem aiE{X a9:aag}{a6:Shared}{ad:Str->Addr}(k:FrK γ it r A X a9 a6 env sc):∀ {xs:List Str}{vs:List Value}{ts:List T}{ρ:aab}{s:Shared}{Q:PUnit->Shared->Prop}{E:Value->Shared->Prop},(∀ x∈xs,abW sc x=true)->xs.length=ts.length->RepL V s.heap vs ts->
  SSt γ it r A X (λ_=>False) a9 a6 env sc [] V ad s ρ []->
  (∀ s',SSt γ it r A X (λ_=>False) a9 a6 env sc [] V ad s' ((xs.zip ts).reverse++ρ) []->Q ⟨⟩ s')->wpAny (model pg γ.w) A (forIn (xs.zip vs) PUnit.unit λ(p:Str×Value) (_:PUnit)=>(do storeName env p.1 p.2;pure (ForInStep.yield ⟨⟩):Sem _)) Q E s:=
 λho h rs c q=>aeD (P:=λ_=>False) (fz:=[]) (ω:=[]) k (λx hx=>⟨ho x hx,rfl,λp hp=>nomatch hp⟩) h rs c q
end
section
variable{n':Nat}{A':Around}{scope:Scope}
noncomputable def aqO (K:T->Prop):Out->Prop
 | .rt t=>K t
 | .nx _ _=>K .none
 | .br _ _=>False
noncomputable def ajs (stm:Stmt):Bool:=
 (aaD stm).kind==.function&&!(aaD stm).isCoroutine&&!(aaD stm).isGenerator&&afq (afW stm)&&acs (aaR (afW stm))&&alT (aaD stm).names&&(aaR (afW stm)).all (abW (aaD stm).names)
theorem alU{M:Model}{A:Around}{E:Value->Shared->Prop}{s:Shared}{scope:Scope}{g bi:Addr}{binds:List (Str×Value)}{qual:Str}{f:Option Addr}{code:Value}{Q:Env->Shared->Prop}
  (h:∀ env,env={ scope:=scope,locals:=s.heap.objs.size,globals:=g,cells:=cellsFrom (s.heap.objs.size+1) scope.names [],qual:=qual,func:=f,code:=code,frame:=some s.heap.objs.size,builtins:=bi }->
    wpAny M A (forIn binds PUnit.unit λ(p:Str×Value) (_:PUnit)=>(do storeName env p.1 p.2;pure (ForInStep.yield ⟨⟩):Sem _)) (λ_ s'=>Q env s') E { s with heap:=aaI scope.names s.heap }) :
  wpAny M A (newFunctionEnv scope g [] binds qual f code none bi) Q E s:=by
 dsimp only [newFunctionEnv,Option.isSome_none,Bool.false_eq_true,if_false]
 refine atY (wpAny_alloc ?_)
 refine atY (wpAny_layCells _ (λname kind cells=>by exact ite_cond_congr rfl) _ _ _ _ ?_)
 refine (show ({ s with heap:=s.heap.push { cls:=.type "frame",data:=.dict #[] } }:Shared).heap.objs.size=s.heap.objs.size+1 from auP ..)▸?_
 exact atY (at1 (h _ rfl) (λ_ s' hq=>at3 hq) λ_ _ e=>e)
theorem adS{a:Addr}{stm:Stmt}(hf:FnIn γ.KF a stm) (hh:ajs stm=true) (wd:Wd γ s.heap) (aok:AOK it (r+1) A s.heap) {vs:List Value}{ts:List T}(rs:RepL V s.heap vs ts) (hlen:ts.length=(aaR (afW stm)).length) {R:Result->Shared->Prop}
  (h:∀ env a8 X V',env.frame=some env.locals->FrK γ it r (A.deeper env) X V s env (aaD stm).names->SSt γ it r (A.deeper env) X (λ_=>False) V s env (aaD stm).names [] V' (λ_=>0) a8 ((aaR (afW stm)).zip ts).reverse []->
    wpAny (model pg γ.w) (A.deeper env) (execs (abE stm) env) (λf s'=>R (.ok (.ret (match f with | .ret v=>v | _=>.none))) s')
     (λe s'=>wpAny (model pg γ.w) (A.deeper env) (leaving env e) (λ_ s''=>R (.error e) s'') (λe' s''=>R (.error e') s'') s') a8) :
  codeAny (model pg γ.w) A (.call (.ref a) ⟨vs,[]⟩) R s:=by
 refine ag λG kG=>?_
 obtain ⟨o,fd,c,oc,cvs,t,k1,k2,k3,k4,k5,k6,k7,k8,k9,k10,k11,k12,k13,k14,k15⟩:=hf
 unfold ajs at hh
 simp only [Bool.and_eq_true,beq_iff_eq,Bool.not_eq_true'] at hh
 refine (hh).elim λhZ69 h7=>hZ69.elim λhZ70 h6=>hZ70.elim λhZ71 h5=>hZ71.elim λhZ72 h4=>hZ72.elim λhZ73 h3=>hZ73.elim λh1 h2=>?_
 refine kG ?_
 refine codeAny_call_function (by have:=aok.depth;exact auc (at9 _ _) this) (wd.k _ _ k1) k3 (by rw [k6];exact h2) (by rw [k6];exact h3) k5 ⟨c,oc,cvs,t,k12,wd.k _ _ k13,k14,k15⟩ ?_
 rw [ab1 (by rw [k4];exact h4) k10 (by rw [k4];exact h5) (by rw [k4];exact (by rw [rs.length,hlen]:vs.length=(aaR (afW stm)).length).symm),k9,k4,k6]
 refine at3 (alU λenv he=>?_)
 have ext:Ext s { s with heap:=aaI (aaD stm).names s.heap }:=Ext.of (tk:=s.toks) λb o e=>pushCells_keeps _ _ b o (atZ _ e)
 refine (aob (γ:=γ) (V:=V) (A:=A.in1) (it:=it) (r:=r) (env:=env) (scope:=aaD stm) (by rw [he]) (by rw [he]) (by rw [he]) (by rw [he];exact k7) (by rw [he];exact k8) h1 h6 aok.in1 wd).elim λkk al=>?_
 have live_off:∀ b o,s.heap.get? b=some o->¬ fnX (aaD stm).names s.heap.objs.size b:=λb o e z=>by replace e:=(kk.Xf b z)▸e;exact nos e
 have b8:=rs.shift (s:=s) (s':={ s with heap:=aaI (aaD stm).names s.heap }) (V':=λa=>((V a/\∃ o,s.heap.get? a=some o)\/s.heap.get? a=none)/\¬ fnX (aaD stm).names s.heap.objs.size a)
  (λb hb hZ1=>hZ1.elim λo e=>⟨.inl ⟨hb,o,e⟩,live_off b o e⟩) λb o n hb e=>ext.keepC b o n id e
 refine aiE kk (λx hx=>List.all_eq_true.mp h7 x hx) hlen.symm b8 al λaa ah=>?_
 rw [List.append_nil] at ah
 refine ⟨ah.cx.wd.nolimit,codeAny_func ?_⟩
 exact h env aa _ _ (by rw [he]) (⟨kk.isX,kk.Xf,kk.fre,wd,aok.deeper⟩) (ah.around (aok.deeper.ext ah.ext))
theorem agR{a:Addr}{stm:Stmt}(hf:FnIn γ.KF a stm) (hh:ajs stm=true) (wd:Wd γ s.heap) (aok:AOK it (r+1) A s.heap) {vs:List Value}{ts:List T}(rs:RepL V s.heap vs ts) (hlen:ts.length=(aaR (afW stm)).length) {R:Result->Shared->Prop}
  (h:∀ env a8 X V' A',FrK γ it r A' X V s env (aaD stm).names->SSt γ it r A' X (λ_=>False) V s env (aaD stm).names [] V' (λ_=>0) a8 ((aaR (afW stm)).zip ts).reverse []->
    wpAny (model pg γ.w) A' (execs (abE stm) env) (λf s'=>R (.ok (.ret (match f with | .ret v=>v | _=>.none))) s') No a8) :
  codeAny (model pg γ.w) A (.call (.ref a) ⟨vs,[]⟩) R s:=
 adS hf hh wd aok rs hlen λenv a8 X V' _ k c=>at1 (h env a8 X V' _ k c) (λ_ _ e=>e) aah
theorem aa0{a:Addr}{stm:Stmt}{F:List T->(T->Prop)->Prop}(hf:FnIn γ.KF a stm) (hh:ajs stm=true) (sg:SgOK γ S it r)
  (hF:∀ ts K,F ts K->ts.length=(aaR (afW stm)).length/\blF it (aam S it (n+1)) n' (aaD stm).names ow afY m [] (abE stm) ((aaR (afW stm)).zip ts).reverse [] (aqO K)):CallOK γ (Wd γ) it (r+1) (.ref a) F:=by
 intro A V s vs ts K aok wd rs hK
 refine (hF ts K hK).elim λhlen hb=>?_
 refine auX (agR hf hh wd aok rs hlen λenv a8 X V' A' k c=>?_)
 refine at1 (acT (n:=n) (n':=n') (ow:=ow) sg k HkOK.none m (λ_=>False) [] (abE stm) _ [] (aqO K) V' (λ_=>0) a8 hb c) (λf aa p=>?_) aah
 exact ab0 p (λ_ _ _ _ ho ah _=>⟨_,ho,ah.ext,.none⟩) (λ_ _ _ _ ho _ _=>(show False from ho).elim) λ_ _ ho x rv=>⟨_,ho,x,rv⟩
theorem CallOK.le{f:Value}{F:List T->(T->Prop)->Prop}{r':Nat}(h:CallOK γ (Wd γ) it r f F) (e:r<=r'):CallOK γ (Wd γ) it r' f F:=λA V s vs ts K aok wd rs hK=>h A V s vs ts K (aok.le e) wd rs hK
theorem CallOK.always{f:Value}{F:List T->(T->Prop)->Prop}(h:CallOK γ (Wd γ) false r f F):CallOK γ (Wd γ) it r f F:=λA V s vs ts K aok wd rs hK=>h A V s vs ts K aok.off wd rs hK
theorem CallOK.weaken{f:Value}{F G:List T->(T->Prop)->Prop}(h:CallOK γ (Wd γ) it r f F) (e:∀ ts K,G ts K->F ts K):CallOK γ (Wd γ) it r f G:=λA V s vs ts K aok wd rs hK=>h A V s vs ts K aok wd rs (e ts K hK)
end
set_option backward.match.sparseCases false
section
variable{wd:Heap->Prop}
theorem alV:∀ {h:Heap}{ns:List Int}{vs:List Value},RepL V h vs (ns.map T.int)->∃ xs:List (Int×Tok),vs=xs.map (λp=>.int p.1 p.2)/\xs.map (·.1)=ns:=by
 intro h ns
 induction ns with
 | nil=>intro vs r;exact ⟨[],adJ r,rfl⟩
 | cons n ns ih=>
  intro vs r
  obtain ⟨v,us,rfl,a,b⟩:=acN r
  clear r
  refine agE a λt=>?_
  obtain ⟨xs,rfl,rfl⟩:=ih b
  exact ⟨(n,t) ::xs,rfl,rfl⟩
theorem ajt{h:Heap}{ns:List Int}{ws:Array Value}(r:RepL V h ws.toList (ns.map T.int)):∃ xs:List (Int×Tok),ws=intItems xs.toArray/\xs.map (·.1)=ns:=by
 refine (alV r).elim λxs hX1=>hX1.elim λh1 h2=>?_
 exact ⟨xs,by apply Array.toList_inj.mp;rw [h1];simp [intItems],h2⟩
theorem adA{t:Sem Value}{i:Int}{K:T->Prop}(hK:K (.int i)) (h:∀ Q:Value->Shared->Prop,(∀ h' tk t',(∀ b o,s.heap.get? b=some o->h'.get? b=some o)->Q (.int i t') { s with heap:=h',toks:=tk })->wpAny (model pg γ.w) A t Q No s):Ev γ A V s t K:=
 h _ λh' tk t' k=>⟨_,hK,Ext.of k,.int _ _⟩
noncomputable def asP (ts:List T) (K:Int->Prop):Prop:=match ts with
 | [.int a]=>K a
 | _=>False
noncomputable def int2 (ts:List T) (K:Int->Int->Prop):Prop:=match ts with
 | [.int a,.int b]=>K a b
 | _=>False
noncomputable def lst1 (ts:List T) (K:List T->Prop):Prop:=match ts with
 | [.lst l]=>K l
 | _=>False
noncomputable def tup1 (ts:List T) (K:List T->Prop):Prop:=match ts with
 | [.tup l]=>K l
 | _=>False
noncomputable def one1 (ts:List T) (K:T->Prop):Prop:=match ts with
 | [t]=>K t
 | _=>False
theorem one1_{ts:List T}{K:T->Prop}(h:one1 ts K):∃ t,ts=[t]/\K t:=by
 cases ts with
 | nil=>exact h.elim
 | cons a r=>cases r <;> first | exact h.elim | exact ⟨a,rfl,h⟩
theorem alW{ts:List T}{K:Int->Prop}(h:asP ts K):∃ a,ts=[.int a]/\K a:=by
 cases ts with
 | nil=>exact h.elim
 | cons t r=>cases t <;> first | exact h.elim | (cases r <;> first | exact h.elim | exact ⟨_,rfl,h⟩)
theorem asR{ts:List T}{K:List T->Prop}(h:lst1 ts K):∃ a,ts=[.lst a]/\K a:=by
 cases ts with
 | nil=>exact h.elim
 | cons t r=>cases t <;> first | exact h.elim | (cases r <;> first | exact h.elim | exact ⟨_,rfl,h⟩)
theorem tup1_{ts:List T}{K:List T->Prop}(h:tup1 ts K):∃ a,ts=[.tup a]/\K a:=by
 cases ts with
 | nil=>exact h.elim
 | cons t r=>cases t <;> first | exact h.elim | (cases r <;> first | exact h.elim | exact ⟨_,rfl,h⟩)
theorem asS{ts:List T}{K:Int->Int->Prop}(h:int2 ts K):∃ a b,ts=[.int a,.int b]/\K a b:=by
 cases ts with
 | nil=>exact h.elim
 | cons t r=>cases t <;> first | exact h.elim | (obtain ⟨b,rfl,h⟩:=alW (ts:=r) (by cases r with
  | nil=>exact h.elim
  | cons t r=>cases t <;> first | exact h.elim | (cases r <;> first | exact h.elim | exact h));exact ⟨_,_,rfl,h⟩)
noncomputable def ahF:List T->Option (List Int)
 | []=>some []
 | .int i ::l=>(ahF l).map (i ::·)
 | _ ::_=>none
theorem acU:∀ ns:List Int,ahF (ns.map .int)=some ns
 | []=>rfl
 | n ::ns=>by show (ahF (ns.map .int)).map _=_;rw [acU ns];rfl
theorem alX:∀ {l:List T}{ns:List Int},ahF l=some ns->l=ns.map .int
 | [],ns,h=>by cases h;rfl
 | t ::l,ns,h=>by
  cases t <;> first | (exact nos h;done) | skip
  obtain ⟨m,h1,rfl⟩:=Option.map_eq_some_iff.mp (show (ahF l).map _=some ns from h)
  refine (alX h1)▸?_;rfl
noncomputable abbrev ahG:List T->(T->Prop)->Prop:=λts K=>lst1 ts λl=>szl l.length (K (.int l.length))
noncomputable abbrev asT:List T->(T->Prop)->Prop:=λts K=>lst1 ts λl=>opt (ahF l) λns=>K (.int ns.sum)
noncomputable abbrev asU:List T->(T->Prop)->Prop:=λts K=>int2 ts λa b=>K (.int (if b<a then b else a))
noncomputable abbrev asV:List T->(T->Prop)->Prop:=λts K=>tup1 ts λl=>int2 l λa b=>K (.int (if a<b then b else a))
noncomputable abbrev aju:List T->(T->Prop)->Prop:=λts K=>asP ts λa=>K (.int (Builtin.Int.intBits a:Nat))
theorem agi:CallOK γ wd it r (.builtin "len") ahG:=by
 intro A V s vs ts K aok hw rs h
 obtain ⟨l,rfl,h⟩:=asR h
 obtain ⟨hl,hK⟩:=aco h
 refine oneA rs λv rv=>?_
 refine ajf rv λa ws hp rs=>?_
 have e:=aac rs
 refine adA hK λQ q=>len_list hp.isList (by refine e▸?_;exact ace hl (by decide)) ?_
 refine e▸?_;exact q s.heap (s.toks+1+1) (s.toks+1) λ_ _ e=>e
theorem apy:CallOK γ wd true r (.builtin "sum") asT:=by
 intro A V s vs ts K aok hw rs h
 obtain ⟨l,rfl,h⟩:=asR h
 obtain ⟨ns,e,hK⟩:=ak2 h
 clear h
 clear h
 cases alX e
 refine oneA rs λv rv=>?_
 refine ajf rv λa ws hp rs=>?_
 refine ag λG kG=>?_
 obtain ⟨xs,rfl,h2⟩:=ajt rs
 refine kG ?_
 refine adA hK λQ q=>sum_intListG (aok.free rfl) hp.isList λh' tk t' k=>?_
 have:preSum (numAt xs.toArray) xs.toArray.size=ns.sum:=by
  rw [preSum_eq,List.take_of_length_le (by simp)]
  simp [h2]
 refine this▸?_;exact q h' tk t' k
theorem asW:CallOK γ wd true r (.builtin "min") asU:=by
 intro A V s vs ts K aok hw rs h
 obtain ⟨a,b,rfl,hK⟩:=asS h
 refine twoA rs λv v' rv rv'=>?_
 clear rs
 refine agE rv λt=>?_
 refine agE rv' λu=>?_
 refine adA hK λQ q=>min_two_ints (aok.free rfl) λh' tk k=>?_
 by_cases hb:b<a
 . rw [if_pos hb] at q ⊢;exact q h' tk u k
 . rw [if_neg hb] at q ⊢;exact q h' tk t k
theorem ajv:∀ xs:List (Int×Tok),IntsAre (xs.map λp=>Value.int p.1 p.2) (xs.map (·.1))
 | []=>.nil
 | x ::xs=>.cons _ _ (ajv xs)
theorem aoc:CallOK γ wd it r (.builtin "list.index") (λts K=>∃ (ns:List Int) (k:Int),ts=[.lst (ns.map .int),.int k]/\k∈ns/\PyData.layable0 (.list (ns.map .int))=true/\K (.int (ns.idxOf k:Nat))):=by
 rintro A V s vs ts K aok hw rs ⟨ns,k,rfl,hk,hl,hK⟩
 refine twoA rs λv v' rv rv'=>?_
 refine agE rv' λt=>?_
 refine ajf rv λa ws hp rs=>?_
 have hi:IntsAre ws.toList ns:=by
  clear rv
  obtain ⟨xs,h1,rfl⟩:=alV rs
  refine h1▸?_
  exact ajv xs
 refine adA hK λQ q=>index_list_ints (vs:=ws.toList) (hp.isList) hi hl hk (q s.heap _ _ λ_ _ e=>e)
theorem aqP:CallOK γ wd it r (.builtin "int.bit_length") aju:=by
 intro A V s vs ts K aok hw rs h
 obtain ⟨a,rfl,hK⟩:=alW h
 refine oneA rs λv rv=>?_
 clear rs
 refine agE rv λt=>?_
 exact adA hK λQ q=>call_int_bit_length (q s.heap _ _ λ_ _ e=>e)
end
set_option backward.match.sparseCases true
section
variable{wd:Heap->Prop}
theorem aod{l:Addr}{a b:Int}{t u:Tok}{Q:Value->Shared->Prop}{E:Value->Shared->Prop}(hh:A.handled=none) (hT:s.heap.IsTuple l (intItems #[(a,t),(b,u)]))
  (h:∀ h' tk,(∀ c o,s.heap.get? c=some o->h'.get? c=some o)->Q (if a<b then .int b u else .int a t) { s with heap:=h',toks:=tk }) :
  wpAny (model pg γ.w) A (call (.builtin "max") [.ref l]) Q E s:=by
 refine call_max_walk (wpAny_pyIter_tuple hT ?_)
 have hlt:l<s.heap.objs.size:=by obtain ⟨_,e,_⟩:=hT;exact aua e
 refine ⟨_,_,_,_,_,_,_,rfl,Walks.tuple (A:=A.in1) hh _ l (aum hlt) (intItems #[(a,t),(b,u)]),⟨⟨_,at4 _ rfl,rfl,rfl⟩,hT.push _⟩,λc hc=>?_,by simp [intItems],CmpOf.ints_gt (numAt #[(a,t),(b,u)]) (λ_ _=>intItems_at),λv h' tk hP hk=>?_⟩
 . rw [Heap.size_push]
   refine (List.mem_cons.mp hc).elim ?_ ?_
   . rintro rfl
     exact auT _
   . rintro hc
     refine (List.mem_singleton.mp hc)▸?_;exact auv hlt
 . have hk':∀ c o,s.heap.get? c=some o->h'.get? c=some o:=λc o e=>hk c o (by rw [List.mem_singleton];exact abY e) (atZ _ e)
   have hv:v=if a<b then .int b u else .int a t:=by
    have hP':(intItems #[(a,t),(b,u)])[argBest (λi j=>decide (numAt #[(a,t),(b,u)] i > numAt #[(a,t),(b,u)] j)) 1]?=some v:=by simpa [intItems] using hP
    by_cases hab:a<b
    . have e:argBest (λi j=>decide (numAt #[(a,t),(b,u)] i > numAt #[(a,t),(b,u)] j)) 1=1:=by simp [argBest,numAt,hab]
      rw [e] at hP'
      simpa [intItems,hab] using hP'.symm
    . have e:argBest (λi j=>decide (numAt #[(a,t),(b,u)] i > numAt #[(a,t),(b,u)] j)) 1=0:=by simp [argBest,numAt,hab]
      rw [e] at hP'
      simpa [intItems,hab] using hP'.symm
   refine hv▸?_;exact h h' tk hk'
theorem asX:CallOK γ wd true r (.builtin "max") asV:=by
 intro A V s vs ts K aok hw rs h
 refine ag λG kG=>?_
 obtain ⟨l,rfl,h⟩:=tup1_ h
 obtain ⟨a,b,rfl,hK⟩:=asS h
 obtain ⟨v,rfl,rv⟩:=ae7 rs
 obtain ⟨l,ws,rfl,va,hp,rs⟩:=aia rv
 obtain ⟨x,y,e,rx,ry⟩:=aeS rs
 obtain ⟨t,rfl⟩:=aa8 rx
 obtain ⟨u,rfl⟩:=aa8 ry
 refine kG ?_
 refine adA hK λQ q=>aod (aok.free rfl) ((by apply Array.toList_inj.mp;rw [e];simp [intItems]:ws=intItems #[(a,t),(b,u)])▸hp) λh' tk k=>?_
 by_cases hb:a<b
 . rw [if_pos hb] at q ⊢;exact q h' tk u k
 . rw [if_neg hb] at q ⊢;exact q h' tk t k
end
noncomputable abbrev Fun:=List T->(T->Prop)->Prop
noncomputable def aeL (fs ms:List (Str×Fun)):Sg:=⟨λx=>fs.lookup x,λx=>conL.lookup x,λx=>ms.lookup x,λ_=>none⟩
section
noncomputable def FsOK (γ:Gm) (it:Bool) (r:Nat) (fs:List (Str×Fun)):Prop:=
 ∀ p∈fs,∃ f,(γ.mg p.1=some f\/(γ.mg p.1=none/\γ.mb p.1=some f))/\afd γ f/\CallOK γ (Wd γ) it r f p.2
noncomputable def MsOK (γ:Gm) (it:Bool) (r:Nat) (ms:List (Str×Fun)):Prop:=
 ∀ p∈ms,∀ a f,ab7 a p.1=some f->afd γ f/\CallOK γ (Wd γ) it r f p.2
theorem aas (st:Stat γ) {fs ms:List (Str×Fun)}(h1:FsOK γ it r fs) (h2:MsOK γ it r ms):SgOK γ (aeL fs ms) it r where
 fn:=λx F hx=>h1 _ (mem_of_lookup hx)
 con:=λx i hx=>st.con _ (mem_of_lookup hx)
 mt:=λx F hx a f hf=>h2 _ (mem_of_lookup hx) a f hf
 hkn:=λe g sc p=>⟨rfl,rfl,λv=>rfl⟩
 hk:=λe F h=>nomatch h
theorem aem{a:Addr}{stm:Stmt}(hf:FnIn γ.KF a stm):afd γ (.ref a):=λM h wd=>by
 obtain ⟨o,fd,c,oc,cvs,t,k1,k2,k3,_⟩:=hf
 refine ⟨.frame,.inl rfl,λA Q E s k q=>?_⟩
 refine atY (wpAny_load (k _ _ (wd.k _ _ k1)) ?_)
 refine k3▸?_
 exact at3 q
theorem FsOK.nil:FsOK γ it r []:=λp h=>nomatch h
theorem FsOK.cons{x:Str}{F:Fun}{fs:List (Str×Fun)}{f:Value}(h1:γ.mg x=some f\/(γ.mg x=none/\γ.mb x=some f)) (h2:afd γ f) (h3:CallOK γ (Wd γ) it r f F) (h4:FsOK γ it r fs):FsOK γ it r ((x,F) ::fs):=λp hp=>(List.mem_cons.mp hp).elim (λe=>e▸⟨f,h1,h2,h3⟩) (h4 p)
theorem FsOK.fn{x:Str}{a:Addr}{i:Nat}{F:Fun}{fs:List (Str×Fun)}(st:Stat γ) (hx:(x,a,i)∈fnL) (h3:CallOK γ (Wd γ) it r (.ref a) F) (h4:FsOK γ it r fs):FsOK γ it r ((x,F) ::fs):=
 FsOK.cons (.inl (st.fn _ hx).1) (aem (st.fn _ hx).2) h3 h4
theorem FsOK.blt{x:Str}{n:String}{F:Fun}{fs:List (Str×Fun)}(st:Stat γ) (hx:(x,Value.builtin n)∈anw) (h3:CallOK γ (Wd γ) it r (.builtin n) F) (h4:FsOK γ it r fs):FsOK γ it r ((x,F) ::fs):=
 FsOK.cons (.inr (st.blt _ hx)) aaY h3 h4
theorem MsOK.nil:MsOK γ it r []:=λp h=>nomatch h
theorem MsOK.cons{m:Str}{F:Fun}{ms:List (Str×Fun)}{cg:Value}(hm:∀ a f,ab7 a m=some f->f=cg) (h2:afd γ cg) (h3:CallOK γ (Wd γ) it r cg F) (h4:MsOK γ it r ms):MsOK γ it r ((m,F) ::ms):=
 λp hp=>(List.mem_cons.mp hp).elim (λe a f hf=>by subst e;exact hm a f hf▸⟨h2,h3⟩) (h4 p)
theorem ajw (a:T) (f:Value) (hf:ab7 a "compare"=some f):f=.ref 35:=
 abL (G:=λ_ m f=>m="compare"->f=.ref 35) hf (λ_ h=>absurd h (by decide)) (λ_ h=>absurd h (by decide)) (λ_ _=>rfl) rfl
noncomputable abbrev ajx:Fun:=λts K=>asP ts λx=>K (.bool (decide (x<256)))
noncomputable abbrev afr:Fun:=λts K=>asP ts λx=>K (.bool (decide (x ≥ 256)))
noncomputable abbrev aqQ:Fun:=λts K=>asP ts λx=>K (.bool (x==0))
theorem aiF (st:Stat γ):CallOK γ (Wd γ) it 1 (.ref 105) ajx:=by
 refine aa0 (n:=20) (n':=20) (m:=20) (ow:=λ_=>false) (S:=aeL [] []) (st.fn ("ISTERMINAL",105,15) (by decide)).2 (by rfl) (aas st FsOK.nil MsOK.nil) λts K h=>?_
 obtain ⟨x,rfl,hK⟩:=alW h
 exact ⟨rfl,hK⟩
theorem agj (st:Stat γ):CallOK γ (Wd γ) it 1 (.ref 112) afr:=by
 refine aa0 (n:=20) (n':=20) (m:=20) (ow:=λ_=>false) (S:=aeL [] []) (st.fn ("ISNONTERMINAL",112,16) (by decide)).2 (by rfl) (aas st FsOK.nil MsOK.nil) λts K h=>?_
 obtain ⟨x,rfl,hK⟩:=alW h
 exact ⟨rfl,hK⟩
theorem apz (st:Stat γ):CallOK γ (Wd γ) it 1 (.ref 119) aqQ:=by
 refine aa0 (n:=20) (n':=20) (m:=20) (ow:=λ_=>false) (S:=aeL [] []) (st.fn ("ISEOF",119,17) (by decide)).2 (by rfl) (aas st FsOK.nil MsOK.nil) λts K h=>?_
 obtain ⟨x,rfl,hK⟩:=alW h
 exact ⟨rfl,hK⟩
end
noncomputable def aeM:List (Int×Int)->List Int->List Int->Int
 | [],_,_=>0
 | (i,d) ::ks,l,r=>if l.getD i.toNat 0<r.getD i.toNat 0 then -d else if l.getD i.toNat 0 > r.getD i.toNat 0 then d else aeM ks l r
noncomputable def adj (ks:List (Int×Int)):T:=.lst (ks.map λp=>.tup [.int p.1,.int p.2])
inductive Ficmp (ts:List T) (K:T->Prop):Prop
 | mk (ks l r:_) (e0:ts=[.cmp (adj ks),.tup (l.map .int),.tup (r.map .int)]) (e1:(∀ p∈ks,0<=p.1/\p.1<l.length/\p.1<r.length)) (e2:l.length<=100) (e3:r.length<=100) (e4:ks.length<=100) (e5:K (.int (aeM ks l r))):Ficmp ts K
noncomputable def aoe:Fun:=Ficmp
theorem adT{l:List T}{i:Int}(h0:0<=i) (h1:i<l.length):adh l i=l[i.toNat]?:=by
 delta adh seqIndex?
 simp only [(by lia:¬ i<0),if_false]
 rw [if_pos (by simp only [Bool.and_eq_true,decide_eq_true_eq];exact ⟨h0,h1⟩)]
 rfl
theorem agk{l:List Int}{i:Int}(h0:0<=i) (h1:i<l.length):adh (l.map T.int) i=some (.int (l.getD i.toNat 0)):=by
 rw [adT h0 (by simpa using h1),List.getElem?_map,List.getD_eq_getElem?_getD,List.getElem?_eq_getElem ((Int.toNat_lt h0).mpr h1)]
 rfl
theorem aaV{i:Int}(h0:0<=i) (h1:i<10000):apn i=true:=Nat.ble_eq_true_of_le (at0 (Int.ofNat_lt.mp ((Int.natAbs_of_nonneg h0).symm▸h1)) (by decide))
theorem ixi{l:List Int}{i:Int}{K:T->Prop}(h0:0<=i) (h1:i<l.length) (hl:l.length<=100) (k:K (.int (l.getD i.toNat 0))):gd (apn i) (opt (adh (l.map T.int) i) K):=
 gdi (aaV h0 (Int.lt_trans h1 (ace hl (by decide)))) (abK (agk h0 h1) k)
section
theorem apA (st:Stat γ):CallOK γ (Wd γ) true 1 (.ref 35) aoe:=by
 refine aa0 (n:=20) (n':=20) (m:=20) (ow:=λ_=>false) (S:=aeL [] []) st.cmp (by rfl) (aas st FsOK.nil MsOK.nil) ?_
 rintro ts K ⟨ks,l,r,rfl,hk,hl,hr,hks,hK⟩
 refine ⟨rfl,?_⟩
 refine szi (by rw [List.length_map];lia) ?_
 clear hks
 generalize adj ks=sk
 induction ks with
 | nil=>exact hK
 | cons p ks ih=>
  obtain ⟨i,d⟩:=p
  have hX:=hk (i,d) (.head _)
  have h3:=hX.2.2
  dsimp only [aeM] at hK
  refine ixi hX.1 hX.2.1 hl ?_
  refine ixi hX.1 h3 hr ?_
  refine bri (λhc=>?_) (λhc=>?_)
  . rw [if_pos (of_decide_eq_true hc)] at hK
    exact hK
  . rw [if_neg (of_decide_eq_false hc)] at hK
    refine bri (λhd=>?_) (λhd=>?_)
    . rw [if_pos (of_decide_eq_true hd)] at hK
      exact hK
    . rw [if_neg (of_decide_eq_false hd)] at hK
      exact (ih (λp hp=>hk p (.tail _ hp))) hK
end
structure V4 where
 a:Nat
 b:Nat
 c:Nat
 d:Nat
 deriving DecidableEq
noncomputable def V4.lst (v:V4):List Int:=[v.a,v.b,v.c,v.d]
noncomputable def V4.t (v:V4):T:=.tup (v.lst.map .int)
noncomputable def V4.bag (w v:V4):Nat:=w.a^v.a*w.b^v.b*w.c^v.c*w.d^v.d
noncomputable def V4.le (v:V4) (n:Nat):Prop:=v.a<=n/\v.b<=n/\v.c<=n/\v.d<=n
theorem adU{x n:Nat}(hx:x<2^64) (hn:n<=4):x^n<2^257:=by
 exact auc (at0 (Nat.pow_le_pow_left (aug hx) n) (auw ((auh _)) hn)) (by exact at2 rfl)
theorem aaB{n:Nat}{k:Nat}(h:n<2^k) (hk:k<=4000):sz (n:Int):=by
 unfold sz
 exact at5 h (auw ((auh _)) hk)
theorem afs{x y i j:Nat}(hx:x<2^i) (hy:y<2^j):x*y<2^(i+j):=by
 rw [Nat.pow_add]
 exact Nat.mul_lt_mul'' hx hy
inductive Fibag (ts:List T) (K:T->Prop):Prop
 | mk (w v:V4) (t:T) (e0:ts=[.lst (w.lst.map .int),t]) (e1:aeJ t (v.lst.map .int)) (e2:w.a<2^64) (e3:w.b<2^64) (e4:w.c<2^64) (e5:w.d<2^64) (e6:v.le 4) (e7:K (.int (w.bag v:Nat))):Fibag ts K
noncomputable def aqR:Fun:=Fibag
section
theorem apB (st:Stat γ):CallOK γ (Wd γ) it 1 (.ref 133) aqR:=by
 refine aa0 (n:=20) (n':=20) (m:=20) (ow:=λ_=>false) (S:=aeL [] []) (st.fn ("_law_bag",133,20) (by decide)).2 (by rfl) (aas st FsOK.nil MsOK.nil) ?_
 rintro ts K ⟨⟨w1,w2,w3,w4⟩,⟨c1,c2,c3,c4⟩,t,rfl,ht,hw1,hw2,hw3,hw4,⟨hc1,hc2,hc3,hc4⟩,hK⟩
 simp only at hw1 hw2 hw3 hw4 hc1 hc2 hc3 hc4
 refine ⟨rfl,?_⟩
 have p1:=adU hw1 hc1
 have p2:=adU hw2 hc2
 have p3:=adU hw3 hc3
 have p4:=adU hw4 hc4
 have s1:sz (w1:Int):=aaB hw1 (by decide)
 have s2:sz (w2:Int):=aaB hw2 (by decide)
 have s3:sz (w3:Int):=aaB hw3 (by decide)
 have s4:sz (w4:Int):=aaB hw4 (by decide)
 have e:∀ (x n:Nat),((x:Int)^((n:Int)).toNat)=((x^n:Nat):Int):=λx n=>by rw [Int.toNat_natCast,Int.natCast_pow]
 have b:∀ {n:Nat}{K:Prop},n<=4->K->gd (ajd 10000 (n:Int)) K:=λh k=>upi (by simp) (acM h rfl) k
 have fin:K (.int ((w1:Int)^((c1:Int)).toNat*(w2:Int)^((c2:Int)).toNat*(w3:Int)^((c3:Int)).toNat*(w4:Int)^((c4:Int)).toNat)):=by
  rw [e,e,e,e];simpa [V4.bag] using hK
 have q1:sz ((w1:Int)^((c1:Int)).toNat):=(e w1 c1).symm▸aaB p1 (by decide)
 have q2:sz ((w2:Int)^((c2:Int)).toNat):=(e w2 c2).symm▸aaB p2 (by decide)
 have q3:sz ((w3:Int)^((c3:Int)).toNat):=(e w3 c3).symm▸aaB p3 (by decide)
 have q4:sz ((w4:Int)^((c4:Int)).toNat):=(e w4 c4).symm▸aaB p4 (by decide)
 have q12:sz ((w1:Int)^((c1:Int)).toNat*(w2:Int)^((c2:Int)).toNat):=by
  rw [e,e,<- Int.natCast_mul];exact aaB (afs p1 p2) (by exact at2 rfl)
 have q123:sz ((w1:Int)^((c1:Int)).toNat*(w2:Int)^((c2:Int)).toNat*(w3:Int)^((c3:Int)).toNat):=by
  rw [e,e,e,<- Int.natCast_mul,<- Int.natCast_mul];exact aaB (afs (afs p1 p2) p3) (by exact at2 rfl)
 rcases ht with rfl | rfl
 all_goals
  refine b hc1 (aa2 s1 ?_)
  refine b hc2 (aa2 s2 (aa2 q1 (aa2 q2 ?_)))
  refine b hc3 (aa2 s3 (aa2 q12 (aa2 q3 ?_)))
  refine b hc4 (aa2 s4 (aa2 q123 (aa2 q4 ?_)))
  exact fin
end
noncomputable def alY:Fun:=λts K=>∃ (ns:List Int) (k:Int),ts=[.lst (ns.map .int),.int k]/\k∈ns/\PyData.layable0 (.list (ns.map .int))=true/\K (.int (ns.idxOf k:Nat))
noncomputable def act (val:Int->Int):List Int->List Int->Int->List Int
 | [],done,_=>done
 | x ::xs,done,cur=>if x=0 then act val xs (done++[cur]) 1 else act val xs done (cur*val x)
noncomputable def ab2 (syms:List Int) (val:Int->Int):List Int->Int->Prop
 | [],_=>True
 | x ::xs,cur=>if x=0 then ab2 syms val xs 1 else x∈syms/\sz cur/\sz (val x)/\ab2 syms val xs (cur*val x)
noncomputable def abs (syms worths:List Int) (x:Int):Int:=worths.getD (syms.idxOf x) 0
inductive Fisides (ts:List T) (K:T->Prop):Prop
 | mk (row syms worths:List Int) (e0:ts=[.lst (row.map .int),.lst (syms.map .int),.lst (worths.map .int)]) (e1:row.length<=100) (e2:syms.length=worths.length) (e3:syms.length<=100) (e4:PyData.layable0 (.list (syms.map .int))=true) (e5:ab2 syms (abs syms worths) row 1) (e6:K (.lst ((act (abs syms worths) row [] 1).map .int))):Fisides ts K
noncomputable def alZ:Fun:=Fisides
theorem adV{l:List T}{lo hi:Option Int}:aeG l lo hi none=(l.drop (kms_lo lo l.length)).take (kms_hi hi l.length-kms_lo lo l.length):=by
 unfold aeG
 rw [kms_bounds]
 have:=pick_run l.toArray (kms_lo lo l.length) (kms_hi hi l.length-kms_lo lo l.length)
 simp only [List.getElem?_toArray] at this
 simp only [sliceRange_one]
 exact this
theorem akq{l:List T}{t:T}:aeG (l++[t]) none (some (-1)) none=l:=by
 rw [adV]
 have e1:kms_lo none (l++[t]).length=0:=rfl
 have e2:kms_hi (some (-1)) (l++[t]).length=l.length:=by
  dsimp only [kms_hi]
  simp
 refine e1▸?_;refine e2▸?_
 simp
theorem akr{l:List T}{t:T}:adh (l++[t]) (-1)=some t:=by
 delta adh seqIndex?
 rw [(by simp;lia:((-1:Int)+((l++[t]).length:Nat))=(l.length:Nat)),if_pos (by simp;lia)]
 simp
theorem aks{l:List T}{t u:T}:alH (l++[t]) (-1) u=some (l++[u]):=by
 delta alH seqIndex?
 rw [(by simp;lia:((-1:Int)+((l++[t]).length:Nat))=(l.length:Nat)),if_pos (by simp;lia)]
 simp
section
theorem MsOK.index{ms:List (Str×Fun)}(h:MsOK γ it r ms):MsOK γ it r (("index",alY) ::ms):=.cons (λa f hf=>
 abL (G:=λ_ m f=>m="index"->f=.builtin "list.index") hf (λ_ _=>rfl) (λ_ h=>absurd h (by decide)) (λ_ h=>absurd h (by decide)) rfl) aaY aoc h
theorem al0 (val:Int->Int):∀ (row done:List Int) (cur:Int),(act val row done cur).length<=row.length+done.length:=by
 intro row
 induction row with
 | nil=>exact λdone _=>auQ _ _
 | cons x row ih=>
  intro done cur
  unfold act
  split
  . exact at0 (ih _ _) (by rw [List.length_append];exact aub (auF row.length 1 _).symm)
  . exact at0 (ih _ _) (auj (Nat.le_succ _) _)
noncomputable abbrev SgS:Sg:=aeL [("ISEOF",aqQ)] [("index",alY)]
noncomputable abbrev sdF:Stmt:=(abE (aaa 19)).getD 1 aeQ
noncomputable def sdR (tr:T) (syms worths:List Int):aab:=[("worths",.lst (worths.map .int)),("symbols",.lst (syms.map .int)),("row",tr)]
theorem akt{syms worths:List Int}{tr:T}{K:Out->Prop}(hsw:syms.length=worths.length) (hsl:syms.length<=100) (hlay:PyData.layable0 (.list (syms.map .int))=true):∀ (row done:List Int) (cur:Int),ab2 syms (abs syms worths) row cur->row.length+done.length<=100->
  (∀ z,K (.nx (sdR tr syms worths) [("sides",.lst ((act (abs syms worths) row done cur++[z]).map .int))]))->
  afX (acF (aaD (aaa 19)).names [] (stT sdF)) (λρ ω K=>blF true (aam SgS true 21) 20 (aaD (aaa 19)).names (λx=>x=="sides") afY 18 [] (stB sdF) ρ ω K) ["worths","symbols","row"] ["sides"] (row.map .int) (sdR tr syms worths) [("sides",.lst ((done++[cur]).map .int))] K:=by
 intro row
 induction row with
 | nil=>exact λdone cur _ _ h=>h cur
 | cons x row ih=>
  intro done cur hok hlen h
  rw [List.length_cons,Nat.add_right_comm] at hlen
  unfold act at h
  unfold ab2 at hok
  refine bri (λhc=>?_) (λhc=>?_)
  . have hx:x=0:=eq_of_beq hc
    rw [if_pos hx] at h hok
    refine szi (by rw [List.length_map,List.length_append];exact at0 (auj (auj (at0 (auQ _ _) (aun hlen)) 1) 1) (by decide)) ?_
    have:=ih (done++[cur]) 1 hok (by rw [List.length_append];exact hlen) h
    rw [List.map_append] at this
    exact this
  . have hx:¬ x=0:=λz=>by rw [z] at hc;exact tf hc
    rw [if_neg hx] at h hok
    obtain ⟨hm,z1,z2,hok⟩:=hok
    have hi:syms.idxOf x<syms.length:=List.idxOf_lt_length_iff.mpr hm
    refine List.map_append▸?_
    refine abK akr ?_
    refine ⟨syms,x,rfl,hm,hlay,?_⟩
    refine ixi (aue _) (Int.ofNat_lt.mpr (hsw▸hi)) (hsw▸hsl) ?_
    refine aa2 z1 (aa2 z2 ?_)
    refine abK aks ?_
    have h1:=ih done (cur*abs syms worths x) hok (aun hlen) h
    rw [List.map_append] at h1
    exact h1
theorem aof (st:Stat γ):CallOK γ (Wd γ) true 2 (.ref 126) alZ:=by
 refine aa0 (n:=20) (n':=20) (m:=20) (ow:=λx=>x=="sides") (S:=SgS) (st.fn ("_law_sides",126,19) (by decide)).2 (by rfl)
  (aas st (FsOK.fn (i:=17) st (by decide) (apz st) FsOK.nil) (MsOK.index MsOK.nil)) ?_
 rintro ts K ⟨row,syms,worths,rfl,hr,hsw,hsl,hlay,hok,hK⟩
 refine ⟨rfl,?_⟩
 obtain ⟨tr,ht⟩:∃ tr:T,tr=.lst (row.map .int):=⟨_,rfl⟩
 refine szi (by rw [List.length_map];exact aaK hr rfl) ?_
 rw [<- ht]
 refine akt hsw hsl hlay row [] 1 hok hr λz=>?_
 have hz:=al0 (abs syms worths) row [] 1
 refine szi (by rw [List.length_map,List.length_append];exact at0 (auI (at0 hz hr)) (by decide)) ?_
 rw [List.map_append,show List.map T.int [z]=[T.int z] from rfl,akq]
 exact hK
end
theorem abx{i:Int}(h:i.natAbs<2^100):sz i:=at5 h (auw ((auh _)) (by exact at2 rfl))
theorem ack{x:Int}:sz (x.fmod 2):=by
 rcases Int.fmod_two_eq x with h | h <;> rw [h] <;> exact abx (by exact at2 rfl)
theorem ahH{x:Int}:sz (1-x.fmod 2*2):=by
 rcases Int.fmod_two_eq x with h | h <;> rw [h] <;> exact abx (by exact at2 rfl)
noncomputable def aqS (cell:Int) (place:Nat):Int:=(1+(place:Int))*(1-((cell.fdiv 8).fdiv (2^place)).fmod 2*2)
noncomputable def al1 (two:Bool) (k:Nat):List Int:=let l:=if two then [0,1] else [0,1,2];l.drop k++l.take k
noncomputable def aby (two:Bool):List Int:=[1,255,if two then 256 else 254,257]
noncomputable def aft (cell:Int) (two:Bool):Nat:=((cell.fdiv 2).fmod (if two then 2 else 3)).toNat
noncomputable def acV (cell:Int) (two:Bool):List (Int×Int):=
 (if two then [(2,4),(3,4)] else [(3,4)])++(al1 two (aft cell two)).zipIdx.map λp=>(p.1,aqS cell p.2)
inductive Fikeys (ts:List T) (K:T->Prop):Prop
 | mk (cell:Int) (two:Bool) (e0:ts=[.int cell,.lst ((aby two).map .int)]) (e1:0<=cell) (e2:cell<2^32) (e3:K (adj (acV cell two))):Fikeys ts K
noncomputable def apC:Fun:=Fikeys
section
set_option maxHeartbeats 4000000 in
theorem aqT (st:Stat γ):CallOK γ (Wd γ) true 2 (.ref 138) apC:=by
 refine aa0 (n:=20) (n':=20) (m:=20) (ow:=λ_=>false) (S:=aeL [("ISTERMINAL",ajx),("ISNONTERMINAL",afr),("len",ahG)] []) (st.fn ("_law_keys",138,21) (by decide)).2 (by rfl)
  (aas st (FsOK.fn (i:=15) st (by decide) (aiF st) (FsOK.fn (i:=16) st (by decide) (agj st) (FsOK.blt (n:="len") st (by decide) agi FsOK.nil))) MsOK.nil) ?_
 rintro ts K ⟨cell,two,rfl,h0,h1,hK⟩
 refine ⟨rfl,?_⟩
 have hm:∀ n:Nat,0<n->∃ k:Nat,k<n/\(cell.fdiv 2).fmod (n:Int)=k:=λn hn=>by
  have h:=Int.fmod_nonneg_of_pos (cell.fdiv 2) (Int.ofNat_lt.mpr hn)
  exact ⟨((cell.fdiv 2).fmod n).toNat,(Int.toNat_lt h).mpr (Int.fmod_lt_of_pos (cell.fdiv 2) (Int.ofNat_lt.mpr hn)),(Int.toNat_of_nonneg h).symm⟩
 cases two
 . obtain ⟨k,hk,e⟩:=hm 3 (by decide)
   have hq:∀ n:Nat,n=3->(cell.fdiv 2).fmod (n:Int)=k:=λn h=>by rw [h];exact e
   have ht:aft cell false=k:=by unfold aft;rw [show (if false=true then (2:Int) else 3)=((3:Nat):Int) from rfl,e];rfl
   replace hK:K (adj (((if false=true then [(2,4),(3,4)] else [(3,4)])++(al1 false (aft cell false)).zipIdx.map λp=>(p.1,aqS cell p.2)))):=hK
   rw [ht] at hK
   conv=>whnf
   rw [hq]
   rotate_left
   . rfl
   clear hq ht e hm
   rcases k with _ | _ | _ | k
   . ( repeat (first | refine aa2 ack ?_ | refine aa2 ahH ?_ | refine aa2 (abx (at2 rfl)) ?_))
     exact hK
   . ( repeat (first | refine aa2 ack ?_ | refine aa2 ahH ?_ | refine aa2 (abx (at2 rfl)) ?_))
     exact hK
   . ( repeat (first | refine aa2 ack ?_ | refine aa2 ahH ?_ | refine aa2 (abx (at2 rfl)) ?_))
     exact hK
   . exact (Nat.not_lt.mpr (auQ 3 k) hk).elim
 . obtain ⟨k,hk,e⟩:=hm 2 (by decide)
   have hq:∀ n:Nat,n=2->(cell.fdiv 2).fmod (n:Int)=k:=λn h=>by rw [h];exact e
   have ht:aft cell true=k:=by unfold aft;rw [show (if true=true then (2:Int) else 3)=((2:Nat):Int) from rfl,e];rfl
   replace hK:K (adj (((if true=true then [(2,4),(3,4)] else [(3,4)])++(al1 true (aft cell true)).zipIdx.map λp=>(p.1,aqS cell p.2)))):=hK
   rw [ht] at hK
   conv=>whnf
   rw [hq]
   rotate_left
   . rfl
   clear hq ht e hm
   rcases k with _ | _ | k
   . ( repeat (first | refine aa2 ack ?_ | refine aa2 ahH ?_ | refine aa2 (abx (at2 rfl)) ?_))
     exact hK
   . ( repeat (first | refine aa2 ack ?_ | refine aa2 ahH ?_ | refine aa2 (abx (at2 rfl)) ?_))
     exact hK
   . exact (Nat.not_lt.mpr (auQ 2 k) hk).elim
end
inductive Fidivmod (ts:List T) (K:T->Prop):Prop
 | mk (a b:Int) (e0:ts=[.int a,.int b]) (e1:b≠0) (e2:sz b) (e3:K (.tup [.int (a.fdiv b),.int (a.fmod b)])):Fidivmod ts K
noncomputable def ajy:Fun:=Fidivmod
section
variable{wd:Heap->Prop}
theorem al2:CallOK γ wd it r (.builtin "divmod") ajy:=by
 rintro A V s vs ts K aok hw rs ⟨a,b,rfl,hb,hz,hK⟩
 refine twoA rs λv v' rv rv'=>?_
 clear rs
 refine agE rv λt=>?_
 refine agE rv' λu=>?_
 refine divmod_int hb ?_ (.inl (PyProof.noPylong_of_log2 (at5 (ak3 hz) (by exact at2 rfl))))
 refine ⟨_,hK,Ext.push,.tup (.inr (at6 (auf _))) ⟨_,at4 _ rfl,rfl,_,rfl⟩ ?_⟩
 exact .cons (.int _ _) (.cons (.int _ _) .nil)
end
inductive Fidiv21 (ts:List T) (K:T->Prop):Prop
 | mk (a b n:Int) (e0:ts=[.int a,.int b,.int n]) (e1:(Builtin.Int.intBits a:Nat)-n<=4000) (e2:b≠0) (e3:sz b) (e4:K (.tup [.int (a.fdiv b),.int (a.fmod b)])):Fidiv21 ts K
noncomputable def al3:Fun:=Fidiv21
section
theorem MsOK.bits{ms:List (Str×Fun)}(h:MsOK γ it r ms):MsOK γ it r (("bit_length",aju) ::ms):=.cons (λa f hf=>
 abL (G:=λ_ m f=>m="bit_length"->f=.builtin "int.bit_length") hf (λ_ h=>absurd h (by decide)) (λ_ _=>rfl) (λ_ h=>absurd h (by decide)) rfl) aaY aqP h
theorem aog (st:Stat γ):CallOK γ (Wd γ) it 1 (.ref 63) al3:=by
 refine aa0 (n:=20) (n':=20) (m:=20) (ow:=λ_=>false) (S:=aeL [("divmod",ajy)] [("bit_length",aju)]) (st.fn ("_div2n1n",63,6) (by decide)).2 (by rfl)
  (aas st (FsOK.blt (n:="divmod") st (by decide) al2 FsOK.nil) (MsOK.bits MsOK.nil)) ?_
 rintro ts K ⟨a,b,n,rfl,h1,h2,h3,hK⟩
 refine ⟨rfl,?_⟩
 refine bri (λ_=>?_) (λhc=>?_)
 . exact ⟨a,b,rfl,h2,h3,hK⟩
 . exact absurd h1 (by simpa using hc)
end
inductive CloAt (h:Heap) (f:Addr) (ps:Arguments) (body:FuncBody) (scope:Scope) (cl:List (Str×Addr)):Prop
 | mk (o:Obj) (fd:FuncData) (k1:h.get? f=some o) (k2:o.cls=.type "function") (k3:o.data=.func fd) (k4:fd.params=ps) (k5:fd.body=body) (k6:fd.scope=scope) (k7:fd.globals=mainGlobals) (k8:fd.builtins=builtinsNs)
  (k9:fd.closure=cl) (k10:fd.defaults=.none) (k11:h.CodeRec fd.code fd.qualname):CloAt h f ps body scope cl
theorem CloAt.extX{X:aag}{s s':Shared}{f:Addr}{ps:Arguments}{body:FuncBody}{scope:Scope}{cl:List (Str×Addr)}(x:CloAt s.heap f ps body scope cl) (t:TabInv s.heap) (e:ExtX X s s') (hf:¬ X f)
  (hX:∀ b o vs,X b->s.heap.get? b=some o->o.data≠.fields vs):CloAt s'.heap f ps body scope cl:=by
 obtain ⟨o,fd,h1,h2,h3,h4,h5,h6,h7,h8,h9,h10,hr⟩:=x
 refine ⟨o,fd,e.keepC _ _ (by refine h2▸?_;exact λz=>by cases z) hf h1,h2,h3,h4,h5,h6,h7,h8,h9,h10,?_⟩
 refine (hr).elim λc hX1=>hX1.elim λoc hX2=>hX2.elim λvs hX3=>hX3.elim λt' hX4=>hX4.elim λg1 hX5=>hX5.elim λg2 hX6=>hX6.elim λg3 g4=>?_
 exact ⟨c,oc,vs,t',g1,e.keep _ _ (t.offCode ⟨c,oc,vs,t',rfl,g2,g3,g4⟩) (λz=>hX c oc vs z g2 g3) g2,g3,g4⟩
noncomputable def aqU (names:aad):Bool:=names.all λp=>names.lookup p.1==some p.2
noncomputable def cloX (names:aad) (cl:List (Str×Addr)) (n:Nat):aag:=λb=>b=n\/∃ x,names.lookup x=some .cell/\(cellsFrom (n+1) names cl).lookup x=some b
noncomputable def CellHas (h:Heap) (cl:List (Str×Addr)) (x:Str) (v:Value):Prop:=∃ c o,cl.lookup x=some c/\h.get? c=some o/\o.cls=.type "cell"/\o.data=.cell (some v)
theorem afu{names:aad}{n:Nat}{cl:List (Str×Addr)}:cellsFrom n names cl=cellsFrom n names []++cl:=abd (a:=[]) (b:=cl)
theorem ahI{names:aad}{n:Nat}{cl:List (Str×Addr)}(hn:aqU names=true) {x:Str}(hx:names.lookup x≠some .cell):(cellsFrom n names cl).lookup x=cl.lookup x:=by
 rw [afu,aaN]
 cases q:(cellsFrom n names []).lookup x with
 | none=>rfl
 | some c=>
  rcases aa4 (mem_of_lookup q) with z | ⟨z,_⟩
  . cases z
  . have:=List.all_eq_true.mp hn _ z
    exact absurd (eq_of_beq this) hx
theorem abz{names:aad}{n:Nat}{cl:List (Str×Addr)}{x:Str}(hx:names.lookup x=some .cell):∃ c,(cellsFrom n names cl).lookup x=some c/\(cellsFrom n names []).lookup x=some c/\n<=c:=by
 refine (abl (n:=n) (acc:=[]) (mem_of_lookup hx)).elim λc0 h0=>?_
 refine (abT h0).elim λc1 hX1=>hX1.elim λh1 h2=>?_
 rcases aa4 h2 with z | ⟨_,z⟩
 . exact nomatch z
 . exact ⟨c1,by rw [afu,aaN,h1],h1,z⟩
section
variable{A':Around}{scope:Scope}{cl:List (Str×Addr)}
theorem al4 (hlo:env.locals=s.heap.objs.size) (hce:env.cells=cellsFrom (s.heap.objs.size+1) scope.names cl) (hsc:env.scope=scope) (hg:env.globals=mainGlobals) (hbi:env.builtins=builtinsNs) (hk:scope.kind=.function) (hn:aqU scope.names=true)
  (bO:Ext a6 s) (hcl:∀ x c,cl.lookup x=some c->∃ o,a6.heap.get? c=some o/\o.cls=.type "cell") (hfr:∀ x,scope.names.lookup x=some .free->∃ c,cl.lookup x=some c)
  (bh:∀ x t,ρ.lookup x=some t->scope.names.lookup x=some .free/\∃ v,CellHas s.heap cl x v/\Rep V s.heap v t)
  (bC:∀ x t,ω.lookup x=some t->scope.names.lookup x=some .free/\CellHas s.heap cl x (.ref (ad x))/\¬ V (ad x)/\a6.heap.get? (ad x)=none/\OwnT V s.heap (ad x) t)
  (hap:∀ x y t u,ω.lookup x=some t->ω.lookup y=some u->ad x=ad y->x=y)
  (hfz:∀ p∈fz,scope.names.lookup p.1=some .free/\CellHas s.heap cl p.1 (.ref p.2)/\¬ V p.2/\(∃ o,s.heap.get? p.2=some o)/\∀ x t,ω.lookup x=some t->ad x≠p.2)
  (aok:AOK it r A a6.heap) (wd:Wd γ a6.heap) :
  FrK γ it r A (cloX scope.names cl s.heap.objs.size) V a6 env scope.names/\
  SSt γ it r A (cloX scope.names cl s.heap.objs.size) (λb=>∃ p∈fz,b=p.2) V a6 env scope.names fz (λa=>((V a/\∃ o,s.heap.get? a=some o)\/s.heap.get? a=none)/\¬ cloX scope.names cl s.heap.objs.size a) ad { s with heap:=aaI scope.names s.heap } ρ ω:=by
 have keep:∀ b o,s.heap.get? b=some o->(aaI scope.names s.heap).get? b=some o:=λb o e=>pushCells_keeps _ _ b o (atZ _ e)
 have hsz:(s.heap.push { cls:=.type "frame",data:=.dict #[] }).objs.size=s.heap.objs.size+1:=auP ..
 have made:∀ x c,(cellsFrom (s.heap.objs.size+1) scope.names []).lookup x=some c->(aaI scope.names s.heap).get? c=some { cls:=.type "cell",data:=.cell none }:=by
  intro x c h
  have h':=mem_of_lookup h
  rw [<- hsz] at h'
  exact (abm h').elim (λz=>nomatch z) id
 have hdict:(aaI scope.names s.heap).get? s.heap.objs.size=some { cls:=.type "frame",data:=.dict #[] }:=pushCells_keeps _ _ _ _ (at4 _ rfl)
 have ok:=(cellsFrom_ok scope.names (s.heap.push { cls:=.type "frame",data:=.dict #[] }) (s.heap.objs.size+1) [] ⟨λ_ _ hm=>(nomatch hm),List.Pairwise.nil⟩ (by refine hsz▸?_;exact auf _)).apart
 replace ok:=hsz▸ok
 have e1:Ext s { s with heap:=aaI scope.names s.heap }:=Ext.of (tk:=s.toks) keep
 have ext:Ext a6 { s with heap:=aaI scope.names s.heap }:=ExtX.trans bO e1
 have kin:∀ x,env.kindOf x=scope.names.lookup x:=λx=>by exact hsc▸rfl
 have cH:∀ b o,a6.heap.get? b=some o->∃ o',s.heap.get? b=some o':=λb o e=>by
  cases q:s.heap.get? b with
  | none=>have:=bO.there b id q;replace this:=e▸this;exact son this
  | some o'=>exact ⟨o',rfl⟩
 have cE:∀ b o,a6.heap.get? b=some o->b<s.heap.objs.size:=λb o e=>(cH b o e).elim λ_ q=>aua q
 have Xs:∀ b,cloX scope.names cl s.heap.objs.size b->s.heap.get? b=none/\∃ o,(aaI scope.names s.heap).get? b=some o:=by
  rintro b (h | ⟨x,hx,h⟩)
  . rw [h];exact ⟨aan,_,hdict⟩
  . obtain ⟨c1,g1,g2,g3⟩:=abz (cl:=cl) (n:=s.heap.objs.size+1) hx
    replace g1:=h▸g1;cases g1
    exact ⟨at6 (aun g3),_,made x _ g2⟩
 have nX:∀ b o,s.heap.get? b=some o->¬ cloX scope.names cl s.heap.objs.size b:=λb o e z=>by replace e:=((Xs b z).1)▸e;exact nos e
 have free:∀ x,scope.names.lookup x=some .free->env.cells.lookup x=cl.lookup x:=λx hx=>by
  rw [hce];exact ahI hn (by refine hx▸?_;exact λz=>by cases z)
 have any:∀ x c,env.cells.lookup x=some c->(scope.names.lookup x=some .cell/\s.heap.objs.size+1<=c)\/cl.lookup x=some c:=by
  intro x c h
  by_cases hx:scope.names.lookup x=some .cell
  . obtain ⟨c1,g1,_,g3⟩:=abz (cl:=cl) (n:=s.heap.objs.size+1) hx
    replace h:=hce▸h;replace h:=g1▸h;cases h;exact .inl ⟨hx,g3⟩
  . replace h:=hce▸h;rw [ahI hn hx] at h;exact .inr h
 have kk:FrK γ it r A (cloX scope.names cl s.heap.objs.size) V a6 env scope.names:=by
  refine ⟨?_,λb hb=>bO.there b id (Xs b hb).1,λy c h e=>?_,wd,aok⟩
  . rintro b (h | ⟨x,hx,h⟩)
    . exact .inl (h.trans hlo.symm)
    . exact .inr ⟨x,hx,by refine hce▸?_;exact h⟩
  . rw [free y h] at e;obtain ⟨o,q,_⟩:=hcl y c e;exact ⟨o,q⟩
 have eS:EnvS env scope.names:=by
  refine ⟨(by rw [hsc];exact hk),hg,hbi,(λx=>.inl (kin x)),?_⟩
  rintro x (h | h)
  . obtain ⟨cc,h1,_⟩:=abz (cl:=cl) (n:=s.heap.objs.size+1) h;exact ⟨cc,by refine hce▸?_;exact h1⟩
  . obtain ⟨c,h1⟩:=hfr x h;exact ⟨c,(free x h).trans h1⟩
 have sl:Slots (cloX scope.names cl s.heap.objs.size) (aaI scope.names s.heap) env scope.names:=by
  refine ⟨(by rw [hsc];exact hk),?_,?_,?_,?_,?_⟩
  . refine hlo.symm▸?_;exact ⟨.inl rfl,_,_,_,hdict,rfl,by intro e he;simp at he⟩
  . intro x hx
    refine (abz (cl:=cl) (n:=s.heap.objs.size+1) hx).elim λcc hX1=>hX1.elim λh1 hX2=>hX2.elim λh2 h3=>?_
    exact ⟨.inl ((kin x).trans hx),cc,_,_,(by rw [hce];exact h1),.inr ⟨x,hx,h1⟩,(by rw [hlo];exact auJ h3),made x _ h2,rfl,rfl⟩
  . intro x y cc hx h1 h2
    refine ag λG kG=>?_
    obtain ⟨c1,g1,g2,g3⟩:=abz (cl:=cl) (n:=s.heap.objs.size+1) hx
    refine kG ?_
    replace h1:=hce▸h1;replace h1:=g1▸h1;cases h1
    rcases any y _ h2 with ⟨hy,_⟩ | hy
    . obtain ⟨c2,k1,k2,_⟩:=abz (cl:=cl) (n:=s.heap.objs.size+1) hy
      replace h2:=hce▸h2;replace h2:=k1▸h2;cases h2
      exact name_of_addr ok (mem_of_lookup g2) (mem_of_lookup k2)
    . obtain ⟨o,q,_⟩:=hcl y _ hy
      exact absurd (cE _ _ q) (Nat.not_lt.mpr (aun g3))
  . intro y cc h1 h2
    rcases any y cc h1 with ⟨_,z⟩ | z
    . rw [h2,hlo] at z;exact auH _ z
    . refine (hcl y _ z).elim λo hX1=>hX1.elim λq _=>?_
      have:=cE _ _ q
      rw [h2,hlo] at this;exact auH _ this
  . intro x hx;exact (kin x).trans hx
 have sees:∀ x v,scope.names.lookup x=some .free->CellHas s.heap cl x v->Sees (aaI scope.names s.heap) env x v:=λx v h hZ23=>hZ23.elim λc hZ24=>hZ24.elim λo hZ25=>hZ25.elim λh1 hZ26=>hZ26.elim λh2 hZ27=>hZ27.elim λh3 h4=>     .inr ⟨.inr ((kin x).trans h),c,o,(free x h).trans h1,keep _ _ h2,h3,h4⟩
 have lv:∀ a,V a->(∃ o,s.heap.get? a=some o)->((V a/\∃ o,s.heap.get? a=some o)\/s.heap.get? a=none)/\¬ cloX scope.names cl s.heap.objs.size a:=λa h hZ47=>hZ47.elim λo e=>⟨.inl ⟨h,o,e⟩,nX a o e⟩
 refine ⟨kk,{ cx:=⟨aok.ext ext,wd.ext ext,eS,(by refine hlo▸?_;exact acg (wd.tabs |> bO.tab) (auf _)),(λx t h=>?_),λx c hc h=>?_⟩,slots:=sl,offX:=(λb hb h=>h.2 hb),fr:=?_,own:=(λx t h=>?_),apart:=hap,offP:=?_,frz:=(λp hp=>⟨sees p.1 _ (hfz p hp).1 (hfz p hp).2.1,p,hp,rfl⟩),ext:=ext,vw:=?_ }⟩
 . refine (bh x t h).elim λh1 hX1=>hX1.elim λv hX2=>hX2.elim λh2 h3=>?_
   exact ⟨v,sees x v h1 h2,h3.shift (s':={ s with heap:=aaI scope.names s.heap }) lv (λb o _ _ e=>keep b o e)⟩
 . rcases any x c h with ⟨hx,_⟩ | hx
   . obtain ⟨c1,g1,g2,g3⟩:=abz (cl:=cl) (n:=s.heap.objs.size+1) hx
     replace h:=hce▸h;replace h:=g1▸h;cases h
     exact ⟨_,made x _ g2,rfl⟩
   . obtain ⟨o,q,qc⟩:=hcl x c hx
     exact ⟨o,ext.keepC _ _ (by refine qc▸?_;exact λz=>by cases z) id q,qc⟩
 . intro a e
   refine ⟨.inr (e1.there a id e),λhx=>?_⟩
   refine ag λG kG=>?_
   obtain ⟨o,z⟩:=(Xs a hx).2
   refine kG ?_
   replace e:=(show ({ s with heap:=aaI scope.names s.heap }:Shared).heap=aaI scope.names s.heap from rfl)▸e;replace e:=z▸e;exact son e
 . have hX:=bC x t h
   have h1:=hX.1
   have h3:=hX.2.2.1
   refine (hX.2.2.2.2.obj).elim λo hZ259=>hZ259.elim λe _=>?_
   refine ⟨sees x _ h1 hX.2.1,λz=>z.1.elim (λz=>h3 z.1) λz=>(by replace z:=e▸z;exact son z),nX _ o e,λhX=>hX.elim λp hX1=>hX1.elim λhp hz=>(hfz p hp).2.2.2.2 x t h hz,hX.2.2.2.1,hX.2.2.2.2.shift (s':={ s with heap:=aaI scope.names s.heap }) lv (λb o _ _ e=>keep b o e) λo _ e=>keep _ _ e⟩
 . rintro b ⟨p,hp,rfl⟩
   refine ag λG kG=>?_
   refine (hfz p hp).elim λ_ hZ277=>hZ277.elim λ_ hZ278=>hZ278.elim λh3 hZ279=>hZ279.elim λhZ280 _=>hZ280.elim λo e=>?_
   refine kG ?_
   exact ⟨λz=>z.1.elim (λz=>h3 z.1) λz=>(by replace z:=e▸z;exact son z),nX _ o e,o,keep _ _ e⟩
 . intro a h
   exact h.1.elim (λz=>.inl z.1) λz=>.inr (bO.there a id z)
theorem aku{M:Model}{A:Around}{E:Value->Shared->Prop}{s:Shared}{scope:Scope}{g bi:Addr}{binds:List (Str×Value)}{qual:Str}{f:Option Addr}{code:Value}{Q:Env->Shared->Prop}
  (h:∀ env,env={ scope:=scope,locals:=s.heap.objs.size,globals:=g,cells:=cellsFrom (s.heap.objs.size+1) scope.names cl,qual:=qual,func:=f,code:=code,frame:=some s.heap.objs.size,builtins:=bi }->
    wpAny M A (forIn binds PUnit.unit λ(p:Str×Value) (_:PUnit)=>(do storeName env p.1 p.2;pure (ForInStep.yield ⟨⟩):Sem _)) (λ_ s'=>Q env s') E { s with heap:=aaI scope.names s.heap }) :
  wpAny M A (newFunctionEnv scope g cl binds qual f code none bi) Q E s:=by
 dsimp only [newFunctionEnv,Option.isSome_none,Bool.false_eq_true,if_false]
 refine atY (wpAny_alloc ?_)
 refine atY (wpAny_layCells _ (λname kind cells=>by exact ite_cond_congr rfl) _ _ _ _ ?_)
 refine (show ({ s with heap:=s.heap.push { cls:=.type "frame",data:=.dict #[] } }:Shared).heap.objs.size=s.heap.objs.size+1 from auP ..)▸?_
 exact atY (at1 (h _ rfl) (λ_ s' hq=>at3 hq) λ_ _ e=>e)
end
noncomputable def acW (ps:Arguments) (scope:Scope):Bool:=
 scope.kind==.function&&!scope.isCoroutine&&!scope.isGenerator&&afq ps&&acs (aaR ps)&&aqU scope.names&&(aaR ps).all (abW scope.names)
section
variable{A':Around}{scope:Scope}{cl:List (Str×Addr)}{ps:Arguments}
structure CloIn (a6 s:Shared) (names:aad) (cl:List (Str×Addr)) (V:aag) (ad:Str->Addr) (fz:List (Str×Addr)) (ρ ω:aab):Prop where
 x:Ext a6 s
 cls:∀ x c,cl.lookup x=some c->∃ o,a6.heap.get? c=some o/\o.cls=.type "cell"
 fr:∀ x,names.lookup x=some .free->∃ c,cl.lookup x=some c
 rho:∀ x t,ρ.lookup x=some t->names.lookup x=some .free/\∃ v,CellHas s.heap cl x v/\Rep V s.heap v t
 om:∀ x t,ω.lookup x=some t->names.lookup x=some .free/\CellHas s.heap cl x (.ref (ad x))/\¬ V (ad x)/\a6.heap.get? (ad x)=none/\OwnT V s.heap (ad x) t
 ap:∀ x y t u,ω.lookup x=some t->ω.lookup y=some u->ad x=ad y->x=y
 fz:∀ p∈fz,names.lookup p.1=some .free/\CellHas s.heap cl p.1 (.ref p.2)/\¬ V p.2/\(∃ o,s.heap.get? p.2=some o)/\∀ x t,ω.lookup x=some t->ad x≠p.2
noncomputable abbrev fzP (fz:List (Str×Addr)):aag:=λb=>∃ p∈fz,b=p.2
theorem aiG (hh:acW ps scope=true) (ci:CloIn a6 s scope.names cl V ad fz ρ ω) (aok:AOK it r A a6.heap) (wd:Wd γ a6.heap) {vs:List Value}{ts:List T}(rs:RepL V s.heap vs ts) (hlen:ts.length=(aaR ps).length)
  {qual:Str}{f:Option Addr}{code:Value}{Q:Env->Shared->Prop}{E:Value->Shared->Prop}
  (h:∀ env a8 X V',env.code=code->env.qual=qual->FrK γ it r A X V a6 env scope.names->SSt γ it r A X (fzP fz) V a6 env scope.names fz V' ad a8 (((aaR ps).zip ts).reverse++ρ) ω->Q env a8) :
  wpAny (model pg γ.w) A (newFunctionEnv scope mainGlobals cl ((aaR ps).zip vs) qual f code none builtinsNs) Q E s:=by
 unfold acW at hh
 simp only [Bool.and_eq_true,beq_iff_eq,Bool.not_eq_true'] at hh
 refine ag λG kG=>?_
 refine (hh).elim λhZ9 h7=>hZ9.elim λhZ10 h6=>hZ10.elim λhZ11 h5=>hZ11.elim λhZ12 h4=>hZ12.elim λhZ13 h3=>hZ13.elim λh1 h2=>?_
 refine kG ?_
 refine aku λenv he=>?_
 have ext:Ext s { s with heap:=aaI scope.names s.heap }:=Ext.of (tk:=s.toks) λb o e=>pushCells_keeps _ _ b o (atZ _ e)
 refine (al4 (γ:=γ) (V:=V) (A:=A) (it:=it) (r:=r) (env:=env) (scope:=scope) (by rw [he]) (by rw [he]) (by rw [he]) (by rw [he]) (by rw [he]) h1 h6 ci.x ci.cls ci.fr ci.rho ci.om ci.ap ci.fz aok wd).elim λkk al=>?_
 have off:∀ b o,s.heap.get? b=some o->¬ cloX scope.names cl s.heap.objs.size b:=λb o e z=>by
  rcases z with z | ⟨x,hx,z⟩
  . exact absurd (aua e) (Nat.not_lt.mpr (aub z.symm))
  . obtain ⟨c1,g1,_,g3⟩:=abz (cl:=cl) (n:=s.heap.objs.size+1) hx
    replace g1:=z▸g1;cases g1
    exact absurd (aua e) (Nat.not_lt.mpr (aun g3))
 have b8:=rs.shift (s:=s) (s':={ s with heap:=aaI scope.names s.heap }) (V':=λa=>((V a/\∃ o,s.heap.get? a=some o)\/s.heap.get? a=none)/\¬ cloX scope.names cl s.heap.objs.size a)
  (λb hb hZ1=>hZ1.elim λo e=>⟨.inl ⟨hb,o,e⟩,off b o e⟩) λb o n hb e=>ext.keepC b o n id e
 refine aeD kk (λx hx=>⟨List.all_eq_true.mp h7 x hx,?_,λp hp z=>?_⟩) hlen.symm b8 al λaa ah=>h env aa _ _ (by rw [he]) (by rw [he]) kk ah
 rotate_left
 . have:=(ci.fz p hp).1
   have hx':=List.all_eq_true.mp h7 x hx
   rw [z] at this;simp [abW,this] at hx'
 cases q:ω.lookup x with
 | none=>rfl
 | some t=>
  have:=(ci.om x t q).1
  have hx':=List.all_eq_true.mp h7 x hx
  simp [abW,this] at hx'
theorem FrK.around{X a9:aag}(k:FrK γ it r A X a9 a6 env sc) (h:AOK it r A' a6.heap):FrK γ it r A' X a9 a6 env sc:=⟨k.isX,k.Xf,k.fre,k.wd,h⟩
theorem ahJ{f:Addr}{body:List Stmt}(hf:CloAt s.heap f ps (.stmts body) scope cl) (hh:acW ps scope=true) (ci:CloIn a6 s scope.names cl V ad fz ρ ω) (aok:AOK it (r+1) A a6.heap) (wd:Wd γ a6.heap) {vs:List Value}{ts:List T}(rs:RepL V s.heap vs ts) (hlen:ts.length=(aaR ps).length)
  {R:Result->Shared->Prop}{E:Result->Shared->Prop}
  (h:∀ env a8 X V' A',FrK γ it r A' X V a6 env scope.names->SSt γ it r A' X (fzP fz) V a6 env scope.names fz V' ad a8 (((aaR ps).zip ts).reverse++ρ) ω->
    wpAny (model pg γ.w) A' (execs body env) (λf s'=>R (.ok (.ret (match f with | .ret v=>v | _=>.none))) s') No a8) :
  codeAny (model pg γ.w) A (.call (.ref f) ⟨vs,[]⟩) R s:=by
 refine ag λG kG=>?_
 obtain ⟨o,fd,g1,g2,g3,g4,g5,g6,g7,g8,g9,g10,g11⟩:=hf
 have hh':=hh
 unfold acW at hh'
 simp only [Bool.and_eq_true,beq_iff_eq,Bool.not_eq_true'] at hh'
 refine (hh').elim λhZ47 h7=>hZ47.elim λhZ48 h6=>hZ48.elim λhZ49 h5=>hZ49.elim λhZ50 h4=>hZ50.elim λhZ51 h3=>hZ51.elim λh1 h2=>?_
 refine kG ?_
 refine codeAny_call_function (by have:=aok.depth;exact auc (at9 _ _) this) g1 g3 (by rw [g6];exact h2) (by rw [g6];exact h3) g5 g11 ?_
 rw [ab1 (by refine g4▸?_;exact h4) g10 (by refine g4▸?_;exact h5) (by refine g4▸?_;exact (by rw [rs.length,hlen]:vs.length=(aaR ps).length).symm),g9,g4,g6,g7,g8]
 refine at3 (aiG hh ci aok.in1 wd rs hlen λenv a8 X V' _ _ k c=>⟨c.cx.wd.nolimit,codeAny_func ?_⟩)
 exact at1 (h env a8 X V' _ (k.around aok.deeper) (c.around (aok.deeper.ext c.ext))) (λ_ _ e=>e) aah
theorem adW{a c:Addr}{q:Str}{stm:Stmt}(hf:FnInC γ.KF a c q stm) (hh:acW (afW stm) (aaD stm)=true) (hfr:(aaD stm).names.all (λp=>p.2 != .free)=true) (wd:Wd γ s.heap) (aok:AOK it (r+1) A s.heap) {vs:List Value}{ts:List T}(rs:RepL V s.heap vs ts) (hlen:ts.length=(aaR (afW stm)).length) {R:Result->Shared->Prop}
  (h:∀ env a8 X V' A',env.code=.ref c->env.qual=q++".<locals>."->FrK γ it r A' X V s env (aaD stm).names->SSt γ it r A' X (fzP []) V s env (aaD stm).names [] V' (λ_=>0) a8 ((aaR (afW stm)).zip ts).reverse []->
    wpAny (model pg γ.w) A' (execs (abE stm) env) (λf s'=>R (.ok (.ret (match f with | .ret v=>v | _=>.none))) s') No a8) :
  codeAny (model pg γ.w) A (.call (.ref a) ⟨vs,[]⟩) R s:=by
 refine ag λG kG=>?_
 obtain ⟨o,fd,oc,cvs,t,k1,k2,k3,k4,k5,k6,k7,k8,k9,k10,k11,k12,k13,k14,k15⟩:=hf
 have hh':=hh
 unfold acW at hh'
 simp only [Bool.and_eq_true,beq_iff_eq,Bool.not_eq_true'] at hh'
 refine (hh').elim λhZ104 h7=>hZ104.elim λhZ105 h6=>hZ105.elim λhZ106 h5=>hZ106.elim λhZ107 h4=>hZ107.elim λhZ108 h3=>hZ108.elim λh1 h2=>?_
 refine kG ?_
 have ci:CloIn s s (aaD stm).names [] V (λ_=>0) [] [] []:=by
  refine ⟨ExtX.refl s,λx c h=>(by exact nos h),λx hx=>?_,λx t h=>(by exact nos h),λx t h=>(by exact nos h),λx y t u h=>(by exact nos h),λp hp=>(by exact nomatch hp)⟩
  have:=List.all_eq_true.mp hfr _ (mem_of_lookup hx)
  simp at this
 refine codeAny_call_function (by have:=aok.depth;exact auc (at9 _ _) this) (wd.k _ _ k1) k3 (by rw [k6];exact h2) (by rw [k6];exact h3) k5 ⟨c,oc,cvs,t,k12,wd.k _ _ k13,k14,k15⟩ ?_
 rw [ab1 (by refine k4▸?_;exact h4) k10 (by refine k4▸?_;exact h5) (by refine k4▸?_;exact (by rw [rs.length,hlen]:vs.length=(aaR (afW stm)).length).symm),k9,k4,k6,k7,k8,k12,k11]
 refine at3 (aiG hh ci aok.in1 wd rs hlen λenv a8 X V' e1 e2 k c=>⟨c.cx.wd.nolimit,codeAny_func ?_⟩)
 rw [List.append_nil] at c
 exact at1 (h env a8 X V' _ e1 e2 (k.around aok.deeper) (c.around (aok.deeper.ext c.ext))) (λ_ _ e=>e) aah
end
theorem aoh:∀ q∈aea,∀ q'∈aea,q'.2.1=q.2.1->q'=q:=by decide
theorem TabInv.grow{h h':Heap}{q:Addr×Addr×Nat×Nat×Str}{c':Addr}(x:TabInv h) (hq:q∈aea) (hx:Heap.ExtBut q.2.1 h h') (hr:h'.CodeRec (.ref c') q.2.2.2.2) (ht:h'.get? q.2.1=some (tabObj #[rawInt q.2.2.1,rawInt q.2.2.2.1,.ref c'])):TabInv h':=λq' hq'=>by
 by_cases e:q'.2.1=q.2.1
 . rw [aoh q hq q' hq' e]
   exact ⟨ahi (x q hq).1 λo _ e _ _ n=>hx _ _ n e,_,ht,.inr ⟨c',rfl,hr⟩⟩
 . refine (x q' hq').move (λo vs e c _ _=>hx _ _ (λz=>?_) e) (λps=>hx _ _ e) λe d s=>hx _ _ (λz=>ahj (x q hq) (z▸e) d s) e
   obtain ⟨_,ps,e',_⟩:=x q hq
   exact nty (c.symm.trans (soi (e'.symm.trans (z▸e))▸rfl))
section
variable{M:Model}
theorem aiH (wd:Wd γ s.heap) {Pl:Addr}(h:Pl∈aa7):s.heap.BuiltinsAt γ.mg Pl/\mainGlobals≠Pl:=by
 refine (wd.st.bm).elim λb hX1=>hX1.elim λo hX2=>hX2.elim λe1 hX3=>hX3.elim λe2 hX4=>hX4.elim λe3 hX5=>hX5.elim λe4 hX6=>hX6.elim λe5 hX7=>hX7.elim λe6 e7=>?_
 exact ⟨⟨b,o,e1,e2,e3,λz=>wd.st.koff b o e4 (z▸h),wd.k _ _ e4,e5,e6,e7⟩,λz=>by replace h:=z▸h;revert h;decide⟩
theorem aqV{name qual:Str}{params:Arguments}{body:List Stmt}{scope:Scope}{pos:Pos}{firstLine:Nat}{q:Addr×Addr×Nat×Nat×Str}{clos:List (Str×Addr)}{Q:Value->Shared->Prop}(wd:Wd γ s.heap) (hge:env.globals=mainGlobals) (hq:q∈aea) (hcode:env.code=.ref q.1) (hpos:pos.line=q.2.2.1/\pos.col=q.2.2.2.1) (hqual:qual=q.2.2.2.2)
  (hcl:closureFor scope env=pure clos)
  (h:∀ f s',Ext s s'->s.heap.get? f=none->CloAt s'.heap f params (.stmts body) scope clos->Q (.ref f) s'):wpAny M A (makeFunction name qual params (.stmts body) scope env [] [] [] pos firstLine) Q E s:=by
 cases hqual
 have hP:=ai9 q hq
 have hX:=aiH wd hP
 have hb:=hX.1
 have hgP:=hX.2
 refine ag λG kG=>?_
 obtain ⟨C,ps,tp,hps⟩:=wd.tabs q hq
 refine kG ?_
 have ne:∀ {b:Addr}{o:Obj},s.heap.get? b=some o->o.cls≠.none->b≠q.2.1:=λe n z=>by
  replace e:=z▸e;replace e:=tp▸e;cases e;exact n rfl
 rcases hps with rfl | ⟨c',rfl,hr⟩
 . refine makeFunction_K (mg:=γ.mg) hcl hge wd.g hcode C tp (by trivial) rfl hgP hb λc' ctv doc h' tk hx hge' hlt hrec htb=>?_
   have old:∀ b o,b≠q.2.1->s.heap.get? b=some o->(h'.push (fnMade name q.2.2.2.2 params body scope clos doc ((γ.mg "__name__").getD .none) c' ctv)).get? b=some o:=λb o n e=>atZ _ (hx b o n e)
   have htb':(h'.push (fnMade name q.2.2.2.2 params body scope clos doc ((γ.mg "__name__").getD .none) c' ctv)).get? q.2.1=some (tabObj #[rawInt q.2.2.1,rawInt q.2.2.2.1,.ref c']):=by
    rw [<- hpos.1,<- hpos.2];exact atZ _ htb
   have hrec':(h'.push (fnMade name q.2.2.2.2 params body scope clos doc ((γ.mg "__name__").getD .none) c' ctv)).CodeRec (.ref c') q.2.2.2.2:=hrec.keeps λb o e=>atZ _ e
   refine h _ _ ⟨λb o n _ e=>old b o (λz=>n (z▸hP)) e,λb o n _ e=>old b o (ne e n) e,λb _ e=>?_,λi=>i.grow hq old hrec' htb',rfl,id⟩ (at6 (at0 hge' (aug hlt))) ?_
   . by_cases z:b=q.2.1
     . replace e:=z▸e;replace e:=htb'▸e;exact son e
     . cases y:s.heap.get? b with
       | none=>rfl
       | some o=>replace e:=(old b o z y)▸e;exact son e
   . exact ⟨_,_,at4 _ rfl,rfl,rfl,rfl,rfl,rfl,rfl,rfl,rfl,rfl,hrec'⟩
 . refine makeFunction_hit (mg:=γ.mg) hcl hge wd.g hcode C tp (by trivial) (cv:=.ref c') (by
    show (if (q.2.2.1:Int)==(pos.line:Int)&&(q.2.2.2.1:Int)==(pos.col:Int) then some (Value.ref c') else _)=_
    refine hpos.1▸?_;refine hpos.2▸?_;simp) hb λctv doc h' tk hk hsz=>?_
   exact h _ _ (Ext.of (tk:=tk) (λb o e=>atZ _ (hk b o e):∀ b o,s.heap.get? b=some o->(h'.push (fnMade name q.2.2.2.2 params body scope clos doc ((γ.mg "__name__").getD .none) c' ctv)).get? b=some o)) (at6 hsz) ⟨_,_,at4 _ rfl,rfl,rfl,rfl,rfl,rfl,rfl,rfl,rfl,rfl,hr.keeps (λb o e=>atZ _ (hk b o e):∀ b o,s.heap.get? b=some o->(h'.push (fnMade name q.2.2.2.2 params body scope clos doc ((γ.mg "__name__").getD .none) c' ctv)).get? b=some o)⟩
theorem apD (k:FrK γ it r A X a9 a6 env sc) (c:SSt γ it r A X P a9 a6 env sc fz V ad s ρ ω) {name:Str}{params:Arguments}{body:List Stmt}{scope:Scope}{pos:Pos}{q:Addr×Addr×Nat×Nat×Str}{Q:Flow->Shared->Prop}
  (hd0:params.defaults=[]) (hk0:params.kw_defaults=[]) (ha:annTrees params none env=[]) (hq:q∈aea) (hcode:env.code=.ref q.1) (hpos:pos.line=q.2.2.1/\pos.col=q.2.2.2.1) (hqual:qualnameIn env name name=q.2.2.2.2) (hcl:∀ p∈scope.names,p.2=.free->∃ c,env.cells.lookup p.1=some c)
  (hx:abi sc (fz.map (·.1)) name=true)
  (h:∀ f s' V',SSt γ it r A X (λb=>P b\/b=f) a9 a6 env sc ((name,f) ::fz) V' ad s' (er name ρ) (er name ω)->CloAt s'.heap f params (.stmts body) scope (aay env scope.names [])->a6.heap.get? f=none->Q .next s') :
  wpAny (model pg γ.w) A (exec (.FunctionDef name params body [] none [] scope none name pos) env) Q No s:=by
 have o1:=(adi hx).1
 have o2:=(adi hx).2
 refine nestDef_K hd0 hk0 ha (aqV c.cx.wd c.cx.envS.glob hq hcode hpos hqual (aeg hcl) λf a8 x hf cl=>?_)
 have lv:∃ o,a8.heap.get? f=some o:=by cases cl with | mk o _ e=>exact ⟨o,e⟩
 have al:=c.shrink k x (N:=(·=f)) (λb hb=>hb▸hf) (λb hb=>hb▸lv)
 have nX:¬ X f:=λz=>by
  have:∃ o,s.heap.get? f=some o:=aaM c.slots k.isX f z
  replace this:=hf▸this;obtain ⟨_,e⟩:=this;exact nos e
 refine al.putZ k o1 o2 (λz=>z.2 rfl) nX lv (λy u hy z=>?_) λaa ah aD _=>h f aa _ ah (cl.extX al.cx.wd.tabs aD nX λb o vs hb e z=>?_) (c.ext.there f id hf)
 . obtain ⟨_,_,_,_,_,h6⟩:=c.own y u hy
   refine (h6.obj).elim λo hX1=>hX1.elim λe _=>?_
   replace e:=z▸e;replace e:=hf▸e;exact nos e
 . rcases k.isX b hb with rfl | ⟨x,hx1,hx2⟩
   . obtain ⟨_,o',es,ep,e',d',_⟩:=al.slots.loc
     replace e:=e'▸e;cases e;replace z:=d'▸z;cases z
   . obtain ⟨_,c',o',v,h1,_,_,h4,_,h6⟩:=al.slots.cell x hx1
     replace h1:=hx2▸h1;cases h1
     replace e:=h4▸e;cases e;replace z:=h6▸z;cases z
end
section
variable{n':Nat}{hk:HkS}
noncomputable def Nx (γ:Gm) (it:Bool) (r:Nat) (A:Around) (X P a9:aag) (a6:Shared) (env:Env) (sc:aad) (fz:List (Str×Addr)) (V:aag) (ad:Str->Addr) (s:Shared) (ω:aab) (ss:List Stmt) (R:Flow->Shared->Prop):Out->Prop
 | .nx af au=>∀ s' V' ad',SSt γ it r A X P a9 a6 env sc fz V' ad' s' af au->Stp X V ad s ω V' ad' s' au->wpAny (model pg γ.w) A (execs ss env) R No s'
 | _=>False
theorem acb (sg:SgOK γ S it r) (k:FrK γ it r A X a9 a6 env sc) (hh:HkOK γ it r A X a9 a6 env sc hk) {ss:List Stmt}{R:Flow->Shared->Prop}:∀ (m:Nat) (aY:List Stmt) {ρ ω:aab}{V:aag}{ad:Str->Addr}{s:Shared},blF it (aam S it (n+1)) n' sc ow hk m (fz.map (·.1)) aY ρ ω (Nx γ it r A X P a9 a6 env sc fz az aG a8 aJ ss R)->SSt γ it r A X P a9 a6 env sc fz V ad s ρ ω->Stp X az aG a8 aJ V ad s ω->wpAny (model pg γ.w) A (execs (aY++ss) env) R No s:=by
 intro m
 induction m with
 | zero=>
  intro aY ρ ω V ad s h c st
  cases aY with
  | nil=>exact h s V ad c st
  | cons=>exact h.elim
 | succ m ih=>
  intro aY ρ ω V ad s h c stp
  cases aY with
  | nil=>exact h s V ad c stp
  | cons st aY=>
  refine aui (at1 (ahE sg k hh (acT sg k hh m) c h) (λf aa p=>?_) aah)
  exact ab0 p (λ_ _ _ _ ho c' st'=>ih aY ho c' (stp.trans st')) (λ_ _ _ _ ho _ _=>(show False from ho).elim) λ_ _ ho _ _=>(show False from ho).elim
theorem adb (hs:aaz γ it r (aam S it (n+1))) (k:FrK γ it r A X a9 a6 env sc) (c:SSt γ it r A X P a9 a6 env sc fz V ad s ρ ω) {f:Str}{a:Addr}{p pos:Pos}{e:Expr}{es:List Expr}{ps:Arguments}{body:FuncBody}{scope:Scope}{cl:List (Str×Addr)}{Kt:List T->Prop}{Q:Value->Shared->Prop}
  (hz:Sees s.heap env f (.ref a)) (hf:(f==("__debug__":Str))=false/\(f==("__classdict__":Str))=false) (hp:aae (e ::es)=true) (cl0:∀ s',Ext s s'->CloAt s'.heap a ps body scope cl) (h:ahe (λe k=>aam S it (n+1) sc e (ω++ρ) k) (e ::es) Kt)
  (q:∀ a8 vs ts,Kt ts->Ext s a8->SSt γ it r A X P a9 a6 env sc fz V ad a8 ρ ω->RepL (Nv (Vs V ω ad) s) a8.heap vs ts->wpAny (model pg γ.w) A (call (.ref a) vs) Q No a8) :
  wpAny (model pg γ.w) A (eval (.Call (.Name f p) (e ::es) [] pos) env) Q No s:=by
 show wpAny _ _ (eval (.Name f p) env >>= λg=>callWith pos g [] (backTo pos (starEach (e ::es) env)) []) _ _ _
 refine (eval_Name _ _ _ hf.1)▸?_
 have fa:∀ s',Ext s s'->FnAt a s'.heap:=λs' x=>by
  obtain ⟨⟨oc,od,dt,sl⟩,fd,h1,h2,h3,_⟩:=cl0 s' x
  simp only at h3;subst h3
  exact ⟨oc,od,fd,sl,h1⟩
 refine atY (atY (at7 (aaA c.cx.envS.kind hz hf.2 ?_)))
 exact callWith_F (fa s (ExtX.refl s)) (at1 (aaX hs hp h c.shown) (λvs a8 hq=>hq.elim λts hK x rs=>⟨fa a8 x,q a8 vs ts hK x (c.run k x) rs⟩) aah) (aaF (aaL hp).1) (aec (aaL hp).2)
theorem aiI (hs:aaz γ it r (aam S it (n+1))) (k:FrK γ it r A X a9 a6 env sc) (c:SSt γ it r A X P a9 a6 env sc fz V ad s ρ ω) {f:Str}{a:Addr}{p pos pos':Pos}{e:Expr}{es:List Expr}{ps:Arguments}{body:FuncBody}{scope:Scope}{cl:List (Str×Addr)}{Kt:List T->Prop}{Q:Flow->Shared->Prop}
  (hz:(f,a)∈fz) (hf:(f==("__debug__":Str))=false/\(f==("__classdict__":Str))=false) (hp:aae (e ::es)=true) (cl0:∀ s',Ext s s'->CloAt s'.heap a ps body scope cl) (h:ahe (λe k=>aam S it (n+1) sc e (ω++ρ) k) (e ::es) Kt)
  (q:∀ a8 vs ts,Kt ts->Ext s a8->SSt γ it r A X P a9 a6 env sc fz V ad a8 ρ ω->RepL (Nv (Vs V ω ad) s) a8.heap vs ts->wpAny (model pg γ.w) A (call (.ref a) vs) (λ_ s'=>Q .next s') No a8) :
  wpAny (model pg γ.w) A (exec (.Expr (.Call (.Name f p) (e ::es) [] pos) pos') env) Q No s:=
 wpAny_Expr_any (adb hs k c (c.frz _ hz).1 hf hp cl0 h q) (by dsimp only [interactive];refine c.slots.kind▸?_;rfl) rfl
theorem aen (sg:SgOK γ S it r) (k:FrK γ it r A X a9 a6 env sc) (hh:HkOK γ it r A X a9 a6 env sc hk) (c:SSt γ it r A X P a9 a6 env sc fz V ad s ρ ω) {ss:List Stmt}{K:T->Prop}(h:blF it (aam S it (n+1)) n' sc ow hk m (fz.map (·.1)) ss ρ ω (aqO K)) :
  wpAny (model pg γ.w) A (execs ss env) (λf s'=>EvR a9 a6 K (match f with | .ret v=>v | _=>.none) s') No s:=by
 refine at1 (acT (n:=n) (n':=n') (ow:=ow) sg k hh m P fz ss ρ ω (aqO K) V ad s h c) (λf aa p=>?_) aah
 exact ab0 p (λ_ _ _ _ ho ah _=>⟨_,ho,ah.ext,.none⟩) (λ_ _ _ _ ho _ _=>(show False from ho).elim) λ_ _ ho x rv=>⟨_,ho,x,rv⟩
end
noncomputable def acl (s:Shared) (a:Addr):Shared:={ s with heap:=hideAll s.heap [a] }
theorem ajz{s s':Shared}{a:Addr}(x:Ext s s') (h:s.heap.get? a=none) (hd:∀ o vs,s'.heap.get? a=some o->o.data≠.fields vs):Ext s (acl s' a):=by
 have k:∀ b o,s.heap.get? b=some o->b≠a:=λb o e z=>by replace e:=z▸e;replace e:=h▸e;exact nos e
 have g:∀ {b o},b≠a->s'.heap.get? b=some o->(acl s' a).heap.get? b=some o:=λn e=>hideAll_get _ e (by simpa using n)
 refine ⟨λb o n q e=>g (k b o e) (x.keep b o n q e),λb o n q e=>g (k b o e) (x.keepC b o n q e),λb q e=>?_,λi=>?_,x.os,x.gens⟩
 . by_cases z:b=a
   . refine z▸?_;exact h
   . refine x.there b q ?_
     cases y:s'.heap.get? b with
     | none=>rfl
     | some o=>replace e:=(g z y)▸e;exact son e
 . intro q hq
   obtain ⟨⟨dD,_,_,_,_,_,_,_,_,dw,_⟩,dY,dE,_⟩:=i q hq
   exact (x.tab i q hq).move (λo _ e _ _ _=>g (k _ _ dw) e) (λ_ e=>g (k _ _ dE) e) λe d _=>g (λz=>hd _ _ (z▸e) d) e
theorem aeo{s s':Shared}{a:Addr}(t:TabInv (acl s a).heap) (x:Ext (acl s a) s'):ExtX (·=a) s s':=by
 have g:∀ {b o},b≠a->s.heap.get? b=some o->(acl s a).heap.get? b=some o:=λn e=>hideAll_get _ e (by simpa using n)
 refine ⟨λb o n q e=>x.keep b o n id (g q e),λb o n q e=>x.keepC b o n id (g q e),λb q e=>?_,λ_=>x.tab t,x.os,x.gens⟩
 have h:=x.there b id e
 cases y:s.heap.get? b with
 | none=>rfl
 | some o=>replace h:=(g q y)▸h;exact son h
noncomputable def acL (n:Nat):Nat->Nat->List Nat
 | 0,_=>[]
 | k+1,x=>x%2^n ::acL n k (x / 2^n)
theorem abh{n:Nat}:∀ {k x:Nat},(acL n k x).length=k
 | 0,_=>rfl
 | k+1,x=>congrArg (·+1) abh
theorem aoi{n x:Nat}(h:x<2^n):acL n 1 x=[x]:=by
 show [x%2^n]=[x]
 exact (Nat.mod_eq_of_lt h).symm▸rfl
theorem ajA{n:Nat}:∀ {a b x:Nat},acL n (a+b) x=acL n a (x%2^(n*a))++acL n b (x / 2^(n*a))
 | 0,b,x=>by rw [Nat.zero_add];show acL n b x=acL n b (x / 2^(n*0));rw [Nat.mul_zero,Nat.pow_zero,Nat.div_one]
 | a+1,b,x=>by
  rw [Nat.succ_add]
  show x%2^n ::acL n (a+b) (x / 2^n)=_
  refine (ajA (a:=a))▸?_
  have e1:2^(n*(a+1))=2^n*2^(n*a):=by rw [<- Nat.pow_add];congr 1;rw [Nat.mul_succ,Nat.add_comm]
  rw [(by rw [e1,Nat.mod_mul_right_div_self]:x / 2^n%2^(n*a)=x%2^(n*(a+1)) / 2^n),(by refine e1▸?_;rw [Nat.div_div_eq_div_mul]:x / 2^n / 2^(n*a)=x / 2^(n*(a+1))),(by rw [e1,Nat.mod_mul_right_mod]:x%2^n=x%2^(n*(a+1))%2^n)]
  rfl
theorem al5 (x k:Nat):x &&& (x / 2^k*2^k)=x / 2^k*2^k:=by
 apply Nat.eq_of_testBit_eq
 intro i
 rw [Nat.testBit_and,<- Nat.shiftRight_eq_div_pow,<- Nat.shiftLeft_eq,Nat.testBit_shiftLeft,Nat.testBit_shiftRight]
 by_cases h:k<=i
 . refine (show k+(i-k)=i by exact Nat.add_sub_of_le h).symm▸?_;simp [h]
 . simp [h]
theorem aqW (x k:Nat):Builtin.bitXor (x:Int) ((x / 2^k*2^k:Nat):Int)=((x%2^k:Nat):Int):=by
 rw [bitXor_and]
 have e:Builtin.bitAnd (x:Int) ((x / 2^k*2^k:Nat):Int)=((x &&& (x / 2^k*2^k):Nat):Int):=by
  unfold Builtin.bitAnd
  have h1:decide (0<=(x:Int))=true:=rfl
  rw [h1,(decide_eq_true (Int.natCast_nonneg (x / 2^k*2^k))),Int.toNat_natCast,Int.toNat_natCast]
 rw [e,al5]
 exact asj ((Nat.mul_comm (2^k) _▸Nat.div_add_mod x (2^k)))
theorem abf (x y:Nat):Int.fdiv (x:Int) (y:Int)=((x / y:Nat):Int):=by
 rw [Int.fdiv_eq_ediv_of_nonneg _ (by simp)];rfl
theorem abg (x y:Nat):Int.fmod (x:Int) (y:Int)=((x%y:Nat):Int):=by
 rw [Int.fmod_eq_emod_of_nonneg _ (by simp)];rfl
theorem afv (k:Nat):(2:Int)^k=((2^k:Nat):Int):=by rw [Int.natCast_pow];rfl
noncomputable def adq:Stmt:=(abE (aaa 8)).getD 1 (.Pass ⟨0,0,0,0⟩)
theorem aqX:abE adq=(abE adq).take 5++[(abE adq).getD 5 (.Pass ⟨0,0,0,0⟩),(abE adq).getD 6 (.Pass ⟨0,0,0,0⟩)]:=rfl
section
theorem al6 (k:FrK γ it r A X a9 a6 env sc) (c:SSt γ it r A X P a9 a6 env sc fz V ad s ρ ω) (c':SSt γ it r A X P a9 a6 env sc fz V' ad' s' af au) {x:Str}{u v:Value}(hx:sc.lookup x=some .free)
  (a:Sees s.heap env x u) (b:Sees s'.heap env x v):u=v:=by
 have nl:env.kindOf x≠some .local:=λz=>by
  rcases c.cx.envS.names x with q | ⟨q | q,_⟩ <;> replace q:=z▸q
  . replace q:=hx▸q;cases q
  . cases q
  . cases q
 rcases a with ⟨z,_⟩ | ⟨_,cc,o,h1,h2,h3,h4⟩
 . exact absurd z nl
 rcases b with ⟨z,_⟩ | ⟨_,cc',o',g1,g2,g3,g4⟩
 . exact absurd z nl
 replace g1:=h1▸g1;cases g1
 obtain ⟨dD,bb⟩:=k.fre x cc hx h1
 have t:=TabInv.off c.cx.wd.tabs h2 (by refine h3▸?_;exact λz=>by cases z)
 replace h2:=(c.ext.keep _ _ t id bb)▸h2;replace g2:=((c'.ext.keep _ _ t id bb))▸g2
 clear bb
 clear g3
 cases h2;cases g2
 replace g4:=h4▸g4;cases g4;rfl
end
theorem afw:∀ l:List Int,(l.map T.int).all scalar=true
 | []=>rfl
 | _ ::l=>afw l
section
variable{adr f:Addr}{cl:List (Str×Addr)}{l:List Int}
theorem adX{V V':aag}{h:Heap}{a:Addr}{l:List Int}(x:OwnT V h a (.lst (l.map .int))):OwnT V' h a (.lst (l.map .int)):=
 (x).elim λvs hX1=>hX1.elim λe rs=>⟨vs,e,rs.scalar (afw l)⟩
noncomputable def agS:aag:=λ_=>False
structure In8 (γ:Gm) (it:Bool) (r:Nat) (A:Around) (s:Shared) (adr f:Addr) (cl:List (Str×Addr)) (n:Nat) (l:List Int):Prop where
 clo:CloAt s.heap f (afW adq) (.stmts (abE adq)) (aaD adq) cl
 own:OwnT agS s.heap adr (.lst (l.map .int))
 base:∃ a6,Wd γ a6.heap/\AOK it r A a6.heap/\Ext a6 s/\a6.heap.get? adr=none
 cells:∀ x c,cl.lookup x=some c->∃ o,s.heap.get? c=some o/\o.cls=.type "cell"
 h1:CellHas s.heap cl "a_digits" (.ref adr)
 h2:∃ t,CellHas s.heap cl "n" (.int n t)
 h3:CellHas s.heap cl "inner" (.ref f)
 fr:∀ x,(aaD adq).names.lookup x=some .free->∃ c,cl.lookup x=some c
noncomputable def Fin8 (s:Shared) (adr:Addr) (l':List Int) (s':Shared):Prop:=ExtX (·=adr) s s'/\OwnT agS s'.heap adr (.lst (l'.map .int))
theorem In8.off (i:In8 γ it r A s adr f cl n l):(∃ o,s.heap.get? adr=some o/\o.cls≠.none/\o.cls≠.type "cell"/\o.cls≠.type "function")/\∀ o vs,s.heap.get? adr=some o->o.data≠.fields vs:=by
 refine ag λG kG=>?_
 refine (i.own).elim λvs hZ1=>hZ1.elim λhZ2 _=>hZ2.elim λk e=>?_
 refine kG ?_
 refine ⟨⟨_,e,λz=>(by cases z),λz=>(by injection z with z;exact absurd z (by decide)),λz=>(by injection z with z;exact absurd z (by decide))⟩,λo vs' e' z=>?_⟩
 replace e':=e▸e';cases e';cases z
theorem In8.gh (i:In8 γ it r A s adr f cl n l):Wd γ (acl s adr).heap/\AOK it r A (acl s adr).heap/\Ext (acl s adr) s:=by
 refine (i.base).elim λa6 hX1=>hX1.elim λh1 hX2=>hX2.elim λh2 hX3=>hX3.elim λh3 h4=>?_
 have x:=ajz h3 h4 i.off.2
 refine ⟨h1.ext x,h2.ext x,⟨λb o _ _ e=>of_hideAll _ e,λb o _ _ e=>of_hideAll _ e,λb _ e=>?_,λ_=>h3.tab h1.tabs,rfl,id⟩⟩
 cases y:(acl s adr).heap.get? b with
 | none=>rfl
 | some o=>replace e:=(of_hideAll _ y)▸e;exact son e
theorem In8.cloX (i:In8 γ it r A s adr f cl n l) (x:Ext (acl s adr) s'):CloAt s'.heap f (afW adq) (.stmts (abE adq)) (aaD adq) cl:=by
 refine ag λG kG=>?_
 refine (i.off).elim λhZ3 nf=>hZ3.elim λoa hZ4=>hZ4.elim λea hZ5=>hZ5.elim λn1 hZ6=>hZ6.elim λn2 n3=>?_
 refine kG ?_
 exact i.clo.extX (by obtain ⟨a6,h1,_,h3,_⟩:=i.base;exact h3.tab h1.tabs) (aeo i.gh.1.tabs x) (λz=>by obtain ⟨o,fd,e,q,_⟩:=i.clo;replace e:=z▸e;replace e:=ea▸e;cases e;exact n3 q) λb o vs hb e=>nf o vs (hb▸e)
theorem In8.go{r':Nat}{A':Around}{l':List Int}(i:In8 γ it r A s adr f cl n l) (x:Ext (acl s adr) s') (a:AOK it r' A' (acl s adr).heap) (o:OwnT agS s'.heap adr (.lst (l'.map .int))):In8 γ it r' A' s' adr f cl n l':=by
 have y:=aeo i.gh.1.tabs x
 refine ag λG kG=>?_
 refine (i.off).elim λhZ7 nf=>hZ7.elim λoa hZ8=>hZ8.elim λea hZ9=>hZ9.elim λn1 hZ10=>hZ10.elim λn2 n3=>?_
 refine kG ?_
 have nc:∀ {b o},s.heap.get? b=some o->o.cls=.type "cell"->b≠adr:=λe q z=>by
  replace e:=z▸e;replace e:=ea▸e;cases e;exact n2 q
 have kc:∀ {z v},CellHas s.heap cl z v->CellHas s'.heap cl z v:=λhX=>hX.elim λc hX1=>hX1.elim λo hX2=>hX2.elim λe1 hX3=>hX3.elim λe2 hX4=>hX4.elim λe3 e4=>
  ⟨c,o,e1,y.keepC _ _ (by refine e3▸?_;exact λz=>by cases z) (nc e2 e3) e2,e3,e4⟩
 exact {
  clo:=i.cloX x
  own:=o
  base:=⟨_,i.gh.1,a,x,hideAll_none _ (.head _)⟩
  cells:=λz c h=>(i.cells z c h).elim λo hX1=>hX1.elim λe q=>⟨o,y.keepC _ _ (by refine q▸?_;exact λz=>by cases z) (nc e q) e,q⟩
  h1:=kc i.h1
  h2:=(i.h2).elim λt h=>⟨t,kc h⟩
  h3:=kc i.h3
  fr:=i.fr }
theorem ar7{V:aag}{h:Heap}{vs:List Value}{a b c:Int}(r:RepL V h vs [.int a,.int b,.int c]):∃ t u v,vs=[.int a t,.int b u,.int c v]:=by
 refine ag λG kG=>?_
 obtain ⟨x,us,rfl,r1,r⟩:=acN r
 obtain ⟨y,z,rfl,r2,r3⟩:=aeS r
 clear r
 clear r
 obtain ⟨t,rfl⟩:=aa8 r1
 obtain ⟨u,rfl⟩:=aa8 r2
 obtain ⟨v,rfl⟩:=aa8 r3
 refine kG ?_
 exact ⟨t,u,v,rfl⟩
theorem In8.enter{x L R:Nat}{t1 t2 t3:Tok}{Fin:Shared->Prop}(i:In8 γ it (r+1) A s adr f cl n l)
  (h:∀ env a8 X V' A' ad,FrK γ it r A' X agS (acl s adr) env (aaD adq).names->SSt γ it r A' X (fzP [("inner",f)]) agS (acl s adr) env (aaD adq).names [("inner",f)] V' ad a8 [("R",.int R),("L",.int L),("x",.int x),("n",.int n)] [("a_digits",.lst (l.map .int))]->
    (∀ s' V'' ad' af (l':List Int),SSt γ it r A' X (fzP [("inner",f)]) agS (acl s adr) env (aaD adq).names [("inner",f)] V'' ad' s' af [("a_digits",.lst (l'.map .int))]->OwnT agS s'.heap adr (.lst (l'.map .int))/\ad' "a_digits"=adr)->
    wpAny (model pg γ.w) A' (execs (abE adq) env) (λ_ s'=>Fin s') No a8) :
  wpAny (model pg γ.w) A (call (.ref f) [.int x t1,.int L t2,.int R t3]) (λ_ s'=>Fin s') No s:=by
 refine ag λG kG=>?_
 refine (i.off).elim λhZ11 nf=>hZ11.elim λoa hZ12=>hZ12.elim λea hZ13=>hZ13.elim λn1 hZ14=>hZ14.elim λn2 n3=>?_
 obtain ⟨t,hn⟩:=i.h2
 refine kG ?_
 have ci:CloIn (acl s adr) s (aaD adq).names cl agS (λ_=>adr) [("inner",f)] [("n",.int n)] [("a_digits",.lst (l.map .int))]:={
  x:=i.gh.2.2
  cls:=λz c h=>(i.cells z c h).elim λo hX1=>hX1.elim λe q=>⟨o,hideAll_get _ e (by rw [List.mem_singleton];intro z;replace e:=z▸e;replace e:=ea▸e;cases e;exact n2 q),q⟩
  fr:=i.fr
  rho:=λz t' h=>by
   replace h:=lookup_cons▸h
   split at h
   . rename_i q
     cases eq_of_beq q;cases h
     exact ⟨by rfl,_,hn,.int _ _⟩
   . exact nos h
  om:=λz t' h=>by
   replace h:=lookup_cons▸h
   split at h
   . rename_i q
     cases eq_of_beq q;cases h
     exact ⟨by rfl,i.h1,id,hideAll_none _ (.head _),i.own⟩
   . exact nos h
  ap:=λz z' t' u h h' _=>by
   rw [lookup_cons] at h h'
   split at h
   . rename_i q
     split at h'
     . rename_i q'
       rw [eq_of_beq q,eq_of_beq q']
     . exact nos h'
   . exact nos h
  fz:=λp hp=>by
   cases List.mem_singleton.mp hp
   obtain ⟨o,fd,e,q,_⟩:=i.clo
   refine ⟨by rfl,i.h3,id,⟨o,e⟩,λ_ _ _ z=>?_⟩
   replace ea:=(show adr=f from z)▸ea;replace ea:=e▸ea;cases ea;exact n3 q }
 refine auX (ahJ (E:=λ_ _=>False) i.clo (by rfl) ci i.gh.2.1 i.gh.1 (.cons (.int x t1) (.cons (.int L t2) (.cons (.int R t3) .nil))) rfl λenv a8 X V' A' k c=>?_)
 refine at1 (h env a8 X V' A' _ k c λs' V'' ad' af l' c'=>?_) (λ_ _ h=>h) aah
 have e:=al6 k c c' (x:="a_digits") (by rfl) (c.own "a_digits" _ rfl).see (c'.own "a_digits" _ rfl).see
 have e:adr=ad' "a_digits":=by injection e
 exact ⟨adX (e▸(c'.own "a_digits" _ rfl).own),e.symm⟩
end
section
variable{adr f:Addr}{cl:List (Str×Addr)}{l:List Int}
noncomputable def abA (l:List Int) (L:Nat) (ds:List Nat):List Int:=l.take L++ds.map (λ(d:Nat)=>(d:Int))++l.drop (L+ds.length)
noncomputable def aoj (γ:Gm) (it:Bool) (j:Nat):Prop:=
 ∀ {r:Nat}{A:Around}{s:Shared}{adr f:Addr}{cl:List (Str×Addr)}{n:Nat}{l:List Int}{x L R:Nat}{t1 t2 t3:Tok},In8 γ it (r+j+1) A s adr f cl n l->L<R->R<=l.length->R-L<=2^j->x<2^(n*(R-L))->n*l.length<=3000->l.length<=3000->
  wpAny (model pg γ.w) A (call (.ref f) [.int x t1,.int L t2,.int R t3]) (λ_ s'=>Fin8 s adr (abA l L (acL n (R-L) x)) s') No s
noncomputable def putI (l:List Int) (L:Nat) (x:Int):List Int:=l.set L x
theorem fin8 (i:In8 γ it r A s adr f cl n l) {l':List Int}(x:Ext (acl s adr) s') (o:OwnT agS s'.heap adr (.lst (l'.map .int))):Fin8 s adr l' s':=⟨aeo i.gh.1.tabs x,o⟩
theorem al7{l:List Int}{L:Nat}{x:Int}(h:L<l.length):alH (l.map T.int) (L:Int) (.int x)=some ((putI l L x).map .int):=by
 have e:seqIndex? (L:Int) (l.map T.int).length=some L:=by
  unfold seqIndex?
  simp only [(by lia:¬ ((L:Int)<0)),if_false,List.length_map]
  rw [if_pos (by simp only [Bool.and_eq_true,decide_eq_true_eq];exact ⟨Int.natCast_nonneg _,Int.ofNat_lt.mpr h⟩)]
  simp
 unfold alH
 rw [e]
 unfold putI
 simp
theorem aiJ{l:List Int}{L x:Nat}(h:L<l.length):abA l L [x]=putI l L x:=by
 unfold abA putI
 rw [List.set_eq_take_append_cons_drop,if_pos h]
 simp
theorem aiK{l:List Int}{L:Nat}{a b:List Nat}(h:L+a.length<=l.length):abA (abA l L a) (L+a.length) b=abA l L (a++b):=by
 unfold abA
 have e1:(l.take L++a.map (λ(d:Nat)=>(d:Int))).length=L+a.length:=by simp;exact Nat.min_eq_left (at0 (at9 _ _) h)
 rw [List.take_append_of_le_length (by lia),List.take_of_length_le (by lia),List.drop_append,List.drop_of_length_le (e1▸Nat.le_add_right _ _),List.drop_drop]
 simp only [List.map_append,List.append_assoc,List.nil_append,List.length_append]
 congr 4
 simp only [List.length_take,List.length_map]
 rw [Nat.min_eq_left (Nat.le_trans (Nat.le_add_right _ _) h),Nat.add_sub_cancel_left,Nat.add_assoc]
theorem aiL{l:List Int}{L:Nat}{a:List Nat}(h:L+a.length<=l.length):(abA l L a).length=l.length:=by
 unfold abA;simp;rw [Nat.min_eq_left (Nat.le_trans (Nat.le_add_right _ _) h),<- Nat.add_assoc,Nat.add_sub_cancel' h]
theorem asY:aoj γ it 0:=by
 intro r A s adr f cl n l x L R t1 t2 t3 i h1 h2 h3 h4 h5 h6
 have hR:R=L+1:=by exact apf h1 h3
 subst hR
 refine i.enter λenv a8 X V' A' ad k c fin=>?_
 have sg:=aas (γ:=γ) (it:=it) (r:=r) c.cx.wd.st FsOK.nil MsOK.nil
 refine aui (wpAny_If (at1 (aaU (aal sg 21) 20 (K:=λb=>b=true) ?_ c.shown) (λb aa hq=>hq.elim λhb xe=>?_) aah))
 . (try conv=>whnf)
   simp
 . subst hb
   change wpAny _ _ (execs ([_]++[Stmt.Return none _]) env) _ _ _
   refine acb (n:=20) (n':=20) (ow:=λ_=>false) sg k HkOK.none 5 _ ?_ (c.run k xe) Stp.refl
   refine gdi (aaV (by simp) (ace (at0 (aun h2) h6) (by decide))) (abK (al7 (by lia)) ?_)
   intro ai cY cF aj bE
   refine aui (wpAny_Return_none (fin8 i aj.ext ?_))
   rw [show L+1-L=1 by lia,aoi (by refine (show n=n*(L+1-L) by rw [Nat.add_sub_cancel_left,Nat.mul_one])▸?_;exact h4),aiJ (by lia)]
   exact (fin _ _ _ _ _ aj).1
structure Mids (L R N j mid:Nat):Prop where
 e:mid=(L+R) / 2
 l:L<mid
 r:mid<R
 pl:mid-L<=2^j
 pr:R-mid<=2^j
 n0:0<N
 rN:R<=N
theorem mids{L R N j:Nat}(h1:L<R) (h2:R<=N) (h3:R-L<=2^(j+1)) (hR:¬ R=L+1):∃ mid,Mids L R N j mid:=by
 have h3:R<=2*2^j+L:=Nat.mul_comm 2 _▸Nat.sub_le_iff_le_add.mp h3
 refine ⟨_,rfl,?_,?_,Nat.sub_le_of_le_add ?_,Nat.sub_le_of_le_add ?_,at5 (auY h1) h2,h2⟩
 . exact (Nat.le_div_iff_mul_le (by decide)).mpr (by lia)
 . exact Nat.div_lt_of_lt_mul (by lia)
 . exact Nat.div_le_of_le_mul (by lia)
 . lia
section
variable{L R N j mid:Nat}
theorem Mids.ml (M:Mids L R N j mid):mid-L<=R-L:=Nat.sub_le_sub_right (aug M.r) L
theorem Mids.mr (M:Mids L R N j mid):R-mid<=R-L:=Nat.sub_le_sub_left (aug M.l) R
theorem Mids.rl (M:Mids L R N j mid):R-L<=N:=at0 (Nat.sub_le R L) M.rN
theorem Mids.mN (M:Mids L R N j mid):mid<=N:=at0 (aug M.r) M.rN
theorem Mids.up (M:Mids L R N j mid):L+(mid-L)=mid:=auU (aug M.l)
theorem Mids.two (M:Mids L R N j mid):mid-L+(R-mid)=R-L:=akU (aug M.l) (aug M.r)
theorem Mids.ne (M:Mids L R N j mid):¬ ((L:Int)+1==(R:Int))=true:=λe=>Nat.not_succ_le_self _ (at0 (auI M.l) (at0 M.r (aub (Int.natCast_inj.mp (eq_of_beq e)).symm)))
theorem Mids.sub (M:Mids L R N j mid):(mid:Int)-(L:Int)=((mid-L:Nat):Int):=(Int.ofNat_sub (aug M.l)).symm
theorem Mids.div (M:Mids L R N j mid):((L:Int)+(R:Int)).fdiv (2^(1:Int).toNat)=(mid:Int):=M.e▸abf (L+R) 2
theorem Mids.n3 (M:Mids L R N j mid) {n:Nat}(h:n*N<=3000):n<=3000:=at0 (Nat.le_mul_of_pos_right n M.n0) h
theorem Mids.nm (M:Mids L R N j mid) {n:Nat}(h:n*N<=3000):n*(mid-L)<=3000:=at0 (au9 n (at0 M.ml M.rl)) h
end
theorem walk8{it:Bool}{n x L R N j mid:Nat}{lT:T}{K:Out->Prop}(M:Mids L R N j mid) (h6:N<=3000) (h5:n*N<=3000) (hx:x<2^3000)
  (h:K (.nx [("lower",.int ((x%2^(n*(mid-L)):Nat):Int)),("upper",.int ((x / 2^(n*(mid-L)):Nat):Int)),("shift",.int ((n*(mid-L):Nat):Int)),("mid",.int mid),("R",.int R),("L",.int L),("x",.int x),("n",.int n)] [("a_digits",lT)])) :
  blF it (aam (aeL [] []) it 21) 20 (aaD adq).names (λ_=>false) afY 10 ["inner"] ((abE adq).take 5) [("R",.int R),("L",.int L),("x",.int x),("n",.int n)] [("a_digits",lT)] K:=by
 have hm:=M.nm h5
 have e1:((mid-L:Nat):Int)*(n:Int)=((n*(mid-L):Nat):Int):=Nat.mul_comm n _▸rfl
 generalize n*(mid-L)=sh at *
 refine bri (λhc=>absurd hc M.ne) (λ_=>?_)
 (try conv=>whnf)
 rw [M.div,M.sub]
 refine aa2 (abx (ahh (at0 M.ml (at0 M.rl h6)) rfl)) (aa2 (abx (ahh (M.n3 h5) rfl)) ?_)
 refine e1▸?_
 have s1:(sh:Int)<=10000:=acM hm rfl
 refine upi (aue _) s1 ?_
 refine (show (x:Int).fdiv (2^(sh:Int).toNat)=((x / 2^sh:Nat):Int) by rw [Int.toNat_natCast,afv,abf])▸?_
 refine upi (aue _) s1 (aa2 (aaB (k:=3000) (auc (Nat.div_le_self _ _) hx) (by decide)) ?_)
 refine (show (((x / 2^sh:Nat):Int))*2^(sh:Int).toNat=((x / 2^sh*2^sh:Nat):Int) by rw [Int.toNat_natCast,afv,Int.natCast_mul])▸?_
 (try conv=>whnf)
 rw [aqW]
 exact h
theorem step8{j:Nat}(ih:aoj γ it j):aoj γ it (j+1):=by
 intro r A s adr f cl n l x L R t1 t2 t3 i h1 h2 h3 h4 h5 h6
 by_cases hR:R=L+1
 . exact asY (r:=r+j+1) i h1 h2 (by rw [hR,Nat.add_sub_cancel_left];exact auf 1) h4 h5 h6
 obtain ⟨mid,M⟩:=mids h1 h2 h3 hR
 refine i.enter λenv a8 X V' A' ad k c fin=>?_
 have sg:=aas (γ:=γ) (it:=it) (r:=r+j+1) c.cx.wd.st FsOK.nil MsOK.nil
 refine aqX▸?_
 refine acb (n:=20) (n':=20) (ow:=λ_=>false) sg k HkOK.none 10 _ ?_ c Stp.refl
 refine walk8 M h6 h5 (at5 h4 (auw (by decide) (at0 (au9 n M.rl) h5))) ?_
 intro aa aw aE ah av
 have hs:=aal sg 21
 have len1:(abA l L (acL n (mid-L) (x%2^(n*(mid-L))))).length=l.length:=aiL (by rw [abh,M.up];exact M.mN)
 refine aui (aiI (f:="inner") (a:=f) hs k ah (.head _) ⟨by decide,by decide⟩ (by rfl) (λs' x=>i.cloX (ah.ext.trans x)) (Kt:=λts=>ts=[.int ((x%2^(n*(mid-L)):Nat):Int),.int L,.int mid]) rfl λai vs ts ht _ aj rs=>?_)
 refine aqb ht rs λu1 u2 u3=>?_
 have e3:=fin _ _ _ _ _ aj
 refine at1 (ih (r:=r) (i.go aj.ext k.aok e3.1) M.l M.mN M.pl (auK _ (Nat.two_pow_pos _)) h5 h6) (λ_ ao bY=>?_) aah
 have aK:=(aj.mut k (x:="a_digits") rfl (bY.1.mono λb hb=>hb.trans e3.2.symm) (e3.2.symm▸adX bY.2)).1
 refine aui (aiI (f:="inner") (a:=f) hs k aK (.head _) ⟨by decide,by decide⟩ (by rfl) (λs' x=>i.cloX (aK.ext.trans x)) (Kt:=λts=>ts=[.int ((x / 2^(n*(mid-L)):Nat):Int),.int mid,.int R]) rfl λaI vs ts ht _ aM rs=>?_)
 refine aqb ht rs λv1 v2 v3=>?_
 have e5:=fin _ _ _ _ _ aM
 refine at1 (ih (r:=r) (i.go aM.ext k.aok e5.1) M.r (len1.symm▸h2) M.pr (Nat.div_lt_of_lt_mul (by rw [<- Nat.pow_add,<- Nat.mul_add,M.two];exact h4)) (len1.symm▸h5) (len1.symm▸h6)) (λ_ aT bA=>au0 ?_) aah
 have e:=aiK (l:=l) (L:=L) (a:=acL n (mid-L) (x%2^(n*(mid-L)))) (b:=acL n (R-mid) (x / 2^(n*(mid-L)))) (by rw [abh,M.up];exact M.mN)
 rw [abh,M.up,<- ajA,M.two] at e
 rw [e] at bA
 exact fin8 i (aM.mut k (x:="a_digits") rfl (bA.1.mono λb hb=>hb.trans e5.2.symm) (e5.2.symm▸adX bA.2)).1.ext bA.2
theorem asZ (j:Nat):aoj γ it j:=by
 induction j with
 | zero=>exact asY
 | succ j h=>exact step8 h
end
theorem acI{env:Env}{names:aad}{x:Str}(hcl:∀ p∈names,p.2=.free->∃ c,env.cells.lookup p.1=some c) (hx:names.lookup x=some .free):∃ c,(aay env names []).lookup x=some c/\env.cells.lookup x=some c:=by
 refine (ac7 (env:=env) (acc:=[]) (mem_of_lookup hx)).elim λc hc=>?_
 refine (abT hc).elim λc' hX1=>hX1.elim λh1 h2=>?_
 refine (abS hcl h2).elim ?_ ?_
 . rintro z
   exact nomatch z
 . rintro ⟨_,z⟩
   exact ⟨c',h1,z⟩
theorem afx{env:Env}{names:aad}{x:Str}{c:Addr}(hcl:∀ p∈names,p.2=.free->∃ c,env.cells.lookup p.1=some c) (h:(aay env names []).lookup x=some c):(x,NameKind.free)∈names/\env.cells.lookup x=some c:=by
 refine (abS hcl (mem_of_lookup h)).elim ?_ ?_
 . rintro z
   exact nomatch z
 . rintro z
   exact z
section
theorem afy{h:Heap}{names:aad}{x:Str}{v:Value}(e:EnvS env sc) (hcl:∀ p∈names,p.2=.free->∃ c,env.cells.lookup p.1=some c) (hx:names.lookup x=some .free) (hs:abJ (sc.lookup x)) (a:Sees h env x v):CellHas h (aay env names []) x v:=by
 have nl:env.kindOf x≠some .local:=λz=>by
  rcases e.names x with q | ⟨q | q,_⟩ <;> replace q:=z▸q
  . rw [<- q] at hs;rcases hs with q | q <;> cases q
  . cases q
  . cases q
 refine (a).elim ?_ ?_
 . rintro ⟨z,_⟩
   exact absurd z nl
 . rintro ⟨_,c,o,h1,h2,h3,h4⟩
   obtain ⟨c',g1,g2⟩:=acI hcl hx
   replace g2:=h1▸g2;cases g2
   exact ⟨c,o,g1,h2,h3,h4⟩
theorem al8 (e:EnvS env sc) {x:Str}(h:abJ (sc.lookup x)):qualnameIn env x x=env.qual++x:=by
 unfold qualnameIn
 have:¬ ((env.kindOf x==some .globalExplicit)=true):=λz=>by
  have z:=eq_of_beq z
  rcases e.names x with q | ⟨q | q,_⟩
  . rw [<- q,z] at h;rcases h with h | h <;> cases h
  . replace q:=z▸q;cases q
  . replace q:=z▸q;cases q
 exact (if_neg this)
theorem al9{a:Nat}:a<2^Builtin.Int.intBits (a:Int):=by
 unfold Builtin.Int.intBits
 split
 . rename_i h
   have:a=0:=by simpa using h
   refine this.symm▸?_;exact Nat.two_pow_pos _
 . rename_i h
   exact Nat.lt_log2_self
theorem aiM{a k:Nat}(h:a<2^k):Builtin.Int.intBits (a:Int)<=k:=by
 unfold Builtin.Int.intBits
 split
 . exact aup _
 . rename_i h0
   have:a≠0:=by simpa using h0
   exact (Nat.log2_lt this).mpr h
noncomputable def abu (a n:Nat):Nat:=(Builtin.Int.intBits (a:Int)+n-1) / n
theorem ama{b m:Nat}:b<=(m+1)*((b+m) / (m+1)):=
 auM (b:=m) (auk (Nat.lt_mul_div_succ (b+m) (auh m)))
structure NDig (a n k:Nat):Prop where
 k1:n*k<=1200
 k2:k<=600
 k3:a<2^(n*k)
 dv:(((Builtin.Int.intBits (a:Int):Nat):Int)+(n:Int)-1).fdiv (n:Int)=(k:Int)
theorem nDig{a n:Nat}(hn:0<n) (hn':n<=600) (ha:a<2^600):NDig a n (abu a n):=by
 have hb:Builtin.Int.intBits (a:Int)<=600:=aiM ha
 cases n with
 | zero=>exact (auH _ hn).elim
 | succ m=>
  refine ⟨at0 (Nat.mul_div_le _ _) (at0 (Nat.sub_le _ _) (acA hb hn' rfl)),Nat.div_le_of_le_mul ?_,at5 al9 (auw (by decide) ama),?_⟩
  . show _+m<=(m+1)*600
    rw [Nat.succ_mul,Nat.add_comm]
    exact auG (Nat.le_mul_of_pos_right m (auh 599)) hb
  . exact (congrArg (Int.fdiv · _) (Int.add_sub_cancel ((Builtin.Int.intBits (a:Int)+m:Nat):Int) 1)).trans (abf _ _)
theorem adY{sc inn:aad}(h:(inn.all λp=>p.2 != .free || sc.lookup p.1==some .cell)=true):∀ p∈inn,p.2=.free->sc.lookup p.1=some .cell:=λp hp e=>by
 have:=List.all_eq_true.mp h p hp
 rw [e] at this
 exact eq_of_beq this
theorem agl{inn:aad}(h:(inn.all λp=>inn.lookup p.1==some p.2)=true) {p:Str×NameKind}(hp:p∈inn):inn.lookup p.1=some p.2:=eq_of_beq (List.all_eq_true.mp h _ hp)
theorem agm:((aaD adq).names.all λp=>p.2 != .free || (aaD (aaa 8)).names.lookup p.1==some .cell)=true:=by rfl
inductive Fii2d (ts:List T) (K:T->Prop):Prop
 | mk (a n:Nat) (e0:ts=[.int a,.int n]) (e1:0<n) (e2:n<=600) (e3:a<2^600) (e4:K (.lst ((acL n (abu a n) a).map λ(d:Nat)=>T.int (d:Int)))):Fii2d ts K
noncomputable def as0:Fun:=Fii2d
theorem as1 (st:Stat γ):CallOK γ (Wd γ) it 13 (.ref 77) as0:=by
 rintro A V s vs ts K aok wd rs ⟨a,n,rfl,hn,hn',ha,hK⟩
 have f8:FnInC γ.KF 77 76 "_int2digits" (aaa 8):=st.fnc (77,76,"_int2digits",8) (by decide)
 refine auX (adW (r:=12) f8 (by rfl) (by rfl) wd aok rs rfl λenv a8 X V' A' hcode hqual k c=>?_)
 have sg:=aas (γ:=γ) (it:=it) (r:=12) st (FsOK.blt (x:="len") (n:="len") (F:=ahG) st (by decide) agi FsOK.nil) (MsOK.bits MsOK.nil)
 have hs:=aal sg 21
 refine at1 (Q:=λf s'=>EvR V s K (match f with | .ret v=>v | _=>.none) s') ?_ (λf s' h=>h) aah
 obtain ⟨kk,hkk⟩:∃ kk,kk=abu a n:=⟨_,rfl⟩
 have D:NDig a n kk:=hkk▸nDig hn hn' ha
 rw [<- hkk] at hK
 refine aui (wpAny_Assign_Name ?_ (acH rfl))
 refine atY (aaj (hs _ _ _ (λt=>t=.lst [.int 0]) ?_ A' _ a8 env c.shown) λu aa t ht am ru=>?_)
 . rfl
 subst ht
 have ah:=c.run k am
 refine atY (aud (aaj (hs _ _ _ (λt=>t=.int (kk:Int)) ?_ A' _ aa env ah.shown) λv ai t ht an rv=>?_))
 . exact gdi (bne_iff_ne.mpr λz=>auJ hn (Int.natCast_inj.mp z)) (aa2 (abx (ahh hn' rfl)) (congrArg T.int D.dv))
 subst ht
 have aj:=ah.run k an
 refine agE rv λtk=>?_
 refine ajf ru λl0 items hl ru=>?_
 obtain ⟨v0,hv0,r0⟩:=ae7 ru
 obtain ⟨t0,rfl⟩:=aa8 r0
 have hi:items.size=1:=by have:=congrArg List.length hv0;simpa using this
 have bF:ai.heap.PlainList l0 items:=let ⟨q,e⟩:=hl;⟨q,an.keepC _ _ (λz=>by cases z) id e⟩
 refine atY (at7 (wpAny_operate' (adm bF (aue _) (acM D.k2 (by decide)) (by rw [hi,Nat.one_mul];exact aaK D.k2 rfl) (by rw [Array.isEmpty_eq_false_iff];intro z;rw [z] at hi;cases hi) λws hw=>?_)))
 obtain ⟨adr,hadr⟩:∃ adr,adr=ai.heap.objs.size:=⟨_,rfl⟩
 rw [<- hadr]
 have fresh:ai.heap.get? adr=none:=at6 (aub hadr.symm)
 have nX:¬ X adr:=λz=>by
  have:∃ o,ai.heap.get? adr=some o:=aaM aj.slots k.isX adr z
  rw [fresh] at this;obtain ⟨_,e⟩:=this;cases e
 have aK:=aj.shrink k (Ext.push (o:={ cls:=.type "list",data:=.seq ws }) (tk:=ai.toks)) (N:=(·=adr)) (λb hb=>hb▸fresh) (λb hb=>hb▸hadr▸⟨_,at4 _ rfl⟩)
 have hws:ws.toList=(List.replicate kk (Value.int 0 t0)):=by rw [hw,hv0];simp
 refine aK.putO k (t:=.lst ((List.replicate kk (0:Int)).map .int)) (by rfl) (λp hp=>nomatch hp) ⟨ws,⟨_,hadr▸at4 _ rfl⟩,?_⟩ (λz=>z.2 rfl) nX (λhq=>hq.elim λp hq=>hq.elim λhp _=>nomatch hp) (aj.ext.there adr id fresh) (λy u h=>nomatch h) λaI aM bZ lv=>?_
 . rw [hws]
   clear hws hw D hkk hK rv
   induction kk with
   | zero=>exact .nil
   | succ m ih=>exact .cons (.int _ _) ih
 have hcl:∀ p∈(aaD adq).names,p.2=.free->∃ c,env.cells.lookup p.1=some c:=λp hp h=>aM.cx.envS.cells p.1 (.inl (adY agm p hp h))
 refine aui (apD k aM (q:=(76,72,64,4,"_int2digits.<locals>.inner")) rfl rfl rfl (.tail _ (.head _)) hcode ⟨rfl,rfl⟩ (al8 aM.cx.envS (x:="inner") (.inl rfl) |>.trans (by rw [hqual];rfl)) hcl (by rfl) λf aT ee bp clo hf=>?_)
 have sc8:∀ {x:Str},(aaD adq).names.lookup x=some .free->abJ ((aaD (aaa 8)).names.lookup x):=λ{x} h=>.inl (adY agm _ (mem_of_lookup h) rfl)
 have has:∀ {h:Heap}{x:Str}{v:Value},(aaD adq).names.lookup x=some .free->Sees h env x v->CellHas h (aay env (aaD adq).names []) x v:=λhx a=>afy aM.cx.envS hcl hx (sc8 hx) a
 have ado:(λy:Str=>if y="a_digits" then adr else (λ_=>0) y) "a_digits"=adr:=by simp
 have i8:∀ {s' V' af},SSt γ it 12 A' X (λb=>fzP [] b\/b=f) V s env (aaD (aaa 8)).names [("inner",f)] V' (λy=>if y="a_digits" then adr else (λ_=>0) y) s' (("n",.int n) ::af) [("a_digits",.lst ((List.replicate kk (0:Int)).map .int))]->
   CloAt s'.heap f (afW adq) (.stmts (abE adq)) (aaD adq) (aay env (aaD adq).names [])->In8 γ it 11 A' s' adr f (aay env (aaD adq).names []) n (List.replicate kk 0):=λc cl=>{
  clo:=cl
  own:=adX (ado▸(c.own "a_digits" _ rfl).own)
  base:=⟨s,wd,k.aok.le (by decide),c.ext,ado▸(c.own "a_digits" _ rfl).n0⟩
  cells:=λx cc h=>let ⟨h1,h2⟩:=afx hcl h;c.cx.live x cc (sc8 (agl (by rfl) h1)) h2
  h1:=ado▸has (by rfl) (c.own "a_digits" _ rfl).see
  h2:=by
   obtain ⟨v,h1,h2⟩:=c.cx.vars "n" (.int n) rfl
   obtain ⟨t,rfl⟩:=aa8 h2
   exact ⟨t,has (by rfl) h1⟩
  h3:=has (by rfl) (c.frz ("inner",f) (.head _)).1
  fr:=λx h=>let ⟨cc,h1,_⟩:=acI hcl h;⟨cc,h1⟩ }
 have fin:∀ {s' V' ad' af},SSt γ it 12 A' X (λb=>fzP [] b\/b=f) V s env (aaD (aaa 8)).names [("inner",f)] V' ad' s' af [("a_digits",.lst (((acL n kk a).map λ(d:Nat)=>(d:Int)).map .int))]->
   wpAny (model pg γ.w) A' (execs ((abE (aaa 8)).drop 3) env) (λf s'=>EvR V s K (match f with | .ret v=>v | _=>.none) s') No s':=λc=>by
  refine aen (n:=20) (n':=20) (m:=20) (ow:=λ_=>false) sg k HkOK.none c ?_
  (try conv=>whnf)
  rw [List.map_map]
  exact hK
 refine aui (wpAny_If (at1 (aaU hs 20 (K:=λb=>b=((a:Int) != 0)) ?_ bp.shown) (λb aV hq=>hq.elim λhb ch=>?_) aah))
 . rfl
 have bB:=bp.run k ch
 have cb:∀ s',Ext aV s'->CloAt s'.heap f (afW adq) (.stmts (abE adq)) (aaD adq) (aay env (aaD adq).names []):=λs' x=>(clo.extX bp.cx.wd.tabs (ch.trans x) id λ_ _ _ h=>h.elim)
 by_cases ha0:a=0
 . have hb':b=false:=by rw [hb,ha0];rfl
   subst hb'
   simp only [Bool.false_eq_true,if_false]
   refine au0 ?_
   have kz:kk=0:=by
    rw [hkk,ha0];unfold abu
    exact Nat.div_eq_of_lt (by show 0+n-1<n;rw [Nat.zero_add];exact Nat.sub_lt hn Nat.one_pos)
   have:=bB
   rw [show (List.replicate kk (0:Int))=((acL n kk a).map λ(d:Nat)=>(d:Int)) by rw [kz];rfl] at this
   exact fin this
 . have hb':b=true:=by rw [hb];simpa using ha0
   subst hb'
   simp only [if_true]
   refine aui (aiI (f:="inner") (a:=f) hs k bB (.head _) ⟨by decide,by decide⟩ (by rfl) cb (Kt:=λts=>ts=[.int a,.int 0,.int kk]) ?_ λcZ vs ts ht cj d0 rs=>?_)
   . (try conv=>whnf)
     refine szi (by rw [List.length_map,List.length_replicate];exact aaK D.k2 rfl) ?_
     show [T.int a,T.int 0,T.int _]=_
     simp
   refine aqb ht rs λu1 u2 u3=>?_
   have k0:0<kk:=Nat.pos_of_ne_zero λz=>ha0 (Nat.lt_one_iff.mp (by have:=D.k3;rw [z,Nat.mul_zero] at this;exact this))
   have hL:(List.replicate kk (0:Int)).length=kk:=List.length_replicate
   refine at1 (asZ 10 (r:=0) (n:=n) (x:=a) (L:=0) (R:=kk) (t2:=u2) (i8 d0 (cb cZ cj)) k0 (aub hL.symm) (aaK D.k2 rfl) D.k3 (hL.symm▸aaK D.k1 rfl) (hL.symm▸aaK D.k2 rfl)) (λ_ d3 cm=>?_) aah
   have e:abA (List.replicate kk (0:Int)) 0 (acL n (kk-0) a)=(acL n kk a).map λ(d:Nat)=>(d:Int):=by
    unfold abA
    simp [abh]
   rw [e] at cm
   have dF:=(d0.mut k (x:="a_digits") rfl (cm.1.mono λb hb=>hb.trans ado.symm) (ado.symm▸adX cm.2)).1
   exact au0 (fin dF)
end
noncomputable def aaC (n:Nat):List Nat->Nat
 | []=>0
 | d ::ds=>d+2^n*aaC n ds
theorem abP{n:Nat}:∀ {a b:List Nat},aaC n (a++b)=aaC n b*2^(n*a.length)+aaC n a
 | [],b=>by show aaC n b=aaC n b*2^(n*0)+0;rw [Nat.mul_zero,Nat.pow_zero,Nat.mul_one];rfl
 | d ::a,b=>by
  show d+2^n*aaC n (a++b)=aaC n b*2^(n*(a.length+1))+(d+2^n*aaC n a)
  rw [abP (a:=a),Nat.mul_succ,Nat.pow_add,Nat.mul_add]
  grind
theorem ahK{n:Nat}:∀ {ds:List Nat},(∀ d∈ds,d<2^n)->aaC n ds<2^(n*ds.length)
 | [],_=>(auh _)
 | d ::ds,h=>by
  have h1:=h d (.head _)
  have h2:=ahK (ds:=ds) λd hd=>h d (.tail _ hd)
  dsimp only [aaC]
  rw [List.length_cons,Nat.mul_succ,Nat.pow_add,Nat.mul_comm (2^(n*ds.length))]
  have:2^n*(aaC n ds+1)<=2^n*2^(n*ds.length):=au9 _ h2
  exact at5 (Nat.add_lt_add_right h1 _) (at0 (aub (aut _ _)) this)
theorem afz{n:Nat}:∀ {k x:Nat},aaC n (acL n k x)=x%2^(n*k)
 | 0,x=>by show 0=x%2^(n*0);rw [Nat.mul_zero,Nat.pow_zero,Nat.mod_one]
 | k+1,x=>by
  show x%2^n+2^n*aaC n (acL n k (x / 2^n))=_
  rw [afz (k:=k),Nat.mul_succ,Nat.add_comm (n*k),Nat.pow_add,Nat.mod_mul]
noncomputable def cut (ds:List Nat) (L R:Nat):List Nat:=(ds.drop L).take (R-L)
theorem amb{ds:List Nat}{L R:Nat}(h:R<=ds.length) (h':L<=R):(cut ds L R).length=R-L:=by unfold cut;rw [List.length_take,List.length_drop];exact Nat.min_eq_left (Nat.sub_le_sub_right h L)
theorem aqY{ds:List Nat}{L M R:Nat}(h1:L<=M) (h2:M<=R) (h3:R<=ds.length):cut ds L R=cut ds L M++cut ds M R:=by
 unfold cut
 rw [<- akU h1 h2,List.take_add,List.drop_drop,Nat.add_sub_cancel' h1]
theorem aqZ{ds:List Nat}{L:Nat}(h:L<ds.length):cut ds L (L+1)=[ds[L]]:=by
 unfold cut
 rw [Nat.add_sub_cancel_left,List.drop_eq_getElem_cons h];rfl
theorem aq0{ds:List Nat}:cut ds 0 ds.length=ds:=by unfold cut;simp
theorem aq1{ds:List Nat}{L R d:Nat}(h:d∈cut ds L R):d∈ds:=List.mem_of_mem_drop (List.mem_of_mem_take h)
noncomputable def agT:Stmt:=(abE (aaa 9)).getD 0 (.Pass ⟨0,0,0,0⟩)
theorem aq2:abE agT=(abE agT).take 3++[(abE agT).getD 3 (.Pass ⟨0,0,0,0⟩)]:=rfl
noncomputable def aol (ds:List Nat):T:=.lst (ds.map λ(d:Nat)=>T.int (d:Int))
section
variable{f:Addr}{cl:List (Str×Addr)}{ds:List Nat}
structure In9 (γ:Gm) (it:Bool) (r:Nat) (A:Around) (V:aag) (s:Shared) (f:Addr) (cl:List (Str×Addr)) (n:Nat) (ds:List Nat):Prop where
 clo:CloAt s.heap f (afW agT) (.stmts (abE agT)) (aaD agT) cl
 wd:Wd γ s.heap
 aok:AOK it r A s.heap
 cells:∀ x c,cl.lookup x=some c->∃ o,s.heap.get? c=some o/\o.cls=.type "cell"
 h1:∃ v,CellHas s.heap cl "digits" v/\Rep V s.heap v (aol ds)
 h2:∃ t,CellHas s.heap cl "n" (.int n t)
 h3:CellHas s.heap cl "inner" (.ref f)
 fr:∀ x,(aaD agT).names.lookup x=some .free->∃ c,cl.lookup x=some c
 nV:¬ V f
theorem CellHas.ext{x:Str}{v:Value}(h:CellHas s.heap cl x v) (y:Ext s s'):CellHas s'.heap cl x v:=
 (h).elim λc hX1=>hX1.elim λo hX2=>hX2.elim λe1 hX3=>hX3.elim λe2 hX4=>hX4.elim λe3 e4=>⟨c,o,e1,y.keepC _ _ (by refine e3▸?_;exact λz=>by cases z) id e2,e3,e4⟩
theorem CloAt.ext{ps:Arguments}{body:FuncBody}{scope:Scope}(x:CloAt s.heap f ps body scope cl) (t:TabInv s.heap) (e:Ext s s'):CloAt s'.heap f ps body scope cl:=x.extX t e id λ_ _ _ h=>h.elim
theorem In9.go{r':Nat}{A':Around}(i:In9 γ it r A V s f cl n ds) (x:Ext s s') (a:AOK it r' A' s'.heap):In9 γ it r' A' V s' f cl n ds where
 clo:=i.clo.ext i.wd.tabs x
 wd:=i.wd.ext x
 aok:=a
 cells:=λz c h=>(i.cells z c h).elim λo hX1=>hX1.elim λe q=>⟨o,x.keepC _ _ (by refine q▸?_;exact λz=>by cases z) id e,q⟩
 h1:=(i.h1).elim λv hX1=>hX1.elim λa b=>⟨v,a.ext x,b.ext x⟩
 h2:=(i.h2).elim λt a=>⟨t,a.ext x⟩
 h3:=i.h3.ext x
 fr:=i.fr
 nV:=i.nV
theorem In9.enter{L R:Nat}{t1 t2:Tok}{Fin:Value->Shared->Prop}(i:In9 γ it (r+1) A V s f cl n ds)
  (h:∀ env a8 X V' A' ad,FrK γ it r A' X V s env (aaD agT).names->SSt γ it r A' X (fzP [("inner",f)]) V s env (aaD agT).names [("inner",f)] V' ad a8 [("R",.int R),("L",.int L),("n",.int n),("digits",aol ds)] []->
    wpAny (model pg γ.w) A' (execs (abE agT) env) (λf s'=>Fin (match f with | .ret v=>v | _=>.none) s') No a8) :
  wpAny (model pg γ.w) A (call (.ref f) [.int L t1,.int R t2]) Fin No s:=by
 refine (i.h2).elim λt hn=>?_
 refine (i.h1).elim λv hX1=>hX1.elim λhv rv=>?_
 have ci:CloIn s s (aaD agT).names cl V (λ_=>0) [("inner",f)] [("n",.int n),("digits",aol ds)] []:={
  x:=ExtX.refl s
  cls:=i.cells
  fr:=i.fr
  rho:=λz t' h=>by
   replace h:=lookup_cons▸h
   split at h
   . rename_i q
     cases eq_of_beq q;cases h
     exact ⟨by rfl,_,hn,.int _ _⟩
   . replace h:=lookup_cons▸h
     split at h
     . rename_i q
       cases eq_of_beq q;cases h
       exact ⟨by rfl,_,hv,rv⟩
     . exact nos h
  om:=λz t' h=>nomatch h
  ap:=λz z' t' u h=>nomatch h
  fz:=λp hp=>by
   cases List.mem_singleton.mp hp
   obtain ⟨o,fd,e,q,_⟩:=i.clo
   exact ⟨by rfl,i.h3,i.nV,⟨o,e⟩,λ_ _ h=>nomatch h⟩ }
 refine auX (ahJ (E:=λ_ _=>False) i.clo (by rfl) ci i.aok i.wd (.cons (.int L t1) (.cons (.int R t2) .nil)) rfl λenv a8 X V' A' k c=>?_)
 exact at1 (h env a8 X V' A' _ k c) (λ_ _ h=>h) aah
noncomputable def aom (γ:Gm) (it:Bool) (j:Nat):Prop:=
 ∀ {r:Nat}{A:Around}{V:aag}{s:Shared}{f:Addr}{cl:List (Str×Addr)}{n:Nat}{ds:List Nat}{L R:Nat}{t1 t2:Tok},In9 γ it (r+j+1) A V s f cl n ds->L<R->R<=ds.length->R-L<=2^j->(∀ d∈ds,d<2^n)->n*ds.length<=3000->ds.length<=3000->
  wpAny (model pg γ.w) A (call (.ref f) [.int L t1,.int R t2]) (λv s'=>∃ t,v=.int (aaC n (cut ds L R):Nat) t/\Ext s s') No s
theorem as2:aom γ it 0:=by
 intro r A V s f cl n ds L R t1 t2 i h1 h2 h3 h4 h5 h6
 have hR:R=L+1:=by exact apf h1 h3
 subst hR
 refine i.enter λenv a8 X V' A' ad k c=>?_
 refine at1 (aen (n:=20) (n':=20) (m:=20) (ow:=λ_=>false) (K:=λt=>t=.int (aaC n (cut ds L (L+1)):Nat)) (aas (γ:=γ) (it:=it) (r:=r) c.cx.wd.st FsOK.nil MsOK.nil) k HkOK.none c ?_) (λfl s' hq=>hq.elim λt ht x rv=>?_) aah
 . refine bri (λ_=>?_) (λhc=>absurd hc (by simp))
   refine gdi (aaV (by lia) (ace (at0 (aun h2) h6) (by decide))) (abK (t:=.int (ds[L]'(by lia):Nat)) (by rw [adT (by lia) (by simp;lia),Int.toNat_natCast,List.getElem?_map,List.getElem?_eq_getElem (by lia)];rfl) ?_)
   show T.int _=T.int _
   rw [aqZ (by lia)]
   show T.int _=T.int ((ds[L]+2^n*0:Nat):Int)
   rw [Nat.mul_zero];rfl
 . rw [ht] at rv
   obtain ⟨t,e⟩:=aa8 rv
   exact ⟨t,e,x⟩
theorem aon{V:aag}{h:Heap}{vs:List Value}{a b:Int}(r:RepL V h vs [.int a,.int b]):∃ t u,vs=[.int a t,.int b u]:=by
 obtain ⟨x,y,rfl,r1,r2⟩:=aeS r
 obtain ⟨t,rfl⟩:=aa8 r1
 obtain ⟨u,rfl⟩:=aa8 r2
 exact ⟨t,u,rfl⟩
theorem walk9{it:Bool}{n L R N j mid:Nat}{dT:T}{K:Out->Prop}(M:Mids L R N j mid) (h6:N<=3000) (h5:n*N<=3000)
  (h:K (.nx [("shift",.int ((n*(mid-L):Nat):Int)),("mid",.int mid),("R",.int R),("L",.int L),("n",.int n),("digits",dT)] [])) :
  blF it (aam (aeL [] []) it 21) 20 (aaD agT).names (λ_=>false) afY 10 ["inner"] ((abE agT).take 3) [("R",.int R),("L",.int L),("n",.int n),("digits",dT)] [] K:=by
 refine bri (λhc=>absurd hc M.ne) (λ_=>?_)
 (try conv=>whnf)
 rw [M.div,M.sub]
 refine aa2 (abx (ahh (at0 M.ml (at0 M.rl h6)) rfl)) (aa2 (abx (ahh (M.n3 h5) rfl)) ?_)
 exact (Nat.mul_comm n _▸rfl:((mid-L:Nat):Int)*(n:Int)=((n*(mid-L):Nat):Int))▸h
theorem shl9{n L R N j mid u:Nat}{ds:List Nat}(M:Mids L R N j mid) (h5:n*N<=3000) (h:u<2^(n*(cut ds mid R).length)) (hc:(cut ds mid R).length=R-mid) :
  asn .LShift (.int (u:Int)) (.int ((n*(mid-L):Nat):Int)) (λt=>t=.int ((u*2^(n*(mid-L)):Nat):Int)):=by
 refine upi (aue _) (acM (M.nm h5) (by decide)) (aa2 (aaB (at5 h (auw (by decide) (hc▸at0 (au9 n (at0 M.mr M.rl)) h5))) (by decide:3000<=_)) ?_)
 rw [Int.toNat_natCast,afv,<- Int.natCast_mul]
theorem akv{n L R j mid:Nat}{ds:List Nat}(M:Mids L R ds.length j mid) (h2:R<=ds.length):((aaC n (cut ds L R):Nat):Int)=((aaC n (cut ds mid R)*2^(n*(mid-L)):Nat):Int)+((aaC n (cut ds L mid):Nat):Int):=by
 rw [aqY (Nat.le_of_lt M.l) (Nat.le_of_lt M.r) h2,abP,amb M.mN (Nat.le_of_lt M.l),Int.natCast_add]
theorem step9{j:Nat}(ih:aom γ it j):aom γ it (j+1):=by
 intro r A V s f cl n ds L R t1 t2 i h1 h2 h3 h4 h5 h6
 by_cases hR:R=L+1
 . exact as2 (r:=r+j+1) i h1 h2 (by rw [hR,Nat.add_sub_cancel_left];exact auf 1) h4 h5 h6
 obtain ⟨mid,M⟩:=mids h1 h2 h3 hR
 refine i.enter λenv a8 X V' A' ad k c=>?_
 have sg:=aas (γ:=γ) (it:=it) (r:=r+j+1) c.cx.wd.st FsOK.nil MsOK.nil
 refine aq2▸?_
 refine acb (n:=20) (n':=20) (ow:=λ_=>false) sg k HkOK.none 10 _ ?_ c Stp.refl
 refine walk9 M h6 h5 ?_
 intro aa aw aE ah av
 have hs:=aal sg 21
 refine aui (wpAny_Return_some (wpAny_BinOp (wpAny_BinOp ?_)))
 refine adb (f:="inner") (a:=f) hs k ah (ah.frz _ (.head _)).1 ⟨by decide,by decide⟩ (by rfl) (λs' x=>i.clo.ext i.wd.tabs (ah.ext.trans x)) (Kt:=λts=>ts=[.int mid,.int R]) rfl λai vs ts ht an aj rs=>?_
 refine anH ht rs λu1 u2=>?_
 refine at1 (ih (r:=r) (i.go aj.ext (k.aok.ext aj.ext)) M.r h2 M.pr h4 h5 h6) (λv ao hq=>hq.elim λef hq=>hq.elim λcn ay=>?_) aah
 subst cn
 have aK:=aj.run k ay
 refine aaj (hs _ _ _ (λt=>t=.int ((n*(mid-L):Nat):Int)) ?_ A' _ ao env aK.shown) λv aI t ht bx rv=>?_
 . rfl
 refine aqa ht rv λdG=>?_
 have aM:=aK.run k bx
 refine aaj (ala (γ:=γ) (V:=V) (K:=λt=>t=.int ((aaC n (cut ds mid R)*2^(n*(mid-L)):Nat):Int)) (.int _ _) (.int _ _) (shl9 M h5 (ahK λd hd=>h4 d (aq1 hd)) (amb h2 (aug M.r)))) λv aT t ht dH rv=>?_
 refine aqa ht rv λeg=>?_
 have bp:=aM.run k dH
 refine adb (f:="inner") (a:=f) hs k bp (bp.frz _ (.head _)).1 ⟨by decide,by decide⟩ (by rfl) (λs' x=>i.clo.ext i.wd.tabs (bp.ext.trans x)) (Kt:=λts=>ts=[.int L,.int mid]) rfl λaV vs ts ht ch bB rs=>?_
 refine anH ht rs λv1 v2=>?_
 refine at1 (ih (r:=r) (i.go bB.ext (k.aok.ext bB.ext)) M.l M.mN M.pl h4 h5 h6) (λv cZ hq=>hq.elim λeh hq=>hq.elim λco cj=>?_) aah
 subst co
 refine aaj (ala (γ:=γ) (V:=V) (K:=λt=>t=.int ((aaC n (cut ds L R):Nat):Int)) (.int _ _) (.int _ _) (congrArg T.int (akv M h2).symm)) λv d3 t ht cq rv=>?_
 refine aqa ht rv λdI=>?_
 exact ⟨dI,rfl,(bB.ext.trans cj).trans cq⟩
theorem as3 (j:Nat):aom γ it j:=by
 induction j with
 | zero=>exact as2
 | succ j h=>exact step9 h
end
section
variable{f:Addr}{cl:List (Str×Addr)}{ds:List Nat}
inductive Fid2i (ts:List T) (K:T->Prop):Prop
 | mk (ds:List Nat) (n:Nat) (e0:ts=[aol ds,.int n]) (e1:(∀ d∈ds,d<2^n)) (e2:n*ds.length<=3000) (e3:ds.length<=1024) (e4:n<=3000) (e5:K (.int (aaC n ds:Nat))):Fid2i ts K
noncomputable def as4:Fun:=Fid2i
theorem agn:((aaD agT).names.all λp=>p.2 != .free || (aaD (aaa 9)).names.lookup p.1==some .cell)=true:=by rfl
theorem as5 (st:Stat γ):CallOK γ (Wd γ) it 13 (.ref 84) as4:=by
 rintro A V s vs ts K aok wd rs ⟨ds,n,rfl,hd,h1,h2,h3,hK⟩
 have f9:FnInC γ.KF 84 83 "_digits2int" (aaa 9):=st.fnc (84,83,"_digits2int",9) (by decide)
 refine auX (adW (r:=12) f9 (by rfl) (by rfl) wd aok rs rfl λenv a8 X V' A' hcode hqual k c=>?_)
 have sg:=aas (γ:=γ) (it:=it) (r:=12) st (FsOK.blt (x:="len") (n:="len") (F:=ahG) st (by decide) agi FsOK.nil) MsOK.nil
 have hs:=aal sg 21
 refine at1 (Q:=λf s'=>EvR V s K (match f with | .ret v=>v | _=>.none) s') ?_ (λf s' h=>h) aah
 have hcl:∀ p∈(aaD agT).names,p.2=.free->∃ c,env.cells.lookup p.1=some c:=λp hp h=>c.cx.envS.cells p.1 (.inl (adY agn p hp h))
 refine aui (apD k c (q:=(83,79,79,4,"_digits2int.<locals>.inner")) rfl rfl rfl (.tail _ (.tail _ (.head _))) hcode ⟨rfl,rfl⟩ (al8 c.cx.envS (x:="inner") (.inl rfl) |>.trans (by refine hqual▸?_;rfl)) hcl (by rfl) λf aa aw ah clo hf=>?_)
 have sc9:∀ {x:Str},(aaD agT).names.lookup x=some .free->abJ ((aaD (aaa 9)).names.lookup x):=λ{x} h=>.inl (adY agn _ (mem_of_lookup h) rfl)
 have has:∀ {h:Heap}{x:Str}{v:Value},(aaD agT).names.lookup x=some .free->Sees h env x v->CellHas h (aay env (aaD agT).names []) x v:=λhx a=>afy c.cx.envS hcl hx (sc9 hx) a
 have i9:∀ {s'},Ext aa s'->In9 γ it 11 A' aw s' f (aay env (aaD agT).names []) n ds:=λ{s'} x=>
  have c:=ah.run k x
  { clo:=clo.ext ah.cx.wd.tabs x
    wd:=c.cx.wd
    aok:=(k.aok.ext c.ext).le (by decide)
    cells:=λx cc h=>let ⟨h1,h2⟩:=afx hcl h;c.cx.live x cc (sc9 (agl (by rfl) h1)) h2
    h1:=by
     obtain ⟨v,h1,h2⟩:=c.cx.vars "digits" (aol ds) rfl
     exact ⟨v,has (by rfl) h1,h2⟩
    h2:=by
     obtain ⟨v,h1,h2⟩:=c.cx.vars "n" (.int n) rfl
     obtain ⟨t,rfl⟩:=aa8 h2
     exact ⟨t,has (by rfl) h1⟩
    h3:=has (by rfl) (c.frz ("inner",f) (.head _)).1
    fr:=λx h=>let ⟨cc,h1,_⟩:=acI hcl h;⟨cc,h1⟩
    nV:=(c.offP f (.inr rfl)).1 }
 have aj:∀ {s'},Ext aa s'->_:=λ{s'} x=>ah.run k x
 refine aui (wpAny_Return_some (wpAny_IfExp (at1 (aaU hs 20 (K:=λb=>b=!ds.isEmpty) ?_ ah.shown) (λb ai hq=>hq.elim λhb an=>?_) aah)))
 . refine szi (by simp;lia) ?_
   cases ds <;> rfl
 subst hb
 cases ds with
 | nil=>
  refine aaj (hs _ _ _ (λt=>t=.int 0) ?_ A' _ ai env (aj an).shown) λv ao t ht ay rv=>⟨_,hK,ah.ext.trans (an.trans ay),?_⟩
  . rfl
  . subst ht;obtain ⟨t,rfl⟩:=aa8 rv;exact .int _ _
 | cons d ds=>
  dsimp only [List.isEmpty_cons,Bool.not_false,if_true]
  refine adb (f:="inner") (a:=f) hs k (aj an) ((aj an).frz _ (.head _)).1 ⟨by decide,by decide⟩ (by rfl) (λs' x=>clo.ext ah.cx.wd.tabs (an.trans x)) (Kt:=λts=>ts=[.int 0,.int ((d ::ds).length:Nat)]) ?_ λao vs ts ht ay aK rs=>?_
  . refine szi (by simp only [List.length_map];lia) ?_
    show [T.int 0,T.int _]=_
    rw [List.length_map]
  refine anH ht rs λu1 u2=>?_
  refine at1 (as3 10 (r:=0) (L:=0) (R:=(d ::ds).length) (i9 (an.trans ay)) (by simp) (auf _) (by omega) hd h1 (by lia)) (λv aI hq=>hq.elim λdG hq=>hq.elim λbZ bx=>?_) aah
  rw [bZ]
  refine aq0▸?_
  exact ⟨_,hK,aK.ext.trans bx,.int _ _⟩
end
section
theorem agU{it l:Addr}{Q:Option Value->Shared->Prop}(hh:HandOK A s.heap) (hit:s.heap.IsRevIter it l (-1))
  (hQ:∀ h',(∀ b o,s.heap.get? b=some o->h'.get? b=some o)->Q none { s with heap:=h' }):wpAny (model pg γ.w) A (pyNext (.ref it)) Q E s:=by
 refine (id hit).elim λo hX1=>hX1.elim λho hX2=>hX2.elim λhc hd=>?_
 refine atY (wpAny_attempt (auC (name:=Str.ofString "__next__") hit.typeIs F.slot_lri_next
  (auO F.slot_lri_next hit.typeIs F.entry_lri_next ?_ (F.args_lri_next_1 _))))
 refine atY (wpAny_of_eq (a:=(Value.ref it,[])) rfl ?_)
 refine atY (auo ho hd (x:=rawInt (-1)) rfl ?_)
 refine atY (wpAny_rule ?_)
 first
 | show wpAny _ _ (newExc (.type "StopIteration") [] >>= λe=>raiseNew e) _ _ _
 | (refine atY ?_;show wpAny _ _ (newExc (.type "StopIteration") [] >>= λe=>raiseNew e) _ _ _)
 refine afe hh λh' e o' e1 e2 e3=>?_
 refine atY (wpAny_isInstance (T:="StopIteration") (b:=true) ⟨_,e1,e2⟩ isSubtype_stop ?_)
 exact at3 (hQ _ e3)
noncomputable def as6 (V:aag) (s:Shared) (I:Addr):aag:=λb=>V b/\b≠I/\∃ o,s.heap.get? b=some o
structure RevSt (W:aag) (I a:Addr) (vs:Array Value) (l:List T) (i:Nat) (s':Shared):Prop where
 it:s'.heap.IsRevIter I a ((vs.size:Int)-1-(i:Int))
 pl:s'.heap.PlainList a vs
 rs:RepL W s'.heap vs.toList l
theorem ago{a8 aa:Shared}{Y:aag}{a:Addr}{vs:Array Value}(x:ExtX Y a8 aa) (n:¬ Y a) (h:a8.heap.PlainList a vs):aa.heap.PlainList a vs:=h.elim λq e=>⟨q,x.keepC _ _ (λz=>by cases z) n e⟩
theorem amc{h:Heap}{I a:Addr}{i:Int}(hX:h.IsRevIter I a i):aa9 h I:=hX.elim λo hX1=>hX1.elim λe hX2=>hX2.elim λq d=>by
 refine ⟨o,e,λz=>(by replace z:=q▸z;cases z),λz=>(by replace z:=q▸z;injection z with z;exact absurd z (by decide)),λws y t z=>?_⟩
 replace z:=d▸z;cases z;simp [rawInt]
theorem RevSt.next{W:aag}{I a:Addr}{vs:Array Value}{l:List T}{i:Nat}{a8:Shared}{h':Heap}(st:RevSt W I a vs l i a8) (va:W a) (nI:¬ W I) (x:ExtX (·=I) a8 { a8 with heap:=h' }) (it:h'.IsRevIter I a ((vs.size:Int)-1-(i:Int)-1)):RevSt W I a vs l (i+1) { a8 with heap:=h' }:=
 ⟨by rw [Int.natCast_succ,<- Int.sub_sub];exact it,ago x (λh=>nI (h▸va)) st.pl,st.rs.extX x λb hb h=>nI (hb▸h)⟩
theorem amd (tb:TabInv s.heap) {I a:Addr}(hI:I=s.heap.objs.size) {x:Str}{p:Pos}{vs:Array Value}{l:List T}(hn:vs.size=l.length) (va:as6 V s I a):Turns γ A (.Name x p) I (·=I) (as6 V s I) l.reverse (RevSt (as6 V s I) I a vs l) where
 frame:=λi a8 aa Y hY st x=>⟨st.it.at λo e=>x.keep _ o (by rw [hI];exact acg tb (auf _)) (λy=>(hY _ y).2 rfl) e,ago x (λy=>(hY _ y).1 va) st.pl,st.rs.extX x λb hb hv=>(hY b hb).1 hv⟩
 live:=λi a8 st b hb=>st.it.elim λo h=>h.elim λe _=>hb▸⟨o,e⟩
 item:=λi t a8 Q E' hi st hQ=>by
  have hlt:i<l.length:=List.length_reverse▸(List.getElem?_eq_some_iff.mp hi).1
  replace hi:=(List.getElem?_reverse hlt)▸hi
  obtain ⟨v,hv,rv⟩:=st.rs.get' hi
  have hk:((l.length-1-i:Nat):Int)=(vs.size:Int)-1-(i:Int):=by rw [hn];exact ash hlt
  refine wpAny_pyNext_rev_item (hk▸st.it) st.pl.isList (x:=v) (by simpa using hv) λh' it' sb=>?_
  have x:ExtX (·=I) a8 { a8 with heap:=h' }:=ExtX.wr (tk:=a8.toks) (wr:=[I]) (λb hb=>List.mem_singleton.mp hb) (λb hb=>List.mem_singleton.mp hb▸amc st.it) λb o hb e=>sb.extBut b o (by simpa using hb) e
  refine hQ v _ x λQ' E' hQ'=>at3 (hQ' _ x (st.next va (λh=>h.2.1 rfl) x (hk▸it')) (.inl ?_))
  exact (rv.extX x (λb hb h=>h.2.1 hb)).mono (λa h=>.inl h) λ_ _ _ _ e=>e
 done:=λa8 Q E' hand st hQ=>by
  have e:=st.it
  rw [List.length_reverse,<- hn,show (vs.size:Int)-1-(vs.size:Int)=-1 by lia] at e
  exact agU hand e λh' k=>hQ _ (Ext.of (tk:=a8.toks) k).toX
 self:=λi a8 Q E' st hQ=>wpAny_pyIter_revIter st.it hQ
theorem ame (hh:HandOK A s.heap) (tb:TabInv s.heap) {x:Str}{p:Pos}{v:Value}{l:List T}(r:Rep V s.heap v (.lst l)) :
  wpAny (model pg γ.w) A (call (.type "reversed") [v]) (λu a8=>wpAny (model pg γ.w) A (pyIter u) (λi aa=>Iters γ A (.Name x p) V s l.reverse i aa) E a8) E s:=by
 cases r with
 | @lst a vs _ va hp rs=>
 refine call_reversed_list hp.isList ?_
 obtain ⟨I,hI⟩:∃ I,I=s.heap.objs.size:=⟨_,rfl⟩
 refine hI▸?_
 have up:∀ b o,s.heap.get? b=some o->(s.heap.push (revObj a ((vs.size:Int)-1))).get? b=some o:=λb o e=>atZ _ e
 have rev:(s.heap.push (revObj a ((vs.size:Int)-1))).IsRevIter I a ((vs.size:Int)-1):=⟨_,hI▸at4 _ rfl,rfl,rfl⟩
 refine wpAny_pyIter_revIter (i:=(vs.size:Int)-1) rev ?_
 have ne:∀ {b:Addr}{o:Obj},s.heap.get? b=some o->b≠I:=λe z=>auH _ (hI▸z▸aua e)
 obtain ⟨nn,ea⟩:=id hp
 have x:Ext s { s with heap:=s.heap.push (revObj a ((vs.size:Int)-1)) }:=Ext.of (tk:=s.toks) up
 refine ⟨I,(·=I),as6 V s I,RevSt (as6 V s I) I a vs l,rfl,amd tb hI (aac rs) ⟨va,ne ea,_,ea⟩,⟨(Int.sub_zero _).symm▸rev,⟨nn,up _ _ ea⟩,?_⟩,x,?_,?_⟩
 . exact (RepL.live rs).mono (λb h=>⟨h.1,h.2.elim λo e=>⟨ne e,o,e⟩⟩) λb o _ _ e=>up b o e
 . rintro b rfl;refine hI▸?_;exact aan
 . rintro b ⟨h1,h2,o,h3⟩;exact ⟨h1,h2,o,up _ _ h3⟩
end
noncomputable def afA (n b:Nat):List Nat->Nat->List Nat×Nat
 | [],r=>([],r)
 | d ::ds,r=>((r*2^n+d) / b ::(afA n b ds ((r*2^n+d)%b)).1,(afA n b ds ((r*2^n+d)%b)).2)
theorem afB{n b:Nat}:∀ {ds:List Nat}{r:Nat},(afA n b ds r).1.length=ds.length/\aaC n (afA n b ds r).1.reverse*b+(afA n b ds r).2=r*2^(n*ds.length)+aaC n ds.reverse
 | [],r=>⟨rfl,by show 0*b+r=r*2^(n*0)+0;rw [Nat.zero_mul,Nat.zero_add,Nat.mul_zero,Nat.pow_zero,Nat.mul_one];rfl⟩
 | d ::ds,r=>by
  obtain ⟨h1,h2⟩:=afB (n:=n) (b:=b) (ds:=ds) (r:=(r*2^n+d)%b)
  refine ⟨congrArg (·+1) h1,?_⟩
  show aaC n ((r*2^n+d) / b ::(afA n b ds ((r*2^n+d)%b)).1).reverse*b+(afA n b ds ((r*2^n+d)%b)).2=_
  refine List.reverse_cons▸?_;rw [List.reverse_cons,abP,abP,List.length_reverse,List.length_reverse,h1]
  have e:aaC n [(r*2^n+d) / b]=(r*2^n+d) / b:=rfl
  rw [e,(by simp [aaC]:aaC n [d]=d),Nat.add_mul,List.length_cons,Nat.mul_succ,Nat.pow_add,Nat.add_assoc,h2]
  have:=Nat.div_add_mod (r*2^n+d) b
  have k:((r*2^n+d) / b*b+(r*2^n+d)%b)*2^(n*ds.length)=(r*2^n+d)*2^(n*ds.length):=by rw [Nat.mul_comm _ b,this]
  rw [Nat.add_mul,Nat.add_mul] at k
  rw [(by rw [Nat.mul_assoc,Nat.mul_comm (2^_) b,<- Nat.mul_assoc]:(r*2^n+d) / b*2^(n*ds.length)*b=(r*2^n+d) / b*b*2^(n*ds.length)),(by rw [Nat.mul_assoc,Nat.mul_comm (2^n)]:r*(2^(n*ds.length)*2^n)=r*2^n*2^(n*ds.length))]
  grind
theorem aiN{n b:Nat}(hb:0<b) (hn:b<=2^n):∀ {ds:List Nat}{r:Nat},r<b->(∀ d∈ds,d<2^n)->(∀ q∈(afA n b ds r).1,q<2^n)/\(afA n b ds r).2<b
 | [],r,hr,_=>⟨λq h=>(nomatch h),hr⟩
 | d ::ds,r,hr,hd=>by
  obtain ⟨h1,h2⟩:=aiN hb hn (ds:=ds) (r:=(r*2^n+d)%b) (auK _ hb) λd h=>hd d (.tail _ h)
  refine ⟨λq hq=>?_,h2⟩
  clear hn
  rcases List.mem_cons.mp hq with rfl | hq
  . refine Nat.div_lt_of_lt_mul ?_
    have:=hd d (.head _)
    have:(r+1)*2^n<=b*2^n:=Nat.mul_le_mul_right _ hr
    grind
  . exact h1 q hq
theorem aeW{n d:Nat}:∀ {k a:Nat},d∈acL n k a->d<2^n
 | k+1,a,h=>by
  rcases List.mem_cons.mp h with rfl | h
  . exact auK _ (Nat.two_pow_pos n)
  . exact aeW h
theorem ajB{n b a k:Nat}(hb:0<b) (hn:b<=2^n) (ha:a<2^(n*k)):aaC n (afA n b (acL n k a).reverse 0).1.reverse=a / b/\(afA n b (acL n k a).reverse 0).2=a%b:=by
 refine (afB (n:=n) (b:=b) (ds:=(acL n k a).reverse) (r:=0)).elim λ_ h=>?_
 rw [Nat.zero_mul,Nat.zero_add,List.reverse_reverse,afz,Nat.mod_eq_of_lt ha] at h
 obtain ⟨_,h2⟩:=aiN hb hn (r:=0) hb (λd hd=>aeW (List.mem_reverse.mp hd))
 exact ⟨((Nat.div_mod_unique (a:=a) (b:=b) (c:=(afA n b (acL n k a).reverse 0).2) (d:=aaC n (afA n b (acL n k a).reverse 0).1.reverse) hb).mpr ⟨by rw [Nat.mul_comm];lia,h2⟩).1.symm,((Nat.div_mod_unique (a:=a) (b:=b) (c:=(afA n b (acL n k a).reverse 0).2) (d:=aaC n (afA n b (acL n k a).reverse 0).1.reverse) hb).mpr ⟨by rw [Nat.mul_comm];lia,h2⟩).2.symm⟩
section
theorem adZ{l:Addr}{items:Array Value}{Q:Value->Shared->Prop}(hp:s.heap.PlainList l items) (hz:items.size<=10000)
  (q:∀ h',h'.PlainList l items.reverse->Heap.SameBut l s.heap h'->Q .none { s with heap:=h' }):wpAny (model pg γ.w) A (call (.builtin "list.reverse") [.ref l]) Q E s:=by
 refine (id hp).elim λn e=>?_
 exact call_meets PySem.F.slot_list_reverse ⟨_,e,rfl⟩ PySem.F.entry_list_reverse (PySem.F.args_list_reverse_1 _) (PySem.AutoListH.list_reverse_list_0 l items n (aaf hz)) ⟨e,q _ (aaQ hp λx=>x.reverse) (auB ..)⟩
end
section
inductive Fipos (ts:List T) (K:T->Prop):Prop
 | mk (a b:Nat) (e0:ts=[.int a,.int b]) (e1:0<b) (e2:a<2^600) (e3:b<2^600) (e4:K (.tup [.int (a / b:Nat),.int (a%b:Nat)])):Fipos ts K
noncomputable def aq3:Fun:=Fipos
noncomputable def agV (s:Stmt):List Stmt:=stB s
theorem RepL.reverse{V:aag}{h:Heap}{vs:List Value}{ts:List T}(r:RepL V h vs ts):RepL V h vs.reverse ts.reverse:=
 abH (P:=λvs ts=>RepL V h vs.reverse ts.reverse) .nil (λr _ ih=>by rw [List.reverse_cons,List.reverse_cons];exact ih.append (.cons r .nil)) r
noncomputable abbrev SgP:Sg:=aeL [("_int2digits",as0),("_div2n1n",al3),("_digits2int",as4)] [("bit_length",aju)]
noncomputable def rhoP (r:Nat) (n a b:Nat):aab:=[("r",.int (r:Int)),("a_digits",aol (acL n (abu a n) a)),("n",.int n),("b",.int b),("a",.int a)]
noncomputable def omP (qs:List Nat):aab:=[("q_digits",aol qs)]
noncomputable def posF (it:Bool) (n a b:Nat) (ds:List Nat) (r:Nat) (qs:List Nat) (K:Out->Prop):Prop:=
 afX (acF (aaD (aaa 10)).names (([]:List (Str×Addr)).map (·.1)) (Expr.Name "a_digit" ⟨91,8,91,15⟩)) (λρ ω K=>blF it (aam SgP it 21) 20 (aaD (aaa 10)).names (λ_=>false) afY 20 (([]:List (Str×Addr)).map (·.1)) (agV ((abE (aaa 10)).getD 4 (.Pass ⟨0,0,0,0⟩))) ρ ω K)
  ["r","a_digits","n","b","a"] ["q_digits"] (ds.map λ(d:Nat)=>T.int (d:Int)) (rhoP r n a b) (omP qs) K
theorem as7{n b r d:Nat}(n6:n<=600) (hb':b<2^600) (h1:r<b) (hd:d<2^n):r*2^n+d<2^1200:=by
 have e1:(r+1)*2^n<=2^600*2^600:=Nat.mul_le_mul (aug (auc h1 hb')) (auw ((auh _)) n6)
 rw [<- Nat.pow_add,Nat.add_mul,Nat.one_mul] at e1
 exact at5 (Nat.add_lt_add_left hd _) e1
theorem aoo{n a b:Nat}{K:Out->Prop}(hb0:0<b) (hb':b<2^600) (n6:n<=600):∀ (ds:List Nat) (r:Nat) (qs:List Nat),r<b->(∀ d∈ds,d<2^n)->ds.length+qs.length<=1000->
  K (.nx (rhoP (afA n b ds r).2 n a b) (omP (qs++(afA n b ds r).1)))->posF it n a b ds r qs K:=by
 intro ds
 induction ds with
 | nil=>intro r qs _ _ _ h;rw [show qs++(afA n b [] r).1=qs from List.append_nil _] at h;exact h
 | cons d ds ih=>
  intro r qs h1 h2 h3 h
  rw [List.length_cons,Nat.add_right_comm] at h3
  refine upi (aue _) (Int.ofNat_le.mpr (at0 n6 (by decide))) (aa2 (aaB (k:=600) (aur h1 hb') (by decide)) ?_)
  rw [show (r:Int)*2^(n:Int).toNat=((r*2^n:Nat):Int) by rw [Int.toNat_natCast,afv,Int.natCast_mul]]
  refine ⟨((r*2^n+d:Nat):Int),b,n,by rw [Int.natCast_add],?_,Int.natCast_ne_zero_iff_pos.mpr hb0,aaB hb' (by decide),?_⟩
  . exact auy (auR _ (aue _)) (acM (aiM (as7 n6 hb' h1 (h2 d (.head _)))) (by decide))
  rw [abf,abg]
  refine szi (by rw [List.length_map];exact at0 (auI (auQ _ _)) (aaK h3 rfl)) ?_
  have:=ih ((r*2^n+d)%b) (qs++[(r*2^n+d) / b]) (auK _ hb0) (λd h=>h2 d (.tail _ h)) (by rw [List.length_append,<- Nat.add_assoc];exact h3) (by rw [List.append_assoc];exact h)
  unfold posF omP aol at this
  rw [List.map_append] at this
  exact this
theorem apE (st:Stat γ):CallOK γ (Wd γ) it 14 (.ref 91) aq3:=by
 rintro A V s vs ts K aok wd rs ⟨a,b,rfl,hb0,ha,hb',hK⟩
 have f10:=(st.fn ("_divmod_pos",91,10) (by decide)).2
 have sg:=aas (γ:=γ) (it:=it) (r:=13) st
  (FsOK.fn (x:="_int2digits") (i:=8) st (by decide) (as1 st) (FsOK.fn (x:="_div2n1n") (i:=6) st (by decide) ((aog st).le (by decide)) (FsOK.fn (x:="_digits2int") (i:=9) st (by decide) (as5 st) FsOK.nil))) (MsOK.bits MsOK.nil)
 refine auX (agR f10 (by rfl) wd aok rs rfl λenv a8 X V' A' k c=>?_)
 have hs:=aal sg 21
 refine at1 (Q:=λf s'=>EvR V s K (match f with | .ret v=>v | _=>.none) s') ?_ (λf s' h=>h) aah
 obtain ⟨n,hn⟩:∃ n,n=Builtin.Int.intBits (b:Int):=⟨_,rfl⟩
 have n0:0<n:=by rw [hn];unfold Builtin.Int.intBits;rw [if_neg (by simpa using Nat.pos_iff_ne_zero.mp hb0)];exact auh _
 have n6:n<=600:=hn▸aiM hb'
 have bn:b<2^n:=hn▸al9
 have D:=nDig n0 n6 ha
 refine (show abE (aaa 10)=(abE (aaa 10)).take 4++(abE (aaa 10)).drop 4 from (List.take_append_drop 4 _).symm)▸?_
 refine acb (n:=20) (n':=20) (ow:=λx=>x=="q_digits") sg k HkOK.none 10 _ ?_ c Stp.refl
 (try conv=>whnf)
 rw [<- hn]
 refine ⟨a,n,rfl,n0,n6,ha,?_⟩
 intro aa aw aE ah av
 have hb:=acT (n:=20) (n':=20) (ow:=λ_=>false) sg k HkOK.none 20
 refine aui (at1 (ael (KI:=λitems=>items=(((acL n (abu a n) a).reverse).map λ(d:Nat)=>T.int (d:Int))) (K:=λo=>o=.nx (rhoP (a%b) n a b) (omP (afA n b (acL n (abu a n) a).reverse 0).1)) k hb ah rfl ?_ ?_) (λf ai ⟨o,ho,p⟩=>?_) aah)
 . refine aaH ah.cx rfl rfl (abG ah.cx.wd (v:=.type "reversed") (by decide)) abn (acD rfl) (acR rfl (aaj (hs _ _ _ (λt=>t=aol (acL n (abu a n) a)) ?_ A' aw aa env ah.cx) λv ai t ht an rv=>⟨an,?_⟩))
   . rfl
   rw [ht] at rv
   refine at1 (ame (ah.run k an).cx.aok.hand (ah.run k an).cx.wd.tabs rv) (λu ao h=>at1 h (λi aI hI=>⟨_,?_,hI.from an⟩) aah) aah
   exact List.map_reverse.symm
 . rintro items rfl
   obtain ⟨e1,e2⟩:=ajB (n:=n) (b:=b) hb0 (aug bn) D.k3
   exact aoo hb0 hb' n6 _ 0 [] hb0 (λd hd=>aeW (List.mem_reverse.mp hd)) ((List.length_reverse.symm▸abh▸at0 D.k2 (by decide))) (by refine e2.symm▸?_;rfl)
 . rw [ho] at p
   cases f <;> first | exact p.elim | skip
   obtain ⟨cY,cF,aj,bE⟩:=p
   have hlen:(afA n b (acL n (abu a n) a).reverse 0).1.length=(abu a n):=by rw [afB.1,List.length_reverse,abh]
   refine aui (wpAny_Expr_any ?_ (by unfold interactive;refine aj.slots.kind▸?_;rfl) rfl)
   refine aeV aj rfl rfl rfl rfl (by decide) PySem.F.slot_list_reverse PySem.F.type_list_reverse (at3 ⟨ExtX.refl ai,?_⟩)
   obtain ⟨vs,hpl,rs,hz,nV⟩:=ada aj (x:="q_digits") (l:=(afA n b (acL n (abu a n) a).reverse 0).1.map λ(d:Nat)=>T.int (d:Int)) rfl
   refine adZ hpl (by rw [hz,List.length_map,hlen];exact aaK D.k2 rfl) λh' hpl' hs'=>?_
   have kp:=aba aj (x:="q_digits") (l:=(afA n b (acL n (abu a n) a).reverse 0).1.map λ(d:Nat)=>T.int (d:Int)) rfl hs'
   obtain ⟨aK,cG⟩:=abV k aj (x:="q_digits") (l':=(afA n b (acL n (abu a n) a).reverse 0).1.reverse.map λ(d:Nat)=>T.int (d:Int)) rfl hpl hpl' hs' (by
    rw [Array.toList_reverse,List.map_reverse]
    exact (rs.mono (λ_ h=>h) kp).reverse)
   refine aen (n:=20) (n':=20) (m:=20) (ow:=λ_=>false) sg k HkOK.none aK ?_
   obtain ⟨e1,e2⟩:=ajB (n:=n) (b:=b) hb0 (aug bn) D.k3
   refine ⟨_,_,rfl,?_,?_,?_,aaK n6 rfl,?_⟩
   . intro d hd
     refine (aiN hb0 (aug bn) (r:=0) hb0 λd h=>aeW (List.mem_reverse.mp h)).1 d (List.mem_reverse.mp hd)
   . rw [List.length_reverse,hlen];exact aaK D.k1 rfl
   . rw [List.length_reverse,hlen];exact aaK D.k2 rfl
   refine e1▸?_
   exact hK
inductive Fibpos (ts:List T) (K:T->Prop):Prop
 | mk (a:Int) (b:Nat) (e0:ts=[.int a,.int b]) (e1:0<b) (e2:a.natAbs<2^599) (e3:b<2^600) (e4:K (.tup [.int (a.fdiv b),.int (a.fmod b)])):Fibpos ts K
noncomputable def apF:Fun:=Fibpos
inductive Fiidm (ts:List T) (K:T->Prop):Prop
 | mk (a b:Int) (e0:ts=[.int a,.int b]) (e1:b≠0) (e2:a.natAbs<2^598) (e3:b.natAbs<2^600) (e4:K (.tup [.int (a.fdiv b),.int (a.fmod b)])):Fiidm ts K
noncomputable def aop:Fun:=Fiidm
inductive Fidm0 (ts:List T) (K:T->Prop):Prop
 | mk (a b:Nat) (e0:ts=[.int a,.int b]) (e1:0<b) (e2:a<2^600) (e3:b<2^600) (e4:K (.tup [.int (a / b:Nat),.int (a%b:Nat)])):Fidm0 ts K
noncomputable def as8:Fun:=Fidm0
theorem as9 (st:Stat γ):CallOK γ (Wd γ) it 15 (.ref 98) as8:=by
 refine aa0 (n:=20) (n':=20) (m:=20) (ow:=λ_=>false) (S:=aeL [("_divmod_pos",aq3)] []) (st.fn ("int_divmod",98,11) (by decide)).2 (by rfl)
  (aas st (FsOK.fn (i:=10) st (by decide) (apE st) FsOK.nil) MsOK.nil) ?_
 rintro ts K ⟨a,b,rfl,hb,ha,hb',hK⟩
 refine ⟨rfl,?_⟩
 refine bri (λh=>absurd (of_decide_eq_true h) (Int.natCast_ne_zero_iff_pos.mpr hb)) (λ_=>?_)
 exact ⟨a,b,rfl,hb,ha,hb',hK⟩
theorem p599:2^599<2^600:=auE (by decide) (by decide)
theorem apG{m b:Nat}(hb:0<b):(Int.negSucc m).fdiv (b:Int)=Builtin.bitNot ((m / b:Nat):Int)/\(Int.negSucc m).fmod (b:Int)=(b:Int)+Builtin.bitNot ((m%b:Nat):Int):=by
 cases b with
 | zero=>exact (auH _ hb).elim
 | succ k=>exact ⟨by rw [kbt_not];exact (Int.negSucc_eq _).trans Int.neg_add,by rw [kbt_not];exact Int.subNatNat_eq_coe.trans (by lia)⟩
theorem amf (st:Stat γ):CallOK γ (Wd γ) it 16 (.ref 98) apF:=by
 refine aa0 (n:=20) (n':=20) (m:=20) (ow:=λ_=>false) (S:=aeL [("_divmod_pos",aq3),("int_divmod",as8)] []) (st.fn ("int_divmod",98,11) (by decide)).2 (by rfl)
  (aas st (FsOK.fn (i:=10) st (by decide) ((apE st).le (by exact at2 rfl)) (FsOK.fn (i:=11) st (by decide) (as9 st) FsOK.nil)) MsOK.nil) ?_
 rintro ts K ⟨a,b,rfl,hb,ha,hb',hK⟩
 refine ⟨rfl,?_⟩
 refine bri (λh=>absurd (of_decide_eq_true h) (Int.natCast_ne_zero_iff_pos.mpr hb)) (λ_=>?_)
 cases a with
 | negSucc m=>
  refine bri (λ_=>?_) (λh=>absurd (of_decide_eq_false h) (not_not_intro (Int.negSucc_lt_zero m)))
  refine ⟨m,b,congrArg (λz=>[T.int z,T.int (b:Int)]) (by rw [kbt_not];exact Int.add_sub_cancel (m:Int) 1:Builtin.bitNot (Int.negSucc m)=m),hb,aur (Nat.lt_of_succ_lt ha) p599,hb',?_⟩
  rw [(apG hb).1,(apG hb).2] at hK
  exact hK
 | ofNat m=>
  have hK:K (.tup [.int ((m:Int).fdiv b),.int ((m:Int).fmod b)]):=hK
  rw [abf,abg] at hK
  exact ⟨m,b,rfl,hb,aur ha p599,hb',hK⟩
inductive Fibneg (ts:List T) (K:T->Prop):Prop
 | mk (a b:Int) (e0:ts=[.int a,.int b]) (e1:b<0) (e2:a.natAbs<2^598) (e3:b.natAbs<2^600) (e4:K (.tup [.int (a.fdiv b),.int (a.fmod b)])):Fibneg ts K
noncomputable def ata:Fun:=Fibneg
theorem aq4 (st:Stat γ):CallOK γ (Wd γ) it 17 (.ref 98) ata:=by
 refine aa0 (n:=20) (n':=20) (m:=20) (ow:=λ_=>false) (S:=aeL [("int_divmod",apF)] []) (st.fn ("int_divmod",98,11) (by decide)).2 (by rfl)
  (aas st (FsOK.fn (i:=11) st (by decide) (amf st) FsOK.nil) MsOK.nil) ?_
 rintro ts K ⟨a,b,rfl,hb,ha,hb',hK⟩
 refine ⟨rfl,?_⟩
 refine bri (λh=>absurd (of_decide_eq_true h) (Int.ne_of_lt hb)) (λ_=>?_)
 refine bri (λ_=>?_) (λh=>absurd (of_decide_eq_false h) (not_not_intro hb))
 obtain ⟨m,rfl⟩:=Int.eq_negSucc_of_lt_zero hb
 refine ⟨-a,m+1,rfl,auh m,(Int.natAbs_neg a).symm▸aur ha (auE (by decide) (by decide)),hb',?_⟩
 have e1:(-a).fdiv ((m+1:Nat):Int)=a.fdiv (Int.negSucc m):=Int.neg_fdiv_neg a (Int.negSucc m)
 have e2:-((-a).fmod ((m+1:Nat):Int))=a.fmod (Int.negSucc m):=by
  rw [Int.fmod_def,Int.fmod_def,e1,Int.neg_sub,Int.sub_neg];show _=a-(-((m+1:Nat):Int))*_;rw [Int.neg_mul,Int.sub_neg,Int.add_comm]
 rw [<- e1,<- e2] at hK
 exact hK
theorem amg (st:Stat γ):CallOK γ (Wd γ) it 17 (.ref 98) aop:=by
 rintro A V s vs ts K aok wd rs ⟨a,b,rfl,hb,ha,hb',hK⟩
 by_cases h:b<0
 . exact aq4 st A V s vs _ K aok wd rs ⟨a,b,rfl,h,ha,hb',hK⟩
 . obtain ⟨m,rfl⟩:=auS (Int.not_lt.mp h)
   exact (amf st).le (by exact at2 rfl) A V s vs _ K aok wd rs ⟨a,m,rfl,Int.natCast_ne_zero_iff_pos.mp hb,aur ha (auE (by decide) (by decide)),hb',hK⟩
end
noncomputable def V4.deg (v:V4):Nat:=v.a+v.b+v.c+v.d
noncomputable def V4.add (u v:V4):V4:=⟨u.a+v.a,u.b+v.b,u.c+v.c,u.d+v.d⟩
noncomputable def V4.sub (u v:V4):V4:=⟨u.a-v.a,u.b-v.b,u.c-v.c,u.d-v.d⟩
noncomputable def V4.max (u v:V4):V4:=⟨Nat.max u.a v.a,Nat.max u.b v.b,Nat.max u.c v.c,Nat.max u.d v.d⟩
noncomputable def V4.Le (u v:V4):Prop:=u.a<=v.a/\u.b<=v.b/\u.c<=v.c/\u.d<=v.d
noncomputable def V4.leb (u v:V4):Bool:=decide (u.a<=v.a)&&decide (u.b<=v.b)&&decide (u.c<=v.c)&&decide (u.d<=v.d)
theorem V4.leb_iff{u v:V4}:u.leb v=true↔u.Le v:=by
 unfold V4.leb V4.Le
 simp only [Bool.and_eq_true,decide_eq_true_eq,and_assoc]
theorem V4.ext{u v:V4}(h1:u.a=v.a) (h2:u.b=v.b) (h3:u.c=v.c) (h4:u.d=v.d):u=v:=by
 cases u;simp only at h1 h2 h3 h4;subst h1 h2 h3 h4;rfl
theorem V4.sub_add{u v:V4}(h:u.Le v):(v.sub u).add u=v:=by
 exact V4.ext (auz h.1) (auz h.2.1) (auz h.2.2.1) (auz h.2.2.2)
theorem V4.deg_add{u v:V4}:(u.add v).deg=u.deg+v.deg:=by delta V4.deg V4.add;simp only;lia
theorem V4.deg_sub{u v:V4}(h:u.Le v):(v.sub u).deg=v.deg-u.deg:=by obtain ⟨h1,h2,h3,h4⟩:=h;show v.a-u.a+(v.b-u.b)+(v.c-u.c)+(v.d-u.d)=v.a+v.b+v.c+v.d-(u.a+u.b+u.c+u.d);rw [agB h1 h2,agB (Nat.add_le_add h1 h2) h3,agB (Nat.add_le_add (Nat.add_le_add h1 h2) h3) h4]
theorem V4.Le.deg{u v:V4}(h:u.Le v):u.deg<=v.deg:=by obtain ⟨h1,h2,h3,h4⟩:=h;unfold V4.deg;exact auG (auG (auG h1 h2) h3) h4
structure Good (w:V4):Prop where
 a:1<w.a/\w.a<2^64
 b:1<w.b/\w.b<2^64
 c:1<w.c/\w.c<2^64
 d:1<w.d/\w.d<2^64
 ab:Nat.Coprime w.a w.b
 ac:Nat.Coprime w.a w.c
 ad:Nat.Coprime w.a w.d
 bc:Nat.Coprime w.b w.c
 bd:Nat.Coprime w.b w.d
 cd:Nat.Coprime w.c w.d
theorem acX{w u v:V4}:w.bag (u.add v)=w.bag u*w.bag v:=by
 delta V4.bag V4.add
 simp only [Nat.pow_add]
 have:∀ a b c d e f g h:Nat,a*b*(c*d)*(e*f)*(g*h)=a*c*e*g*(b*d*f*h):=by
  intro a b c d e f g h
  rw [Nat.mul_mul_mul_comm a b c d,Nat.mul_mul_mul_comm (a*c) (b*d) e f,Nat.mul_mul_mul_comm (a*c*e) (b*d*f) g h]
 exact this _ _ _ _ _ _ _ _
theorem abB{p q:Nat}(h:Nat.Coprime p q) (m n:Nat):Nat.Coprime (p^m) (q^n):=Nat.Coprime.pow m n h
theorem adB{w u v:V4}(g:Good w):w.bag u ∣ w.bag v↔u.Le v:=by
 constructor
 . intro h
   have one:∀ {p m n r:Nat},1<p->Nat.Coprime (p^m) r->p^m ∣ p^n*r->m<=n:=λhp hc hd=>(Nat.pow_dvd_pow_iff_le_right hp).mp (hc.dvd_of_dvd_mul_right hd)
   unfold V4.bag at h
   refine ⟨one g.a.1 ((λm=>((abB g.ab m v.b).mul_right (abB g.ac m v.c)).mul_right (abB g.ad m v.d)) _) ?_,one g.b.1 ((λm=>((abB g.ab.symm m v.a).mul_right (abB g.bc m v.c)).mul_right (abB g.bd m v.d)) _) ?_,one g.c.1 ((λm=>((abB g.ac.symm m v.a).mul_right (abB g.bc.symm m v.b)).mul_right (abB g.cd m v.d)) _) ?_,one g.d.1 ((λm=>((abB g.ad.symm m v.a).mul_right (abB g.bd.symm m v.b)).mul_right (abB g.cd.symm m v.c)) _) ?_⟩
   . rw [<- Nat.mul_assoc,<- Nat.mul_assoc]
     exact auW (auW (auW (auZ _ _) (auZ _ _)) (auZ _ _)) h
   . have e:w.b^v.b*(w.a^v.a*w.c^v.c*w.d^v.d)=w.a^v.a*w.b^v.b*w.c^v.c*w.d^v.d:=by rw [<- Nat.mul_assoc,<- Nat.mul_assoc,Nat.mul_comm (w.b^v.b)]
     rw [e]
     exact auW (auW (auW (Nat.dvd_mul_left _ _) (auZ _ _)) (auZ _ _)) h
   . have e:w.c^v.c*(w.a^v.a*w.b^v.b*w.d^v.d)=w.a^v.a*w.b^v.b*w.c^v.c*w.d^v.d:=by rw [<- Nat.mul_assoc,Nat.mul_comm (w.c^v.c)]
     rw [e]
     exact auW (auW (Nat.dvd_mul_left _ _) (auZ _ _)) h
   . rw [Nat.mul_comm]
     exact auW (Nat.dvd_mul_left _ _) h
 . intro h
   rw [<- V4.sub_add h,acX]
   exact Nat.dvd_mul_left _ _
theorem afC{w u v:V4}(g:Good w) (h:w.bag u=w.bag v):u=v:=by
 refine ((adB g (u:=u) (v:=v)).mp (by rw [h];exact Nat.dvd_refl _)).elim λa1 hX1=>hX1.elim λa2 hX2=>hX2.elim λa3 a4=>?_
 refine ((adB g (u:=v) (v:=u)).mp (by rw [h];exact Nat.dvd_refl _)).elim λb1 hX1=>hX1.elim λb2 hX2=>hX2.elim λb3 b4=>?_
 exact V4.ext (auV a1 b1) (auV a2 b2) (auV a3 b3) (auV a4 b4)
theorem agW{w u v:V4}(g:Good w) (h:u.Le v):w.bag v / w.bag u=w.bag (v.sub u):=by
 have p:0<w.bag u:=by
  unfold V4.bag
  have:=g.a.1;have:=g.b.1;have:=g.c.1;have:=g.d.1
  exact Nat.mul_pos (Nat.mul_pos (Nat.mul_pos (Nat.pow_pos (by lia)) (Nat.pow_pos (by lia))) (Nat.pow_pos (by lia))) (Nat.pow_pos (auY this))
 have e:=acX (w:=w) (u:=v.sub u) (v:=u)
 rw [V4.sub_add h] at e
 rw [e,Nat.mul_div_cancel _ p]
theorem adC{w:V4}(g:Good w) (v:V4):0<w.bag v:=by
 unfold V4.bag
 have:=g.a.1;have:=g.b.1;have:=g.c.1;have:=g.d.1
 exact Nat.mul_pos (Nat.mul_pos (Nat.mul_pos (Nat.pow_pos (by lia)) (Nat.pow_pos (by lia))) (Nat.pow_pos (by lia))) (Nat.pow_pos (auY this))
theorem abj{w:V4}(g:Good w) {v:V4}(h:v.deg<=4):w.bag v<2^257:=by
 have e:∀ {x:Nat}(n:Nat),x<2^64->x^n<=(2^64)^n:=λn hx=>Nat.pow_le_pow_left (aug hx) n
 have:w.bag v<=(2^64)^v.deg:=by
  unfold V4.bag V4.deg
  rw [Nat.pow_add,Nat.pow_add,Nat.pow_add]
  exact Nat.mul_le_mul (Nat.mul_le_mul (Nat.mul_le_mul (e _ g.a.2) (e _ g.b.2)) (e _ g.c.2)) (e _ g.d.2)
 exact auc (at0 this (auw ((auh _)) h)) (by exact at2 rfl)
noncomputable abbrev Rl:=V4×V4
noncomputable def aat (w v:V4):T:=.int ((w.bag v:Nat):Int)
noncomputable def aau (w:V4) (p:Rl):T:=.tup [aat w p.1,aat w p.2]
noncomputable def V4.step (v:V4) (p:Rl):V4:=(v.sub p.1).add p.2
noncomputable def aeN (rs:List Rl) (v:V4):List Rl:=rs.filter λp=>p.1.leb v
noncomputable def aax (rs:List Rl):Nat->Nat->V4->List Rl->V4×List Rl
 | 0,_,v,used=>(v,used)
 | k+1,t,v,used=>match (aeN rs v)[t%(aeN rs v).length]? with
  | some p=>aax rs k (t+1) (v.step p) (used++[p])
  | none=>(v,used)
set_option backward.match.sparseCases false
noncomputable def aoq:T->Prop
 | .int _=>True
 | .bool _=>True
 | .tup l=>∀ t∈l,∃ i,t=.int i
 | _=>False
theorem agX:∀ {l:List T},(∀ t∈l,∃ i,t=.int i)->PyData.canLayAll0 (T.pyL l)=true/\PyData.depthAll (T.pyL l)<=1
 | [],_=>⟨rfl,(aup _)⟩
 | t ::l,h=>by
  obtain ⟨i,rfl⟩:=h t (.head _)
  have g:=agX (l:=l) λt ht=>h t (.tail _ ht)
  exact ⟨g.1,Nat.max_le.mpr ⟨aup _,g.2⟩⟩
theorem agY:∀ {l:List T},(∀ t∈l,aoq t)->PyData.canLayAll0 (T.pyL l)=true/\PyData.depthAll (T.pyL l)<=5
 | [],_=>⟨rfl,(aup _)⟩
 | t ::l,h=>by
  have g:=agY (l:=l) λt ht=>h t (.tail _ ht)
  have ht:=h t (.head _)
  clear h
  cases t <;> first | exact ht.elim | skip
  . exact ⟨g.1,Nat.max_le.mpr ⟨aup _,g.2⟩⟩
  . exact ⟨g.1,Nat.max_le.mpr ⟨aup _,g.2⟩⟩
  . exact ⟨Bool.and_eq_true_iff.mpr ⟨(agX ht).1,g.1⟩,Nat.max_le.mpr ⟨at0 (auI (agX ht).2) (by decide),g.2⟩⟩
theorem agp{l:List T}(h:∀ t∈l,aoq t):SeqAt.shaped (T.lst l).py=true:=
 Bool.and_eq_true_iff.mpr ⟨(agY h).1,decide_eq_true (aaK (auI (agY h).2) rfl)⟩
theorem amh{l:List T}:PyData.eqv (T.lst l).py (T.lst []).py=l.isEmpty:=by
 cases l <;> rfl
theorem akw{w:V4}(rs:List Rl):∀ t∈rs.map (aau w),aoq t:=by
 intro t ht
 obtain ⟨p,_,rfl⟩:=List.mem_map.mp ht
 intro t ht
 simp only [List.mem_cons,List.not_mem_nil,or_false] at ht
 rcases ht with rfl | rfl <;> exact ⟨_,rfl⟩
noncomputable def afD (t:Nat):Nat->List T
 | 0=>[]
 | k+1=>.int (t:Int) ::afD (t+1) k
theorem afE:∀ (k t:Nat),(List.range k).map (λ(i:Nat)=>T.int ((t:Int)+(i:Int)))=afD t k
 | 0,_=>rfl
 | k+1,t=>by
  rw [List.range_succ_eq_map,List.map_cons,List.map_map]
  congr 1
  refine (afE k (t+1))▸?_
  refine List.map_congr_left λi _=>?_
  simp;lia
theorem aeE{t k:Nat}:ab8 (t:Int) ((t:Int)+(k:Int))=afD t k:=by
 unfold ab8
 refine (show ((t:Int)+(k:Int)-(t:Int)).toNat=k by rw [Int.add_comm,Int.add_sub_cancel,Int.toNat_natCast]).symm▸?_
 exact afE k t
noncomputable def sgn (t:Nat):Int:=1-(t:Int).fmod 2*2
theorem agq (t:Int):1-t.fmod 2*2=1\/1-t.fmod 2*2=-1:=by
 rcases Int.fmod_two_eq t with h | h <;> rw [h] <;> simp
theorem ami{m:Nat}(h:((m:Int)==0)=true):m=0:=by
 have:=eq_of_beq h;lia
noncomputable def Sg1 (i:Int):Prop:=i=1\/i=-1
theorem aq5{B L:Nat}{o1 o2:Int}(h1:Sg1 o1) (h2:Sg1 o2) (hL:0<L) (hd:L ∣ B):((B:Int)*o1).fdiv ((L:Int)*o2)=((B / L:Nat):Int)*(o1*o2)/\((B:Int)*o1).fmod ((L:Int)*o2)=0:=by
 obtain ⟨q,rfl⟩:=hd
 have e:((L*q:Nat):Int)*o1=((L:Int)*o2)*((q:Int)*(o1*o2)):=by
  rcases h1 with rfl | rfl <;> rcases h2 with rfl | rfl <;> simp [Int.mul_neg,Int.neg_mul]
 rw [e,Int.mul_fdiv_cancel_left _ (by rcases h2 with rfl | rfl <;> lia),Nat.mul_div_cancel_left _ hL]
 exact ⟨rfl,Int.mul_fmod_right _ _⟩
theorem apH{n:Nat}{o:Int}(h:Sg1 o) (hn:n<2^600):sz ((n:Int)*o):=by
 have:((n:Int)*o).natAbs=n:=by rcases h with rfl | rfl <;> simp
 unfold sz;refine this.symm▸?_;exact at5 hn (auw ((auh _)) (by exact at2 rfl))
theorem akx{o:Int}(h:Sg1 o):sz o:=by rcases h with rfl | rfl <;> exact abx (by exact at2 rfl)
theorem Sg1.mul{a b:Int}(h:Sg1 a) (h':Sg1 b):Sg1 (a*b):=by rcases h with rfl | rfl <;> rcases h' with rfl | rfl <;> simp [Sg1]
theorem aor{q:Int}{a b:Int}(h:Sg1 a):q*(a*b)*a=q*b:=by rcases h with rfl | rfl <;> simp [Int.mul_neg,Int.neg_mul]
theorem atb{q:Int}{a:Int}(h:Sg1 a):q*a*a=q:=by rcases h with rfl | rfl <;> simp
theorem afF{n:Nat}{o:Int}(h:Sg1 o):((n:Int)*o).natAbs=n:=by rcases h with rfl | rfl <;> simp
section
structure DownIn (w:V4) (rs:List Rl):Prop where
 good:Good w
 len:rs.length<=100
 deg:∀ p∈rs,p.1.deg=p.2.deg/\1<=p.1.deg/\p.1.deg<=4
noncomputable abbrev SgD:Sg:=aeL [("int_divmod",aop),("len",ahG)] []
noncomputable def forT (s:Stmt):Expr:=stT s
theorem aap{it:Bool}{ev:EvF}{n m:Nat}{sc:aad}{ow:Str->Bool}{hk:HkS}{fz:List Str}{st:Stmt}{ss:List Stmt}{ρ ω af au:aab}{K:Out->Prop}(h:∀ K1:Out->Prop,K1 (.nx af au)->stF it ev n sc ow hk (blF it ev n sc ow hk m) fz st ρ ω K1) (h2:blF it ev n sc ow hk m fz ss af au K) :
  blF it ev n sc ow hk (m+1) fz (st ::ss) ρ ω K:=h _ h2
noncomputable abbrev dnS (i:Nat):Stmt:=(agV ((abE (aaa 22)).getD 1 (.Pass ⟨0,0,0,0⟩))).getD i (.Pass ⟨0,0,0,0⟩)
section
variable{w v:V4}{rs:List Rl}{R:List T}{pk u:T}{t:Nat}{p:Rl}{a b c d:T}
noncomputable def dr0 (w v:V4) (R:List T) (pk:T) (t:Nat):aab:=[("turn",.int t),("pick",pk),("rules",.lst R),("bag",aat w v)]
noncomputable def dr1 (w v:V4) (R:List T) (pk:T) (t:Nat) (rs:List Rl):aab:=("fit",.lst (rs.map (aau w))) ::dr0 w v R pk t
noncomputable def dr2 (w v:V4) (R:List T) (pk:T) (t:Nat) (rs:List Rl) (p:Rl):aab:=("right",aat w p.2) ::("left",aat w p.1) ::dr1 w v R pk t rs
noncomputable abbrev aq6 (bl:BlF) (i:Nat) (ρ:aab) (u:T) (K:Out->Prop):Prop:=stF true (aam SgD true 21) 20 (aaD (aaa 22)).names (λx=>x=="used") afY bl [] (dnS i) ρ [("used",u)] K
theorem atc (di:DownIn w rs) (h:K (.nx (dr1 w v (rs.map (aau w)) pk t (aeN rs v)) [("used",u)])):aq6 bl 0 (dr0 w v (rs.map (aau w)) pk t) u K:=by
 obtain ⟨R,hR⟩:∃ R,R=rs.map (aau w):=⟨_,rfl⟩
 rw [<- hR] at h ⊢
 refine szi (by rw [hR,List.length_map];exact aaK di.len rfl) ?_
 obtain ⟨rs',hrs⟩:∃ rs',rs'=rs:=⟨_,rfl⟩
 have hR':R=rs'.map (aau w):=hrs▸hR
 have hl':rs'.length+([]:List Rl).length<=100:=hrs▸di.len
 have hfin:[]++aeN rs' v=aeN rs v:=hrs▸rfl
 have g:=di.good
 clear hrs di hR
 conv=>arg 3;rw [hR']
 change aij _ _ _ _ (List.map (aau w) []) _
 generalize ([]:List Rl)=acc at hl' hfin ⊢
 clear hR'
 induction rs' generalizing acc with
 | nil=>
  rw [<- hfin,show acc++aeN [] v=acc from List.append_nil acc] at h
  exact h
 | cons p rs' ih'=>
  rw [List.length_cons,Nat.add_right_comm] at hl'
  refine gdi (bne_iff_ne.mpr λz=>auJ (adC g p.1) (Int.natCast_inj.mp z)) ?_
  rw [abg]
  refine bri (λhb=>?_) (λhb=>?_)
  . have hle:p.1.leb v=true:=V4.leb_iff.mpr ((adB g).mp (Nat.dvd_of_mod_eq_zero (ami hb)))
    refine szi (by rw [List.length_map];exact at0 (auI (auQ _ _)) (aaK hl' rfl)) ?_
    have:=ih' (acc++[p]) (by rw [List.length_append];exact hl') (by
     rw [<- hfin,List.append_assoc]
     refine congrArg (acc++·) ?_
     unfold aeN;rw [List.filter_cons,if_pos hle];rfl)
    rw [List.map_append] at this
    exact this
  . have hle:¬ p.1.leb v=true:=λz=>by
     rw [Nat.mod_eq_zero_of_dvd ((adB g).mpr (V4.leb_iff.mp z))] at hb
     exact tf hb
    exact ih' acc (aun hl') (by
     rw [<- hfin]
     refine congrArg (acc++·) ?_
     unfold aeN;rw [List.filter_cons,if_neg hle])
theorem dn_if (h0:rs=[]->K (.br (dr1 w v R pk t rs) [("used",u)])) (h1:rs≠[]->K (.nx (dr1 w v R pk t rs) [("used",u)])):aq6 (blF true (aam SgD true 21) 20 (aaD (aaa 22)).names (λx=>x=="used") afY 18) 1 (dr1 w v R pk t rs) u K:=by
 refine gdi (by rw [agp (akw rs)];rfl) ?_
 rw [amh]
 refine bri (λhe=>?_) (λhe=>?_)
 . exact h0 (by simpa using he)
 . exact h1 λz=>by rw [z] at he;exact tf he
theorem aq7 (hp:rs[t%rs.length]?=some p) (hl:rs.length<=100) (h:K (.nx (dr2 w v R pk t rs p) [("used",u)])):aq6 bl 2 (dr1 w v R pk t rs) u K:=by
 have hlt:=(List.getElem?_eq_some_iff.mp hp).1
 refine szi (by rw [List.length_map];exact aaK hl rfl) ?_
 rw [List.length_map]
 refine gdi (bne_iff_ne.mpr λz=>auJ (auY hlt) (Int.natCast_inj.mp z)) ?_
 rw [abg]
 exact gdi (aaV (aue _) (ace (aug (at5 hlt hl)) (by decide))) (abK (t:=aau w p) (by rw [adT (Int.natCast_nonneg _) (by rw [List.length_map];exact Int.ofNat_lt.mpr hlt),Int.toNat_natCast,List.getElem?_map,hp];rfl) h)
noncomputable def dr3 (w v:V4) (R:List T) (pk:T) (t:Nat) (rs:List Rl) (p:Rl) (o1 o2:Int):aab:=("two",.int o2) ::("one",.int o1) ::dr2 w v R pk t rs p
theorem atd (h:∀ o1 o2,Sg1 o1->Sg1 o2->K (.nx (dr3 w v R pk t rs p o1 o2) [("used",u)])):aq6 bl 3 (dr2 w v R pk t rs p) u K:=by
 refine aa2 ack ?_
 (try conv=>whnf)
 refine aa2 ack ?_
 (try conv=>whnf)
 exact h _ _ (agq _) (agq _)
noncomputable def dr4 (w v:V4) (R:List T) (pk:T) (t:Nat) (rs:List Rl) (p:Rl) (o1 o2:Int):aab:=("rest",.int 0) ::("quotient",.int (((w.bag (v.sub p.1):Nat):Int)*(o1*o2))) ::dr3 w v R pk t rs p o1 o2
theorem p257:2^257<2^598:=auE (by decide) (by decide)
theorem amj:2^257<2^600:=auE (by decide) (by decide)
theorem ate{o1 o2:Int}(g:Good w) (hv:v.deg<=4) (hp:p.1.deg<=4) (hle:p.1.Le v) (s1:Sg1 o1) (s2:Sg1 o2) (h:K (.nx (dr4 w v R pk t rs p o1 o2) [("used",u)])):aq6 bl 4 (dr3 w v R pk t rs p o1 o2) u K:=by
 have bv:=abj g hv
 have bl:=abj g hp
 obtain ⟨d1,d2⟩:=aq5 s1 s2 (adC g p.1) ((adB g).mpr hle)
 refine aa2 (aaB bv (by decide)) (aa2 (akx s1) ?_)
 refine aa2 (aaB bl (by decide)) (aa2 (akx s2) ?_)
 refine ⟨_,_,rfl,?_,?_,?_,?_⟩
 . exact λz=>auJ (adC g p.1) ((afF s2).symm.trans (congrArg Int.natAbs z))
 . rw [afF s1];exact aur bv p257
 . rw [afF s2];exact aur bl amj
 rw [d1,d2,agW g hle]
 exact h
noncomputable def dr5 (w v:V4) (R:List T) (pk:T) (t:Nat) (rs:List Rl) (p:Rl) (o1 o2:Int):aab:=("bag",aat w (v.step p)) ::dr4 w v R pk t rs p o1 o2
theorem atf{o1 o2:Int}(g:Good w) (hq:(v.sub p.1).deg<=4) (hr:p.2.deg<=4) (s1:Sg1 o1) (s2:Sg1 o2) (h:K (.nx (dr5 w v R pk t rs p o1 o2) [("used",u)])):aq6 bl 5 (dr4 w v R pk t rs p o1 o2) u K:=by
 have bq:=abj g hq
 refine aa2 (apH (s1.mul s2) (aur bq amj)) (aa2 (akx s1) ?_)
 rw [aor s1]
 refine aa2 (apH s2 (aur bq amj)) (aa2 (akx s2) ?_)
 rw [atb s2]
 refine aa2 (aaB bq (by decide)) (aa2 (aaB (abj g hr) (by decide)) ?_)
 (try conv=>whnf)
 rw [show ((w.bag (v.sub p.1):Nat):Int)*((w.bag p.2:Nat):Int)+0=((w.bag (v.step p):Nat):Int) by rw [Int.add_zero,<- Int.natCast_mul,<- acX];rfl]
 exact h
theorem aq8{o1 o2:Int}{us:List Rl}(hl:us.length+1<=1000) (h:K (.nx (dr5 w v R pk t rs p o1 o2) [("used",.lst ((us++[p]).map (aau w)))])):aq6 bl 6 (dr5 w v R pk t rs p o1 o2) (.lst (us.map (aau w))) K:=by
 refine szi (by rw [List.length_map];exact aaK hl rfl) ?_
 rw [List.map_append] at h
 exact h
end
theorem amk{w:V4}{rs:List Rl}(di:DownIn w rs) {R:List T}(hR:R=rs.map (aau w)) {pk:T}:∀ (k t:Nat) (v:V4) (used:List Rl) {K:Out->Prop},v.deg<=4->used.length+k<=1000->t+k<=100000000->
  K (.nx [("pick",pk),("rules",.lst R),("bag",aat w (aax rs k t v used).1)] [("used",.lst ((aax rs k t v used).2.map (aau w)))])->
  afX (acF (aaD (aaa 22)).names [] (forT ((abE (aaa 22)).getD 1 (.Pass ⟨0,0,0,0⟩)))) (λρ ω K=>blF true (aam SgD true 21) 20 (aaD (aaa 22)).names (λx=>x=="used") afY 20 [] (agV ((abE (aaa 22)).getD 1 (.Pass ⟨0,0,0,0⟩))) ρ ω K)
   ["pick","rules","bag"] ["used"] (afD t k) [("pick",pk),("rules",.lst R),("bag",aat w v)] [("used",.lst (used.map (aau w)))] K:=by
 intro k
 induction k with
 | zero=>intro t v used K h1 h2 h3 hK;exact hK
 | succ k ih=>
  intro t v used K h1 h2 h3 hK
  subst hR
  refine aap (ss:=[dnS 1,dnS 2,dnS 3,dnS 4,dnS 5,dnS 6]) (ρ:=dr0 w v _ pk t) (λK1 h=>atc di h) ?_
  refine dn_if (λhe=>?_) λhne=>?_
  . unfold aax at hK
    rw [he] at hK
    exact hK
  . have hlt:t%(aeN rs v).length<(aeN rs v).length:=auK _ (List.length_pos_iff.mpr hne)
    obtain ⟨p,hp⟩:∃ p,(aeN rs v)[t%(aeN rs v).length]?=some p:=⟨_,aul hlt⟩
    have hpm:=List.mem_filter.mp (aux hp)
    have hle:p.1.Le v:=V4.leb_iff.mp hpm.2
    have dg:=di.deg p hpm.1
    have hq:(v.sub p.1).deg<=4:=at0 (V4.deg_sub hle▸Nat.sub_le _ _) h1
    have hs:(v.step p).deg<=4:=by unfold V4.step;rw [V4.deg_add,V4.deg_sub hle,<- dg.1,Nat.sub_add_cancel (V4.Le.deg hle)];exact h1
    refine aap (λK1 h=>aq7 hp (at0 (au5 _ _) di.len) h) ?_
    refine atd λo1 o2 s1 s2=>?_
    refine aap (λK1 h=>ate di.good h1 dg.2.2 hle s1 s2 h) ?_
    refine aap (λK1 h=>atf di.good hq (dg.1▸dg.2.2) s1 s2 h) ?_
    refine aq8 (at0 (at8 (auI (aup k)) _) h2) ?_
    refine ih (t+1) (v.step p) (used++[p]) hs (by rw [List.length_append,List.length_singleton,Nat.add_assoc,Nat.add_comm 1];exact h2) (by rw [Nat.add_assoc,Nat.add_comm 1];exact h3) ?_
    have e:aax rs (k+1) t v used=aax rs k (t+1) (v.step p) (used++[p]):=by
     show (match (aeN rs v)[t%(aeN rs v).length]? with | some p=>aax rs k (t+1) (v.step p) (used++[p]) | none=>(v,used))=_
     rw [hp]
    rw [<- e]
    exact hK
end
set_option backward.match.sparseCases true
section
inductive EvOR (V:aag) (s:Shared) (i:Int) (l:List T) (v:Value) (s':Shared):Prop
 | mk (x:Ext s s') (p a:Addr) (tk:Tok) (e:v=.ref p) (ht:s'.heap.IsTuple p #[.int i tk,.ref a]) (hp:s.heap.get? p=none) (ha:s.heap.get? a=none) (ho:OwnT (λb=>Nv V s b/\b≠a) s'.heap a (.lst l)):EvOR V s i l v s'
noncomputable def EvO (γ:Gm) (A:Around) (V:aag) (s:Shared) (t:Sem Value) (i:Int) (l:List T):Prop:=
 wpAny (model pg γ.w) A t (EvOR V s i l) No s
theorem ajC (st:Stat γ) {W v:V4}{rs:List Rl}{pick:Nat}(di:DownIn W rs) (hv:v.deg<=4) (hp:pick<=10000000) {vs:List Value}(aok:AOK true 19 A s.heap) (wd:Wd γ s.heap)
  (rl:RepL V s.heap vs [aat W v,.lst (rs.map (aau W)),.int pick]):EvO γ A V s (call (.ref 143) vs) ((W.bag (aax rs 40 pick v []).1:Nat):Int) ((aax rs 40 pick v []).2.map (aau W)):=by
 generalize hres:aax rs 40 pick v []=res
 have sg:=aas (γ:=γ) (it:=true) (r:=18) st (FsOK.fn (x:="int_divmod") (i:=11) st (by decide) ((amg st).le (by exact at2 rfl)) (FsOK.blt (x:="len") (n:="len") (F:=ahG) st (by decide) agi FsOK.nil)) MsOK.nil
 refine auX (agR ((st.fn ("_law_down",143,22) (by decide)).2) (by rfl) wd aok rl rfl λenv a8 X V' A' k c=>?_)
 refine (show abE (aaa 22)=(abE (aaa 22)).take 2++(abE (aaa 22)).drop 2 from (List.take_append_drop 2 _).symm)▸?_
 refine acb (n:=20) (n':=20) (ow:=λx=>x=="used") sg k HkOK.none 22 _ ?_ c Stp.refl
 refine gdi (by rw [Bool.and_eq_true];exact ⟨aje (by simp) (by lia),aje (by lia) (by lia)⟩) (szi (by lia) ?_)
 rw [show ((pick:Nat):Int)+40=((pick:Nat):Int)+((40:Nat):Int) from rfl,aeE]
 change afX _ _ _ _ (afD pick 40) _ _ _
 refine amk di rfl 40 pick v [] hv (by exact at2 rfl) (by lia) ?_
 refine hres.symm▸?_
 intro aa aw aE ah av
 refine aui (wpAny_Return_some ?_)
 refine atY (at7 (atY (adz rfl rfl (aaj ((aal sg 21) _ _ _ (λt=>t=aat W res.1) ?_ A' _ aa env ah.shown) λu ai t ht an rv=>?_))))
 . rfl
 rw [ht] at rv
 have aj:=ah.run k an
 clear hp
 clear hv
 obtain ⟨g1,g2,g3,g4,g5,g6⟩:=aj.own "used" _ rfl
 refine atY (at7 (aaA aj.slots.kind g1 (rfl) ?_))
 refine agE rv λtk=>?_
 have ay:Ext ai { ai with heap:=ai.heap.push { cls:=.type "tuple",data:=.seq #[Value.int ((W.bag res.1:Nat):Int) tk,.ref (aE "used")] } }:=Ext.push (tk:=ai.toks)
 refine wpAny_newTuple ⟨aj.ext.trans ay,ai.heap.objs.size,aE "used",tk,rfl,⟨_,at4 _ rfl,rfl,_,rfl⟩,aj.ext.there _ id (at6 (auf _)),g5,?_⟩ (by size_fits)
 exact g6.shift (s:=ai) (λb hb _=>⟨aj.vw b hb,λz=>g2 (z▸hb)⟩) (λb o n _ e=>ay.keepC b o n id e) λo n e=>ay.keepC _ o n id e
inductive Fidown (ts:List T) (K:T->Prop):Prop
 | mk (W v:V4) (rs:List Rl) (pick:Nat) (e0:ts=[aat W v,.lst (rs.map (aau W)),.int pick]) (e1:DownIn W rs) (e2:v.deg<=4) (e3:pick<=10000000) (e4:K (.tup [aat W (aax rs 40 pick v []).1,.lst ((aax rs 40 pick v []).2.map (aau W))])):Fidown ts K
noncomputable def apI:Fun:=Fidown
theorem aq9 (st:Stat γ):CallOK γ (Wd γ) true 19 (.ref 143) apI:=by
 rintro A V s vs ts K aok wd rs ⟨W,v,rl,pick,rfl,di,hv,hp,hK⟩
 refine at1 (ajC st di hv hp aok wd rs) (λu s' z=>EvOR.rec (λx p a tk hu ht hp ha ho=>⟨_,hK,x,?_⟩) z) aah
 rw [hu]
 exact .tup (.inr hp) ht (.cons (.int _ tk) (.cons (ho.rep (λb h=>h.1) (.inr ha)) .nil))
end
set_option backward.match.sparseCases false
noncomputable def ahL:List V4:=(List.range 5).flatMap λa=>(List.range (5-a)).flatMap λb=>(List.range (5-a-b)).flatMap λc=>(List.range (5-a-b-c)).map λd=>⟨a,b,c,d⟩
theorem aeX{v:V4}:v∈ahL↔v.deg<=4:=by
 unfold ahL V4.deg
 simp only [List.mem_flatMap,List.mem_map,List.mem_range]
 constructor
 . rintro ⟨a,ha,b,hb,c,hc,d,hd,rfl⟩
   exact lt5.mpr ⟨ha,hb,hc,hd⟩
 . intro h
   exact ⟨v.a,(lt5.mp h).1,v.b,(lt5.mp h).2.1,v.c,(lt5.mp h).2.2.1,v.d,(lt5.mp h).2.2.2,rfl⟩
theorem agr:ahL.Nodup:=by decide +kernel
noncomputable def ad0 (w:V4):List (Int×T):=ahL.map λv=>(((w.bag v:Nat):Int),v.t)
noncomputable def acY (w:V4):T:=.dct (ad0 w)
theorem ajD{w:V4}(g:Good w) {v:V4}:∀ {l:List V4},v∈l->abR (l.map λv=>(((w.bag v:Nat):Int),v.t)) ((w.bag v:Nat):Int)=some v.t
 | u ::l,h=>by
  unfold abR
  rw [List.map_cons,List.find?_cons]
  by_cases e:u=v
  . subst e;simp
  . have:((((w.bag u:Nat):Int)==((w.bag v:Nat):Int)))=false:=by
     rw [beq_eq_false_iff_ne,ne_eq]
     intro z
     exact e (afC g (Int.ofNat.inj z))
    rw [this]
    rcases List.mem_cons.mp h with z | h
    . exact absurd z.symm e
    . exact ajD g h
theorem aaq{w:V4}(g:Good w) {v:V4}(h:v.deg<=4):abR (ad0 w) ((w.bag v:Nat):Int)=some v.t:=ajD g (aeX.mpr h)
noncomputable def sum1 (ts:List T) (K:Int->Prop):Prop:=match ts with
 | [.lst l]=>opt (ahF l) λns=>K ns.sum
 | [.tup l]=>opt (ahF l) λns=>K ns.sum
 | _=>False
theorem sum1_{ts:List T}{K:Int->Prop}(h:sum1 ts K):(∃ ns:List Int,ts=[.lst (ns.map .int)]/\K ns.sum)\/∃ ns:List Int,ts=[.tup (ns.map .int)]/\K ns.sum:=by
 cases ts with
 | nil=>exact h.elim
 | cons t r=>
  cases t <;> first | exact h.elim | skip
  all_goals
   cases r <;> first | exact h.elim | skip
   obtain ⟨ns,e,hK⟩:=ak2 h
   clear h
   cases alX e
  . exact .inr ⟨ns,rfl,hK⟩
  . exact .inl ⟨ns,rfl,hK⟩
noncomputable abbrev aml:Fun:=λts K=>sum1 ts λn=>K (.int n)
section
variable{wd:Heap->Prop}
theorem amm:CallOK γ wd true r (.builtin "sum") aml:=by
 intro A V s vs ts K aok hw rs h
 rcases sum1_ h with ⟨ns,rfl,hK⟩ | ⟨ns,rfl,hK⟩
 . refine apy A V s vs _ K aok hw rs (abK (acU ns) hK)
 . obtain ⟨v,rfl,rv⟩:=ae7 rs
   refine ag λG kG=>?_
   obtain ⟨a,ws,rfl,va,hp,rs⟩:=aia rv
   obtain ⟨xs,rfl,h2⟩:=ajt rs
   refine kG ?_
   have hlt:a<s.heap.objs.size:=by obtain ⟨_,e,_⟩:=hp;exact aua e
   refine adA hK λQ q=>call_sum_walkG (wpAny_pyIter_tuple hp ?_)
   refine ⟨_,_,_,_,_,_,numAt xs.toArray,rfl,Walks.tuple (A:=A.in1) (aok.free rfl) _ a (aum hlt) (intItems xs.toArray),⟨⟨_,at4 _ rfl,rfl,rfl⟩,hp.push _⟩,λc hc=>?_,(λ_ _=>intItems_at),λh' tk t' hk=>?_⟩
   . rw [Heap.size_push]
     refine (List.mem_cons.mp hc).elim ?_ ?_
     . rintro rfl
       exact auT _
     . rintro hc
       refine (List.mem_singleton.mp hc)▸?_;exact auv hlt
   . have hk':∀ c o,s.heap.get? c=some o->h'.get? c=some o:=λc o e=>hk c o (by rw [List.mem_singleton];exact abY e) (atZ _ e)
     have e2:preSum (numAt xs.toArray) (intItems xs.toArray).size=ns.sum:=by
      rw [show (intItems xs.toArray).size=xs.toArray.size by simp [intItems],preSum_eq,List.take_of_length_le (by simp)]
      simp [h2]
     refine e2▸?_
     exact q h' tk t' hk'
end
noncomputable def acZ (g l:V4) (p:Rl):Option Rl:=
 if (p.1.max g).deg<min 5 (p.1.deg+g.deg) then some (((p.1.max g).sub p.1).add p.2,((p.1.max g).sub g).add l) else none
noncomputable def aa6 (rules:List Rl) (p:Rl):List Rl:=rules.filterMap (acZ p.1 p.2)
noncomputable def aaS (ks:List (Int×Int)) (one two:V4):Rl:=if 0<aeM ks one.lst two.lst then (one,two) else (two,one)
noncomputable def aaJ (rules:List Rl) (t:Nat) (v:V4):V4:=(aax rules 40 t v []).1
noncomputable def aa1 (ks:List (Int×Int)) (pick:Nat):Nat->Nat->List Rl->List Rl->List Rl
 | 0,_,rules,_=>rules
 | k+1,t,rules,pairs=>match pairs[t]? with
  | none=>rules
  | some p=>if aaJ rules (pick+t) p.1=aaJ rules (pick+t) p.2 then aa1 ks pick k (t+1) rules pairs
   else aa1 ks pick k (t+1) (rules++[aaS ks (aaJ rules (pick+t) p.1) (aaJ rules (pick+t) p.2)]) (pairs++aa6 rules (aaS ks (aaJ rules (pick+t) p.1) (aaJ rules (pick+t) p.2)))
noncomputable def abC (p:Rl):Prop:=p.1.deg=p.2.deg/\1<=p.1.deg/\p.1.deg<=4
noncomputable def okC (ks:List (Int×Int)) (pick:Nat):Nat->Nat->List Rl->List Rl->Prop
 | 0,_,rules,pairs=>True
 | k+1,t,rules,pairs=>rules.length<=99/\pairs.length<=9000/\(∀ p∈rules,abC p)/\(∀ p∈pairs,abC p)/\(match pairs[t]? with
  | none=>True
  | some p=>if aaJ rules (pick+t) p.1=aaJ rules (pick+t) p.2 then okC ks pick k (t+1) rules pairs
   else okC ks pick k (t+1) (rules++[aaS ks (aaJ rules (pick+t) p.1) (aaJ rules (pick+t) p.2)]) (pairs++aa6 rules (aaS ks (aaJ rules (pick+t) p.1) (aaJ rules (pick+t) p.2))))
theorem aeY{v:V4}{p:Rl}(h:p.1.Le v) (e:p.1.deg=p.2.deg):(v.step p).deg=v.deg:=by
 unfold V4.step
 have:=h.deg
 rw [V4.deg_add,V4.deg_sub h];exact (congrArg (_+·) e.symm).trans (auz this)
theorem acu{rs:List Rl}(h:∀ p∈rs,abC p):∀ {k t:Nat}{v:V4}{used:List Rl},(aax rs k t v used).1.deg=v.deg
 | 0,_,_,_=>rfl
 | k+1,t,v,used=>by
  dsimp only [aax]
  split
  . rename_i p hp
    rw [acu h,aeY (V4.leb_iff.mp (List.mem_filter.mp (List.mem_of_getElem? hp)).2) (h p (List.mem_filter.mp (List.mem_of_getElem? hp)).1).1]
  . rfl
theorem afG{rs:List Rl}(h:∀ p∈rs,abC p) {t:Nat}{v:V4}:(aaJ rs t v).deg=v.deg:=acu h
set_option backward.match.sparseCases true
noncomputable abbrev SgC:Sg:=aeL [("_law_down",apI),("int_divmod",aop),("_law_bag",aqR),("len",ahG),("max",asV),("sum",aml),("min",asU)] [("compare",aoe)]
noncomputable def aep (w:V4) (p:Rl):T:=.lst [aat w p.1,aat w p.2]
noncomputable abbrev comF:Stmt:=(abE (aaa 23)).getD 1 (.Pass ⟨0,0,0,0⟩)
noncomputable def ad1 (ks:List (Int×Int)):Prop:=(∀ p∈ks,0<=p.1/\p.1<4)/\ks.length<=100
theorem acv{l:List T}{k:Nat}{t:T}(h:l[k]?=some t):adh l (k:Int)=some t:=by
 have hk:k<l.length:=(List.getElem?_eq_some_iff.mp h).1
 rw [adT (by simp) (Int.ofNat_lt.mpr hk),Int.toNat_natCast,h]
noncomputable def ifB (s:Stmt):List Stmt:=stB s
noncomputable abbrev innF:Stmt:=(ifB ((agV comF).getD 2 (.Pass ⟨0,0,0,0⟩))).getD 1 (.Pass ⟨0,0,0,0⟩)
theorem ajE (a b:Nat):(if (a:Int)<(b:Int) then (b:Int) else (a:Int))=((Nat.max a b:Nat):Int):=by
 split
 . rw [show Nat.max a b=b from Nat.max_eq_right (by lia)]
 . rw [show Nat.max a b=a from Nat.max_eq_left (by lia)]
theorem aiO (v:V4):v.lst.sum=((v.deg:Nat):Int):=by
 unfold V4.lst V4.deg
 simp;lia
theorem V4.le_deg{v:V4}{n:Nat}(h:v.deg<=n):v.le n:=⟨(ajY h).1,(ajY h).2.1,(ajY h).2.2.1,(ajY h).2.2.2⟩
noncomputable abbrev ciS (i:Nat):Stmt:=(agV innF).getD i (.Pass ⟨0,0,0,0⟩)
noncomputable abbrev ciB (i:Nat):Stmt:=(ifB (ciS 1)).getD i (.Pass ⟨0,0,0,0⟩)
noncomputable abbrev CiSt (bl:BlF) (st:Stmt) (ρ:aab) (u:T) (K:Out->Prop):Prop:=stF true (aam SgC true 21) 20 (aaD (aaa 23)).names (λx=>x=="rules" || x=="pairs") afY bl ["rules"] st ρ [("pairs",u)] K
noncomputable def aos (w:V4) (q:Rl) (two one tn pk od sd:T):aab:=[("less",aat w q.2),("great",aat w q.1),("two",two),("one",one),("turn",tn),("pick",pk),("worths",.lst (w.lst.map .int)),("order",od),("rows",acY w),("sides",sd)]
section
variable{w:V4}{p q:Rl}{two one tn pk od sd u:T}
noncomputable def cr0 (w:V4) (p q:Rl) (two one tn pk od sd:T):aab:=("right",aat w p.2) ::("left",aat w p.1) ::aos w q two one tn pk od sd
noncomputable def cr1 (w:V4) (p q:Rl) (two one tn pk od sd:T):aab:=("joint",.lst ((p.1.max q.1).lst.map .int)) ::cr0 w p q two one tn pk od sd
noncomputable def cr2 (w:V4) (p q:Rl) (two one tn pk od sd:T):aab:=("top",aat w (p.1.max q.1)) ::cr1 w p q two one tn pk od sd
theorem aot (g:Good w) (hp:p.1.deg<=4) (hq:q.1.deg<=4) (h:K (.nx (cr1 w p q two one tn pk od sd) [("pairs",u)])):CiSt bl (ciS 0) (cr0 w p q two one tn pk od sd) u K:=by
 refine abK (aaq g hp) (abK (aaq g hq) ?_)
 (try conv=>whnf)
 rw [ajE,ajE,ajE,ajE]
 exact h
theorem min5{m s:Nat}:((m:Int)<if (s:Int)<5 then (s:Int) else 5)↔m<min 5 s:=by
 by_cases h:s<5
 . rw [if_pos (show (s:Int)<5 from Int.ofNat_lt.mpr h),Nat.min_eq_right (Nat.le_of_lt h)];exact Int.ofNat_lt
 . rw [if_neg (show ¬ (s:Int)<5 from λz=>h (Int.ofNat_lt.mp z)),Nat.min_eq_left (Nat.le_of_not_lt h)];exact Int.ofNat_lt (n:=m) (m:=5)
theorem amn{u v:V4}:decide ((u.max v).lst.sum<if (u.lst++v.lst).sum<5 then (u.lst++v.lst).sum else 5)=decide ((u.max v).deg<min 5 (u.deg+v.deg)):=by
 rw [List.sum_append,aiO,aiO,aiO]
 exact decide_eq_decide.mpr min5
noncomputable def newR (p q:Rl):Rl:=(((p.1.max q.1).sub p.1).add p.2,((p.1.max q.1).sub q.1).add q.2)
theorem atg (u v:V4):u.Le (u.max v):=⟨auu _ _,auu _ _,auu _ _,auu _ _⟩
theorem ath (u v:V4):v.Le (u.max v):=⟨auq _ _,auq _ _,auq _ _,auq _ _⟩
theorem ati (g:Good w) (hj:(p.1.max q.1).deg<=4) (h:K (.nx (cr2 w p q two one tn pk od sd) [("pairs",u)])):CiSt bl (ciB 0) (cr1 w p q two one tn pk od sd) u K:=
 ⟨w,p.1.max q.1,_,rfl,.inl rfl,g.a.2,g.b.2,g.c.2,g.d.2,V4.le_deg hj,h⟩
theorem atj{u v x:V4}(l:u.Le x) (h:x.deg<=4):(x.sub u).deg<=4:=at0 (V4.deg_sub l▸Nat.sub_le _ _) h
theorem atk (g:Good w) (hj:(p.1.max q.1).deg<=4) (hp:abC p) (hq:abC q) {prs:List Rl}(hl:prs.length+1<=10000) (h:K (.nx (cr2 w p q two one tn pk od sd) [("pairs",.lst ((prs++[newR p q]).map (aep w)))])) :
  CiSt bl (ciB 1) (cr2 w p q two one tn pk od sd) (.lst (prs.map (aep w))) K:=by
 have bj:=aur (abj g hj) p257
 have l1:=atg p.1 q.1
 have l2:=ath p.1 q.1
 refine ⟨_,_,rfl,Int.natCast_ne_zero_iff_pos.mpr (adC g p.1),bj,aur (abj g hp.2.2) amj,?_⟩
 rw [abf,agW g l1]
 refine aa2 (aaB (abj g (atj (v:=p.1) l1 hj)) (by decide)) (aa2 (aaB (abj g (hp.1▸hp.2.2)) (by decide)) ?_)
 refine ⟨_,_,rfl,Int.natCast_ne_zero_iff_pos.mpr (adC g q.1),bj,aur (abj g hq.2.2) amj,?_⟩
 rw [abf,agW g l2]
 refine aa2 (aaB (abj g (atj (v:=p.1) l2 hj)) (by decide)) (aa2 (aaB (abj g (hq.1▸hq.2.2)) (by decide)) ?_)
 (try conv=>whnf)
 refine szi (by rw [List.length_map];exact hl) ?_
 rw [<- Int.natCast_mul,<- Int.natCast_mul,<- acX,<- acX]
 rw [List.map_append] at h
 exact h
end
theorem aou{p q:Rl}{rs:List Rl}:aa6 (p ::rs) q=(if (p.1.max q.1).deg<min 5 (p.1.deg+q.1.deg) then [newR p q] else [])++aa6 rs q:=by
 by_cases h:(p.1.max q.1).deg<min 5 (p.1.deg+q.1.deg)
 . rw [if_pos h]
   exact List.filterMap_cons_some (f:=acZ q.1 q.2) (if_pos h)
 . rw [if_neg h]
   exact List.filterMap_cons_none (f:=acZ q.1 q.2) (if_neg h)
theorem aov{w:V4}{q:Rl}(g:Good w) (hq:abC q) {two one tn pk od sd:T}:∀ (rs prs:List Rl) {K:Out->Prop},(∀ p∈rs,abC p)->prs.length+rs.length<=9500->
  K (.nx (aos w q two one tn pk od sd) [("pairs",.lst ((prs++aa6 rs q).map (aep w)))])->
  afX (acF (aaD (aaa 23)).names ["rules"] (forT innF)) (λρ ω K=>blF true (aam SgC true 21) 20 (aaD (aaa 23)).names (λx=>x=="rules" || x=="pairs") afY 15 ["rules"] (agV innF) ρ ω K)
   ["less","great","two","one","turn","pick","worths","order","rows","sides"] ["pairs"] (rs.map (aau w)) (aos w q two one tn pk od sd) [("pairs",.lst (prs.map (aep w)))] K:=by
 intro rs
 induction rs with
 | nil=>intro prs K h1 h2 hK;rw [show prs++aa6 [] q=prs from List.append_nil _] at hK;exact hK
 | cons p rs ih=>
  intro prs K h1 h2 hK
  have hp:=h1 p (.head _)
  have h2':prs.length+1+rs.length<=9500:=by rw [Nat.add_right_comm];exact h2
  refine aap (ss:=[ciS 1]) (ρ:=cr0 w p q two one tn pk od sd) (λK1 h=>aot g hp.2.2 hq.2.2 h) ?_
  (try conv=>whnf)
  refine abK (aaq g hp.2.2) (abK (aaq g hq.2.2) ?_)
  rw [aou] at hK
  refine bri (λhc=>?_) (λhc=>?_)
  . have hlt:=of_decide_eq_true ((amn (u:=p.1) (v:=q.1)).symm.trans hc)
    rw [if_pos hlt,<- List.append_assoc] at hK
    have jd:(p.1.max q.1).deg<=4:=auk (at5 hlt (Nat.min_le_left _ _))
    refine aap (ss:=[ciB 1]) (ρ:=cr1 w p q two one tn pk od sd) (ω:=[("pairs",.lst (prs.map (aep w)))]) (λK1 h=>ati g jd h) ?_
    exact atk g jd hp hq (at0 (at9 _ _) (aaK h2' rfl)) (ih (prs++[newR p q]) (λq hq=>h1 q (.tail _ hq)) (by rw [List.length_append];exact h2') hK)
  . rw [if_neg (of_decide_eq_false ((amn (u:=p.1) (v:=q.1)).symm.trans hc))] at hK
    exact ih prs (λq hq=>h1 q (.tail _ hq)) (at0 (auj (Nat.le_succ _) _) h2') hK
noncomputable abbrev coS (i:Nat):Stmt:=(agV comF).getD i (.Pass ⟨0,0,0,0⟩)
noncomputable abbrev coB (i:Nat):Stmt:=(ifB (coS 2)).getD i (.Pass ⟨0,0,0,0⟩)
noncomputable abbrev CoSt (bl:BlF) (st:Stmt) (ρ:aab) (P R:T) (K:Out->Prop):Prop:=stF true (aam SgC true 21) 20 (aaD (aaa 23)).names (λx=>x=="rules" || x=="pairs") afY bl [] st ρ [("pairs",P),("rules",R)] K
section
variable{w x y:V4}{ks:List (Int×Int)}{pick t:Nat}{sd P R:T}{rules pairs:List Rl}
noncomputable def cl0 (w:V4) (ks:List (Int×Int)) (pick t:Nat) (sd:T):aab:=[("turn",.int t),("pick",.int pick),("worths",.lst (w.lst.map .int)),("order",.cmp (adj ks)),("rows",acY w),("sides",sd)]
noncomputable def cl1 (w:V4) (ks:List (Int×Int)) (pick t:Nat) (sd:T) (x y:V4):aab:=("two",aat w y) ::("one",aat w x) ::cl0 w ks pick t sd
theorem atl{p:Rl}(di:DownIn w rules) (hp:pairs[t]?=some p) (hm:abC p) (ht:pick+t<=10000000) (hl:pairs.length<=9000) (h:K (.nx (cl1 w ks pick t sd (aaJ rules (pick+t) p.1) (aaJ rules (pick+t) p.2)) [("pairs",.lst (pairs.map (aep w))),("rules",.lst (rules.map (aau w)))])) :
  CoSt bl (coS 1) (cl0 w ks pick t sd) (.lst (pairs.map (aep w))) (.lst (rules.map (aau w))) K:=by
 have hlt:=(List.getElem?_eq_some_iff.mp hp).1
 refine gdi (aaV (aue _) (ace (aug (at5 hlt hl)) (by decide))) (abK (acv (t:=aep w p) (by rw [List.getElem?_map,hp];rfl)) ?_)
 (try conv=>whnf)
 refine ⟨w,p.1,rules,pick+t,rfl,di,hm.2.2,aaK ht rfl,?_⟩
 (try conv=>whnf)
 exact ⟨w,p.2,rules,pick+t,rfl,di,hm.1▸hm.2.2,aaK ht rfl,h⟩
theorem co_gl (g:Good w) (hk:ad1 ks) (hx:x.deg<=4) (hy:y.deg<=4) (h:K (.nx (aos w (aaS ks x y) (aat w y) (aat w x) (.int t) (.int pick) (.cmp (adj ks)) sd) [("pairs",P),("rules",R)])):CoSt bl (coB 0) (cl1 w ks pick t sd x y) P R K:=by
 refine abK (aaq g hx) ?_
 refine abK (aaq g hy) ?_
 refine ⟨ks,x.lst,y.lst,rfl,(λp hp=>⟨(hk.1 p hp).1,(hk.1 p hp).2,(hk.1 p hp).2⟩),at2 rfl,at2 rfl,hk.2,?_⟩
 refine bri (λhc=>?_) (λhc=>?_)
 . rw [show aaS ks x y=(x,y) from if_pos (of_decide_eq_true hc)] at h
   exact h
 . rw [show aaS ks x y=(y,x) from if_neg (of_decide_eq_false hc)] at h
   exact h
theorem atm{q:Rl}{two one tn pk od:T}(hl:rules.length<=99) (h:K (.nx (aos w q two one tn pk od sd) [("rules",.lst ((rules++[q]).map (aau w))),("pairs",P)])) :
  stF true (aam SgC true 21) 20 (aaD (aaa 23)).names (λx=>x=="rules" || x=="pairs") afY bl [] (coB 2) (aos w q two one tn pk od sd) [("rules",.lst (rules.map (aau w))),("pairs",P)] K:=by
 refine szi (by rw [List.length_map];exact at0 (auI hl) (by decide)) ?_
 rw [List.map_append] at h
 exact h
theorem atn{q:Rl}{two one tn pk od:T}(g:Good w) (hq:abC q) (hr:∀ p∈rules,abC p) (hl:pairs.length+rules.length<=9500) (h:K (.nx (aos w q two one tn pk od sd) [("rules",.lst (rules.map (aau w))),("pairs",.lst ((pairs++aa6 rules q).map (aep w)))])) :
  CoSt (blF true (aam SgC true 21) 20 (aaD (aaa 23)).names (λx=>x=="rules" || x=="pairs") afY 15) (coB 1) (aos w q two one tn pk od sd) (.lst (pairs.map (aep w))) (.lst (rules.map (aau w))) K:=by
 change afX _ _ _ _ (List.map (aau w) rules) _ _ _
 exact aov g hq rules pairs hr hl h
theorem aky (e:x.deg=y.deg) (h:1<=x.deg/\x.deg<=4):abC (aaS ks x y):=by
 unfold aaS
 split
 . exact ⟨e,h⟩
 . exact ⟨e.symm,e▸h⟩
end
theorem akz{w:V4}(g:Good w) {ks:List (Int×Int)}(hk:ad1 ks) {pick:Nat}{sd:T}:∀ (k t:Nat) (rules pairs:List Rl) {K:Out->Prop},okC ks pick k t rules pairs->pick+t+k<=10000000->
  (∀ prs,K (.nx [("pick",.int pick),("worths",.lst (w.lst.map .int)),("order",.cmp (adj ks)),("rows",acY w),("sides",sd)] [("pairs",prs),("rules",.lst ((aa1 ks pick k t rules pairs).map (aau w)))]))->
  afX (acF (aaD (aaa 23)).names [] (forT comF)) (λρ ω K=>blF true (aam SgC true 21) 20 (aaD (aaa 23)).names (λx=>x=="rules" || x=="pairs") afY 20 [] (agV comF) ρ ω K)
   ["pick","worths","order","rows","sides"] ["pairs","rules"] (afD t k) [("pick",.int pick),("worths",.lst (w.lst.map .int)),("order",.cmp (adj ks)),("rows",acY w),("sides",sd)] [("pairs",.lst (pairs.map (aep w))),("rules",.lst (rules.map (aau w)))] K:=by
 intro k
 induction k with
 | zero=>intro t rules pairs K h1 h2 hK;exact hK _
 | succ k ih=>
  intro t rules pairs K h1 h2 hK
  obtain ⟨o1,o2,o3,o4,o5⟩:=h1
  have h2':pick+(t+1)+k<=10000000:=by rw [<- Nat.add_assoc,Nat.add_assoc (pick+t),Nat.add_comm 1];exact h2
  refine szi (by rw [List.length_map];exact aaK o2 rfl) ?_
  refine bri (λhb=>?_) (λhb=>?_)
  . have hge:pairs.length<=t:=by simpa using hb
    have:=hK (.lst (pairs.map (aep w)))
    unfold aa1 at this
    rw [List.getElem?_eq_none hge] at this
    exact this
  . have hlt:t<pairs.length:=by simpa using hb
    obtain ⟨p,hp⟩:∃ p,pairs[t]?=some p:=⟨_,aul hlt⟩
    have hpm:=o4 p (aux hp)
    refine aap (ss:=[coS 2]) (ρ:=cl0 w ks pick t sd) (λK1 h=>atl ⟨g,Nat.le_succ_of_le o1,o3⟩ hp hpm (at0 (at9 _ _) h2) o2 h) ?_
    unfold aa1 at hK
    rw [hp] at o5 hK
    have dx:=afG o3 (t:=pick+t) (v:=p.1)
    have dy:=afG o3 (t:=pick+t) (v:=p.2)
    dsimp only at o5 hK
    generalize aaJ rules (pick+t) p.1=x at *
    generalize aaJ rules (pick+t) p.2=y at *
    refine bri (λhne=>?_) (λheq=>?_)
    rotate_left
    . have e:x=y:=afC g (by have:=heq;simp at this;exact Int.natCast_inj.mp this)
      rw [if_pos e] at o5
      exact ih (t+1) rules pairs o5 h2' λprs=>by have:=hK prs;rw [if_pos e] at this;exact this
    . have e:x≠y:=λz=>by rw [z] at hne;simp at hne
      rw [if_neg e] at o5
      have hom:abC (aaS ks x y):=aky (dx.trans (hpm.1.trans dy.symm)) (dx▸hpm.2)
      refine aap (ss:=[coB 1,coB 2]) (ρ:=cl1 w ks pick t sd x y) (λK1 h=>co_gl g hk (dx▸hpm.2.2) (dy▸hpm.1▸hpm.2.2) h) ?_
      refine aap (ss:=[coB 2]) (ρ:=aos w (aaS ks x y) (aat w y) (aat w x) (.int t) (.int pick) (.cmp (adj ks)) sd) (λK1 h=>atn g hom o3 (acA o2 o1 rfl) h) ?_
      refine atm (w:=w) (q:=aaS ks x y) o1 ?_
      exact ih (t+1) (rules++[aaS ks x y]) (pairs++aa6 rules (aaS ks x y)) (K:=K) o5 h2' λprs=>by have:=hK prs;rw [if_neg e] at this;exact this
theorem ajF{I:Type}{it:Bool}{ev:EvF}{n m:Nat}{sc:aad}{ow:Str->Bool}{hk:HkS}{fz:List Str}{st:Stmt}{ss:List Stmt}{ρ ω:aab}{K:Out->Prop}(f g:I->aab) (h:∀ K1:Out->Prop,(∀ i,K1 (.nx (f i) (g i)))->stF it ev n sc ow hk (blF it ev n sc ow hk m) fz st ρ ω K1) (h2:∀ i,blF it ev n sc ow hk m fz ss (f i) (g i) K) :
  blF it ev n sc ow hk (m+1) fz (st ::ss) ρ ω K:=h _ h2
theorem akA{n:Nat}{sc:aad}{ow:Str->Bool}{bl:BlF}{fz:List Str}{target:Expr}{N:Int}{c:Nat}{b:List Stmt}{p1 p2 p3 p4:Pos}{ρ ω:aab}{S:Sg}{m:Nat}{K:Out->Prop}(hg:aaW sc "range"=true) (hu:ajd 10000 N=true) (hk:S.hk (.Constant (.int N) c p2)=none)
  (h:afX (acF sc fz target) (λρ ω K=>bl fz b ρ ω K) (ρ.map (·.1)) (ω.map (·.1)) (ab8 0 N) ρ ω K):stF true (aam S true (m+1)) n sc ow afY bl fz (.For target (.Call (.Name "range" p1) [.Constant (.int N) c p2] [] p3) b [] p4) ρ ω K:=by
 show gd true (afc (aam S true (m+1)) sc target _ ρ _)
 refine gdi rfl ?_
 unfold afc
 have e:aqi sc (.Call (.Name "range" p1) [.Constant (.int N) c p2] [] p3)=.range1 (.Constant (.int N) c p2):=by
  show (if (aaW sc "range"&&true)=true then _ else _)=_
  refine hg.symm▸?_;rfl
 refine e▸?_
 show adw S true (aam S true m) m sc (.Constant (.int N) c p2) ρ _
 dsimp only [adw]
 refine hk▸?_
 exact gdi hu h
section
theorem MsOK.compare{ms:List (Str×Fun)}(st:Stat γ) (h:MsOK γ true r ms) (hr:1<=r):MsOK γ true r (("compare",aoe) ::ms):=.cons ajw (aem st.cmp) ((apA st).le hr) h
inductive Ficompl (ts:List T) (K:T->Prop):Prop
 | mk (W:V4) (ks:List (Int×Int)) (pick:Nat) (p q u:Rl) (e0:ts=[.lst [aat W p.1,aat W p.2,aat W q.1,aat W q.2,aat W u.1,aat W u.2],acY W,.cmp (adj ks),.lst (W.lst.map .int),.int pick]) (e1:Good W) (e2:ad1 ks) (e3:pick<=9000000) (e4:okC ks pick 3000 0 [] [p,q,u]) (e5:K (.lst ((aa1 ks pick 3000 0 [] [p,q,u]).map (aau W)))):Ficompl ts K
noncomputable def amo:Fun:=Ficompl
theorem aow (st:Stat γ):CallOK γ (Wd γ) true 20 (.ref 148) amo:=by
 refine aa0 (n:=20) (n':=20) (m:=22) (ow:=λx=>x=="rules" || x=="pairs") (S:=SgC) (st.fn ("_law_complete",148,23) (by decide)).2 (by rfl)
  (aas st (FsOK.fn (i:=22) st (by decide) (aq9 st) (FsOK.fn (i:=11) st (by decide) ((amg st).le (by decide)) (FsOK.fn (i:=20) st (by decide) ((apB st).le (by decide)) (FsOK.blt (n:="len") st (by decide) agi (FsOK.blt (n:="max") st (by decide) asX (FsOK.blt (n:="sum") st (by decide) amm (FsOK.blt (n:="min") st (by decide) asW FsOK.nil)))))))
    (MsOK.compare st MsOK.nil (by decide))) ?_
 rintro ts K ⟨W,ks,pick,p,q,u,rfl,g,hk,hp,ok,hK⟩
 generalize hres:aa1 ks pick 3000 0 [] [p,q,u]=res at hK
 refine ⟨rfl,?_⟩
 obtain ⟨sd,hsd⟩:∃ sd:T,sd=.lst [aat W p.1,aat W p.2,aat W q.1,aat W q.2,aat W u.1,aat W u.2]:=⟨_,rfl⟩
 refine hsd▸?_
 obtain ⟨af,bh⟩:∃ af:aab,af=([("pick",.int pick),("worths",.lst (W.lst.map .int)),("order",.cmp (adj ks)),("rows",acY W),("sides",sd)]:aab):=⟨_,rfl⟩
 change blF _ _ _ _ _ _ (21+1) [] (_ ::_) [("pick",.int pick),("worths",.lst (W.lst.map .int)),("order",.cmp (adj ks)),("rows",acY W),("sides",sd)] [] _
 refine aap (af:=af) (au:=[("pairs",.lst ([p,q,u].map (aep W))),("rules",.lst [])]) (λK1 h=>?_) ?_
 . rw [bh] at h
   rw [hsd] at *
   (try conv=>whnf)
   have e1:∀ a b c d e f:T,aeG [a,b,c,d,e,f] none (some 2) none=[a,b]:=λa b c d e f=>by rfl
   have e2:∀ a b c d e f:T,aeG [a,b,c,d,e,f] (some 2) (some 4) none=[c,d]:=λa b c d e f=>by rfl
   have e3:∀ a b c d e f:T,aeG [a,b,c,d,e,f] (some 4) none none=[e,f]:=λa b c d e f=>by rw [adV];rfl
   rw [e1,e2,e3]
   exact h
 . refine ajF (I:=T) (λ_=>af) (λprs=>[("pairs",prs),("rules",.lst (res.map (aau W)))]) (λK1 h=>?_) λprs=>?_
   . rw [bh] at h ⊢
     change stF _ _ _ _ _ _ _ _ (.For _ (.Call (.Name "range" _) [.Constant (.int 3000) _ _] [] _) _ [] _) _ _ _
     refine akA rfl rfl rfl ?_
     refine (show ab8 0 3000=afD 0 3000 from aeE (t:=0) (k:=3000))▸?_
     refine akz g hk 3000 0 [] [p,q,u] ok (by lia) ?_
     rw [hres]
     exact h
   . exact hK
end
inductive FicmpL (ts:List T) (K:T->Prop):Prop
 | mk (ks l r:_) (e0:ts=[.cmp (adj ks),.lst (l.map .int),.lst (r.map .int)]) (e1:(∀ p∈ks,0<=p.1/\p.1<l.length/\p.1<r.length)) (e2:l.length<=100) (e3:r.length<=100) (e4:ks.length<=100) (e5:K (.int (aeM ks l r))):FicmpL ts K
noncomputable def apJ:Fun:=FicmpL
noncomputable def ahM:Fun:=λts K=>aoe ts K\/apJ ts K
section
theorem ara (st:Stat γ):CallOK γ (Wd γ) true 1 (.ref 35) apJ:=by
 refine aa0 (n:=20) (n':=20) (m:=20) (ow:=λ_=>false) (S:=aeL [] []) st.cmp (by rfl) (aas st FsOK.nil MsOK.nil) ?_
 rintro ts K ⟨ks,l,r,rfl,hk,hl,hr,hks,hK⟩
 refine ⟨rfl,?_⟩
 refine szi (by rw [List.length_map];lia) ?_
 clear hks
 generalize adj ks=sk
 induction ks with
 | nil=>exact hK
 | cons p ks ih=>
  obtain ⟨i,d⟩:=p
  have hX:=hk (i,d) (.head _)
  have h1:=hX.1
  have h2:=hX.2.1
  have h3:=hX.2.2
  dsimp only [aeM] at hK
  refine ixi h1 h2 hl ?_
  refine ixi h1 h3 hr ?_
  refine bri (λhc=>?_) (λhc=>?_)
  . rw [if_pos (of_decide_eq_true hc)] at hK
    exact hK
  . rw [if_neg (of_decide_eq_false hc)] at hK
    refine bri (λhd=>?_) (λhd=>?_)
    . rw [if_pos (of_decide_eq_true hd)] at hK
      exact hK
    . rw [if_neg (of_decide_eq_false hd)] at hK
      exact (ih (λp hp=>hk p (.tail _ hp))) hK
theorem arb (st:Stat γ):CallOK γ (Wd γ) true 1 (.ref 35) ahM:=λA V s vs ts K aok wd rs h=>h.elim (apA st A V s vs ts K aok wd rs) (ara st A V s vs ts K aok wd rs)
theorem MsOK.compare2{ms:List (Str×Fun)}(st:Stat γ) (h:MsOK γ true r ms) (hr:1<=r):MsOK γ true r (("compare",ahM) ::ms):=.cons ajw (aem st.cmp) ((arb st).le hr) h
noncomputable def ac0 (ks:List (Int×Int)) (h l:V4):List Int:=ks.filterMap λp=>if h.lst.getD p.1.toNat 0=l.lst.getD p.1.toNat 0 then none else some (if l.lst.getD p.1.toNat 0<h.lst.getD p.1.toNat 0 then p.2 else -p.2)
theorem ac1{i d:Int}{ks:List (Int×Int)}{l r:List Int}(e:l.getD i.toNat 0=r.getD i.toNat 0):aeM ((i,d) ::ks) l r=aeM ks l r:=
 (if_neg (e▸au1 _)).trans (if_neg (e▸au1 _))
theorem aeq{i d:Int}{ks:List (Int×Int)}{l r:List Int}(e:l.getD i.toNat 0<r.getD i.toNat 0):aeM ((i,d) ::ks) l r=-d/\aeM ((i,d) ::ks) r l=d:=
 ⟨if_pos e,(if_neg (Int.not_lt.mpr (Int.le_of_lt e))).trans (if_pos e)⟩
theorem afH{h l:V4}{ks:List (Int×Int)}:aeM ks h.lst l.lst=(ac0 ks h l).headD 0/\aeM ks l.lst h.lst=-((ac0 ks h l).headD 0):=by
 induction ks with
 | nil=>exact ⟨rfl,rfl⟩
 | cons p ks ih=>
  have key:∀ {o:Option Int},(if h.lst.getD p.1.toNat 0=l.lst.getD p.1.toNat 0 then none else some (if l.lst.getD p.1.toNat 0<h.lst.getD p.1.toNat 0 then p.2 else -p.2))=o->ac0 (p ::ks) h l=o.toList++ac0 ks h l:=λ{o} e=>by
   unfold ac0
   rw [List.filterMap_cons,e]
   cases o <;> rfl
  rcases Int.lt_trichotomy (h.lst.getD p.1.toNat 0) (l.lst.getD p.1.toNat 0) with e | e | e
  . rw [key (if_neg (Int.ne_of_lt e)),if_neg (Int.not_lt.mpr (Int.le_of_lt e))]
    exact ⟨(aeq e).1,(aeq e).2.trans (Int.neg_neg _).symm⟩
  . rw [key (if_pos e)]
    exact ⟨(ac1 e).trans ih.1,(ac1 e.symm).trans ih.2⟩
  . rw [key (if_neg (Int.ne_of_gt e)),if_pos e]
    exact ⟨(aeq e).2,(aeq e).1⟩
noncomputable def acm (c:Int) (n:Int) (l:V4):List Int:=[l.a-n*(if c=0 then 1 else 0),l.b-n*(if c=1 then 1 else 0),l.c-n*(if c=2 then 1 else 0),l.d-n*(if c=3 then 1 else 0)]
inductive Keys4 (ks:List (Int×Int)):Prop
 | mk (a b c d u v x y:Int) (e:ks=[(a,u),(b,v),(c,x),(d,y)]) (g:(0<=a/\a<4)/\(0<=b/\b<4)/\(0<=c/\c<4)/\(0<=d/\d<4)/\a≠b/\a≠c/\a≠d/\b≠c/\b≠d/\c≠d):Keys4 ks
theorem all4{α:Type}{a b c d:α}{P:α->Prop}(h1:P a) (h2:P b) (h3:P c) (h4:P d):∀ x∈[a,b,c,d],P x:=
 List.forall_mem_cons.mpr ⟨h1,List.forall_mem_cons.mpr ⟨h2,List.forall_mem_cons.mpr ⟨h3,List.forall_mem_cons.mpr ⟨h4,λ_ h=>nomatch h⟩⟩⟩⟩
theorem all3{α:Type}{a b c:α}{P:α->Prop}(h1:P a) (h2:P b) (h3:P c):∀ x∈[a,b,c],P x:=
 List.forall_mem_cons.mpr ⟨h1,List.forall_mem_cons.mpr ⟨h2,List.forall_mem_cons.mpr ⟨h3,λ_ h=>nomatch h⟩⟩⟩
theorem apK{P:Nat->Prop}(h0:P 0) (h1:P 1) (h2:P 2) (h3:P 3) (k:Nat) (h:k<4):P k:=
 (ap4 h).elim (λe=>e▸h0) λh=>h.elim (λe=>e▸h1) λh=>h.elim (λe=>e▸h2) λe=>e▸h3
theorem apL{P:Nat->Prop}(h0:P 0) (h1:P 1) (h2:P 2) (h3:P 3) (h4:P 4) (h5:P 5) (k:Nat) (h:k<6):P k:=
 (asf h).elim (λe=>e▸h0) λh=>h.elim (λe=>e▸h1) λh=>h.elim (λe=>e▸h2) λh=>h.elim (λe=>e▸h3) λh=>h.elim (λe=>e▸h4) λe=>e▸h5
theorem aeZ{c n:Int}{l:V4}{i:Int}(h0:0<=i) (h4:i<4):(acm c n l).getD i.toNat 0=l.lst.getD i.toNat 0-n*(if c=i then 1 else 0):=by
 obtain ⟨k,rfl⟩:=auS h0
 exact apK (P:=λk=>(acm c n l).getD k 0=l.lst.getD k 0-n*(if c=(k:Int) then 1 else 0)) rfl rfl rfl rfl k (Int.ofNat_lt.mp h4)
theorem afI{c:Int}{l:V4}{i:Int}(h:0<=i/\i<4) (n:i≠c) (m m':Int):(acm c m l).getD i.toNat 0=(acm c m' l).getD i.toNat 0:=by
 rw [aeZ h.1 h.2,aeZ h.1 h.2,if_neg (Ne.symm n),Int.mul_zero,Int.mul_zero]
theorem amp{d:Int}{l:V4}(h:0<=d/\d<4):(acm d 9 l).getD d.toNat 0<(acm d 8 l).getD d.toNat 0:=by
 rw [aeZ h.1 h.2,aeZ h.1 h.2,if_pos rfl]
 exact Int.sub_lt_sub_left (by decide) _
theorem amq{ks:List (Int×Int)}(h:Keys4 ks) {l:V4}:aeM ks (acm (ks.getLastD (0,0)).1 9 l) (acm (ks.getLastD (0,0)).1 8 l)=-(ks.getLastD (0,0)).2/\aeM ks (acm (ks.getLastD (0,0)).1 8 l) (acm (ks.getLastD (0,0)).1 9 l)=(ks.getLastD (0,0)).2:=by
 obtain ⟨a,b,c,d,u,v,x,y,rfl,ha,hb,hc,hd,h1,h2,h3,h4,h5,h6⟩:=h
 have go:∀ m m',aeM [(a,u),(b,v),(c,x),(d,y)] (acm d m l) (acm d m' l)=aeM [(d,y)] (acm d m l) (acm d m' l):=
  λm m'=>(ac1 (afI ha h3 m m')).trans ((ac1 (afI hb h5 m m')).trans (ac1 (afI hc h6 m m')))
 exact ⟨(go 9 8).trans (aeq (amp hd)).1,(go 8 9).trans (aeq (amp hd)).2⟩
end
theorem abp{R α:Type}{bind:T->aab->Option aab}{body:aab->List R->(List R->Prop)->Prop}{ρ:aab}(g:α->T) (f:α->List R):∀ (xs:List α) (acc:List R) (K:List R->Prop),acc.length+(xs.flatMap f).length<=10000->
  (∀ x∈xs,∀ (acc:List R) (K:List R->Prop),acc.length+(f x).length<=10000->K (acc++f x)->opt (bind (g x) ρ) λaf=>body af acc K)->K (acc++xs.flatMap f)->aij bind body (xs.map g) ρ acc K:=by
 intro xs
 induction xs with
 | nil=>intro acc K _ _ h;rw [show acc++[].flatMap f=acc from List.append_nil acc] at h;exact h
 | cons x xs ih=>
  intro acc K hl hs h
  rw [List.flatMap_cons,List.length_append] at hl
  refine hs x (.head _) acc _ (by lia) (ih _ _ (by refine List.length_append.symm▸?_;lia) (λy hy=>hs y (.tail _ hy)) ?_)
  rw [List.append_assoc];exact h
theorem ac2{α R:Type}(c:α->Bool) (h:α->R):∀ xs:List α,(xs.flatMap λx=>if c x=true then [h x] else [])=(xs.filter c).map h
 | []=>rfl
 | x ::xs=>by
  rw [List.flatMap_cons,ac2 c h xs,List.filter_cons]
  cases c x <;> rfl
theorem abw{α R:Type}(h:α->R):∀ xs:List α,(xs.flatMap λx=>[h x])=xs.map h
 | []=>rfl
 | x ::xs=>by exact Eq.symm List.map_eq_flatMap
theorem ae0{α R:Type}(c:α->Bool) (h:α->R) (xs:List α):(xs.flatMap λx=>if c x=true then [h x] else []).length<=xs.length:=by
 rw [ac2,List.length_map];exact au5 _ _
theorem afJ{S:Sg}{n:Nat}{sc:aad}{elt:Expr}{g:Comprehension}{scope:Scope}{p:Pos}{ρ:aab}{K:T->Prop}(items:List T) (hk:S.hk (.ListComp elt [g] scope p)=none) (h0:(aho sc scope.names&&adK [g]&&scope.kind==.function)=true)
  (hi:∀ K':List T->Prop,K' items->afc (aam S true n) sc g.target g.iter ρ K')
  (h:aij (λt ρ=>agI g.target t scope.names ρ) (λaf acc K'=>aex (λe k=>abq (λe k=>aam S true n scope.names e af k) n e k) g.ifs λb=>br b (aik (aam S true n) n scope.names (λaf K'=>aam S true n scope.names elt af K') [] af acc K') (K' acc)) items (abv scope.names ρ) [] λts=>K (.lst ts)) :
  aam S true (n+1) sc (.ListComp elt [g] scope p) ρ K:=by
 show adw S true (aam S true n) n sc (.ListComp elt [g] scope p) ρ K
 dsimp only [adw]
 refine hk▸?_
 exact gdi rfl (gdi h0 (hi _ h))
theorem ags{S:Sg}{n:Nat}{sc:aad}{elt:Expr}{g:Comprehension}{scope:Scope}{p:Pos}{ρ:aab}{K:T->Prop}{α:Type}(gg:α->T) (f:α->List T) (xs:List α) (hk:S.hk (.ListComp elt [g] scope p)=none) (h0:(aho sc scope.names&&adK [g]&&scope.kind==.function)=true)
  (hi:∀ K':List T->Prop,K' (xs.map gg)->afc (aam S true n) sc g.target g.iter ρ K') (hl:(xs.flatMap f).length<=10000)
  (hs:∀ x∈xs,∀ (acc:List T) (K':List T->Prop),acc.length+(f x).length<=10000->K' (acc++f x)->opt (agI g.target (gg x) scope.names (abv scope.names ρ)) λaf=>aex (λe k=>abq (λe k=>aam S true n scope.names e af k) n e k) g.ifs λb=>br b (aik (aam S true n) n scope.names (λaf K'=>aam S true n scope.names elt af K') [] af acc K') (K' acc))
  (hK:K (.lst (xs.flatMap f))):aam S true (n+1) sc (.ListComp elt [g] scope p) ρ K:=
 afJ _ hk h0 hi (abp gg f xs [] _ (by refine List.length_nil▸?_;rw [Nat.zero_add];exact hl) hs (by exact hK))
theorem agZ{α β R:Type}(g:α->Option β) (h:β->R):∀ xs:List α,(xs.flatMap λx=>(g x).toList.map h)=(xs.filterMap g).map h
 | []=>rfl
 | x ::xs=>by
  rw [List.flatMap_cons,agZ g h xs,List.filterMap_cons]
  cases g x <;> rfl
theorem abD{it:Bool}{ev:EvF}{n:Nat}{sc:aad}{ow:Str->Bool}{hk:HkS}{bl:BlF}{fz:List Str}{st:Stmt}{x:Str}{xp p:Pos}{v:Expr}{ρ ω:aab}{K:Out->Prop}(e:st=.Assign [.Name x xp] v p) (h0:hk st=none) (hn:acG ev sc ow fz x v ρ ω K=adQ ev sc fz x v ρ ω K) (hs:abi sc fz x=true) (hq:ar5 ω v=false)
  (h:ev sc v ρ λt=>K (.nx ((x,t) ::ρ) (er x ω))):stF it ev n sc ow hk bl fz st ρ ω K:=by
 unfold stF
 rw [h0,e]
 show acG ev sc ow fz x v ρ ω K
 rw [hn]
 refine gdi hs ?_
 dsimp only [evM]
 refine hq▸?_
 exact h
theorem ab3:∀ ns:List Int,PyData.eqvAll (T.pyL (ns.map T.int)) (T.pyL (ns.map T.int))=true
 | []=>rfl
 | n ::ns=>by
  show (PyData.eqv (.int n) (.int n)&&PyData.eqvAll (T.pyL (ns.map T.int)) (T.pyL (ns.map T.int)))=true
  refine (ab3 ns).symm▸?_
  simp [PyData.eqv]
theorem aox (ns:List Int):PyData.eqv (T.lst (ns.map T.int)).py (T.lst (ns.map T.int)).py=true:=ab3 ns
inductive Fitold (ts:List T) (K:T->Prop):Prop
 | mk (ks:List (Int×Int)) (h l:V4) (e0:ts=[.cmp (adj ks),adj ks,h.t,l.t]) (e1:Keys4 ks) (e2:h≠l) (e3:K (.bool true)):Fitold ts K
noncomputable def apM:Fun:=Fitold
section
theorem Keys4.inn{ks:List (Int×Int)}(h:Keys4 ks):ad1 ks:=by
 refine ag λG kG=>?_
 obtain ⟨a,b,c,d,u,v,x,y,rfl,ha,hb,hc,hd,_⟩:=h
 refine kG ?_
 exact ⟨all4 ha hb hc hd,by show 4<=100;decide⟩
theorem pig (a b c d i:Nat) (ha:a<4) (hb:b<4) (hc:c<4) (hd:d<4) (hi:i<4):[a,b,c,d].Nodup->i=a\/i=b\/i=c\/i=d:=by
 have key:((List.range 4).all λa=>(List.range 4).all λb=>(List.range 4).all λc=>(List.range 4).all λd=>(List.range 4).all λi=>!decide ([a,b,c,d].Nodup) || [a,b,c,d].contains i)=true:=by decide +kernel
 have r:∀ {n},n<4->n∈List.range 4:=List.mem_range.mpr
 have:=List.all_eq_true.mp (List.all_eq_true.mp (List.all_eq_true.mp (List.all_eq_true.mp (List.all_eq_true.mp key a (r ha)) b (r hb)) c (r hc)) d (r hd)) i (r hi)
 intro h
 rw [decide_eq_true h] at this
 have this:i∈[a,b,c,d]:=List.contains_iff_mem.mp this
 exact (List.mem_cons.mp this).imp id λh=>(List.mem_cons.mp h).imp id λh=>(List.mem_cons.mp h).imp id List.mem_singleton.mp
theorem pigI{a b c d i:Int}(ha:0<=a/\a<4) (hb:0<=b/\b<4) (hc:0<=c/\c<4) (hd:0<=d/\d<4) (h1:a≠b) (h2:a≠c) (h3:a≠d) (h4:b≠c) (h5:b≠d) (h6:c≠d) (hi:0<=i) (hi4:i<4):i=a\/i=b\/i=c\/i=d:=by
 obtain ⟨a,rfl⟩:=auS ha.1
 obtain ⟨b,rfl⟩:=auS hb.1
 obtain ⟨c,rfl⟩:=auS hc.1
 obtain ⟨d,rfl⟩:=auS hd.1
 obtain ⟨i,rfl⟩:=auS hi
 have l:∀ {n:Nat},(n:Int)<4->n<4:=Int.ofNat_lt.mp
 have n:∀ {m n:Nat},(m:Int)≠n->m≠n:=λh e=>h (e▸rfl)
 have e:∀ {m n:Nat},m=n->(m:Int)=n:=λe=>e▸rfl
 exact (pig a b c d i (l ha.2) (l hb.2) (l hc.2) (l hd.2) (l hi4) (by simp only [List.nodup_cons,List.mem_cons,List.not_mem_nil,not_or,or_false,not_false_eq_true,and_true,List.nodup_nil];exact ⟨⟨n h1,n h2,n h3⟩,⟨n h4,n h5⟩,n h6⟩)).imp e (.imp e (.imp e e))
theorem amr{ks:List (Int×Int)}(hk:Keys4 ks) {h l:V4}(hne:h≠l):ac0 ks h l≠[]:=by
 refine ag λG kG=>?_
 obtain ⟨a,b,c,d,u,v,x,y,rfl,ha,hb,hc,hd,h1,h2,h3,h4,h5,h6⟩:=hk
 refine kG ?_
 intro z
 unfold ac0 at z
 rw [List.filterMap_eq_nil_iff] at z
 have z':∀ p∈[(a,u),(b,v),(c,x),(d,y)],h.lst.getD p.1.toNat 0=l.lst.getD p.1.toNat 0:=λp hp=>by
  have:=z p hp
  by_cases e:h.lst.getD p.1.toNat 0=l.lst.getD p.1.toNat 0
  . exact e
  . replace this:=(if_neg e)▸this;exact son this
 have all:∀ i:Int,0<=i->i<4->h.lst.getD i.toNat 0=l.lst.getD i.toNat 0:=λi h0 h4'=>by
  have:=pigI ha hb hc hd h1 h2 h3 h4 h5 h6 h0 h4'
  rcases this with rfl | rfl | rfl | rfl
  . exact z' _ (.head _)
  . exact z' _ (.tail _ (.head _))
  . exact z' _ (.tail _ (.tail _ (.head _)))
  . exact z' _ (.tail _ (.tail _ (.tail _ (.head _))))
 exact hne (V4.ext (Int.ofNat.inj (all 0 (by decide) (by decide))) (Int.ofNat.inj (all 1 (by simp) (by decide))) (Int.ofNat.inj (all 2 (by simp) (by decide))) (Int.ofNat.inj (all 3 (by simp) (by decide))))
noncomputable def wayO (h l:V4) (p:Int×Int):Option Int:=if h.lst.getD p.1.toNat 0=l.lst.getD p.1.toNat 0 then none else some (if l.lst.getD p.1.toNat 0<h.lst.getD p.1.toNat 0 then p.2 else -p.2)
noncomputable abbrev SgT:Sg:=aeL [] [("compare",ahM)]
noncomputable def adD (s:Stmt):Expr:=stE s
noncomputable abbrev aoy (i:Nat):Stmt:=(abE (aaa 28)).getD i (.Pass ⟨0,0,0,0⟩)
theorem ams{ks:List (Int×Int)}(hk:ad1 ks) {h l:V4}{od:T}{K:T->Prop}(hK:K (.lst ((ac0 ks h l).map .int))):aam SgT true 21 (aaD (aaa 28)).names (adD (aoy 0)) [("low",l.t),("high",h.t),("keys",adj ks),("order",od)] K:=by
 refine ags (n:=20) (g:=⟨_,_,_,_⟩) (λp:Int×Int=>T.tup [.int p.1,.int p.2]) (λp=>(wayO h l p).toList.map .int) ks rfl (by rfl) (λK' h=>szi (by rw [List.length_map];exact at0 hk.2 (by decide)) h) ?_ (λp hp acc K' ha h'=>?_) (by rw [agZ];exact hK)
 . rw [agZ,List.length_map]
   exact at0 (List.length_filterMap_le _ _) (at0 hk.2 (by decide))
 . have hX:=hk.1 p hp
   have i0:=hX.1
   have i4:=hX.2
   have hg:∀ {v:V4}{K:T->Prop},K (.int (v.lst.getD p.1.toNat 0))->gd (apn p.1) (opt (adh (v.lst.map T.int) p.1) K):=λk=>ixi i0 i4 (at2 rfl) k
   unfold wayO at ha h'
   refine hg ?_
   refine hg ?_
   refine bri (λhb=>?_) (λhb=>?_)
   . rw [if_neg (by simpa using hb)] at ha h'
     refine szi ha ?_
     refine hg ?_
     refine hg ?_
     refine bri (λhc=>?_) (λhc=>?_)
     . rw [if_pos (of_decide_eq_true hc)] at h'
       exact h'
     . rw [if_neg (of_decide_eq_false hc)] at h'
       exact h'
   . rw [if_pos (by simpa using hb),Option.toList_none,List.map_nil,List.append_nil] at h'
     exact h'
theorem amt{c0:Int}{l:V4}(n:Int):[(l.a:Int)-n*(if ((0:Nat):Int)==c0 then 1 else 0),l.b-n*(if ((0+1:Nat):Int)==c0 then 1 else 0),l.c-n*(if ((0+1+1:Nat):Int)==c0 then 1 else 0),l.d-n*(if ((0+1+1+1:Nat):Int)==c0 then 1 else 0)]=acm c0 n l:=by
 have e:∀ i:Int,(if i==c0 then (1:Int) else 0)=if c0=i then 1 else 0:=λi=>by
  by_cases z:c0=i
  . simp [z]
  . have:(i==c0)=false:=by simpa using Ne.symm z
    simp [z,this]
 rw [e,e,e,e];rfl
theorem apN{ks:List (Int×Int)}(hk:ad1 ks) {a b:List Int}(ha:a.length=4) (hb:b.length=4):∀ p∈ks,0<=p.1/\p.1<a.length/\p.1<b.length:=λp hp=>by
 rw [ha,hb]
 exact ⟨(hk.1 p hp).1,(hk.1 p hp).2,(hk.1 p hp).2⟩
theorem arc{ks:List (Int×Int)}(hk:ad1 ks) {u v:V4}{K:T->Prop}(k:K (.int (aeM ks u.lst v.lst))):ahM [.cmp (adj ks),u.t,v.t] K:=
 .inl ⟨ks,u.lst,v.lst,rfl,apN hk rfl rfl,at2 rfl,at2 rfl,hk.2,k⟩
theorem ato{ks:List (Int×Int)}(hk:ad1 ks) {a b:List Int}(ha:a.length=4) (hb:b.length=4) {tA tB:T}(eA:tA=.lst (a.map .int)) (eB:tB=.lst (b.map .int)) {K:T->Prop}(k:K (.int (aeM ks a b))):ahM [.cmp (adj ks),tA,tB] K:=
 .inr ⟨ks,a,b,by rw [eA,eB],apN hk ha hb,by rw [ha];decide,by rw [hb];decide,hk.2,k⟩
noncomputable def rhoT (h l:V4) (kT od:T):aab:=[("low",l.t),("high",h.t),("keys",kT),("order",od)]
noncomputable def rhoT2 (mo le wT:T) (h l:V4) (kT od:T):aab:=("more",mo) ::("less",le) ::("ways",wT) ::rhoT h l kT od
theorem ard (st:Stat γ):CallOK γ (Wd γ) true 2 (.ref 175) apM:=by
 refine aa0 (n:=20) (n':=20) (m:=20) (ow:=λ_=>false) (S:=SgT) (st.fn ("_law_told",175,28) (by decide)).2 (by rfl) (aas st FsOK.nil (MsOK.compare2 st MsOK.nil (by decide))) ?_
 rintro ts K ⟨ks,h,l,rfl,hk,hne,hK⟩
 refine ⟨rfl,?_⟩
 obtain ⟨od,hod⟩:∃ od:T,od=.cmp (adj ks):=⟨_,rfl⟩
 obtain ⟨kT,hkT⟩:∃ kT:T,kT=adj ks:=⟨_,rfl⟩
 refine hod▸?_;refine hkT▸?_
 change blF _ _ _ _ _ _ (19+1) [] (_ ::_) (rhoT h l kT od) [] _
 refine aap (st:=aoy 0) (af:=("ways",.lst ((ac0 ks h l).map .int)) ::rhoT h l kT od) (au:=[]) (λK1 h1=>abD (v:=adD (aoy 0)) rfl rfl (by rfl) (by rfl) (by rfl) (hkT▸ams hk.inn (hkT▸h1))) ?_
 obtain ⟨c1,c2,c3,c0,w1,w2,w3,w0,hkL,hlast2⟩:∃ c1 c2 c3 c0 w1 w2 w3 w0,kT=.lst [.tup [.int c1,.int w1],.tup [.int c2,.int w2],.tup [.int c3,.int w3],.tup [.int c0,.int w0]]/\ks.getLastD (0,0)=(c0,w0):=by
  obtain ⟨a,b,c,d,u,v,x,y,rfl,_⟩:=hk
  exact ⟨a,b,c,d,u,v,x,y,hkT,rfl⟩
 have h0:adh ((ac0 ks h l).map T.int) 0=some (.int ((ac0 ks h l).headD 0)):=by
  have:=amr hk hne
  generalize ac0 ks h l=ws at this
  cases ws with
  | nil=>exact absurd rfl this
  | cons a ws=>exact acv (k:=0) rfl
 obtain ⟨g1,g2⟩:=afH (h:=h) (l:=l) (ks:=ks)
 have g3:aeM ks l.lst l.lst=0:=by
  rw [afH.1,show ac0 ks l l=[] from List.filterMap_eq_nil_iff.mpr λp _=>if_pos rfl];rfl
 obtain ⟨g4,g5⟩:=amq hk (l:=l)
 rw [hlast2] at g4 g5
 generalize (ac0 ks h l).map T.int=WT at h0 ⊢
 generalize (ac0 ks h l).headD 0=a at *
 obtain ⟨le,hle⟩:∃ le:T,le=.lst ((acm c0 9 l).map .int):=⟨_,rfl⟩
 obtain ⟨mo,hmo⟩:∃ mo:T,mo=.lst ((acm c0 8 l).map .int):=⟨_,rfl⟩
 refine aap (st:=aoy 1) (af:=rhoT2 mo le (.lst WT) h l kT od) (au:=[]) (λK1 h1=>?_) ?_
 . rw [hle,hmo,<- amt,<- amt] at h1
   rw [hkL] at h1 ⊢
   exact h1
 refine hkL▸?_
 subst hod
 refine arc hk.inn (arc hk.inn (arc hk.inn ?_))
 rw [g1,g2,g3]
 refine ato hk.inn (a:=acm c0 9 l) (b:=acm c0 8 l) rfl rfl hle hmo (ato hk.inn (a:=acm c0 8 l) (b:=acm c0 9 l) rfl rfl hmo hle ?_)
 rw [g4,g5]
 refine abK h0 ?_
 refine abK h0 ?_
 change K (.bool (PyData.eqv (T.lst ([a,-a,0,-w0,w0].map T.int)).py (T.lst ([a,-a,0,-w0,w0].map T.int)).py))
 rw [aox]
 exact hK
end
theorem akB:typeLookup (.type "zip") "__len__"=pure none:=by exact am_miss_of_fast rfl
theorem aiP:typeLookup (.type "zip") "__length_hint__"=pure none:=by exact am_miss_of_fast rfl
section
variable{R:Result->Shared->Prop}
theorem aoz{x:Str}{p:Pos}{I S:Addr}{W V U:aag}{items:List T}{St:Nat->Shared->Prop}{res:Value}(Tn:Turns γ A.in1 (.Name x p) I W V items St) (hh:A.handled=none) (hSW:¬ W S) (hSV:¬ V S) (hlen:items.length<=10000)
  (hU:∀ b,V b->U b) (hUS:¬ U S) (hUW:∀ b,W b->¬ U b) :
  ∀ (k i:Nat) (s:Shared) (acc:Array Value),items.length-i=k->i<=items.length->St i s->s.heap.PlainList S acc->RepL U s.heap acc.toList (items.take i)->(∀ b,s.heap.get? b=none->U b)->
   (∀ s' acc',ExtX (λb=>b=S\/W b) s s'->s'.heap.PlainList S acc'->RepL U s'.heap acc'.toList items->R (.ok (.ret res)) s')->
   codeAny (model pg γ.w) A (.builtin "list.extend.loop" ⟨[.ref S,.ref I,res],[]⟩) R s:=by
 intro k
 induction k with
 | zero=>
  intro i s acc hk hi hst hS hacc hfr hR
  have hin:i=items.length:=by exact akX hk hi
  subst hin
  refine codeAny_builtin F.entry_extend_loop ?_
  show wpAny _ A.in1 (pyNext (.ref I) >>= _) _ _ s
  refine atY (Tn.done s _ _ (.inl hh) hst λs' hm=>?_)
  rw [List.take_length] at hacc
  refine (hS).elim λn e=>?_
  exact at3 (hR s' acc (hm.mono λb h=>.inr h) ⟨n,hm.keepC _ _ (λz=>by cases z) hSW e⟩ (hacc.extX hm λb hb hu=>hUW b hb hu))
 | succ k ih=>
  intro i s acc hk hi hst hS hacc hfr hR
  have hlt:i<items.length:=by exact au2 hk
  refine codeAny_builtin F.entry_extend_loop ?_
  refine (Around.under_plainId F.plain_extend_loop _)▸?_
  refine atY (Tn.item i items[i] s _ _ (aul hlt) hst λv a8 ae go=>?_)
  show wpAny _ A.in1 (letOwnedTupleGo (.Name x p) (.ref I) v >>= λ_=>(updateSeq S (·.push v) >>= _)) _ _ _
  refine atY (go _ _ λaa am av ti=>?_)
  have rv:Rep (λa=>V a\/s.heap.get? a=none) aa.heap v items[i]:=by
   refine ag λG kG=>?_
   rcases ti with h | ⟨⟨_,_,_,h⟩,_⟩
   refine kG ?_
   . exact h
   . cases h
  refine (hS).elim λn e=>?_
  have aD:=am.keepC _ _ (λz=>by cases z) hSW e
  refine atY ?_
  refine wpAny_updateSeq aD rfl (at3 ⟨plainId_quiet F.plain_extend_loop _,?_⟩) (aaf (by refine ((by rw [aac hacc,List.length_take];lia:acc.size=i))▸?_;lia)) (by show (acc.push v).size<=sizeLine+1;rw [Array.size_push,(by rw [aac hacc,List.length_take];lia:acc.size=i)];exact auI (aaf (by lia)))
  have pl:=aaQ (h:=aa.heap) ⟨n,aD⟩ λa=>a.push v
  have xu:ExtX (·=S) aa { aa with heap:=aa.heap.update S (Obj.mapSeq (·.push v)) }:=ExtX.but (tk:=aa.toks) aD (λ_ z=>by cases z) rfl (λb o hb e=>(Heap.get?_update_other _ _ (Ne.symm hb)).trans e) ((pl).elim λn' e'=>⟨_,e'⟩)
  have x3:ExtX (λb=>b=S\/W b) s { aa with heap:=aa.heap.update S (Obj.mapSeq (·.push v)) }:=(am.mono λb h=>.inr h).trans (xu.mono λb h=>.inl h)
  refine ih (i+1) _ (acc.push v) (ai8 hk) (Nat.succ_le_of_lt hlt) (Tn.frame _ _ _ (λb=>b=S) (λb hb=>⟨λh=>hSV (hb▸h),λh=>hSW (hb▸h)⟩) av xu) pl ?_ (λb hb=>?_) λs' acc' x' hp' hr'=>hR s' acc' (x3.trans x') hp' hr'
  . rw [Array.toList_push,List.take_succ_eq_append_getElem hlt]
    refine (hacc.extX x3 (λb hb hu=>hb.elim (λz=>hUS (z▸hu)) λz=>hUW b z hu:Off (λb=>b=S\/W b) U)).append (.cons ?_ .nil)
    exact (rv.mono (λb h=>h.elim (hU b) (hfr b)) λ_ _ _ _ e=>e).extX xu λb hb hu=>hUS (hb▸hu)
  . by_cases z:b=S
    . refine (pl).elim λn' e'=>?_
      replace hb:=z▸hb;replace hb:=e'▸hb;exact son hb
    . by_cases zw:W b
      . obtain ⟨o,eo⟩:=Tn.live _ _ av b zw
        have:=xu.there b z hb
        replace this:=eo▸this;exact son this
      . exact hfr b (x3.there b (λh=>h.elim z zw) hb)
theorem aiQ{x:Str}{p:Pos}{I:Addr}{W V U:aag}{items:List T}{St:Nat->Shared->Prop}{Q:Value->Shared->Prop}(Tn:Turns γ A.in1.in1 (.Name x p) I W V items St) (hh:A.handled=none) (hlen:items.length<=10000)
  (hT:∀ i s,St i s->s.TypeIs (.ref I) "zip") (st:St 0 s) (hV:∀ b,V b->U b/\∃ o,s.heap.get? b=some o) (hUW:∀ b,W b->¬ U b) (hfr:∀ b,s.heap.get? b=none->U b)
  (q:∀ s' acc,ExtX W s s'->s'.heap.PlainList s.heap.objs.size acc->RepL (λb=>U b/\b≠s.heap.objs.size) s'.heap acc.toList items->Q (.ref s.heap.objs.size) s') :
  wpAny (model pg γ.w) A (call (.type "list") [.ref I]) Q E s:=by
 obtain ⟨S,hS⟩:∃ S,S=s.heap.objs.size:=⟨_,rfl⟩
 have fS:s.heap.get? S=none:=at6 (aub hS.symm)
 have wl:=Tn.live _ _ st
 have nW:¬ W S:=λz=>by obtain ⟨o,e⟩:=wl S z;replace e:=fS▸e;cases e
 have nV:¬ V S:=λz=>by obtain ⟨_,o,e⟩:=hV S z;replace e:=fS▸e;cases e
 replace q:=hS▸q
 refine callType_codes (Q₁:=λobj a8=>obj=.ref S/\a8={ s with heap:=s.heap.push { cls:=.type "list",data:=.seq #[] } }) F.called_list (F.typeCall_list_1 _) F.entry_list_init (code_list_new _ ⟨by exact hS▸rfl,rfl⟩) ?_
 rintro obj a8 ⟨rfl,rfl⟩
 have eS:(s.heap.push { cls:=.type "list",data:=.seq #[] }).get? S=some { cls:=.type "list",data:=.seq #[] }:=hS▸at4 _ rfl
 refine ⟨⟨_,eS,rfl⟩,F.args_list_init_2 _ _,?_⟩
 have ae:Ext s { s with heap:=s.heap.push { cls:=.type "list",data:=.seq #[] } }:=Ext.push (tk:=s.toks)
 have dz:=Tn.frame _ _ _ (λ_=>False) (λ_ h=>h.elim) st ae
 show wpAny _ A.in1.in1 (do let old <- Builtin.List.listItems (.ref S);Builtin.List.listUpdate (.ref S) (λ_=>#[]);letGo old.toList.reverse;Builtin.List.listExtendWith (.ref S) (.ref I) .none) _ _ _
 refine atY ?_
 refine atY (au3 eS rfl (at3 ?_))
 have upd:∀ {aa:Shared}{f:Array Value->Array Value}{a:Array Value},aa.heap.PlainList S a->ExtX (·=S) aa { aa with heap:=aa.heap.update S (Obj.mapSeq f) }/\(aa.heap.update S (Obj.mapSeq f)).PlainList S (f a):=λ{aa f a} h=>by
  have pl:=aaQ h f
  refine (h).elim λn e=>?_
  exact ⟨ExtX.but (tk:=aa.toks) e (λ_ z=>by cases z) rfl (λb o hb e=>(Heap.get?_update_other _ _ (Ne.symm hb)).trans e) ((pl).elim λn' e'=>⟨_,e'⟩),pl⟩
 have offS:∀ b,b=S->¬ V b/\¬ W b:=λb hb=>⟨λh=>nV (hb▸h),λh=>nW (hb▸h)⟩
 refine atY (wpAny_updateSeq eS rfl ?_)
 refine (upd (aa:={ s with heap:=s.heap.push { cls:=.type "list",data:=.seq #[] } }) (f:=λ_=>#[]) ⟨_,eS⟩).elim λam dJ=>?_
 have av:=Tn.frame _ _ _ (λb=>b=S) offS dz am
 refine atY (wpAny_letGo ?_)
 have hSI:S≠I:=λe=>by obtain ⟨o,eo,_⟩:=hT _ _ st;replace eo:=e▸eo;replace eo:=fS▸eo;cases eo
 refine atY (wpAny_typeOf (hT 0 _ av) ?_)
 have h1:Builtin.List.listSameRef (.ref S) (.ref I)=false:=by simp [Builtin.List.listSameRef,hSI]
 have h2:(Value.type "zip"==Value.type "list")=false:=by decide
 have h3:(Value.type "zip"==Value.type "tuple")=false:=by decide
 simp only [h1,h2,h3,Bool.or_false,Bool.false_eq_true,if_false]
 refine atY (Tn.self 0 _ _ _ av ?_)
 refine atY (aud ?_)
 refine atY (wpAny_specialOf (hT 0 _ av) akB ?_)
 refine atY (wpAny_specialOf (hT 0 _ av) aiP ?_)
 refine at3 ?_
 refine atY (wpAny_rule ?_)
 refine atY ?_
 refine (dJ).elim λet aD=>?_
 refine atY (wpAny_updateSeq aD rfl ?_)
 refine (upd (aa:={ s with heap:=(s.heap.push { cls:=.type "list",data:=.seq #[] }).update S (Obj.mapSeq λ_=>#[]) }) (f:=(·.push Value.none)) ⟨_,aD⟩).elim λan dK=>?_
 have bE:=Tn.frame _ _ _ (λb=>b=S) offS av an
 obtain ⟨eu,aL⟩:=dK
 refine wpAny_updateSeq aL rfl ?_
 obtain ⟨ay,d5⟩:=upd (aa:={ s with heap:=((s.heap.push { cls:=.type "list",data:=.seq #[] }).update S (Obj.mapSeq λ_=>#[])).update S (Obj.mapSeq (·.push Value.none)) }) (f:=(·.pop)) ⟨_,aL⟩
 have cG:=Tn.frame _ _ _ (λb=>b=S) offS bE ay
 have cI:=(((ae.toX (X:=λb=>b=S)).trans am).trans an).trans ay
 refine at3 ⟨plainId_quiet F.plain_extend_loop _,aoz Tn hh nW nV hlen (U:=λb=>U b/\b≠S) (λb hb=>⟨(hV b hb).1,λz=>nV (z▸hb)⟩) (λh=>h.2 rfl) (λb hb h=>hUW b hb h.1)
  items.length 0 _ #[] (Nat.sub_zero _) (aup _) cG d5 .nil (λb hb=>⟨hfr b ?_,λz=>?_⟩) λs' acc' x' hp hr=>⟨rfl,?_⟩⟩
 . exact Classical.byCases (λz:b=S=>z▸fS) λz=>cI.there b z hb
 . refine (d5).elim λn' e'=>?_
   replace hb:=z▸hb;replace hb:=e'▸hb;cases hb
 . exact q s' acc' (ExtX.thenW (W:=λb=>b=S) (ae.toX) (((am.trans an).trans ay).mono (λb h=>.inr h) |>.trans (x'.mono λb h=>h.elim .inr .inl)) λb hb=>hb▸fS) hp hr
end
section
variable{K:T->Prop}
noncomputable def lzK (ev:EvF) (a b:Expr) (sc:aad) (ρ:aab) (K:T->Prop):Prop:=
 gd ((aaW sc "list"&&aaW sc "zip")&&(aai a&&aai b))
  (ev sc a ρ λt=>apo t λl=>ev sc b ρ λu=>apo u λl'=>gd (l.length==l'.length) (K (.lst (akS l l'))))
theorem aoA (hs:aaz γ it r ev) (hit:it=true) {a b:Expr}{p1 p2 p3 p4:Pos}(c:Cx γ it r A V s env sc ρ) (h:lzK ev a b sc ρ K) :
  Ev γ A V s (eval (.Call (.Name "list" p1) [.Call (.Name "zip" p2) [a,b] [] p3] [] p4) env) K:=by
 have hh:=c.aok.free hit
 replace h:=gd2 h
 have h1:=h.1
 have h2:=h.2.1
 have h:=h.2.2
 have hX:=Bool.and_eq_true_iff.mp h1
 have gl:=hX.1
 have gz:=hX.2
 have hX:=Bool.and_eq_true_iff.mp h2
 have hp:=hX.1
 have hp':=hX.2
 refine aaH c rfl gl (abG c.wd (v:=.type "list") (by decide)) abn (acD rfl) (acR rfl ?_)
 refine aaH c rfl gz (abG c.wd (v:=.type "zip") (by decide)) abn (aca hp hp') (adz hp hp' (aaj (hs _ _ _ _ h A V s env c) λv a8 t ak ae rv=>?_))
 refine (adO ak).elim λl hX1=>hX1.elim λe1 hX2=>hX2.elim λb1 ak=>?_
 refine aaj (hs _ _ _ _ ak A V a8 env (c.ext ae)) λu aa t' aq am ru=>⟨ae.trans am,?_⟩
 refine (adO aq).elim λl' hX1=>hX1.elim λe2 hX2=>hX2.elim λb2 aq=>?_
 refine (gd_ aq).elim λhl hK=>?_
 have hl:=eq_of_beq hl
 refine ajl (A:=A.in1.in1) (target:=.Name "x" p1) hh (V:=Nv V s) (rv.ext am) (ru.nv ae) e1 e2 hl λI ai _ z=>?_
 refine (z).elim λW hX1=>hX1.elim λV' hX2=>hX2.elim λSt hX3=>hX3.elim λTn hX4=>hX4.elim λst hX5=>hX5.elim λan hX6=>hX6.elim λhw hX7=>hX7.elim λhV hT=>?_
 have x03:=(ae.trans am).trans an
 have nw:∀ b,ai.heap.get? b=none->¬ W b:=λb hb z=>by
  obtain ⟨o,e⟩:=Tn.live _ _ st b z
  replace e:=hb▸e;exact nos e
 refine ⟨x03,aiQ Tn hh (by refine (adx hl)▸?_;exact b1) hT st (U:=λb=>Nv V s b/\¬ W b) (λb hb=>⟨⟨(hV b hb).1,(hV b hb).2.1⟩,(hV b hb).2.2⟩) (λb hb h=>h.2 hb)
  (λb hb=>⟨.inr (x03.there b id hb),nw b hb⟩) λs' acc x' pl rl=>?_⟩
 refine ⟨_,hK,ExtX.thenW (W:=W) x03 (x'.mono λb h=>.inr h) (λb hb=>(ae.trans am).there b id (hw b hb)),.lst (.inr ?_) pl ?_⟩
 . exact x03.there _ id (at6 (auf _))
 . exact rl.mono (λb h=>h.1.1) λ_ _ _ _ e=>e
end
set_option backward.match.sparseCases false
noncomputable def sgH (fs ms:List (Str×Fun)) (hk:Expr->Option (aad->aab->(T->Prop)->Prop)):Sg:=⟨λx=>fs.lookup x,λx=>conL.lookup x,λx=>ms.lookup x,hk⟩
noncomputable def evN:EvF:=aam (aeL [] []) true 3
noncomputable def hkE (l c:Nat) (bb:Expr) (F:aad->aab->(T->Prop)->Prop):Expr->Option (aad->aab->(T->Prop)->Prop):=λe=>match e with
 | .Call g as ks p=>(match Nat.beq p.line l&&Nat.beq p.col c with
  | true=>some λsc ρ K=>e=bb/\F sc ρ K
  | false=>none)
 | _=>none
section
theorem apO{l c:Nat}{bb:Expr}{F:aad->aab->(T->Prop)->Prop}(h:∀ sc ρ K,F sc ρ K->∀ A V s env,Cx γ it r A V s env sc ρ->Ev γ A V s (eval bb env) K) :
  ∀ e F',hkE l c bb F e=some F'->∀ sc ρ K,F' sc ρ K->∀ A V s env,Cx γ it r A V s env sc ρ->Ev γ A V s (eval e env) K:=by
 intro e F'
 cases e with
 | Call g as ks p=>
  unfold hkE
  dsimp only
  cases Nat.beq p.line l&&Nat.beq p.col c with
  | true=>exact λhF=>by obtain rfl:=soi hF;exact λsc ρ K hk=>hk.1▸h sc ρ K hk.2
  | false=>exact nos
 | _=>exact nos
end
noncomputable abbrev ar8 (i:Nat):Stmt:=(abE (aaa 25)).getD i (.Pass ⟨0,0,0,0⟩)
noncomputable def lzHk:Expr->Option (aad->aab->(T->Prop)->Prop):=hkE 171 12 (adD (ar8 0)) (lzK evN (.Name "symbols" ⟨171,21,171,28⟩) (.Name "counts" ⟨171,30,171,36⟩))
section
theorem apP (st:Stat γ) {fs ms:List (Str×Fun)} {hk}(h1:FsOK γ it r fs) (h2:MsOK γ it r ms)
  (h3:∀ e g sc p,hk (.ListComp e g sc p)=none/\hk (.SetComp e g sc p)=none/\∀ v,hk (.DictComp e v g sc p)=none)
  (h4:∀ e F,hk e=some F->∀ sc ρ K,F sc ρ K->∀ A V s env,Cx γ it r A V s env sc ρ->Ev γ A V s (eval e env) K):SgOK γ (sgH fs ms hk) it r where
 fn:=λx F hx=>h1 _ (mem_of_lookup hx)
 con:=λx i hx=>st.con _ (mem_of_lookup hx)
 mt:=λx F hx a f hf=>h2 _ (mem_of_lookup hx) a f hf
 hkn:=h3
 hk:=h4
theorem ahN (st:Stat γ):aaz γ true r evN:=aal (aas st FsOK.nil MsOK.nil) 3
theorem are (st:Stat γ):∀ e F,lzHk e=some F->∀ sc ρ K,F sc ρ K->∀ A V s env,Cx γ true r A V s env sc ρ->Ev γ A V s (eval e env) K:=
 apO λsc ρ K h A V s env c=>aoA (ahN st) rfl c h
end
noncomputable def adE (p:Int×Int):T:=if p.1<256 then .int p.2 else .tup [.int p.2,.int (p.2*p.1)]
noncomputable def afZ (ps:List (Int×Int)):List (Int×T):=(ps.filter λp=>p.2 != 0).map λp=>(p.1,adE p)
noncomputable def aer (ps:List (Int×Int)):List Int:=(ps.filter λp=>decide (p.1<256)).map (·.2)
noncomputable def ahO (ps:List (Int×Int)):List Int:=ps.map λp=>p.1*p.2
noncomputable def entF (ps:List (Int×Int)) (k:Int):T:=.tup [.int (aer ps).sum,.int (ps.headD (0,0)).2,.int (ahO ps).sum,.int k,.dct ((afZ ps).foldl abr [])]
inductive FEnt (ts:List T) (K:T->Prop):Prop
 | mk (ps:List (Int×Int)) (k:Int) (c:T) (e:ts=[c,.lst (ps.map λp=>.int p.1),.int k]) (s:aeJ c (ps.map λp=>.int p.2)) (l:ps.length<=100) (n:ps≠[]) (z:∀ p∈ps,sz p.1/\sz p.2) (h:K (entF ps k)):FEnt ts K
noncomputable def amu:Fun:=FEnt
theorem arf{t:T}{l:List T}{K:List T->Prop}(h:aeJ t l) (k:l.length<=10000) (k':K l):apo t K:=by
 rcases h with rfl | rfl <;> exact szi k k'
theorem arh{t v:T}{l:List T}{i:Int}{K:T->Prop}(h:aeJ t l) (g:adh l i=some v) (o:apn i=true) (k:K v):asu t (.int i) K:=by
 rcases h with rfl | rfl <;> exact gdi o (abK g k)
theorem ajG (f g:Int×Int->T):∀ ps:List (Int×Int),akS (ps.map f) (ps.map g)=ps.map λp=>.tup [f p,g p]
 | []=>rfl
 | p ::ps=>by show _ ::_=_ ::_;exact (ajG f g ps)▸rfl
section
noncomputable def rhoE (kT yT cT:T):aab:=[("steps",kT),("symbols",yT),("counts",cT)]
noncomputable abbrev SgEn:Sg:=sgH [("ISTERMINAL",ajx),("sum",asT)] [] lzHk
theorem atp{ps:List (Int×Int)}{kT yT cT:T}{K:T->Prop}(hl:ps.length<=100) (hz:∀ p∈ps,sz p.1/\sz p.2) (hK:K (.dct ((afZ ps).foldl abr []))) :
  aam SgEn true 21 (aaD (aaa 25)).names (adD (ar8 1)) (("pairs",.lst (ps.map λp=>.tup [.int p.1,.int p.2])) ::rhoE kT yT cT) K:=by
 refine szi (by rw [List.length_map];exact at0 hl (by decide)) ?_
 refine abp (λp:Int×Int=>T.tup [.int p.1,.int p.2]) (λp=>if (p.2 != 0)=true then [(p.1,adE p)] else []) ps [] _ (by refine List.length_nil▸?_;rw [Nat.zero_add];exact at0 (ae0 _ _ _) (at0 hl (by decide))) (λp hp acc K hl hK=>?_) (by rw [List.nil_append,ac2];exact hK)
 refine abK (t:=[("many",T.int p.2),("symbol",T.int p.1)]) rfl ?_
 refine bri (λhb=>?_) (λhb=>?_)
 . rw [if_pos hb] at hK hl
   unfold adE at hK
   refine szi hl ?_
   refine bri (λhc=>?_) (λhc=>?_)
   . rw [if_pos (of_decide_eq_true hc)] at hK
     exact hK
   . rw [if_neg (of_decide_eq_false hc)] at hK
     exact aa2 (hz p hp).2 (aa2 (hz p hp).1 hK)
 . rw [if_neg (by refine hb▸?_;decide),List.append_nil] at hK
   exact hK
theorem aoB (st:Stat γ):CallOK γ (Wd γ) true 2 (.ref 158) amu:=by
 refine aa0 (n:=20) (n':=20) (m:=20) (ow:=λ_=>false) (S:=SgEn) (st.fn ("_law_entry",158,25) (by decide)).2 (by rfl)
  (apP st (FsOK.fn st (a:=105) (i:=15) (by decide) (aiF st) (FsOK.blt st (n:="sum") (by decide) apy FsOK.nil)) MsOK.nil (λ_ _ _ _=>⟨rfl,rfl,λ_=>rfl⟩) (are st)) ?_
 rintro ts K ⟨ps,k,c,rfl,hsq,hlen,hne,hsz,hK⟩
 refine ⟨rfl,?_⟩
 have ll:ps.length<=10000:=at0 hlen (by decide)
 have lm:∀ f:Int×Int->T,(ps.map f).length<=10000:=λf=>by rw [List.length_map];exact ll
 change blF _ _ _ _ _ _ (19+1) [] (_ ::_) (rhoE (.int k) (.lst (ps.map λp=>.int p.1)) c) [] _
 refine aap (st:=ar8 0) (af:=("pairs",.lst (ps.map λp=>.tup [.int p.1,.int p.2])) ::rhoE (.int k) (.lst (ps.map λp=>.int p.1)) c) (au:=[]) (λK1 h1=>abD (v:=adD (ar8 0)) rfl rfl (by rfl) (by rfl) (by rfl) ⟨rfl,gdi rfl (szi (lm _) (arf hsq (lm _) (eqi (by rw [List.length_map,List.length_map]) (by rw [ajG];exact h1))))⟩) ?_
 refine aap (st:=ar8 1) (af:=("table",.dct ((afZ ps).foldl abr [])) ::("pairs",.lst (ps.map λp=>.tup [.int p.1,.int p.2])) ::rhoE (.int k) (.lst (ps.map λp=>.int p.1)) c) (au:=[]) (λK1 h1=>abD (v:=adD (ar8 1)) rfl rfl (by rfl) (by rfl) (by rfl) (atp hlen hsz h1)) ?_
 refine szi (lm _) ?_
 refine abp (λp:Int×Int=>T.tup [.int p.1,.int p.2]) (λp=>if decide (p.1<256)=true then [T.int p.2] else []) ps [] _ (by refine List.length_nil▸?_;rw [Nat.zero_add];exact at0 (ae0 _ _ _) ll) (λp hp acc K hl hK=>?_) ?_
 . refine abK (t:=[("many",T.int p.2),("symbol",T.int p.1)]) rfl ?_
   refine bri (λhb=>?_) (λhb=>?_)
   . rw [if_pos hb] at hK hl
     exact szi hl hK
   . rw [if_neg (by refine hb▸?_;decide),List.append_nil] at hK
     exact hK
 rw [List.nil_append,ac2,show (ps.filter λp=>decide (p.1<256)).map (λp=>T.int p.2)=(aer ps).map .int from by unfold aer;rw [List.map_map];rfl]
 refine abK (acU _) ?_
 have hc0:adh (ps.map λp=>T.int p.2) 0=some (.int (ps.headD (0,0)).2):=by
  clear hlen
  cases ps with
  | nil=>exact absurd rfl hne
  | cons p ps=>exact acv (k:=0) rfl
 refine arh hsq hc0 rfl ?_
 refine szi (lm _) ?_
 refine abp (λp:Int×Int=>T.tup [.int p.1,.int p.2]) (λp=>[T.int (p.1*p.2)]) ps [] _ (by rw [abw,List.length_map,List.length_nil,Nat.zero_add];exact ll) (λp hp acc K hl hK=>?_) ?_
 . refine abK (t:=[("b",T.int p.2),("a",T.int p.1)]) rfl ?_
   exact szi hl (aa2 (hsz p hp).1 (aa2 (hsz p hp).2 hK))
 rw [List.nil_append,abw,show ps.map (λp=>T.int (p.1*p.2))=(ahO ps).map .int from by unfold ahO;rw [List.map_map];rfl]
 exact abK (acU _) hK
end
noncomputable def atq:T->T->T
 | .int a,.int b=>.int (a+b)
 | .tup [.int a,.int b],.tup [.int c,.int d]=>.tup [.int (a+c),.int (b+d)]
 | t,_=>t
inductive LikeT:T->T->Prop
 | int (a b:Int):LikeT (.int a) (.int b)
 | tup (a b c d:Int):LikeT (.tup [.int a,.int b]) (.tup [.int c,.int d])
noncomputable def akT (acc:List (Int×T)) (p:Int×T):List (Int×T):=
 match acc.lookup p.1 with
 | some v=>abr acc (p.1,atq v p.2)
 | none=>abr acc p
noncomputable def ar9 (t:List (Int×T)) (s:List (Int×T)):List (Int×T):=s.foldl akT (t.foldl abr [])
noncomputable def ahP (a b c d:Int) (t:List (Int×T)):T:=.tup [.int a,.int b,.int c,.int d,.dct t]
noncomputable def OkC (t s:List (Int×T)):Prop:=t.length+s.length<=100/\(t.map (·.1)).Nodup/\(s.map (·.1)).Nodup/\∀ p∈s,∀ v,t.lookup p.1=some v->LikeT v p.2
inductive Fiaddc (ts:List T) (K:T->Prop):Prop
 | mk (t s:List (Int×T)) (e0:ts=[.dct t,.dct s]) (e1:OkC t s) (e2:K (.dct (ar9 t s))):Fiaddc ts K
noncomputable def ajH:Fun:=Fiaddc
inductive FAfs (ts:List T) (K:T->Prop):Prop
 | mk (a b c d:Int) (t:List (Int×T)) (a' b' c' d':Int) (s:List (Int×T)) (e:ts=[ahP a b c d t,ahP a' b' c' d' s]) (o:OkC t s) (h:K (ahP (a'+a) (b'+b) (c'+c) (d'+d) (ar9 t s))):FAfs ts K
noncomputable def atr:Fun:=FAfs
section
theorem ats (st:Stat γ) (hc:CallOK γ (Wd γ) true 6 (.ref 56) ajH):CallOK γ (Wd γ) true 7 (.ref 49) atr:=by
 refine aa0 (n:=20) (n':=20) (m:=20) (ow:=λ_=>false) (S:=aeL [("add_callers",ajH)] []) (st.fn ("add_func_stats",49,2) (by decide)).2 (by rfl)
  (aas st (FsOK.fn st (a:=56) (i:=3) (by decide) hc FsOK.nil) MsOK.nil) ?_
 rintro ts K ⟨a,b,c,d,t,a',b',c',d',s,rfl,ho,hK⟩
 refine ⟨rfl,?_⟩
 refine ag λG kG=>?_
 obtain ⟨X,hX⟩:∃ X:T,X=.dct t:=⟨_,rfl⟩
 obtain ⟨Y,hY⟩:∃ Y:T,Y=.dct s:=⟨_,rfl⟩
 refine kG ?_
 unfold ahP
 refine hX▸?_;refine hY▸?_
 exact ⟨t,s,by refine hX▸?_;exact hY▸rfl,ho,hK⟩
end
noncomputable abbrev Y4:=Int×Int×Int×Int
noncomputable def ps4 (y:Y4) (a b c d:Int):List (Int×Int):=[(y.1,a),(y.2.1,b),(y.2.2.1,c),(y.2.2.2,d)]
noncomputable def psV (y:Y4) (v:V4):List (Int×Int):=ps4 y v.a v.b v.c v.d
noncomputable abbrev E5:=Int×Int×Int×Int×List (Int×T)
noncomputable def E5.t (e:E5):T:=ahP e.1 e.2.1 e.2.2.1 e.2.2.2.1 e.2.2.2.2
noncomputable def acd (ps:List (Int×Int)) (k:Int):E5:=((aer ps).sum,(ps.headD (0,0)).2,(ahO ps).sum,k,(afZ ps).foldl abr [])
theorem ent5_t (ps:List (Int×Int)) (k:Int):entF ps k=(acd ps k).t:=rfl
noncomputable def asa (e s:E5):E5:=(s.1+e.1,s.2.1+e.2.1,s.2.2.1+e.2.2.1,s.2.2.2.1+e.2.2.2.1,ar9 e.2.2.2.2 s.2.2.2.2)
noncomputable abbrev U2:=(Int×V4)×(Int×V4)
noncomputable def psU (y:Y4) (u:U2):List (Int×Int):=ps4 y (u.2.2.a-u.1.2.a) (u.2.2.b-u.1.2.b) (u.2.2.c-u.1.2.c) (u.2.2.d-u.1.2.d)
noncomputable def aeO (y:Y4) (e:E5) (us:List U2):E5:=us.foldl (λe u=>asa e (acd (psU y u) 1)) e
noncomputable def ahQ (y:Y4):E5->List U2->Prop
 | _,[]=>True
 | e,u ::us=>OkC e.2.2.2.2 (acd (psU y u) 1).2.2.2.2/\ahQ y (asa e (acd (psU y u) 1)) us
noncomputable def aes:T->Bool
 | .int n=>n==0
 | .tup [.int a,.int b]=>a==0&&b==0
 | _=>false
noncomputable def aeP (l:List (Int×T)):List (Int×T):=l.filter λp=>!aes p.2
noncomputable def SzP (ps:List (Int×Int)):Prop:=∀ p∈ps,sz p.1/\sz p.2
noncomputable def afK (us:List U2):T:=.lst (us.map λu=>.tup [.int u.1.1,.int u.2.1])
noncomputable def y4T (y:Y4):T:=.lst [.int y.1,.int y.2.1,.int y.2.2.1,.int y.2.2.2]
structure KeptIn (y:Y4) (R:List (Int×T)) (top en:Int×V4) (us:List U2):Prop where
 hTop:abR R top.1=some top.2.t
 hEn:abR R en.1=some en.2.t
 hUs:∀ u∈us,abR R u.1.1=some u.1.2.t/\abR R u.2.1=some u.2.2.t/\SzP (psU y u)
 few:us.length<=3000
 szt:SzP (psV y top.2)
 sze:SzP (psV y en.2)
 ok:ahQ y (acd (psV y top.2) 0) us
 tab:(aeO y (acd (psV y top.2) 0) us).2.2.2.2.length<=100/\∀ p∈(aeO y (acd (psV y top.2) 0) us).2.2.2.2,LikeT p.2 p.2
 fin:apk [.int (aeO y (acd (psV y top.2) 0) us).1,.int (aeO y (acd (psV y top.2) 0) us).2.1,.int (aeO y (acd (psV y top.2) 0) us).2.2.1,.int (aeO y (acd (psV y top.2) 0) us).2.2.2.1,.dct ((aeP (aeO y (acd (psV y top.2) 0) us).2.2.2.2).foldl abr [])]
  [.int (acd (psV y en.2) us.length).1,.int (acd (psV y en.2) us.length).2.1,.int (acd (psV y en.2) us.length).2.2.1,.int (acd (psV y en.2) us.length).2.2.2.1,.dct (acd (psV y en.2) us.length).2.2.2.2]
 fst:apk [.int (acd (psV y top.2) 0).1,.int (acd (psV y top.2) 0).2.1,.int (acd (psV y top.2) 0).2.2.1,.int (acd (psV y top.2) 0).2.2.2.1,.dct (acd (psV y top.2) 0).2.2.2.2]
  [.int (acd (psV y top.2) 0).1,.int (acd (psV y top.2) 0).2.1,.int (acd (psV y top.2) 0).2.2.1,.int (acd (psV y top.2) 0).2.2.2.1,.dct (acd (psV y top.2) 0).2.2.2.2]
theorem ahR{α:Type}(c:α->Bool) (xs:List α):(xs.flatMap λx=>if c x=true then [x] else [])=xs.filter c:=(ac2 c (λx=>x) xs).trans (List.map_id' _)
theorem live_in{x:Int}{t:T}{l:List (Int×T)}(h:aes t=false):aeP ((x,t) ::l)=(x,t) ::aeP l:=by
 unfold aeP
 exact (List.filter_cons_of_pos (p:=λp:Int×T=>!aes p.2) (a:=(x,t)) (by refine (show ((x,t):Int×T).2=t from rfl).symm▸?_;refine h▸?_;rfl))
theorem live_out{x:Int}{t:T}{l:List (Int×T)}(h:aes t=true):aeP ((x,t) ::l)=aeP l:=by
 unfold aeP
 exact (List.filter_cons_of_neg (p:=λp:Int×T=>!aes p.2) (a:=(x,t)) (by refine (show ((x,t):Int×T).2=t from rfl).symm▸?_;refine h.symm▸?_;decide))
theorem akC{α β:Type}{bind:T->aab->aab->Option (aab×aab)}{body:aab->aab->(Out->Prop)->Prop}{ks ko:List Str}{ω:aab}{K:Out->Prop}(g:α->T) (W:β->aab) (f:β->α->β) (P:List α->β->Prop):∀ (xs:List α) (b:β),(∀ x xs b,P (x ::xs) b->P xs (f b x)/\∀ (K1:aab->aab->Prop) (K2:Out->Prop),K1 (W (f b x)) ω->opt (bind (g x) (W b) ω) λp=>body p.1 p.2 λo=>match o with
   | .nx ρ ω=>K1 (abO ks ρ) (abO ko ω)
   | .br ρ ω=>K2 (.nx (abO ks ρ) (abO ko ω))
   | .rt t=>K2 (.rt t))->P xs b->K (.nx (W (xs.foldl f b)) ω)->afX bind body ks ko (xs.map g) (W b) ω K:=by
 intro xs
 induction xs with
 | nil=>exact λb _ _ h=>h
 | cons x xs ih=>exact λb h hb hK=>(h x xs b hb).2 (λρ ω=>afX bind body ks ko (xs.map g) ρ ω K) K (ih _ h (h x xs b hb).1 hK)
theorem amv{y:Y4}{v:V4}{k:Int}{K:T->Prop}(hz:SzP (psV y v)) (h:K (acd (psV y v) k).t):FEnt [v.t,y4T y,.int k] K:=⟨psV y v,k,v.t,rfl,.inr rfl,by show 4<=100;decide,nofun,hz,h⟩
noncomputable abbrev SgK:Sg:=aeL [("_law_entry",amu),("add_func_stats",atr),("len",ahG)] []
noncomputable abbrev ag0 (i:Nat):Stmt:=(abE (aaa 26)).getD i (.Pass ⟨0,0,0,0⟩)
noncomputable def rhoK (yT rT uT:T) (en top:Int):aab:=[("symbols",yT),("rows",rT),("used",uT),("end",.int en),("top",.int top)]
noncomputable def kW (ft yT rT uT:T) (en top:Int) (e:T):aab:=("entry",e) ::("first",ft) ::rhoK yT rT uT en top
theorem amw{y:Y4}{R:List (Int×T)}{us:List U2}{ft:T}{en top:Int}{e0:E5}{m:Nat}{K:Out->Prop}(few:us.length<=3000) (hUs:∀ u∈us,abR R u.1.1=some u.1.2.t/\abR R u.2.1=some u.2.2.t/\SzP (psU y u)) (ok:ahQ y e0 us)
  (h:K (.nx (kW ft (y4T y) (.dct R) (afK us) en top (aeO y e0 us).t) [])):stF true (aam SgK true 21) 20 (aaD (aaa 26)).names (λ_=>false) afY (blF true (aam SgK true 21) 20 (aaD (aaa 26)).names (λ_=>false) afY (m+2)) [] (ag0 2) (kW ft (y4T y) (.dct R) (afK us) en top e0.t) [] K:=by
 refine szi (by rw [List.length_map];exact at0 few (by exact at2 rfl)) ?_
 generalize afK us=uT at h ⊢
 refine akC (λu:U2=>T.tup [.int u.1.1,.int u.2.1]) (λe=>kW ft (y4T y) (.dct R) uT en top e.t) (λe u=>asa e (acd (psU y u) 1)) (λus e=>(∀ u∈us,abR R u.1.1=some u.1.2.t/\abR R u.2.1=some u.2.2.t/\SzP (psU y u))/\ahQ y e us) us e0 (λu us e hp=>⟨⟨λu hu=>hp.1 u (.tail _ hu),hp.2.2⟩,λK1 K2 h=>?_⟩) ⟨hUs,ok⟩ h
 have hX:=hp.1 u (.head _)
 refine abK (t:=(("right",.int u.2.1) ::("left",.int u.1.1) ::kW ft (y4T y) (.dct R) uT en top e.t,[])) rfl ?_
 refine abK hX.1 (abK hX.2.1 ?_)
 refine ⟨psU y u,1,_,rfl,.inl rfl,by show 4<=100;decide,nofun,hX.2.2,?_⟩
 exact ⟨e.1,e.2.1,e.2.2.1,e.2.2.2.1,e.2.2.2.2,(acd (psU y u) 1).1,(acd (psU y u) 1).2.1,(acd (psU y u) 1).2.2.1,(acd (psU y u) 1).2.2.2.1,(acd (psU y u) 1).2.2.2.2,rfl,hp.2.1,h⟩
inductive Fikept (ts:List T) (K:T->Prop):Prop
 | mk (y R top en us:_) (e0:ts=[.int top.1,.int en.1,afK us,.dct R,y4T y]) (e1:KeptIn y R top en us) (e2:K (.bool true)):Fikept ts K
noncomputable def apQ:Fun:=Fikept
section
theorem aoC{ft yT rT uT:T}{en top:Int}{e:T}{a b c d:Int}{L:List (Int×T)}{K:T->Prop}(he:e=.tup [.int a,.int b,.int c,.int d,.dct L]) (hl:L.length<=100) (h:∀ p∈L,LikeT p.2 p.2) (hK:K (.dct ((aeP L).foldl abr []))) :
  aam SgK true 21 (aaD (aaa 26)).names (adD (ag0 3)) (kW ft yT rT uT en top e) K:=by
 subst he
 refine szi (at0 hl (by decide)) ?_
 refine abp (λp:Int×T=>T.tup [.int p.1,p.2]) (λp=>if (!aes p.2)=true then [p] else []) L [] _ (by rw [ahR (λp:Int×T=>!aes p.2),List.length_nil,Nat.zero_add];exact at0 (au5 _ _) (at0 hl (by decide))) (λp hp acc K hl hK=>?_) ?_
 . obtain ⟨x,t⟩:=p
   cases (h _ hp:LikeT t t) with
   | int m=>
    have zt:aes (.int m)=!(m != 0):=(Bool.not_not _).symm
    refine bri (λhb=>?_) (λhb=>?_)
    . rw [zt,hb] at hK hl
      exact szi hl hK
    . rw [zt,hb] at hK
      rw [show (acc++if (!!false)=true then [(x,T.int m)] else [])=acc from List.append_nil acc] at hK
      exact bri (λh'=>ff (hb.symm.trans h')) λ_=>hK
   | tup a b=>
    have zt:aes (.tup [.int a,.int b])=!(!(a==0&&(b==0&&true))):=by show (a==0&&b==0)=_;rw [Bool.not_not,Bool.and_true]
    refine bri (λhb=>?_) (λhb=>?_)
    . rw [zt,show (!(a==0&&(b==0&&true)))=true from hb] at hK hl
      exact szi hl hK
    . rw [zt,show (!(a==0&&(b==0&&true)))=false from hb] at hK
      rw [show (acc++if (!!false)=true then [(x,T.tup [.int a,.int b])] else [])=acc from List.append_nil acc] at hK
      exact bri (λh'=>ff (Eq.trans (Eq.symm hb) h')) λ_=>hK
 . rw [List.nil_append,ahR (λp:Int×T=>!aes p.2)]
   exact hK
theorem ari (st:Stat γ) (hc:CallOK γ (Wd γ) true 6 (.ref 56) ajH):CallOK γ (Wd γ) true 8 (.ref 163) apQ:=by
 refine aa0 (n:=20) (n':=20) (m:=20) (ow:=λ_=>false) (S:=SgK) (st.fn ("_law_kept",163,26) (by decide)).2 (by rfl)
  (aas st (FsOK.fn st (a:=158) (i:=25) (by decide) ((aoB st).le (by exact at2 rfl)) (FsOK.fn st (a:=49) (i:=2) (by decide) (ats st hc) (FsOK.blt st (n:="len") (by decide) agi FsOK.nil))) MsOK.nil) ?_
 rintro ts K ⟨y,R,⟨top,vt⟩,⟨en,ve⟩,us,rfl,ki,hK⟩
 refine ⟨rfl,?_⟩
 obtain ⟨ft,hft⟩:∃ ft:T,ft=(acd (psV y vt) 0).t:=⟨_,rfl⟩
 change blF _ _ _ _ _ _ (19+1) [] (_ ::_) (rhoK (y4T y) (.dct R) (afK us) en top) [] _
 refine aap (st:=ag0 0) (af:=("first",ft) ::rhoK (y4T y) (.dct R) (afK us) en top) (au:=[]) (λK1 h1=>abD (v:=adD (ag0 0)) rfl rfl (by rfl) (by rfl) (by rfl) (abK ki.hTop (amv ki.szt (hft▸h1)))) ?_
 refine aap (st:=ag0 1) (af:=kW ft (y4T y) (.dct R) (afK us) en top (acd (psV y vt) 0).t) (au:=[]) (λK1 h1=>abD (v:=adD (ag0 1)) rfl rfl (by rfl) (by rfl) (by rfl) (hft▸h1)) ?_
 refine aap (st:=ag0 2) (af:=kW ft (y4T y) (.dct R) (afK us) en top (aeO y (acd (psV y vt) 0) us).t) (au:=[]) (λK1 h1=>amw ki.few ki.hUs ki.ok h1) ?_
 refine (ki.tab).elim λtl tk=>?_
 have fin:=ki.fin
 generalize aeO y (acd (psV y vt) 0) us=e1 at tl tk fin ⊢
 obtain ⟨a1,b1,c1,d1,L⟩:=e1
 refine aap (st:=ag0 3) (af:=("table",.dct ((aeP L).foldl abr [])) ::kW ft (y4T y) (.dct R) (afK us) en top (.tup [.int a1,.int b1,.int c1,.int d1,.dct L])) (au:=[]) (λK1 h1=>abD (v:=adD (ag0 3)) rfl rfl (by rfl) (by rfl) (by rfl) (aoC rfl tl tk h1)) ?_
 refine abK ki.hEn (szi (by rw [List.length_map];exact at0 ki.few (by exact at2 rfl)) (amv ki.sze ⟨?_,?_⟩))
 . rw [List.length_map];exact fin
 . subst hft
   exact abK ki.hTop (amv ki.szt ⟨ki.fst,hK⟩)
end
section
variable{K:T->Prop}
noncomputable def isiK (ev:EvF) (a:Expr) (sc:aad) (ρ:aab) (K:T->Prop):Prop:=
 gd ((aaW sc "isinstance"&&aaW sc "tuple")&&aai a) (ev sc a ρ λt=>match t with
  | .int _=>K (.bool false)
  | .tup _=>K (.bool true)
  | _=>False)
theorem ag1{x:Str}{p:Pos}{v:Value}{Q:Value->Shared->Prop}{E:Value->Shared->Prop}(c:Cx γ it r A V s env sc ρ) (hd:(x==("__debug__":Str))=false) (hg:aaW sc x=true)
  (hv:γ.mg x=some v\/(γ.mg x=none/\γ.mb x=some v)) (hQ:Q v s):wpAny (model pg γ.w) A (eval (.Name x p) env) Q E s:=by
 refine (eval_Name _ _ _ hd)▸?_
 exact atY (at7 (acQ c.wd c.envS hg hv hQ))
theorem att (hs:aaz γ it r ev) {a:Expr}{p1 p2 p3:Pos}(c:Cx γ it r A V s env sc ρ) (h:isiK ev a sc ρ K) :
  Ev γ A V s (eval (.Call (.Name "isinstance" p1) [a,.Name "tuple" p2] [] p3) env) K:=by
 replace h:=gd2 h
 have h1:=h.1
 have hp:=h.2.1
 have hX:=Bool.and_eq_true_iff.mp h1
 have gt:=hX.2
 refine aaH c rfl hX.1 (abG c.wd (v:=.builtin "isinstance") (by decide)) aaY (aca hp rfl) (adz hp rfl (aaj (hs _ _ _ _ h.2.2 A V s env c) λv a8 t ak ae rv=>?_))
 refine ag1 (c.ext ae) rfl gt (abG (c.ext ae).wd (v:=.type "tuple") (by decide)) ⟨ae,?_⟩
 cases rv <;> first | exact ak.elim | skip
 . exact PySem.IsiPair.int_tuple ⟨_,ak,ae.trans Ext.tok,.bool _⟩
 . rename_i a vs l va ho rl
   refine (ho).elim λo hX1=>hX1.elim λeo hX2=>hX2.elim λhc _=>?_
   exact PySem.IsiPair.tuple_tuple eo hc ⟨_,ak,ae,.bool _⟩
end
set_option backward.match.sparseCases true
theorem amx{x m:Int}{ps:List (Int×Int)}(hm:(m != 0)=true):afZ ((x,m) ::ps)=(x,adE (x,m)) ::afZ ps:=by
 unfold afZ
 refine (List.filter_cons_of_pos (p:=λp:Int×Int=>p.2 != 0) (a:=(x,m)) hm)▸?_;rfl
theorem ajI{x m:Int}{ps:List (Int×Int)}(hm:(m != 0)=false):afZ ((x,m) ::ps)=afZ ps:=by
 unfold afZ
 exact (List.filter_cons_of_neg (p:=λp:Int×Int=>p.2 != 0) (a:=(x,m)) (by refine (show ((x,m):Int×Int).2=m from rfl).symm▸?_;refine hm▸?_;decide)).symm▸rfl
theorem aoD{x m:Int}{ps:List (Int×Int)}(hm:decide (x<256)=true):aer ((x,m) ::ps)=m ::aer ps:=by
 unfold aer
 refine (List.filter_cons_of_pos (p:=λp:Int×Int=>decide (p.1<256)) (a:=(x,m)) hm)▸?_;rfl
theorem amy{x m:Int}{ps:List (Int×Int)}(hm:decide (x<256)=false):aer ((x,m) ::ps)=aer ps:=by
 unfold aer
 exact (List.filter_cons_of_neg (p:=λp:Int×Int=>decide (p.1<256)) (a:=(x,m)) (by refine (show ((x,m):Int×Int).1=x from rfl).symm▸?_;refine hm▸?_;decide)).symm▸rfl
structure TabI (ys:List Int) (tab:List (Int×T)) (n:Int->Int):Prop where
 nd:(tab.map (·.1)).Nodup
 val:∀ p∈tab,p.1∈ys/\p.2=adE (p.1,n p.1)
 all:∀ k∈ys,n k≠0->k∈tab.map (·.1)
noncomputable def upd (n:Int->Int) (k v:Int):Int->Int:=λj=>if j=k then v else n j
theorem amz{l:List (Int×T)}{k:Int}:(l.any λq=>q.1==k)=true↔k∈l.map (·.1):=by
 rw [List.any_eq_true,List.mem_map]
 constructor
 . rintro ⟨q,h,e⟩;exact ⟨q,h,by simpa using e⟩
 . rintro ⟨q,h,e⟩;exact ⟨q,h,by simpa using e⟩
theorem arj{l:List (Int×T)}{p:Int×T}(h:p.1∈l.map (·.1)):abr l p=l.map λq=>if q.1==p.1 then (q.1,p.2) else q:=by
 unfold abr
 exact (if_pos (amz.mpr h))
theorem ag2{l:List (Int×T)}{p:Int×T}(h:p.1∉l.map (·.1)):abr l p=l++[p]:=by
 unfold abr
 exact (if_neg λz=>h (amz.mp z))
theorem ajJ{l:List (Int×T)}{k:Int}{t:T}:(l.map λq=>if q.1==k then (q.1,t) else q).map (·.1)=l.map (·.1):=by
 rw [List.map_map]
 refine List.map_congr_left λq _=>?_
 show (if q.1==k then (q.1,t) else q).1=q.1
 split <;> rfl
theorem TabI.put{ys:List Int}{tab:List (Int×T)}{n:Int->Int}(h:TabI ys tab n) {k v:Int}(hk:k∈ys):TabI ys (abr tab (k,adE (k,v))) (upd n k v):=by
 by_cases hin:k∈tab.map (·.1)
 . rw [arj hin]
   refine ⟨by rw [ajJ];exact h.nd,λp hp=>?_,λj hj hn=>?_⟩
   . obtain ⟨q,hq,rfl⟩:=List.mem_map.mp hp
     have hX:=h.val q hq
     have a:=hX.1
     have b:=hX.2
     by_cases e:q.1=k
     . simp only [e,beq_self_eq_true,if_true,upd]
       exact ⟨hk,trivial⟩
     . have e':(q.1==k)=false:=by simpa using e
       simp only [e',Bool.false_eq_true,if_false]
       refine ⟨a,?_⟩
       unfold upd
       refine (if_neg e)▸?_;exact b
   . rw [ajJ]
     by_cases e:j=k
     . rw [e];exact hin
     . unfold upd at hn
       rw [if_neg e] at hn
       exact h.all j hj hn
 . rw [ag2 hin]
   refine ⟨?_,λp hp=>?_,λj hj hn=>?_⟩
   . rw [List.map_append,List.nodup_append]
     refine ⟨h.nd,by simp,?_⟩
     intro a ha b hb e
     simp only [List.map_cons,List.map_nil,List.mem_singleton] at hb
     exact hin ((hb▸e▸ha))
   . rcases List.mem_append.mp hp with q | q
     . have hX:=h.val p q
       have a:=hX.1
       have b:=hX.2
       have e:p.1≠k:=λe=>hin (e▸List.mem_map.mpr ⟨p,q,rfl⟩)
       refine ⟨a,?_⟩
       unfold upd
       refine (if_neg e)▸?_;exact b
     . refine (List.mem_singleton.mp q)▸?_
       refine ⟨hk,?_⟩
       unfold upd
       exact (if_pos rfl)▸rfl
   . rw [List.map_append]
     by_cases e:j=k
     . exact List.mem_append.mpr (.inr (by rw [e];exact .head _))
     . unfold upd at hn
       rw [if_neg e] at hn
       exact List.mem_append.mpr (.inl (h.all j hj hn))
theorem aoE (k a b:Int):atq (adE (k,a)) (adE (k,b))=adE (k,a+b):=by
 dsimp only [adE]
 split
 . rfl
 . show T.tup [.int (a+b),.int (a*k+b*k)]=T.tup [.int (a+b),.int ((a+b)*k)]
   rw [Int.add_mul]
theorem ahS (k a b:Int):LikeT (adE (k,a)) (adE (k,b)):=by
 dsimp only [adE]
 split
 . exact .int _ _
 . exact .tup _ _ _ _
theorem agt{l:List (Int×T)}{k:Int}{v:T}(h:l.lookup k=some v):(k,v)∈l:=by
 induction l with
 | nil=>exact nos h
 | cons p l ih=>
  rw [List.lookup_cons] at h
  split at h
  . rename_i e
    cases h
    rw [eq_of_beq e];exact .head _
  . exact .tail _ (ih h)
theorem amA{l:List (Int×T)}{k:Int}(h:l.lookup k=none):k∉l.map (·.1):=by
 induction l with
 | nil=>exact λz=>nomatch z
 | cons p l ih=>
  rw [List.lookup_cons] at h
  split at h
  . exact son h
  . rename_i e
    intro z
    rcases List.mem_cons.mp z with z | z
    . rw [z] at e;simp at e
    . exact ih h z
theorem TabI.add{ys:List Int}{tab:List (Int×T)}{n:Int->Int}(h:TabI ys tab n) {k v:Int}(hk:k∈ys) :
  TabI ys (akT tab (k,adE (k,v))) (upd n k (n k+v)):=by
 show TabI ys (match tab.lookup k with | some u=>abr tab (k,atq u (adE (k,v))) | none=>abr tab (k,adE (k,v))) _
 cases q:tab.lookup k with
 | some u=>
  show TabI ys (abr tab (k,atq u (adE (k,v)))) _
  rw [show u=adE (k,n k) from ((h.val _ (agt q)).2),aoE]
  exact h.put hk
 | none=>
  have z:n k=0:=Classical.byContradiction λz=>amA q (h.all k hk z)
  show TabI ys (abr tab (k,adE (k,v))) _
  rw [z,Int.zero_add]
  exact h.put hk
theorem ajK (n:Int->Int) (k:Int):upd n k (n k+0)=n:=by
 funext j
 unfold upd
 split
 . rename_i e;refine e▸?_;rw [Int.add_zero]
 . rfl
noncomputable def asb (n:Int->Int) (ps:List (Int×Int)):Int->Int:=ps.foldl (λn p=>upd n p.1 (n p.1+p.2)) n
theorem TabI.nil{ys:List Int}:TabI ys [] λ_=>0:=⟨List.nodup_nil,(λp hp=>nomatch hp),λk _ h=>absurd rfl h⟩
theorem TabI.addAll{ys:List Int}:∀ (ps:List (Int×Int)) {tab:List (Int×T)}{n:Int->Int},TabI ys tab n->(∀ p∈ps,p.1∈ys)->
  TabI ys ((afZ ps).foldl akT tab) (asb n ps)
 | [],tab,n,h,_=>h
 | (k,v) ::ps,tab,n,h,hy=>by
  show TabI ys _ (asb (upd n k (n k+v)) ps)
  by_cases hv:v=0
  . rw [hv] at *
    rw [ajI rfl,ajK]
    exact TabI.addAll ps h λp hp=>hy p (.tail _ hp)
  . rw [amx (by simpa using hv),List.foldl_cons]
    exact TabI.addAll ps (h.add (hy _ (.head _))) λp hp=>hy p (.tail _ hp)
theorem TabI.putAll{ys:List Int}:∀ (ps:List (Int×Int)) {tab:List (Int×T)}{n:Int->Int},TabI ys tab n->(∀ p∈ps,p.1∈ys)->(ps.map (·.1)).Nodup->(∀ p∈ps,n p.1=0)->
  TabI ys ((afZ ps).foldl abr tab) (asb n ps)
 | [],tab,n,h,_,_,_=>h
 | (k,v) ::ps,tab,n,h,hy,hn,hz=>by
  show TabI ys _ (asb (upd n k (n k+v)) ps)
  rw [List.map_cons,List.nodup_cons] at hn
  by_cases hv:v=0
  . rw [hv] at *
    rw [ajI rfl,ajK]
    exact TabI.putAll ps h (λp hp=>hy p (.tail _ hp)) hn.2 λp hp=>hz p (.tail _ hp)
  . rw [amx (by simpa using hv),List.foldl_cons,(hz _ (.head _)),Int.zero_add]
    refine TabI.putAll ps (h.put (hy _ (.head _))) (λp hp=>hy p (.tail _ hp)) hn.2 λp hp=>?_
    show upd n k v p.1=0
    unfold upd
    refine (if_neg (λe=>hn.1 (e▸List.mem_map.mpr ⟨p,hp,rfl⟩):p.1≠k))▸?_
    exact hz p (.tail _ hp)
theorem acw:∀ (l acc:List (Int×T)),((acc++l).map (·.1)).Nodup->l.foldl abr acc=acc++l
 | [],acc,_=>(List.append_nil acc).symm
 | p ::l,acc,h=>by
  have hout:p.1∉acc.map (·.1):=λz=>by
   rw [List.map_append,List.nodup_append] at h
   exact h.2.2 p.1 z p.1 (.head _) rfl
  rw [List.foldl_cons,ag2 hout,acw l (acc++[p]) (by rw [List.append_assoc];exact h),List.append_assoc]
  rfl
theorem ae1 (k n:Int):aes (adE (k,n))=(n==0):=by
 dsimp only [adE]
 split
 . rfl
 . show (n==0&&n*k==0)=(n==0)
   by_cases h:n=0
   . subst h;simp
   . have:(n==0)=false:=by simpa using h
     refine this▸?_;rfl
theorem TabI.live{ys:List Int}{tab:List (Int×T)}{n:Int->Int}(h:TabI ys tab n):TabI ys (aeP tab) n/\∀ p∈aeP tab,n p.1≠0:=by
 have hm:∀ p∈aeP tab,p∈tab/\n p.1≠0:=λp hp=>by
  have hX:=List.mem_filter.mp hp
  have a:=hX.1
  have b:=hX.2
  refine ⟨a,λz=>?_⟩
  rw [(h.val p a).2,ae1,z] at b
  exact absurd b (by decide)
 refine ⟨⟨?_,λp hp=>h.val p (hm p hp).1,λk hk hn=>?_⟩,λp hp=>(hm p hp).2⟩
 . exact List.Sublist.nodup (List.Sublist.map _ (List.filter_sublist)) h.nd
 . obtain ⟨p,hp,rfl⟩:=List.mem_map.mp (h.all k hk hn)
   refine List.mem_map.mpr ⟨p,List.mem_filter.mpr ⟨hp,?_⟩,rfl⟩
   rw [(h.val p hp).2,ae1]
   simpa using hn
theorem ae2:∀ (l l':List Int),l.Nodup->(∀ a∈l,a∈l')->l.length<=l'.length
 | [],l',_,_=>aup _
 | a ::l,l',h,hs=>by
  rw [List.nodup_cons] at h
  have e:=ae2 l (l'.erase a) h.2 λb hb=>(List.mem_erase_of_ne (λe:b=a=>h.1 (e▸hb))).mpr (hs b (.tail _ hb))
  rw [List.length_erase_of_mem (hs a (.head _))] at e
  have:0<l'.length:=List.length_pos_of_mem (hs a (.head _))
  exact Nat.add_le_of_le_sub this e
theorem ajL:∀ {l:List (Int×T)}{k:Int}{t:T},(l.map (·.1)).Nodup->(k,t)∈l->abR l k=some t
 | (a,b) ::l,k,t,h,hm=>by
  rw [List.map_cons,List.nodup_cons] at h
  by_cases e:a=k
  . subst e
    rcases List.mem_cons.mp hm with z | z
    . cases z;simp [abR]
    . exact absurd (List.mem_map.mpr ⟨_,z,rfl⟩) h.1
  . rcases List.mem_cons.mp hm with z | z
    . cases z;exact absurd rfl e
    . have:=ajL h.2 z
      have e':(a==k)=false:=by simpa using e
      unfold abR at this ⊢
      rw [List.find?_cons]
      refine e'▸?_
      exact this
theorem aoF (k n:Int):adg (adE (k,n)) (adE (k,n)) λc=>c=true:=by
 dsimp only [adE]
 split
 . exact gdi rfl (ab3 [n] |> λh=>by exact SeqAt.eqv_refl (T.int n).py rfl)
 . exact gdi rfl (ab3 [n,n*k])
theorem amB{ys:List Int}{l l':List (Int×T)}{n n':Int->Int}(h:TabI ys l n) (h':TabI ys l' n') (e:∀ k∈ys,n k=n' k) (z:∀ p∈l,n p.1≠0) (z':∀ p∈l',n' p.1≠0):eqD (.dct l) (.dct l'):=by
 have s1:∀ a∈l.map (·.1),a∈l'.map (·.1):=λa ha=>by
  obtain ⟨p,hp,rfl⟩:=List.mem_map.mp ha
  have hy:=(h.val p hp).1
  exact h'.all _ hy (by refine (e _ hy)▸?_;exact z p hp)
 have s2:∀ a∈l'.map (·.1),a∈l.map (·.1):=λa ha=>by
  obtain ⟨p,hp,rfl⟩:=List.mem_map.mp ha
  have hy:=(h'.val p hp).1
  exact h.all _ hy (by refine (e _ hy)▸?_;exact z' p hp)
 refine ⟨?_,λp hp=>?_⟩
 . have a:=ae2 _ _ h.nd s1
   have b:=ae2 _ _ h'.nd s2
   rw [List.length_map,List.length_map] at a b
   exact auV a b
 . refine (List.mem_map.mp (s1 p.1 (List.mem_map.mpr ⟨p,hp,rfl⟩))).elim λq hX1=>hX1.elim λhq hqe=>?_
   refine ⟨q.2,ajL h'.nd (by refine hqe▸?_;exact hq),?_⟩
   rw [(h.val p hp).2,(h'.val q hq).2,hqe,<- e _ (h.val p hp).1]
   exact aoF _ _
noncomputable def agu (y:Y4):List Int:=[y.1,y.2.1,y.2.2.1,y.2.2.2]
noncomputable def ads (y a:Int):Int:=if y<256 then a else 0
noncomputable def tau (y:Y4) (a b c d:Int):Int:=ads y.1 a+(ads y.2.1 b+(ads y.2.2.1 c+ads y.2.2.2 d))
noncomputable def omg (y:Y4) (a b c d:Int):Int:=y.1*a+(y.2.1*b+(y.2.2.1*c+y.2.2.2*d))
theorem ad2 (x m:Int) (ps:List (Int×Int)):(aer ((x,m) ::ps)).sum=ads x m+(aer ps).sum:=by
 unfold ads
 by_cases h:x<256
 . rw [aoD (by simpa using h),if_pos h];rfl
 . rw [amy (by simpa using h),if_neg h,Int.zero_add]
theorem aoG (y:Y4) (a b c d:Int):(aer (ps4 y a b c d)).sum=tau y a b c d:=by
 unfold ps4
 rw [ad2,ad2,ad2,ad2]
 show _+(_+(_+(_+0)))=_
 rw [Int.add_zero];rfl
theorem amC (y:Y4) (a b c d:Int):(ahO (ps4 y a b c d)).sum=omg y a b c d:=by
 show _+(_+(_+(_+0)))=_
 rw [Int.add_zero];rfl
theorem ag3 (y a a':Int):ads y (a+a')=ads y a+ads y a':=by
 unfold ads;split <;> rfl
theorem ark (y:Y4) (a b c d a' b' c' d':Int):tau y a' b' c' d'+tau y a b c d=tau y (a+a') (b+b') (c+c') (d+d'):=by
 unfold tau;rw [ag3,ag3,ag3,ag3];lia
theorem arl (y:Y4) (a b c d a' b' c' d':Int):omg y a' b' c' d'+omg y a b c d=omg y (a+a') (b+b') (c+c') (d+d'):=by
 unfold omg;rw [Int.mul_add,Int.mul_add,Int.mul_add,Int.mul_add];lia
noncomputable def st5 (y:Y4) (a b c d k:Int) (tab:List (Int×T)):E5:=(tau y a b c d,a,omg y a b c d,k,tab)
theorem aiR (y:Y4) (a b c d k:Int):acd (ps4 y a b c d) k=st5 y a b c d k ((afZ (ps4 y a b c d)).foldl abr []):=by
 unfold acd st5
 rw [aoG,amC];rfl
theorem aoH (y:Y4) (a b c d:Int):(ps4 y a b c d).map (·.1)=agu y:=rfl
theorem amD{y:Y4}{a b c d:Int}:∀ p∈ps4 y a b c d,p.1∈agu y:=λp hp=>by
 refine (aoH y a b c d)▸?_;exact List.mem_map.mpr ⟨p,hp,rfl⟩
structure Has (y:Y4) (n:Int->Int) (a b c d:Int):Prop where
 a:n y.1=a
 b:n y.2.1=b
 c:n y.2.2.1=c
 d:n y.2.2.2=d
theorem Has.add{y:Y4}(hy:(agu y).Nodup) {n:Int->Int}{a b c d:Int}(h:Has y n a b c d) (a' b' c' d':Int):Has y (asb n (ps4 y a' b' c' d')) (a+a') (b+b') (c+c') (d+d'):=by
 refine ag λG kG=>?_
 obtain ⟨y1,y2,y3,y4⟩:=y
 simp only [agu,List.nodup_cons,List.mem_cons,List.not_mem_nil,or_false,not_or,not_false_eq_true,List.nodup_nil,and_true] at hy
 refine (hy).elim λhZ11 hZ12=>hZ11.elim λh12 hZ14=>hZ14.elim λh13 h14=>hZ12.elim λhZ13 h34=>hZ13.elim λh23 h24=>?_
 obtain ⟨h1,h2,h3,h4⟩:=h
 refine kG ?_
 simp only at h1 h2 h3 h4
 constructor <;> simp [asb,ps4,upd,h12,h13,h14,h23,h24,h34,(Ne.symm h12),(Ne.symm h13),(Ne.symm h14),(Ne.symm h23),(Ne.symm h24),(Ne.symm h34),h1,h2,h3,h4]
theorem Has.at{y:Y4}{n n':Int->Int}{a b c d:Int}(h:Has y n a b c d) (h':Has y n' a b c d):∀ k∈agu y,n k=n' k:=by
 exact all4 (h.a.trans h'.a.symm) (h.b.trans h'.b.symm) (h.c.trans h'.c.symm) (h.d.trans h'.d.symm)
theorem Has.zero (y:Y4):Has y (λ_=>0) 0 0 0 0:=⟨rfl,rfl,rfl,rfl⟩
theorem aiS{y:Y4}(hy:(agu y).Nodup) (a b c d:Int):∃ n,TabI (agu y) ((afZ (ps4 y a b c d)).foldl abr []) n/\Has y n a b c d:=by
 refine ⟨_,TabI.putAll (ps4 y a b c d) TabI.nil amD hy λ_ _=>rfl,?_⟩
 have:=(Has.zero y).add hy a b c d
 simpa using this
theorem ajM{y:Y4}(hy:(agu y).Nodup) (a b c d:Int):(afZ (ps4 y a b c d)).foldl abr []=afZ (ps4 y a b c d):=by
 refine acw _ [] ?_
 show ((afZ (ps4 y a b c d)).map (·.1)).Nodup
 have:(afZ (ps4 y a b c d)).map (·.1)=((ps4 y a b c d).filter λp=>p.2 != 0).map (·.1):=by unfold afZ;rw [List.map_map];rfl
 rw [this]
 exact List.Sublist.nodup (List.Sublist.map _ List.filter_sublist) hy
theorem TabI.four{y:Y4}{tab:List (Int×T)}{n:Int->Int}(h:TabI (agu y) tab n):tab.length<=4:=by
 have:=ae2 _ (agu y) h.nd λa ha=>by
  obtain ⟨p,hp,rfl⟩:=List.mem_map.mp ha
  exact (h.val p hp).1
 rw [List.length_map] at this
 exact this
theorem amE{y:Y4}{a b c d:Int}{n:Int->Int}(hy:(agu y).Nodup) (h:TabI (agu y) ((afZ (ps4 y a b c d)).foldl abr []) n):∀ p∈(afZ (ps4 y a b c d)).foldl abr [],n p.1≠0:=by
 intro p hp z
 have e:=(h.val p hp).2
 rw [ajM hy] at hp
 obtain ⟨q,hq,rfl⟩:=List.mem_map.mp hp
 have hq2:=(List.mem_filter.mp hq).2
 rw [z] at e
 have e2:aes (adE q)=aes (adE (q.1,0)):=by rw [show adE q=adE (q.1,0) from e]
 rw [show adE q=adE (q.1,q.2) from rfl,ae1,ae1] at e2
 have:(q.2==0)=true:=by rw [e2];rfl
 rw [bne,this] at hq2
 exact ff hq2
noncomputable def aiT:Int->Int->Int->Int->List U2->Int->Int->Int->Int->Prop
 | a,b,c,d,[],a',b',c',d'=>a=a'/\b=b'/\c=c'/\d=d'
 | a,b,c,d,u ::us,a',b',c',d'=>aiT (a+(u.2.2.a-u.1.2.a)) (b+(u.2.2.b-u.1.2.b)) (c+(u.2.2.c-u.1.2.c)) (d+(u.2.2.d-u.1.2.d)) us a' b' c' d'
theorem atu{y:Y4}{t s:List (Int×T)}{n n':Int->Int}(h:TabI (agu y) t n) (h':TabI (agu y) s n'):OkC t s:=by
 refine ⟨by have:=h.four;have:=h'.four;exact acA (by assumption) this rfl,h.nd,h'.nd,λp hp v hv=>?_⟩
 rw [show v=adE (p.1,n p.1) from (h.val _ (agt hv)).2,(h'.val p hp).2]
 exact ahS _ _ _
theorem ajN{y:Y4}(hy:(agu y).Nodup) {a' b' c' d':Int}:∀ (us:List U2) (a b c d k:Int) (tab:List (Int×T)) (n:Int->Int),TabI (agu y) tab n->Has y n a b c d->aiT a b c d us a' b' c' d'->
  ahQ y (st5 y a b c d k tab) us/\∃ tab' n',aeO y (st5 y a b c d k tab) us=st5 y a' b' c' d' (k+us.length) tab'/\TabI (agu y) tab' n'/\Has y n' a' b' c' d'
 | [],a,b,c,d,k,tab,n,h,hn,hc=>by
  obtain ⟨rfl,rfl,rfl,rfl⟩:=hc
  refine ⟨trivial,tab,n,?_,h,hn⟩
  show st5 y a b c d k tab=_
  rw [List.length_nil];show _=st5 y a b c d (k+0) tab;rw [Int.add_zero]
 | u ::us,a,b,c,d,k,tab,n,h,hn,hc=>by
  obtain ⟨ne,te,he⟩:=aiS hy (u.2.2.a-u.1.2.a:Int) (u.2.2.b-u.1.2.b) (u.2.2.c-u.1.2.c) (u.2.2.d-u.1.2.d)
  have e0:acd (psU y u) 1=st5 y _ _ _ _ 1 _:=aiR y _ _ _ _ 1
  have hadd:asa (st5 y a b c d k tab) (acd (psU y u) 1)=st5 y (a+(u.2.2.a-u.1.2.a)) (b+(u.2.2.b-u.1.2.b)) (c+(u.2.2.c-u.1.2.c)) (d+(u.2.2.d-u.1.2.d)) (k+1)
    ((afZ (ps4 y (u.2.2.a-u.1.2.a:Int) (u.2.2.b-u.1.2.b) (u.2.2.c-u.1.2.c) (u.2.2.d-u.1.2.d))).foldl akT tab):=by
   rw [e0]
   delta asa st5 ar9
   simp only
   rw [ark,arl,ajM hy,acw tab [] (by exact h.nd),List.nil_append]
   rw [Int.add_comm _ a,Int.add_comm 1 k]
  refine (ajN hy us _ _ _ _ (k+1) _ _ (TabI.addAll (ps4 y (u.2.2.a-u.1.2.a:Int) (u.2.2.b-u.1.2.b) (u.2.2.c-u.1.2.c) (u.2.2.d-u.1.2.d)) h amD) (hn.add hy (u.2.2.a-u.1.2.a:Int) (u.2.2.b-u.1.2.b) (u.2.2.c-u.1.2.c) (u.2.2.d-u.1.2.d)) hc).elim λk1 hX1=>hX1.elim λtab' hX2=>hX2.elim λn' hX3=>hX3.elim λk2 hX4=>hX4.elim λk3 k4=>?_
  refine ⟨⟨?_,by rw [hadd];exact k1⟩,tab',n',?_,k3,k4⟩
  . exact atu h te
  . show aeO y (asa (st5 y a b c d k tab) (acd (psU y u) 1)) us=_
    rw [hadd,k2,List.length_cons]
    congr 1
    lia
theorem ag4 (a:Int):eqD (.int a) (.int a):=gdi rfl (by show (PyData.eqv (.int a) (.int a))=true;simp [PyData.eqv])
theorem amF{y:Y4}{a b c d k:Int}{t t':List (Int×T)}(h:eqD (.dct t) (.dct t')) :
  apk [.int (st5 y a b c d k t).1,.int (st5 y a b c d k t).2.1,.int (st5 y a b c d k t).2.2.1,.int (st5 y a b c d k t).2.2.2.1,.dct t]
   [.int (st5 y a b c d k t').1,.int (st5 y a b c d k t').2.1,.int (st5 y a b c d k t').2.2.1,.int (st5 y a b c d k t').2.2.2.1,.dct t']:=
 ⟨ag4 _,ag4 _,ag4 _,ag4 _,h,trivial⟩
theorem arm{y:Y4}(hy:(agu y).Nodup) {R:List (Int×T)}{top en:Int×V4}{us:List U2}(hTop:abR R top.1=some top.2.t) (hEn:abR R en.1=some en.2.t)
  (hUs:∀ u∈us,abR R u.1.1=some u.1.2.t/\abR R u.2.1=some u.2.2.t/\SzP (psU y u)) (few:us.length<=3000) (szt:SzP (psV y top.2)) (sze:SzP (psV y en.2))
  (hc:aiT top.2.a top.2.b top.2.c top.2.d us en.2.a en.2.b en.2.c en.2.d):KeptIn y R top en us:=by
 refine (aiS hy (top.2.a:Int) top.2.b top.2.c top.2.d).elim λn hX1=>hX1.elim λht hn=>?_
 refine (aiS hy (en.2.a:Int) en.2.b en.2.c en.2.d).elim λne hX1=>hX1.elim λte he=>?_
 have e0:acd (psV y top.2) 0=st5 y top.2.a top.2.b top.2.c top.2.d 0 _:=aiR y _ _ _ _ 0
 refine (ajN hy us _ _ _ _ 0 _ _ ht hn hc).elim λk1 hX1=>hX1.elim λtab' hX2=>hX2.elim λn' hX3=>hX3.elim λk2 hX4=>hX4.elim λk3 k4=>?_
 rw [Int.zero_add] at k2
 refine ⟨hTop,hEn,hUs,few,szt,sze,by refine e0▸?_;exact k1,?_,?_,?_⟩
 . refine e0▸?_;refine k2▸?_
   refine ⟨by have:=k3.four;show tab'.length<=100;lia,λp hp=>?_⟩
   rw [(k3.val p hp).2]
   exact ahS _ _ _
 . refine e0▸?_;refine k2▸?_;refine (aiR y _ _ _ _ _)▸?_
   obtain ⟨l1,l2⟩:=k3.live
   refine (acw _ [] l1.nd).symm▸?_
   exact amF (y:=y) (a:=en.2.a) (b:=en.2.b) (c:=en.2.c) (d:=en.2.d) (k:=us.length) (amB l1 te (k4.at he) l2 (amE hy te))
 . refine e0▸?_
   exact amF (y:=y) (a:=top.2.a) (b:=top.2.b) (c:=top.2.c) (d:=top.2.d) (k:=0) (amB ht ht (λ_ _=>rfl) (amE hy ht) (amE hy ht))
noncomputable def upU (w:V4) (p:Rl):U2:=(((w.bag p.1:Nat),p.1),((w.bag p.2:Nat),p.2))
theorem amG (w:V4) (ps:List Rl):T.lst (ps.map (aau w))=afK (ps.map (upU w)):=by
 unfold afK
 rw [List.map_map];rfl
noncomputable def Red (rs:List Rl) (u v:V4):Prop:=∃ p∈rs,p.1.Le u/\v=u.step p
inductive Reds (rs:List Rl):V4->V4->Prop
 | refl (u):Reds rs u u
 | head {u v x}:Red rs u v->Reds rs v x->Reds rs u x
theorem Reds.trans{rs:List Rl}{u v x:V4}(a:Reds rs u v) (b:Reds rs v x):Reds rs u x:=by
 induction a with
 | refl=>exact b
 | head h _ ih=>exact .head h (ih b)
noncomputable def Irr (rs:List Rl) (u:V4):Prop:=∀ p∈rs,¬ p.1.Le u
theorem ag5{rs:List Rl}{v:V4}{p:Rl}:p∈aeN rs v↔p∈rs/\p.1.Le v:=by
 unfold aeN
 rw [List.mem_filter,V4.leb_iff]
theorem aoI{rs:List Rl}{v:V4}{t:Nat}(h:(aeN rs v)[t%(aeN rs v).length]?=none):Irr rs v:=by
 intro p hp hl
 have hm:p∈aeN rs v:=ag5.mpr ⟨hp,hl⟩
 have:=List.length_pos_of_mem hm
 rw [List.getElem?_eq_none_iff] at h
 exact absurd (auK t this) (Nat.not_lt.mpr h)
theorem ajO{rs:List Rl}{m:V4->Nat}{D:V4->Prop}(hD:∀ u v,D u->Red rs u v->D v/\m v<m u):∀ (k t:Nat) (v:V4) (used:List Rl),D v->m v<k->Irr rs (aax rs k t v used).1
 | 0,t,v,used,dv,h=>absurd h (Nat.not_lt_zero _)
 | k+1,t,v,used,dv,h=>by
  dsimp only [aax]
  cases q:(aeN rs v)[t%(aeN rs v).length]? with
  | none=>exact aoI q
  | some p=>
   obtain ⟨a,b⟩:=ag5.mp (aux q)
   obtain ⟨d2,this⟩:=hD v (v.step p) dv ⟨p,a,b,rfl⟩
   exact ajO hD k (t+1) (v.step p) (used++[p]) d2 (at5 this (auk h))
theorem aav{rs:List Rl}:∀ (k t:Nat) (v:V4) (used:List Rl),Reds rs v (aax rs k t v used).1
 | 0,t,v,used=>.refl v
 | k+1,t,v,used=>by
  dsimp only [aax]
  cases q:(aeN rs v)[t%(aeN rs v).length]? with
  | none=>exact .refl v
  | some p=>
   obtain ⟨a,b⟩:=ag5.mp (aux q)
   exact .head ⟨p,a,b,rfl⟩ (aav k (t+1) (v.step p) (used++[p]))
theorem aoJ{v:V4}{p:Rl}(h:p.1.Le v):((v.step p).a:Int)=v.a+(p.2.a-p.1.a:Int)/\((v.step p).b:Int)=v.b+(p.2.b-p.1.b:Int)/\((v.step p).c:Int)=v.c+(p.2.c-p.1.c:Int)/\((v.step p).d:Int)=v.d+(p.2.d-p.1.d:Int):=by
 have h1:=h.1
 have h2:=h.2.1
 have h3:=h.2.2.1
 have h4:=h.2.2.2
 exact ⟨anD h1,anD h2,anD h3,anD h4⟩
theorem aet (w:V4) {rs:List Rl}:∀ (k t:Nat) (v:V4) (used:List Rl),∃ more:List Rl,(aax rs k t v used).2=used++more/\more.length<=k/\(∀ p∈more,p∈rs)/\
  aiT v.a v.b v.c v.d (more.map (upU w)) (aax rs k t v used).1.a (aax rs k t v used).1.b (aax rs k t v used).1.c (aax rs k t v used).1.d
 | 0,t,v,used=>⟨[],(List.append_nil used).symm,aup _,(λp h=>nomatch h),rfl,rfl,rfl,rfl⟩
 | k+1,t,v,used=>by
  dsimp only [aax]
  cases q:(aeN rs v)[t%(aeN rs v).length]? with
  | none=>exact ⟨[],(List.append_nil used).symm,aup _,(λp h=>nomatch h),rfl,rfl,rfl,rfl⟩
  | some p=>
   obtain ⟨a,b⟩:=ag5.mp (aux q)
   obtain ⟨more,h1,h2,h3,h4⟩:=aet w k (t+1) (v.step p) (used++[p])
   refine ⟨p ::more,by rw [h1,List.append_assoc];rfl,by exact Nat.le_add_of_sub_le h2,λx hx=>?_,?_⟩
   . rcases List.mem_cons.mp hx with rfl | z
     . exact a
     . exact h3 x z
   . have hX:=aoJ b
     rw [hX.1,hX.2.1,hX.2.2.1,hX.2.2.2] at h4
     exact h4
noncomputable def Joined (rs:List Rl) (u v:V4):Prop:=∃ x,Reds rs u x/\Reds rs v x
theorem atv{rs:List Rl}{m:V4->Nat}{D:V4->Prop}(hD:∀ u v,D u->Red rs u v->D v/\m v<m u) (hl:∀ u v v',D u->Red rs u v->Red rs u v'->Joined rs v v'):∀ (n:Nat) (u v v':V4),D u->m u<=n->Reds rs u v->Reds rs u v'->Joined rs v v':=by
 intro n
 induction n with
 | zero=>
  intro u v v' du hn h h'
  cases h with
  | refl=>exact ⟨v',h',.refl _⟩
  | head a _=>exact (Nat.not_lt_zero _ (at5 (hD _ _ du a).2 hn)).elim
 | succ n ih=>
  intro u v v' du hn h h'
  cases h with
  | refl=>exact ⟨v',h',.refl _⟩
  | head a a'=>cases h' with
   | refl=>exact ⟨v,.refl _,.head a a'⟩
   | head b b'=>
    obtain ⟨dx,ha⟩:=hD _ _ du a
    obtain ⟨dy,hb⟩:=hD _ _ du b
    refine (hl _ _ _ du a b).elim λz hX1=>hX1.elim λxz yz=>?_
    refine (ih _ v z dx (auk (at5 ha hn)) a' xz).elim λp hX1=>hX1.elim λvp zp=>?_
    refine (ih _ p v' dy (auk (at5 hb hn)) (yz.trans zp) b').elim λq hX1=>hX1.elim λpq vq=>?_
    exact ⟨q,vp.trans pq,vq⟩
theorem amH{rs:List Rl}{u v:V4}(h:Irr rs u) (r:Reds rs u v):v=u:=by
 cases r with
 | refl=>rfl
 | head a _=>obtain ⟨p,hp,hl,_⟩:=a;exact absurd hl (h p hp)
noncomputable def wtL:List (Int×Int)->List Int->Int
 | [],_=>0
 | (i,d) ::ks,l=>(if 0<d then 1 else -1)*l.getD i.toNat 0*10^ks.length+wtL ks l
noncomputable def ad3 (ks:List (Int×Int)):Prop:=∀ p∈ks,p.2≠0
noncomputable def Near (ks:List (Int×Int)) (l r:List Int):Prop:=∀ p∈ks,l.getD p.1.toNat 0-r.getD p.1.toNat 0<=4/\r.getD p.1.toNat 0-l.getD p.1.toNat 0<=4
theorem amI:∀ {ks:List (Int×Int)}{l r:List Int},ad3 ks->Near ks l r->wtL ks l-wtL ks r<10^ks.length/\wtL ks r-wtL ks l<10^ks.length
 | [],l,r,_,_=>by show (0:Int)-0<1/\(0:Int)-0<1;decide
 | (i,d) ::ks,l,r,hu,hn=>by
  obtain ⟨h1,h2⟩:=amI (ks:=ks) (l:=l) (r:=r) (λp hp=>hu p (.tail _ hp)) λp hp=>hn p (.tail _ hp)
  obtain ⟨n1,n2⟩:=hn _ (.head _)
  simp only at n1 n2
  show (if 0<d then 1 else -1)*_*10^ks.length+wtL ks l-((if 0<d then 1 else -1)*_*10^ks.length+wtL ks r)<10^(ks.length+1)/\(if 0<d then 1 else -1)*_*10^ks.length+wtL ks r-((if 0<d then 1 else -1)*_*10^ks.length+wtL ks l)<10^(ks.length+1)
  generalize l.getD i.toNat 0=x at *
  generalize r.getD i.toNat 0=y at *
  rw [Int.pow_succ]
  have hP:(0:Int)<10^ks.length:=Int.pow_pos (by decide)
  generalize (10:Int)^ks.length=P at *
  have g1:(x-y)*P<=4*P:=auN n1 (Int.le_of_lt hP)
  have g2:(y-x)*P<=4*P:=auN n2 (Int.le_of_lt hP)
  by_cases e:0<d
  . simp only [if_pos e,Int.one_mul];lia
  . simp only [if_neg e,Int.neg_mul,Int.one_mul];lia
theorem afL:∀ {ks:List (Int×Int)}{l r:List Int},ad3 ks->Near ks l r->(0<aeM ks l r↔wtL ks r<wtL ks l)
 | [],l,r,_,_=>by exact Iff.rfl
 | (i,d) ::ks,l,r,hu,hn=>by
  obtain ⟨h1,h2⟩:=amI (λp hp=>hu p (.tail _ hp)) (λp hp=>hn p (.tail _ hp))
  have ih:=afL (λp hp=>hu p (.tail _ hp)) (λp hp=>hn p (.tail _ hp))
  show 0<(if l.getD i.toNat 0<r.getD i.toNat 0 then -d else if l.getD i.toNat 0 > r.getD i.toNat 0 then d else aeM ks l r)↔(if 0<d then 1 else -1)*_*10^ks.length+wtL ks r<(if 0<d then 1 else -1)*_*10^ks.length+wtL ks l
  generalize l.getD i.toNat 0=x at *
  generalize r.getD i.toNat 0=y at *
  have hP:(0:Int)<10^ks.length:=Int.pow_pos (by decide)
  generalize (10:Int)^ks.length=P at *
  by_cases a:x<y
  . rw [if_pos a]
    have g:1*P<=(y-x)*P:=auN (Int.le_sub_left_of_add_le a) (Int.le_of_lt hP)
    rw [Int.sub_mul,Int.one_mul] at g
    have e0:d≠0:=hu _ (.head _)
    by_cases e:0<d
    . simp only [if_pos e,Int.one_mul];lia
    . simp only [if_neg e,Int.neg_mul,Int.one_mul];lia
  . by_cases b:x > y
    . rw [if_neg a,if_pos b]
      have g:1*P<=(x-y)*P:=auN (Int.le_sub_left_of_add_le b) (Int.le_of_lt hP)
      rw [Int.sub_mul,Int.one_mul] at g
      by_cases e:0<d
      . simp only [if_pos e,Int.one_mul];lia
      . simp only [if_neg e,Int.neg_mul,Int.one_mul];lia
    . rw [if_neg a,if_neg b,ih]
      have:x=y:=by exact Int.le_antisymm (Int.not_lt.mp b) (Int.not_lt.mp a)
      rw [this] at *
      exact Iff.symm (Int.add_lt_add_iff_left ((if 0<d then 1 else -1)*y*P))
noncomputable def wt (ks:List (Int×Int)) (v:V4):Int:=wtL ks v.lst
theorem arn (u v:V4) (i:Int):(u.add v).lst.getD i.toNat 0=u.lst.getD i.toNat 0+v.lst.getD i.toNat 0:=by
 generalize i.toNat=n
 match n with
 | 0 | 1 | 2 | 3=>first | exact Int.natCast_add _ _ | rfl
 | n+4=>rfl
theorem apR (ks:List (Int×Int)) (u v:V4):wt ks (u.add v)=wt ks u+wt ks v:=by
 unfold wt
 induction ks with
 | nil=>rfl
 | cons p ks ih=>
  obtain ⟨i,d⟩:=p
  show (if 0<d then 1 else -1)*_*10^ks.length+wtL ks _=(if 0<d then 1 else -1)*_*10^ks.length+wtL ks _+((if 0<d then 1 else -1)*_*10^ks.length+wtL ks _)
  rw [ih,arn,Int.mul_add,Int.add_mul]
  lia
theorem amJ{ks:List (Int×Int)}{v:V4}{p:Rl}(h:p.1.Le v):wt ks (v.step p)=wt ks v-wt ks p.1+wt ks p.2:=by
 unfold V4.step
 rw [apR,(by rw [<- apR,V4.sub_add h]:wt ks v=wt ks (v.sub p.1)+wt ks p.1)]
 lia
noncomputable def anA (d:Nat):List V4:=((List.range 5).flatMap λa=>(List.range 5).flatMap λb=>(List.range 5).flatMap λc=>(List.range 5).map λe=>(⟨a,b,c,e⟩:V4)).filter λv=>v.deg==d
theorem ad4{v:V4}(h:v.deg<=4):v∈anA v.deg:=by
 unfold anA
 refine List.mem_filter.mpr ⟨?_,by simp⟩
 unfold V4.deg at h
 simp only [List.mem_flatMap,List.mem_map,List.mem_range]
 exact ⟨v.a,by lia,v.b,by lia,v.c,by lia,v.d,by lia,rfl⟩
theorem ag6:∀ d,d<=4->(anA d).length<=35
 | 0,_=>by decide +kernel
 | 1,_=>by decide +kernel
 | 2,_=>by decide +kernel
 | 3,_=>by decide +kernel
 | 4,_=>by decide +kernel
 | n+5,h=>by lia
theorem ahT{α:Type}{p q:α->Bool}(hpq:∀ x,p x=true->q x=true):∀ l:List α,(l.filter p).length<=(l.filter q).length
 | []=>auf _
 | x ::l=>by
  have ih:=ahT hpq l
  rw [List.filter_cons,List.filter_cons]
  cases hp:p x with
  | true=>rw [hpq x hp];simp only [if_true,List.length_cons];lia
  | false=>
   cases q x
   . simpa using ih
   . simp only [Bool.false_eq_true,if_false,if_true,List.length_cons];lia
theorem afM{α:Type}{p q:α->Bool}(hpq:∀ x,p x=true->q x=true) {y:α}(hp:p y=false) (hq:q y=true):∀ l:List α,y∈l->(l.filter p).length<(l.filter q).length
 | x ::l,h=>by
  rw [List.filter_cons,List.filter_cons]
  refine (List.mem_cons.mp h).elim ?_ ?_
  . rintro rfl
    refine hp▸?_;refine hq.symm▸?_
    have:=ahT hpq l
    simp only [Bool.false_eq_true,if_false,if_true,List.length_cons];lia
  . rintro z
    have ih:=afM hpq hp hq l z
    cases hx:p x with
    | true=>refine (hpq x hx).symm▸?_;simp only [if_true,List.length_cons];lia
    | false=>
     cases q x
     . simpa using ih
     . simp only [Bool.false_eq_true,if_false,if_true,List.length_cons];lia
noncomputable def apS (ks:List (Int×Int)) (v:V4):Nat:=((anA v.deg).filter λx=>decide (wt ks x<wt ks v)).length
theorem aro{ks:List (Int×Int)}{u v:V4}(h:v.deg<=4) (e:u.deg=v.deg) (w:wt ks v<wt ks u):apS ks v<apS ks u:=by
 unfold apS
 refine e.symm▸?_
 exact afM (λx hx=>decide_eq_true (Int.lt_trans (of_decide_eq_true hx) w)) (decide_eq_false (au1 _)) (decide_eq_true w) _ (ad4 h)
theorem aoK{ks:List (Int×Int)}{v:V4}(h:v.deg<=4):apS ks v<35:=by
 have a:=afM (p:=λx=>decide (wt ks x<wt ks v)) (q:=λ_=>true) (λ_ _=>rfl) (y:=v) (decide_eq_false (au1 _)) rfl _ (ad4 h)
 have b:=ag6 v.deg h
 rw [List.filter_eq_self.mpr (λ_ _=>rfl)] at a
 exact at5 a b
noncomputable def afN (ks:List (Int×Int)) (p:Rl):Prop:=abC p/\wt ks p.2<wt ks p.1
theorem ajP{ks:List (Int×Int)}{rs:List Rl}(h:∀ p∈rs,afN ks p) (u v:V4) (d:u.deg<=4) (r:Red rs u v):v.deg<=4/\apS ks v<apS ks u:=by
 obtain ⟨p,hp,hl,rfl⟩:=r
 have hX:=h p hp
 have h1:=hX.1.1
 have h2:=hX.2
 have e:=aeY hl h1
 refine ⟨by lia,aro (by lia) e.symm ?_⟩
 rw [amJ hl];lia
theorem adc{ks:List (Int×Int)}{rs:List Rl}(h:∀ p∈rs,afN ks p) {v:V4}(d:v.deg<=4) (t:Nat) (used:List Rl):Irr rs (aax rs 40 t v used).1:=
 ajO (m:=apS ks) (D:=λu=>u.deg<=4) (λu v du r=>ajP h u v du r) 40 t v used d (by have:=aoK (ks:=ks) d;exact aur this (by decide))
theorem adF{ks:List (Int×Int)}{u v:V4}(hu:u.deg<=4) (hv:v.deg<=4):Near ks u.lst v.lst:=λp _=>by
 unfold V4.deg at hu hv
 generalize p.1.toNat=n
 match n with
 | 0=>show (u.a:Int)-v.a<=4/\(v.a:Int)-u.a<=4;exact ⟨auy (auR _ (aue _)) (Int.ofNat_le.mpr (ajY hu).1),auy (auR _ (aue _)) (Int.ofNat_le.mpr (ajY hv).1)⟩
 | 1=>show (u.b:Int)-v.b<=4/\(v.b:Int)-u.b<=4;exact ⟨auy (auR _ (aue _)) (Int.ofNat_le.mpr (ajY hu).2.1),auy (auR _ (aue _)) (Int.ofNat_le.mpr (ajY hv).2.1)⟩
 | 2=>show (u.c:Int)-v.c<=4/\(v.c:Int)-u.c<=4;exact ⟨auy (auR _ (aue _)) (Int.ofNat_le.mpr (ajY hu).2.2.1),auy (auR _ (aue _)) (Int.ofNat_le.mpr (ajY hv).2.2.1)⟩
 | 3=>show (u.d:Int)-v.d<=4/\(v.d:Int)-u.d<=4;exact ⟨auy (auR _ (aue _)) (Int.ofNat_le.mpr (ajY hu).2.2.2),auy (auR _ (aue _)) (Int.ofNat_le.mpr (ajY hv).2.2.2)⟩
 | n+4=>show (0:Int)-0<=4/\(0:Int)-0<=4;decide
theorem atw{ks:List (Int×Int)}(hk:Keys4 ks) (h1:ad3 ks) {u v:V4}(hu:u.deg<=4) (hv:v.deg<=4) (hne:u≠v):0<aeM ks u.lst v.lst\/0<aeM ks v.lst u.lst:=by
 refine (afH (h:=u) (l:=v) (ks:=ks)).elim λg1 g2=>?_
 refine g1▸?_;refine g2▸?_
 have hm:∀ x∈ac0 ks u v,x≠0:=λx hx=>by
  obtain ⟨p,hp,e⟩:=List.mem_filterMap.mp hx
  have:=h1 p hp
  split at e
  . exact nos e
  . cases e
    split <;> lia
 cases q:ac0 ks u v with
 | nil=>exact absurd q (amr hk hne)
 | cons x l=>
  have:=hm x (by refine q▸?_;exact .head _)
  show 0<x\/0 < -x
  lia
theorem aiU{ks:List (Int×Int)}(hk:Keys4 ks) (h1:ad3 ks) {u v:V4}(hu:u.deg<=4) (hv:v.deg=u.deg) (h0:1<=u.deg) (hne:u≠v):afN ks (aaS ks u v):=by
 have hv4:v.deg<=4:=by exact le_of_eq_of_le hv hu
 unfold aaS
 split
 . rename_i h
   exact ⟨⟨hv.symm,h0,hu⟩,(afL h1 (adF hu hv4)).mp h⟩
 . rename_i h
   rcases atw hk h1 hu hv4 hne with z | z
   . exact absurd z h
   . exact ⟨⟨hv,by exact le_of_le_of_eq h0 (id (Eq.symm hv)),hv4⟩,(afL h1 (adF hv4 hu)).mp z⟩
theorem ax1{p u x y:Nat}(h:p<=u):u+x-p+y=u-p+y+x:=(congrArg (·+y) (Nat.sub_add_comm h)).trans (auF ..)
theorem aoL{u x:V4}{p:Rl}(h:p.1.Le u):(u.add x).step p=(u.step p).add x:=V4.ext (ax1 h.1) (ax1 h.2.1) (ax1 h.2.2.1) (ax1 h.2.2.2)
theorem atx{u v:V4}(x:V4) (h:u.Le v):u.Le (v.add x):=⟨Nat.le_add_right_of_le h.1,Nat.le_add_right_of_le h.2.1,Nat.le_add_right_of_le h.2.2.1,Nat.le_add_right_of_le h.2.2.2⟩
theorem Red.add{rs:List Rl}{u v:V4}(x:V4) (h:Red rs u v):Red rs (u.add x) (v.add x):=by
 obtain ⟨p,hp,hl,rfl⟩:=h
 exact ⟨p,hp,atx x hl,(aoL hl).symm⟩
theorem Reds.add{rs:List Rl}{u v:V4}(x:V4) (h:Reds rs u v):Reds rs (u.add x) (v.add x):=by
 induction h with
 | refl=>exact .refl _
 | head a _ ih=>exact .head (a.add x) ih
theorem Joined.add{rs:List Rl}{u v:V4}(x:V4) (h:Joined rs u v):Joined rs (u.add x) (v.add x):=by
 refine (h).elim λz hX1=>hX1.elim λa b=>?_
 exact ⟨_,a.add x,b.add x⟩
theorem Joined.symm{rs:List Rl}{u v:V4}(h:Joined rs u v):Joined rs v u:=by
 refine (h).elim λz hX1=>hX1.elim λa b=>?_
 exact ⟨z,b,a⟩
noncomputable def arp (rs:List Rl):Prop:=∀ p∈rs,∀ q∈rs,(p.1.max q.1).deg<min 5 (p.1.deg+q.1.deg)->Joined rs (((p.1.max q.1).sub p.1).add p.2) (((p.1.max q.1).sub q.1).add q.2)
theorem mx1{p m u x:Nat}(h1:p<=m) (h2:m<=u):m-p+x+(u-m)=u-p+x:=
 (auF ..).trans (congrArg (·+x) ((aut ..).trans (Nat.sub_add_sub_cancel h2 h1)))
theorem mx2{p q u x y:Nat}(h:p+q<=u):u-q+y-p+x=u-p+x-q+y:=by
 obtain ⟨k,rfl⟩:=Nat.exists_eq_add_of_le h
 refine (show p+q+k-q=p+k by rw [Nat.add_right_comm,Nat.add_sub_cancel])▸?_;refine (show p+q+k-p=q+k by rw [Nat.add_assoc,Nat.add_sub_cancel_left])▸?_;rw [Nat.add_assoc p,Nat.add_sub_cancel_left,Nat.add_assoc q,Nat.add_sub_cancel_left,Nat.add_right_comm]
theorem mx3{p q u x:Nat}(h:p+q<=u):q<=u-p+x:=at0 (Nat.le_sub_of_add_le' h) (at9 _ _)
theorem mx4{a b s t:Nat}(h:a<=s) (k:s+t<=a+b):t<=b:=Nat.le_of_add_le_add_left (at0 (auj h t) k)
theorem mxs{p q:Nat}:Nat.max p q<=p+q:=Nat.max_le.mpr ⟨at9 ..,auQ ..⟩
theorem arq{p q u:V4}(l:p.Le u) (m:q.Le u):(p.max q).Le u:=⟨Nat.max_le.mpr ⟨l.1,m.1⟩,Nat.max_le.mpr ⟨l.2.1,m.2.1⟩,Nat.max_le.mpr ⟨l.2.2.1,m.2.2.1⟩,Nat.max_le.mpr ⟨l.2.2.2,m.2.2.2⟩⟩
theorem amK{p m u x:V4}(h1:p.Le m) (h2:m.Le u):((m.sub p).add x).add (u.sub m)=u.step (p,x):=V4.ext (mx1 h1.1 h2.1) (mx1 h1.2.1 h2.2.1) (mx1 h1.2.2.1 h2.2.2.1) (mx1 h1.2.2.2 h2.2.2.2)
theorem aty{p q u:V4}(d:u.deg<=4) (l:p.Le u) (m:q.Le u) (h:¬ (p.max q).deg<min 5 (p.deg+q.deg)):p.a+q.a<=u.a/\p.b+q.b<=u.b/\p.c+q.c<=u.c/\p.d+q.d<=u.d:=by
 have hm:=arq l m
 have h2:p.deg+q.deg<=(p.max q).deg:=by
  refine Nat.not_lt.mp λz=>h (Nat.lt_min.mpr ⟨Nat.lt_succ_of_le (at0 hm.deg d),z⟩)
 have m1:=mxs (p:=p.a) (q:=q.a)
 have m2:=mxs (p:=p.b) (q:=q.b)
 exact ⟨at0 (auM (at0 (auM (at0 (auM (at0 (at0 (aub (V4.deg_add (u:=p) (v:=q))) h2:(p.a+q.a)+(p.b+q.b)+(p.c+q.c)+(p.d+q.d)<=(p.max q).deg) (at8 (mxs (p:=p.d) (q:=q.d)) _))) (at8 (mxs (p:=p.c) (q:=q.c)) _))) (at8 m2 _))) hm.1,at0 (mx4 m1 (auM (at0 (auM (at0 (at0 (aub (V4.deg_add (u:=p) (v:=q))) h2:(p.a+q.a)+(p.b+q.b)+(p.c+q.c)+(p.d+q.d)<=(p.max q).deg) (at8 (mxs (p:=p.d) (q:=q.d)) _))) (at8 (mxs (p:=p.c) (q:=q.c)) _)))) hm.2.1,at0 (mx4 (auG m1 m2) (auM (at0 (at0 (aub (V4.deg_add (u:=p) (v:=q))) h2:(p.a+q.a)+(p.b+q.b)+(p.c+q.c)+(p.d+q.d)<=(p.max q).deg) (at8 (mxs (p:=p.d) (q:=q.d)) _)))) hm.2.2.1,at0 (mx4 (auG (auG m1 m2) (mxs (p:=p.c) (q:=q.c))) (at0 (aub (V4.deg_add (u:=p) (v:=q))) h2:(p.a+q.a)+(p.b+q.b)+(p.c+q.c)+(p.d+q.d)<=(p.max q).deg)) hm.2.2.2⟩
theorem akD{rs:List Rl}(hc:arp rs) (u v v':V4) (d:u.deg<=4) (a:Red rs u v) (b:Red rs u v'):Joined rs v v':=by
 obtain ⟨p,hp,hl,rfl⟩:=a
 obtain ⟨q,hq,hm,rfl⟩:=b
 by_cases h:(p.1.max q.1).deg<min 5 (p.1.deg+q.1.deg)
 . have:=(hc _ hp _ hq h).add (u.sub (p.1.max q.1))
   rwa [amK ⟨auu ..,auu ..,auu ..,auu ..⟩ (arq hl hm),amK ⟨auq ..,auq ..,auq ..,auq ..⟩ (arq hl hm)] at this
 . refine (aty d hl hm h).elim λs1 hX1=>hX1.elim λs2 hX2=>hX2.elim λs3 s4=>?_
   exact ⟨(u.step p).step q,.head ⟨_,hq,⟨mx3 s1,mx3 s2,mx3 s3,mx3 s4⟩,rfl⟩ (.refl _),.head ⟨_,hp,⟨mx3 (aut ..▸s1),mx3 (aut ..▸s2),mx3 (aut ..▸s3),mx3 (aut ..▸s4)⟩,(V4.ext (mx2 s1) (mx2 s2) (mx2 s3) (mx2 s4)).symm⟩ (.refl _)⟩
theorem Reds.more{rs rs':List Rl}(h:∀ p∈rs,p∈rs') {u v:V4}(r:Reds rs u v):Reds rs' u v:=by
 induction r with
 | refl=>exact .refl _
 | head a _ ih=>obtain ⟨p,hp,x⟩:=a;exact .head ⟨p,h p hp,x⟩ ih
theorem Joined.more{rs rs':List Rl}(h:∀ p∈rs,p∈rs') {u v:V4}(r:Joined rs u v):Joined rs' u v:=by
 refine (r).elim λz hX1=>hX1.elim λa b=>?_
 exact ⟨z,a.more h,b.more h⟩
noncomputable def cr (p q:Rl):Rl:=(((p.1.max q.1).sub p.1).add p.2,((p.1.max q.1).sub q.1).add q.2)
noncomputable def lap (p q:Rl):Prop:=(p.1.max q.1).deg<min 5 (p.1.deg+q.1.deg)
theorem agv{g l:V4}{p:Rl}(h:lap p (g,l)):acZ g l p=some (cr p (g,l)):=if_pos h
theorem ahU{g l:V4}{p x:Rl}(h:acZ g l p=some x):lap p (g,l)/\x=cr p (g,l):=by
 unfold acZ at h
 split at h
 . rename_i z;cases h;exact ⟨z,rfl⟩
 . exact nos h
structure Inv (ks:List (Int×Int)) (t:Nat) (rules pairs:List Rl):Prop where
 good:∀ p∈rules,afN ks p
 hom:∀ p∈pairs,abC p
 met:∀ i,i<t->∀ p,pairs[i]?=some p->Joined rules p.1 p.2
 crit:∀ p∈rules,∀ q∈rules,p≠q->lap p q->cr p q∈pairs\/cr q p∈pairs
 nd:(rules.map (·.1)).Nodup
 few:2*pairs.length+rules.length<=6+rules.length*rules.length
theorem ahV (u v:V4):u.max v=v.max u:=V4.ext (Nat.max_comm _ _) (Nat.max_comm _ _) (Nat.max_comm _ _) (Nat.max_comm _ _)
theorem aoM{p q:Rl}(h:lap p q):lap q p:=by
 unfold lap at h ⊢
 rw [ahV,Nat.add_comm];exact h
theorem arr (p q:Rl):cr q p=((cr p q).2,(cr p q).1):=by
 dsimp only [cr]
 rw [ahV]
theorem atz{p q:Rl}(hp:abC p) (hq:abC q) (h:lap p q):abC (cr p q):=by
 have l1:p.1.Le (p.1.max q.1):=⟨auu _ _,auu _ _,auu _ _,auu _ _⟩
 have l2:q.1.Le (p.1.max q.1):=⟨auq _ _,auq _ _,auq _ _,auq _ _⟩
 have a:=l1.deg
 have b:=l2.deg
 unfold lap at h
 have p1:=hp.1
 have p2:=hp.2.1
 refine (hq).elim λq1 hX1=>hX1.elim λq2 q3=>?_
 delta cr abC
 refine V4.deg_add▸?_;refine V4.deg_add.symm▸?_;refine (V4.deg_sub l1)▸?_;refine (V4.deg_sub l2)▸?_
 exact ⟨((congrArg ((p.1.max q.1).deg-p.1.deg+·) p1.symm).trans (auz a)).trans ((congrArg ((p.1.max q.1).deg-q.1.deg+·) q1.symm).trans (auz b)).symm,((congrArg ((p.1.max q.1).deg-p.1.deg+·) p1.symm).trans (auz a)).symm▸at0 p2 a,((congrArg ((p.1.max q.1).deg-p.1.deg+·) p1.symm).trans (auz a)).symm▸auk (at5 h (Nat.min_le_left _ _))⟩
theorem Inv.done{ks:List (Int×Int)}{t:Nat}{rules pairs:List Rl}(h:Inv ks t rules pairs) (e:pairs.length<=t):arp rules:=by
 intro p hp q hq hl
 have all:∀ x∈pairs,Joined rules x.1 x.2:=λx hx=>by
  refine (List.mem_iff_getElem.mp hx).elim λi hZ1=>hZ1.elim λhi e'=>?_
  exact h.met i (at5 hi e) x (by rw [List.getElem?_eq_getElem hi,e'])
 by_cases e':p=q
 . subst e'
   exact ⟨_,.refl _,.refl _⟩
 . rcases h.crit p hp q hq e' hl with z | z
   . exact all _ z
   . have:=all _ z
     rw [arr] at this
     exact this.symm
theorem Inv.skip{ks:List (Int×Int)}{t:Nat}{rules pairs:List Rl}(h:Inv ks t rules pairs) {p:Rl}(e:pairs[t]?=some p) (j:Joined rules p.1 p.2):Inv ks (t+1) rules pairs:=
by
 refine ⟨h.good,h.hom,λi hi x hx=>?_,h.crit,h.nd,h.few⟩
 by_cases z:i=t
 . replace hx:=z▸hx;replace hx:=e▸hx
   cases hx
   exact j
 . exact h.met i (Nat.lt_of_le_of_ne (auk hi) z) x hx
theorem ars (r:Nat):(r+1)*(r+1)=r*r+2*r+1:=by
 rw [Nat.add_mul,Nat.mul_add];lia
theorem amL (ks:List (Int×Int)) (u v:V4):aaS ks u v=(u,v)\/aaS ks u v=(v,u):=by
 unfold aaS;split <;> simp
theorem ahW (u v:V4):u.step (u,v)=v:=by
 delta V4.step V4.add V4.sub
 refine V4.ext ?_ ?_ ?_ ?_ <;> simp only <;> lia
theorem aiV (u:V4):u.Le u:=⟨auf _,auf _,auf _,auf _⟩
theorem Inv.grow{ks:List (Int×Int)}(hk:Keys4 ks) (h1:ad3 ks) {t k:Nat}{rules pairs:List Rl}(h:Inv ks t rules pairs) {p:Rl}(e:pairs[t]?=some p) (hne:aaJ rules k p.1≠aaJ rules k p.2) :
  Inv ks (t+1) (rules++[aaS ks (aaJ rules k p.1) (aaJ rules k p.2)]) (pairs++aa6 rules (aaS ks (aaJ rules k p.1) (aaJ rules k p.2))):=by
 have hX:=h.hom p (aux e)
 have e1:=hX.1
 have e3:=hX.2.2
 have hr:∀ q∈rules,abC q:=λq hq=>(h.good q hq).1
 have d1:(aaJ rules k p.1).deg=p.1.deg:=acu hr
 have d2:(aaJ rules k p.2).deg=p.2.deg:=acu hr
 have i1:Irr rules (aaJ rules k p.1):=adc h.good e3 k []
 have i2:Irr rules (aaJ rules k p.2):=adc h.good (by lia) k []
 have r1:Reds rules p.1 (aaJ rules k p.1):=aav 40 k p.1 []
 have r2:Reds rules p.2 (aaJ rules k p.2):=aav 40 k p.2 []
 generalize aaJ rules k p.1=a at *
 generalize aaJ rules k p.2=b at *
 have hg:=aiU hk h1 (u:=a) (v:=b) (by lia) (by lia) (le_of_le_of_eq hX.2.1 (id (Eq.symm d1))) hne
 have ho:=amL ks a b
 generalize aaS ks a b=n at *
 have hi:Irr rules n.1:=by rcases ho with rfl | rfl <;> assumption
 have sub:∀ q∈rules,q∈rules++[n]:=λq hq=>List.mem_append.mpr (.inl hq)
 have hnew:∀ x∈aa6 rules n,∃ q∈rules,lap q n/\x=cr q n:=λx hx=>by
  refine (List.mem_filterMap.mp hx).elim λq hX1=>hX1.elim λhq z=>?_
  exact ⟨q,hq,ahU z⟩
 refine ⟨λq hq=>?_,λx hx=>?_,λi hi' x hx=>?_,λq hq r hr' hqr hl=>?_,?_,?_⟩
 . rcases List.mem_append.mp hq with z | z
   . exact h.good q z
   . rw [List.mem_singleton.mp z];exact hg
 . rcases List.mem_append.mp hx with z | z
   . exact h.hom x z
   . obtain ⟨q,hq,hl,rfl⟩:=hnew x z
     exact atz (hr q hq) hg.1 hl
 . have hlt:t<pairs.length:=(List.getElem?_eq_some_iff.mp e).1
   rw [List.getElem?_append_left (Nat.lt_of_lt_of_le hi' hlt)] at hx
   by_cases z:i=t
   . replace hx:=z▸hx;replace hx:=e▸hx;cases hx
     clear hg
     clear hnew
     rcases ho with rfl | rfl
     . exact ⟨b,(r1.more sub).trans (.head ⟨_,(List.mem_append.mpr (.inr (.head _))),aiV a,(ahW a b).symm⟩ (.refl _)),r2.more sub⟩
     . exact ⟨a,r1.more sub,(r2.more sub).trans (.head ⟨_,(List.mem_append.mpr (.inr (.head _))),aiV b,(ahW b a).symm⟩ (.refl _))⟩
   . exact (h.met i (by lia) x hx).more sub
 . rcases List.mem_append.mp hq with z | z <;> rcases List.mem_append.mp hr' with y | y
   . refine (h.crit q z r y hqr hl).elim ?_ ?_
     . rintro x
       exact .inl (List.mem_append.mpr (.inl x))
     . rintro x
       exact .inr (List.mem_append.mpr (.inl x))
   . cases List.mem_singleton.mp y
     exact .inl (List.mem_append.mpr (.inr ((λq hq hl=>List.mem_filterMap.mpr ⟨q,hq,agv hl⟩:∀ q∈rules,lap q n->cr q n∈aa6 rules n) q z hl)))
   . cases List.mem_singleton.mp z
     exact .inr (List.mem_append.mpr (.inr ((λq hq hl=>List.mem_filterMap.mpr ⟨q,hq,agv hl⟩:∀ q∈rules,lap q n->cr q n∈aa6 rules n) r y (aoM hl))))
   . rw [List.mem_singleton.mp z,List.mem_singleton.mp y] at hqr
     exact absurd rfl hqr
 . rw [List.map_append,List.nodup_append]
   refine ⟨h.nd,by simp,λx hx y hy hxy=>?_⟩
   rw [List.map_cons,List.map_nil,List.mem_singleton] at hy
   refine (List.mem_map.mp hx).elim λq hX1=>hX1.elim λhq hqx=>?_
   refine hi q hq ?_
   refine (show q.1=n.1 from hqx.trans (hxy.trans hy))▸?_
   exact aiV _
 . have f:=h.few
   have g:(aa6 rules n).length<=rules.length:=List.length_filterMap_le _ _
   rw [List.length_append,List.length_append,List.length_singleton,ars]
   lia
theorem ad5{ks:List (Int×Int)}(hk:Keys4 ks) (h1:ad3 ks) {pick:Nat}:∀ (n t:Nat) (rules pairs:List Rl),Inv ks t rules pairs->
  ∃ t' pairs',Inv ks t' (aa1 ks pick n t rules pairs) pairs'/\(pairs'.length<=t'\/t'=t+n)
 | 0,t,rules,pairs,h=>⟨t,pairs,h,.inr rfl⟩
 | n+1,t,rules,pairs,h=>by
  dsimp only [aa1]
  cases e:pairs[t]? with
  | none=>exact ⟨t,pairs,h,.inl (by rwa [List.getElem?_eq_none_iff] at e)⟩
  | some p=>
   simp only
   split
   . rename_i q
     obtain ⟨t',ps,a,b⟩:=ad5 hk h1 n (t+1) rules pairs (h.skip e (⟨_,aav 40 (pick+t) p.1 [],by rw [show (aax rules 40 (pick+t) p.1 []).1=(aax rules 40 (pick+t) p.2 []).1 from q];exact aav 40 (pick+t) p.2 []⟩))
     exact ⟨t',ps,a,b.imp id λz=>by lia⟩
   . rename_i q
     obtain ⟨t',ps,a,b⟩:=ad5 hk h1 n (t+1) _ _ (h.grow hk h1 e q)
     exact ⟨t',ps,a,b.imp id λz=>by lia⟩
theorem ad6:∀ (l l':List V4),l.Nodup->(∀ a∈l,a∈l')->l.length<=l'.length
 | [],l',_,_=>aup _
 | a ::l,l',h,hs=>by
  rw [List.nodup_cons] at h
  have ha:=hs a (.head _)
  have e:=ad6 l (l'.erase a) h.2 λb hb=>(List.mem_erase_of_ne (λe:b=a=>h.1 (e▸hb))).mpr (hs b (.tail _ hb))
  rw [List.length_erase_of_mem ha] at e
  have:0<l'.length:=List.length_pos_of_mem ha
  exact Nat.add_le_of_le_sub this e
noncomputable def ag7:List V4:=anA 1++(anA 2++(anA 3++anA 4))
theorem aiW:ag7.length=69:=by decide +kernel
theorem aiX{v:V4}(h1:1<=v.deg) (h4:v.deg<=4):v∈ag7:=by
 have h:=ad4 h4
 have:v.deg=1\/v.deg=2\/v.deg=3\/v.deg=4:=by lia
 unfold ag7
 rcases this with e | e | e | e <;> replace h:=e▸h
 . exact List.mem_append.mpr (.inl h)
 . exact List.mem_append.mpr (.inr (List.mem_append.mpr (.inl h)))
 . exact List.mem_append.mpr (.inr (List.mem_append.mpr (.inr (List.mem_append.mpr (.inl h)))))
 . exact List.mem_append.mpr (.inr (List.mem_append.mpr (.inr (List.mem_append.mpr (.inr h)))))
theorem Inv.rules69{ks:List (Int×Int)}{t:Nat}{rules pairs:List Rl}(h:Inv ks t rules pairs):rules.length<=69:=by
 have:=ad6 _ ag7 h.nd λa ha=>by
  obtain ⟨p,hp,rfl⟩:=List.mem_map.mp ha
  have hX:=h.good p hp
  have a:=hX.1.2.1
  have b:=hX.1.2.2
  exact aiX a b
 rw [List.length_map,aiW] at this
 exact this
theorem Inv.pairs2349{ks:List (Int×Int)}{t:Nat}{rules pairs:List Rl}(h:Inv ks t rules pairs):pairs.length<=2352:=by
 have a:=h.rules69
 have b:=h.few
 have c:rules.length*(69-rules.length)+rules.length*rules.length=rules.length*69:=by rw [<- Nat.mul_add];congr 1;exact auz a
 generalize rules.length*rules.length=x at *
 lia
theorem akE{ks:List (Int×Int)}(hk:Keys4 ks) (h1:ad3 ks) {pick:Nat}{pairs:List Rl}(h:Inv ks 0 [] pairs) :
  arp (aa1 ks pick 3000 0 [] pairs)/\∀ p∈aa1 ks pick 3000 0 [] pairs,afN ks p:=by
 refine ag λG kG=>?_
 obtain ⟨t',ps,a,b⟩:=ad5 hk h1 (pick:=pick) 3000 0 [] pairs h
 refine kG ?_
 refine ⟨a.done ?_,a.good⟩
 have:=a.pairs2349
 exact b.elim id λz=>z▸aaK this rfl
theorem amM{ks:List (Int×Int)}{pairs:List Rl}(h:∀ p∈pairs,abC p) (hl:pairs.length<=3):Inv ks 0 [] pairs:=
 ⟨λp hp=>(by cases hp),h,λi hi=>absurd hi (Nat.not_lt_zero _),λp hp=>(by cases hp),List.nodup_nil,(by show 2*pairs.length+0<=6+0;lia)⟩
theorem amN{ks:List (Int×Int)}{rs:List Rl}(hc:arp rs) (hg:∀ p∈rs,afN ks p) {u v v':V4}(d:u.deg<=4) (a:Reds rs u v) (b:Reds rs u v') (i:Irr rs v) (i':Irr rs v'):v=v':=by
 refine (atv (m:=apS ks) (D:=λu=>u.deg<=4) (λu v du r=>ajP hg u v du r) (λu v v' du a b=>akD hc u v v' du a b) _ u v v' d (auf _) a b).elim λz hX1=>hX1.elim λx y=>?_
 refine (amH i x)▸?_;exact (amH i' y)
theorem ae3{ks:List (Int×Int)}{rs:List Rl}(hc:arp rs) (hg:∀ p∈rs,afN ks p) {u v:V4}(d:u.deg<=4) (r:Reds rs u v) (t t':Nat):aaJ rs t u=aaJ rs t' v:=by
 have hv:v.deg<=4:=by
  clear t t'
  induction r with
  | refl=>exact d
  | head a _ ih=>exact ih (ajP hg _ _ d a).1
 exact amN hc hg d (aav 40 t u []) (r.trans (aav 40 t' v [])) (adc hg d t []) (adc hg hv t' [])
theorem aiY{ks:List (Int×Int)}(hk:Keys4 ks) (h1:ad3 ks) {pick:Nat}:∀ (n t:Nat) (rules pairs:List Rl),Inv ks t rules pairs->okC ks pick n t rules pairs
 | 0,t,rules,pairs,h=>trivial
 | n+1,t,rules,pairs,h=>by
  refine ⟨by have:=h.rules69;lia,by have:=h.pairs2349;lia,λp hp=>(h.good p hp).1,h.hom,?_⟩
  cases e:pairs[t]? with
  | none=>trivial
  | some p=>
   simp only
   split
   . rename_i q
     exact aiY hk h1 n (t+1) rules pairs (h.skip e (⟨_,aav 40 (pick+t) p.1 [],by rw [show (aax rules 40 (pick+t) p.1 []).1=(aax rules 40 (pick+t) p.2 []).1 from q];exact aav 40 (pick+t) p.2 []⟩))
   . rename_i q
     exact aiY hk h1 n (t+1) _ _ (h.grow hk h1 e q)
theorem aeu{ks:List (Int×Int)}(hk:Keys4 ks) (h1:ad3 ks) {pick:Nat}:∀ (n t:Nat) (rules pairs:List Rl),Inv ks t rules pairs->
  ∃ t' pairs',Inv ks t' (aa1 ks pick n t rules pairs) pairs'/\(pairs'.length<=t'\/t'=t+n)/\∀ p∈pairs,p∈pairs'
 | 0,t,rules,pairs,h=>⟨t,pairs,h,.inr rfl,λ_ h=>h⟩
 | n+1,t,rules,pairs,h=>by
  dsimp only [aa1]
  cases e:pairs[t]? with
  | none=>exact ⟨t,pairs,h,.inl (by rwa [List.getElem?_eq_none_iff] at e),λ_ h=>h⟩
  | some p=>
   simp only
   split
   . rename_i q
     obtain ⟨t',ps,a,b,c⟩:=aeu hk h1 n (t+1) rules pairs (h.skip e (⟨_,aav 40 (pick+t) p.1 [],by rw [show (aax rules 40 (pick+t) p.1 []).1=(aax rules 40 (pick+t) p.2 []).1 from q];exact aav 40 (pick+t) p.2 []⟩))
     exact ⟨t',ps,a,b.imp id (λz=>by lia),c⟩
   . rename_i q
     obtain ⟨t',ps,a,b,c⟩:=aeu hk h1 n (t+1) _ _ (h.grow hk h1 e q)
     exact ⟨t',ps,a,b.imp id (λz=>by lia),λx hx=>c x (List.mem_append.mpr (.inl hx))⟩
theorem amO{ks:List (Int×Int)}(hk:Keys4 ks) (h1:ad3 ks) {pick:Nat}{pairs:List Rl}(h:Inv ks 0 [] pairs) :
  ∀ p∈pairs,Joined (aa1 ks pick 3000 0 [] pairs) p.1 p.2:=by
 refine ag λG kG=>?_
 obtain ⟨t',ps,a,b,c⟩:=aeu hk h1 (pick:=pick) 3000 0 [] pairs h
 refine kG ?_
 have hlen:=a.pairs2349
 intro p hp
 obtain ⟨i,hi,e'⟩:=List.mem_iff_getElem.mp (c p hp)
 exact a.met i (at5 hi (b.elim id λb=>b▸aaK hlen rfl)) p (by rw [List.getElem?_eq_getElem hi,e'])
theorem aoN{ks:List (Int×Int)}{rs:List Rl}(hc:arp rs) (hg:∀ p∈rs,afN ks p) {u:V4}{p:Rl}(d:u.deg<=4) (hp:p.1.Le u) (e:p.1.deg=p.2.deg) (j:Joined rs p.1 p.2) (t t':Nat) :
  aaJ rs t u=aaJ rs t' (u.step p):=by
 refine (j.add (u.sub p.1)).elim λz hX1=>hX1.elim λa b=>?_
 have e1:p.1.add (u.sub p.1)=u:=by
  obtain ⟨h1,h2,h3,h4⟩:=hp
  exact V4.ext (auU h1) (auU h2) (auU h3) (auU h4)
 have e2:p.2.add (u.sub p.1)=u.step p:=by
  exact V4.ext (aut _ _) (aut _ _) (aut _ _) (aut _ _)
 rw [e1] at a
 rw [e2] at b
 have ds:(u.step p).deg<=4:=by refine (aeY hp e)▸?_;exact d
 exact (ae3 hc hg d a t 0).trans (ae3 hc hg ds b t' 0).symm
theorem amP{rs:List Rl}{F:V4->Prop}(h:∀ u v,F u->Red rs u v->F v) {u v:V4}(r:Reds rs u v) (f:F u):F v:=by
 induction r with
 | refl=>exact f
 | head a _ ih=>exact ih (h _ _ f a)
theorem amQ{ks:List (Int×Int)}{rs pl:List Rl}(hc:arp rs) (hg:∀ p∈rs,afN ks p) {F:V4->Prop}(hsub:∀ p∈pl,p∈rs) (hpl:∀ p∈rs,F p.1->p∈pl) (hle:∀ u v:V4,u.Le v->F v->F u)
  (hst:∀ u v,F u->Red pl u v->F v) {u:V4}(d:u.deg<=4) (f:F u) (t t':Nat):aaJ pl t u=aaJ rs t' u:=by
 have r:Reds pl u (aaJ pl t u):=aav 40 t u []
 refine amN hc hg d (r.more hsub) (aav 40 t' u []) (λp hp hl=>(adc (λp hp=>hg p (hsub p hp)) d t []) p (hpl p hp (hle _ _ hl (amP hst r f))) hl) (adc hg d t' [])
theorem akF{ks:List (Int×Int)}{rs:List Rl}(hg:∀ p∈rs,afN ks p) {u v:V4}(d:u.deg<=4) (r:Reds rs u v):v=u\/wt ks v<wt ks u:=by
 induction r with
 | refl=>exact .inl rfl
 | @head u x v a b ih=>
  clear b
  refine ag λG kG=>?_
  obtain ⟨p,hp,hl,rfl⟩:=a
  refine kG ?_
  have e:=amJ (ks:=ks) hl
  have g:=(hg p hp).2
  rcases ih ((ajP hg _ _ d ⟨p,hp,hl,rfl⟩).1) with z | z
  . right;lia
  . right;lia
theorem atA (cell:Int) (place:Nat):aqS cell place≠0:=by
 unfold aqS
 have h:((cell.fdiv 8).fdiv (2^place)).fmod 2=0\/((cell.fdiv 8).fdiv (2^place)).fmod 2=1:=by
  exact Int.fmod_two_eq ((cell.fdiv 8).fdiv (2^place))
 rcases h with e | e <;> refine e.symm▸?_ <;> lia
theorem ahX (cell:Int) (two:Bool):ad3 (acV cell two):=by
 intro p hp
 rcases List.mem_append.mp hp with z | z
 . cases two
   . simp only [Bool.false_eq_true,if_false,List.mem_cons,List.not_mem_nil,or_false] at z
     rw [z];decide
   . simp only [if_true,List.mem_cons,List.not_mem_nil,or_false] at z
     rcases z with z | z <;> rw [z] <;> decide
 . obtain ⟨q,_,rfl⟩:=List.mem_map.mp z
   exact atA cell q.2
theorem art (cell:Int) (two:Bool):aft cell two<if two then 2 else 3:=by
 unfold aft
 cases two
 . simp only [Bool.false_eq_true,if_false];exact (Int.toNat_lt (Int.fmod_nonneg_of_pos _ (by decide))).mpr (Int.fmod_lt_of_pos _ (by decide))
 . simp only [if_true];exact (Int.toNat_lt (Int.fmod_nonneg_of_pos _ (by decide))).mpr (Int.fmod_lt_of_pos _ (by decide))
theorem keys4 (cell:Int) (two:Bool):Keys4 (acV cell two):=by
 have h:=art cell two
 unfold acV
 generalize aft cell two=k at h
 cases two
 . simp only [Bool.false_eq_true,if_false] at h
   have:k=0\/k=1\/k=2:=by lia
   rcases this with rfl | rfl | rfl
   . exact ⟨_,_,_,_,_,_,_,_,rfl,by decide⟩
   . exact ⟨_,_,_,_,_,_,_,_,rfl,by decide⟩
   . exact ⟨_,_,_,_,_,_,_,_,rfl,by decide⟩
 . simp only [if_true] at h
   have:k=0\/k=1:=by lia
   clear h
   rcases this with rfl | rfl
   . exact ⟨_,_,_,_,_,_,_,_,rfl,by decide⟩
   . exact ⟨_,_,_,_,_,_,_,_,rfl,by decide⟩
noncomputable def aru (two:Bool) (v:V4):Prop:=(two=true->v.c=0)/\v.d=0
theorem arv{two:Bool}(u v:V4) (h:u.Le v) (f:aru two v):aru two u:=by
 obtain ⟨h1,h2,h3,h4⟩:=h
 exact ⟨λe=>by have:=f.1 e;lia,by have:=f.2;lia⟩
theorem amR{cell:Int}{two:Bool}{p:Rl}(h:afN (acV cell two) p) (f:aru two p.1):aru two p.2:=by
 obtain ⟨⟨h1,h2,h3⟩,hw⟩:=h
 have hc:=(afL (ahX cell two) (adF (ks:=acV cell two) (u:=p.1) (v:=p.2) (by omega) (le_of_eq_of_le (id (Eq.symm h1)) h3))).mpr hw
 obtain ⟨⟨a,b,c,d⟩,⟨a',b',c',d'⟩⟩:=p
 obtain ⟨f1,f2⟩:=f
 simp only at f1 f2
 clear h1
 clear h2
 clear h3
 clear hw
 subst f2
 cases two
 . refine ⟨(λe=>by exact ff e),?_⟩
   show d'=0
   have hc':0<(if ((0:Nat):Int)<(d':Int) then -(4:Int) else if ((0:Nat):Int) > (d':Int) then 4 else _):=hc
   by_cases z:((0:Nat):Int)<(d':Int)
   . rw [if_pos z] at hc';lia
   . lia
 . have:=f1 rfl
   clear f1
   subst this
   have hc':0<(if ((0:Nat):Int)<(c':Int) then -(4:Int) else if ((0:Nat):Int) > (c':Int) then 4 else (if ((0:Nat):Int)<(d':Int) then -(4:Int) else if ((0:Nat):Int) > (d':Int) then 4 else _)):=hc
   by_cases z:((0:Nat):Int)<(c':Int)
   . rw [if_pos z] at hc';lia
   . have zc:c'=0:=by lia
     clear hc
     clear z
     subst zc
     by_cases y:((0:Nat):Int)<(d':Int)
     . replace hc':=(if_pos y)▸hc';lia
     . exact ⟨λ_=>rfl,by show d'=0;lia⟩
section
variable{z TI TO i1 i2 a1 a2:Addr}{xs ys:Array Value}
structure ZU (z TI TO i1 i2 a1 a2:Addr) (xs ys:Array Value) (i:Nat) (h:Heap):Prop where
 zz:∃ f0 f1,IsZ h z TI TO f0 f1/\apq f0
 oo:∃ a b,IsPair h TO a b
 ii:IsPair h TI (.ref i1) (.ref i2)
 h1:SeqIt h (.ref a1) xs i1 i
 h2:SeqIt h (.ref a2) ys i2 i
theorem ZU.at{i:Nat}{h h':Heap}(c:ZU z TI TO i1 i2 a1 a2 xs ys i h) (k:∀ b∈[z,TI,TO,i1,i2,a1,a2],∀ o,o.cls≠.none->h.get? b=some o->h'.get? b=some o):ZU z TI TO i1 i2 a1 a2 xs ys i h' where
 zz:=(c.zz).elim λf0 hX1=>hX1.elim λf1 hX2=>hX2.elim λe q=>⟨f0,f1,k z ((.head _)) _ nty e,q⟩
 oo:=(c.oo).elim λa hX1=>hX1.elim λb e=>⟨a,b,k TO (.tail _ (.tail _ (.head _))) _ nty e⟩
 ii:=k TI ((.tail _ (.head _))) _ nty c.ii
 h1:=c.h1.at (λo n e=>k i1 (.tail _ (.tail _ (.tail _ (.head _)))) o n e) λo n e=>k a1 (.tail _ (.tail _ (.tail _ (.tail _ (.tail _ (.head _)))))) o n e
 h2:=c.h2.at (λo n e=>k i2 (.tail _ (.tail _ (.tail _ (.tail _ (.head _))))) o n e) λo n e=>k a2 (.tail _ (.tail _ (.tail _ (.tail _ (.tail _ (.tail _ (.head _))))))) o n e
theorem ZU.quiet{i:Nat}{h:Heap}(c:ZU z TI TO i1 i2 a1 a2 xs ys i h):∀ b∈[z,TO,i1,i2],aa9 h b:=
 let ⟨_,_,e,_⟩:=c.zz
 (c.oo).elim λ_ hX1=>hX1.elim λ_ e'=>aee (aaw e rfl (by decide) rfl λ_ _ z=>nomatch z) (af9 e') c.h1.quiet c.h2.quiet
theorem ZU.live{i:Nat}{h:Heap}(c:ZU z TI TO i1 i2 a1 a2 xs ys i h) (b:Addr) (hb:b∈[z,TO,i1,i2]):∃ o,h.get? b=some o:=(c.quiet b hb).elim λo hX1=>hX1.elim λe _=>⟨o,e⟩
theorem SeqIt.src{h:Heap}{a it:Addr}{vs:Array Value}{i:Nat}(x:SeqIt h (.ref a) vs it i):∃ o,h.get? a=some o:=
 x.elim (λhZ5=>hZ5.elim λa' hZ6=>hZ6.elim λe hZ7=>hZ7.elim λ_ hZ8=>hZ8.elim λo' hZ9=>hZ9.elim λf1 _=>⟨o',Value.ref.inj e▸f1⟩) λhZ15=>hZ15.elim λa' hZ16=>hZ16.elim λe hZ17=>hZ17.elim λ_ hZ18=>hZ18.elim λo' hZ19=>hZ19.elim λf1 _=>⟨o',Value.ref.inj e▸f1⟩
theorem ZU.all{i:Nat}{h:Heap}(c:ZU z TI TO i1 i2 a1 a2 xs ys i h):∀ b∈[z,TI,TO,i1,i2,a1,a2],∃ o,h.get? b=some o:=
 have l:=c.live
 List.forall_mem_cons.mpr ⟨l _ (.head _),List.forall_mem_cons.mpr ⟨⟨_,c.ii⟩,List.forall_mem_cons.mpr ⟨l _ (.tail _ (.head _)),List.forall_mem_cons.mpr ⟨l _ (.tail _ (.tail _ (.head _))),List.forall_mem_cons.mpr ⟨l _ (.tail _ (.tail _ (.tail _ (.head _)))),List.forall_mem_cons.mpr ⟨c.h1.src,List.forall_mem_cons.mpr ⟨c.h2.src,λ_ z=>nomatch z⟩⟩⟩⟩⟩⟩⟩
theorem akG (hh:A.handled=none) (D:ZApart z TI TO i1 i2 [i1,a1] [i2,a2]) (n1:a1≠i1) (n2:a2≠i2) (o1:a1≠z) (o2:a2≠z) (hl:xs.size=ys.size) :
  WalksU pg γ.w A z [z,TI,TO,i1,i2,a1,a2] [z,TO,i1,i2] xs.size (λi vals=>∃ x y,xs[i]?=some x/\ys[i]?=some y/\vals=#[x,y]) (ZU z TI TO i1 i2 a1 a2 xs ys)
   (λi T h=>ZU z TI TO i1 i2 a1 a2 xs ys (i+1) h/\T∉[z,TO,i1,i2]) where
 sub:=aee (.head _) (.tail _ (.tail _ (.head _))) (.tail _ (.tail _ (.tail _ (.head _)))) (.tail _ (.tail _ (.tail _ (.tail _ (.head _)))))
 frame:=λi h h' c k=>c.at λb hb o _ e=>k b hb o e
 item:=λi s Q E hi c hQ=>by
  obtain ⟨f0,f1,hz,ho⟩:=c.zz
  refine (c.oo).elim λa hZ37=>hZ37.elim λb hO=>?_
  have hT:s.TypeIs (.ref z) "zip":=⟨_,hz,rfl⟩
  have D2:=abZ (γ:=γ) (A:=A.in1) hh n2 ys
  rw [<- hl] at D2
  refine atY (wpAny_attempt (auC (name:=Str.ofString "__next__") hT F.slot_zip_next
   (auO F.slot_zip_next hT F.entry_zip_next (adp (abZ (A:=A.in1) hh n1 xs) D2 D hz ho c.ii hO c.h1 c.h2 hi ?_) (F.args_zip_next_1 _))))
  intro h' tk f0' f1' x y a' b' T' hpx hpy hz' ho' hO' h1' h2' hT' hfr hk
  refine at3 (hQ T' #[x,y] h' tk ⟨x,y,hpx,hpy,rfl⟩ ⟨_,hT',rfl,_,rfl⟩ ⟨⟨⟨_,_,hz',ho'⟩,⟨_,_,hO'⟩,hk _ _ D.TIz D.TITO D.TIi1 D.TIi2 c.ii,h1',h2'⟩,λhm=>?_⟩ ?_)
  . obtain ⟨o,e⟩:=c.live _ hm
    exact nos (hfr.symm.trans e)
  . exact λb o n e=>hk b o (λq=>n (q▸.head _)) (λq=>n (q▸.tail _ (.head _))) (λq=>n (q▸.tail _ (.tail _ (.head _)))) (λq=>n (q▸.tail _ (.tail _ (.tail _ (.head _))))) e
 go:=λelts k pos i T s Q E c hQ=>by
  refine ag λG kG=>?_
  obtain ⟨⟨⟨f0,f1,hz,ho⟩,⟨a,b,hO⟩,ii,h1,h2⟩,_⟩:=c
  refine kG ?_
  refine ahr hz ho λh' f0' f1' hz' ho' hs=>hQ h' ⟨⟨_,_,hz',ho'⟩,⟨_,_,hs.extBut _ _ D.TOz hO⟩,hs.extBut _ _ D.TIz ii,h1.at (λo _ e=>hs.extBut _ _ D.i1z e) (λo _ e=>hs.extBut _ _ o1 e),h2.at (λo _ e=>hs.extBut _ _ D.i2z e) (λo _ e=>hs.extBut _ _ o2 e)⟩ λb o n e=>hs.extBut _ _ (λq=>n (q▸.head _)) e
 apart:=λi T h c=>c.2
 done:=λs Q E c hQ=>by
  refine ag λG kG=>?_
  refine (c.zz).elim λf0 hZ89=>hZ89.elim λf1 hZ90=>hZ90.elim λhz ho=>?_
  refine (c.oo).elim λa hZ103=>hZ103.elim λb hO=>?_
  refine kG ?_
  have hT:s.TypeIs (.ref z) "zip":=⟨_,hz,rfl⟩
  refine atY (wpAny_attempt (auC (name:=Str.ofString "__next__") hT F.slot_zip_next
   (auO F.slot_zip_next hT F.entry_zip_next (adL (abZ (A:=A.in1) hh n1 xs) D hz ho c.ii hO c.h1 λh' e hk he=>?_) (F.args_zip_next_1 _))))
  exact atY (wpAny_isInstance (T:="StopIteration") (b:=true) he isSubtype_stop (at3 (hQ h' s.toks λb o n e=>hk b o (λq=>n (q▸.head _)) (λq=>n (q▸.tail _ (.head _))) (λq=>n (q▸.tail _ (.tail _ (.head _)))) (λq=>n (q▸.tail _ (.tail _ (.tail _ (.head _))))) e)))
 self:=λi s Q E c hQ=>by
  refine (c.zz).elim λf0 hX1=>hX1.elim λf1 hX2=>hX2.elim λhz ho=>?_
  have hT:s.TypeIs (.ref z) "zip":=⟨_,hz,rfl⟩
  refine wpAny_pyIter_slot hT F.slot_zip_iter (auO F.slot_zip_iter hT F.entry_zip_iter ?_ (F.args_zip_iter_1 _))
  exact at3 ⟨_,rfl,"zip",_,hT,F.slot_zip_next.lookup,hQ⟩
end
section
variable{M:Model}
theorem aoO{pos:Pos}{scope:Scope}{qual:Str}{q:Addr×Addr×Nat×Nat×Str}{Q:Value->Shared->Prop}(wd:Wd γ s.heap) (hq:q∈aea) (hcode:env.code=.ref q.1) (hpos:pos.line=q.2.2.1/\pos.col=q.2.2.2.1) (hqual:qual=q.2.2.2.2)
  (h:∀ c' h' tk,Ext s { s with heap:=h',toks:=tk }->(∀ b o,o.cls≠.none->s.heap.get? b=some o->h'.get? b=some o)->Q (.ref c') { s with heap:=h',toks:=tk }):wpAny M A (genexprCode env pos qual scope) Q E s:=by
 subst hqual
 have hP:=ai9 q hq
 obtain ⟨C,ps,tp,hps⟩:=wd.tabs q hq
 have ne:∀ {b:Addr}{o:Obj},s.heap.get? b=some o->o.cls≠.none->b≠q.2.1:=λe n z=>by
  replace e:=z▸e;replace e:=tp▸e;cases e;exact n rfl
 rcases hps with rfl | ⟨c',rfl,hr⟩
 . refine wpAny_genexprCodeX hcode (C.code tp (by trivial)) (C.tab tp) rfl λc' h' tk hx _ _ _ hrec htb _=>?_
   have htb':h'.get? q.2.1=some (tabObj #[rawInt q.2.2.1,rawInt q.2.2.2.1,.ref c']):=by
    rw [<- hpos.1,<- hpos.2];exact htb.2
   refine h c' h' tk ⟨λb o n _ e=>hx b o (λz=>n (z▸hP)) e,λb o n _ e=>hx b o (ne e n) e,λb _ e=>?_,λi=>i.grow hq hx hrec htb',rfl,id⟩ λb o n e=>hx b o (ne e n) e
   by_cases z:b=q.2.1
   . rw [z] at e;exact nos (e.symm.trans htb')
   . cases y:s.heap.get? b with
     | none=>rfl
     | some o=>exact nos (e.symm.trans (hx b o z y))
 . exact wpAny_genexprCode_hit hcode (C.code tp (by trivial)) (c':=.ref c') (by
    show (if (q.2.2.1:Int)==(pos.line:Int)&&(q.2.2.2.1:Int)==(pos.col:Int) then some (Value.ref c') else _)=_
    refine hpos.1▸?_;refine hpos.2▸?_;simp) (h c' s.heap s.toks (ExtX.refl s) λ_ _ _ e=>e)
theorem aiZ{pos:Addr}{Q:Addr->Shared->Prop}(wd:Wd γ s.heap) (hg:env.globals=mainGlobals) (h:Q builtinsNs s):wpAny M A (builtinsFor env.globals pos) Q E s:=by
 refine (wd.st.bm).elim λb hX1=>hX1.elim λo hX2=>hX2.elim λe1 hX3=>hX3.elim λe2 hX4=>hX4.elim λe3 hX5=>hX5.elim λe4 hX6=>hX6.elim λe5 hX7=>hX7.elim λe6 e7=>?_
 refine hg▸?_
 exact wpAny_builtinsFor wd.g e1 e2 (wd.k _ _ e4) e5 e6 e7 h
end
noncomputable def ifO (s:Stmt):List Stmt:=stO s
noncomputable def acIf:Stmt:=(ifB ((agV ((abE (aaa 3)).getD 2 aeQ)).getD 0 aeQ)).getD 0 aeQ
noncomputable def akH:Stmt:=(ifB acIf).getD 0 aeQ
noncomputable def atB:Stmt:=(ifO acIf).getD 0 aeQ
section
theorem agw (cx:Cx γ it r A V s env sc ρ) {x:Str}{p:Pos}{t:T}{Q:Value->Shared->Prop}{E:Value->Shared->Prop}(h:ρ.lookup x=some t) (hn:anx x=true) (hQ:∀ v,Rep V s.heap v t->Q v s):wpAny (model pg γ.w) A (eval (.Name x p) env) Q E s:=by
 refine (cx.vars x t h).elim λv hX1=>hX1.elim λhv hr=>?_
 obtain ⟨n1,n2⟩:=akl hn
 refine (eval_Name _ _ _ n1)▸?_
 exact atY (at7 (aaA cx.envS.kind hv n2 (hQ v hr)))
theorem arw{cenv:Env}{p1 p2 p3:Pos}{m:Str->Option Value}{x y:Int}{tx ty:Tok}{E:Value->Shared->Prop}(hk:cenv.scope.kind=.function) (k1:cenv.kindOf "i"=some .local) (k2:cenv.kindOf "j"=some .local) (hn:s.heap.Ns cenv.locals m)
  (h1:m "i"=some (.int x tx)) (h2:m "j"=some (.int y ty)):wpAny (model pg γ.w) A (eval (.BinOp (.Name "i" p1) .Add (.Name "j" p2) p3) cenv) (λv s'=>(∃ t,v=.int (x+y) t)/\Keeps s s') E s:=by
 refine atY (atY (at7 (aaA hk (.inl ⟨k1,m,hn,h1⟩) rfl ?_)))
 refine atY (aud (atY (at7 (aaA hk (.inl ⟨k2,m,hn,h2⟩) rfl ?_))))
 exact atY (at7 (wpAny_operate' (add_int ⟨⟨_,rfl⟩,s.heap,_,rfl,λ_ _ e=>e⟩)))
end
structure ZP (s:Shared) (a b c d:Int) (z TI TO i1 i2 a1 a2:Addr) (xs ys:Array Value) (h':Heap):Prop where
 D:ZApart z TI TO i1 i2 [i1,a1] [i2,a2]
 ne:a1≠i1/\a2≠i2/\a1≠z/\a2≠z
 hx:∃ t u,xs=#[.int a t,.int b u]
 hy:∃ t u,ys=#[.int c t,.int d u]
 st:ZU z TI TO i1 i2 a1 a2 xs ys 0 h'
 new:∀ x∈[z,TO,i1,i2],s.heap.get? x=none
 up:∀ x o,s.heap.get? x=some o->h'.get? x=some o
 l1:∃ o,s.heap.get? a1=some o
 l2:∃ o,s.heap.get? a2=some o
section
variable{a b c d:Int}
theorem amS{h:Heap}{vs:Array Value}(rl:RepL V h vs.toList [.int a,.int b]):∃ t u,vs=#[.int a t,.int b u]:=by
 refine (aon rl).elim λt hX1=>hX1.elim λu e=>?_
 exact ⟨t,u,congrArg Array.mk e⟩
theorem arx{α:Type}:∀ {l:List α},l.length=2->∃ x y,l=[x,y]
 | [x,y],_=>⟨x,y,rfl⟩
theorem apT{p:List Nat}{L M:List Int}{j ct:Nat}{bW d6:Int}{y:Value}(h:∃ i,p[j]?=some i/\∃ m n t,L[i]?=some m/\M[i]?=some n/\y=.int (m+n) t) (e:p[j]?=some ct) (e1:L[ct]?=some bW) (e2:M[ct]?=some d6):∃ t,y=.int (bW+d6) t:=by
 obtain ⟨i,q,m,n,t,q1,q2,h⟩:=h
 cases soi (q.symm.trans e)
 exact ⟨t,h.trans (by rw [soi (q1.symm.trans e1),soi (q2.symm.trans e2)])⟩
theorem ary{n:Nat}{acc:Array Value}(hn:n=2) (h:ItemsOf (λj y=>∃ i,(passing (λ_=>true) n 0)[j]?=some i/\∃ m n t,([a,b]:List Int)[i]?=some m/\([c,d]:List Int)[i]?=some n/\y=.int (m+n) t) acc (passing (λ_=>true) n 0).length):∃ t u,acc=#[.int (a+c) t,.int (b+d) u]:=by
 subst hn
 obtain ⟨l⟩:=acc
 obtain ⟨hl,h⟩:=h
 obtain ⟨x,y,rfl⟩:=arx hl
 obtain ⟨t,rfl⟩:=apT (h 0 x rfl) rfl rfl rfl
 obtain ⟨u,rfl⟩:=apT (h 1 y rfl) rfl rfl rfl
 exact ⟨t,u,rfl⟩
theorem amT{o p:Option Obj}(h:p=none->o=none) (k:∀ q,p=some q->o=none):o=none:=by
 cases p with
 | none=>exact h rfl
 | some q=>exact k q rfl
theorem ajQ{xs:Array Value}{x y:Value}(h:xs=#[x,y]):xs.size=2:=h▸rfl
theorem ex9{α β δ ε ζ η θ ι κ:Type}{P:α->β->δ->ε->ζ->η->θ->ι->κ->Prop} (a b c d e f g h i) (p:P a b c d e f g h i):∃ a b c d e f g h i,P a b c d e f g h i:=⟨a,b,c,d,e,f,g,h,i,p⟩
theorem amU{v1 v2:Value}(r1:Rep V s.heap v1 (.tup [.int a,.int b])) (r2:Rep V s.heap v2 (.tup [.int c,.int d])) {Q:Value->Shared->Prop}{E:Value->Shared->Prop}
  (hQ:∀ z TI TO i1 i2 a1 a2 xs ys h',ZP s a b c d z TI TO i1 i2 a1 a2 xs ys h'->Q (.ref z) { s with heap:=h' }):wpAny (model pg γ.w) A (call (.type "zip") [v1,v2]) Q E s:=by
 refine afi r1 (.inr rfl) λb1 xs c1 q1 _ sv1 rl1 z1=>afi r2 (.inr rfl) λb2 ys c2 q2 _ sv2 rl2 z2=>aez sv1 sv2 λh' hz hTI hTO hi1 hi2 up=>hQ _ (s.heap.objs.size+2) (s.heap.objs.size+3) s.heap.objs.size (s.heap.objs.size+1) b1 b2 xs ys h' ?_
 subst q1 q2
 obtain ⟨o1,e1,_⟩:=z1
 refine (z2).elim λo2 hX1=>hX1.elim λe2 _=>?_
 exact ⟨aiq (aua e1) (aua e2),⟨(akb (aua e1)).2.2.2.1,(akb (aua e2)).2.2.2.2,(akb (aua e1)).1,(akb (aua e2)).1⟩,amS rl1,amS rl2,⟨⟨_,_,hz,.inl rfl⟩,⟨_,_,hTO⟩,hTI,hi1,hi2⟩,aee (P:=λx=>s.heap.get? x=none) (at6 (at9 _ 4)) (at6 (at9 _ 3)) (at6 (auf _)) (at6 (at9 _ 1)),up,⟨o1,e1⟩,⟨o2,e2⟩⟩
end
noncomputable def gE (e:Expr):Expr:=exI 0 e
theorem apU{a b:Int}{xs:Array Value}{i:Nat}{x:Value}(hx:∃ t u,xs=#[.int a t,.int b u]) (e:xs[i]?=some x):∃ m t,([a,b]:List Int)[i]?=some m/\x=.int m t:=by
 obtain ⟨t,u,rfl⟩:=hx
 match i,e with
 | 0,e=>exact ⟨a,t,rfl,(soi e).symm⟩
 | 1,e=>exact ⟨b,u,rfl,(soi e).symm⟩
theorem arz{γ:Gm}{A:Around}{s:Shared}{cenv:Env}{p1 p2 p3:Pos}{m:Str->Option Value}{i:Nat}{x y:Value}{a b c d:Int}{E:Value->Shared->Prop}(hk:cenv.scope.kind=.function) (k1:cenv.kindOf "i"=some .local) (k2:cenv.kindOf "j"=some .local) (hn:s.heap.Ns cenv.locals m)
  (h1:m "i"=some x) (h2:m "j"=some y) {xs ys:Array Value}(hx:∃ t u,xs=#[.int a t,.int b u]) (hy:∃ t u,ys=#[.int c t,.int d u]) (e1:xs[i]?=some x) (e2:ys[i]?=some y) :
  wpAny (model pg γ.w) A (eval (.BinOp (.Name "i" p1) .Add (.Name "j" p2) p3) cenv) (λv s'=>(∃ m n t,([a,b]:List Int)[i]?=some m/\([c,d]:List Int)[i]?=some n/\v=.int (m+n) t)/\Keeps s s') E s:=by
 refine (apU hx e1).elim λm hx=>hx.elim λt hx=>hx.elim λq1 e1=>(apU hy e2).elim λn hy=>hy.elim λu hy=>hy.elim λq2 e2=>?_
 exact at1 (arw hk k1 k2 hn (e1▸h1) (e2▸h2)) (λv s' z=>⟨z.1.elim λt e=>⟨m,n,t,q1,q2,e⟩,z.2⟩) λ_ _ e=>e
theorem gen_q{γ:Gm}{r:Nat}{A:Around}{V:aag}{s:Shared}{env:Env}{ρ:aab}{L:List (Int×T)}{k a b c d:Int}(st:Stat γ) (cx:Cx γ true (r+2) A V s env (aaD (aaa 3)).names ρ)
  (hc:env.code=.ref 55) (hq:env.qual="add_callers.<locals>.") (h1:ρ.lookup ("caller":Str)=some (.tup [.int a,.int b])) (h2:ρ.lookup ("new_callers":Str)=some (.dct L)) (h3:ρ.lookup ("func":Str)=some (.int k))
  (h4:abR L k=some (.tup [.int c,.int d])) {Q:Value->Shared->Prop}
  (hQ:∀ p a8,Ext s a8->(∀ (Q':Value->Shared->Prop),(∀ p aa t u,Ext s aa->s.heap.get? p=none->aa.heap.IsTuple p #[.int (a+c) t,.int (b+d) u]->Q' (.ref p) aa)->wpAny (model pg γ.w) A (call (.type "tuple") [.ref p]) Q' No a8)->Q (.ref p) a8) :
  wpAny (model pg γ.w) A (eval (gE (adD akH)) env) Q No s:=by
 refine wpAny_GeneratorExp_walksQTD (cl:=[]) (cx.aok.free rfl) rfl rfl (by decide) rfl rfl rfl (by decide) rfl (by have:=cx.aok.depth;exact auc (at9 _ _) this) ?_ λx=>rfl
 refine aaH cx rfl rfl (abG cx.wd (v:=.type "zip") (by decide)) abn (aca rfl rfl) (adz rfl rfl (agw cx h1 rfl λv1 rv1=>?_))
 refine aaj ((ahN (γ:=γ) (r:=r+2) st) _ _ _ (λt=>t=.tup [.int c,.int d]) ?_ A V s env cx) λv2 a8 t ht ae rv2=>⟨ae,?_⟩
 . conv=>whnf
   rw [h2]
   conv=>whnf
   rw [h3]
   conv=>whnf
   rw [h4]
 rw [ht] at rv2
 refine amU (rv1.ext ae (V':=Nv V s) λ_ h=>.inl h) rv2 λz TI TO i1 i2 a1 a2 xs ys h' Z=>?_
 have n2:xs.size=2:=Z.hx.elim λ_ h=>h.elim λ_ h=>ajQ h
 have W:=λ(A':Around) (hA:A'.handled=none)=>akG (γ:=γ) (A:=A') hA Z.D Z.ne.1 Z.ne.2.1 Z.ne.2.2.1 Z.ne.2.2.2 (n2.trans (Z.hy.elim λ_ h=>h.elim λ_ h=>ajQ h).symm)
 refine (W A (cx.aok.free rfl)).self 0 _ _ _ Z.st ?_
 have am:Ext s { a8 with heap:=h' }:=ae.trans (Ext.of (tk:=a8.toks) Z.up)
 have bG:=cx.wd.ext am
 refine ⟨bG.nolimit,aoO bG (q:=(55,51,27,42,"add_callers.<locals>.<genexpr>")) ((.head _)) hc ⟨rfl,rfl⟩ (by refine hq▸?_;rfl) λc' aB tk an dM=>aiZ (bG.ext an) cx.envS.glob ?_⟩
 have c6:=Z.st.at (h':=aB) λb _ o n e=>dM b o n e
 have x04:=am.trans an
 have new0:∀ x∈[z,TO,i1,i2],s.heap.get? x=none:=λx hx=>ae.there x id (Z.new x hx)
 refine ex9 z _ _ _ _ _ _ (λ_=>true) (λi y=>∃ m n t,([a,b]:List Int)[i]?=some m/\([c,d]:List Int)[i]?=some n/\y=.int (m+n) t) ⟨rfl,W,λi vals hq=>hq.elim λx hq=>hq.elim λy hq=>hq.elim λ_ hq=>hq.elim λ_ e=>⟨x,y,e⟩,c6,λb hb=>(c6.all b hb).elim λ_ e=>aua e,(bG.ext an).nolimit,(cx.wd.nolimit).elim λ_ h=>h.elim λn _=>ab6 n new0,λhref _=>⟨λA' E' i va vb aa dN _ _ _ _ _ _ _ _=>at3 ⟨rfl,aa.heap,aa.toks,rfl,λ_ _ e=>e⟩,λA' E' i va vb aa dN _ _ _ P _ hn g1 g2 _=>P.elim λx h=>h.elim λy h=>h.elim λe1 h=>h.elim λe2 e=>?_⟩,λp ax dZ gs hb hp hz bg WS GA=>hQ p _ (x04.trans ⟨λb o _ _ e=>bg b o e,λb o _ _ e=>bg b o e,aja bg,λi=>i.keeps bg,rfl,λg=>g.push hb⟩) λQ' hQ'=>
   call_tuple_gen WS.in4_3 (λi s' g=>g.1.elim λo h=>h.elim λ_ h=>h.elim λ_ h=>h.elim λe1 h=>⟨o,e1,h.1⟩) GA (λb hb=>hz▸(List.mem_cons.mp hb).elim (λe=>e▸auT _) λhb=>auv ((List.mem_cons.mp hb).elim (λe=>e▸hp) λhb=>aur (List.mem_range.mp hb) hp)) (.head _) (λs' acc mv ha=>(ary n2 ha).elim λt h=>h.elim λu e=>?_) (n2▸(by decide:2<=sizeLine))⟩
 . cases e
   exact arz rfl rfl rfl hn g1 g2 Z.hx Z.hy e1 e2
 . subst e
   have kp:∀ x o,x∉[z,TO,i1,i2]->aB.get? x=some o->(s'.heap.push { cls:=.type "tuple",data:=.seq #[.int (a+c) t,.int (b+d) u] }).get? x=some o:=λx o n e=>
    atZ _ (mv.heap x o (λhb=>(List.mem_cons.mp hb).elim (λq=>auH _ (q▸aua e)) n) (bg x o e))
   have y:=ExtX.wr (W:=(·∈[z,TO,i1,i2])) (s:={ a8 with heap:=aB,toks:=tk }) (tk:=0) (λ_ h=>h) c6.quiet kp
   exact hQ' _ _ t u (Ext.then (X:=(·∈[z,TO,i1,i2])) x04 ⟨y.keep,y.keepC,y.there,y.tab,mv.os,λg=>(g.push hb).moved mv.gens⟩ new0)
    (amT (x04.there _ id) λo q'=>amT id λp q=>nos ((at6 (auf _)).symm.trans (mv.heap _ o (λhm=>(List.mem_cons.mp hm).elim (λe=>auH _ (e▸aua q')) λhm=>nos ((new0 _ hm).symm.trans q)) (bg _ o q')))) ⟨_,at4 _ rfl,rfl,_,rfl⟩
theorem arA{γ:Gm}{r:Nat}{A:Around}{V:aag}{s:Shared}{env:Env}{ρ:aab}{L:List (Int×T)}{k a b c d:Int}(st:Stat γ) (cx:Cx γ true (r+2) A V s env (aaD (aaa 3)).names ρ)
  (hc:env.code=.ref 55) (hq:env.qual="add_callers.<locals>.") (h1:ρ.lookup ("caller":Str)=some (.tup [.int a,.int b])) (h2:ρ.lookup ("new_callers":Str)=some (.dct L)) (h3:ρ.lookup ("func":Str)=some (.int k))
  (h4:abR L k=some (.tup [.int c,.int d])) {Q:Value->Shared->Prop}
  (hQ:∀ p aa t u,Ext s aa->s.heap.get? p=none->aa.heap.IsTuple p #[.int (a+c) t,.int (b+d) u]->Q (.ref p) aa):wpAny (model pg γ.w) A (eval (adD akH) env) Q No s:=by
 show wpAny _ _ (eval (.Call (.Name _ _) [gE (adD akH)] [] _) env) _ _ _
 exact aaH cx rfl rfl (abG cx.wd (v:=.type "tuple") (by decide)) abn (acD rfl) (acR rfl (gen_q st cx hc hq h1 h2 h3 h4 λp a8 x f=>⟨x,f Q hQ⟩))
noncomputable def arB (l:Nat) (bH:Stmt) (F:List Str->aab->aab->(Out->Prop)->Prop) (more:HkS):HkS:=λst=>
 match Nat.beq st.pos.line l with
 | true=>some λfz ρ ω K=>st=bH/\F fz ρ ω K
 | false=>more st
section
theorem HkOK.at{l:Nat}{bH:Stmt}{F:List Str->aab->aab->(Out->Prop)->Prop}{more:HkS}(h:∀ (P:aag) (fz:List (Str×Addr)) ρ ω K V ad s,F (fz.map (·.1)) ρ ω K->SSt γ it r A X P a9 a6 env sc fz V ad s ρ ω->aaZ γ it r A X P a9 a6 env sc fz K V ad s ω bH)
  (m:HkOK γ it r A X a9 a6 env sc more):HkOK γ it r A X a9 a6 env sc (arB l bH F more):=λst F' hF P fz ρ ω K V ad s hk c=>by
 revert hF
 unfold arB
 cases Nat.beq st.pos.line l with
 | false=>exact λhF=>m st F' hF P fz ρ ω K V ad s hk c
 | true=>exact λhF=>by obtain rfl:=soi hF;exact hk.1▸h P fz ρ ω K V ad s hk.2 c
theorem aoP (c:SSt γ it r A X P a9 a6 env sc fz V ad s ρ ω) {x:Str}{l:List (Int×T)}{kk:Int}{tk:Tok}{t:T}(q:ω.lookup x=some (.dct l)) (hd:abR l kk=some t) {Q:Value->Shared->Prop}{E:Value->Shared->Prop}
  (hQ:∀ v,Rep V s.heap v t->Q v { s with toks:=s.toks+1 }):wpAny (model pg γ.w) A (getItem (.ref (ad x)) (.int kk tk)) Q E s:=by
 refine ag λG kG=>?_
 obtain ⟨g1,g2,g3,g4,g5,hsys,o,kvs,e,hD,rs⟩:=c.own x _ q
 refine kG ?_
 refine ((rs.find kk).1 t hd).elim λv hX1=>hX1.elim λex rx=>?_
 exact wpAny_getItem_of (knd:=intKind pg γ.w) (k:=kk) (intKind_is _ _ kk tk) (Heap.DictOf.mapOf (Heap.dictOf_iff.mpr ⟨_,e,aaE hD⟩)) ex (hQ v rx)
end
section
inductive AcCase (ρ ω:aab) (K:Out->Prop) (t u v:T):Prop
 | mk (L:List (Int×T)) (k:Int) (e1:ω.lookup ("new_callers":Str)=some (.dct L)) (e2:ρ.lookup ("caller":Str)=some u) (e3:ω.lookup ("caller":Str)=none) (e4:ρ.lookup ("func":Str)=some (.int k)) (e5:ω.lookup ("func":Str)=none) (e6:abR L k=some t) (e7:L.length+1<=10000)
  (e8:K (.nx ρ (("new_callers",.dct (abr L (k,v))) ::er "new_callers" ω))):AcCase ρ ω K t u v
noncomputable def atC:List Str->aab->aab->(Out->Prop)->Prop:=λ_ ρ ω K=>∃ a b c d,AcCase ρ ω K (.tup [.int c,.int d]) (.tup [.int a,.int b]) (.tup [.int (a+c),.int (b+d)])
noncomputable def apV:List Str->aab->aab->(Out->Prop)->Prop:=λ_ ρ ω K=>∃ a b,AcCase ρ ω K (.int a) (.int b) (.int (a+b))
theorem atD{x:Str}{t:T}(h:ω.lookup x=some t):(ω++ρ).lookup x=some t:=by rw [aaN,h]
theorem apW{x:Str}{t:T}(h:ρ.lookup x=some t) (n:ω.lookup x=none):(ω++ρ).lookup x=some t:=by rw [aaN,n];exact h
theorem atE (st:Stat γ) (k:FrK γ true (r+2) A X a9 a6 env (aaD (aaa 3)).names) (hc:env.code=.ref 55) (hq:env.qual="add_callers.<locals>.") (h:atC (fz.map (·.1)) ρ ω K)
  (c:SSt γ true (r+2) A X P a9 a6 env (aaD (aaa 3)).names fz V ad s ρ ω):aaZ γ true (r+2) A X P a9 a6 env (aaD (aaa 3)).names fz K V ad s ω akH:=by
 obtain ⟨a,b,c',d,L,kk,h1,h2,h3,h4,h5,h6,h7,hK⟩:=h
 show wpAny _ _ (exec (.Assign [.Subscript (.Name _ _) (.Name _ _) _] (adD akH) _) env) _ _ _
 refine wpAny_Assign_Subscript (arA st c.shown hc hq (apW h2 h3) (atD h1) (apW h4 h5) h6 λp a8 t u ae hp ht=>?_) rfl
 have al:=c.run k ae
 refine atY (at7 (aaA al.slots.kind (al.own _ _ h1).see rfl (agw al.cx h4 rfl λv rv=>?_)))
 refine agE rv λtk=>?_
 exact aiB k al h1 h7 (.tup (c.fr p hp) ht (.cons (.int _ t) (.cons (.int _ u) .nil))) λaa ah av=>⟨_,hK,V,ad,ah,(Stp.run ae).trans av⟩
theorem arC (k:FrK γ true r A X a9 a6 env (aaD (aaa 3)).names) (h:apV (fz.map (·.1)) ρ ω K)
  (c:SSt γ true r A X P a9 a6 env (aaD (aaa 3)).names fz V ad s ρ ω):aaZ γ true r A X P a9 a6 env (aaD (aaa 3)).names fz K V ad s ω atB:=by
 obtain ⟨a,b,L,kk,h1,h2,h3,h4,h5,h6,h7,hK⟩:=h
 refine wpAny_AugAssign_SubscriptAny ?_
 refine atY (at7 (aaA c.slots.kind (c.own _ _ h1).see rfl (agw c.cx h4 rfl λv rv=>?_)))
 refine agE rv λtk=>?_
 refine aoP c h1 h6 λv' rv'=>?_
 refine agE rv' λt1=>?_
 refine agw (c.run k (Ext.tok (tk:=s.toks+1))).cx h2 rfl λu ru=>?_
 refine agE ru λt2=>?_
 refine AutoIntOps.iadd_0 ?_
 have x2:Ext s { s with toks:=s.toks+1+1 }:=Ext.tok
 exact aiB k (c.run k x2) h1 h7 (.int (a+b) (s.toks+1)) λaa ah av=>⟨_,hK,V,ad,ah,(Stp.run x2).trans av⟩
end
set_option backward.match.sparseCases false
theorem ad7{α β:Type}{bind:T->aab->aab->Option (aab×aab)}{body:aab->aab->(Out->Prop)->Prop}{ks ko:List Str}{ρ:aab}{K:Out->Prop}(g:α->T) (W:β->aab) (f:β->α->β) (P:List α->β->Prop):∀ (xs:List α) (b:β),(∀ x xs b,P (x ::xs) b->P xs (f b x)/\∀ (K1:aab->aab->Prop) (K2:Out->Prop),K1 ρ (W (f b x))->opt (bind (g x) ρ (W b)) λp=>body p.1 p.2 λo=>match o with
   | .nx ρ ω=>K1 (abO ks ρ) (abO ko ω)
   | .br ρ ω=>K2 (.nx (abO ks ρ) (abO ko ω))
   | .rt t=>K2 (.rt t))->P xs b->K (.nx ρ (W (xs.foldl f b)))->afX bind body ks ko (xs.map g) ρ (W b) K:=by
 intro xs
 induction xs with
 | nil=>exact λb _ _ h=>h
 | cons x xs ih=>exact λb h hb hK=>(h x xs b hb).2 (λρ ω=>afX bind body ks ko (xs.map g) ρ ω K) K (ih _ h (h x xs b hb).1 hK)
noncomputable def ifT (s:Stmt):Expr:=stE s
noncomputable def nmE (x:Str):Expr:=.Name x ⟨0,0,0,0⟩
noncomputable def acHk:HkS:=arB 27 akH atC (arB 29 atB apV afY)
noncomputable def acSg:Sg:=sgH [] [] (hkE 26 15 (ifT acIf) λsc ρ K=>(aaW sc "isinstance"&&aaW sc "tuple")=true/\match ρ.lookup ("caller":Str) with
 | some (.int _)=>K (.bool false)
 | some (.tup _)=>K (.bool true)
 | _=>False)
theorem acJ{k:Int}:∀ {l:List (Int×T)},abR l k=l.lookup k
 | []=>rfl
 | (a,t) ::l=>by
  unfold abR
  rw [List.find?_cons,List.lookup_cons]
  by_cases h:a=k
  . subst h;simp
  . have h1:(a==k)=false:=by simpa using h
    simp only [h1,(by simpa using λe=>h e.symm:(k==a)=false)]
    exact acJ
theorem amV{l:List (Int×T)}{p:Int×T}{k:Int}(h:k≠p.1):(abr l p).lookup k=l.lookup k:=by
 have hb:(k==p.1)=false:=by simpa using h
 have m:∀ l:List (Int×T),(l.map λq=>if q.1==p.1 then (q.1,p.2) else q).lookup k=l.lookup k:=by
  intro l
  induction l with
  | nil=>rfl
  | cons q l ih=>
   rw [List.map_cons]
   by_cases e:q.1=p.1
   . have e1:(q.1==p.1)=true:=by simpa using e
     refine e1.symm▸?_;rw [if_pos rfl,List.lookup_cons,List.lookup_cons,(by refine e▸?_;exact hb:(k==q.1)=false)];exact ih
   . have e1:(q.1==p.1)=false:=by simpa using e
     refine e1▸?_;rw [if_neg Bool.false_ne_true,List.lookup_cons,List.lookup_cons,ih]
 unfold abr
 split
 . exact m l
 . rw [List.lookup_append,List.lookup_cons,hb]
   cases l.lookup k <;> rfl
noncomputable def OkS (l b:List (Int×T)):Prop:=b.length+l.length<=100/\(l.map (·.1)).Nodup/\∀ p∈l,∀ v,b.lookup p.1=some v->LikeT v p.2
theorem aoQ (b:List (Int×T)) (x:Int×T):∃ v,akT b x=abr b (x.1,v):=by
 unfold akT
 cases b.lookup x.1 with
 | none=>exact ⟨_,rfl⟩
 | some v=>exact ⟨_,rfl⟩
theorem OkS.next{x:Int×T}{l b:List (Int×T)}(h:OkS (x ::l) b):OkS l (akT b x):=by
 refine (aoQ b x).elim λv e=>?_
 refine (h).elim λh1 hX1=>hX1.elim λh2 h3=>?_
 replace h2:=List.map_cons▸h2;rw [List.nodup_cons] at h2
 have:=agN (l:=b) (p:=(x.1,v))
 dsimp only [List.length_cons] at h1
 rw [e]
 refine ⟨by exact at0 (auj this _) (at0 (aub (auF _ _ _)) h1),h2.2,λp hp u hu=>h3 p (.tail _ hp) u ?_⟩
 rw [amV (p:=(x.1,v)) λq=>h2.1 (q▸List.mem_map_of_mem hp)] at hu
 exact hu
theorem like_two{u v:T}(h:LikeT u v):(∃ a b,u=.int a/\v=.int b)\/∃ a b c d,u=.tup [.int a,.int b]/\v=.tup [.int c,.int d]:=by
 cases h with
 | int a b=>exact .inl ⟨_,_,rfl,rfl⟩
 | tup a b c d=>exact .inr ⟨_,_,_,_,rfl,rfl⟩
theorem amW{b:List (Int×T)}{k:Int}{u v:T}(h:abR b k=some v):akT b (k,u)=abr b (k,atq v u):=by
 dsimp only [akT]
 rw [<- acJ,h]
theorem amX{b:List (Int×T)}{k:Int}{u:T}(h:abR b k=none):akT b (k,u)=abr b (k,u):=by
 dsimp only [akT]
 rw [<- acJ,h]
theorem arD{γ:Gm}(st:Stat γ) {r:Nat}:SgOK γ acSg true r:=by
 refine apP st FsOK.nil MsOK.nil (λ_ _ _ _=>⟨rfl,rfl,λ_=>rfl⟩) (apO λsc ρ K h A V s env c=>?_)
 have gi:=(Bool.and_eq_true_iff.mp h.1).1
 have gt:=(Bool.and_eq_true_iff.mp h.1).2
 replace h:=h.2
 cases q:ρ.lookup ("caller":Str) with
 | none=>rw [q] at h;exact h.elim
 | some t=>
  rw [q] at h
  show Ev γ A V s (eval (.Call (.Name _ _) [.Name _ _,.Name _ _] [] _) env) K
  refine aaH c rfl gi (abG c.wd (v:=.builtin "isinstance") (by decide)) aaY (aca rfl rfl) (adz rfl rfl (agw c q rfl λv rv=>?_))
  refine ag1 c rfl gt (abG c.wd (v:=.type "tuple") (by decide)) ⟨ExtX.refl s,?_⟩
  clear q
  cases t <;> first | exact h.elim | skip
  . refine agE rv λtk=>?_
    exact PySem.IsiPair.int_tuple ⟨_,h,Ext.tok,.bool _⟩
  . obtain ⟨a,vs,rfl,va,⟨o,eo,hc,_⟩,_⟩:=aia rv
    exact PySem.IsiPair.tuple_tuple eo hc ⟨_,h,ExtX.refl s,.bool _⟩
theorem arE{b:List (Int×T)}{x:Int×T}{n:Nat}(h:b.length+(n+1)<=100):(abr b x).length+n<=100:=
 at0 (auj agN _) (at0 (aub (auF _ _ _)) h)
theorem amY{b n:Nat}(h:b+(n+1)<=100):b+1<=10000:=at0 (at0 (at8 (auI (aup n)) _) h) (by decide)
theorem amZ{t u:List (Int×T)}{K:T->Prop}(ho:OkC t u) (hK:K (.dct (ar9 t u))):blF true (aam acSg true 21) 20 (aaD (aaa 3)).names (λx=>x=="new_callers") acHk 20 [] (abE (aaa 3)) [("source",.dct u),("target",.dct t)] [] (aqO K):=by
 have h1:t.length<=10000:=at0 (at9 _ _) (aaK ho.1 rfl)
 have h2:u.length<=10000:=at0 (auQ _ _) (aaK ho.1 rfl)
 have e0:t.foldl abr []=t:=acw t [] ho.2.1
 rw [ar9,e0] at hK
 obtain ⟨X,hX⟩:∃ X:T,X=.dct t:=⟨_,rfl⟩
 obtain ⟨Y,hY⟩:∃ Y:T,Y=.dct u:=⟨_,rfl⟩
 subst hX
 refine szi h1 ?_
 refine ad7 (λp:Int×T=>T.tup [.int p.1,p.2]) (λb=>[("new_callers",.dct b)]) abr (λl b=>b.length+l.length<=100) t [] (λx l b hb=>⟨arE hb,λK1 K2 hk=>szi (amY hb) hk⟩) (Nat.zero_add _▸at0 (at9 _ _) ho.1) ?_
 subst hY
 refine szi h2 ?_
 refine e0.symm▸?_
 refine ad7 (λp:Int×T=>T.tup [.int p.1,p.2]) (λb=>[("new_callers",.dct b)]) akT OkS u t (λx l b hb=>⟨hb.next,λK1 K2 hk=>?_⟩) ⟨ho.1,ho.2.2⟩ hK
 have hz:=amY hb.1
 obtain ⟨x1,x2⟩:=x
 (try conv=>whnf)
 cases q:abR b x1 with
 | none=>
  rw [amX q] at hk
  exact szi hz hk
 | some v=>
  rw [amW q] at hk
  have hl:=hb.2.2 _ (.head _) v (acJ.symm.trans q)
  clear hb
  cases hl with
  | int m n=>exact ⟨rfl,rfl,⟨rfl,m,n,b,x1,rfl,rfl,rfl,rfl,rfl,q,hz,hk⟩⟩
  | tup m n m' n'=>exact ⟨rfl,rfl,⟨rfl,m',n',m,n,b,x1,rfl,rfl,rfl,rfl,rfl,q,hz,Int.add_comm m m'▸Int.add_comm n n'▸hk⟩⟩
theorem arF{γ:Gm}(st:Stat γ):CallOK γ (Wd γ) true 6 (.ref 56) ajH:=by
 rintro A V s vs ts K aok wd rs ⟨t,u,rfl,ho,hK⟩
 refine auX (adW (r:=5) (st.fnc (56,55,"add_callers",3) (by decide)) (by rfl) (by rfl) wd aok rs rfl λenv a8 X V' A' hcode hqual k c=>?_)
 refine at1 (aen (n:=20) (n':=20) (m:=20) (ow:=λx=>x=="new_callers") (hk:=acHk) (arD st) k (HkOK.at (λP fz ρ ω K V ad s h c=>atE (r:=3) st k hcode hqual h c) (HkOK.at (λP fz ρ ω K V ad s h c=>arC k h c) HkOK.none)) c (K:=K) ?_) (λf s' h=>h) aah
 exact amZ ho hK
set_option backward.match.sparseCases true
structure StatC (γ:Gm):Prop where
 g:γ.mg "TupleComp"=some (.ref aaO)
 kp:keepIn γ.KF (.ref aaO)=true
 mks:makesIn γ.KF aaO=true
 ini:∃ f,findIn γ.KF (.ref aaO) "__init__"=some (some (.ref f))/\typeIn γ.KF (.ref f)=some (.type "function")/\FnIn γ.KF f agC
 sa:findIn γ.KF (.ref aaO) "__setattr__"=some (some (.builtin "object.__setattr__"))
 po:plainOver γ.KF aaO=true
 tk:takerIn γ.KF aaO "comp_select_list"=some none
 hd:(clsIn γ.KF aaO).any (·.hasDict)=true
section
theorem am0{E:Value->Shared->Prop}{x dx:Addr}{v:Value}{name:Str}{Q:Unit->Shared->Prop}(C:StatC γ) (hn:takerIn γ.KF aaO name=some none) (X:γ.KF.In s.heap) (hx:s.heap.get? x=some (instObj aaO dx)) (hd:s.heap.get? dx=some emptyDict)
  (h:∀ h' tk e,e.key=.str name tk->e.val=v->(∃ n,h'.get? dx=some (dictOf [e] n))->Heap.SameBut dx s.heap h'->Q () { s with heap:=h',toks:=s.toks+1+1 }):wpAny (model pg γ.w) A (setAttr (.ref x) name v) Q E s:=by
 refine set_plain X (⟨hx,rfl,rfl,hd⟩:InstAt s.heap x (instObj aaO dx) aaO (some emptyDict)) C.sa (osa_open (s:={ s with toks:=s.toks+1 }) X (⟨hx,rfl,rfl,hd⟩:InstAt s.heap x (instObj aaO dx) aaO (some emptyDict)) C.po hn λb=>?_)
 obtain ⟨cd,hc,hd'⟩:=any_some C.hd
 refine atY (at3 (atY (atY (wpAny_loadPart hx (atY (Looks.here (s:={ s with toks:=s.toks+1 }) (looks_clsIn X hc) ?_))))))
 refine hd'.symm▸?_
 refine at3 (a:=some dx) (atY (at3 (atY ?_)))
 refine atY (atY (wpAny_askSetting (at3 (atY (wpAny_mkText (atY (wpAny_loadPart hd ?_)))))))
 dsimp only
 rw [aRefKeyMayBeTheName_at]
 rw [if_neg (by simp)]
 refine wpAny_updatePart (s:={ s with toks:=s.toks+1+1 }) hd ?_
 refine atY (wpAny_lookBehind (s:={ s with heap:=_,toks:=s.toks+1+1 }) (auA (h:=s.heap) (Obj.putName name (if name.cps.isEmpty=true then 0 else reduceHash ((model pg γ.w).w.params.strHash name.cps)) (.str name (s.toks+1)) v) hd rfl) (by rfl) ?_)
 exact at3 (h _ (s.toks+1) ⟨if name.cps.isEmpty=true then 0 else reduceHash ((model pg γ.w).w.params.strHash name.cps),.str name (s.toks+1),v⟩ rfl rfl ⟨1,(auA (h:=s.heap) (Obj.putName name (if name.cps.isEmpty=true then 0 else reduceHash ((model pg γ.w).w.params.strHash name.cps)) (.str name (s.toks+1)) v) hd rfl).trans (congrArg some (by rfl))⟩ (auB ..))
inductive Fitc (ts:List T) (K:T->Prop):Prop
 | mk (k:_) (e0:ts=[k]) (e1:K (.cmp k)):Fitc ts K
noncomputable def F_tc:Fun:=Fitc
theorem tc_ok (C:StatC γ):CallOK γ (Wd γ) it 2 (.ref aaO) F_tc:=by
 rintro A V s vs ts K aok wd rs ⟨k,rfl,hK⟩
 refine oneA rs λv rv=>?_
 obtain ⟨f,g1,g2,o,fd,c,oc,cvs,t,k1,k2,k3,k4,k5,k6,k7,k8,k9,k10,k11,k12,k13,k14,k15⟩:=C.ini
 obtain ⟨hp,gg,dd,tk,os⟩:=s
 refine auX (make_core (makes_of wd.k C.mks) (looks_findIn wd.k g1) (λself=>bind_fn wd.k self g2) (.inl rfl) ?_)
 refine codeAny_call_function (by have:=aok.depth;show A.depth+1<_;exact Nat.lt_of_succ_lt this) ((wd.ext (Ext.of (s:=⟨hp,gg,dd,tk,os⟩) (tk:=tk) λb o e=>atZ _ (atZ _ e):Ext ⟨hp,gg,dd,tk,os⟩ ⟨(hp.push emptyDict).push (instObj aaO hp.objs.size),gg,dd,tk,os⟩)).k _ _ k1) k3 (by rw [k6];rfl) (by rw [k6];rfl) k5 ⟨c,oc,cvs,t,k12,(wd.ext (Ext.of (s:=⟨hp,gg,dd,tk,os⟩) (tk:=tk) λb o e=>atZ _ (atZ _ e):Ext ⟨hp,gg,dd,tk,os⟩ ⟨(hp.push emptyDict).push (instObj aaO hp.objs.size),gg,dd,tk,os⟩)).k _ _ k13,k14,k15⟩ ?_
 rw [ab1 (by rw [k4];rfl) k10 (by rw [k4];rfl) (by rw [k4];rfl),k9,k4,k6]
 refine at3 (wpAny_newFunctionEnv (by decide) (λy hy=>(List.mem_cons.mp hy).elim (λe=>e▸rfl) λhy=>List.mem_singleton.mp hy▸rfl) (λh' hn hs=>?_) rfl)
 have up:∀ b o,hp.get? b=some o->h'.get? b=some o:=λb o e=>hs.extBut _ _ (aum (by rw [Heap.size_push,Heap.size_push];exact auv (auv (aua e)))) (atZ _ (atZ _ (atZ _ e)))
 refine ⟨(wd.ext (Ext.of (s:=⟨hp,gg,dd,tk,os⟩) (tk:=tk+2) up)).nolimit,codeAny_func ?_⟩
 refine aui (plainObj_wpAny_Assign_Attribute ?_ rfl)
 rw [eval_Name _ _ _ rfl,eval_Name _ _ _ rfl]
 refine atY (at7 (aaA rfl (.inl ⟨rfl,_,hn,rfl⟩) rfl (atY (at7 (aaA rfl (.inl ⟨rfl,_,hn,rfl⟩) rfl ?_)))))
 have hx:h'.get? (hp.objs.size+1)=some (instObj aaO hp.objs.size):=hs.extBut _ _ (aum (by rw [Heap.size_push,Heap.size_push];exact auT _)) (atZ _ (by refine (auP hp emptyDict)▸?_;exact at4 _ rfl))
 have hd:h'.get? hp.objs.size=some emptyDict:=hs.extBut _ _ (aum (by rw [Heap.size_push,Heap.size_push];exact auv (auT _))) (atZ _ (atZ _ (at4 _ rfl)))
 refine am0 C C.tk (wd.ext (Ext.of (s:=⟨hp,gg,dd,tk,os⟩) (tk:=tk+2) up)).k (dx:=hp.objs.size) hx hd λh3 tk3 e e1 e2 hq hs3=>hq.elim λn e3=>au0 ⟨rfl,.cmp k,hK,?_,?_⟩
 . exact Ext.of (s:=⟨hp,gg,dd,tk,os⟩) λb o e=>hs3.extBut _ _ (aum (aua e)) (up b o e)
 . exact .cmp (.inr (at6 (Nat.le_succ _))) (.inr (at6 (auf _))) (hs3.extBut _ _ (Nat.succ_ne_self _) hx) e3 e1
    (by refine e2.symm▸?_;exact rv.mono (λ_ h=>.inl h) λb o _ _ e=>hs3.extBut _ _ (aum (aua e)) (up b o e))
end
section
variable{W:Nat->Int}{I:Shared->Prop}{cmp:Nat->Nat->(Bool->Shared->Prop)->Shared->Prop}{p:Array Nat}
noncomputable def wp (W:Nat->Int) (p:Array Nat) (i:Nat):Int:=W (p.getD i 0)
structure PV (n:Nat) (W:Nat->Int) (p:Array Nat):Prop where
 size:p.size=n
 perm:p.Perm (List.range n).toArray
 inj:∀ i j,i<n->j<n->W i=W j->i=j
noncomputable def Asc (W:Nat->Int) (p:Array Nat) (m:Nat):Prop:=∀ i j,i<j->j<m->wp W p i<wp W p j
noncomputable def Dsc (W:Nat->Int) (p:Array Nat) (m:Nat):Prop:=∀ i j,i<j->j<m->wp W p j<wp W p i
theorem PV.lt (h:PV n W p) {i:Nat}(hi:i<n):p.getD i 0<n:=by
 have:p.getD i 0∈p:=by rw [Array.getD,dif_pos (h.size▸hi)];exact Array.getElem_mem _
 simpa using h.perm.mem_iff.mp this
theorem PV.ne (h:PV n W p) {i j:Nat}(hi:i<n) (hj:j<n) (hij:i≠j):wp W p i≠wp W p j:=λe=>by
 have e':=h.inj _ _ (h.lt hi) (h.lt hj) e
 have nd:p.toList.Nodup:=(Array.perm_iff_toList_perm.mp h.perm).nodup_iff.mpr List.nodup_range
 have hs:=h.size▸hi
 have ht:=h.size▸hj
 rw [Array.getD,dif_pos hs,Array.getD,dif_pos ht] at e'
 exact hij ((List.getElem_inj (h₀:=by simpa using hs) (h₁:=by simpa using ht) nd).mp (e'))
noncomputable def Cmp (n:Nat) (W:Nat->Int) (I:Shared->Prop) (cmp:Nat->Nat->(Bool->Shared->Prop)->Shared->Prop):Prop:=
 ∀ i j s C,i<n->j<n->I s->(∀ s',I s'->C (decide (W i<W j)) s')->cmp i j C s
theorem Cmp.ask (hc:Cmp n W I cmp) (h:PV n W p) {i j:Nat}(hi:i<n) (hj:j<n) (hij:i≠j) {s:Shared}(hs:I s) {C:Bool->Shared->Prop}(h1:wp W p i<wp W p j->∀ s',I s'->C true s') (h2:wp W p j<wp W p i->∀ s',I s'->C false s') :
  cmp (p.getD i 0) (p.getD j 0) C s:=by
 refine hc _ _ s C (h.lt hi) (h.lt hj) hs λs' hs'=>?_
 by_cases q:wp W p i<wp W p j
 . rw [show decide (W (p.getD i 0)<W (p.getD j 0))=true from decide_eq_true q];exact h1 q s' hs'
 . rw [show decide (W (p.getD i 0)<W (p.getD j 0))=false from decide_eq_false q]
   exact h2 (Int.lt_iff_le_and_ne.mpr ⟨Int.not_lt.mp q,λe=>h.ne hi hj hij e.symm⟩) s' hs'
theorem Asc.one:Asc W p 1:=λi j h h'=>absurd (at5 h (auk h')) (Nat.not_lt_zero _)
theorem Asc.snoc{m:Nat}(h:Asc W p (m+1)) (h':wp W p m<wp W p (m+1)):Asc W p (m+2):=λi j hij hj=>by
 rcases Nat.lt_succ_iff_lt_or_eq.mp hj with hj | rfl
 . exact h i j hij hj
 . rcases Nat.lt_succ_iff_lt_or_eq.mp hij with q | rfl
   . exact Int.lt_trans (h i m q (auT _)) h'
   . exact h'
theorem Dsc.snoc{m:Nat}(h:Dsc W p (m+1)) (h':wp W p (m+1)<wp W p m):Dsc W p (m+2):=λi j hij hj=>by
 rcases Nat.lt_succ_iff_lt_or_eq.mp hj with hj | rfl
 . exact h i j hij hj
 . rcases Nat.lt_succ_iff_lt_or_eq.mp hij with q | rfl
   . exact Int.lt_trans h' (h i m q (auT _))
   . exact h'
theorem am1 (hc:Cmp n W I cmp) (h:PV n W p) {Q:Nat->Shared->Prop}:∀ (f m:Nat) (s:Shared),m+1+f=n->Asc W p (m+1)->I s->
  (∀ m' s',m'+1<=n->Asc W p (m'+1)->(m'+1<n->wp W p (m'+1)<wp W p m')->I s'->Q (m'+1) s')->(kas_asc p f (m+1)).kasWp cmp Q s
 | 0,m,s,e,ha,hs,q=>q m s (aub e) ha (λz=>absurd e (aum z)) hs
 | f+1,m,s,e,ha,hs,q=>by
  have hm:m+1<n:=by refine e▸?_;exact Nat.lt_add_of_pos_right (auh f)
  refine hc.ask h hm (Nat.lt_of_succ_lt hm) (Nat.succ_ne_self m) hs (λz s' hs'=>?_) λz s' hs'=>?_
  . exact q m s' (aug hm) ha (λ_=>z) hs'
  . exact am1 hc h f (m+1) s' (by refine e▸?_;exact auF (m+1) 1 f) (ha.snoc z) hs' q
theorem am2 (hc:Cmp n W I cmp) (h:PV n W p) {Q:Array Nat×Nat×Nat->Shared->Prop}:∀ (f m:Nat) (s:Shared),m+1+f=n->Dsc W p (m+1)->I s->
  (∀ m' s',m'+1<=n->Dsc W p (m'+1)->I s'->Q (p,m'+1,0) s')->(kas_desc f p (m+1) 0).kasWp cmp Q s
 | 0,m,s,e,ha,hs,q=>q m s (aub e) ha hs
 | f+1,m,s,e,ha,hs,q=>by
  have hm:m+1<n:=by refine e▸?_;exact Nat.lt_add_of_pos_right (auh f)
  refine hc.ask h hm (Nat.lt_of_succ_lt hm) (Nat.succ_ne_self m) hs (λz s' hs'=>?_) λz s' hs'=>?_
  . exact am2 hc h f (m+1) s' (by refine e▸?_;exact auF (m+1) 1 f) (ha.snoc z) hs' q
  . refine hc.ask h (Nat.lt_of_succ_lt hm) hm (Nat.succ_ne_self m).symm hs' (λ_ s'' hs''=>?_) λz'=>absurd z (Int.lt_asymm z')
    exact q m s'' (aug hm) ha hs''
theorem PV.rev (h:PV n W p) (m:Nat):PV n W (kas_rev p 0 m):=⟨(mirror_size ..).trans h.size,(mirror_perm ..).trans h.perm,h.inj⟩
theorem apX (h:PV n W p) {m i:Nat}(hm:m<=n) (hi:i<m):wp W (kas_rev p 0 m) i=wp W p (m-1-i):=by
 have:=getElem?_mirror_all (xs:=p) (i:=0) (j:=m) (h.size▸hm) i
 rw [if_pos ⟨Nat.zero_le _,hi⟩,Nat.zero_add] at this
 unfold wp
 rw [Array.getD_eq_getD_getElem?,Array.getD_eq_getD_getElem?]
 exact congrArg (λo:Option Nat=>W (o.getD 0)) this
theorem Dsc.rev (h:PV n W p) {m:Nat}(hm:m<=n) (d:Dsc W p m):Asc W (kas_rev p 0 m) m:=λi j hij hj=>by
 rw [apX h hm (Nat.lt_trans hij hj),apX h hm hj]
 exact d _ _ (Nat.sub_lt_sub_left (at5 hij (Nat.le_sub_one_of_lt hj)) hij) (auc (Nat.sub_le _ _) (Nat.sub_lt (auY hj) Nat.one_pos))
theorem ai0 (hc:Cmp n W I cmp) (h:PV n W p) {Q:Nat×Array Nat->Shared->Prop}{s:Shared}(h2:2<=n) (hd:Dsc W p 2) (hs:I s)
  (q:∀ m p' s',m+1<=n->PV n W p'->Asc W p' (m+1)->I s'->Q (m+1,p') s'):(kas_descPart 1 n p).kasWp cmp Q s:=by
 unfold kas_descPart
 rw [KasT.kasWp_bind]
 refine am2 hc h (n-2) 1 s (Nat.add_sub_of_le h2) hd hs λm s' hm dm hs'=>?_
 show KasT.kasWp cmp (if 0 > 0 then _ else kas_tail3 (m+1) n p) Q s'
 refine (if_neg (auH 0))▸?_
 unfold kas_tail3
 rw [KasT.kasWp_bind]
 exact am1 hc (h.rev _) (n-(m+1)) m s' (auU hm) (dm.rev h hm) hs' λm' s'' hm' ha _ hs''=>q m' _ s'' hm' (h.rev _) ha hs''
theorem aoR (hc:Cmp n W I cmp) (h:PV n W p) {Q:Nat×Array Nat->Shared->Prop}{s:Shared}(h2:2<=n) (hs:I s)
  (q:∀ m p' s',m+1<=n->PV n W p'->Asc W p' (m+1)->I s'->Q (m+1,p') s'):(kas_count n p).kasWp cmp Q s:=by
 unfold kas_count
 rw [KasT.kasWp_bind]
 refine am1 hc h (n-1) 0 s (auU (m:=0+1) (aun h2)) Asc.one hs λm s' hm ha hl hs'=>?_
 split
 . exact q m p s' hm h ha hs'
 . rename_i hne
   have hlt:m+1<n:=Nat.lt_of_le_of_ne hm λe=>hne (by simpa using e)
   split
   . rename_i h1
     have h0:0<m:=Nat.lt_of_succ_lt_succ h1
     refine hc.ask h (at5 (auh _) hm) (Nat.lt_of_succ_le hm) (aum h0) hs' (λ_ s'' hs''=>?_) λz'=>absurd (ha 0 m h0 (auT _)) (Int.lt_asymm z')
     exact q m p s'' hm h ha hs''
   . rename_i h1
     have h0:m=0:=by exact Nat.le_zero.mp (Nat.le_of_succ_le_succ (Nat.not_lt.mp h1))
     clear hne
     subst h0
     exact ai0 hc h h2 (λi j hij hj=>by
      have:i=0/\j=1:=by exact ⟨Nat.lt_one_iff.mp (at5 hij (auk hj)),auV (auk hj) (auY hij)⟩
      rw [this.1,this.2];exact hl hlt) hs' q
theorem ag8 (hc:Cmp n W I cmp) (h:PV n W p) {k:Nat}(hk:k<n) (ha:Asc W p k) {Q:Nat->Shared->Prop}:∀ (f l r:Nat) (s:Shared),l<=r->r<=k->r-l<=f->(∀ i,i<l->wp W p i<wp W p k)->(∀ i,r<=i->i<k->wp W p k<wp W p i)->I s->
  (∀ l s',l<=k->(∀ i,i<l->wp W p i<wp W p k)->(∀ i,l<=i->i<k->wp W p k<wp W p i)->I s'->Q l s')->(kas_place p k f l r).kasWp cmp Q s
 | 0,l,r,s,h1,h2,h3,h4,h5,hs,q=>q l s (at0 h1 h2) h4 (λi hi=>h5 i (at0 (Nat.sub_eq_zero_iff_le.mp (Nat.le_zero.mp h3)) hi)) hs
 | f+1,l,r,s,h1,h2,h3,h4,h5,hs,q=>by
  dsimp only [kas_place]
  split
  . exact q l s (at0 h1 h2) h4 (λi hi=>h5 i (at0 ‹l ≥ r› hi)) hs
  . have hm1:l<=(l+r) / 2:=by exact (Nat.le_div_iff_mul_le (by decide)).mpr (Nat.mul_two l▸at8 h1 l)
    have hm2:(l+r) / 2<r:=by exact Nat.div_lt_of_lt_mul (Nat.two_mul r▸Nat.add_lt_add_right (Nat.lt_of_not_le ‹¬ l ≥ r›) r)
    generalize (l+r) / 2=m at hm1 hm2 ⊢
    have hmk:m<k:=at5 hm2 h2
    refine hc.ask h hk (aur hmk hk) (auJ hmk) hs (λz s' hs'=>?_) λz s' hs'=>?_
    . refine ag8 hc h hk ha f l m s' hm1 (aug hmk) (asd h3 hm2) h4 (λi hi hik=>?_) hs' q
      refine (Nat.eq_or_lt_of_le hi).elim ?_ ?_
      . rintro rfl
        exact z
      . rintro hi
        exact Int.lt_trans z (ha m i hi hik)
    . refine ag8 hc h hk ha f (m+1) r s' hm2 h2 (ase h3 hm1) (λi hi=>?_) h5 hs' q
      clear hm1
      clear hm2
      rcases Nat.lt_succ_iff_lt_or_eq.mp hi with hi | rfl
      . exact Int.lt_trans (ha i m hi hmk) z
      . exact z
theorem apY (h:PV n W p) {k l:Nat}(hk:k<n) (hl:l<=k) (i:Nat):wp W (bubble p k (k-l)) i=if i=l then wp W p k else if l<i/\i<=k then wp W p (i-1) else wp W p i:=by
 have:=getElem?_bubble (xs:=p) (src:=k) (h.size▸hk) (k-l) (Nat.sub_le ..) i
 rw [Nat.sub_sub_self hl] at this
 unfold wp
 simp only [Array.getD_eq_getD_getElem?]
 rw [this]
 split
 . rfl
 . split <;> rfl
theorem Asc.put (h:PV n W p) {k l:Nat}(hk:k<n) (hl:l<=k) (ha:Asc W p k) (h1:∀ i,i<l->wp W p i<wp W p k) (h2:∀ i,l<=i->i<k->wp W p k<wp W p i):Asc W (bubble p k (k-l)) (k+1):=λi j hij hj=>by
 rw [apY h hk hl,apY h hk hl]
 by_cases ei:i=l
 . rw [if_pos ei,if_neg (by lia),if_pos ⟨by exact lt_of_eq_of_lt (id (Eq.symm ei)) hij,by lia⟩]
   exact h2 _ (Nat.le_sub_one_of_lt (ei▸hij)) (at5 (Nat.sub_lt (auY hij) Nat.one_pos) (auk hj))
 . rw [if_neg ei]
   by_cases ej:j=l
   . rw [if_pos ej,if_neg (by lia)]
     exact h1 i (Nat.lt_of_lt_of_eq hij ej)
   . rw [if_neg ej]
     by_cases qi:l<i/\i<=k
     . rw [if_pos qi,if_pos ⟨by exact Nat.lt_trans qi.1 hij,by lia⟩]
       exact ha _ _ (Nat.sub_lt_sub_right (auY qi.1) hij) (by omega)
     . rw [if_neg qi]
       by_cases qj:l<j/\j<=k
       . rw [if_pos qj]
         exact ha _ _ (at5 (Nat.lt_of_le_of_ne (Nat.le_of_not_lt λz=>qi ⟨z,auk (aur hij hj)⟩) ei) (Nat.le_sub_one_of_lt qj.1)) (by omega)
       . rw [if_neg qj]
         exact ha _ _ hij (at5 (Nat.lt_of_le_of_ne (Nat.le_of_not_lt λz=>qj ⟨z,auk hj⟩) ej) hl)
theorem apZ (hc:Cmp n W I cmp) {Q:Array Nat->Shared->Prop}(q:∀ p s',PV n W p->Asc W p n->I s'->Q p s'):∀ (f:Nat) (p:Array Nat) (k:Nat) (s:Shared),PV n W p->k+f=n->Asc W p k->I s->(kas_bin f p k).kasWp cmp Q s
 | 0,p,k,s,h,e,ha,hs=>q p s h (e▸ha) hs
 | f+1,p,k,s,h,e,ha,hs=>by
  dsimp only [kas_bin]
  rw [KasT.kasWp_bind]
  refine ag8 hc h (by refine e▸?_;exact Nat.lt_add_of_pos_right (auh f)) ha k 0 k s (aup _) (auf _) (Nat.sub_le ..) (λi hi=>absurd hi (Nat.not_lt_zero _)) (λi h1 h2=>absurd h1 (Nat.not_le_of_lt h2)) hs λl s' hl h1 h2 hs'=>?_
  exact apZ hc q f _ (k+1) s' ⟨(bubble_size ..).trans h.size,(bubble_perm ..).trans h.perm,h.inj⟩ (by refine e▸?_;exact auF k 1 f) (ha.put h (by refine e▸?_;exact Nat.lt_add_of_pos_right (auh f)) hl h1 h2) hs'
theorem arG (hc:Cmp n W I cmp) (hW:∀ i j,i<n->j<n->W i=W j->i=j) (h2:2<=n) {Q:Array Nat->Shared->Prop}{s:Shared}(hs:I s) (q:∀ p s',PV n W p->Asc W p n->I s'->Q p s'):(kas_sort n).kasWp cmp Q s:=by
 unfold kas_sort
 rw [KasT.kasWp_bind]
 refine aoR hc ⟨by simp,Array.Perm.refl _,hW⟩ h2 hs λm p' s' hm hp ha hs'=>?_
 refine (Nat.max_eq_left (auI (aup m)))▸?_
 split
 . exact apZ hc q _ _ _ s' hp (auU hm) ha hs'
 . rename_i hne
   exact q p' s' hp (auV hm (Nat.not_lt.mp hne)▸ha) hs'
end
open AutoSeq1 (wpAny_loadPart')
set_option backward.match.sparseCases false
noncomputable def aoS:List Int->List Int->Bool
 | a ::as,b ::bs=>if (a==b)=true then aoS as bs else decide (a<b)
 | _,_=>false
noncomputable abbrev ahf (vs:Array Value) (n:Nat):Obj:={ cls:=.type "list",dict:=none,data:=.seq vs n,slots:=#[] }
theorem ajR{α:Type}{l:List α}{i:Nat}{a:α}(h:l[i]?=some a):l.drop i=a ::l.drop (i+1):=by
 refine (List.getElem?_eq_some_iff.mp h).elim λh1 h2=>?_
 rw [List.drop_eq_getElem_cons h1,h2]
theorem arH (l b:Addr) {items items2:Array Value}{n n2:Nat}{xs ys:List Int}(h1:IntsAre items.toList xs) (h2:IntsAre items2.toList ys) (hsz:xs.length=ys.length) (k:Nat) :
  ∀ i:Nat,xs.length-i=k->Meets (Builtin.«list.__eq__.loop» ⟨[.ref l,.ref b,rawInt i,rawInt 0],[]⟩)
   (λ_ R s=>s.heap.get? l=some (ahf items n)/\s.heap.get? b=some (ahf items2 n2)/\R (.ok (.ret (.bool (aoS (xs.drop i) (ys.drop i))))) s):=by
 have z1:items.size=xs.length:=by rw [<- Array.length_toList];exact h1.length
 have z2:items2.size=ys.length:=by rw [<- Array.length_toList];exact h2.length
 induction k with
 | zero=>
  intro i hk prog w A R s h
  obtain ⟨hp,g,d,tk,os⟩:=s;obtain ⟨hl,hb,h⟩:=h
  wp_walk using au6 hl,au6 hb
  have hi1:items[((i:Nat):Int).toNat]?=none:=by simp;omega
  have hi2:items2[((i:Nat):Int).toNat]?=none:=by simp;omega
  rw [hi1,hi2]
  wp_walk using au6 hl,au6 hb
  rw [List.drop_of_length_le (Nat.le_of_sub_eq_zero hk)] at h
  show R (.ok (.ret (.bool (decide (items.size<items2.size))))) _
  rw [z1,z2,hsz,decide_eq_false (Nat.lt_irrefl _)]
  exact h
 | succ k ih=>
  intro i hk prog w A R s h
  obtain ⟨hp,g,d,tk,os⟩:=s;obtain ⟨hl,hb,h⟩:=h
  obtain ⟨x,hx⟩:∃ x,xs[i]?=some x:=⟨_,aul (au2 hk)⟩
  obtain ⟨y,hy⟩:∃ y,ys[i]?=some y:=⟨_,aul (hsz▸au2 hk)⟩
  refine (h1.get i x hx).elim λt ht=>?_
  refine (h2.get i y hy).elim λu hu=>?_
  have hi1:items[((i:Nat):Int).toNat]?=some (.int x t):=by rw [Int.toNat_natCast,<- Array.getElem?_toList];exact ht
  have hi2:items2[((i:Nat):Int).toNat]?=some (.int y u):=by rw [Int.toNat_natCast,<- Array.getElem?_toList];exact hu
  rw [ajR hx,ajR hy] at h
  unfold aoS at h
  wp_walk using au6 hl,au6 hb
  rw [hi1,hi2]
  refine atY (wpAny_eqBool_int ?_)
  cases hb':x==y with
  | true=>
   rw [hb',if_pos rfl] at h
   wp_walk
   exact ⟨plainId_quiet MeetsSeq3.plain_eq_loop _,codeAny_builtin MeetsSeq3.entry_eq_loop (by
    exact ih (i+1) (ai8 hk) prog w A R _ ⟨hl,hb,h⟩)⟩
  | false=>
   rw [hb',if_neg Bool.false_ne_true] at h
   wp_walk using au6 hl,au6 hb
   rw [hi1,hi2]
   dsimp only
   refine atY (wpAny_richCompare_same (typeIs_int _ x t) (typeIs_int _ y u) slot_int_lt (call_int_lt ⟨nofun,at3 h⟩))
theorem arI (l b:Addr) {items items2:Array Value}{n n2:Nat}{xs ys:List Int}(h1:IntsAre items.toList xs) (h2:IntsAre items2.toList ys) (hsz:xs.length=ys.length) :
  Meets (Builtin.«list.__lt__» ⟨[.ref l,.ref b],[]⟩) (λ_ R s=>s.heap.get? l=some (ahf items n)/\s.heap.get? b=some (ahf items2 n2)/\R (.ok (.ret (.bool (aoS xs ys)))) s):=by
 intro prog w A R s h
 obtain ⟨hp,g,d,tk,os⟩:=s;obtain ⟨hl,hb,h⟩:=h
 have hT:Shared.TypeIs ⟨hp,g,d,tk,os⟩ (.ref b) "list":=⟨_,hb,rfl⟩
 wp_walk using wpAny_isInstance hT (T:="list") (b:=true) sub_list_self
 exact ⟨plainId_quiet MeetsSeq3.plain_eq_loop _,codeAny_builtin MeetsSeq3.entry_eq_loop (by
  exact arH l b h1 h2 hsz _ 0 rfl prog w A R _ ⟨hl,hb,h⟩)⟩
section
theorem atF{l b:Addr}{items items2:Array Value}{n n2:Nat}{xs ys:List Int}{Q:Bool->Shared->Prop}(hu:A.units<cLine) (hl:s.heap.get? l=some (ahf items n)) (hb:s.heap.get? b=some (ahf items2 n2)) (h1:IntsAre items.toList xs) (h2:IntsAre items2.toList ys)
  (hsz:xs.length=ys.length) (h:Q (aoS xs ys) s):wpAny (model pg γ.w) A (keyLt' oneType' (.ref l) (.ref b)) Q E s:=by
 refine atY (wpAny_cRoomFor hu ?_)
 refine atY (wpAny_callSpecialIfBound?_slot ⟨_,hl,rfl⟩ PySem.F.slot_list_lt (call_meets PySem.F.slot_list_lt ⟨_,hl,rfl⟩ PySem.F.entry_list_lt (PySem.F.args_list_lt_2 _ _) (arI l b h1 h2 hsz) ⟨hl,hb,?_⟩))
 exact wpAny_truthy_bool h
end
set_option backward.match.sparseCases true
noncomputable def atG (h:Heap) (a kS:Addr) (kA:Array Value) (kk:List (List Int)):Prop:=∀ (j:Nat) (k:List Int),kk[j]?=some k->∃ (b:Addr) (its:Array Value) (n:Nat),kA[j]?=some (Value.ref b)/\b≠kS/\b≠a/\h.get? b=some (ahf its n)/\IntsAre its.toList k
structure SK (s:Shared) (a kS:Addr) (e1:Nat) (kk:List (List Int)) (s':Shared):Prop where
 x:Ext s s'
 ha:s'.heap.get? a=some (ahf #[] e1)
 keys:∃ kA e,s'.heap.get? kS=some (ahf kA e)/\kA.size=kk.length/\atG s'.heap a kS kA kk
noncomputable def Turn (γ:Gm) (A:Around) (f:Value) (s:Shared) (v:Value) (k:List Int):Prop:=
 ∀ s',Ext s s'->wpAny (model pg γ.w) A (call f [v]) (λu s''=>Ext s' s''/\∃ (b:Addr) (its:Array Value) (n:Nat),u=Value.ref b/\s''.heap.get? b=some (ahf its n)/\IntsAre its.toList k/\((∃ o,s.heap.get? b=some o)\/s'.heap.get? b=none)) No s'
structure Rank (ks:List (List Int)) (W:Nat->Int) (c:Nat):Prop where
 len:∀ k∈ks,k.length=c
 lt:∀ (i j:Nat) (x y:List Int),ks[i]?=some x->ks[j]?=some y->aoS x y=decide (W i<W j)
 inj:∀ i j,i<ks.length->j<ks.length->W i=W j->i=j
section
variable{a kS l:Addr}{f:Value}{e1 c:Nat}{vs:List Value}{ks:List (List Int)}{W:Nat->Int}{P:PySem.Fin->Shared->Prop}
noncomputable def ahY (vs:List Value) (p:Array Nat):Array Value:=(p.toList.map λi=>vs.getD i .none).toArray
noncomputable def Done (s:Shared) (a:Addr) (vs:List Value) (W:Nat->Int) (P:Shared->Prop):Prop:=∀ s' p,Ext s s'->PV vs.length W p->Asc W p vs.length->(∃ n,s'.heap.get? a=some (ahf (ahY vs p) n))->P s'
theorem ai1{x:Addr}{vs':Array Value}{n:Nat}(fx:s.heap.get? x=none) (e:s'.heap.get? x=some (ahf vs' n)) (x':Ext s s') (g:Array Value->Array Value):Ext s { s' with heap:=s'.heap.update x (Obj.mapSeq g) }:=
 Ext.then (X:=(·=x)) x' (ExtX.but (tk:=s'.toks) e (λ_ z=>Data.noConfusion z) rfl (λb o n e'=>(aus _ _ n.symm).trans e') ⟨_,get?_update_seq (c:="list") e g⟩) λb h=>h▸fx
theorem arJ (fa:s.heap.get? a=none) (fk:s.heap.get? kS=none) (hne:kS≠a) {ai:Shared}(k:SK s a kS e1 ks ai) (h64:vs.length<64) (hlen:ks.length=vs.length) {p:Array Nat}(hp:PV vs.length W p) (ha:Asc W p vs.length) {it:Array Keyed}(hit:∀ i,i<vs.length->(kas_item it i).2=vs.getD i .none)
  {st:SortSt}(har:arrOf st=p.map (kas_item it)) (hf:failedOf st=none) (hQ:Done s a vs W (P (.done (.ret .none)))):wpAny (model pg γ.w) A (ksk_tail a false e1 (.ref kS) st) P E ai:=by
 refine ag λG kG=>?_
 obtain ⟨x,oa,kA,e,ok,hz,_⟩:=k
 refine kG ?_
 have hout:(arrOf st).map (·.2)=ahY vs p:=by
  apply Array.toList_inj.mp
  rw [har,Array.map_map,Array.toList_map,ahY]
  refine List.map_congr_left λi hi=>hit i ?_
  have:=hp.perm.mem_iff.mp (Array.mem_toList_iff.mp hi)
  simpa using this
 dsimp only [ksk_tail]
 simp only [Bool.false_eq_true,if_false,hf]
 refine hout▸?_
 have oa1:(ai.heap.update kS (Obj.mapSeq λ_=>(#[]:Array Value))).get? a=some (ahf #[] e1):=(aus _ _ hne).trans oa
 refine atY (listUpdate_at ok rfl ?_ (by rw [hz,hlen,sizeLine_eq];lia) (aup _))
 refine atY (wpAny_letGo ?_)
 refine atY (seqEpoch_at oa1 rfl ?_)
 refine atY (listUpdate_at oa1 rfl ?_ (aup _) (at0 (aub (by rw [ahY,List.size_toArray,List.length_map,Array.length_toList,hp.size])) (by rw [sizeLine_eq];lia)))
 simp only [bne_self_eq_false,Bool.false_eq_true,if_false]
 exact at3 (hQ _ p (ai1 fa oa1 (ai1 fk ok x λ_=>#[]) λ_=>ahY vs p) hp ha ⟨_,get?_update_seq (c:="list") oa1 λ_=>ahY vs p⟩)
theorem arK{kA:Array Value}(hz:kA.size=vs.length) {i:Nat}{v:Value}(h:kA[i]?=some v):kas_item (kA.zip vs.toArray) i=(v,vs.getD i .none):=by
 have hX:=Array.getElem?_eq_some_iff.mp h
 have hv:i<vs.length:=hz▸hX.1
 have:(kA.zip vs.toArray)[i]?=some (v,vs.getD i .none):=by
  rw [Array.getElem?_eq_some_iff]
  refine ⟨by simp only [Array.size_zip,List.size_toArray,hz,Nat.min_self];exact hv,?_⟩
  rw [Array.getElem_zip,hX.2,List.getElem_toArray,List.getD_eq_getElem?_getD,List.getElem?_eq_getElem hv];rfl
 unfold kas_item
 rw [Array.getD_eq_getD_getElem?,this];rfl
theorem atH (hu:A.units<cLine) (hR:Rank ks W c) (fa:s.heap.get? a=none) (fk:s.heap.get? kS=none) (hne:kS≠a) {ai:Shared}(k:SK s a kS e1 ks ai) (h2:2<=vs.length) (h64:vs.length<64) (hlen:ks.length=vs.length)
  (hQ:Done s a vs W (P (.done (.ret .none)))) {kA:Array Value}{e:Nat}(ok:ai.heap.get? kS=some (ahf kA e)):wpAny (model pg γ.w) A (ksk_end a false vs.toArray e1 (.ref kS) kA) P E ai:=by
 obtain ⟨kA',e',ok',hz,K⟩:=k.keys
 have q:=soi (ok.symm.trans ok')
 injection q with _ _ q _
 injection q with q1 _
 clear ok
 clear ok'
 subst q1
 replace hz:=hlen▸hz
 have key:∀ i,i<vs.length->∃ x,ks[i]?=some x/\∃ (b:Addr) (its:Array Value) (n:Nat),kas_item (kA.zip vs.toArray) i=(.ref b,vs.getD i .none)/\ai.heap.get? b=some (ahf its n)/\IntsAre its.toList x:=λi hi=>by
  refine ag λG kG=>?_
  obtain ⟨x,hx⟩:∃ x,ks[i]?=some x:=⟨_,aul (by lia)⟩
  refine (K i x hx).elim λb hZ24=>hZ24.elim λits hZ25=>hZ25.elim λn hZ26=>hZ26.elim λh1 hZ27=>hZ27.elim λ_ hZ28=>hZ28.elim λ_ hZ29=>hZ29.elim λh2 h3=>?_
  refine kG ?_
  exact ⟨x,hx,b,its,n,arK hz h1,h2,h3⟩
 dsimp only [ksk_end]
 simp only [Bool.false_eq_true,if_false]
 rw [if_neg (by rw [List.size_toArray];lia),if_neg (by rw [List.size_toArray];lia)]
 have hT:∀ v∈kA.toList,Looks (model pg γ.w) ai.heap (typeOf v) (.type "list"):=λv hv=>by
  obtain ⟨j,hj,e⟩:=List.getElem_of_mem hv
  obtain ⟨x,hx⟩:∃ x,ks[j]?=some x:=⟨_,aul (by rw [Array.length_toList,hz] at hj;lia)⟩
  refine (K j x hx).elim λb hX1=>hX1.elim λits hX2=>hX2.elim λn hX3=>hX3.elim λh1 hX4=>hX4.elim λ_ hX5=>hX5.elim λ_ hX6=>hX6.elim λh2 h3=>?_
  have e2:kA.toList[j]?=some (.ref b):=(Array.getElem?_toList).trans (h1)
  replace e2:=(aul hj)▸e2;replace e2:=e▸e2
  clear hv
  obtain rfl:=soi e2
  exact (Looks.ld h2).andThen .now
 refine atY (kas_kind ((Array.length_toList▸hz▸h2)) hT rfl rfl ?_)
 have est:SortSt.mk' oneType' (kA.zip vs.toArray) #[] 7 none=kas_st oneType' (kA.zip vs.toArray) (List.range vs.length).toArray:=by
  have e:=kas_range (kA.zip vs.toArray)
  simp only [Array.size_zip,List.size_toArray,hz,Nat.min_self] at e
  show SortSt.mk' oneType' (kA.zip vs.toArray) #[] 7 none=SortSt.mk' oneType' (((List.range vs.length).toArray).map (kas_item (kA.zip vs.toArray))) #[] 7 none
  exact e.symm▸rfl
 refine est▸?_
 have hc:Cmp vs.length W (λs'=>s'=ai) (kas_cmp pg γ.w A oneType' (kA.zip vs.toArray)):=λi j s' C hi hj hs hC=>by
  clear hT
  subst hs
  refine (key i hi).elim λx hX1=>hX1.elim λhx hX2=>hX2.elim λb hX3=>hX3.elim λits hX4=>hX4.elim λn hX5=>hX5.elim λi1 hX6=>hX6.elim λi2 i3=>?_
  refine (key j hj).elim λy hX1=>hX1.elim λhy hX2=>hX2.elim λb' hX3=>hX3.elim λits' hX4=>hX4.elim λn' hX5=>hX5.elim λj1 hX6=>hX6.elim λj2 j3=>?_
  unfold kas_cmp
  rw [i1,j1]
  refine atF hu i2 j2 i3 j3 ((hR.len x (aux hx)).trans (hR.len y (aux hy)).symm) ?_
  rw [hR.lt i j x y hx hy]
  exact hC s' rfl
 have run:=kas_runs (E:=E) (κ:=oneType') (it:=kA.zip vs.toArray) (Q:=λ_ st' s'=>s'=ai/\∃ p:Array Nat,PV vs.length W p/\Asc W p vs.length/\arrOf st'=p.map (kas_item (kA.zip vs.toArray))/\failedOf st'=none)
  (G:=λp s'=>s'=ai/\PV vs.length W p/\Asc W p vs.length) h2 h64 (λp' st' s' a1 a2 a3 a4=>⟨a4.1,p',a4.2.1,a4.2.2,a2,a3⟩)
  (arG hc (λi j hi hj=>hR.inj i j (hlen▸hi) (hlen▸hj)) h2 rfl λp s' h1 h2 h3=>⟨h3,h1,h2⟩)
 refine atY (at1 run ?_ λ_ _ e=>e)
 rintro ⟨⟨⟩,st'⟩ s' ⟨rfl,p,hp,ha,har,hf⟩
 exact arJ fa fk hne k h64 hlen hp ha (λi hi=>by obtain ⟨_,_,_,_,_,q,_⟩:=key i hi;rw [q]) har hf hQ
theorem arL (hu:A.units<cLine) (hR:Rank ks W c) (fa:s.heap.get? a=none) (fk:s.heap.get? kS=none) (hne:kS≠a) {ai:Shared}(k:SK s a kS e1 [] ai) (h2:2<=vs.length) (h64:vs.length<64) (hlen:ks.length=vs.length)
  (turn:∀ (i:Nat) (v:Value) (x:List Int),vs[i]?=some v->ks[i]?=some x->Turn γ A f s v x) (hQ:Done s a vs W (P (.done (.ret .none)))):wpAny (model pg γ.w) A (ksk_rest a f false vs.toArray e1 (.ref kS)) P E ai:=by
 unfold ksk_rest
 refine atY (wpAny_rule ?_)
 rw [List.forIn_toArray]
 refine atY (ksk_fold (λi s'=>SK s a kS e1 (ks.take i) s') vs 0 ai k (λj v s' hv hk=>?_) λs' hk=>?_)
 . rw [Nat.zero_add] at hk ⊢
   refine ag λG kG=>?_
   obtain ⟨x,hx⟩:∃ x,ks[j]?=some x:=⟨_,aul (hlen▸((List.getElem?_eq_some_iff.mp hv).1))⟩
   obtain ⟨x1,oa,kA,e,ok,hz,K⟩:=hk
   refine kG ?_
   refine atY (wpAny_attempt (at1 (turn j v x hv hx s' x1) (λu s'' he=>?_) λ_ _ hF=>hF.elim))
   refine ag λG kG=>?_
   obtain ⟨x2,b,its,n,rfl,eb,hI,new⟩:=he
   refine kG ?_
   have ok2:=x2.keepC _ _ nty id ok
   have nb:∀ y,s.heap.get? y=none->(∃ o,s'.heap.get? y=some o)->b≠y:=λy h hq z=>hq.elim λo e=>new.elim (λhq=>hq.elim λo' e'=>nos (h.symm.trans (z▸e'))) λe'=>nos (e'.symm.trans (z▸e))
   have bk:=nb kS fk ⟨_,ok⟩
   have hzl:kA.size<=vs.length:=by rw [hz,List.length_take];exact at0 (Nat.min_le_right _ _) (aub hlen)
   refine atY (listUpdate_at ok2 rfl ?_ (by rw [sizeLine_eq];lia) (at0 (aub (Array.size_push ..)) (by rw [sizeLine_eq];lia)))
   have s1:∀ {y o},y≠kS->s''.heap.get? y=some o->(s''.heap.update kS (Obj.mapSeq (·.push (.ref b)))).get? y=some o:=λn e=>(aus _ _ n.symm).trans e
   have ek:ks.take (j+1)=ks.take j++[x]:=by rw [List.take_add_one,hx];rfl
   have lz:(ks.take j).length=kA.size:=hz.symm
   refine at3 ⟨rfl,ai1 fk ok2 (x1.trans x2) _,s1 hne.symm (x2.keepC _ _ nty id oa),kA.push (.ref b),_,get?_update_seq (c:="list") ok2 (·.push (.ref b)),?_,λi y hy=>?_⟩
   . rw [ek,Array.size_push,List.length_append,lz];rfl
   . replace hy:=ek▸hy
     by_cases hi:i<(ks.take j).length
     . replace hy:=(List.getElem?_append_left hi)▸hy
       refine ag λG kG=>?_
       refine (K i y hy).elim λb' hZ69=>hZ69.elim λits' hZ70=>hZ70.elim λn' hZ71=>hZ71.elim λq1 hZ72=>hZ72.elim λq2 hZ73=>hZ73.elim λq3 hZ74=>hZ74.elim λq4 q5=>?_
       refine kG ?_
       exact ⟨b',its',n',(Array.getElem?_push_lt (lz▸hi)).trans ((Array.getElem?_eq_getElem (lz▸hi)).symm.trans q1),q2,q3,s1 q2 (x2.keepC _ _ nty id q4),q5⟩
     . replace hy:=(List.getElem?_append_right (Nat.not_lt.mp hi))▸hy
       have h0:i-(ks.take j).length=0:=by
        refine (Nat.eq_zero_or_pos (i-(ks.take j).length)).elim ?_ ?_
        . rintro h
          exact h
        . rintro h
          replace hy:=(List.getElem?_eq_none (show [x].length<=_ from h))▸hy;exact nos hy
       replace hy:=h0▸hy
       clear hzl
       obtain rfl:=soi hy
       have hi':i=kA.size:=by exact (auV (Nat.le_of_sub_eq_zero h0) (Nat.le_of_not_lt hi)).trans lz
       exact ⟨b,its,n,by rw [hi'];exact Array.getElem?_push_size ..,bk,nb a fa ⟨_,oa⟩,s1 bk eb,hI⟩
 . rw [Nat.zero_add,<- hlen,List.take_length] at hk
   refine (hk.keys).elim λkA hX1=>hX1.elim λe hX2=>hX2.elim λok _=>?_
   exact atY (listItems_at ok rfl (atH hu hR fa fk hne hk h2 h64 hlen hQ ok))
theorem akI (hu:A.units+2<cLine) (hR:Rank ks W c) (hl:s.heap.IsList l vs.toArray) (h2:2<=vs.length) (h64:vs.length<64) (hlen:ks.length=vs.length) {q:Addr}{Q:Value->Shared->Prop}
  (turn:∀ (i:Nat) (v:Value) (x:List Int),vs[i]?=some v->ks[i]?=some x->Turn γ A.in1.in1 (.ref q) s v x)
  (hQ:∀ D s' p,Ext s s'->s.heap.get? D=none->PV vs.length W p->Asc W p vs.length->(∃ n,s'.heap.get? D=some (ahf (ahY vs p) n))->Q (.ref D) s') :
  wpAny (model pg γ.w) A (call (.builtin "sorted") [.ref l] [(Str.ofString "key",.ref q)]) Q E s:=by
 refine call_function_entry_kw kind_sorted plain_sorted entry_sorted (ksk_s1 _ _) ?_
 refine atY (m:=checkCount "sorted" 1 1 _) (at3 ?_)
 refine atY (collect_list hl ?_ (by rw [sizeLine_eq];lia))
 refine atY (wpAny_newList ?_ (by rw [sizeLine_eq];lia))
 generalize hh1:(s.heap.push (seqObj "list" #[] 0)).update s.heap.objs.size (Obj.mapSeq (·++vs.toArray))=h1
 have keep1:∀ b o,s.heap.get? b=some o->h1.get? b=some o:=λb o e=>by
  refine hh1▸?_
  exact (aus _ _ (auJ (aua e))).trans (atZ _ e)
 have z1:s.heap.objs.size<=h1.objs.size:=by refine hh1▸?_;rw [Heap.size_update,Heap.size_push];exact Nat.le_succ _
 have hoL:(h1.push (seqObj "list" vs.toArray 0)).get? h1.objs.size=some (ahf vs.toArray 0):=at4 _ rfl
 have hT:Shared.TypeIs { s with heap:=h1.push (seqObj "list" vs.toArray 0) } (.ref h1.objs.size) "list":=⟨_,hoL,rfl⟩
 refine atY (aud (wpAny_call_entry_kw slot_list_sort hT entry_list_sort ?_ (ksk_l1 _ _)))
 show wpAny (model pg γ.w) A.in1.in1 (Builtin.«list.sort» ⟨[.ref h1.objs.size],[(Str.ofString "key",.ref q)]⟩) _ _ _
 rw [ksk_t1]
 obtain ⟨e1,ho1⟩:∃ e1,((h1.push (seqObj "list" vs.toArray 0)).update h1.objs.size (Obj.mapSeq λ_=>(#[]:Array Value))).get? h1.objs.size=some (ahf #[] e1):=⟨_,get?_update_seq (c:="list") hoL λ_=>#[]⟩
 have k2:∀ b o,s.heap.get? b=some o->((h1.push (seqObj "list" vs.toArray 0)).update h1.objs.size (Obj.mapSeq λ_=>(#[]:Array Value))).get? b=some o:=λb o e=>(aus _ _ (auJ (at5 (aua e) z1))).trans ((λb o e=>atZ _ (keep1 b o e)) b o e)
 refine atY (listItems_at hoL rfl ?_)
 refine atY (listUpdate_at hoL rfl ?_ (by rw [List.size_toArray,sizeLine_eq];lia) (aup _))
 refine atY (seqEpoch_at ho1 rfl ?_)
 refine atY (wpAny_newTuple ?_ (by show vs.length<=_;rw [sizeLine_eq];lia))
 refine atY (wpAny_newList ?_ (aup _))
 refine aud ?_
 generalize hh2:(h1.push (seqObj "list" vs.toArray 0)).update h1.objs.size (Obj.mapSeq λ_=>(#[]:Array Value))=h2' at ho1 k2
 have z2:h1.objs.size<h2'.objs.size:=aua ho1
 have zk:(h2'.push (seqObj "tuple" vs.toArray 0)).objs.size=h2'.objs.size+1:=auP ..
 refine arL (s:=s) (ai:={ s with heap:=(h2'.push (seqObj "tuple" vs.toArray 0)).push (seqObj "list" #[] 0) }) (kS:=(h2'.push (seqObj "tuple" vs.toArray 0)).objs.size) (by omega) hR (at6 z1) (at6 (by lia)) (auJ (zk▸auv z2)) ⟨?_,?_,#[],0,at4 _ rfl,rfl,λj k h=>nos h⟩ h2 h64 hlen turn λs' p x hp ha he=>⟨_,rfl,at3 ⟨_,rfl,hQ _ s' p x (at6 z1) hp ha he⟩⟩
 . exact Ext.of (tk:=s.toks) λb o e=>atZ _ (atZ _ (k2 b o e))
 . exact atZ _ (atZ _ ho1)
end
section
variable{A':Around}{scope:Scope}{cl:List (Str×Addr)}{ps:Arguments}{M:Model}
theorem aoT{params:Arguments}{body:Expr}{pos:Pos}{q:Addr×Addr×Nat×Nat×Str}{clos:List (Str×Addr)}{Q:Value->Shared->Prop}(wd:Wd γ s.heap) (hge:env.globals=mainGlobals) (hq:q∈aea) (hcode:env.code=.ref q.1) (hpos:pos.line=q.2.2.1/\pos.col=q.2.2.2.1) (hqual:env.qual++"<lambda>"=q.2.2.2.2)
  (hdef:defaultsOf params env=([],[])) (hcl:closureFor scope env=pure clos)
  (h:∀ f s',Ext s s'->s.heap.get? f=none->CloAt s'.heap f params (.expr body) scope clos->Q (.ref f) s'):wpAny M A (eval (.Lambda params body scope pos) env) Q E s:=by
 refine kla_eval hdef ?_
 refine hqual▸?_
 have hP:=ai9 q hq
 have hb:=(aiH wd hP).1
 refine ag λG kG=>?_
 obtain ⟨C,tps,tp,hps⟩:=wd.tabs q hq
 refine kG ?_
 have ne:∀ {b:Addr}{o:Obj},s.heap.get? b=some o->o.cls≠.none->b≠q.2.1:=λe n z=>by
  replace e:=z▸e;replace e:=tp▸e;cases e;exact n rfl
 rcases hps with rfl | ⟨c',rfl,hr⟩
 . refine kla_makeFunction (mg:=γ.mg) hcl hge wd.g hcode C tp (by trivial) rfl ((aiH wd hP).2) hb λc' ctv h' tk hx hge' hlt hrec htb=>?_
   have old:∀ b o,b≠q.2.1->s.heap.get? b=some o->(h'.push (kla_obj "<lambda>" q.2.2.2.2 params body scope clos ((γ.mg "__name__").getD .none) c' ctv)).get? b=some o:=λb o n e=>atZ _ (hx b o n e)
   have htb':(h'.push (kla_obj "<lambda>" q.2.2.2.2 params body scope clos ((γ.mg "__name__").getD .none) c' ctv)).get? q.2.1=some (tabObj #[rawInt q.2.2.1,rawInt q.2.2.2.1,.ref c']):=by
    rw [<- hpos.1,<- hpos.2];exact atZ _ htb
   have hrec':(h'.push (kla_obj "<lambda>" q.2.2.2.2 params body scope clos ((γ.mg "__name__").getD .none) c' ctv)).CodeRec (.ref c') q.2.2.2.2:=hrec.keeps λb o e=>atZ _ e
   refine h _ _ ⟨λb o n _ e=>old b o (λz=>n (z▸hP)) e,λb o n _ e=>old b o (ne e n) e,λb _ e=>?_,λi=>i.grow hq old hrec' htb',rfl,id⟩ (at6 (at0 hge' (aug hlt))) ⟨_,_,at4 _ rfl,rfl,rfl,rfl,rfl,rfl,rfl,rfl,rfl,rfl,hrec'⟩
   by_cases z:b=q.2.1
   . rw [z] at e;exact nos (e.symm.trans htb')
   . cases y:s.heap.get? b with
     | none=>rfl
     | some o=>exact nos (e.symm.trans (old b o z y))
 . refine kla_makeFunctionHit (mg:=γ.mg) hcl hge wd.g hcode C tp (by trivial) (cv:=.ref c') (by
    show (if (q.2.2.1:Int)==(pos.line:Int)&&(q.2.2.2.1:Int)==(pos.col:Int) then some (Value.ref c') else _)=_
    refine hpos.1▸?_;refine hpos.2▸?_;simp) hb λctv h' tk hk hsz=>?_
   have old:∀ b o,s.heap.get? b=some o->(h'.push { cls:=.type "function",data:=.func (kla_fn "<lambda>" q.2.2.2.2 params body scope clos ((γ.mg "__name__").getD .none) (.ref c') ctv) }).get? b=some o:=λb o e=>atZ _ (hk b o e)
   exact h _ _ (Ext.of (tk:=tk) old) (at6 hsz) ⟨_,_,at4 _ rfl,rfl,rfl,rfl,rfl,rfl,rfl,rfl,rfl,rfl,hr.keeps old⟩
theorem am3{f:Addr}{body:Expr}(hf:CloAt s.heap f ps (.expr body) scope cl) (hh:acW ps scope=true) (ci:CloIn a6 s scope.names cl V ad fz ρ ω) (aok:AOK it (r+1) A a6.heap) (wd:Wd γ a6.heap) {vs:List Value}{ts:List T}(rs:RepL V s.heap vs ts) (hlen:ts.length=(aaR ps).length)
  {R:Result->Shared->Prop}
  (h:∀ env a8 X V' A',FrK γ it r A' X V a6 env scope.names->SSt γ it r A' X (fzP fz) V a6 env scope.names fz V' ad a8 (((aaR ps).zip ts).reverse++ρ) ω->
    wpAny (model pg γ.w) A' (eval body env) (λv s'=>R (.ok (.ret v)) s') No a8) :
  codeAny (model pg γ.w) A (.call (.ref f) ⟨vs,[]⟩) R s:=by
 refine ag λG kG=>?_
 obtain ⟨o,fd,g1,g2,g3,g4,g5,g6,g7,g8,g9,g10,g11⟩:=hf
 have hh':=hh
 unfold acW at hh'
 simp only [Bool.and_eq_true,beq_iff_eq,Bool.not_eq_true'] at hh'
 refine (hh').elim λhZ32 h7=>hZ32.elim λhZ33 h6=>hZ33.elim λhZ34 h5=>hZ34.elim λhZ35 h4=>hZ35.elim λhZ36 h3=>hZ36.elim λh1 h2=>?_
 refine kG ?_
 refine kla_callFunE (by have:=aok.depth;exact auc (at9 _ _) this) g1 g3 (by rw [g6];exact h2) (by rw [g6];exact h3) g5 g11 ?_
 rw [ab1 (by rw [g4];exact h4) g10 (by rw [g4];exact h5) (by rw [g4];exact (by rw [rs.length,hlen]:vs.length=(aaR ps).length).symm),g9,g4,g6,g7,g8]
 refine at3 (aiG hh ci aok.in1 wd rs hlen λenv a8 X V' _ _ k c=>⟨c.cx.wd.nolimit,kla_codeExpr ?_⟩)
 exact at1 (h env a8 X V' _ (k.around aok.deeper) (c.around (aok.deeper.ext c.ext))) (λ_ _ e=>e) aah
theorem aeF{V:aag}{h:Heap}:∀ {vs:List Value}{ns:List Int},RepL V h vs (ns.map .int)->IntsAre vs ns
 | [],[],_=>.nil
 | [],_ ::_,r=>ava r.length
 | _ ::_,[],r=>ava r.length
 | _ ::_,n ::ns,r=>acq r λv us e a b=>by
  clear r
  obtain ⟨t,rfl⟩:=aa8 a
  cases e
  exact .cons n t (aeF b)
end
noncomputable abbrev acK:Stmt:=(abE (aaa 24)).getD 1 aeQ
noncomputable abbrev lsc:aad:=(aaD (aaa 24)).names
noncomputable abbrev SgL:Sg:=aeL [] []
noncomputable def whB (s:Stmt):List Stmt:=stB s
noncomputable abbrev am4:Stmt:=(ifB ((whB ((agV acK).getD 1 aeQ)).getD 1 aeQ)).getD 1 aeQ
noncomputable def V4.nil:V4:=⟨0,0,0,0⟩
noncomputable def afO (S:List V4) (k:Nat):Rl:=(S.getD k .nil,S.getD (k ^^^ 1) .nil)
noncomputable def acx (S:List V4) (v:V4):List V4:=(List.range 6).flatMap λk=>if (afO S k).1.leb v=true then [v.step (afO S k)] else []
structure SidesOK (S:List V4):Prop where
 len:S.length=6
 hom:∀ k,k<6->abC (afO S k)
theorem am5{k:Nat}(h:k<6):k ^^^ 1<6:=by
 revert k;decide
theorem arM{k:Nat}(h:k<6):Builtin.bitXor (k:Int) 1=((k ^^^ 1:Nat):Int):=by
 revert k;decide
noncomputable def argE (s:Stmt):Expr:=exI 0 (stE s)
theorem ag9{S:List V4}{W:V4}{k:Nat}(h:k<S.length):(S.map (aat W))[k]?=some (aat W (S.getD k .nil)):=by
 rw [List.getElem?_map,List.getD_eq_getElem?_getD,List.getElem?_eq_getElem h];rfl
theorem aoU{W:V4}(g:Good W) {S:List V4}(hS:SidesOK S) {v:V4}(hv:v.deg<=4) {tt kT rT tT:T}{K:T->Prop}(hK:K (.lst ((acx S v).map (aat W)))) :
  aam SgL true 20 lsc (argE am4) [("bag",aat W v),("top",tt),("keys",kT),("rows",rT),("sides",.lst (S.map (aat W))),("tops",tT)] K:=by
 refine afJ (n:=19) (g:=⟨_,_,_,_⟩) ((List.range 6).map λk:Nat=>T.int (0+(k:Int))) rfl (by rfl) (λK' h=>h) ?_
 have hK':K (.lst ([]++(List.range 6).flatMap λk=>if (afO S k).1.leb v=true then [aat W (v.step (afO S k))] else [])):=by
  rw [List.nil_append]
  unfold acx at hK
  rw [List.map_flatMap] at hK
  refine Eq.mp (congrArg (λf=>K (.lst ((List.range 6).flatMap f))) (funext λk=>?_)) hK
  split <;> rfl
 obtain ⟨SS,hSS⟩:∃ SS,SS=S.map (aat W):=⟨_,rfl⟩
 refine hSS▸?_
 refine abp (λk:Nat=>T.int (0+(k:Int))) _ (List.range 6) [] _ ?_ (λk hk acc K' hl h=>?_) hK'
 . refine at0 (at8 (?_:_<=6) 0) (by exact at2 rfl)
   rw [ac2 (λk=>(afO S k).1.leb v),List.length_map]
   exact au5 _ _
 . have hk6:k<6:=List.mem_range.mp hk
   have hX:=hS.hom k hk6
   have h3:=hX.2.2
   have i1:adh SS ((k:Nat):Int)=some (aat W (afO S k).1):=acv (hSS▸ag9 (hS.len.symm▸hk6))
   have p1:=adC g (afO S k).1
   rw [Int.zero_add]
   refine gdi (aaV (by lia) (by lia)) (abK i1 ?_)
   refine gdi (by simp;lia) ?_
   rw [abg]
   refine bri (λhb=>?_) (λhb=>?_)
   . have hle:(afO S k).1.leb v=true:=V4.leb_iff.mpr ((adB g).mp (Nat.dvd_of_mod_eq_zero (ami hb)))
     rw [if_pos hle] at h hl
     refine szi hl ?_
     refine gdi (aaV (by lia) (by lia)) (abK i1 ?_)
     refine gdi (by simp;lia) (aa2 (aaB (abj g h3) (by decide)) ?_)
     rw [abf,agW g (V4.leb_iff.mp hle)]
     (try conv=>whnf)
     refine (arM hk6)▸?_
     have:=am5 hk6
     refine gdi (aaV (by simp) (ace (aug this) (by decide))) (abK (acv (hSS▸ag9 (hS.len.symm▸am5 hk6)):adh SS ((k ^^^ 1:Nat):Int)=some (aat W (afO S k).2)) ?_)
     have hs:(v.sub (afO S k).1).deg<=4:=by rw [V4.deg_sub (V4.leb_iff.mp hle)];exact at0 (Nat.sub_le ..) hv
     refine aa2 (aaB (abj g hs) (by decide)) (aa2 (aaB (abj g (hX.1▸h3)) (by decide)) ?_)
     rw [<- Int.natCast_mul,<- acX]
     exact h
   . have hle:¬ (afO S k).1.leb v=true:=λz=>by
      have:=Nat.mod_eq_zero_of_dvd ((adB g).mpr (V4.leb_iff.mp z))
      replace hb:=this▸hb;exact tf hb
     rw [if_neg hle,List.append_nil] at h
     exact h
noncomputable def LT (W:V4) (L:List (V4×V4)):List (Int×T):=L.map λq=>(((W.bag q.1:Nat):Int),aat W q.2)
structure SI (S:List V4) (m:V4->V4) (t:V4) (line:List V4) (L:List (V4×V4)):Prop where
 ln:∀ x∈line,x.deg=4/\m x=t
 ok:∀ q∈L,q.1.deg=4/\q.2=m q.1
 nd:(L.map (·.1)).Nodup
 cl:∀ q∈L,m q.1=t->∀ y∈acx S q.1,y∈L.map (·.1)\/y∈line
 st:t∈L.map (·.1)\/t∈line
noncomputable def Same (S:List V4) (m:V4->V4):Prop:=∀ v,v.deg=4->∀ y∈acx S v,y.deg=4/\m y=m v
section
variable{S:List V4}{m:V4->V4}{t v:V4}{ln:List V4}{L:List (V4×V4)}
theorem SI.skip (h:SI S m t (ln++[v]) L) (hv:v∈L.map (·.1)):SI S m t ln L where
 ln:=λx hx=>h.ln x (au7 _ hx)
 ok:=h.ok
 nd:=h.nd
 cl:=λq hq e y hy=>(h.cl q hq e y hy).elim .inl λz=>(List.mem_append.mp z).elim .inr λz=>.inl (List.mem_singleton.mp z▸hv)
 st:=h.st.elim .inl λz=>(List.mem_append.mp z).elim .inr λz=>.inl (List.mem_singleton.mp z▸hv)
theorem SI.few (h:SI S m t ln L):L.length<=35:=by
 have:=ad6 (L.map (·.1)) (anA 4) h.nd λa ha=>by
  obtain ⟨q,hq,rfl⟩:=List.mem_map.mp ha
  have:=(h.ok q hq).1
  exact this▸ad4 (aub this)
 rw [List.length_map] at this
 exact at0 this (ag6 4 (by exact at2 rfl))
theorem SI.put_ (hm:Same S m) (h:SI S m t (ln++[v]) L) (hv:v∉L.map (·.1)):SI S m t (ln++acx S v) (L++[(v,t)]):=by
 refine (h.ln v (auL _ (.head _))).elim λhd he=>?_
 have km:∀ {x},x∈L.map (·.1)\/x=v->x∈(L++[(v,t)]).map (·.1):=λ{x} z=>by
  rw [List.map_append]
  exact List.mem_append.mpr (z.elim .inl λ(z:x=v)=>.inr (by refine z.symm▸?_;exact .head _))
 have go:∀ {y},y∈ln++[v]->y∈(L++[(v,t)]).map (·.1)\/y∈ln++acx S v:=λz=>
  (List.mem_append.mp z).elim (λz=>.inr (au7 _ z)) λz=>.inl (km (.inr (List.mem_singleton.mp z)))
 exact {
  ln:=λx hx=>(List.mem_append.mp hx).elim (λhx=>h.ln x (au7 _ hx)) λhx=>⟨(hm v hd x hx).1,(hm v hd x hx).2.trans he⟩
  ok:=λq hq=>(List.mem_append.mp hq).elim (h.ok q) λhq=>List.mem_singleton.mp hq▸⟨hd,he.symm⟩
  nd:=by
   rw [List.map_append]
   exact List.nodup_append.mpr ⟨h.nd,List.nodup_cons.mpr ⟨List.not_mem_nil,List.nodup_nil⟩,λa ha b hb e=>hv (((show v=b from (List.mem_singleton.mp hb).symm)▸e▸ha))⟩
  cl:=λq hq e y hy=>(List.mem_append.mp hq).elim (λhq=>(h.cl q hq e y hy).elim (λz=>.inl (km (.inl z))) go) λhq=>.inr (auL _ (by cases List.mem_singleton.mp hq;exact hy))
  st:=h.st.elim (λz=>.inl (km (.inl z))) go }
theorem SI.put (hm:Same S m) (h:SI S m t (ln++[v]) L) (hv:v∉L.map (·.1)) {tv:V4}(ht:tv=t):SI S m t (ln++acx S v) (L++[(v,tv)]):=by
 obtain rfl:=ht.symm
 exact h.put_ hm hv
theorem ahZ:(acx S v).length<=6:=by
 unfold acx
 rw [ac2,List.length_map]
 exact au5 _ _
theorem ai2{W:V4}(g:Good W):∀ {L:List (V4×V4)},abR (LT W L) ((W.bag v:Nat):Int)=(L.lookup v).map (aat W)
 | []=>rfl
 | (u,x) ::L=>by
  have ih:=ai2 g (L:=L)
  unfold abR LT at ih ⊢
  rw [List.map_cons,List.find?_cons,List.lookup_cons]
  by_cases h:u=v
  . subst h;simp
  . have h1:((((W.bag u:Nat):Int))==((W.bag v:Nat):Int))=false:=by
     rw [beq_eq_false_iff_ne,ne_eq,Int.natCast_inj]
     exact λe=>h (afC g e)
    rw [h1,(by simpa using λe=>h e.symm:(v==u)=false)];exact ih
end
noncomputable abbrev atI:Stmt:=(agV acK).getD 1 aeQ
noncomputable def whT (s:Stmt):Expr:=stE s
inductive FiExtL (ρ ω:aab) (K:Out->Prop):Prop
 | mk (W:V4) (S:List V4) (v:V4) (tt kT rT tT L:T) (l:List T) (e1:Good W) (e2:SidesOK S) (e3:v.deg<=4) (e4:ρ=([("bag",aat W v),("top",tt),("keys",kT),("rows",rT),("sides",.lst (S.map (aat W))),("tops",tT)]:aab))
  (e5:ω=([("least",L),("line",.lst l)]:aab)) (e6:l.length<=9000) (e7:K (.nx ρ [("line",.lst (l++(acx S v).map (aat W))),("least",L)])):FiExtL ρ ω K
noncomputable def ap0:List Str->aab->aab->(Out->Prop)->Prop:=λ_ ρ ω K=>FiExtL ρ ω K
theorem atJ{γ:Gm}{r:Nat}{A:Around}{X P a9:aag}{a6 s:Shared}{env:Env}{fz:List (Str×Addr)}{V:aag}{ad:Str->Addr}{ρ ω:aab}{K:Out->Prop}(st:Stat γ) (k:FrK γ true r A X a9 a6 env lsc) (h:ap0 (fz.map (·.1)) ρ ω K)
  (c:SSt γ true r A X P a9 a6 env lsc fz V ad s ρ ω):aaZ γ true r A X P a9 a6 env lsc fz K V ad s ω am4:=by
 refine ag λG kG=>?_
 obtain ⟨W,S,v,tt,kT,rT,tT,L,l,g,hS,hv,rfl,rfl,hl,hK⟩:=h
 refine kG ?_
 show aaZ _ _ _ _ _ _ _ _ _ _ _ _ _ _ _ _ (.Expr (.Call (.Attribute (.Name "line" _) "extend" _) [argE am4] [] _) _)
 refine ahB (aal (aas (γ:=γ) (it:=true) (r:=r) st FsOK.nil MsOK.nil) 20) k c (gdi (by rfl) ?_)
 show br false _ (gd _ (aam SgL true 20 lsc (argE am4) _ _))
 have hz:l.length+((acx S v).map (aat W)).length<=10000:=by
  rw [List.length_map];exact acA hl ahZ rfl
 refine gdi (by rfl) (aoU g hS hv ?_)
 exact szi hz hK
theorem acn{v u:V4}:∀ {L:List (V4×V4)},L.lookup v=some u->(v,u)∈L
 | [],h=>nos h
 | (x,y) ::L,h=>by
  dsimp only [List.lookup_cons] at h
  by_cases e:v=x
  . subst e
    rw [beq_self_eq_true] at h
    obtain rfl:=soi h;exact .head _
  . rw [show (v==x)=false by simpa using e] at h
    exact .tail _ (acn h)
theorem ab4{v:V4}:∀ {L:List (V4×V4)},L.lookup v=none->v∉L.map (·.1)
 | [],_=>List.not_mem_nil
 | (x,y) ::L,h=>by
  dsimp only [List.lookup_cons] at h
  by_cases e:v=x
  . subst e
    rw [beq_self_eq_true] at h;exact son h
  . rw [show (v==x)=false by simpa using e] at h
    rw [List.map_cons,List.mem_cons]
    exact λz=>z.elim e (ab4 h)
theorem am6{W:V4}(l:List V4):∀ t∈l.map (aat W),aoq t:=λt ht=>by
 obtain ⟨v,_,rfl⟩:=List.mem_map.mp ht
 trivial
noncomputable def lHk:HkS:=arB 168 am4 ap0 afY
theorem ai3{W:V4}(g:Good W) {S:List V4}(hS:SidesOK S) {m:V4->V4}(hm:Same S m) {t tv:V4}{kT rT tT:T}:∀ (f:Nat) (line:List V4) (L:List (V4×V4)) {K:Out->Prop},SI S m t line L->(∀ x,x.deg=4->m x=t->x∉L.map (·.1)->tv=t)->line.length+6*(35-L.length)<f->f<=1000->
  (∀ L',SI S m t [] L'->(∀ x∈L'.map (·.1),x∈L.map (·.1)\/m x=t)->(∀ x∈L.map (·.1),x∈L'.map (·.1))->K (.nx [("top",aat W tv),("keys",kT),("rows",rT),("sides",.lst (S.map (aat W))),("tops",tT)] [("line",.lst []),("least",.dct (LT W L'))]))->
  agd (λρ ω k=>abq (λe k=>aam SgL true 21 lsc e (ω++ρ) k) 20 (whT atI) k) (λρ ω K=>blF true (aam SgL true 21) 20 lsc (λx=>x=="line" || x=="least") lHk 18 [] (whB atI) ρ ω K) ["top","keys","rows","sides","tops"] ["line","least"] f
   [("top",aat W tv),("keys",kT),("rows",rT),("sides",.lst (S.map (aat W))),("tops",tT)] [("line",.lst (line.map (aat W))),("least",.dct (LT W L))] K:=by
 intro f
 induction f with
 | zero=>intro line L K h hp h1;exact absurd h1 (Nat.not_lt_zero _)
 | succ f ih=>
  intro line L K h hp h1 h2 hK
  have hz:=h.few
  refine gdi (by refine (agp (am6 line)).symm▸?_;rfl) ?_
  refine amh▸?_
  rcases List.eq_nil_or_concat line with rfl | ⟨ln,v,rfl⟩
  . exact hK L h (λx hx=>.inl hx) λx hx=>hx
  . have hne:((ln++[v]).map (aat W)).isEmpty=false:=by rw [List.map_append];cases ln.map (aat W) <;> rfl
    rw [List.concat_eq_append] at *
    rw [hne]
    replace h1:=List.length_append▸h1
    refine szi (by rw [List.length_map,List.length_append];simp only [List.length_cons,List.length_nil] at h1 ⊢;lia) ?_
    rw [show ((ln++[v]).map (aat W)).reverse=aat W v ::(ln.map (aat W)).reverse by rw [List.map_append,List.reverse_append];rfl]
    (try conv=>whnf)
    refine (ai2 g)▸?_
    cases q:L.lookup v with
    | some u=>
     have hv:v∈L.map (·.1):=List.mem_map_of_mem (acn q)
     (try conv=>whnf)
     rw [List.reverse_reverse]
     exact ih ln L (h.skip hv) hp (by simp only [List.length_cons,List.length_nil] at h1;lia) (by lia) hK
    | none=>
     have hv:v∉L.map (·.1):=ab4 q
     have ht:=hp v (h.ln v (auL _ (.head _))).1 (h.ln v (auL _ (.head _))).2 hv
     have hz':=(h.put hm hv ht).few
     rw [List.length_append] at hz'
     refine szi (by rw [LT,List.length_map];lia) ?_
     rw [List.reverse_reverse,show abr (LT W L) (((W.bag v:Nat):Int),aat W tv)=LT W (L++[(v,tv)]) from ?_]
     . refine ⟨rfl,W,S,v,_,kT,rT,tT,_,_,g,hS,?_,rfl,rfl,?_,?_⟩
       . exact aub (h.ln v (auL _ (.head _))).1
       . rw [List.length_map];simp only [List.length_cons,List.length_nil] at h1;lia
       . refine List.map_append▸?_
         refine ih (ln++acx S v) (L++[(v,tv)]) (h.put hm hv ht) (λ_ _ _ _=>ht) ?_ (by lia) (λL' a b c=>hK L' a (λx hx=>?_) λx hx=>c x ?_)
         . have:=ahZ (S:=S) (v:=v)
           refine List.length_append▸?_;rw [List.length_append]
           simp only [List.length_cons,List.length_nil] at h1 hz' ⊢;lia
         . refine (b x hx).elim (λz=>?_) .inr
           rw [List.map_append] at z
           exact (List.mem_append.mp z).elim .inl λz=>.inr (by refine (List.mem_singleton.mp z)▸?_;exact (h.ln v (auL _ (.head _))).2)
         . rw [List.map_append];exact au7 _ hx
     . rw [ag2]
       . unfold LT;rw [List.map_append];rfl
       . intro z
         obtain ⟨q',hq',e⟩:=List.mem_map.mp z
         obtain ⟨p,hp,rfl⟩:=List.mem_map.mp hq'
         have:=afC g (Int.natCast_inj.mp e)
         exact hv (this▸List.mem_map_of_mem hp)
inductive Turned (S:List V4):V4->V4->Prop
 | here (v):Turned S v v
 | turn {u v y}:Turned S u v->y∈acx S v->Turned S u y
structure Least (S:List V4) (ks:List (Int×Int)) (m:V4->V4):Prop where
 same:Same S m
 deg:∀ v,v.deg=4->(m v).deg=4
 idem:∀ v,v.deg=4->m (m v)=m v
 path:∀ v,v.deg=4->Turned S (m v) v
 le:∀ v,v.deg=4->m v=v\/wt ks (m v)<wt ks v
structure OI (m:V4->V4) (pre:List V4) (L:List (V4×V4)):Prop where
 ok:∀ q∈L,q.1.deg=4/\q.2=m q.1
 nd:(L.map (·.1)).Nodup
 all:∀ v,v.deg=4->(v∈L.map (·.1)↔m v∈pre)
section
variable{S:List V4}{ks:List (Int×Int)}{m:V4->V4}{t:V4}{pre rest:List V4}{L L':List (V4×V4)}
theorem OI.start (hl:Least S ks m) (h:OI m pre L) (ht:t.deg=4) (hp:t∉pre) (hs:∀ x,x.deg=4->wt ks x<wt ks t->x∈pre) :
  SI S m (m t) [t] L/\(∀ x,x.deg=4->m x=m t->x∉L.map (·.1)->t=m t):=by
 have key:t∉L.map (·.1)->t=m t:=λhn=>(hl.le t ht).elim Eq.symm λz=>absurd ((h.all t ht).mpr (hs _ (hl.deg t ht) z)) hn
 refine ⟨⟨λx hx=>(by refine (List.mem_singleton.mp hx).symm▸?_;exact ⟨ht,rfl⟩),h.ok,h.nd,λq hq e y hy=>?_,?_⟩,λx hx e hn=>?_⟩
 . refine (hl.same q.1 (h.ok q hq).1 y hy).elim λd e'=>?_
   exact .inl ((h.all y d).mpr (e'▸(h.all q.1 (h.ok q hq).1).mp (List.mem_map_of_mem hq)))
 . by_cases hn:t∈L.map (·.1)
   . exact .inl ((h.all _ (hl.deg t ht)).mpr (by refine (hl.idem t ht).symm▸?_;exact (h.all t ht).mp hn))
   . exact .inr (by refine (key hn)▸?_;exact .head _)
 . exact key λhn'=>hn ((h.all x hx).mpr (e▸(h.all t ht).mp hn'))
theorem OI.next (hl:Least S ks m) (h:OI m pre L) (ht:t.deg=4) (hp:t∉pre) (hs:∀ x,x.deg=4->wt ks x<wt ks t->x∈pre) (si:SI S m (m t) [] L') (hb:∀ x∈L'.map (·.1),x∈L.map (·.1)\/m x=m t) (hc:∀ x∈L.map (·.1),x∈L'.map (·.1)):OI m (pre++[t]) L' where
 ok:=si.ok
 nd:=si.nd
 all:=λv hv=>by
  have reach:∀ {u},Turned S (m t) u->m u=m t/\u∈L'.map (·.1):=λr=>by
   induction r with
   | here=>exact ⟨hl.idem t ht,si.st.elim id λz=>nomatch z⟩
   | turn _ hy ih=>
    refine ag λG kG=>?_
    obtain ⟨e,hu⟩:=ih
    obtain ⟨q,hq,rfl⟩:=List.mem_map.mp hu
    refine kG ?_
    exact ⟨(hl.same _ (si.ok q hq).1 _ hy).2.trans e,(si.cl q hq e _ hy).elim id λz=>nomatch z⟩
  rw [List.mem_append,List.mem_singleton]
  refine ⟨λz=>(hb v z).elim (λz=>.inl ((h.all v hv).mp z)) λe=>?_,λz=>z.elim (λz=>hc v ((h.all v hv).mpr z)) λe=>?_⟩
  . by_cases hn:t∈L.map (·.1)
    . exact .inl (e▸(h.all t ht).mp hn)
    . exact .inr (e.trans ((hl.le t ht).elim id λz=>absurd ((h.all t ht).mpr (hs _ (hl.deg t ht) z)) hn))
  . have e2:m t=m v:=by refine e▸?_;exact hl.idem v hv
    exact (reach (by refine e2▸?_;exact hl.path v hv)).2
end
noncomputable abbrev lblH (m:Nat):BlF:=blF true (aam SgL true 21) 20 lsc (λx=>x=="line" || x=="least") lHk m
theorem akJ{W:V4}(g:Good W) {S:List V4}(hS:SidesOK S) {ks:List (Int×Int)}{m:V4->V4}(hl:Least S ks m) {kT rT tT:T}{us:List V4}(hs:us.Pairwise λu v=>wt ks u<wt ks v) (ha:∀ v:V4,v∈us↔v.deg=4) {K:Out->Prop}
  (hK:∀ L,OI m us L->K (.nx [("keys",kT),("rows",rT),("sides",.lst (S.map (aat W))),("tops",tT)] [("least",.dct (LT W L))])):∀ (rest pre:List V4) (L:List (V4×V4)),us=pre++rest->OI m pre L->
  afX (acF lsc [] (forT acK)) (λρ ω K=>lblH 20 [] (agV acK) ρ ω K) ["keys","rows","sides","tops"] ["least"] (rest.map (aat W)) [("keys",kT),("rows",rT),("sides",.lst (S.map (aat W))),("tops",tT)] [("least",.dct (LT W L))] K:=by
 intro rest
 induction rest with
 | nil=>intro pre L e h;rw [List.append_nil] at e;exact hK L (e▸h)
 | cons t rest ih=>
  intro pre L e h
  have ht:t.deg=4:=(ha t).mp (e▸auL _ (.head _))
  rw [e] at hs
  obtain ⟨s1,s2,s3⟩:=List.pairwise_append.mp hs
  have hx:∀ x:V4,x.deg=4->wt ks x<wt ks t->x∈pre:=λx hx hlt=>by
   have:=(ha x).mpr hx
   replace this:=e▸this
   rcases List.mem_append.mp this with z | z
   . exact z
   . rcases List.mem_cons.mp z with rfl | z
     . exact absurd hlt (au1 _)
     . exact absurd hlt (Int.lt_asymm ((List.pairwise_cons.mp s2).1 x z))
  have hX:=h.start hl ht (λz=>au1 _ (s3 t z t (.head _))) hx
  have si:=hX.1
  have hput:=hX.2
  refine ⟨300,ai3 g hS hl.same 300 [t] L si hput (by simp only [List.length_cons,List.length_nil];exact auc (at8 (au9 6 (Nat.sub_le 35 _)) _) (by decide)) (by exact at2 rfl) λL' a b c=>?_⟩
  exact ih (pre++[t]) L' (by rw [List.append_assoc];exact e) (h.next hl ht (λz=>au1 _ (s3 t z t (.head _))) hx a b c)
set_option backward.match.sparseCases false
noncomputable def am7 (ks:List (Int×Int)) (l:List Int):List Int:=ks.map λp=>l.getD p.1.toNat 0*p.2
theorem am8{l r:List Int}:∀ {ks:List (Int×Int)},ad3 ks->aoS (am7 ks l) (am7 ks r)=decide (0<aeM ks r l)
 | [],_=>rfl
 | (i,d) ::ks,h=>by
  have ih:=am8 (ks:=ks) (l:=l) (r:=r) λp hp=>h p (.tail _ hp)
  unfold am7 at ih ⊢
  rw [List.map_cons,List.map_cons]
  unfold aoS aeM
  dsimp only
  generalize l.getD i.toNat 0=x
  generalize r.getD i.toNat 0=y
  by_cases e:x=y
  . subst e
    rw [if_pos (by simp),if_neg (Int.lt_irrefl _),if_neg (Int.lt_irrefl _)]
    exact ih
  . have n1:¬ (x*d==y*d)=true:=λz=>e (Int.eq_of_mul_eq_mul_right (h _ (.head _)) (eq_of_beq z))
    rw [if_neg n1]
    by_cases q:y<x
    . rw [if_pos q]
      refine decide_eq_decide.mpr ⟨λz=>?_,λz=>?_⟩
      . refine Int.not_le.mp λw=>?_
        have:y*d<=x*d:=auN (Int.le_of_lt q) (by lia)
        lia
      . have:d<0:=by exact Int.neg_pos.mp z
        exact Int.mul_lt_mul_of_neg_right q this
    . rw [if_neg q,if_pos (by lia)]
      refine decide_eq_decide.mpr ⟨λz=>?_,λz=>Int.mul_lt_mul_of_pos_right (by lia) z⟩
      refine Int.not_le.mp λw=>?_
      have:y*d<=x*d:=Int.mul_le_mul_of_nonpos_right (Int.le_of_lt (by lia)) w
      lia
theorem atK{ks:List (Int×Int)}(h1:ad3 ks) {u v:V4}(hu:u.deg<=4) (hv:v.deg<=4):aoS (am7 ks u.lst) (am7 ks v.lst)=decide (wt ks u<wt ks v):=by
 rw [am8 h1]
 exact decide_eq_decide.mpr (afL h1 (adF hv hu))
noncomputable def lamB (e:Expr):Expr:=exI 0 e
noncomputable def akK:Expr->Scope
 | .Lambda _ _ s _=>s
 | _=>default
noncomputable def forI (s:Stmt):Expr:=stE s
noncomputable def kwE (e:Expr):Expr:=exI 1 e
noncomputable abbrev aha:Expr:=kwE (forI acK)
structure KeysOK (ks:List (Int×Int)):Prop where
 k4:Keys4 ks
 u1:ad3 ks
 sz:∀ p∈ks,p.2.natAbs<2^100
theorem arN{W:V4}(g:Good W) {ks:List (Int×Int)}(hk:KeysOK ks) {v:V4}(hv:v.deg<=4) {K:T->Prop}(hK:K (.lst ((am7 ks v.lst).map .int))) :
  aam SgL true 20 (akK aha).names (lamB aha) [("bag",aat W v),("keys",adj ks),("rows",acY W)] K:=by
 obtain ⟨KT,hKT⟩:∃ KT:List T,KT=ks.map λp=>.tup [.int p.1,.int p.2]:=⟨_,rfl⟩
 have hki:=hk.k4.inn
 unfold adj
 refine hKT▸?_
 refine afJ (n:=19) (g:=⟨_,_,_,_⟩) KT rfl (by rfl) (λK' h=>szi (by rw [hKT,List.length_map];exact at0 hki.2 (by decide)) h) ?_
 have hK':K (.lst ([]++ks.flatMap λp=>[T.int (v.lst.getD p.1.toNat 0*p.2)])):=by
  rw [List.nil_append,abw]
  unfold am7 at hK
  rw [List.map_map] at hK
  exact hK
 conv=>arg 3;rw [hKT]
 refine abp (λp:Int×Int=>T.tup [.int p.1,.int p.2]) (λp=>[T.int (v.lst.getD p.1.toNat 0*p.2)]) ks [] _ ?_ (λp hp acc K' hl h=>?_) hK'
 . rw [abw,List.length_map,List.length_nil,Nat.zero_add];exact at0 hki.2 (by decide)
 . obtain ⟨k,d⟩:=p
   have hX:=hki.1 _ hp
   refine szi hl ?_
   refine abK (aaq g hv) ?_
   refine ixi hX.1 hX.2 (at2 rfl) ?_
   refine aa2 (abx ?_) (aa2 (abx (hk.sz _ hp)) h)
   have hn:=adF (ks:=[(k,0)]) (u:=v) (v:=.nil) hv ((aup _)) _ (.head _)
   have e0:V4.nil.lst.getD k.toNat 0=0:=by
    match k.toNat with
    | 0 | 1 | 2 | 3=>rfl
    | _+4=>rfl
   simp only [e0] at hn
   exact akV (na4 (n:=4) (Int.sub_zero (v.lst.getD k.toNat 0)▸hn.1) (Int.zero_sub (v.lst.getD k.toNat 0)▸hn.2)) rfl
noncomputable def lamP:Expr->Arguments
 | .Lambda a _ _ _=>a
 | _=>default
section
variable{cl:List (Str×Addr)}
theorem aoV (st:Stat γ) {W:V4}(g:Good W) {ks:List (Int×Int)}(hk:KeysOK ks) {f:Addr}(hf:CloAt s.heap f (lamP aha) (.expr (lamB aha)) (akK aha) cl) {vr vk:Value}(h1:CellHas s.heap cl "rows" vr) (r1:Rep V s.heap vr (acY W)) (h2:CellHas s.heap cl "keys" vk) (r2:Rep V s.heap vk (adj ks))
  (hcl:∀ x c,cl.lookup x=some c->∃ o,s.heap.get? c=some o/\o.cls=.type "cell") (wd:Wd γ s.heap) (aok:AOK true 1 A s.heap) {v:V4}(hv:v.deg<=4) {tk:Tok}:Turn γ A (.ref f) s (.int ((W.bag v:Nat):Int) tk) (am7 ks v.lst):=by
 intro s' x
 have lv:∀ {v t},Rep V s.heap v t->Rep (λa=>∃ o,s.heap.get? a=some o) s'.heap v t:=λr=>(r.live).mono (λ_ h=>h.2) λb o n _ e=>x.keepC b o n id e
 have ci:CloIn s' s' (akK aha).names cl (λa=>∃ o,s.heap.get? a=some o) (λ_=>0) [] [("keys",adj ks),("rows",acY W)] []:={
  x:=ExtX.refl s'
  cls:=λz c h=>(hcl z c h).elim λo hX1=>hX1.elim λe q=>⟨o,x.keepC _ _ (λz=>nty (q.symm.trans z)) id e,q⟩
  fr:=λz hz=>by
   have:z="keys"\/z="rows":=by
    rw [show (akK aha).names=([("bag",.cell),("keys",.free),("rows",.free)]:aad) from rfl,List.lookup_cons,List.lookup_cons,List.lookup_cons] at hz
    split at hz
    . cases hz
    . split at hz
      . rename_i q;exact .inl (eq_of_beq q)
      . split at hz
        . rename_i q;exact .inr (eq_of_beq q)
        . exact nos hz
   clear hz
   rcases this with rfl | rfl
   . obtain ⟨c,_,h,_⟩:=h2;exact ⟨c,h⟩
   . obtain ⟨c,_,h,_⟩:=h1;exact ⟨c,h⟩
  rho:=λz t' h=>by
   replace h:=lookup_cons▸h
   split at h
   . rename_i q
     cases eq_of_beq q;cases h
     exact ⟨by rfl,_,h2.ext x,lv r2⟩
   . replace h:=lookup_cons▸h
     split at h
     . rename_i q
       cases eq_of_beq q;cases h
       exact ⟨by rfl,_,h1.ext x,lv r1⟩
     . exact nos h
  om:=λz t' h=>nomatch h
  ap:=λz z' t' u h=>nomatch h
  fz:=λp hp=>nomatch hp }
 have hf':=hf.extX wd.tabs x id λb o vs h=>h.elim
 refine auX (am3 hf' (by rfl) ci (aok.ext x) (wd.ext x) (.cons (.int _ tk) .nil) rfl λenv a8 X V' A' k c=>?_)
 refine aaj ((aal (aas (γ:=γ) (it:=true) (r:=0) st FsOK.nil MsOK.nil) 20) _ _ _ (λt=>t=.lst ((am7 ks v.lst).map .int)) (arN g hk hv rfl) A' V' a8 env c.cx) λu aa t ht am ru=>?_
 rw [ht] at ru
 exact aa3 ru λb vs e hb hq rs=>hq.elim λn hp=>⟨c.ext.trans am,b,vs,n,e,hp,aeF rs,hb.elim (λz=>(c.vw b z).imp id id) λz=>.inr (c.ext.there b id z)⟩
end
set_option backward.match.sparseCases true
section
variable{names:aad}
theorem ajS (c:Cx γ it r A V s env sc ρ) {x:Str}{t:T}(hx:sc.lookup x=some .cell) (hl:∀ a,env.cells.lookup x=some a->(aay env names []).lookup x=some a) (h:ρ.lookup x=some t):∃ v,CellHas s.heap (aay env names []) x v/\Rep V s.heap v t:=by
 refine (c.vars x t h).elim λv hX1=>hX1.elim λhs hr=>?_
 refine ⟨v,?_,hr⟩
 refine (hs).elim ?_ ?_
 . rintro ⟨hk,_⟩
   rcases c.envS.names x with q | ⟨q,_⟩
   . replace q:=hk▸q;replace q:=hx▸q;cases q
   . replace q:=hk▸q;rcases q with q | q <;> cases q
 . rintro ⟨_,a,o,e1,e2,e3,e4⟩
   exact ⟨a,o,hl a e1,e2,e3,e4⟩
theorem ah0{h:Heap}{vs:List Value}{ts:List T}(rs:RepL V h vs ts):∀ {l:List Nat},(∀ i∈l,i<ts.length)->RepL V h (l.map λi=>vs.getD i .none) (l.map λi=>ts.getD i .none)
 | [],_=>.nil
 | i ::l,hl=>by
  have hi:=hl i (.head _)
  refine (rs.get' (aul hi)).elim λv hX1=>hX1.elim λhv rv=>?_
  refine .cons ?_ (ah0 rs λj hj=>hl j (.tail _ hj))
  show Rep V h (vs.getD i .none) (ts.getD i .none)
  rw [List.getD_eq_getElem?_getD,List.getD_eq_getElem?_getD,hv,List.getElem?_eq_getElem hi]
  exact rv
end
theorem am9{α:Type}{l:List α}{d:α}:(List.range l.length).map (λi=>l.getD i d)=l:=by
 refine List.ext_getElem (by simp) λi h1 h2=>?_
 rw [List.getElem_map,List.getElem_range,List.getD_eq_getElem?_getD,List.getElem?_eq_getElem h2];rfl
section
variable{W:V4}{ks:List (Int×Int)}{tops:List V4}{p:Array Nat}
noncomputable def asc (tops:List V4) (p:Array Nat):List V4:=p.toList.map λi=>tops.getD i .nil
theorem atL (hp:PV tops.length (λi=>wt ks (tops.getD i .nil)) p) {v:V4}:v∈asc tops p↔v∈tops:=by
 have h1:=(Array.perm_iff_toList_perm.mp hp.perm).map λi=>tops.getD i V4.nil
 rw [show ((List.range tops.length).toArray.toList).map (λi=>tops.getD i V4.nil)=tops from am9] at h1
 exact h1.mem_iff
theorem atM (hp:PV tops.length (λi=>wt ks (tops.getD i .nil)) p) (ha:Asc (λi=>wt ks (tops.getD i .nil)) p tops.length):(asc tops p).Pairwise λu v=>wt ks u<wt ks v:=by
 unfold asc
 rw [List.pairwise_map,List.pairwise_iff_getElem]
 intro i j hi hj hij
 have hj':j<p.size:=by simpa using hj
 have:=ha i j hij (hp.size▸hj')
 unfold wp at this
 rw [Array.getD,dif_pos (Nat.lt_trans hij hj'),Array.getD,dif_pos hj'] at this
 exact this
theorem atN (hp:PV tops.length (λi=>wt ks (tops.getD i .nil)) p):∀ i∈p.toList,i<tops.length:=λi hi=>by
 have:=hp.perm.mem_iff.mp (Array.mem_toList_iff.mp hi)
 simpa using this
theorem us_T (hp:PV tops.length (λi=>wt ks (tops.getD i .nil)) p):(p.toList.map λi=>(tops.map (aat W)).getD i .none)=(asc tops p).map (aat W):=by
 unfold asc
 rw [List.map_map]
 refine List.map_congr_left λi hi=>?_
 have:=atN hp i hi
 show (tops.map (aat W)).getD i .none=aat W (tops.getD i .nil)
 rw [List.getD_eq_getElem?_getD,List.getElem?_map,List.getD_eq_getElem?_getD,List.getElem?_eq_getElem this];rfl
theorem ana (hk:KeysOK ks) (hd:∀ v∈tops,v.deg=4) (hn:tops.Nodup):Rank (tops.map λv=>am7 ks v.lst) (λi=>wt ks (tops.getD i .nil)) ks.length where
 len:=λk hkm=>by
  obtain ⟨v,_,rfl⟩:=List.mem_map.mp hkm
  exact List.length_map _
 lt:=λi j x y hi hj=>by
  rw [List.getElem?_map,Option.map_eq_some_iff] at hi hj
  obtain ⟨u,hu,rfl⟩:=hi
  obtain ⟨v,hv,rfl⟩:=hj
  rw [atK hk.u1 (Nat.le_of_eq (hd u (List.mem_of_getElem? hu))) (Nat.le_of_eq (hd v (List.mem_of_getElem? hv))),List.getD_eq_getElem?_getD,List.getD_eq_getElem?_getD,hu,hv];rfl
 inj:=λi j hi hj e=>by
  rw [List.length_map] at hi hj
  rw [List.getD_eq_getElem?_getD,List.getD_eq_getElem?_getD,List.getElem?_eq_getElem hi,List.getElem?_eq_getElem hj] at e
  refine Classical.byContradiction λhij=>?_
  have d1:=aub (hd _ (List.getElem_mem hi))
  have d2:=aub (hd _ (List.getElem_mem hj))
  refine (atw hk.k4 hk.u1 d1 d2 (λz=>hij ((List.getElem_inj hn).mp z))).elim ?_ ?_
  . rintro z
    exact absurd ((afL hk.u1 (adF d1 d2)).mp z) (by show ¬ wt ks tops[j]<wt ks tops[i];rw [show wt ks tops[i]=wt ks tops[j] from e];exact au1 _)
  . rintro z
    exact absurd ((afL hk.u1 (adF d2 d1)).mp z) (by show ¬ wt ks tops[i]<wt ks tops[j];rw [show wt ks tops[i]=wt ks tops[j] from e];exact au1 _)
end
inductive Fileast (ts:List T) (K:T->Prop):Prop
 | mk (W:V4) (S tops:List V4) (ks:List (Int×Int)) (m:V4->V4) (e0:ts=[.lst (tops.map (aat W)),.lst (S.map (aat W)),acY W,adj ks]) (e1:Good W) (e2:SidesOK S) (e3:KeysOK ks) (e4:Least S ks m) (e5:tops.Nodup) (e6:(∀ v:V4,v∈tops↔v.deg=4)) (e7:2<=tops.length) (e8:tops.length<64) (e9:∀ L:List (V4×V4),L.length<=35->(∀ v,v.deg=4->L.lookup v=some (m v))->K (.dct (LT W L))):Fileast ts K
noncomputable def anb:Fun:=Fileast
section
theorem ai4 (st:Stat γ) {W:V4}{tops:List V4}{ks:List (Int×Int)}(g:Good W) (hk:KeysOK ks) (hn:tops.Nodup) (ht:∀ v:V4,v∈tops↔v.deg=4) (h2:2<=tops.length) (h64:tops.length<64) (hcode:env.code=.ref 152) (hqual:env.qual="_law_least.<locals>.") {sd:T}
  (c:Cx γ true 4 A V s env lsc [("keys",adj ks),("rows",acY W),("sides",sd),("tops",.lst (tops.map (aat W)))]) {Q:Value->Shared->Prop}
  (hQ:∀ (D:Value) (s':Shared) (us:List V4),Ext s s'->us.Pairwise (λu v=>wt ks u<wt ks v)->(∀ v:V4,v∈us↔v.deg=4)->Rep (Nv V s) s'.heap D (.lst (us.map (aat W)))->Q D s') :
  wpAny (model pg γ.w) A (eval (forI acK) env) Q No s:=by
 show wpAny _ _ (eval (.Name "sorted" _) env >>= λg=>callWith _ g [] (backTo _ (starEach [.Name "tops" _] env)) (backToKw _ (keywordEach [⟨some (Str.ofString "key"),aha,_⟩] env))) _ _ _
 refine atY (atY (at7 (acQ c.wd c.envS rfl (abG c.wd (v:=.builtin "sorted") (by decide)) ?_)))
 refine callWith_kw (acR rfl (agw c (by rfl) rfl λvt rt=>kws_cons ?_))
 have hfree:∀ p∈(akK aha).names,p.2=.free->∃ a,env.cells.lookup p.1=some a:=λp hp e=>by
  refine c.envS.cells p.1 (.inl ?_)
  have:∀ p∈(akK aha).names,p.2=.free->lsc.lookup p.1=some .cell:=by decide
  exact this p hp e
 show wpAny _ _ (eval (.Lambda (lamP aha) (lamB aha) (akK aha) _) env) _ _ _
 refine aoT c.wd c.envS.glob (q:=(152,150,162,32,"_law_least.<locals>.<lambda>")) (by decide) hcode ⟨rfl,rfl⟩ (by refine hqual▸?_;rfl) rfl (aeg hfree) λf ai an hf cl=>kws_nil ?_
 show wpAny _ _ (call (.builtin "sorted") [vt] [(Str.ofString "key",.ref f)]) _ _ _
 have aj:=c.ext an
 have look:∀ {x a},(aay env (akK aha).names []).lookup x=some a->(x,NameKind.free)∈(akK aha).names/\env.cells.lookup x=some a:=λh=>
  (abS hfree (mem_of_lookup h)).elim (λz=>nomatch z) id
 refine (ajS (names:=(akK aha).names) aj (x:="rows") (t:=acY W) rfl (λa e=>by show some ((env.cells.lookup ("rows":Str)).getD 0)=_;rw [e];rfl) rfl).elim λvr hX1=>hX1.elim λh1 r1=>?_
 refine (ajS (names:=(akK aha).names) aj (x:="keys") (t:=adj ks) rfl (λa e=>by show some ((env.cells.lookup ("keys":Str)).getD 0)=_;rw [e];rfl) rfl).elim λvk hX1=>hX1.elim λh2' r2=>?_
 have hcl:∀ x a,(aay env (akK aha).names []).lookup x=some a->∃ o,ai.heap.get? a=some o/\o.cls=.type "cell":=λx a h=>by
  refine (look h).elim λq1 q2=>?_
  have:∀ p∈(akK aha).names,p.2=.free->lsc.lookup p.1=some .cell:=by decide
  exact aj.live x a (.inl (this _ q1 rfl)) q2
 refine aa3 (rt.ext an (V':=Nv V s) λ_ h=>.inl h) λl vs e _ hl rs=>?_
 rw [e]
 have hlen:vs.toList.length=tops.length:=by rw [rs.length,List.length_map]
 have aok:=aj.aok
 refine akI (vs:=vs.toList) (W:=λi=>wt ks (tops.getD i .nil)) (c:=ks.length) (ks:=tops.map λv=>am7 ks v.lst) (by have:=aok.units;exact auc (at0 (at8 (by decide:2<=8*4) _) (at9 _ _)) this) (ana hk (λv hv=>(ht v).mp hv) hn) (by exact hl.isList) (le_of_le_of_eq h2 (id (Eq.symm hlen))) (lt_of_eq_of_lt hlen h64) (by rw [List.length_map,hlen])
  (λi v x hv hx=>?_) λD ao p ay hD hp ha he=>?_
 . obtain ⟨t,e1,rv⟩:=rs.get hv
   rw [List.getElem?_map,Option.map_eq_some_iff] at e1 hx
   clear hv
   obtain ⟨u,hu,rfl⟩:=e1
   obtain ⟨u',hu',rfl⟩:=hx
   cases soi (hu.symm.trans hu')
   refine agE rv λtk=>?_
   exact aoV st g hk cl h1 r1 h2' r2 hcl aj.wd (aok.in1.in1.le ((auh _))) (aub ((ht u).mp (aux hu)))
 . rw [hlen] at hp ha
   obtain ⟨n,he⟩:=he
   refine hQ _ ao (asc tops p) (an.trans ay) (atM hp ha) (λv=>(atL hp).trans (ht v)) (.lst (.inr (an.there _ id hD)) ⟨n,he⟩ ?_)
   rw [ahY,List.toList_toArray,<- us_T hp]
   exact ah0 ((rs.ext ay) ) (λi hi=>by rw [List.length_map];exact atN hp i hi)
theorem aoW (st:Stat γ):CallOK γ (Wd γ) true 5 (.ref 153) anb:=by
 rintro A V s vs ts K aok wd rs ⟨W,S,tops,ks,m,rfl,g,hS,hk,hm,hn,ht,h2,h64,hK⟩
 refine auX (adW (r:=4) (st.fnc (153,152,"_law_least",24) (by decide)) (by rfl) (by rfl) wd aok rs rfl λenv a8 X V' A' hcode hqual k c=>?_)
 have sg:=aas (γ:=γ) (it:=true) (r:=4) st FsOK.nil MsOK.nil
 have hh:HkOK γ true 4 A' X V s env lsc lHk:=HkOK.at (λP fz ρ ω K V ad s h c=>atJ st k h c) HkOK.none
 refine at1 (Q:=λf s'=>EvR V s K (match f with | .ret v=>v | _=>.none) s') ?_ (λf s' h=>h) aah
 refine (show abE (aaa 24)=(abE (aaa 24)).take 1++(abE (aaa 24)).drop 1 from (List.take_append_drop 1 _).symm)▸?_
 refine acb (n:=20) (n':=20) (ow:=λx=>x=="line" || x=="least") sg k hh 10 _ ?_ c Stp.refl
 intro aa aw aE ah av
 change wpAny _ _ (execs (Stmt.For (Expr.Name _ _) (forI acK) _ [] _ ::Stmt.Return (some (Expr.Name _ _)) _ ::[]) env) _ _ _
 refine aui (at1 (ael (KI:=λitems=>∃ us:List V4,items=us.map (aat W)/\us.Pairwise (λu v=>wt ks u<wt ks v)/\∀ v:V4,v∈us↔v.deg=4)
  (K:=λo=>∃ L,OI m tops L/\o=.nx [("keys",adj ks),("rows",acY W),("sides",.lst (S.map (aat W))),("tops",.lst (tops.map (aat W)))] [("least",.dct (LT W L))]) k (acT (n:=20) (n':=20) (ow:=λx=>x=="line" || x=="least") sg k hh 20) ah rfl ?_ ?_) (λf ai hZ4=>hZ4.elim λo hZ5=>hZ5.elim λho p=>?_) aah)
 . refine ai4 st g hk hn ht h2 h64 hcode hqual ah.cx λD ao us x h1 h2 h3=>?_
   exact at1 (af8 ((ah.cx.ext x).aok.free rfl) (ah.cx.ext x).wd.tabs h3) (λi aI hI=>⟨_,⟨us,rfl,h1,h2⟩,hI.from x⟩) aah
 . rintro items ⟨us,rfl,h1,h2⟩
   refine akJ g hS hm h1 h2 (λL h=>⟨L,⟨h.ok,h.nd,λv hv=>(h.all v hv).trans ((h2 _).trans (ht _).symm)⟩,rfl⟩) us [] [] rfl ⟨(λ_ h=>nomatch h),List.nodup_nil,λv hv=>⟨(λh=>nomatch h),λh=>nomatch h⟩⟩
 . obtain ⟨L,hL,rfl⟩:=ho
   clear hZ4
   clear hZ5
   cases f <;> first | exact p.elim | skip
   refine (p).elim λcY hX1=>hX1.elim λcF hX2=>hX2.elim λaj bE=>?_
   refine aen (n:=20) (n':=20) (m:=20) (ow:=λ_=>false) sg k hh aj (K:=K) ?_
   refine hK L ?_ λv hv=>?_
   . have:=ad6 (L.map (·.1)) (anA 4) hL.nd λa ha=>by
      obtain ⟨q,hq,rfl⟩:=List.mem_map.mp ha
      have:=(hL.ok q hq).1
      exact this▸ad4 (aub this)
     rw [List.length_map] at this
     exact at0 this (ag6 4 (by exact at2 rfl))
   . have hv':=(hL.all v hv).mpr ((ht _).mpr (hm.deg v hv))
     cases q:L.lookup v with
     | none=>exact absurd hv' (ab4 q)
     | some u=>exact congrArg some (hL.ok _ (acn q)).2
end
structure Exc (B h:Heap) (e:Addr) (X:String) (fl:Value):Prop where
 obj:∃ oe vs,h.get? e=some oe/\oe.cls=.type X/\oe.data=.fields vs/\vs[2]?=some .none/\∃ T oT ts,vs[1]?=some (.ref T)/\T≠e/\B.get? T=none/\h.get? T=some oT/\oT.data=.fields ts/\ts[3]?=some fl
structure Ups (F:List Addr) (B h:Heap):Prop where
 keep:∀ b o,b∉F->B.get? b=some o->h.get? b=some o
 slot:∀ b o,B.get? b=some o->∃ sl,h.get? b=some { o with slots:=sl }
noncomputable abbrev ah1:Heap:=default
section
variable{M:Model}{F:List Addr}{B:Heap}{outer:List Env}{L e:Addr}{X:String}
theorem Ups.upd{h:Heap}{x:Addr}{f:Obj->Obj}(u:Ups F B h) (hx:B.get? x=none):Ups F B (h.update x f):=
 have n:∀ {b o},B.get? b=some o->x≠b:=λe z=>nos (hx.symm.trans (z▸e))
 ⟨λb o nb e=>(aus _ _ (n e)).trans (u.keep b o nb e),λb o e=>(u.slot b o e).elim λsl q=>⟨sl,(aus _ _ (n e)).trans q⟩⟩
theorem Ups.push{h:Heap}{o:Obj}(u:Ups F B h):Ups F B (h.push o):=
 ⟨λb o nb e=>atZ _ (u.keep b o nb e),λb o e=>(u.slot b o e).elim λsl q=>⟨sl,atZ _ q⟩⟩
theorem Ups.slots{h h':Heap}(u:Ups F B h) {S:List Addr}(hS:∀ b∈S,b∈F) (x:Heap.SlotsOnly S h h'):Ups F B h':=
 ⟨λb o nb e=>(x.2.1 b λz=>nb (hS b z)).trans (u.keep b o nb e),λb o e=>(u.slot b o e).elim λ_ q=>(x.2.2 b _ q).elim λsl q'=>⟨sl,q'⟩⟩
theorem aev{h b0:Heap}{x:Addr}{f:Obj->Obj}{ox:Obj}{vs:Array Value}{l:List Env}(ex:h.get? x=some ox) (dx:ox.data=.fields vs) (hl:h.FunFrames b0 l):(h.update x f).FunFrames b0 l:=
 hl.of_keeps λb o hb hnf=>⟨o,(aus _ _ λz=>by rw [z,hb] at ex;exact hnf vs (soi ex▸dx)).trans hb,rfl⟩
theorem ah2{b0:Heap}{oe:Obj}{vs:Array Value}{head:Value}{had:Bool}{Q:Unit->Shared->Prop}(hfr:A.frames=some (env ::outer)) (hF:∀ b∈(env ::outer).filterMap (·.frame),b∈F) (hl:s.heap.FunFrames b0 (env ::outer)) (hf:env.frame=some L)
  (he:s.heap.get? e=some oe) (hc:oe.cls=.type X) (hd:oe.data=.fields vs) (h1:1<vs.size) (h2:vs[2]?=some .none) (hB:B.get? e=none) (u:Ups F B s.heap) (h:∀ h',Ups F B h'->h'.FunFrames b0 (env ::outer)->Exc B h' e X (rawInt L)->Q () { s with heap:=h' }) :
  wpAny M A (do let a <- frameOf env;let pl <- entryPlaceOf L had;let b <- EntryCells.newEntry head a .none (rawInt L) .none pl;setField (.ref e) 1 b) Q E s:=by
 have hene:e∉(env ::outer).filterMap (·.frame):=λhm=>by
  refine (hl.mem hm).elim λ_ hX1=>hX1.elim λo hX2=>hX2.elim λho hnf=>?_
  exact hnf vs (soi (ho.symm.trans he)▸hd)
 refine atY (wpAny_frameOf_fun hfr hl hf λak hs=>?_)
 refine atY (wpAny_entryPlaceOf λpl hpl=>?_)
 refine atY (auD ?_ (hpl.sizeOk5 _ _ _ _ _))
 have c7:ak.get? e=some oe:=(hs.2.1 e hene).trans he
 have bu:=atZ (h:=ak) { cls:=.type "traceback",dict:=none,data:=.fields ([head,.ref L,.none,rawInt L,.none]++(if pl.isEmpty then List.replicate 6 Value.none else pl)).toArray } c7
 refine wpAny_setField bu hd h1 (h _ ((u.slots hF hs).push.upd hB) ?_ ⟨_,_,auA _ bu (Obj.isFreed_of_fields (Obj.data_mapFields hd (·.setIfInBounds 1 (Value.ref ak.objs.size)))),?_,(Obj.data_mapFields hd (·.setIfInBounds 1 (Value.ref ak.objs.size))),?_,ak.objs.size,_,_,?_,(auJ (aua c7)),?_,((aus (h:=ak.push { cls:=.type "traceback",dict:=none,data:=.fields ([head,.ref L,.none,rawInt L,.none]++(if pl.isEmpty then List.replicate 6 Value.none else pl)).toArray }) (Obj.mapFields (·.setIfInBounds 1 (Value.ref ak.objs.size))) (auJ (aua c7)).symm).trans (at4 _ rfl)),rfl,?_⟩)
 . exact aev bu hd ((hl.of_slotsOnly hs).of_keeps λb o hb _=>⟨o,atZ _ hb,rfl⟩)
 . exact (Obj.cls_mapFields _ _).trans hc
 . rw [Array.getElem?_setIfInBounds_ne (by decide)];exact h2
 . simp [h1]
 . cases q:B.get? ak.objs.size with
   | none=>rfl
   | some o=>obtain ⟨_,q'⟩:=(u.slots hF hs).slot _ o q;exact absurd (aua q') (auH _)
 . first | (simp;done) | (rcases hpl with rfl | ⟨_,_,_,_,_,_,_,rfl⟩ <;> simp)
theorem akL{b0:Heap}{oe:Obj}{vs:Array Value}{Q:Unit->Shared->Prop}(hfr:A.frames=some (env ::outer)) (hF:∀ b∈(env ::outer).filterMap (·.frame),b∈F) (hl:s.heap.FunFrames b0 (env ::outer)) (hf:env.frame=some L)
  (he:s.heap.get? e=some oe) (hc:oe.cls=.type X) (hd:oe.data=.fields vs) (h1:vs[1]?=some .none) (h2:vs[2]?=some .none) (hB:B.get? e=none) (u:Ups F B s.heap) (h:∀ h',Ups F B h'->h'.FunFrames b0 (env ::outer)->Exc B h' e X (rawInt L)->Q () { s with heap:=h' }) :
  wpAny M A (noteFrame (.ref e) env) Q E s:=by
 unfold noteFrame
 refine hf▸?_
 refine atY (auo he hd h1 ?_)
 exact ah2 hfr hF hl hf he hc hd (Array.getElem?_eq_some_iff.mp h1).1 h2 hB u h
theorem anc{b0:Heap}{Q:Unit->Shared->Prop}(hfr:A.frames=some (env ::outer)) (hF:∀ b∈(env ::outer).filterMap (·.frame),b∈F) (hl:s.heap.FunFrames b0 (env ::outer)) (hf:env.frame=some L)
  (x:Exc B s.heap e X .none) (hB:B.get? e=none) (u:Ups F B s.heap) (h:∀ h',Ups F B h'->h'.FunFrames b0 (env ::outer)->Exc B h' e X (rawInt L)->Q () { s with heap:=h' }) :
  wpAny M A (noteFrame (.ref e) env) Q E s:=by
 refine ag λG kG=>?_
 obtain ⟨oe,vs,he,hc,hd,h2,T,oT,ts,h1,hT,bT,eT,dT,h3⟩:=x
 refine kG ?_
 unfold noteFrame
 refine hf▸?_
 refine atY (auo he hd h1 ?_)
 refine atY (auo eT dT h3 ?_)
 refine atY (wpAny_setField eT dT (Array.getElem?_eq_some_iff.mp h3).1 ?_)
 exact ah2 (s:={ s with heap:=_ }) hfr hF (aev eT dT hl) hf ((aus _ _ hT).trans he) hc hd (Array.getElem?_eq_some_iff.mp h1).1 h2 hB (u.upd bT) h
theorem land{b0:Heap}{l:List Env}{fl:Value}{Q:Unit->Shared->Prop}(x:Exc B s.heap e X fl) (u:Ups F B s.heap) (hl:s.heap.FunFrames b0 l) (h:∀ h',Ups F B h'->h'.FunFrames b0 l->Exc B h' e X .none->Q () { s with heap:=h' }):wpAny M A (setFlight (.ref e) none) Q E s:=by
 refine ag λG kG=>?_
 obtain ⟨oe,vs,he,hc,hd,h2,T,oT,ts,h1,hT,bT,eT,dT,h3⟩:=x
 refine kG ?_
 refine atY (auo he hd h1 ?_)
 refine wpAny_setField eT dT ((Array.getElem?_eq_some_iff.mp h3).1) (h _ (u.upd bT) (aev eT dT hl)
  ⟨oe,vs,(aus _ _ hT).trans he,hc,hd,h2,T,_,_,h1,hT,bT,auA _ eT (Obj.isFreed_of_fields (Obj.data_mapFields dT _)),Obj.data_mapFields dT _,by simp [((Array.getElem?_eq_some_iff.mp h3).1)]⟩)
end
structure RX (F:List Addr) (s s':Shared):Prop where
 x:ExtX (·∈F) s s'
 sl:∀ b o,b∉aa7->s.heap.get? b=some o->∃ sl,s'.heap.get? b=some { o with slots:=sl }
theorem TabInv.fields{h:Heap}(x:TabInv h) {b:Addr}{o:Obj}(hb:b∈aa7) (e:h.get? b=some o):∃ vs,o.data=.fields vs:=by
 obtain ⟨q,hq,rfl⟩:=ac6 b hb
 obtain ⟨_,ps,hp,_⟩:=x q hq
 cases soi (hp.symm.trans e)
 exact ⟨_,rfl⟩
section
variable{F:List Addr}{l:List Env}
theorem Ext.rx (x:Ext s s'):RX F s s':=⟨x.toX,λb o n e=>⟨o.slots,x.keep b o n id e⟩⟩
theorem RX.trans (a:RX F s s') (b:RX F s' s''):RX F s s'':=⟨a.x.trans b.x,λc o n e=>(a.sl c o n e).elim λ_ q=>(b.sl c _ n q).elim λsl q'=>⟨sl,q'⟩⟩
theorem Ups.rx{h':Heap}{tk:Nat}(u:Ups F s.heap h') (hd:∀ b∈F,∀ o vs,s.heap.get? b=some o->o.data≠.fields vs):RX F s { s with heap:=h',toks:=tk }:=
 ⟨⟨λb o _ n e=>u.keep b o n e,λb o _ n e=>u.keep b o n e,λb _ e=>by
   cases q:s.heap.get? b with
   | none=>rfl
   | some o=>obtain ⟨_,z⟩:=u.slot b o q;exact nos (e.symm.trans z),λi=>i.keepF λb o vs d e=>u.keep b o (λz=>hd b z o vs e d) e,rfl,id⟩,λb o _ e=>u.slot b o e⟩
theorem and{b0:Heap}(t:TabInv s.heap) (x:RX F s s') (hl:s.heap.FunFrames b0 l):s'.heap.FunFrames b0 l:=
 hl.of_keeps λb o e n=>(x.sl b o (λz=>(t.fields z e).elim λvs d=>n vs d) e).elim λ_ q=>⟨_,q,rfl⟩
theorem ade{b0:Heap}(t:TabInv s.heap) (x:Ext s s') (hl:s.heap.FunFrames b0 l):s'.heap.FunFrames b0 l:=and (F:=[]) t x.rx hl
theorem Ups.drop{B h:Heap}{L:Addr}(u:Ups (L ::F) B h) (n:B.get? L=none):Ups F B h:=
 ⟨λb o nb e=>u.keep b o (λz=>(List.mem_cons.mp z).elim (λz=>by rw [z] at e;exact nos (n.symm.trans e)) nb) e,u.slot⟩
theorem agx{b0 h:Heap}(hl:h.FunFrames b0 l):∀ b∈l.filterMap (·.frame),∀ o vs,h.get? b=some o->o.data≠.fields vs:=λb hb o vs e=>by
 obtain ⟨_,o',e',n⟩:=hl.mem hb
 cases soi (e.symm.trans e')
 exact n vs
end
theorem ab5{l:List Env}{env:Env}{L:Addr}(hf:env.frame=some L):(env ::l).filterMap (·.frame)=L ::l.filterMap (·.frame):=by
 rw [List.filterMap_cons,hf]
section
theorem afP{l:List Env}(c:SSt γ it r A X P a9 a6 env sc fz V ad s ρ ω) (hf:env.frame=some env.locals) (hl:s.heap.FunFrames ah1 l):s.heap.FunFrames ah1 (env ::l):=by
 obtain ⟨_,o,es,ep,e,d,_⟩:=c.slots.loc
 refine ⟨λz=>?_,⟨env.locals,o,hf,rfl,e,λvs z=>?_⟩,hl⟩
 . replace z:=c.slots.kind▸z;cases z
 . replace z:=d▸z;cases z
theorem ane (st:Stat γ) {l:List Env}{a:Int}{vs:List Value}(aok:AOK true 2 A s.heap) (wd:Wd γ s.heap) (rs:RepL V s.heap vs [.int a,.int 0]) (hfr:A.frames=some l) (hl:s.heap.FunFrames ah1 l) {Q:Value->Shared->Prop}{E:Value->Shared->Prop}
  (hE:∀ e a8 h',Ext s a8->Ups (l.filterMap (·.frame)) a8.heap h'->h'.FunFrames ah1 l->Exc a8.heap h' e "ZeroDivisionError" .none->a8.heap.get? e=none->E (.ref e) { a8 with heap:=h' }):wpAny (model pg γ.w) A (call (.ref 98) vs) Q E s:=by
 refine auX (adS (r:=1) (st.fn ("int_divmod",98,11) (by decide)).2 (by rfl) wd aok rs rfl λenv a8 X V' hf k c=>?_)
 refine aui (wpAny_If (at1 (aaU (K:=λb=>b=true) (aal (aas (γ:=γ) (it:=true) (r:=1) st FsOK.nil MsOK.nil) 20) 20 ?_ c.shown) (λx aa hZ9=>hZ9.elim λhk am=>?_) aah))
 . rfl
 clear hZ9
 subst hk
 have ah:=c.run k am
 have new:s.heap.get? env.locals=none:=k.Xf _ c.slots.loc.1
 have hfr':(A.deeper env).frames=some (env ::l):=by show A.frames.map _=_;refine hfr▸?_;rfl
 have bI:=afP ah hf (ade wd.tabs ah.ext hl)
 refine aui (Raise_classB (X:="ZeroDivisionError") (k.aok.free rfl) excClass_ZeroDivisionError excClass_ZeroDivisionError.self ?_ λh' e hn=>?_)
 . exact ag1 ah.cx rfl rfl (abG ah.cx.wd (v:=.type "ZeroDivisionError") (by decide)) ⟨rfl,rfl⟩
 . obtain ⟨ob,t,he,hc,hd⟩:=hn.there
   have ne:(acl aa env.locals).heap.get? e=none:=by
    cases q:(acl aa env.locals).heap.get? e with
    | none=>rfl
    | some o=>exact nos (hn.new.symm.trans (of_hideAll _ q))
   refine atY (akL (F:=env.locals ::l.filterMap (·.frame)) (B:=(acl aa env.locals).heap) (s:={ aa with heap:=h' }) hfr' (λb hb=>by rwa [ab5 hf] at hb) (bI.of_keeps λb o e _=>⟨o,hn.keeps b o e,rfl⟩) hf he hc hd rfl rfl ne
    ⟨λb o _ e=>hn.keeps b o (of_hideAll _ e),λb o e=>⟨o.slots,hn.keeps b o (of_hideAll _ e)⟩⟩ λaB dO bV aL=>land (F:=env.locals ::l.filterMap (·.frame)) (s:={ aa with heap:=aB }) aL dO bV λaO dP bY cn=>?_)
   have cu:=bY.2.2
   refine hE e (acl aa env.locals) aO (ajz ah.ext new λo vs e z=>?_) (dP.drop (hideAll_none _ (.head _))) cu cn ne
   exact agx bI env.locals (by rw [ab5 hf];exact .head _) o vs e z
end
noncomputable abbrev abb (i j:Nat):Stmt:=(abE (aaa i)).getD j aeQ
noncomputable def tryB (s:Stmt):List Stmt:=stB s
noncomputable def tryH (s:Stmt):List Stmt:=stO s
noncomputable def retE (s:Stmt):Expr:=stE s
noncomputable def callA (s:Stmt):List Expr:=exK (stE s)
noncomputable abbrev SgR:Sg:=aeL [("int_divmod",aop)] []
noncomputable abbrev rsc:aad:=(aaD (aaa 27)).names
theorem aoX{a b:Int}:(T.tup [.int a,.int b]).py.eqv (T.tup [.int a,.int b]).py=true:=ab3 [a,b]
structure RestV (W v:V4) (x:V4) (one two:Int):Prop where
 o:one.natAbs=W.bag v
 t:two.natAbs=W.bag x
theorem RestV.sz{W v x:V4}{one two:Int}(g:Good W) (hv:v.deg<=4) (hx:x.deg<=4) (h:RestV W v x one two):one.natAbs<2^257/\two.natAbs<2^257/\two≠0:=by
 have b1:=abj g hv
 have b2:=abj g hx
 have p:=adC g x
 rw [<- h.o] at b1
 rw [<- h.t] at b2 p
 exact ⟨b1,b2,λz=>by rw [z] at p;exact auH _ p⟩
theorem akM{W v:V4}{S:List V4}{turn:Nat}(g:Good W) (hv:v.deg<=4) (hS:SidesOK S) (ht:turn<=100000000) {N:Out->Prop}(hN:∀ one two,RestV W v (S.getD (turn%6) .nil) one two->N (.nx [("two",.int two),("one",.int one),("turn",.int turn),("sides",.lst (S.map (aat W))),("bag",aat W v)] [])) :
  blF true (aam SgR true 21) 20 rsc (λ_=>false) afY 10 [] [abb 27 0] [("turn",.int turn),("sides",.lst (S.map (aat W))),("bag",aat W v)] [] N:=by
 have i1:adh (S.map (aat W)) ((turn:Int).fmod 6)=some (aat W (S.getD (turn%6) .nil)):=by
  refine (show (turn:Int).fmod 6=((turn%6:Nat):Int) from abg turn 6)▸?_
  exact acv (ag9 (hS.len.symm▸(auK _ ((auh _)):turn%6<6)))
 have k1:apn ((turn:Int).fmod 6)=true:=by
  rw [show (turn:Int).fmod 6=((turn%6:Nat):Int) from abg turn 6]
  exact aaV (by lia) (ace (aug (auK turn (by decide))) (by decide))
 generalize S.map (aat W)=SS at *
 refine aa2 ack ?_
 (try conv=>whnf)
 obtain ⟨o1,ho1⟩:∃ o,o=1-(turn:Int).fmod 2*2:=⟨_,rfl⟩
 refine ho1▸?_
 refine aa2 (aaB (abj g hv) (by decide)) (aa2 (akx (ho1▸agq _)) ?_)
 refine gdi k1 (abK i1 ?_)
 refine aa2 ack ?_
 (try conv=>whnf)
 obtain ⟨o2,ho2⟩:∃ o,o=1-((turn:Int).fdiv 2).fmod 2*2:=⟨_,rfl⟩
 refine ho2▸?_
 refine aa2 (aaB (abj g (hS.hom _ (auK _ ((auh _)):turn%6<6)).2.2) (by decide)) (aa2 (akx (ho2▸agq _)) ?_)
 exact hN _ _ ⟨afF (ho1▸agq _),afF (ho2▸agq _)⟩
section
variable{F:List Addr}{L:Addr}
theorem RX.drop (x:RX (L ::F) s s') (n:s.heap.get? L=none):RX F s s':=
 ⟨⟨λb o nt nb e=>x.x.keep b o nt ((λnb e z=>(List.mem_cons.mp z).elim (λz=>by rw [z] at e;exact nos (n.symm.trans e)) nb) nb e) e,λb o nc nb e=>x.x.keepC b o nc ((λnb e z=>(List.mem_cons.mp z).elim (λz=>by rw [z] at e;exact nos (n.symm.trans e)) nb) nb e) e,λb nb e=>by
   by_cases z:b=L
   . rw [z];exact n
   . exact x.x.there b (λq=>(List.mem_cons.mp q).elim z nb) e,x.x.tab,x.x.os,x.x.gens⟩,x.sl⟩
theorem Sees.rx{x:Str}{v:Value}(t:TabInv s.heap) (hx:RX F s s') (hL:env.locals∉aa7) (h:Sees s.heap env x v):Sees s'.heap env x v:=by
 refine (h).elim ?_ ?_
 . rintro ⟨hl,m,⟨o,es,ep,ho,hd,q⟩,hm⟩
   obtain ⟨sl,e⟩:=hx.sl _ o hL ho
   exact .inl ⟨hl,m,⟨_,es,ep,e,hd,q⟩,hm⟩
 . rintro ⟨hl,c,o,hc,ho,hcl,hd⟩
   obtain ⟨sl,e⟩:=hx.sl _ o (t.off ho (by refine hcl▸?_;exact nty)) ho
   exact .inr ⟨hl,c,_,hc,e,hcl,hd⟩
end
section
theorem aoY{W v x:V4}{one two:Int}(g:Good W) (hv:v.deg<=4) (hx:x.deg<=4) (h:RestV W v x one two):aam SgR false 21 rsc (retE ((tryH (abb 27 1)).getD 0 aeQ)) [("two",.int two),("one",.int one)] (λt=>t=.bool true):=by
 have hX:=h.sz g hv hx
 have h1:=hX.1
 have h2:=hX.2.1
 have h3:=hX.2.2
 have big:(2:Nat)^257<2^598:=auE (by decide) (by decide)
 have big2:(2:Nat)^257<2^600:=auE (by decide) (by decide)
 refine ⟨_,_,rfl,h3,aur h1 big,aur h2 big2,?_⟩
 refine gdi (by simpa using h3) (aa2 (aur h2 (auE (by decide) (by decide))) ?_)
 refine gdi (by simpa using h3) ?_
 exact congrArg T.bool aoX
theorem OldOff.cons{a:Addr}{F:List Addr}{h h':Heap}{K:Frag}(x:OldOff (·=a) h K) (y:OldOff (·∈F) h' K) {H:Heap}:OldOff (·∈a ::F) H K:=
 ⟨λc o q z=>(List.mem_cons.mp z).elim (x.1 c o q) (y.1 c o q),λz=>(List.mem_cons.mp z).elim x.2.1 y.2.1,λz=>(List.mem_cons.mp z).elim x.2.2.1 y.2.2.1,λz=>(List.mem_cons.mp z).elim x.2.2.2 y.2.2.2⟩
theorem aoZ{x y z:Str}{a b t:T}(h:([(x,a),(y,b)]:aab).lookup z=some t):(z=x/\t=a)\/(z=y/\t=b):=by
 rw [lookup_cons,lookup_cons] at h
 by_cases q:(z==x)=true
 . rw [if_pos q] at h;exact .inl ⟨eq_of_beq q,(soi h).symm⟩
 . rw [if_neg q] at h
   by_cases q':(z==y)=true
   . rw [if_pos q'] at h;exact .inr ⟨eq_of_beq q',(soi h).symm⟩
   . rw [if_neg q'] at h;exact nos h
theorem atO{it:Bool}{r:Nat}{A:Around}{V:aag}{ai ao:Shared}{aC:Heap}{env:Env}{sc:aad}{ρ af:aab}{F:List Addr}{e:Addr}{n:String}(c:Cx γ it r A V ai env sc ρ) (ay:Ext ai ao) (R:RX F ao { ao with heap:=aC }) (hO:OldOff (·∈F) ao.heap γ.KF)
  (be:Exc ao.heap aC e n .none) (bh:∀ x t,af.lookup x=some t->∃ i,t=.int i/\ρ.lookup x=some (.int i)):Cx γ false r (A.mark (some (.ref e))) (λ_=>False) { ao with heap:=aC } env sc af:=by
 have c8:=c.wd.ext ay
 obtain ⟨⟨oe,xs,q1,q2,q3,q4,_⟩⟩:=be
 refine ⟨⟨.inr ⟨e,oe,xs,rfl,q1,by rw [q2];exact nty,q3,q4⟩,λz=>ff z,c.aok.depth,c.aok.units⟩,c8.extX R.x hO,c.envS,c.loc,λx t hx=>?_,λx cc hc h=>?_⟩
 . obtain ⟨i,q,hy⟩:=bh x t hx
   obtain ⟨u,h1,h2⟩:=c.vars _ _ hy
   subst q
   exact ⟨u,(h1.ext c.wd.tabs ay c.loc).rx c8.tabs R c.loc,let ⟨tk,z⟩:=aa8 h2;z▸.int _ tk⟩
 . obtain ⟨o,e1,e2⟩:=c.live x cc hc h
   have e3:=ay.keepC _ _ (by refine e2▸?_;exact nty) id e1
   obtain ⟨sl,e4⟩:=R.sl _ o (c8.tabs.off e3 (by refine e2▸?_;exact nty)) e3
   exact ⟨_,e4,e2⟩
theorem arO (st:Stat γ) {W v:V4}{S:List V4}{turn:Nat}{l:List Env}{vs:List Value}(g:Good W) (hv:v.deg<=4) (hS:SidesOK S) (ht:turn<=100000000) (aok:AOK true 19 A s.heap) (wd:Wd γ s.heap)
  (rs:RepL V s.heap vs [aat W v,.lst (S.map (aat W)),.int turn]) (hfr:A.frames=some l) (hl:s.heap.FunFrames ah1 l) (hO:OldOff (·∈l.filterMap (·.frame)) s.heap γ.KF) :
  wpAny (model pg γ.w) A (call (.ref 170) vs) (λv s'=>v=.bool true/\RX (l.filterMap (·.frame)) s s') No s:=by
 refine auX (adS (r:=18) (st.fn ("_law_rest",170,27) (by decide)).2 (by rfl) wd aok rs rfl λenv a8 X V' hf k c=>?_)
 have sgT:∀ it,SgOK γ SgR it 18:=λit=>aas (γ:=γ) (it:=it) (r:=18) st (FsOK.fn (x:="int_divmod") (i:=11) st (by decide) ((amg st).le (by decide)) FsOK.nil) MsOK.nil
 refine at1 (Q:=λf s'=>f=.ret (.bool true)/\RX (l.filterMap (·.frame)) s s') ?_ (λf s' h=>h.1▸⟨rfl,h.2⟩) aah
 refine (show abE (aaa 27)=[abb 27 0]++[abb 27 1,abb 27 2] from rfl)▸?_
 refine acb (n:=20) (n':=20) (ow:=λ_=>false) (sgT true) k HkOK.none 10 _ ?_ c Stp.refl
 refine akM g hv hS ht λone two hR aa aw aE ah av=>?_
 have hx:=(hS.hom _ (auK turn (by decide:0<6))).2.2
 have new:s.heap.get? env.locals=none:=k.Xf _ c.slots.loc.1
 have bI:=afP ah hf (ade wd.tabs ah.ext hl)
 have hfr':(A.deeper env).frames=some (env ::l):=by show A.frames.map _=_;refine hfr▸?_;rfl
 have hs:=aal (sgT true) 20
 change wpAny _ _ (execs (Stmt.Try [Stmt.Expr (Expr.Call (Expr.Name _ _) (callA ((tryB (abb 27 1)).getD 0 aeQ)) [] _) _] [.ExceptHandler (some (Expr.Name _ _)) none ((tryH (abb 27 1)).getD 0 aeQ ::[]) _] [] [] _ ::_) env) _ _ _
 refine aui (wpAny_Try_except (aui (wpAny_Expr_any (aaH ah.cx rfl rfl (.inl (st.fn ("int_divmod",98,11) (by decide)).1) (aem (st.fn ("int_divmod",98,11) (by decide)).2) (aca rfl rfl) (at1 (aaX hs (aca rfl rfl) (K:=λts=>ts=[.int one,.int 0]) ?_ ah.shown) (λvs ai z=>z.elim λts ht an rl=>⟨an,?_⟩) aah)) (by unfold interactive;refine ah.slots.kind▸?_;rfl) rfl)))
 . (try conv=>whnf)
 rw [ht] at rl
 have aj:=ah.run k an
 have bF:=ade ah.cx.wd.tabs an bI
 refine ane st (aj.cx.aok.le (by decide)) aj.cx.wd rl hfr' bF λe ao ax ay d7 cu bZ ne=>?_
 have dA:=ade aj.cx.wd.tabs ay bF
 have x04:Ext s ao:=aj.ext.trans ay
 rw [ab5 hf] at d7
 refine anc (F:=env.locals ::l.filterMap (·.frame)) (B:=ao.heap) (s:={ ao with heap:=ax }) hfr' (λb hb=>by rwa [ab5 hf] at hb) cu hf bZ ne d7 λb6 dQ bA dR=>?_
 refine land (s:={ ao with heap:=b6 }) dR dQ bA λaC bt dS be=>?_
 have rx:∀ aC,Ups (env.locals ::l.filterMap (·.frame)) ao.heap aC->RX (env.locals ::l.filterMap (·.frame)) ao { ao with heap:=aC }:=λaC bt=>bt.rx (tk:=ao.toks) λb hb o vs e=>agx dA b (by rw [ab5 hf];exact hb) o vs e
 have cx:∀ aC,Ups (env.locals ::l.filterMap (·.frame)) ao.heap aC->Exc ao.heap aC e "ZeroDivisionError" .none->Cx γ false 18 ((A.deeper env).mark (some (.ref e))) (λ_=>False) { ao with heap:=aC } env rsc [("two",.int two),("one",.int one)]:=
  λaC bt be=>atO aj.cx ay (rx aC bt) ((OldOff.fresh (h:=s.heap) wd (X:=(·=env.locals)) λb q=>q▸new).cons hO) be λx t hx=>(aoZ hx).elim (λh=>⟨_,h.2,by rw [h.1];rfl⟩) λh=>⟨_,h.2,by rw [h.1];rfl⟩
 refine wpAny_handleBy_builtin (X:="ZeroDivisionError") (T:="ZeroDivisionError") (b:=true) PySem.F.isExc_ZeroDivisionError PySem.F.notTuple_ZeroDivisionError excClass_ZeroDivisionError.self ?_
 refine ag1 (cx aC bt be) rfl rfl (abG (cx aC bt be).wd (v:=.type "ZeroDivisionError") (by decide)) ⟨rfl,?_,?_⟩
 . obtain ⟨⟨oe,xs,q1,q2,_⟩⟩:=be
   exact ⟨oe,q1,q2⟩
 refine land (s:={ ao with heap:=aC }) be bt dS λbN d8 ey co=>?_
 change wpAny _ _ (execs (Stmt.Return (some (retE ((tryH (abb 27 1)).getD 0 aeQ))) _ ::[]) env) _ _ _
 refine aui (wpAny_Return_some (aaj (aal (sgT false) 21 _ _ _ _ (aoY g hv hx hR) _ _ _ _ (cx bN d8 co)) λu d3 t ht cq ru=>?_))
 exact acp (ht▸ru) λe=>e▸⟨rfl,((Ext.rx x04).trans ((rx bN d8).trans (Ext.rx cq))).drop new⟩
end
set_option backward.match.sparseCases false
noncomputable abbrev wsc:aad:=(aaD (aaa 29)).names
noncomputable abbrev SgW:Sg:=aeL [("ISTERMINAL",ajx),("ISNONTERMINAL",afr),("ISEOF",aqQ),("sum",aml),("_law_bag",aqR),("_law_keys",apC),("_law_sides",alZ),("TupleComp",F_tc),("_law_complete",amo),("_law_told",apM),("_law_least",anb),("_law_kept",apQ)] []
noncomputable abbrev evW:EvF:=aam SgW true 21
noncomputable abbrev akN:Stmt:=abb 29 15
noncomputable def ifB1 (st:Stmt):List Stmt:=ifB st
noncomputable abbrev lwIn (i:Nat):Stmt:=(ifB ((agV akN).getD 1 aeQ)).getD i aeQ
noncomputable abbrev ac3:Stmt:=lwIn 0
noncomputable abbrev adt:Stmt:=lwIn 3
noncomputable def ad8 (e:Expr):List Expr:=exK e
noncomputable def tgtS (s:Stmt):List Expr:=exK (stT s)
noncomputable def anB (i:Nat) (e:Expr):Expr:=match exK e with
 | [x]=>exI i x
 | l=>l.getD i e
section
variable{F:List Addr}
theorem SSt.release (c:SSt γ it r A X P a9 a6 env sc fz V ad s ρ ω) {x:Str}{t:T}(hx:ω.lookup x=some t):SSt γ it r A X P a9 a6 env sc fz (λb=>V b\/b=ad x) ad s ((x,t) ::ρ) (er x ω):=by
 obtain ⟨h1,h2,h3,h4,h5,h6⟩:=c.own x t hx
 have ne:∀ {y:Str}{u:T},(er x ω).lookup y=some u->y≠x/\ω.lookup y=some u:=λ{y u} h=>by
  replace h:=aak▸h
  split at h
  . exact nos h
  . exact ⟨by assumption,h⟩
 exact { c with
  cx:=⟨c.cx.aok,c.cx.wd,c.cx.envS,c.cx.loc,λy u hy=>by
   replace hy:=lookup_cons▸hy
   split at hy
   . rename_i q
     obtain rfl:=soi hy;cases eq_of_beq q
     exact ⟨_,h1,h6.rep (λ_ h=>.inl h) (.inr rfl)⟩
   . refine (c.cx.vars y u hy).elim λv hX1=>hX1.elim λa b=>?_
     exact ⟨v,a,b.mono (λ_ h=>.inl h) λ_ _ _ _ e=>e⟩,c.cx.live⟩
  offX:=λb hb z=>z.elim (c.offX b hb) λz=>h3 (z▸hb)
  fr:=λa e=>.inl (c.fr a e)
  own:=λy u hy=>by
   obtain ⟨n,hy⟩:=ne hy
   obtain ⟨g1,g2,g3,g4,g5,g6⟩:=c.own y u hy
   exact ⟨g1,λz=>z.elim g2 λz=>n (c.apart y x u t hy hx z),g3,g4,g5,g6.shift (λ_ h _=>.inl h) (λ_ _ _ _ e=>e) λ_ _ e=>e⟩
  apart:=λy z u u' hy hz=>c.apart y z u u' (ne hy).2 (ne hz).2
  offP:=λb hb=>(c.offP b hb).elim λg1 hX1=>hX1.elim λg2 g3=>⟨λz=>z.elim g1 λz=>h4 (z▸hb),g2,g3⟩
  vw:=λa z=>z.elim (c.vw a) λz=>.inr (z▸h5) }
theorem SSt.rx (k:FrK γ it r A X a9 a6 env sc) (c:SSt γ it r A X P a9 a6 env sc fz V ad s ρ ω) (R:RX F s s') (hF:∀ b∈F,X b):SSt γ it r A X P a9 a6 env sc fz V ad s' ρ ω/\Stp X V ad s ω V ad s' ω:=by
 have zf:∀ b,b∈F->a6.heap.get? b=none:=λb hb=>k.Xf b (hF b hb)
 have nt:∀ b∈F,b∉aa7:=λb hb z=>by
  obtain ⟨q,hq,rfl⟩:=ac6 b z
  refine (k.wd.tabs q hq).tab.elim λ_ hX2=>hX2.elim λe _=>?_
  exact nos ((zf _ hb).symm.trans e)
 have lv:∀ b,s'.heap.get? b=none->s.heap.get? b=none:=λb e=>by
  by_cases hb:b∈F
  . cases q:s.heap.get? b with
    | none=>rfl
    | some o=>obtain ⟨_,z⟩:=R.sl b o (nt b hb) q;exact nos (e.symm.trans z)
  . exact R.x.there b hb e
 have see:∀ {y:Str}{v:Value},Sees s.heap env y v->Sees s'.heap env y v:=λh=>h.rx c.cx.wd.tabs R c.cx.loc
 have off:Off (·∈F) V:=λb hb=>c.offX b (hF b hb)
 refine ⟨{ c with
  cx:=⟨⟨(k.aok.ext (c.ext.then R.x zf)).hand,k.aok.free,k.aok.depth,k.aok.units⟩,c.cx.wd.extX R.x (OldOff.fresh k.wd zf),c.cx.envS,c.cx.loc,λy t h=>(c.cx.vars y t h).elim λv hX1=>hX1.elim λa b=>⟨v,see a,b.extX R.x off⟩,λy cc h1 h2=>by
   refine (c.cx.live y cc h1 h2).elim λo hX1=>hX1.elim λe q=>?_
   obtain ⟨sl,e'⟩:=R.sl _ o (c.cx.wd.tabs.off e (by rw [q];exact nty)) e
   exact ⟨_,e',q⟩⟩
  slots:=⟨c.slots.kind,⟨c.slots.loc.1,let ⟨o,es,ep,e,d,q⟩:=c.slots.loc.2;(R.sl _ o c.cx.loc e).elim λsl e'=>⟨_,es,ep,e',d,q⟩⟩,λy hy=>by
   obtain ⟨a,cc,o,v,h1,h2,h3,h4,h5,h6⟩:=c.slots.cell y hy
   obtain ⟨sl,e'⟩:=R.sl _ o (c.cx.wd.tabs.off h4 (by rw [h5];exact nty)) h4
   exact ⟨a,cc,_,v,h1,h2,h3,e',h5,h6⟩,c.slots.apart,c.slots.other,c.slots.local_⟩
  fr:=λa e=>c.fr a (lv a e)
  own:=λy t h=>let ⟨h1,h2,h3,h4,h5,h6⟩:=c.own y t h
   ⟨see h1,h2,h3,h4,h5,h6.shift (λ_ h _=>h) (λb o n hb e=>R.x.keepC b o n (λz=>off b z hb) e) λo n e=>R.x.keepC _ o n (λz=>h3 (hF _ z)) e⟩
  offP:=λb hb=>(c.offP b hb).elim λh1 hX1=>hX1.elim λh2 hX2=>hX2.elim λo h3=>⟨h1,h2,by
   cases q:s'.heap.get? b with
   | none=>exact nos ((lv b q).symm.trans h3)
   | some o'=>exact ⟨o',rfl⟩⟩
  frz:=λp hp=>⟨see (c.frz p hp).1,(c.frz p hp).2⟩
  ext:=c.ext.then R.x zf },R.x.mono λb hb=>.inl (hF b hb),lv,λ_ h=>.inl h,λ_ h _=>h,λy t h=>.inl ⟨y,t,h,rfl⟩⟩
inductive FiDn (fz:List Str) (ρ ω:aab) (K:Out->Prop):Prop
 | mk (W v:V4) (rs:List Rl) (pick:Nat) (e1:aci wsc fz (tgtS ac3)=true) (e2:ahe (λe k=>evW wsc e ρ k) (ad8 (adD ac3)) (λts=>ts=[aat W v,.lst (rs.map (aau W)),.int pick])) (e3:DownIn W rs) (e4:v.deg<=4) (e5:pick<=10000000)
  (e6:K (.nx (("end",aat W (aax rs 40 pick v []).1) ::er "used" ρ) (("used",.lst ((aax rs 40 pick v []).2.map (aau W))) ::er "used" (er "end" ω)))):FiDn fz ρ ω K
noncomputable def F_dn:List Str->aab->aab->(Out->Prop)->Prop:=λfz ρ ω K=>FiDn fz ρ ω K
theorem st_dn (st:Stat γ) (sg:SgOK γ SgW true 20) (k:FrK γ true 20 A X a9 a6 env wsc) (h:F_dn (fz.map (·.1)) ρ ω K) (c:SSt γ true 20 A X P a9 a6 env wsc fz V ad s ρ ω) :
  aaZ γ true 20 A X P a9 a6 env wsc fz K V ad s ω ac3:=by
 obtain ⟨W,v,rs,pick,cs,he,di,hv,hp,hK⟩:=h
 show wpAny _ _ (exec (.Assign [.Tuple (tgtS ac3) _ _] (adD ac3) _) env) _ _ _
 refine afo k cs rfl ?_
 show wpAny _ _ (eval (.Call (.Name "_law_down" _) (ad8 (adD ac3)) [] _) env) _ _ _
 refine aaH c.cx rfl rfl (.inl (st.fn ("_law_down",143,22) (by decide)).1) (aem (st.fn ("_law_down",143,22) (by decide)).2) rfl (at1 (aaX (aal sg 21) rfl he c.cx) (λvs a8 hq=>hq.elim λts ht ae rl=>⟨ae,?_⟩) aah)
 rw [ht] at rl
 have al:=c.run k ae
 refine at1 (ajC st di hv hp (al.cx.aok.le (by exact at2 rfl)) al.cx.wd rl) (λu aa z=>EvOR.rec (λam p a tk e ht hp0 ha ho=>?_) z) aah
 rw [e]
 refine (ho.obj).elim λoa hX1=>hX1.elim λea _=>?_
 have ah:=al.shrink k am (N:=(·=a)) (λb hb=>hb▸ha) (λb hb=>hb▸⟨oa,ea⟩)
 have cJ:=ae.trans am
 have hl:∀ a b:Value,(tgtS ac3).length=(#[a,b]:Array Value).size:=λa b=>rfl
 rw [hl (.int ((W.bag (aax rs 40 pick v []).1:Nat):Int) tk) (.ref a)]
 refine aaG ah.cx.aok.hand ht λaB up=>?_
 have an:Ext aa { aa with heap:=aB }:=Ext.of (tk:=aa.toks) up
 have bQ:=cJ.trans an
 have nX:¬ X a:=λz=>by
  obtain ⟨o,e⟩:=aaM al.slots k.isX _ z
  exact nos (ha.symm.trans e)
 refine ⟨_,ad,ρ,ω,[("end",false,aat W (aax rs 40 pick v []).1),("used",true,.lst ((aax rs 40 pick v []).2.map (aau W)))],[a],rfl,List.nodup_cons.mpr ⟨List.not_mem_nil,List.nodup_nil⟩,λb hb y t hy z=>?_,hK,?_,ah.run k an,⟨Ext.toX bQ,λb e=>bQ.there b id e,λb hb=>.inl hb.1,λb hb hq=>hq.elim λo e=>⟨hb,λz=>nos ((ae.there b id (z▸ha)).symm.trans e)⟩,λy t h=>.inl ⟨y,t,h,rfl⟩⟩⟩
 . refine ((al.own y t hy).own.obj (s:=a8)).elim λo hX1=>hX1.elim λe _=>?_
   rw [z,List.mem_singleton.mp hb] at e
   exact nos (ha.symm.trans e)
 . refine .plain (.int _ tk) (.owned (ho.shift (s:=aa) (s':={ aa with heap:=aB }) (λb hb _=>⟨?_,hb.2⟩) (λb o n _ e=>an.keepC b o n id e) λo n e=>an.keepC _ o n id e) (λz=>z.2 rfl) nX (λz=>?_) (al.ext.there a id ha) (ae.there a id ha) .nil)
   . rcases hb.1 with (z | z) | z
     . exact z
     . exact c.fr b z
     . exact c.fr b (ae.there b id z)
   . refine (al.offP a z).elim λ_ hX1=>hX1.elim λ_ hX2=>hX2.elim λo e=>?_
     exact nos (ha.symm.trans e)
noncomputable def F_kr:List Str->aab->aab->(Out->Prop)->Prop:=λ_ ρ ω K=>abq (λe k=>evW wsc e (ω++ρ) k) 20 (anB 0 (ifT adt)) (λb=>b=true->
  abq (λe k=>evW wsc e (ω++ρ) k) 20 (anB 0 (anB 1 (ifT adt))) (·=true)/\∃ (W v:V4) (S:List V4) (turn:Nat),ahe (λe k=>evW wsc e (ω++ρ) k) (ad8 (anB 1 (anB 1 (ifT adt)))) (λts=>ts=[aat W v,.lst (S.map (aat W)),.int turn])/\Good W/\v.deg<=4/\SidesOK S/\turn<=100000000)/\K (.nx ρ ω)
theorem st_kr (st:Stat γ) (sg:SgOK γ SgW true 20) (k:FrK γ true 20 A X a9 a6 env wsc) (hf:env.frame=some env.locals) (hA:A.frames=some [env]) (h:F_kr (fz.map (·.1)) ρ ω K) (c:SSt γ true 20 A X P a9 a6 env wsc fz V ad s ρ ω) :
  aaZ γ true 20 A X P a9 a6 env wsc fz K V ad s ω adt:=by
 refine (h).elim λh1 hK=>?_
 have hs:=aal sg 21
 have go:∀ {b:Bool}{s':Shared},b=false->RX [env.locals] s s'->(if b=true then wpAny (model pg γ.w) A (execs (ifB adt) env) (PostS γ true 20 A X P a9 a6 env wsc fz K V ad s ω) No s' else wpAny (model pg γ.w) A (execs [] env) (PostS γ true 20 A X P a9 a6 env wsc fz K V ad s ω) No s'):=λhb R=>by
  subst hb
  refine ag λG kG=>?_
  obtain ⟨c',a⟩:=c.rx k R λb hb=>List.mem_singleton.mp hb▸c.slots.loc.1
  refine kG ?_
  exact au0 ⟨_,hK,V,ad,c',a⟩
 show wpAny _ _ (exec (.If (.BoolOp .And [anB 0 (ifT adt),.UnaryOp .Not (.BoolOp .And [anB 0 (anB 1 (ifT adt)),.Call (.Name "_law_rest" _) (ad8 (anB 1 (anB 1 (ifT adt)))) [] _] _) _] _) (ifB adt) [] _) env) _ _ _
 refine wpAny_If (isTrue_and (at1 (aaU hs 20 h1 c.shown) (λb a8 hq=>hq.elim λhb ae=>?_) aah))
 cases b with
 | false=>exact go rfl (Ext.rx ae)
 | true=>
  refine ag λG kG=>?_
  obtain ⟨h2,W,v,S,turn,h3,g,hv,hS,ht⟩:=hb rfl
  refine kG ?_
  refine isTrue_and (isTrue_not (isTrue_and (at1 (aaU hs 20 h2 (c.run k ae).shown) (λb aa hq=>hq.elim λhb am=>?_) aah)))
  obtain rfl:=hb.symm
  have ah:=(c.run k ae).run k am
  refine isTrue_and (isTrue_plain (aaH ah.shown rfl rfl (.inl (st.fn ("_law_rest",170,27) (by decide)).1) (aem (st.fn ("_law_rest",170,27) (by decide)).2) rfl (at1 (aaX hs rfl h3 ah.shown) (λvs ai hq=>hq.elim λts ht' an rl=>⟨an,?_⟩) aah)) rfl)
  rw [ht'] at rl
  have aj:=ah.run k an
  have nf:∀ b,b∈[env].filterMap (·.frame)->a6.heap.get? b=none:=λb hb=>by
   rw [ab5 hf] at hb
   exact List.mem_singleton.mp hb▸k.Xf _ c.slots.loc.1
  refine at1 (arO st g hv hS ht (aj.cx.aok.le (by exact at2 rfl)) aj.cx.wd rl hA (afP aj hf trivial) (OldOff.fresh k.wd nf)) (λu ao hq=>hq.elim λe R=>?_) aah
  obtain rfl:=e.symm
  replace R:=(ab5 hf)▸R
  refine wpAny_truthy_bool (isTrue_and_nil ?_)
  exact go rfl ((Ext.rx (ae.trans (am.trans an))).trans R)
end
set_option backward.match.sparseCases true
noncomputable def anf (l:List Int) (lo hi st:Option Int):List Int:=
 (sliceRange (sliceBounds lo hi st l.length).1 (sliceBounds lo hi st l.length).2.1 (sliceBounds lo hi st l.length).2.2).filterMap (l[·]?)
theorem ang{l:List Int}{lo hi st:Option Int}:aeG (l.map .int) lo hi st=(anf l lo hi st).map .int:=by
 unfold aeG anf
 rw [List.length_map,List.map_filterMap]
 exact congrArg (λf=>List.filterMap f _) (funext λi=>List.getElem?_map)
theorem ao0:∀ n<64,∀ p<5,(sliceRange (sliceBounds (some ((p:Nat):Int)) (some 60) (some 5) n).1 (sliceBounds (some ((p:Nat):Int)) (some 60) (some 5) n).2.1 (sliceBounds (some ((p:Nat):Int)) (some 60) (some 5) n).2.2).length<=13:=by decide +kernel
noncomputable def akO (l:List Int) (p:Nat×Nat):Nat:=p.2+(((anf l (some ((p.1:Nat):Int)) (some 60) (some 5)).map λx=>Int.fmod x 1000000).sum).toNat
noncomputable def adG:List (Nat×Nat):=[(0,250),(1,118),(2,223),(3,10),(4,0)]
theorem ah3{l:List Int}(hl:l.length<64) {p:Nat}(hp:p<5):(anf l (some ((p:Nat):Int)) (some 60) (some 5)).length<=13:=
 at0 (List.length_filterMap_le _ _) (ao0 _ hl p hp)
theorem agy:∀ p∈adG,p.1<5:=by decide
theorem akP:∀ p∈adG,p.2<=250:=by decide
theorem anh:∀ l:List Int,0<=(l.map λx=>Int.fmod x 1000000).sum/\(l.map λx=>Int.fmod x 1000000).sum<=l.length*1000000
 | []=>⟨Int.le_refl _,Int.le_refl _⟩
 | x ::l=>by
  obtain ⟨a,b⟩:=anh l
  rw [List.map_cons,List.sum_cons,List.length_cons,Int.natCast_succ,Int.add_mul,Int.add_comm (x.fmod 1000000)]
  exact ⟨Int.add_nonneg a (Int.fmod_nonneg_of_pos _ (by decide)),Int.add_le_add b (Int.le_of_lt (Int.one_mul 1000000▸Int.fmod_lt_of_pos _ (by decide)))⟩
theorem ani{l:List Int}(h:l.length<=13):0<=(l.map λx=>Int.fmod x 1000000).sum/\(l.map λx=>Int.fmod x 1000000).sum<=13000000:=by
 obtain ⟨a,b⟩:=anh l
 exact ⟨a,auy b (auN (Int.ofNat_le.mpr h) (by decide))⟩
theorem ao1{l:List Int}(hl:l.length<64) {K:T->Prop}(hK:K (.lst (adG.map λp=>.int (akO l p:Nat)))):evW wsc (adD (abb 29 0)) [("script",.lst (l.map .int))] K:=by
 obtain ⟨SC,hSC⟩:∃ SC:T,SC=.lst (l.map .int):=⟨_,rfl⟩
 refine ags (n:=20) (g:=⟨_,_,_,_⟩) (λp:Nat×Nat=>.tup [.int p.1,.int p.2]) (λp=>[.int (akO l p:Nat)]) adG rfl (by rfl) (λK' h=>?_) (by exact at2 rfl) (λp hp acc K' ha h=>?_) (by exact hK)
 . exact h
 . refine szi ha ?_
   subst hSC
   refine szi (by rw [List.length_map];lia) ?_
   refine ang▸?_
   have hlen:=ah3 hl (agy p hp)
   obtain ⟨c0,c1⟩:=ani hlen
   refine szi (by rw [List.length_map];lia) ?_
   refine abp T.int (λx=>[T.int (Int.fmod x 1000000)]) (anf l (some ((p.1:Nat):Int)) (some 60) (some 5)) [] _ (by rw [abw,List.length_map,List.length_nil];lia) (λx _ acc K' ha h=>?_) ?_
   . exact szi ha h
   . rw [abw,List.nil_append,show (λx=>T.int (Int.fmod x 1000000))=T.int ∘ λx=>Int.fmod x 1000000 from rfl,<- List.map_map]
     refine abK (acU _) ?_
     rw [akO,Int.natCast_add,Int.toNat_of_nonneg c0] at h
     exact h
theorem ajT{l:List Int}(hl:l.length<64) {p:Nat×Nat}(hp:p∈adG):akO l p<2^24:=by
 refine (ani (ah3 hl (agy p hp))).elim λc0 c1=>?_
 have:=akP p hp
 exact auc (auG this (Int.toNat_le.mpr c1)) (by decide)
noncomputable def owW:Str->Bool:=λx=>x=="row" || x=="used"
noncomputable def anC:HkS:=arB 217 ac3 F_dn (arB 221 adt F_kr afY)
noncomputable abbrev StW (m:Nat) (i:Nat) (ρ ω:aab) (K:Out->Prop):Prop:=stF true evW 20 wsc owW anC (blF true evW 20 wsc owW anC m) [] (abb 29 i) ρ ω K
noncomputable def acy (c:Nat->Nat):T:=.lst [.int (c 0),.int (c 1),.int (c 2),.int (c 3),.int (c 4)]
theorem sw0{m:Nat}{l:List Int}(hl:l.length<64) {K:Out->Prop}(hK:K (.nx [("cells",acy λi=>akO l (adG.getD i (0,0))),("script",.lst (l.map .int))] [])):StW m 0 [("script",.lst (l.map .int))] [] K:=by
 exact abD (v:=adD (abb 29 0)) rfl rfl rfl (by rfl) (by rfl) (ao1 hl hK)
noncomputable def ac4 (two:Bool):T:=.lst ((aby two).map .int)
theorem sw1{m:Nat}{c:Nat->Nat}{sT:T}{K:Out->Prop}(hK:K (.nx [("symbols",ac4 (c 3%2==1)),("cells",acy c),("script",sT)] [])):StW m 1 [("cells",acy c),("script",sT)] [] K:=by
 refine aa2 ack ?_
 (try conv=>whnf)
 have e:254+(c 3:Int).fmod 2*2=if (c 3%2==1)=true then 256 else 254:=by
  refine (show (c 3:Int).fmod 2=((c 3%2:Nat):Int) from abg _ 2)▸?_
  rcases Nat.mod_two_eq_zero_or_one (c 3) with h | h <;> refine h.symm▸?_ <;> rfl
 refine e▸?_
 exact hK
theorem sw2{m:Nat}{two:Bool}{cT sT:T}{K:Out->Prop}(hK:K (.nx [("symbols",ac4 two),("cells",cT),("script",sT)] [])):StW (m+3) 2 [("symbols",ac4 two),("cells",cT),("script",sT)] [] K:=by
 cases two
 all_goals
  (try conv=>whnf)
  exact hK
theorem sw3{m:Nat}{c:Nat->Nat}{yT sT:T}{K:Out->Prop}(hK:K (.nx [("pick",.int (c 4 / 30:Nat)),("w",.int (2+c 4%30:Nat)),("symbols",yT),("cells",acy c),("script",sT)] [("row",.lst [])])):StW m 3 [("symbols",yT),("cells",acy c),("script",sT)] [] K:=by
 rw [<- (by refine (show (c 4:Int).fmod 30=((c 4%30:Nat):Int) from abg _ 30)▸?_;rfl:2+(c 4:Int).fmod 30=((2+c 4%30:Nat):Int)),<- (abf _ 30)] at hK
 exact hK
noncomputable def WV (w:Nat):V4:=⟨2^w-1,2^w,2^w+1,4^w+1⟩
theorem sw4{m w:Nat}(h2:2<=w) (h31:w<=31) {pT yT cT sT rT:T}{K:Out->Prop}(hK:K (.nx [("worths",.lst ((WV w).lst.map .int)),("pick",pT),("w",.int w),("symbols",yT),("cells",cT),("script",sT)] [("row",rT)])):StW m 4 [("pick",pT),("w",.int w),("symbols",yT),("cells",cT),("script",sT)] [("row",rT)] K:=by
 have hu:ajd 10000 (w:Int)=true:=aje (by simp) (acM h31 rfl)
 have e3:((2^w-1:Nat):Int)=((2^w:Nat):Int)-1:=Int.natCast_sub (Nat.one_le_two_pow)
 have hK':K (.nx [("worths",.lst [.int ((2:Int)^(w:Int).toNat-1),.int ((2:Int)^(w:Int).toNat),.int ((2:Int)^(w:Int).toNat+1),.int ((4:Int)^(w:Int).toNat+1)]),("pick",pT),("w",.int w),("symbols",yT),("cells",cT),("script",sT)] [("row",rT)]):=by
  rw [(by rw [Int.toNat_natCast,afv]:(2:Int)^(w:Int).toNat=((2^w:Nat):Int)),(by rfl:(4:Int)^(w:Int).toNat=((4^w:Nat):Int)),<- e3]
  exact hK
 refine gdi hu ?_
 refine gdi hu ?_
 refine gdi hu ?_
 refine gdi hu ?_
 exact hK'
noncomputable def ixF (x:Nat):List Nat:=(List.range (2+x%3*2)).map λp=>x / 3 / 4^p%4
noncomputable def ah4 (two:Bool) (x:Nat):List Int:=(ixF x).map λk=>(aby two).getD k 0
noncomputable abbrev lwB5:List Stmt:=agV (abb 29 5)
theorem arP{two:Bool}{x:Nat}{oT pT wT cT sT:T}{K:T->Prop}(h:K (.lst ((ah4 two x).map .int))):evW wsc (adD (lwB5.getD 0 aeQ)) [("x",.int x),("worths",oT),("pick",pT),("w",wT),("symbols",ac4 two),("cells",cT),("script",sT)] K:=by
 have hn:x%3<3:=auK _ ((auh _))
 refine ags (n:=20) (g:=⟨_,_,_,_⟩) (λp:Nat=>T.int (0+(p:Int))) (λp=>[.int ((aby two).getD (x / 3 / 4^p%4) 0)]) (List.range (2+x%3*2)) rfl (by rfl) (λK' h=>?_) (by rw [abw,List.length_map,List.length_range];exact aaK (at8 adI 2) rfl) (λp hp acc K' ha h=>?_) (by rw [abw];unfold ah4 ixF at h;rw [List.map_map,List.map_map] at h;exact h)
 . have e1:(x:Int).fmod 3=((x%3:Nat):Int):=abg x 3
   refine aa2 (by rw [e1];exact aaB (k:=2) (auv hn) (by exact at2 rfl)) ?_
   (try conv=>whnf)
   refine (by rw [e1];rfl:(2+(x:Int).fmod 3*2)=((2+x%3*2:Nat):Int))▸?_
   refine upi (aue (2+x%3*2)) (acM (at8 adI 2) (by decide)) ?_
   unfold ab8
   exact h
 . have e1:(4:Int)^(0+(p:Int)).toNat=((4^p:Nat):Int):=by rw [Int.zero_add,Int.toNat_natCast,Int.natCast_pow];rfl
   have e3:((x / 3 / 4^p:Nat):Int).fmod 4=((x / 3 / 4^p%4:Nat):Int):=abg _ 4
   have hp6:p<6:=by have:=List.mem_range.mp hp;exact at5 this (at8 adI 2)
   have hz:0<4^p:=Nat.pow_pos (by decide)
   have hk:x / 3 / 4^p%4<4:=auK _ (by decide)
   generalize x / 3 / 4^p%4=k at *
   refine szi ha ?_
   refine upi (by simp) ((Int.zero_add _).symm▸acM (aug hp6) (by decide)) ?_
   rw [e1]
   refine gdi (by rw [bne_iff_ne];exact Int.natCast_ne_zero_iff_pos.mpr hz) (aa2 (aaB (at5 (auE (by exact at2 rfl) hp6) (by decide):4^p<2^12) (by decide)) ?_)
   rw [(by rw [show (x:Int).fdiv 3=((x / 3:Nat):Int) from abf x 3,abf]:((x:Int).fdiv 3).fdiv ((4^p:Nat):Int)=((x / 3 / 4^p:Nat):Int))]
   (try conv=>whnf)
   refine e3▸?_
   exact gdi (aaV (by simp) (ace (aug hk) (by decide))) (abK (agk (l:=aby two) (i:=(k:Int)) (by simp) (Int.ofNat_lt.mpr hk)) h)
noncomputable def acz (two:Bool) (x:Nat):List Int:=(ah4 two x).take (1+x%3)++[0]++(ah4 two x).drop (1+x%3)++[0]
theorem ajU{two:Bool}{x:Nat}:(ah4 two x).length=2+x%3*2:=by
 delta ah4 ixF
 rw [List.length_map,List.length_map,List.length_range]
theorem anj{L:List T}{k:Nat}(h:k<=L.length):aeG L none (some (k:Int)) none=L.take k:=by
 rw [adV]
 have e2:kms_hi (some (k:Int)) L.length=k:=by
  show (if ((k:Nat):Int)<0 then L.length-(-((k:Nat):Int)).toNat else min ((k:Int)).toNat L.length)=k
  rw [if_neg (by simp),Int.toNat_natCast,Nat.min_eq_left h]
 refine (rfl:kms_lo none L.length=0)▸?_;refine e2.symm▸?_
 rfl
theorem ank{L:List T}{k:Nat}(h:k<=L.length):aeG L (some (k:Int)) none none=L.drop k:=by
 rw [adV]
 have e1:kms_lo (some (k:Int)) L.length=k:=by
  show (if ((k:Nat):Int)<0 then L.length-(-((k:Nat):Int)).toNat else min ((k:Int)).toNat L.length)=k
  rw [if_neg (by simp),Int.toNat_natCast,Nat.min_eq_left h]
 refine e1.symm▸?_;refine (rfl:kms_hi none L.length=L.length).symm▸?_
 exact List.take_of_length_le (by refine List.length_drop▸?_;lia)
theorem arQ{m:Nat}{two:Bool}{x:Nat}{R:List Int}(hR:R.length<=60) {oT pT wT cT sT:T}{K:Out->Prop}(h:∀ bT,K (.nx [("both",bT),("x",.int x),("worths",oT),("pick",pT),("w",wT),("symbols",ac4 two),("cells",cT),("script",sT)] [("row",.lst ((R++acz two x).map .int))])) :
  blF true evW 20 wsc owW anC (m+3) [] lwB5 [("x",.int x),("worths",oT),("pick",pT),("w",wT),("symbols",ac4 two),("cells",cT),("script",sT)] [("row",.lst (R.map .int))] K:=by
 refine abD (x:="both") (v:=adD (lwB5.getD 0 aeQ)) rfl rfl rfl (by rfl) (by rfl) (arP ?_)
 have hl:=ajU (two:=two) (x:=x)
 unfold acz at h
 generalize ah4 two x=B at *
 have e1:1+(x:Int).fmod 3=((1+x%3:Nat):Int):=by rw [show (x:Int).fmod 3=((x%3:Nat):Int) from abg x 3];rfl
 have hB8:(B.map T.int).length<=8:=by rw [List.length_map];exact hl▸aaK (at8 adI 2) rfl
 have hB:(B.map T.int).length<=10000:=by lia
 obtain ⟨k,hk⟩:∃ k,k=1+x%3:=⟨_,rfl⟩
 rw [<- hk] at h e1
 have hkB:k<=(B.map T.int).length:=by rw [List.length_map];exact hk▸hl▸auG (by decide) (Nat.le_mul_of_pos_right _ (by decide))
 simp only [List.map_append,List.map_take,List.map_drop] at h
 clear hl hk
 have l1:((B.map T.int).take k).length<=8:=by rw [List.length_take];exact at0 (Nat.min_le_right _ _) hB8
 have l2:((B.map T.int).drop k).length<=8:=by rw [List.length_drop];exact at0 (Nat.sub_le _ _) hB8
 refine szi hB ?_
 rw [e1,anj hkB]
 refine szi (by rw [List.length_cons,List.length_nil];lia) ?_
 refine szi hB ?_
 rw [e1,ank hkB]
 have l3:((B.map T.int).take k++[T.int 0]).length<=9:=by rw [List.length_append];exact auG l1 (auf 1)
 have l4:((B.map T.int).take k++[T.int 0]++(B.map T.int).drop k).length<=17:=by rw [List.length_append];exact auG l3 l2
 have l5:((B.map T.int).take k++[T.int 0]++(B.map T.int).drop k++[T.int 0]).length<=18:=by rw [List.length_append];exact auG l4 (auf 1)
 refine szi (acA l3 l2 rfl) ?_
 refine szi (by rw [List.length_cons,List.length_nil];lia) ?_
 refine szi (by rw [List.length_map];lia) ?_
 exact h _
theorem anl{ev:EvF}{n:Nat}{sc:aad}{ow:Str->Bool}{hk:HkS}{bl:BlF}{fz:List Str}{st:Stmt}{x i:Expr}{b:List Stmt}{p:Pos}{ρ ω:aab}{K:Out->Prop}(e:st=.For x i b [] p) (h0:hk st=none) (hp:aai i=true) (ho:afm i ω=none) (items:List T) (hi:∀ K':List T->Prop,K' items->afc ev sc x i ρ K')
  (h:afX (acF sc fz x) (λρ ω K=>bl fz b ρ ω K) (ρ.map (·.1)) (ω.map (·.1)) items ρ ω K):stF true ev n sc ow hk bl fz st ρ ω K:=by
 unfold stF
 rw [h0,e]
 refine gdi hp ?_
 rw [ho]
 exact hi _ h
noncomputable def akQ (two:Bool) (c:Nat->Nat):List Int:=[c 0,c 1,c 2].foldl (λR x=>R++acz two x) []
theorem ad9{two:Bool}{x:Nat}:(acz two x).length<=8:=by
 have:=ajU (two:=two) (x:=x)
 unfold acz
 rw [List.length_append,List.length_append,List.length_append,List.length_take,List.length_drop,List.length_cons,List.length_nil]
 exact akW (this.symm▸auj (auj (at8 adI 2) 1) 1)
theorem sw5{m:Nat}{two:Bool}{c:Nat->Nat}{oT pT wT sT:T}{K:Out->Prop}(h:K (.nx [("worths",oT),("pick",pT),("w",wT),("symbols",ac4 two),("cells",acy c),("script",sT)] [("row",.lst ((akQ two c).map .int))])) :
  StW (m+3) 5 [("worths",oT),("pick",pT),("w",wT),("symbols",ac4 two),("cells",acy c),("script",sT)] [("row",.lst [])] K:=by
 refine anl (b:=lwB5) rfl rfl rfl rfl ([c 0,c 1,c 2].map λx:Nat=>T.int x) (λK' h=>h) ?_
 refine ad7 (λx:Nat=>T.int x) (λR:List Int=>[("row",.lst (R.map .int))]) (λR x=>R++acz two x) (λxs R=>R.length+8*xs.length<=60) [c 0,c 1,c 2] [] (λx xs R hP=>⟨?_,λK1 K2 hk=>?_⟩) (at2 rfl) h
 . have:=ad9 (two:=two) (x:=x)
   dsimp only [List.length_cons] at hP
   refine List.length_append▸?_
   exact at0 (auj (at8 this _) _) (at0 (aub ((Nat.add_assoc _ _ _).trans (congrArg (_+·) (aut 8 _)))) hP)
 . refine abK (t:=([("x",.int x),("worths",oT),("pick",pT),("w",wT),("symbols",ac4 two),("cells",acy c),("script",sT)],[("row",.lst (R.map .int))])) (by rfl) ?_
   exact arQ (m:=m) (Nat.le_of_add_right_le hP) λbT=>hk
set_option backward.match.sparseCases false
theorem anm{oT pT wT yT cT sT rT:T}{K:T->Prop}(h:K (.lst (ahL.map V4.t))):evW wsc (adD (abb 29 6)) [("row",rT),("worths",oT),("pick",pT),("w",wT),("symbols",yT),("cells",cT),("script",sT)] K:=by
 (try conv=>whnf)
 exact h
theorem akR{W:V4}(g:Good W):((ad0 W).map (·.1)).Nodup:=by
 unfold ad0
 rw [List.map_map,List.nodup_iff_pairwise_ne,List.pairwise_map]
 exact agr.imp λh e=>h (afC g (Int.ofNat.inj e))
theorem atP{S:Sg}{n:Nat}{sc:aad}{k v:Expr}{g:Comprehension}{scope:Scope}{p:Pos}{ρ:aab}{K:T->Prop}{α:Type}(gg:α->T) (f:α->Int×T) (xs:List α) (hk:S.hk (.DictComp k v [g] scope p)=none) (h0:(aho sc scope.names&&adK [g]&&scope.kind==.function)=true)
  (hi:∀ K':List T->Prop,K' (xs.map gg)->afc (aam S true n) sc g.target g.iter ρ K') (hl:xs.length<=10000)
  (hs:∀ x∈xs,∀ (acc:List (Int×T)) (K':List (Int×T)->Prop),acc.length+1<=10000->K' (acc++[f x])->opt (agI g.target (gg x) scope.names (abv scope.names ρ)) λaf=>aex (λe k=>abq (λe k=>aam S true n scope.names e af k) n e k) g.ifs λb=>br b (aik (R:=Int×T) (aam S true n) n scope.names (λaf K'=>aam S true n scope.names k af λa=>aam S true n scope.names v af λb=>match a with
    | .int i=>K' (i,b)
    | _=>False) [] af acc K') (K' acc))
  (hK:K (.dct ((xs.map f).foldl abr []))):aam S true (n+1) sc (.DictComp k v [g] scope p) ρ K:=by
 show adw S true (aam S true n) n sc (.DictComp k v [g] scope p) ρ K
 dsimp only [adw]
 refine hk▸?_
 refine gdi rfl (gdi h0 (hi _ (abp gg (λx=>[f x]) xs [] _ (by rw [abw,List.length_map,List.length_nil,Nat.zero_add];exact hl) hs ?_)))
 rw [abw,List.nil_append]
 exact hK
noncomputable def tupE (i:Nat) (e:Expr):Expr:=exI i e
theorem arR{W:V4}(g:Good W) {rT pT wT yT cT sT:T}{K:T->Prop}(h:K (acY W)):aam SgW true 20 wsc (tupE 0 (adD (abb 29 7))) [("counts",.lst (ahL.map V4.t)),("row",rT),("worths",.lst (W.lst.map .int)),("pick",pT),("w",wT),("symbols",yT),("cells",cT),("script",sT)] K:=by
 refine ag λG kG=>?_
 obtain ⟨CT,hCT⟩:∃ CT:List T,CT=ahL.map V4.t:=⟨_,rfl⟩
 obtain ⟨OT,hOT⟩:∃ OT:List T,OT=W.lst.map .int:=⟨_,rfl⟩
 refine kG ?_
 refine hCT▸?_;refine hOT▸?_
 refine atP (n:=19) (g:=⟨_,_,_,_⟩) V4.t (λv=>(((W.bag v:Nat):Int),v.t)) ahL rfl (by rfl) (λK' h=>?_) (show ahL.length<=10000 from at2 rfl) (λv hv acc K' ha h=>?_) ?_
 . show szl CT.length (K' CT)
   refine hCT▸?_
   exact szi (at2 rfl) h
 . have hd:=aeX.mp hv
   refine szi ha ?_
   rw [hOT]
   refine ⟨W,v,v.t,rfl,.inr rfl,g.a.2,g.b.2,g.c.2,g.d.2,(by exact V4.le_deg hd),?_⟩
   exact h
 . rw [show (ahL.map λv=>(((W.bag v:Nat):Int),v.t))=ad0 W from rfl,acw (ad0 W) [] (akR g)]
   exact h
theorem arS{S:Sg}{it:Bool}{n:Nat}{sc:aad}{a b:Expr}{k:Nat}{p:Pos}{ρ:aab}{K:T->Prop}(hk:S.hk (.Tuple [a,b] k p)=none) (hp:aae [a,b]=true) (h:aam S it n sc a ρ λt=>aam S it n sc b ρ λu=>K (.tup [t,u])):aam S it (n+1) sc (.Tuple [a,b] k p) ρ K:=by
 show adw S it (aam S it n) n sc _ ρ K
 dsimp only [adw]
 refine hk▸?_
 exact gdi hp h
theorem arT{it:Bool}{ev:EvF}{n:Nat}{sc:aad}{ow:Str->Bool}{hk:HkS}{bl:BlF}{fz:List Str}{st:Stmt}{es:List Expr}{v:Expr}{k:Nat}{p pos:Pos}{ρ ω:aab}{K:Out->Prop}(e:st=.Assign [.Tuple es k p] v pos) (h0:hk st=none) (cs:(aci sc fz es&&acE v)=true) (hw:(es.filterMap abX).any ow=false) (hq:ar5 ω v=false)
  (h:ev sc v ρ λt=>match t with
    | .tup l=>aix es l ρ ω K
    | .lst l=>gd (it&&!aih v) (aix es l ρ ω K)
    | _=>False):stF it ev n sc ow hk bl fz st ρ ω K:=by
 unfold stF
 rw [h0,e]
 refine gdi cs ?_
 refine hw▸?_
 show asF it ev sc es v ρ ω K
 unfold asF
 refine hq▸?_
 exact h
theorem sw7{m:Nat}{W:V4}(g:Good W) {c:Nat->Nat}(hc:c 3<2^32) {rT pT wT sT:T}{K:Out->Prop}(h:K (.nx [("keys",adj (acV (c 3) (c 3%2==1))),("rows",acY W),("counts",.lst (ahL.map V4.t)),("row",rT),("worths",.lst (W.lst.map .int)),("pick",pT),("w",wT),("symbols",ac4 (c 3%2==1)),("cells",acy c),("script",sT)] [])) :
  StW m 7 [("counts",.lst (ahL.map V4.t)),("row",rT),("worths",.lst (W.lst.map .int)),("pick",pT),("w",wT),("symbols",ac4 (c 3%2==1)),("cells",acy c),("script",sT)] [] K:=by
 refine arT (v:=adD (abb 29 7)) rfl rfl rfl rfl rfl (arS (a:=tupE 0 (adD (abb 29 7))) (n:=20) rfl rfl (arR g ?_))
 generalize (c 3%2==1)=two at *
 refine ⟨_,_,rfl,by lia,by exact Int.lt_toNat.mp hc,?_⟩
 exact h
set_option backward.match.sparseCases true
theorem agz{a b u v:Nat}(h:a*u=b*v+1):Nat.Coprime a b:=by
 have h1:Nat.gcd a b ∣ a*u:=auW (Nat.gcd_dvd_left a b) (auZ _ _)
 rw [h] at h1
 exact Nat.dvd_one.mp ((Nat.dvd_add_right (auW (Nat.gcd_dvd_right a b) (auZ _ _))).mp h1)
theorem arU{q s t d:Nat}(h1:t=q+1) (h2:t=2*s) (h3:4<=t) (h4:t<2^32) (hd:d=t*t+1):Good ⟨q,t,t+1,d⟩:=by
 have sq:t*t<2^64-1:=by
  have:t*t<=(2^32-1)*(2^32-1):=Nat.mul_le_mul (by omega) (by omega)
  exact auc this (by decide)
 have e1:q*(t+1)+2=d:=by grind
 refine ⟨⟨by show 1<q;omega,by show q<_;omega⟩,⟨by exact Nat.lt_of_add_left_lt h3,by show t<_;omega⟩,⟨by exact au2 h1,by show t+1<_;omega⟩,⟨by show 1<d;omega,by show d<_;omega⟩,?_,?_,?_,?_,?_,?_⟩
 . exact (agz (u:=1) (v:=1) (by show t*1=q*1+1;grind)).symm
 . exact (agz (u:=s) (v:=s+1) (by show (t+1)*s=q*(s+1)+1;rw [h1] at *;grind)).symm
 . exact (agz (u:=s) (v:=s*(t+1)+1) (by show d*s=q*(s*(t+1)+1)+1;subst e1;grind)).symm
 . exact (agz (u:=1) (v:=1) (by show (t+1)*1=t*1+1;lia)).symm
 . exact (agz (u:=1) (v:=t) (by show d*1=t*t+1;grind)).symm
 . exact (agz (u:=1+q*s) (v:=s) (by show (t+1)*(1+q*s)=d*s+1;subst e1;grind))
theorem atQ{w:Nat}(h2:2<=w) (h31:w<=31):Good (WV w):=by
 obtain ⟨k,rfl⟩:∃ k,w=k+1:=⟨w-1,by exact (auz (aun h2)).symm⟩
 exact arU (q:=2^(k+1)-1) (s:=2^k) ((auz (Nat.two_pow_pos _)).symm) (by rw [Nat.pow_succ,Nat.mul_comm]) (auw ((auh _)) h2:(2:Nat)^2<=2^(k+1)) (auE (by simp) (akV h31 rfl)) (by exact (by rw [<- Nat.pow_add,<- Nat.two_mul,Nat.pow_mul]:(4:Nat)^(k+1)=2^(k+1)*2^(k+1))▸rfl)
noncomputable def afQ:Nat->V4
 | 0=>⟨1,0,0,0⟩
 | 1=>⟨0,1,0,0⟩
 | 2=>⟨0,0,1,0⟩
 | _=>⟨0,0,0,1⟩
noncomputable def atR (u:V4) (ks:List Nat):V4:=ks.foldl (λu k=>u.add (afQ k)) u
noncomputable def abQ (x:Nat):Rl:=(atR .nil ((ixF x).take (1+x%3)),atR .nil ((ixF x).drop (1+x%3)))
noncomputable def ap1 (two:Bool) (k:Nat):Int:=(aby two).getD k 0
theorem ajV (k:Nat):(afQ k).deg=1:=by
 match k with
 | 0 | 1 | 2 | _+3=>rfl
theorem ann:∀ (ks:List Nat) (u:V4),(atR u ks).deg=u.deg+ks.length
 | [],_=>rfl
 | k ::ks,u=>by
  show (atR (u.add (afQ k)) ks).deg=_
  rw [ann ks,V4.deg_add,ajV,List.length_cons];lia
theorem ahb{W:V4}:∀ k<4,(W.bag (afQ k):Int)=(W.lst).getD k 0:=by
 have p:∀ n:Nat,n^1=n:=Nat.pow_one
 refine apK (congrArg Int.ofNat ?_) (congrArg Int.ofNat ?_) (congrArg Int.ofNat ?_) (congrArg Int.ofNat ?_)
 . exact (Nat.mul_one _).trans ((Nat.mul_one _).trans ((Nat.mul_one _).trans (p _)))
 . exact (Nat.mul_one _).trans ((Nat.mul_one _).trans ((Nat.one_mul _).trans (p _)))
 . exact (Nat.mul_one _).trans ((congrArg (·*_) (Nat.one_mul 1)).trans ((Nat.one_mul _).trans (p _)))
 . exact ((congrArg (·*_) ((congrArg (·*_) (Nat.one_mul 1)).trans (Nat.one_mul 1))).trans ((Nat.one_mul _).trans (p _)))
theorem afR:∀ two:Bool,∀ k<4,ap1 two k≠0/\ap1 two k∈aby two/\(aby two).idxOf (ap1 two k)=k:=by decide
theorem ano{W:V4}{two:Bool}{k:Nat}(hk:k<4):abs (aby two) W.lst (ap1 two k)=((W.bag (afQ k):Nat):Int):=by
 unfold abs
 refine ((afR two k hk).2.2).symm▸?_;exact (ahb k hk).symm
theorem afS{W:V4}{two:Bool}{rest done:List Int}:∀ (ks:List Nat) (u:V4),(∀ k∈ks,k<4)->act (abs (aby two) W.lst) (ks.map (ap1 two)++0 ::rest) done (W.bag u:Nat)=act (abs (aby two) W.lst) rest (done++[((W.bag (atR u ks):Nat):Int)]) 1
 | [],u,_=>rfl
 | k ::ks,u,h=>by
  rw [List.map_cons,List.cons_append]
  rw [act,if_neg (afR two k (h k (.head _))).1,ano (h k (.head _)),<- Int.natCast_mul,<- acX]
  exact (afS (W:=W) (two:=two) (rest:=rest) (done:=done) ks (u.add (afQ k)) λj hj=>h j (.tail _ hj))
theorem ai5{W:V4}(g:Good W) {two:Bool}{rest:List Int}(hr:ab2 (aby two) (abs (aby two) W.lst) rest 1):∀ (ks:List Nat) (u:V4),(∀ k∈ks,k<4)->u.deg+ks.length<=4->ab2 (aby two) (abs (aby two) W.lst) (ks.map (ap1 two)++0 ::rest) (W.bag u:Nat)
 | [],u,_,_=>hr
 | k ::ks,u,h,hd=>by
  have hk:=h k (.head _)
  have h1:=ajV k
  replace hd:=List.length_cons▸hd
  have hX:=afR two k hk
  have f1:=hX.1
  have f2:=hX.2.1
  rw [List.map_cons,List.cons_append]
  dsimp only [ab2]
  rw [if_neg f1,ano hk]
  refine ⟨f2,aaB (abj g (by lia)) (by decide),aaB (abj g (by lia)) (by decide),?_⟩
  rw [<- Int.natCast_mul,<- acX]
  exact (ai5 g hr ks (u.add (afQ k)) (λj hj=>h j (.tail _ hj)) (by rw [V4.deg_add,h1];lia))
theorem ao2{x:Nat}:∀ k∈ixF x,k<4:=λk hk=>by
 obtain ⟨p,_,rfl⟩:=List.mem_map.mp hk
 exact auK _ ((auh _))
theorem ap2{x:Nat}:(ixF x).length=2+x%3*2:=by
 unfold ixF
 rw [List.length_map,List.length_range]
theorem ajW{two:Bool}{x:Nat}{rest:List Int}:acz two x++rest=((ixF x).take (1+x%3)).map (ap1 two)++0 ::(((ixF x).drop (1+x%3)).map (ap1 two)++0 ::rest):=by
 delta acz ah4
 rw [List.map_take,List.map_drop,List.append_assoc,List.append_assoc,List.append_assoc]
 rfl
theorem ao3{x:Nat}:(abQ x).1.deg=1+x%3/\(abQ x).2.deg=1+x%3:=by
 have h:=ap2 (x:=x)
 refine ⟨?_,?_⟩ <;> (dsimp only [abQ];rw [ann];show 0+_=_)
 . rw [List.length_take];rw [h,dbl,Nat.min_eq_left (Nat.le_add_left _ _),Nat.zero_add]
 . rw [List.length_drop];rw [h,dbl,Nat.add_sub_cancel_left,Nat.zero_add]
theorem adf (x:Nat):abC (abQ x):=by
 have:=ao3 (x:=x)
 unfold abC
 exact ⟨this.1.trans this.2.symm,this.1.symm▸at9 1 _,this.1.symm▸at8 (aug (auK x (by decide))) 1⟩
theorem anp{W:V4}:((W.bag V4.nil:Nat):Int)=1:=rfl
theorem adH{W:V4}{two:Bool}{x:Nat}{rest done:List Int}:act (abs (aby two) W.lst) (acz two x++rest) done 1=act (abs (aby two) W.lst) rest (done++[((W.bag (abQ x).1:Nat):Int)]++[((W.bag (abQ x).2:Nat):Int)]) 1:=by
 rw [ajW]
 conv=>lhs;rw [<- anp (W:=W)]
 rw [afS _ _ λk hk=>ao2 k (List.mem_of_mem_take hk)]
 conv=>lhs;rw [<- anp (W:=W)]
 rw [afS _ _ λk hk=>ao2 k (List.mem_of_mem_drop hk)]
 rfl
theorem afT{W:V4}(g:Good W) {two:Bool}{x:Nat}{rest:List Int}(hr:ab2 (aby two) (abs (aby two) W.lst) rest 1):ab2 (aby two) (abs (aby two) W.lst) (acz two x++rest) 1:=by
 have h:=ap2 (x:=x)
 refine ajW▸?_
 exact (ai5 g (ai5 g hr ((ixF x).drop (1+x%3)) .nil (λk hk=>ao2 k (List.mem_of_mem_drop hk)) (by show 0+_<=4;rw [List.length_drop];rw [h,dbl,Nat.add_sub_cancel_left,Nat.zero_add];exact at8 (aug (auK x (by decide))) 1)) ((ixF x).take (1+x%3)) .nil (λk hk=>ao2 k (List.mem_of_mem_take hk)) (by show 0+_<=4;rw [List.length_take];rw [Nat.zero_add];exact at0 (Nat.min_le_left _ _) (at8 (aug (auK x (by decide))) 1)))
noncomputable def ahg (p q u:Rl):List V4:=[p.1,p.2,q.1,q.2,u.1,u.2]
theorem anq{two:Bool}{c:Nat->Nat}:akQ two c=acz two (c 0)++(acz two (c 1)++(acz two (c 2)++[])):=by
 unfold akQ
 rw [List.foldl_cons,List.foldl_cons,List.foldl_cons,List.foldl_nil,List.nil_append,List.append_nil,List.append_assoc]
theorem ai6{p q u:Rl}(hp:abC p) (hq:abC q) (hu:abC u):SidesOK (ahg p q u) where
 len:=rfl
 hom:=
  have r:∀ {p:Rl},abC p->abC (p.2,p.1):=λh=>⟨h.1.symm,h.1▸h.2.1,h.1▸h.2.2⟩
  apL hp (r hp) hq (r hq) hu (r hu)
theorem sw8{m:Nat}{two:Bool}{c:Nat->Nat}{W:V4}(g:Good W) {kT oT nT pT wT cT sT:T}{K:Out->Prop}(h:K (.nx [("order",.cmp kT),("sides",.lst ((ahg (abQ (c 0)) (abQ (c 1)) (abQ (c 2))).map (aat W))),("keys",kT),("rows",oT),("counts",nT),("row",.lst ((akQ two c).map .int)),("worths",.lst (W.lst.map .int)),("pick",pT),("w",wT),("symbols",ac4 two),("cells",cT),("script",sT)] [])) :
  StW m 8 [("keys",kT),("rows",oT),("counts",nT),("row",.lst ((akQ two c).map .int)),("worths",.lst (W.lst.map .int)),("pick",pT),("w",wT),("symbols",ac4 two),("cells",cT),("script",sT)] [] K:=by
 have hl:(akQ two c).length<=100:=by
  have a:=ad9 (two:=two) (x:=c 0)
  have b:=ad9 (two:=two) (x:=c 1)
  have d:=ad9 (two:=two) (x:=c 2)
  rw [anq,List.append_nil,List.length_append,List.length_append]
  exact acA a (auG b d) rfl
 have hok:ab2 (aby two) (abs (aby two) W.lst) (akQ two c) 1:=by
  rw [anq]
  exact afT g (afT g (afT g trivial))
 have he:act (abs (aby two) W.lst) (akQ two c) [] 1=(ahg (abQ (c 0)) (abQ (c 1)) (abQ (c 2))).map λv=>((W.bag v:Nat):Int):=by
  rw [anq,adH,adH,adH]
  rfl
 have hly:PyData.layable0 (.list ((aby two).map .int))=true:=by cases two <;> rfl
 obtain ⟨RT,hRT⟩:∃ RT:T,RT=.lst ((akQ two c).map .int):=⟨_,rfl⟩
 rw [<- hRT] at h ⊢
 rw [hRT]
 refine ⟨akQ two c,aby two,W.lst,rfl,hl,rfl,(by show 4<=100;decide),hly,hok,?_⟩
 rw [he,List.map_map]
 refine hRT▸?_
 exact ⟨_,rfl,h⟩
noncomputable def cmpL (e:Expr):Expr:=exI 0 e
theorem atS{it:Bool}{ev:EvF}{n:Nat}{sc:aad}{ow:Str->Bool}{hk:HkS}{bl:BlF}{fz:List Str}{st:Stmt}{l r:Expr}{op:CmpOp}{b o:List Stmt}{p pos:Pos}{ρ ω:aab}{K:Out->Prop}(e:st=.If (.Compare l [op] [r] p) b o pos) (h0:hk st=none) (hp:aai r=true)
  (h:ev sc l (ω++ρ) λt=>ev sc r (ω++ρ) λu=>asq op t u λc=>br c (bl fz b ρ ω K) (bl fz o ρ ω K)):stF it ev (n+1) sc ow hk bl fz st ρ ω K:=by
 unfold stF
 rw [h0,e]
 refine gdi ?_ h
 rw [show aae [r]=(aai r&&true) from rfl,hp];rfl
noncomputable abbrev lwV (W:V4) (ks:List (Int×Int)) (S:List V4) (two:Bool) (pick:Nat) (nT rT wT cT sT:T):aab:=
 [("order",.cmp (adj ks)),("sides",.lst (S.map (aat W))),("keys",adj ks),("rows",acY W),("counts",nT),("row",rT),("worths",.lst (W.lst.map .int)),("pick",.int pick),("w",wT),("symbols",ac4 two),("cells",cT),("script",sT)]
section
variable{pick:Nat}{W:V4}{ks:List (Int×Int)}{two:Bool}{nT rT wT cT sT:T}
theorem sw9{p q u:Rl}{rs:List Rl}(g:Good W) (hk:ad1 ks) (hp:pick<=9000000) (ok:okC ks pick 3000 0 [] [p,q,u]) (hres:aa1 ks pick 3000 0 [] [p,q,u]=rs) (h:K (.nx (("rules",.lst (rs.map (aau W))) ::lwV W ks (ahg p q u) two pick nT rT wT cT sT) [])):StW m 9 (lwV W ks (ahg p q u) two pick nT rT wT cT sT) [] K:=by
 refine ⟨W,ks,pick,p,q,u,rfl,g,hk,hp,ok,?_⟩
 refine hres▸?_
 exact h
noncomputable def atT:Rl:=(afQ 3,afQ 0)
theorem arV{rs:List Rl}{S:List V4}(g:Good W) (hk:Keys4 ks) (hr:∀ p∈rs,p.1.deg<=4/\p.2.deg<=4/\p.1≠p.2) (hl:rs.length<=100) {K:T->Prop}(h:K (.lst [])) :
  aam SgW true 21 wsc (cmpL (ifT (abb 29 10))) (("rules",.lst (rs.map (aau W))) ::lwV W ks S two pick nT rT wT cT sT) K:=by
 refine ags (n:=20) (g:=⟨_,_,_,_⟩) (aau W) (λ_=>[]) (rs++[atT]) rfl (by rfl) (λK' h=>?_) ?_ (λx hx acc K' ha h=>?_) ?_
 . have e:(rs++[atT]).map (aau W)=rs.map (aau W)++[T.tup [T.int ((W.d:Nat):Int),T.int ((W.a:Nat):Int)]]:=by
    rw [List.map_append]
    exact congrArg (λt=>rs.map (aau W)++[T.tup t]) (by rw [show ((W.d:Nat):Int)=((W.bag (afQ 3):Nat):Int) from (ahb 3 (by simp)).symm,show ((W.a:Nat):Int)=((W.bag (afQ 0):Nat):Int) from (ahb 0 ((Nat.succ_pos _))).symm];rfl)
   rw [e] at h
   refine szi (by rw [List.length_map];exact at0 (auj hl 1) (by exact at2 rfl)) ?_
   exact szi (by rw [List.length_append];exact (by rw [List.length_map];exact at0 (auj hl 1) (by exact at2 rfl))) h
 . refine (List.flatMap_eq_nil_iff.mpr λ_ _=>rfl).symm▸?_
   exact aup _
 . obtain ⟨d1,d2,dn⟩:x.1.deg<=4/\x.2.deg<=4/\x.1≠x.2:=by
    refine (List.mem_append.mp hx).elim ?_ ?_
    . rintro z
      exact hr x z
    . rintro z
      refine (List.mem_singleton.mp z)▸?_;decide
   rw [List.append_nil] at h
   (try conv=>whnf)
   refine abK (aaq g d1) ?_
   refine abK (aaq g d2) ?_
   exact ⟨ks,x.1,x.2,rfl,hk,dn,h⟩
 . refine (List.flatMap_eq_nil_iff.mpr λ_ _=>rfl).symm▸?_
   exact h
theorem sw10{rs:List Rl}{S:List V4}(g:Good W) (hk:Keys4 ks) (hr:∀ p∈rs,p.1.deg<=4/\p.2.deg<=4/\p.1≠p.2) (hl:rs.length<=100) (h:K (.nx (("rules",.lst (rs.map (aau W))) ::lwV W ks S two pick nT rT wT cT sT) [])) :
  StW (m+1) 10 (("rules",.lst (rs.map (aau W))) ::lwV W ks S two pick nT rT wT cT sT) [] K:=by
 refine atS (l:=cmpL (ifT (abb 29 10))) rfl rfl rfl (arV g hk hr hl ?_)
 exact h
noncomputable def ah5 (two:Bool):List Int:=if two then [2,3] else [3]
theorem sw11{S:List V4}{uT:T}(h:K (.nx (("inner",.lst ((ah5 two).map .int)) ::("rules",uT) ::lwV W ks S two pick nT rT wT cT sT) [])):StW m 11 (("rules",uT) ::lwV W ks S two pick nT rT wT cT sT) [] K:=by
 refine abD (v:=adD (abb 29 11)) rfl rfl rfl rfl rfl ?_
 cases two
 all_goals
  exact h
noncomputable def ac5 (two:Bool) (v:V4):Bool:=(if two then v.c else 0)+v.d==0
noncomputable def aew (two:Bool) (p:Rl):Bool:=ac5 two p.1&&ac5 two p.2
theorem ao4{rs:List Rl}{S:List V4}(g:Good W) (hr:∀ p∈rs,p.1.deg<=4/\p.2.deg<=4) (hl:rs.length<=100) {K:T->Prop}(h:K (.lst ((rs.filter (aew two)).map (aau W)))) :
  evW wsc (adD (abb 29 12)) (("inner",.lst ((ah5 two).map .int)) ::("rules",.lst (rs.map (aau W))) ::lwV W ks S two pick nT rT wT cT sT) K:=by
 obtain ⟨RT,hRT⟩:∃ RT,RT=rs.map (aau W):=⟨_,rfl⟩
 refine ags (n:=20) (g:=⟨_,_,_,_⟩) (aau W) (λp=>if aew two p=true then [aau W p] else []) rs rfl (by rfl) (λK' h=>?_) (at0 (ae0 (aew two) (aau W) rs) (by omega)) (λx hx acc K' ha h=>?_) (by rw [ac2];exact h)
 . exact szi (by rw [List.length_map];omega) h
 . obtain ⟨d1,d2⟩:=hr x hx
   cases two
   . have e:aew false x=(([((x.1.d:Nat):Int)+((x.2.d:Nat):Int)]).sum==0):=by
      rw [Bool.eq_iff_iff]
      simp [aew,ac5]
      exact asg
     rw [e] at h ha
     (try conv=>whnf)
     refine abK (aaq g d1) ?_
     refine abK (aaq g d2) ?_
     refine bri (λhb=>?_) (λhb=>?_)
     . rw [if_pos hb] at h ha
       exact szi ha h
     . rw [if_neg (by rw [hb];exact Bool.false_ne_true),List.append_nil] at h
       exact h
   . have e:aew true x=(([((x.1.c:Nat):Int)+((x.2.c:Nat):Int),((x.1.d:Nat):Int)+((x.2.d:Nat):Int)]).sum==0):=by
      rw [Bool.eq_iff_iff]
      simp [aew,ac5]
      exact zero4
     rw [e] at h ha
     (try conv=>whnf)
     refine abK (aaq g d1) ?_
     refine abK (aaq g d2) ?_
     refine abK (aaq g d1) ?_
     refine abK (aaq g d2) ?_
     refine bri (λhb=>?_) (λhb=>?_)
     . rw [if_pos hb] at h ha
       exact szi ha h
     . rw [if_neg (by rw [hb];exact Bool.false_ne_true),List.append_nil] at h
       exact h
theorem sw12{rs:List Rl}{S:List V4}(g:Good W) (hr:∀ p∈rs,p.1.deg<=4/\p.2.deg<=4) (hl:rs.length<=100) (h:K (.nx (("plain",.lst ((rs.filter (aew two)).map (aau W))) ::("inner",.lst ((ah5 two).map .int)) ::("rules",.lst (rs.map (aau W))) ::lwV W ks S two pick nT rT wT cT sT) [])) :
  StW m 12 (("inner",.lst ((ah5 two).map .int)) ::("rules",.lst (rs.map (aau W))) ::lwV W ks S two pick nT rT wT cT sT) [] K:=
 abD (v:=adD (abb 29 12)) rfl rfl rfl rfl rfl (ao4 g hr hl h)
noncomputable def adk:List V4:=ahL.filter λv=>v.deg==4
theorem sw13{S:List V4}(g:Good W) {lT iT uT:T}(h:K (.nx (("tops",.lst (adk.map (aat W))) ::("plain",lT) ::("inner",iT) ::("rules",uT) ::lwV W ks S two pick nT rT wT cT sT) [])) :
  StW m 13 (("plain",lT) ::("inner",iT) ::("rules",uT) ::lwV W ks S two pick nT rT wT cT sT) [] K:=by
 refine abD (v:=adD (abb 29 13)) rfl rfl rfl rfl rfl (ags (n:=20) (g:=⟨_,_,_,_⟩) (aat W) (λv=>if (v.deg==4)=true then [aat W v] else []) ahL rfl (by rfl) (λK' h=>?_) (at0 (ae0 _ (aat W) ahL) (at2 rfl)) (λv hv acc K' ha h=>?_) (by exact h))
 . have e:(ad0 W).map (λp=>T.int p.1)=ahL.map (aat W):=by unfold ad0;rfl
   show szl (ad0 W).length (K' ((ad0 W).map λp=>T.int p.1))
   exact szi (by unfold ad0;exact at2 rfl) h
 . have e:(v.deg==4)=(([((v.a:Nat):Int),((v.b:Nat):Int),((v.c:Nat):Int),((v.d:Nat):Int)]).sum==4):=by
    rw [Bool.eq_iff_iff]
    simp [V4.deg]
    exact four4
   rw [e] at h ha
   (try conv=>whnf)
   refine abK (aaq g (aeX.mp hv)) ?_
   refine bri (λhb=>?_) (λhb=>?_)
   . rw [if_pos hb] at h ha
     exact szi ha h
   . rw [if_neg (by rw [hb];exact Bool.false_ne_true),List.append_nil] at h
     exact h
theorem sw14{S:List V4}{mm:V4->V4}{lT iT uT:T}(g:Good W) (hS:SidesOK S) (hk:KeysOK ks) (hm:Least S ks mm) (h:∀ L:List (V4×V4),L.length<=35->(∀ v,v.deg=4->L.lookup v=some (mm v))->K (.nx (("least",.dct (LT W L)) ::("tops",.lst (adk.map (aat W))) ::("plain",lT) ::("inner",iT) ::("rules",uT) ::lwV W ks S two pick nT rT wT cT sT) [])) :
  StW m 14 (("tops",.lst (adk.map (aat W))) ::("plain",lT) ::("inner",iT) ::("rules",uT) ::lwV W ks S two pick nT rT wT cT sT) [] K:=by
 have h1:adk.Nodup:=agr.sublist List.filter_sublist
 have h2:∀ v:V4,v∈adk↔v.deg=4:=λv=>by
  unfold adk
  rw [List.mem_filter,aeX,beq_iff_eq]
  exact ⟨λh=>h.2,λh=>⟨aub h,h⟩⟩
 have h3:adk.length=35:=by decide +kernel
 generalize adk=tops at *
 exact ⟨W,S,tops,ks,mm,rfl,g,hS,hk,hm,h1,h2,by lia,by lia,h⟩
end
noncomputable def y4F (two:Bool):Y4:=(1,255,if two then 256 else 254,257)
theorem anr{us us':List U2}{a b c d a' b' c' d' x y z w:Int}(h:aiT a b c d us a' b' c' d') (h':aiT a' b' c' d' us' x y z w):aiT a b c d (us++us') x y z w:=by
 induction us generalizing a b c d with
 | nil=>obtain ⟨rfl,rfl,rfl,rfl⟩:=h;exact h'
 | cons _ _ ih=>exact ih h
theorem ao5:∀ two,(agu (y4F two)).Nodup:=by decide
theorem y4_sz:∀ two,∀ x∈agu (y4F two),x.natAbs<2^100:=by decide
theorem ap3{two:Bool}{a b c d:Int}(ha:a.natAbs<=4) (hb:b.natAbs<=4) (hc:c.natAbs<=4) (hd:d.natAbs<=4):SzP (ps4 (y4F two) a b c d):=λp hp=>by
 exact ⟨abx (y4_sz two _ (amD p hp)),abx (auc (all4 (P:=λp=>p.2.natAbs<=4) ha hb hc hd p hp) (show 4<2^100 by decide))⟩
theorem ans{v:V4}(h:v.deg<=4):v.a<=4/\v.b<=4/\v.c<=4/\v.d<=4:=by exact ajY h
theorem nat4{n:Nat}(h:n<=4):((n:Nat):Int).natAbs<=4:=h
theorem dif4{m n:Nat}(h:n<=4) (h':m<=4):(((m:Nat):Int)-(n:Nat)).natAbs<=4:=by exact na4 (auy (auR _ (aue n)) (Int.ofNat_le.mpr h')) ((Int.neg_sub _ _).symm▸auy (auR _ (aue m)) (Int.ofNat_le.mpr h))
theorem szV{two:Bool}{v:V4}(h:v.deg<=4):SzP (psV (y4F two) v):=
 (ans h).elim λh1 hX1=>hX1.elim λh2 hX2=>hX2.elim λh3 h4=>ap3 (nat4 h1) (nat4 h2) (nat4 h3) (nat4 h4)
theorem szU{W:V4}{two:Bool}{q:Rl}(h:q.1.deg<=4) (h':q.2.deg<=4):SzP (psU (y4F two) (upU W q)):=
 (ans h).elim λh1 hX1=>hX1.elim λh2 hX2=>hX2.elim λh3 h4=>(ans h').elim λg1 hX1=>hX1.elim λg2 hX2=>hX2.elim λg3 g4=>ap3 (dif4 h1 g1) (dif4 h2 g2) (dif4 h3 g3) (dif4 h4 g4)
theorem arW{a x y:Int}:a+(x-y)+(y-x)=a:=by lia
theorem ao6{W:V4}(g:Good W) {two:Bool}{rs:List Rl}{v:V4}{p:Rl}{t:Nat}(hr:∀ p∈rs,abC p) (hv:v.deg<=4) (hp:abC p) :
  KeptIn (y4F two) (ad0 W) (((W.bag v:Nat):Int),v) (((W.bag (aax rs 40 t v []).1:Nat):Int),(aax rs 40 t v []).1) (((aax rs 40 t v []).2++[(p.1,p.2),(p.2,p.1)]).map (upU W)):=by
 refine (aet W (rs:=rs) 40 t v []).elim λmore hX1=>hX1.elim λe1 hX2=>hX2.elim λe2 hX3=>hX3.elim λe3 e4=>?_
 dsimp only [List.nil_append] at e1
 have he:(aax rs 40 t v []).1.deg<=4:=by rw [acu hr];exact hv
 have two4:∀ q:Rl,abC q->q.1.deg<=4/\q.2.deg<=4:=λq h=>⟨h.2.2,h.1▸h.2.2⟩
 have all:∀ q∈more++[(p.1,p.2),(p.2,p.1)],q.1.deg<=4/\q.2.deg<=4:=λq hq=>by
  refine (List.mem_append.mp hq).elim ?_ ?_
  . rintro z
    exact two4 q (hr q (e3 q z))
  . rintro z
    simp only [List.mem_cons,List.not_mem_nil,or_false] at z
    rcases z with rfl | rfl
    . exact two4 p hp
    . exact (two4 p hp).symm
 rw [e1]
 generalize (aax rs 40 t v []).1=e at *
 refine arm (ao5 two) (aaq g hv) (aaq g he) (λu hu=>?_) ?_ (szV hv) (szV he) ?_
 . obtain ⟨q,hq,rfl⟩:=List.mem_map.mp hu
   obtain ⟨d1,d2⟩:=all q hq
   exact ⟨aaq g d1,aaq g d2,szU d1 d2⟩
 . rw [List.length_map,List.length_append]
   simp only [List.length_cons,List.length_nil]
   exact acA e2 (auf _) rfl
 . rw [List.map_append]
   exact anr e4 ⟨arW,arW,arW,arW⟩
section
variable{pick:Nat}{W:V4}{ks:List (Int×Int)}{two:Bool}{nT rT wT cT sT iT:T}{p q u:Rl}{L:List (V4×V4)}{rs pl:List Rl}{v:V4}{i:Nat}{fb:Bool}
noncomputable abbrev lwR (W:V4) (ks:List (Int×Int)) (p q u:Rl) (two:Bool) (pick:Nat) (nT rT wT cT sT:T) (L:List (V4×V4)) (rs pl:List Rl):aab:=
 ("least",.dct (LT W L)) ::("tops",.lst (adk.map (aat W))) ::("plain",.lst (pl.map (aau W))) ::("inner",.lst ((ah5 two).map .int)) ::("rules",.lst (rs.map (aau W))) ::lwV W ks (ahg p q u) two pick nT rT wT cT sT
noncomputable abbrev lwI (fb:Bool) (v:V4) (i:Nat) (W:V4) (ks:List (Int×Int)) (p q u:Rl) (two:Bool) (pick:Nat) (nT rT wT cT sT:T) (L:List (V4×V4)) (rs pl:List Rl):aab:=
 ("free",.bool fb) ::("top",aat W v) ::("place",.int i) ::lwR W ks p q u two pick nT rT wT cT sT L rs pl
theorem arX:ahe (λe k=>evW wsc e (lwI fb v i W ks p q u two pick nT rT wT cT sT L rs pl) k) (ad8 (adD ac3)) (λts=>ts=[aat W v,.lst ((if fb=true then pl else rs).map (aau W)),.int ((pick+i:Nat):Int)]):=by
 cases fb
 all_goals
  rfl
theorem atU{mm:V4->V4}{rs':List Rl}(g:Good W) (hrs:rs'=if fb=true then pl else rs) (di:DownIn W rs') (hv:v.deg=4) (hp:pick<=1000000) (hi:i<=100) (hS:abC p/\abC q/\abC u) (he:(aax rs' 40 (pick+i) v []).1=mm v) (hL:L.lookup v=some (mm v))
  (h:∀ eT uT,K (.nx (("end",eT) ::lwI fb v i W ks p q u two pick nT rT wT cT sT L rs pl) [("used",uT)])) :
  blF true evW 20 wsc owW anC (m+5) [] (ifB ((agV akN).getD 1 aeQ)) (lwI fb v i W ks p q u two pick nT rT wT cT sT L rs pl) [] K:=by
 show ac3=ac3/\F_dn [] _ [] _
 refine ⟨rfl,W,v,rs',pick+i,rfl,hrs▸arX,di,aub hv,by exact acA hp hi rfl,?_⟩
 have hk:KeptIn (y4F two) (ad0 W) _ _ _:=ao6 (t:=pick+i) g (rs:=rs') (p:=p) (λp hp=>di.deg p hp) (aub hv) hS.1
 have hus:(aax rs' 40 (pick+i) v []).2.length<=40:=by
  refine (aet W (rs:=rs') 40 (pick+i) v []).elim λmore hX1=>hX1.elim λe1 hX2=>hX2.elim λe2 _=>?_
  refine e1▸?_
  exact e2
 rw [he] at hk ⊢
 generalize (aax rs' 40 (pick+i) v []).2=us at *
 (try conv=>whnf)
 rw [ai2 g,hL]
 (try conv=>whnf)
 rw [bne_self_eq_false]
 refine szi (by rw [List.length_map];exact at0 (auj hus 2) (by exact at2 rfl)) ?_
 refine (by rw [List.map_append];rfl:us.map (aau W)++[T.tup [aat W p.1,aat W p.2],T.tup [aat W p.2,aat W p.1]]=(us++[(p.1,p.2),(p.2,p.1)]).map (aau W))▸?_
 generalize us++[(p.1,p.2),(p.2,p.1)]=us' at *
 refine ⟨rfl,?_,h _ _⟩
 refine λ_=>⟨?_,W,mm v,ahg p q u,(pick+i) / 4,?_,g,(by refine he▸?_;refine (acu λp hp=>di.deg p hp).symm▸?_;exact aub hv),ai6 hS.1 hS.2.1 hS.2.2,by exact at0 (Nat.div_le_self _ _) (acA hp hi rfl)⟩
 . rw [amG]
   exact ⟨y4F two,ad0 W,_,_,us'.map (upU W),rfl,hk,rfl⟩
 . have e4:(((pick:Nat):Int)+((i:Nat):Int)).fdiv 4=(((pick+i) / 4:Nat):Int):=abf (pick+i) 4
   exact e4▸rfl
   (try conv=>whnf)
theorem arY{mm:V4->V4}(g:Good W) (hr:DownIn W rs) (hpl:DownIn W pl) (hv:v.deg=4) (hp:pick<=1000000) (hi:i<=100) (hS:abC p/\abC q/\abC u) (he:∀ t,(aax rs 40 t v []).1=mm v) (hf:ac5 two v=true->∀ t,(aax pl 40 t v []).1=mm v) (hL:L.lookup v=some (mm v))
  (h1:K (.nx (lwI (ac5 two v) v i W ks p q u two pick nT rT wT cT sT L rs pl) [])) (h2:∀ eT uT,K (.nx (("end",eT) ::lwI (ac5 two v) v i W ks p q u two pick nT rT wT cT sT L rs pl) [("used",uT)])) :
  blF true evW 20 wsc owW anC (m+7) [] (agV akN) (("top",aat W v) ::("place",.int i) ::lwR W ks p q u two pick nT rT wT cT sT L rs pl) [] K:=by
 refine aap (st:=(agV akN).getD 0 aeQ) (ss:=[(agV akN).getD 1 aeQ]) (af:=lwI (ac5 two v) v i W ks p q u two pick nT rT wT cT sT L rs pl) (au:=[]) (λK1 h=>?_) ?_
 . have hd:=aaq g (v:=v) (aub hv)
   cases two
   . have e:ac5 false v=(([((v.d:Nat):Int)]).sum==0):=by
      rw [Bool.eq_iff_iff]
      simp [ac5]
     rw [e] at h
     refine abK hd ?_
     exact h
   . have e:ac5 true v=(([((v.c:Nat):Int),((v.d:Nat):Int)]).sum==0):=by
      rw [Bool.eq_iff_iff]
      simp [ac5]
      exact asg
     rw [e] at h
     refine abK hd ?_
     refine abK hd ?_
     exact h
 . cases hfb:ac5 two v
   . rw [hfb] at h1 h2
     refine bri (λhb=>?_) (λhb=>?_)
     . refine hb.symm▸?_
       refine atU (m:=m) (fb:=false) (rs:=rs) (pl:=pl) (rs':=rs) g rfl hr hv hp hi hS (he _) hL ?_
       exact λeT uT=>h2 eT uT
     . exact h1
   . rw [hfb] at h1 h2
     refine atU (m:=m) (fb:=true) (rs:=rs) (pl:=pl) (rs':=pl) g rfl hpl hv hp hi hS (hf hfb _) hL ?_
     exact λeT uT=>h2 eT uT
end
theorem ant{α:Type}(f:α->T):∀ (l:List α) (n:Nat),aig n (l.map f)=(l.zipIdx n).map λp=>T.tup [.int ((p.2:Nat):Int),f p.1]
 | [],_=>rfl
 | a ::l,n=>congrArg (_ ::·) (ant f l (n+1))
section
variable{pick:Nat}{W:V4}{ks:List (Int×Int)}{two:Bool}{nT rT wT cT sT iT:T}{p q u:Rl}{L:List (V4×V4)}{rs pl:List Rl}
theorem sw15{mm:V4->V4}(g:Good W) (hr:DownIn W rs) (hpl:DownIn W pl) (hp:pick<=1000000) (hS:abC p/\abC q/\abC u) (he:∀ v,v.deg=4->∀ t,(aax rs 40 t v []).1=mm v) (hf:∀ v,v.deg=4->ac5 two v=true->∀ t,(aax pl 40 t v []).1=mm v)
  (hL:∀ v,v.deg=4->L.lookup v=some (mm v)) (h:K (.nx (lwR W ks p q u two pick nT rT wT cT sT L rs pl) [])):StW (m+7) 15 (lwR W ks p q u two pick nT rT wT cT sT L rs pl) [] K:=by
 have hn:adk.length=35:=by decide +kernel
 have hd:∀ x∈adk.zipIdx 0,x.1.deg=4/\x.2<=100:=λx hx=>by
  obtain ⟨_,h2,h3⟩:=List.mem_zipIdx hx
  refine ⟨?_,by lia⟩
  have:=List.getElem_mem (l:=adk) (n:=x.2-0) (by lia)
  rw [<- h3] at this
  exact eq_of_beq (List.mem_filter.mp this).2
 refine anl (b:=agV akN) rfl rfl rfl rfl ((adk.zipIdx 0).map λx=>T.tup [.int ((x.2:Nat):Int),aat W x.1]) (λK' h=>?_) ?_
 . show szl (adk.map (aat W)).length (K' (aig 0 (adk.map (aat W))))
   exact szi (by rw [List.length_map,hn];decide) h
 . generalize adk.zipIdx 0=xs at hd ⊢
   refine ad7 (β:=Unit) (λx:V4×Nat=>T.tup [.int ((x.2:Nat):Int),aat W x.1]) (λ_=>[]) (λb _=>b) (λxs _=>∀ x∈xs,x.1.deg=4/\x.2<=100) xs () (λx xs b hP=>⟨λy hy=>hP y (.tail _ hy),λK1 K2 hk=>?_⟩) hd h
   have h4:=(hP x (.head _)).1
   refine abK (t:=(("top",aat W x.1) ::("place",.int x.2) ::lwR W ks p q u two pick nT rT wT cT sT L rs pl,[])) (by rfl) ?_
   exact arY (m:=m) g hr hpl h4 hp ((hP x (.head _)).2) hS (he _ h4) (hf _ h4) (hL _ h4) hk λ_ _=>hk
end
noncomputable def Eqv (S:List V4) (u v:V4):Prop:=∀ x:V4,Turned S (u.add x) (v.add x)/\Turned S (v.add x) (u.add x)
section
variable{S:List V4}{u v y z:V4}{ks:List (Int×Int)}{rs:List Rl}{p q:Rl}
theorem afU (u v:V4):u.add v=v.add u:=V4.ext (aut _ _) (aut _ _) (aut _ _) (aut _ _)
theorem agA (u v y:V4):(u.add v).add y=u.add (v.add y):=V4.ext (Nat.add_assoc ..) (Nat.add_assoc ..) (Nat.add_assoc ..) (Nat.add_assoc ..)
theorem ao7 (u x:V4):(u.add x).sub u=x:=V4.ext (Nat.add_sub_cancel_left ..) (Nat.add_sub_cancel_left ..) (Nat.add_sub_cancel_left ..) (Nat.add_sub_cancel_left ..)
theorem arZ (u x:V4):u.Le (u.add x):=⟨at9 ..,at9 ..,at9 ..,at9 ..⟩
theorem Turned.trans (a:Turned S u v) (b:Turned S v y):Turned S u y:=by
 induction b with
 | here=>exact a
 | turn _ h ih=>exact ih.turn h
theorem Eqv.refl:Eqv S u u:=λx=>⟨.here _,.here _⟩
theorem Eqv.symm (h:Eqv S u v):Eqv S v u:=λx=>(h x).symm
theorem Eqv.trans (a:Eqv S u v) (b:Eqv S v y):Eqv S u y:=λx=>⟨(a x).1.trans (b x).1,(b x).2.trans (a x).2⟩
theorem Eqv.add (h:Eqv S u v):Eqv S (z.add u) (z.add v):=λx=>by
 have:=h (z.add x)
 rwa [<- agA,<- agA,afU u,afU v] at this
theorem ajX{k:Nat}(hk:k<6) (x:V4):Turned S ((afO S k).1.add x) ((afO S k).2.add x):=by
 refine (Turned.here _).turn (List.mem_flatMap.mpr ⟨k,List.mem_range.mpr hk,?_⟩)
 rw [if_pos (V4.leb_iff.mpr (arZ _ _))]
 refine List.mem_singleton.mpr ?_
 unfold V4.step
 rw [ao7,afU]
theorem ai7{k:Nat}(hk:k<6) (he:afO S (k ^^^ 1)=((afO S k).2,(afO S k).1)):Eqv S (afO S k).1 (afO S k).2:=λx=>by
 have h:=ajX (S:=S) (am5 hk) x
 rw [he] at h
 exact ⟨ajX hk x,h⟩
theorem ahc (hl:p.1.Le v) (h:Eqv S p.1 p.2):Eqv S v (v.step p):=by
 have:=h.add (z:=v.sub p.1)
 rwa [V4.sub_add hl] at this
theorem ahd (h:∀ p∈rs,Eqv S p.1 p.2) (r:Reds rs u v):Eqv S u v:=by
 induction r with
 | refl=>exact Eqv.refl
 | head a _ ih=>
  obtain ⟨p,hp,hl,rfl⟩:=a
  exact (ahc hl (h p hp)).trans ih
theorem ao8 (hp:Eqv S p.1 p.2) (hq:Eqv S q.1 q.2) {y:Rl}(h:acZ q.1 q.2 p=some y):Eqv S y.1 y.2:=by
 unfold acZ at h
 split at h
 . obtain rfl:=soi h
   exact (ahc (p:=p) (v:=p.1.max q.1) ⟨auu ..,auu ..,auu ..,auu ..⟩ hp).symm.trans (ahc (p:=q) (v:=p.1.max q.1) ⟨auq ..,auq ..,auq ..,auq ..⟩ hq)
 . exact nos h
theorem afV{pick:Nat}:∀ (n t:Nat) (rules pairs:List Rl),(∀ p∈rules,Eqv S p.1 p.2)->(∀ p∈pairs,Eqv S p.1 p.2)->∀ p∈aa1 ks pick n t rules pairs,Eqv S p.1 p.2
 | 0,_,_,_,h,_=>h
 | n+1,t,rules,pairs,h,h'=>by
  dsimp only [aa1]
  cases e:pairs[t]? with
  | none=>exact h
  | some p=>
   dsimp only
   split
   . exact afV n (t+1) rules pairs h h'
   . have a:Eqv S (aaJ rules (pick+t) p.1) (aaJ rules (pick+t) p.2):=(ahd h (aav 40 (pick+t) p.1 [])).symm.trans ((h' p (aux e)).trans (ahd h (aav 40 (pick+t) p.2 [])))
     generalize aaJ rules (pick+t) p.1=one at a
     generalize aaJ rules (pick+t) p.2=two at a
     have b:Eqv S (aaS ks one two).1 (aaS ks one two).2:=by
      unfold aaS
      split
      . exact a
      . exact a.symm
     generalize aaS ks one two=nw at b
     refine afV n (t+1) _ _ (λq hq=>?_) λq hq=>?_
     . exact (List.mem_append.mp hq).elim (h q) λz=>List.mem_singleton.mp z▸b
     . refine (List.mem_append.mp hq).elim (h' q) λz=>?_
       obtain ⟨o,ho,e'⟩:=List.mem_filterMap.mp z
       exact ao8 (h o ho) b e'
end
structure PlainOK (ks:List (Int×Int)) (two:Bool) (pick:Nat) (p q u:Rl) (rs:List Rl) (mm:V4->V4):Prop where
 keys:KeysOK ks
 few:rs.length<=100
 fall:∀ p∈rs,abC p/\p.1≠p.2
 okc:okC ks pick 3000 0 [] [p,q,u]
 lst:Least (ahg p q u) ks mm
 one:∀ v,v.deg=4->∀ t,(aax rs 40 t v []).1=mm v
 two:∀ v,v.deg=4->ac5 two v=true->∀ t,(aax (rs.filter (aew two)) 40 t v []).1=mm v
theorem atV (cell:Int):∀ (k:Nat),k<4->(aqS cell k).natAbs<2^100:=λk hk=>by
 unfold aqS
 rcases Int.fmod_two_eq ((cell.fdiv 8).fdiv (2^k)) with h | h <;> rw [h] <;> clear h <;> revert k <;> decide
theorem ao9 (cell:Int) (two:Bool):KeysOK (acV cell two) where
 k4:=keys4 cell two
 u1:=ahX cell two
 sz:=λp hp=>by
  rcases List.mem_append.mp hp with z | z
  . have key:∀ two:Bool,∀ p∈(if two=true then [((2:Int),(4:Int)),(3,4)] else [(3,4)]),p.2.natAbs<2^100:=by decide
    exact key two p z
  . obtain ⟨x,hx,rfl⟩:=List.mem_map.mp z
    have hl:(al1 two (aft cell two)).length<=3:=by
     dsimp only [al1]
     clear hp
     clear z
     cases two <;> simp <;> omega
    have hX:=List.mem_zipIdx hx
    exact atV cell x.2 (at5 hX.2.1 (at0 (aub (Nat.zero_add _)) (Nat.le_succ_of_le hl)))
theorem ae4{two:Bool}{v:V4}:ac5 two v=true↔aru two v:=by
 delta ac5 aru
 cases two <;> simp <;> omega
theorem apa{cell:Int}{two:Bool}{pick:Nat}{p q u:Rl}(hp:abC p) (hq:abC q) (hu:abC u):PlainOK (acV cell two) two pick p q u (aa1 (acV cell two) pick 3000 0 [] [p,q,u]) (aaJ (aa1 (acV cell two) pick 3000 0 [] [p,q,u]) 0):=by
 have hk:=ao9 cell two
 have inv:Inv (acV cell two) 0 [] [p,q,u]:=amM (all3 hp hq hu) (auf 3)
 obtain ⟨hc,hg⟩:=akE hk.k4 hk.u1 (pick:=pick) inv
 have hm:=amO hk.k4 hk.u1 (pick:=pick) inv
 have dirs:∀ k,k<6->∃ x∈[p,q,u],afO (ahg p q u) k=x\/afO (ahg p q u) k=(x.2,x.1):=
  apL ⟨p,.head _,.inl rfl⟩ ⟨p,.head _,.inr rfl⟩ ⟨q,.tail _ (.head _),.inl rfl⟩ ⟨q,.tail _ (.head _),.inr rfl⟩ ⟨u,.tail _ (.tail _ (.head _)),.inl rfl⟩ ⟨u,.tail _ (.tail _ (.head _)),.inr rfl⟩
 have hev:∀ x∈aa1 (acV cell two) pick 3000 0 [] [p,q,u],Eqv (ahg p q u) x.1 x.2:=afV 3000 0 [] [p,q,u] (λ_ h=>nomatch h) (all3 (P:=λx:Rl=>Eqv (ahg p q u) x.1 x.2) (ai7 (S:=ahg p q u) (k:=0) (by decide) rfl) (ai7 (S:=ahg p q u) (k:=2) (by decide) rfl) (ai7 (S:=ahg p q u) (k:=4) (by decide) rfl))
 have few:(aa1 (acV cell two) pick 3000 0 [] [p,q,u]).length<=100:=by
  refine (ad5 hk.k4 hk.u1 (pick:=pick) 3000 0 [] [p,q,u] inv).elim λt' hX1=>hX1.elim λps hX2=>hX2.elim λa _=>?_
  exact at0 a.rules69 (by exact at2 rfl)
 generalize aa1 (acV cell two) pick 3000 0 [] [p,q,u]=rs at *
 refine ⟨hk,few,λx hx=>⟨(λx hx=>(hg x hx).1) x hx,λe=>?_⟩,(aiY hk.k4 hk.u1 (pick:=pick) 3000 0 [] [p,q,u] inv),⟨λv hv y hy=>?_,λv hv=>(afG (λx hx=>(hg x hx).1)).trans hv,λv hv=>?_,λv hv=>?_,λv hv=>?_⟩,λv hv t=>?_,λv hv f t=>?_⟩
 . have:=(hg x hx).2
   rw [e] at this
   exact absurd this (au1 _)
 . obtain ⟨k,hk6,hy⟩:=List.mem_flatMap.mp hy
   split at hy
   . rename_i hle
     obtain rfl:=List.mem_singleton.mp hy
     have h1:=((ai6 hp hq hu).hom k (List.mem_range.mp hk6)).1
     refine ⟨(aeY (V4.leb_iff.mp hle) h1).trans hv,?_⟩
     have j:Joined rs (afO (ahg p q u) k).1 (afO (ahg p q u) k).2:=by
      obtain ⟨x,hx,e | e⟩:=dirs k (List.mem_range.mp hk6)
      . rw [e];exact hm x hx
      . rw [e];exact (hm x hx).symm
     exact (aoN hc hg (aub hv) (V4.leb_iff.mp hle) h1 j 0 0).symm
   . exact nomatch hy
 . exact (ae3 hc hg (aub hv) (aav 40 0 v []) 0 0).symm
 . have:=(ahd hev (aav 40 0 v []) .nil).2
   exact this
 . exact akF hg (aub hv) (aav 40 0 v [])
 . exact ae3 hc hg (aub hv) (.refl v) t 0
 . refine amQ hc hg (F:=aru two) (λx hx=>(List.mem_filter.mp hx).1) (λx hx fx=>List.mem_filter.mpr ⟨hx,?_⟩) arv (λy z fy r=>?_) (aub hv) (ae4.mp f) t 0
   . unfold aew
     refine (ae4.mpr fx).symm▸?_;refine (ae4.mpr (amR (hg x hx) fx)).symm▸?_;rfl
   . obtain ⟨x,hx,hl,rfl⟩:=r
     have:=(List.mem_filter.mp hx).2
     unfold aew at this
     have f2:=ae4.mp (Bool.and_eq_true_iff.mp this).2
     refine ⟨λe=>?_,?_⟩
     . show y.c-x.1.c+x.2.c=0
       refine (fy.1 e).symm▸?_;refine (f2.1 e).symm▸?_;lia
     . show y.d-x.1.d+x.2.d=0
       refine fy.2.symm▸?_;refine f2.2.symm▸?_;lia
section
theorem sw6{ρ:aab}{oT pT wT yT cT sT rT:T}(bh:([("row",rT),("worths",oT),("pick",pT),("w",wT),("symbols",yT),("cells",cT),("script",sT)]:aab)=ρ) (h:K (.nx [("counts",.lst (ahL.map V4.t)),("row",rT),("worths",oT),("pick",pT),("w",wT),("symbols",yT),("cells",cT),("script",sT)] [])):StW m 6 ρ [] K:=by
 refine abD (v:=adD (abb 29 6)) rfl rfl rfl (by rfl) (by rfl) ?_
 subst bh
 exact anm h
noncomputable def cW (l:List Int):Nat->Nat:=λi=>akO l (adG.getD i (0,0))
theorem law_a{l:List Int}(hl:l.length<64) (h:K (.nx [("worths",.lst ((WV (2+cW l 4%30)).lst.map .int)),("pick",.int (cW l 4 / 30:Nat)),("w",.int (2+cW l 4%30:Nat)),("symbols",ac4 (cW l 3%2==1)),("cells",acy (cW l)),("script",.lst (l.map .int))] [("row",.lst ((akQ (cW l 3%2==1) (cW l)).map .int))])) :
  blF true evW 20 wsc owW anC 30 [] [abb 29 0,abb 29 1,abb 29 2,abb 29 3,abb 29 4,abb 29 5] [("script",.lst (l.map .int))] [] K:=by
 refine aap (λK1 h=>sw0 (m:=29) hl h) ?_
 refine aap (λK1 h=>sw1 (m:=28) h) (aap (λK1 h=>sw2 (m:=24) h) (aap (λK1 h=>sw3 (m:=26) h) (aap (λK1 h=>sw4 (m:=25) (at9 _ _) (at8 (auk (auK _ (by decide))) 2) h) (aap (λK1 h=>sw5 (m:=21) h) ?_))))
 exact h
theorem law_c{ks:List (Int×Int)}{two:Bool}{pick:Nat}{W:V4}{p q u:Rl}{rs:List Rl}{mm:V4->V4}{nT rT wT cT sT:T}(g:Good W) (hS:abC p/\abC q/\abC u) (P:PlainOK ks two pick p q u rs mm) (hp:pick<=1000000) {K:T->Prop}(h:K (.bool true)) :
  blF true evW 20 wsc owW anC 26 [] [abb 29 10,abb 29 11,abb 29 12,abb 29 13,abb 29 14,abb 29 15,abb 29 16] (("rules",.lst (rs.map (aau W))) ::lwV W ks (ahg p q u) two pick nT rT wT cT sT) [] (aqO K):=by
 have d4:∀ x∈rs,x.1.deg<=4/\x.2.deg<=4:=λx hx=>(P.fall x hx).elim λhZ1 _=>hZ1.elim λh1 hZ2=>hZ2.elim λ_ h3=>⟨h3,h1▸h3⟩
 have dn:DownIn W rs:=⟨g,P.few,λx hx=>(P.fall x hx).1⟩
 have dp:DownIn W (rs.filter (aew two)):=⟨g,at0 (au5 _ _) P.few,λx hx=>(P.fall x (List.mem_filter.mp hx).1).1⟩
 refine aap (λK1 h=>sw10 (m:=24) (W:=W) (rs:=rs) g P.keys.k4 (λx hx=>⟨(d4 x hx).1,(d4 x hx).2,(P.fall x hx).2⟩) P.few h) ?_
 refine aap (λK1 h=>sw11 (m:=24) (W:=W) h) ?_
 refine aap (λK1 h=>sw12 (m:=23) (W:=W) (rs:=rs) g d4 P.few h) ?_
 refine aap (λK1 h=>sw13 (m:=22) (W:=W) g h) ?_
 refine ajF (I:={ L:List (V4×V4) // L.length<=35/\∀ v,v.deg=4->L.lookup v=some (mm v) }) (λL=>lwR W ks p q u two pick nT rT wT cT sT L.1 rs (rs.filter (aew two))) (λ_=>[]) (λK1 h=>sw14 (m:=21) g (ai6 hS.1 hS.2.1 hS.2.2) P.keys P.lst λL h1 h2=>h ⟨L,h1,h2⟩) λL=>?_
 refine aap (λK1 h=>sw15 (m:=13) g dn dp hp hS P.one P.two L.2.2 h) ?_
 exact h
theorem law_b{c:Nat->Nat}{W:V4}{pick:Nat}{rs:List Rl}{mm:V4->V4}{wT sT:T}(g:Good W) (hc:c 3<2^32) (hp:pick<=1000000) (hS:abC (abQ (c 0))/\abC (abQ (c 1))/\abC (abQ (c 2))) (P:PlainOK (acV (c 3) (c 3%2==1)) (c 3%2==1) pick (abQ (c 0)) (abQ (c 1)) (abQ (c 2)) rs mm)
  (hrs:aa1 (acV (c 3) (c 3%2==1)) pick 3000 0 [] [abQ (c 0),abQ (c 1),abQ (c 2)]=rs) {K:T->Prop}(h:K (.bool true)) :
  blF true evW 20 wsc owW anC 30 [] [abb 29 6,abb 29 7,abb 29 8,abb 29 9,abb 29 10,abb 29 11,abb 29 12,abb 29 13,abb 29 14,abb 29 15,abb 29 16]
   [("row",.lst ((akQ (c 3%2==1) c).map .int)),("worths",.lst (W.lst.map .int)),("pick",.int pick),("w",wT),("symbols",ac4 (c 3%2==1)),("cells",acy c),("script",sT)] [] (aqO K):=by
 generalize bh:([("row",.lst ((akQ (c 3%2==1) c).map .int)),("worths",.lst (W.lst.map .int)),("pick",.int pick),("w",wT),("symbols",ac4 (c 3%2==1)),("cells",acy c),("script",sT)]:aab)=ρ
 refine aap (λK1 h=>sw6 (m:=29) bh h) ?_
 refine aap (λK1 h=>sw7 (m:=28) (c:=c) (W:=W) g hc h) ?_
 refine aap (λK1 h=>sw8 (m:=27) (c:=c) (W:=W) g h) ?_
 refine aap (λK1 h=>sw9 (m:=26) (W:=W) (p:=abQ (c 0)) (q:=abQ (c 1)) (u:=abQ (c 2)) (rs:=rs) g P.keys.k4.inn (at0 hp (by exact at2 rfl)) P.okc hrs h) ?_
 exact law_c g hS P hp h
end
section
theorem atW (st:Stat γ) (C:StatC γ):SgOK γ SgW true 20:=by
 refine aas st (FsOK.fn (i:=15) st (by decide) ((aiF st).le (by decide)) (FsOK.fn (i:=16) st (by decide) ((agj st).le (by decide)) (FsOK.fn (i:=17) st (by decide) ((apz st).le (by decide)) (FsOK.blt (n:="sum") st (by decide) amm (FsOK.fn (i:=20) st (by decide) ((apB st).le (by decide)) (FsOK.fn (i:=21) st (by decide) ((aqT st).le (by decide)) (FsOK.fn (i:=19) st (by decide) ((aof st).le (by decide))
  (FsOK.cons (f:=.ref aaO) (.inl C.g) ?_ ((tc_ok C).le (by decide)) (FsOK.fn (i:=23) st (by decide) (aow st) (FsOK.fn (i:=28) st (by decide) ((ard st).le (by decide)) (FsOK.fn (i:=24) st (by decide) ((aoW st).le (by decide)) (FsOK.fn (i:=26) st (by decide) ((ari st (arF (γ:=γ) st)).le (by decide)) FsOK.nil)))))))))))) MsOK.nil
 exact λM h wd=>keeps_K C.kp h wd.k
theorem atX (st:Stat γ) (C:StatC γ) {l:List Int}(hl:l.length<64) (aok:AOK true 21 A s.heap) (hfr:A.frames=some []) (wd:Wd γ s.heap) {v:Value}(rv:Rep V s.heap v (.lst (l.map .int))) :
  wpAny (model pg γ.w) A (call (.ref 180) [v]) (λu s'=>u=.bool true/\Ext s s') No s:=by
 have sg:=atW (γ:=γ) st C
 refine auX (adS (r:=20) (V:=V) (ts:=[.lst (l.map .int)]) (st.fn ("law",180,29) (by decide)).2 (by rfl) wd aok (.cons rv .nil) rfl λenv a8 X V' hf k c=>?_)
 have hfr':(A.deeper env).frames=some [env]:=by show A.frames.map _=_;refine hfr▸?_;rfl
 have hh:HkOK γ true 20 (A.deeper env) X V s env wsc anC:=HkOK.at (λP fz ρ ω K V ad s h c=>st_dn st sg k h c) (HkOK.at (λP fz ρ ω K V ad s h c=>st_kr st sg k hf hfr' h c) HkOK.none)
 refine at1 (Q:=λf s'=>EvR V s (λt=>t=T.bool true) (match f with | .ret v=>v | _=>.none) s') ?_ (λf s' hq=>hq.elim λt ht x r=>?_) aah
 . show wpAny _ _ (execs ([abb 29 0,abb 29 1,abb 29 2,abb 29 3,abb 29 4,abb 29 5]++[abb 29 6,abb 29 7,abb 29 8,abb 29 9,abb 29 10,abb 29 11,abb 29 12,abb 29 13,abb 29 14,abb 29 15,abb 29 16]) env) _ _ _
   refine acb (n:=20) (n':=20) (ow:=owW) sg k hh 30 _ ?_ c Stp.refl
   refine law_a hl ?_
   intro aa aw aE ah _
   have h3:cW l 3<2^24:=ajT hl (by decide)
   have h4:cW l 4<2^24:=ajT hl (by decide)
   have hp:cW l 4 / 30<=1000000:=by exact at0 (Nat.div_le_div_right (aug h4)) (by decide)
   have aj:=ah.release (x:="row") rfl
   have g:Good (WV (2+cW l 4%30)):=atQ (at9 _ _) (at8 (auk (auK _ (by decide))) 2)
   refine aen (n:=20) (n':=20) (m:=30) (ow:=owW) (hk:=anC) sg k hh aj (K:=λt=>t=.bool true) ?_
   exact law_b g (aur h3 (by decide)) hp ⟨adf _,adf _,adf _⟩ (apa (adf _) (adf _) (adf _)) rfl rfl
 . subst ht
   exact acp r λe=>⟨e,x⟩
end
set_option backward.match.sparseCases false
theorem cd_of{K:Frag}{v:Value}{q:Str}(h:apg K v=some q):∃ c o vs t,v=.ref c/\K.lookup c=some o/\o.data=.fields vs/\vs[1]?=some (.str q t):=by
 cases v <;> first | exact nos h | skip
 rename_i c
 obtain ⟨o,e,h⟩:=Option.bind_eq_some_iff.mp h
 obtain ⟨cls,dict,data,sl⟩:=o
 cases data <;> first | exact nos h | skip
 rename_i vs
 obtain ⟨v,e',h⟩:=Option.bind_eq_some_iff.mp h
 cases v <;> first | exact nos h | skip
 obtain rfl:=soi h
 exact ⟨c,_,vs,_,rfl,e,rfl,e'⟩
theorem ar0{K:Frag}{q:Addr×Addr×Str×Stmt}(h:ajb K q.1=fvOf q):FnIn K q.1 q.2.2.2/\FnInC K q.1 q.2.1 q.2.2.1 q.2.2.2:=by
 refine ag λG kG=>?_
 obtain ⟨o,e,h⟩:=Option.bind_eq_some_iff.mp h
 obtain ⟨cls,dict,data,sl⟩:=o
 refine kG ?_
 cases data <;> first | exact nos h | skip
 rename_i fd
 have h:=soi h
 have hc:=congrArg FV.cd h
 refine ag λG kG=>?_
 obtain ⟨c,oc,vs,t,e1,e2,e3,e4⟩:=cd_of hc
 refine kG ?_
 have hq:fd.qualname=q.2.2.1:=congrArg FV.qual h
 have hcode:fd.code=.ref q.2.1:=congrArg FV.code h
 cases Value.ref.inj (hcode.symm.trans e1)
 replace e4:=hq▸e4
 exact ⟨⟨_,fd,q.2.1,oc,vs,t,e,congrArg FV.cls h,rfl,congrArg FV.params h,congrArg FV.body h,congrArg FV.scope h,congrArg FV.globals h,congrArg FV.builtins h,congrArg FV.closure h,congrArg FV.defaults h,congrArg FV.kwdefaults h,hcode,e2,e3,e4⟩,⟨_,fd,oc,vs,t,e,congrArg FV.cls h,rfl,congrArg FV.params h,congrArg FV.body h,congrArg FV.scope h,congrArg FV.globals h,congrArg FV.builtins h,congrArg FV.closure h,congrArg FV.defaults h,hq,hcode,e2,e3,e4⟩⟩
set_option backward.match.sparseCases true
theorem apb:∀ p∈anw,bootBuiltins p.1=some p.2:=
 List.map_inj_left.mp (by kernel_rfl:anw.map (λp=>bootBuiltins p.1)=anw.map λp=>some p.2)
theorem ar1:∀ a∈asQ,a∉aa7:=by decide +kernel
theorem apc:∀ p∈anw,p.1≠("__name__":Str):=by decide
theorem ar2{w:World}{mg mb:Str->Option Value}{h:Heap}(x:Says h) (hg:h.Ns mainGlobals mg) (hb:∀ x:Str,x≠"__name__"->mb x=bootBuiltins x):∃ K,Stat ⟨w,K,mg,mb⟩/\StatC ⟨w,K,mg,mb⟩/\K.In h/\TabInv h:=by
 refine (x.ns).elim λo hX1=>hX1.elim λes hX2=>hX2.elim λep hX3=>hX3.elim λe hX4=>hX4.elim λd q=>?_
 refine ag λG kG=>?_
 obtain ⟨o',es',ep',e',d',_,q'⟩:=hg
 refine kG ?_
 cases soi (e.symm.trans e')
 replace d':=d▸d'
 cases d'
 rw [funext q'] at q
 refine (x.k).elim λK hX1=>hX1.elim λkin hX2=>hX2.elim λkoff kq=>?_
 have bs:ajc K=List.replicate 10 true:=congrArg (·.2.1) kq
 have fn:∀ q∈fnQ,FnIn K q.1 q.2.2.2/\FnInC K q.1 q.2.1 q.2.2.1 q.2.2.2:=λq hq=>ar0 (List.map_inj_left.mp (congrArg (·.1) kq:fnQ.map (λq=>ajb K q.1)=fnQ.map fvOf) q hq)
 unfold akZ anE at q
 rw [List.map_append,List.map_append,List.map_map] at q
 obtain ⟨q12,q3⟩:=List.append_inj' q (by rfl)
 refine (List.append_inj' q12 (by rfl)).elim λq1 q2=>?_
 have m1:∀ p∈fnL,mg p.1=some (.ref p.2.1):=List.map_inj_left.mp q1
 have m3:∀ p∈anw,mg p.1=none:=List.map_inj_left.mp q3
 have b:∀ i,i<10->(ajc K)[i]?=some true:=λi hi=>by rw [bs,List.getElem?_replicate,if_pos hi]
 have hcmp:=(fn (35,34,"TupleComp.compare",ah8) (auL _ (.head _))).1
 have hini:=(fn (28,27,"TupleComp.__init__",agC) (auL _ (.tail _ (.head _)))).1
 have fC:∀ p∈fnL,FnInC K p.2.1 (p.2.1-1) p.1 (aaa p.2.2):=λp hp=>(fn _ ((λp hp=>au7 _ (List.mem_map_of_mem hp):∀ p∈fnL,(p.2.1,p.2.1-1,p.1,aaa p.2.2)∈fnQ) p hp)).2
 have q2:=List.cons_eq_cons.mp q2
 have q3':=List.cons_eq_cons.mp q2.2
 have q4:=List.cons_eq_cons.mp q3'.2
 have fs1:=List.cons_eq_cons.mp (congrArg (·.2.2.1) kq)
 have fs2:=List.cons_eq_cons.mp fs1.2
 have ts1:=List.cons_eq_cons.mp (congrArg (·.2.2.2.2.1) kq)
 refine ⟨K,{
  koff:=λa o e=>ar1 a (koff a o e)
  fn:=λp hp=>⟨m1 p hp,(fn _ ((λp hp=>au7 _ (List.mem_map_of_mem hp):∀ p∈fnL,(p.2.1,p.2.1-1,p.1,aaa p.2.2)∈fnQ) p hp)).1⟩
  con:=List.forall_mem_cons.mpr ⟨⟨_,q2.1⟩,List.forall_mem_cons.mpr ⟨⟨_,q3'.1⟩,List.forall_mem_cons.mpr ⟨⟨_,q4.1⟩,λ_ h=>nomatch h⟩⟩⟩
  blt:=λp hp=>⟨m3 p hp,(hb p.1 (apc p hp)).trans (apb p hp)⟩
  fnc:=List.forall_mem_cons.mpr ⟨fC ("add_callers",56,3) (by decide),List.forall_mem_cons.mpr ⟨fC ("_int2digits",77,8) (by decide),List.forall_mem_cons.mpr ⟨fC ("_digits2int",84,9) (by decide),List.forall_mem_cons.mpr ⟨fC ("_law_least",153,24) (by decide),λ_ h=>nomatch h⟩⟩⟩⟩
  bm:=⟨4,_,(List.cons_eq_cons.mp q4.2).1,by decide,by decide,(congrArg (·.2.2.2.2.2) kq),rfl,rfl,rfl⟩
  cmp:=hcmp
  c1:=soi (b 0 ((auh _)))
  c2:=fs1.1
  c3:=ts1.1
  c4:=soi (b 1 (by decide))
  c5:=fs2.1 },⟨(List.cons_eq_cons.mp (List.cons_eq_cons.mp q4.2).2).1,soi (b 2 (by decide)),soi (b 3 (by decide)),⟨28,(List.cons_eq_cons.mp fs2.2).1,(List.cons_eq_cons.mp ts1.2).1,hini⟩,(List.cons_eq_cons.mp (List.cons_eq_cons.mp fs2.2).2).1,soi (b 4 (by decide)),(congrArg (·.2.2.2.1) kq),soi (b 5 (by decide))⟩,kin,λq hq=>⟨codeHd_of_K kin ?_,#[],x.t _ (ai9 q hq),.inl rfl⟩⟩
 exact List.map_inj_left.mp ((congrArg (List.drop 6) bs).trans (rfl:_=aea.map λ_=>true)) q hq
theorem apd{P:Params}{h:Heap}{v:Value}{d:WData}{i:Int}(x:Well P h v d) (e:d=.int i):∃ t,v=.int i t:=by
 revert e
 cases x with
 | int i t=>exact λe=>WData.int.inj e▸⟨t,rfl⟩
 | _=>exact λe=>WData.noConfusion e
theorem anu{P:Params}{h:Heap}{vs:List Value}{ds es:List WData}{i:Int}(x:WellAll P h vs ds) (e:ds=.int i ::es):∃ t us,vs=.int i t ::us/\WellAll P h us es:=by
 cases x with
 | nil=>cases e
 | cons a b=>cases e;obtain ⟨t,rfl⟩:=apd a rfl;exact ⟨t,_,rfl,b⟩
theorem ape{P:Params}{h:Heap}{vs:List Value}{ds:List WData}(x:WellAll P h vs ds) (e:ds=[]):vs=[]:=by
 cases x with
 | nil=>rfl
 | cons a b=>cases e
theorem ah6{P:Params}{h:Heap}{V:aag}:∀ {l:List Int}{vs:List Value},WellAll P h vs (ofPys (l.map PyData.int))->RepL V h vs (l.map .int)
 | [],_,x=>ape x rfl▸.nil
 | _ ::l,_,x=>by
  obtain ⟨t,us,rfl,y⟩:=anu x rfl
  exact .cons (.int _ _) (ah6 y)
theorem anv{P:Params}{h:Heap}{v:Value}{l:List Int}(x:Well P h v (ofPy (.list (l.map .int)))):Rep (λ_=>True) h v (.lst (l.map .int)):=by
 cases x with
 | list e r=>exact .lst trivial ⟨_,e⟩ (ah6 r)
theorem law_top{w:World}{mg mb:Str->Option Value}{s:Shared}{fa:Addr}{v:Value}{l:List Int}(Y:Says s.heap) (hg:s.heap.Ns mainGlobals mg) (hb:s.heap.Ns builtinsNs mb) (hn:s.heap.NoLimit) (hB:∀ x:Str,x≠"__name__"->mb x=bootBuiltins x)
  (hf:mg "law"=some (.ref fa)) (hl:¬ (63:Int)<l.length) (hs:s.gens=#[]) (x:Well w.params s.heap v (ofPy (.list (l.map .int)))) :
  wpAny (model pg w) callerA (call (.ref fa) [v]) (λu s'=>u=.bool true/\OldK s.heap s'.heap/\s'.os=s.os/\AllBare s'.gens) No s:=by
 refine (ar2 (w:=w) Y hg hB).elim λK hX1=>hX1.elim λst hX2=>hX2.elim λC hX3=>hX3.elim λkin tab=>?_
 cases soi (hf.symm.trans (st.fn ("law",180,29) (by decide)).1)
 refine at1 (atX st C (A:=callerA) (l:=l) (Int.ofNat_lt.mp (Int.lt_of_le_of_lt (Int.not_lt.mp hl) (by decide))) ⟨.inl rfl,λ_=>rfl,by decide,by decide⟩ rfl ⟨st,tab,kin,hg,hb,hn⟩ (anv x)) (λu s' hZ1=>hZ1.elim λe y=>⟨e,⟨λb o e=>?_,λb o e=>?_⟩,y.os,y.gens (.of_eq hs)⟩) aah
 . by_cases hb:b∈aa7
   . have e':=Y.t b hb
     cases soi (e.symm.trans e')
     obtain ⟨q,hq,rfl⟩:=ac6 b hb
     obtain ⟨_,ps,h1,_⟩:=y.tab tab q hq
     obtain ⟨c,_,_,_⟩:=tab q hq
     exact .inr (.inl ⟨(c.tab e').isCodeTable,rfl,#[],ps,rfl,by rw [h1,Array.empty_append]⟩)
   . exact .inl (y.keep b o hb id e)
 . cases q:s'.heap.get? b with
   | none=>exact nos ((y.there b id q).symm.trans e)
   | some o'=>exact ⟨o',rfl⟩
theorem pg_eq:PySem.Challenge.rw_xh0021_01.row.prog=pg:=by unfold pg;rfl
theorem top_law:apj PySem.Challenge.rw_xh0021_01.row.prog:=pg_eq▸λY a b c d e f g h=>law_top Y a b c d e f g h
end Mine
theorem PySem.Challenge.cw_xh0021_01_holds : PySem.Challenge.rw_xh0021_01.Holds :=
  Mine.head Mine.top_law
