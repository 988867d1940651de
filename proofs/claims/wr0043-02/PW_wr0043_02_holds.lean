import PyProof.Rows.All
import Wide.All
import OpenK.AllK
import Wide.FinOn
import PyProof.Rows.SetFrom
import PyProof.Rows.SortStr
import KE.KDictList
import KE.KxMul
import PySem.Challenge.RW_wr0043_02
set_option linter.all false
set_option tactic.hygienic false
set_option genSizeOf false
set_option genSizeOfSpec false
set_option maxRecDepth 100000
set_option Elab.async false
set_option maxHeartbeats 0
namespace Mine
open PySem PySem.W PySem.Calls PyProof.Rows
open Builtin Builtin.Str
def Q0:=@wpAny_bind
def Q1:=@Nat.le_trans
def Q2:=@Nat.le_refl
def Q3:=@List.mem_singleton
def Q5:=@wpAny_pure
def Q6:=@List.length_map
def Q7:=@List.getElem?_eq_getElem
def Q8:=@List.length_append
def Q9:=@Heap.get?_push_of_some
def Qz:=@List.lookup_cons
def Qx:=@List.mem_cons
def Qw:=@decide_eq_true
def Qv:=@List.mem_map
def Qy:=@Int.natCast_nonneg
def Qu:=@List.map_cons
def Qb:=@List.length_cons
def Qp:=@Heap.get?_push_size
def Qg:=@Nat.lt_of_lt_of_le
def Qf:=@List.all_eq_true
def Qh:=@Heap.lt_size
def Qt:=@beq_self_eq_true
def Ql:=@beq_eq_false_iff_ne
def Qc:=@of_decide_eq_true
def Qs:=@List.append_nil
def Qr:=@List.append_assoc
def Qa:=@Bool.and_eq_true
def Qe:=@Bool.and_eq_true_iff
def Qo:=@List.getElem?_eq_none
def Z1:=@wpAny_holding
def Z2:=@List.getElem?_append_right
def Z3:=@List.map_map
def Z4:=@List.size_toArray
def Z5:=@decide_eq_false
def Z7:=@List.getElem?_map
def Zq:=@Nat.le_add_right
def Zj:=@Nat.ne_of_lt
def Zx:=@List.getElem?_append_left
def Zw:=@List.length_singleton
def Zv:=@sizeLine_eq
def Zy:=@Nat.zero_le
def Zu:=@Bool.false_ne_true
def Zm:=@congrArg
def Zg:=@Array.length_toList
def Zf:=@List.not_mem_nil
def Zh:=@List.getElem?_toArray
def Zd:=@List.contains_iff_mem
def Zt:=@List.map_append
def Zc:=@Nat.lt_succ_self
def Zs:=@List.length_nil
def Zr:=@beq_iff_eq
def Za:=@Nat.mod_lt
def Zi:=@cond_true
def Ze:=@BindsTo.of_eq
def Zo:=@cond_false
def Y3:=@List.mem_of_getElem?
def Y6:=@Nat.lt_irrefl
def Y7:=@List.nil_append
def Y8:=@List.length_eq_zero_iff
def Y9:=@List.getD_eq_getElem?_getD
def Yq:=@List.cons_append
end Mine
namespace Mine
open PySem PySem.W PySem.Calls PyProof.Rows
section
variable {tb:String->Option Builtin}{pr:Program}{w:World}{n₀:Nat}{ann:Option Value}
abbrev Go (tb:String->Option Builtin)(pr:Program)(w:World)(n₀:Nat)(ann:Option Value)(n:Nat)(s:SharedT)(t:Thread)(s':SharedT)(t':Thread):Prop:=
 segGoT tb pr w n₀ ann 1 n s t=some (s',t')
theorem Ll:∀{n m:Nat} {s s1 s2:SharedT} {t t1 t2:Thread},Go tb pr w n₀ ann n s t s1 t1->Go tb pr w n₀ ann m s1 t1 s2 t2->Go tb pr w n₀ ann (n+m) s t s2 t2:=by
 intro n;induction n with
 |zero=>
  intro m s s1 s2 t t1 t2 h k;unfold Go at h;simp only[segGoT,Option.some.injEq,Prod.mk.injEq]at h;obtain⟨rfl,rfl⟩:=h;rw[Nat.zero_add];exact k
 |succ n ih=>
  intro m s s1 s2 t t1 t2 h k;rw[show n+1+m=n+m+1 by exact Nat.add_right_comm _ _ _];unfold Go at h |-;unfold segGoT at h |-;cases he:endAt 1 t with
  |some f=>rw[he]at h;cases h
  |none=>
   rw[he]at h;cases hk:stepOk n₀ ann t with
   |false=>rw[hk]at h;cases h
   |true=>
    rw[hk]at h;cases hs:stepT (denote tb) pr w s t with
    |none=>rw[hs]at h;cases h
    |some r=>
     obtain⟨s',t'⟩:=r;rw[hs]at h;exact ih h k
theorem P1 {s s':SharedT}{t t':Thread}(he:endAt 1 t=none)(hk:stepOk n₀ ann t=true)(hs:stepT (denote tb) pr w s t=some (s',t')):Go tb pr w n₀ ann 1 s t s' t':=by
 unfold Go segGoT;rw[he,hk,hs];rfl
theorem Pz {t:Thread}{a b:Frame}{r:List Frame}(h:t.stack=a::b::r):endAt 1 t=none:=by
 unfold endAt;rw[h];rfl
def Qm (tb:String->Option Builtin)(pr:Program)(w:World)(n₀:Nat)(ann:Option Value)(N:Nat){α:Type}(s:SharedT)(p:Pos)(x:Sem α)(s':SharedT)(p':Pos)(a:α):Prop:=
 ∃n,n<=N/\∀(K:α->Sem Fin) (H:Value->Sem Fin) (gd:Bool->Bool) (lv:List Value->List Value) (c:Code) (st:List Frame),st≠[]->
  Go tb pr w n₀ ann n s ⟨x.wrap K H gd lv,c,p,st⟩ s' ⟨K a,c,p',st⟩
variable {α β:Type}{s s' s1 s2:SharedT}{p p' p1 p2:Pos}
theorem Qm.pure {a:α}:Qm tb pr w n₀ ann 0 s p (.pure a) s p a:=⟨0,Q2 _,λ J J J J J J J=>rfl⟩
theorem Qm.pure' {a:α}:Qm tb pr w n₀ ann 0 s p (Pure.pure a) s p a:=⟨0,Q2 _,λ J J J J J J J=>rfl⟩
theorem Qm.mono {N M:Nat}{x:Sem α}{a:α}(h:Qm tb pr w n₀ ann N s p x s1 p1 a)(e:N<=M):Qm tb pr w n₀ ann M s p x s1 p1 a:=
 let ⟨n,hn,g⟩:=h;⟨n,Q1 hn e,g⟩
theorem Qm.bind {N A B:Nat}{x:Sem α}{f:α->Sem β}{a:α}{b:β}(h:Qm tb pr w n₀ ann A s p x s1 p1 a)(k:Qm tb pr w n₀ ann B s1 p1 (f a) s2 p2 b)(e:A+B<=N:=by omega):Qm tb pr w n₀ ann N s p (x >>=f) s2 p2 b:=by
 obtain⟨n,ln,hn⟩:=h;obtain⟨m,lm,hm⟩:=k;refine⟨n+m,by lia,λ K H gd lv c st hst=>?_⟩;have e:(x >>=f).wrap K H gd lv=x.wrap (λ a=>(f a).wrap K H gd lv) H gd lv:=by
  rw[Sem.bind_eq_wrap',Sem.wrap_wrap];rfl
 rw[e];exact Ll (hn _ _ _ _ _ _ hst) (hm _ _ _ _ _ _ hst)
theorem Qm.keep {N:Nat}{vs:List Value}{x:Sem α}{a:α}(h:Qm tb pr w n₀ ann N s p x s1 p1 a):Qm tb pr w n₀ ann N s p (x.keep vs) s1 p1 a:=by
 obtain⟨n,ln,hn⟩:=h;refine⟨n,ln,λ K H gd lv c st hst=>?_⟩;rw[Sem.keep_eq_wrap,Sem.wrap_wrap];exact hn _ _ _ _ _ _ hst
theorem Qm.onRaise {N:Nat}{f:Value->Sem Unit}{x:Sem α}{a:α}(h:Qm tb pr w n₀ ann N s p x s1 p1 a):Qm tb pr w n₀ ann N s p (x.onRaise f) s1 p1 a:=by
 obtain⟨n,ln,hn⟩:=h;refine⟨n,ln,λ K H gd lv c st hst=>?_⟩;rw[Sem.onRaise_eq_wrap,Sem.wrap_wrap];exact hn _ _ _ _ _ _ hst
theorem Qm.tryCatch {N:Nat}{f:Value->Sem α}{x:Sem α}{a:α}(h:Qm tb pr w n₀ ann N s p x s1 p1 a):Qm tb pr w n₀ ann N s p (x.tryCatch f) s1 p1 a:=by
 obtain⟨n,ln,hn⟩:=h;refine⟨n,ln,λ K H gd lv c st hst=>?_⟩;rw[Sem.tryCatch_eq_wrap,Sem.wrap_wrap];exact hn _ _ _ _ _ _ hst
theorem Qm.holding {N:Nat}{vs:List Value}{x:Sem α}{a:α}(h:Qm tb pr w n₀ ann N s p x s1 p1 a):Qm tb pr w n₀ ann N s p (holding vs x) s1 p1 a:=by
 unfold PySem.holding;split
 .exact h
 .exact h.keep
theorem G4 {N:Nat}{x:Sem α}{y:Sem α}{a:α}
  (h1:∀(K:α->Sem Fin) H gd lv c st,endAt 1 ⟨x.wrap K H gd lv,c,p,st⟩=none)
  (h2:∀(K:α->Sem Fin) H gd lv c st,stepOk n₀ ann ⟨x.wrap K H gd lv,c,p,st⟩=true)
  (h3:∀(K:α->Sem Fin) H gd lv c st,stepT (denote tb) pr w s ⟨x.wrap K H gd lv,c,p,st⟩=some (s1,⟨y.wrap K H gd lv,c,p1,st⟩))
  (k:Qm tb pr w n₀ ann N s1 p1 y s2 p2 a):Qm tb pr w n₀ ann (N+1) s p x s2 p2 a:=by
 obtain⟨m,lm,hm⟩:=k;exact⟨1+m,by lia,λ K H gd lv c st hst=>Ll (P1 (h1 ..) (h2 ..) (h3 ..)) (hm _ _ _ _ _ _ hst)⟩
theorem Vw {cur:Sem Fin}{c:Code}{st:List Frame}(h0:endAt 0 ⟨cur,c,p,[]⟩=none)(h1:endAt 1 ⟨cur,c,p,[]⟩=none):endAt 1 ⟨cur,c,p,st⟩=none:=by
 delta endAt at h0 h1 |-
 dsimp only at h0 h1 |-;cases st.length==1
 .exact h1
 .exact h0
theorem Qm.rule {N:Nat}{t:String}{k:Unit->Sem α}{a:α}(h:Qm tb pr w n₀ ann N s p (k ()) s1 p1 a):Qm tb pr w n₀ ann (N+1) s p (.rule t k) s1 p1 a:=by
 refine G4 (λ K H gd lv c st=>Vw rfl rfl) (λ K H gd lv c st=>rfl) (λ K H gd lv c st=>?_) h;obtain⟨T,n,life,gens,drawn,toks,os⟩:=s;rfl
theorem Qm.at {N:Nat}{q:Pos}{k:Unit->Sem α}{a:α}(h:Qm tb pr w n₀ ann N s q (k ()) s1 p1 a):Qm tb pr w n₀ ann (N+1) s p (.at q k) s1 p1 a:=by
 refine G4 (λ K H gd lv c st=>Vw rfl rfl) (λ K H gd lv c st=>rfl) (λ K H gd lv c st=>?_) h;obtain⟨T,n,life,gens,drawn,toks,os⟩:=s;rfl
theorem Qm.fresh {N:Nat}{k:Tok->Sem α}{a:α}(h:Qm tb pr w n₀ ann N {s with toks:=s.toks+1} p (k s.toks) s1 p1 a):Qm tb pr w n₀ ann (N+1) s p (.fresh k) s1 p1 a:=by
 refine G4 (λ K H gd lv c st=>Vw rfl rfl) (λ K H gd lv c st=>rfl) (λ K H gd lv c st=>?_) h;obtain⟨T,n,life,gens,drawn,toks,os⟩:=s;rfl
theorem Qm.ask {N:Nat}{k:Setting->Sem α}{a:α}(h:Qm tb pr w n₀ ann N s p (k ⟨pr,w.params⟩) s1 p1 a):Qm tb pr w n₀ ann (N+1) s p (.ask k) s1 p1 a:=by
 refine G4 (λ K H gd lv c st=>Vw rfl rfl) (λ K H gd lv c st=>rfl) (λ K H gd lv c st=>?_) h;obtain⟨T,n,life,gens,drawn,toks,os⟩:=s;rfl
theorem Qga {a b:Nat}(h:a<b):Nat.blt a b=true:=Nat.ble_eq_true_of_le h
theorem Qm.load {N:Nat}{a:Addr}{q:Option Value}{k:Obj->Sem α}{o:Obj}{r:α}(hlt:a<s.n)(ho:s.tree.get a=some o)(ha:alive o=some o)
  (h:Qm tb pr w n₀ ann N s p (k o) s1 p1 r):Qm tb pr w n₀ ann (N+1) s p (.load a q k) s1 p1 r:=by
 refine G4 (λ K H gd lv c st=>Vw rfl rfl) (λ K H gd lv c st=>rfl) (λ K H gd lv c st=>?_) h;obtain⟨T,n,life,gens,drawn,toks,os⟩:=s;simp only at hlt ho;simp only[Sem.wrap,stepT,Qga hlt,ho,ha]
theorem Qm.update {N:Nat}{a:Addr}{q:Option Value}{f:Obj->Obj}{k:Unit->Sem α}{o:Obj}{r:α}(hlt:a<s.n)(ho:s.tree.get a=some o)(ha:alive o=some o)(hn:Nat.ble n₀ a=true)
  (h:Qm tb pr w n₀ ann N {s with tree:=s.tree.set a f} p (k ()) s1 p1 r):Qm tb pr w n₀ ann (N+1) s p (.update a q f k) s1 p1 r:=by
 refine G4 (λ K H gd lv c st=>Vw rfl rfl) (λ K H gd lv c st=>?_) (λ K H gd lv c st=>?_) h
 .show((_:Bool)&&(Nat.ble n₀ a||_||_||_))=true;rw[hn];rfl
 obtain⟨T,n,life,gens,drawn,toks,os⟩:=s;simp only at hlt ho;simp only[Sem.wrap,stepT,Qga hlt,ho,ha]
theorem Qm.alloc {N:Nat}{o:Obj}{k:Addr->Sem α}{r:α}(hg:((s.tree.ins s.n o).get s.n).isSome=true)
  (h:Qm tb pr w n₀ ann N {s with tree:=s.tree.ins s.n o,n:=s.n+1} p (k s.n) s1 p1 r):Qm tb pr w n₀ ann (N+1) s p (.alloc o k) s1 p1 r:=by
 refine G4 (λ K H gd lv c st=>Vw rfl rfl) (λ K H gd lv c st=>rfl) (λ K H gd lv c st=>?_) h;obtain⟨T,n,life,gens,drawn,toks,os⟩:=s;simp only at hg;simp only[Sem.wrap,stepT,hg]
def Qzk (tb:String->Option Builtin)(pr:Program)(w:World)(n₀:Nat)(ann:Option Value)(N:Nat)(s:SharedT)(p:Pos)(c:Code)(s':SharedT)(r:Result):Prop:=
 ∃n,n<=N/\∀(k:Result->Sem Fin) (h:Option Value) (g:Bool) (l:List Value) (cd:Code) (q:Pos) (kept:List Value) (st:List Frame),st≠[]->
  Go tb pr w n₀ ann n s ⟨denote tb c,c,p,.ret k h g l cd q kept::st⟩ s' ⟨k r,cd,q,st⟩
theorem Qm.call {A B:Nat}{cd:Code}{m:Option Value}{g:Bool}{l:List Value}{k:Result->Sem α}{r:Result}{a:α}(h:Qzk tb pr w n₀ ann A s p cd s1 r)
  (hk:Qm tb pr w n₀ ann B s1 p (k r) s2 p2 a)   :Qm tb pr w n₀ ann (1+(A+B)) s p (.call cd m g l k) s2 p2 a:=by
 obtain⟨n,ln,hn⟩:=h;obtain⟨m',lm,hm⟩:=hk;refine⟨1+(n+m'),by lia,λ K H gd lv c st hst=>?_⟩;have e:∃kept,stepT (denote tb) pr w s ⟨(Sem.call cd m g l k).wrap K H gd lv,c,p,st⟩=some (s,⟨denote tb cd,cd,p,.ret (λ r=>(k r).wrap K H gd lv) m (gd g) (lv l) c p kept::st⟩):=by
  obtain⟨T,n,life,gens,drawn,toks,os⟩:=s;exact⟨_,rfl⟩
 obtain⟨kept,e⟩:=e;exact Ll (P1 (Vw rfl rfl) rfl e) (Ll (hn (λ r=>(k r).wrap K H gd lv) m (gd g) (lv l) c p kept st hst) (hm K H gd lv c st hst))
end
theorem Qgd (k:Int)(t:Tok):checkBuiltinCall "int.__hash__" ⟨[.int k t],[]⟩=pure ():=by kernel_rfl
theorem As (k:Int)(t:Tok):specialOf (.int k t) (Str.ofString "__hash__")=pure (some (.builtin "int.__hash__")):=by
 show typeLookup (.type "int") (Str.ofString "__hash__")=_;exact slot_int_hash.lookup
theorem Qxv (k:Int)(t:Tok):bindSpecial (.builtin "int.__hash__") (.int k t)=pure (.builtin "int.__hash__",[.int k t]):=slot_int_hash.bind _
noncomputable def E8 (k:Int):Int:=let h:Int:=k.natAbs%(2^61-1:Nat);let h:=if k<0 then -h else h;if h==-1 then -2 else h
theorem Qqs (id:String)(args:Args)(b:Builtin)(h:entryFor table id=some b):denote table (.builtin id args)=b args:=by
 show(match entryFor table id with |some b=>b args |none=>unsupported ((withoutEnding? id "#data").getD id))=_
 rw[h]
theorem Qgv (id:String)(args:Args):denote table (.call (.builtin id) args)=(checkBuiltinCall id args >>=λ J=>again (.builtin id args)):=rfl
theorem Qwg (k:Int)(h0:0<=k)(h1:k<2^61-1):E8 k=k:=by
 have e:((k.natAbs:Int)%((2^61-1:Nat):Int))=k:=by
  have q:((2^61-1:Nat):Int)=2305843009213693951:=by decide
  rw[q,Int.natAbs_of_nonneg h0];exact Int.emod_eq_of_lt h0 (Int.lt_of_lt_of_le h1 (by decide))
 unfold E8;dsimp only;rw[e,if_neg (Int.not_lt.mpr h0),if_neg (by simp;lia)]
section
variable {pr:Program}{w:World}{n₀:Nat}{ann:Option Value}
variable {s s' s1 s2:SharedT}{p p' p1 p2:Pos}
theorem Da (i:Int):Qm table pr w n₀ ann 1 s p (mkInt i) {s with toks:=s.toks+1} p (.int i s.toks):=Qm.fresh Qm.pure
theorem Mb (x:Str):Qm table pr w n₀ ann 1 s p (mkText x) {s with toks:=s.toks+1} p (.str x s.toks):=Qm.fresh Qm.pure
theorem B5 (q:Pos):Qm table pr w n₀ ann 1 s p (standAt q) s q ():=Qm.at Qm.pure
theorem Qym (k:Int)(t:Tok)(h0:0<=k)(h1:k<2^61-1):
  Qzk table pr w n₀ ann 3 s p (.call (.builtin "int.__hash__") ⟨[.int k t],[]⟩) {s with toks:=s.toks+1} (.ok (.ret (.int k s.toks))):=by
 have hx:E8 k=k:=Qwg k h0 h1;have hb:Builtin.«int.__hash__» ⟨[.int k t],[]⟩=.fresh λ u=>.pure (.done (.ret (.int k u))):=by
  have:Builtin.«int.__hash__» ⟨[.int k t],[]⟩=.fresh λ u=>.pure (.done (.ret (.int (E8 k) u))):=by kernel_rfl
  rw[this,hx]
 have hd1:denote table (.call (.builtin "int.__hash__") ⟨[.int k t],[]⟩)=.pure (.again (.builtin "int.__hash__" ⟨[.int k t],[]⟩)):=by
  rw[Qgv,Qgd];rfl
 have hd2:denote table (.builtin "int.__hash__" ⟨[.int k t],[]⟩)=.fresh λ u=>.pure (.done (.ret (.int k u))):=by
  rw[Qqs _ _ _ entry_int_hash];exact hb
 refine⟨1+(1+1),Q2 _,λ kk h g l cd q kept st hst=>?_⟩
 obtain⟨b,r,rfl⟩:∃b r,st=b::r:=by cases st with |nil=>exact absurd rfl hst |cons b r=>exact⟨b,r,rfl⟩
 rw[hd1];obtain⟨T,n,life,gens,drawn,toks,os⟩:=s;have e1:∃kept',stepT (denote table) pr w ⟨T,n,life,gens,drawn,toks,os⟩ ⟨.pure (.again (.builtin "int.__hash__" ⟨[.int k t],[]⟩)),.call (.builtin "int.__hash__") ⟨[.int k t],[]⟩,p,.ret kk h g l cd q kept::b::r⟩=
   some (⟨T,n,life,gens,drawn,toks,os⟩,⟨.fresh λ u=>.pure (.done (.ret (.int k u))),.builtin "int.__hash__" ⟨[.int k t],[]⟩,p,.ret kk h g l cd q kept'::b::r⟩):=by
  rw[<- hd2];exact⟨_,rfl⟩
 obtain⟨kept',e1⟩:=e1;refine Ll (P1 (Pz rfl) (by kernel_rfl) e1) (Ll (P1 (s':=⟨T,n,life,gens,drawn,toks+1,os⟩) (Pz rfl) rfl rfl) (P1 (Pz rfl) rfl rfl))
theorem Qy5 (k:Int)(t:Tok)(h0:0<=k)(h1:k<2^61-1):Qm table pr w n₀ ann 10 s p (pyHash (.int k t)) {s with toks:=s.toks+1} p k:=by
 unfold pyHash;refine Qm.bind (B:=10) Qm.pure' ?_;rw[As];refine Qm.bind (B:=10) Qm.pure' ?_;rw[if_neg (by decide)];refine Qm.bind (B:=10) Qm.pure' ?_;rw[if_neg (by decide)]
 refine Qm.bind (A:=8) (B:=2) (p1:=p) (a:=some (.int k s.toks)) (s1:={s with toks:=s.toks+1}) ?_ ?_
 .unfold callSpecialIfBoundUnlessNone?;refine Qm.holding (Qm.bind (A:=2) (B:=6) (a:=some (.builtin "int.__hash__",[.int k t])) (s1:=s) (p1:=p) ?_ ?_)
  .unfold bindSpecialIfBound?;rw[As];refine Qm.bind (B:=2) Qm.pure' ?_;dsimp only;rw[Qxv];refine Qm.bind (B:=1) (Qm.ask Qm.pure) ?_;split
   .exact Qm.bind Qm.pure' Qm.pure'
   .exact Qm.tryCatch (Qm.bind Qm.pure' Qm.pure')
  .dsimp only;rw[if_neg (by decide)]
   refine Qm.bind (A:=6) (p1:=p) (a:=.int k s.toks) (s1:={s with toks:=s.toks+1}) ?_ Qm.pure'
   exact Qm.bind (a:=Flow.ret (.int k s.toks)) (Qm.call (Qym k t h0 h1) Qm.pure) Qm.pure'
 .dsimp only;unfold pyHashByItsType.reduced;rw[if_pos (by simp;lia),if_neg (by simp;lia)];exact Qm.pure'.mono (by exact Zy _)
end
noncomputable abbrev Xs (es:List DictEntry)(ep:Nat):Obj:=⟨.type "dict",none,.dict es.toArray ep,#[]⟩
structure Tq (d:Addr)(s s':SharedT)(dt:Nat):Prop where
 n:s'.n=s.n
 life:s'.life=s.life
 gens:s'.gens=s.gens
 drawn:s'.drawn=s.drawn
 os:s'.os=s.os
 toks:s'.toks=s.toks+dt
 tree:∀i,i≠d->s'.tree.get i=s.tree.get i
theorem Tq.refl (d:Addr)(s:SharedT):Tq d s s 0:=⟨rfl,rfl,rfl,rfl,rfl,rfl,λ J J=>rfl⟩
theorem Tq.trans {d:Addr}{s s1 s2:SharedT}{a b:Nat}(x:Tq d s s1 a)(y:Tq d s1 s2 b):Tq d s s2 (a+b):=
 ⟨y.n.trans x.n,y.life.trans x.life,y.gens.trans x.gens,y.drawn.trans x.drawn,y.os.trans x.os,by rw[y.toks,x.toks];exact Nat.add_assoc _ _ _,λ i hi=>(y.tree i hi).trans (x.tree i hi)⟩
section
variable {pr:Program}{w:World}{n₀:Nat}{ann:Option Value}
variable {s s' s1 s2:SharedT}{p p' p1 p2:Pos}
theorem Qjz (es:List DictEntry)(k:Int)(hno:∀e∈es,e.hash≠k):placesWithHash es.toArray.size (λ i=>es.toArray[i]?.map (·.hash)) k=[]:=by
 unfold placesWithHash;rw[List.filter_eq_nil_iff];intro i _;simp only[Zh,Zr,Option.map_eq_some_iff,not_exists,not_and];intro e he;exact hno e (Y3 he)
theorem Ck {d:Addr}{es:List DictEntry}{ep:Nat}{k:Int}{t:Tok}(hlt:d<s.n)(hg:s.tree.get d=some (Xs es ep))(hno:∀e∈es,e.hash≠k):
  Qm table pr w n₀ ann 5 s p (dictFind d (.int k t) k) s p none:=by
 unfold dictFind;refine Qm.holding (Qm.bind (A:=2) (B:=3) (a:=es.toArray) (p1:=p) (s1:=s) ?_ ?_)
 .unfold dictEntries;exact Qm.bind (Qm.load hlt hg rfl Qm.pure) Qm.pure'
 .dsimp only;rw[Qjz es k hno];rw[if_pos (by rfl)];unfold dictWalkPlain;rw[List.forIn_nil];exact Qm.bind Qm.pure' Qm.pure'
theorem Cj {d:Addr}{es:List DictEntry}{ep:Nat}{e:DictEntry}{part:Option Value}(hlt:d<s.n)(hg:s.tree.get d=some (Xs es ep))(hsz:es.length<2^23)(hn:Nat.ble n₀ d=true):
  ∃s',Qm table pr w n₀ ann 10 s p (updateDictKeys d (·.push e) part) s' p ()/\s'.tree.get d=some (Xs (es++[e]) (ep+1))/\Tq d s s' 0:=by
 have g':(s.tree.set d (Obj.mapDictKeys (·.push e))).get d=some (Xs (es++[e]) (ep+1)):=by
  rw[BT.get_set,if_pos rfl,hg];show some (Obj.mk _ _ _ _)=_;simp
 refine⟨{s with tree:=s.tree.set d (Obj.mapDictKeys (·.push e))},?_,g',⟨rfl,rfl,rfl,rfl,rfl,rfl,λ i hi=>by
  show(s.tree.set d _).get i=_;rw[BT.get_set,if_neg hi]⟩⟩
 unfold updateDictKeys;refine Qm.bind (B:=9) (Qm.load hlt hg rfl Qm.pure) ?_;dsimp only;refine Qm.bind (B:=5) (a:=()) (Qm.update (o:=Xs es ep) hlt hg rfl hn Qm.pure) ?_;unfold lookBehind;refine Qm.bind (B:=4) (Qm.load (o:=Xs (es++[e]) (ep+1)) hlt g' rfl Qm.pure) ?_;have:(Xs (es++[e]) (ep+1)).data.pastItsLine=none:=by
  unfold Data.pastItsLine;simp only[Xs];rw[if_neg];simp[sizeLine];lia
 rw[this];exact Qm.pure'.mono (by exact Zy _)
theorem Qqj {d:Addr}{es:List DictEntry}{ep:Nat}{k:Int}{t:Tok}{v:Value}(hlt:d<s.n)(hg:s.tree.get d=some (Xs es ep))(hno:∀e∈es,e.hash≠k)
  (hsz:es.length<2^23) (hn:Nat.ble n₀ d=true) (h0:0<=k) (h1:k<2^61-1):
  ∃s',Qm table pr w n₀ ann 40 s p (dictSet d (.int k t) v) s' p ()/\s'.tree.get d=some (Xs (es++[⟨k,.int k t,v⟩]) (ep+1))/\Tq d s s' 1:=by
 obtain⟨s',h,g',sm⟩:=Cj (pr:=pr) (w:=w) (ann:=ann) (s:={s with toks:=s.toks+1}) (p:=p) (e:=⟨k,.int k t,v⟩) (part:=keyPart (.int k t)) hlt hg hsz hn
 refine⟨s',?_,g',⟨sm.n,sm.life,sm.gens,sm.drawn,sm.os,sm.toks,sm.tree⟩⟩;unfold dictSet;refine Qm.holding (Qm.bind (B:=30) (Qy5 k t h0 h1) ?_);unfold dictSetHashed
 refine Qm.holding (Qm.bind (B:=25) (Ck (s:={s with toks:=s.toks+1}) hlt hg hno) ?_)
 exact Qm.bind (a:=()) (Qm.rule Qm.pure) h
end
noncomputable abbrev KV:=Int×Str
noncomputable def J3 (q:Pos)(x:KV):Sem Value×Sem Value:=(mkInt x.1,do let v <- mkText x.2;standAt q;pure v)
noncomputable def Mr (k t:Nat)(l:List KV):List DictEntry:=l.rec (motive:=λ J=>Nat->List DictEntry) (λ J=>[]) (λ x J r t=>⟨x.1,.int x.1 t,.str x.2 (t+1)⟩::r (t+k)) t
theorem W7 (k:Nat)(l:List KV):∀t,(Mr k t l).length=l.length:=by
 induction l with
 |nil=>exact λ J=>rfl
 |cons x r ih=>exact λ t=>Zm Nat.succ (ih (t+k))
theorem Cg (k:Nat)(l:List KV):∀t,(Mr k t l).map (·.hash)=l.map (·.1):=by
 induction l with
 |nil=>exact λ J=>rfl
 |cons x r ih=>exact λ t=>Zm (List.cons x.1) (ih (t+k))
theorem Cp (k:Nat)(l:List KV):∀t,∀e∈Mr k t l,(∃x∈l,e.hash=x.1)/\∃u,e.key=.int e.hash u:=by
 induction l with
 |nil=>exact λ J J h=>nomatch h
 |cons x r ih=>
  intro t e h
  rcases Qx.mp (show e∈(⟨x.1,.int x.1 t,.str x.2 (t+1)⟩::Mr k (t+k) r:List DictEntry) from h) with rfl |h
  .exact⟨⟨x,List.mem_cons_self ..,rfl⟩,t,rfl⟩
  .exact(ih (t+k) e h).imp_left λ q=>q.imp λ y q=>⟨List.mem_cons_of_mem _ q.1,q.2⟩
def Cr (k:Int):Prop:=0<=k/\k<2^61-1
section
variable {pr:Program}{w:World}{n₀:Nat}{ann:Option Value}
variable {s s' s1 s2:SharedT}{p p' p1 p2 q:Pos}
theorem R8 {es:List DictEntry}{k:Int}{ks:List Int}(h:(es.map (·.hash)++k::ks).Nodup):∀e∈es,e.hash≠k:=by
 intro e he hk;rw[List.nodup_append]at h;exact h.2.2 _ (Qv.mpr ⟨e,he,rfl⟩) k (by simp) hk
theorem Az {d:Addr}(hn:Nat.ble n₀ d=true):∀(kvs:List KV) (es:List DictEntry) (ep:Nat) (s:SharedT),d<s.n->s.tree.get d=some (Xs es ep)->es.length+kvs.length<2^22->
  (∀x∈kvs,Cr x.1)->(es.map (·.hash)++kvs.map (·.1)).Nodup->
  ∃s',Qm table pr w n₀ ann (50*kvs.length) s q (forIn (kvs.map (J3 q)) PUnit.unit λ (x:Sem Value×Sem Value) (_:PUnit)=>(do
    let kv <- x.1;let vv <- holding [kv] x.2
    holding [kv,vv] (dictSet d kv vv)
    pure (ForInStep.yield PUnit.unit):Sem (ForInStep PUnit))) s' q PUnit.unit/\
   s'.tree.get d=some (Xs (es++Mr 3 s.toks kvs) (ep+kvs.length))/\Tq d s s' (3*kvs.length):=by
 intro kvs;induction kvs with
 |nil=>exact λ es ep s J hg J J J=>⟨s,by rw[List.map_nil,List.forIn_nil];exact Qm.pure',by rw[show Mr 3 s.toks []=[] from rfl,Qs];exact hg,Tq.refl d s⟩
 |cons x r ih=>
  intro es ep s hlt hg hsz hk hnd;rw[Qb]at hsz;rw[Qu]at hnd;have hx:=hk x (List.mem_cons_self ..)
  obtain⟨s1,g1,t1,m1⟩:=Qqj (pr:=pr) (w:=w) (ann:=ann) (p:=q) (s:={s with toks:=s.toks+1+1}) (t:=s.toks) (v:=.str x.2 (s.toks+1)) hlt hg (R8 hnd) (by lia) hn hx.1 hx.2
  have hnd':((es++[⟨x.1,.int x.1 s.toks,.str x.2 (s.toks+1)⟩]:List DictEntry).map (·.hash)++r.map (·.1)).Nodup:=by
   simpa using hnd
  have ht:s1.toks=s.toks+3:=by rw[m1.toks]
  obtain⟨s2,g2,t2,m2⟩:=ih _ (ep+1) s1 (by rw[m1.n];exact hlt) t1 (by simp;lia) (λ y hy=>hk y (List.mem_cons_of_mem _ hy)) hnd';refine⟨s2,?_,?_,?_⟩
  .rw[Qu,List.forIn_cons,Qb];refine Qm.bind (A:=50) (a:=ForInStep.yield PUnit.unit) (s1:=s1) (p1:=q) ?_ g2;refine Qm.bind (B:=49) (Da x.1) ?_;refine Qm.bind (A:=2) (B:=40) (Qm.holding (Qm.bind (B:=1) (Mb x.2) (Qm.bind (B5 q) Qm.pure'))) ?_;exact Qm.bind (Qm.holding g1) Qm.pure'
  .rw[t2,ht,Qr,Qb];rw[Yq,Y7,show ep+1+r.length=ep+(r.length+1) by exact Nat.add_right_comm _ _ _];rfl
  .have m1':Tq d s s1 3:=⟨m1.n,m1.life,m1.gens,m1.drawn,m1.os,ht,m1.tree⟩;have:=m1'.trans m2;rw[show 3+3*r.length=3*(x::r).length by simp;exact Nat.add_comm _ _]at this;exact this
theorem Do:∀(kvs:List KV) (s:SharedT),Qm table pr w n₀ ann (10*kvs.length) s q (evalPairs (kvs.map (J3 q))) {s with toks:=s.toks+2*kvs.length} q ((Mr 2 s.toks kvs).map λ e=>(e.key,e.val)):=by
 intro kvs;induction kvs with
 |nil=>exact λ s=>Qm.pure'
 |cons x r ih=>
  intro s;rw[Qu];refine Qm.bind (B:=9+10*r.length) (Da x.1) ?_ (by rw[Qb];lia);refine Qm.bind (A:=2) (B:=7+10*r.length) (Qm.holding (Qm.bind (B:=1) (Mb x.2) (Qm.bind (B5 q) Qm.pure'))) ?_
  have:=ih {s with toks:=s.toks+1+1}
  refine Qm.bind (B:=0) (Qm.holding this) ?_;have e:s.toks+2*(x::r).length=s.toks+1+1+2*r.length:=by simp;lia
  rw[e];exact Qm.pure'
theorem Dr {d:Addr}(hn:Nat.ble n₀ d=true):∀(l:List DictEntry) (es:List DictEntry) (ep:Nat) (s:SharedT),d<s.n->s.tree.get d=some (Xs es ep)->es.length+l.length<2^22->
  (∀e∈l,Cr e.hash/\∃t,e.key=.int e.hash t)->(es.map (·.hash)++l.map (·.hash)).Nodup->
  ∃s',Qm table pr w n₀ ann (50*l.length) s q (forIn (l.map λ e=>(e.key,e.val)) PUnit.unit λ (x:Value×Value) (_:PUnit)=>(do dictSet d x.1 x.2;pure (ForInStep.yield PUnit.unit):Sem (ForInStep PUnit))) s' q PUnit.unit/\
   s'.tree.get d=some (Xs (es++l) (ep+l.length))/\Tq d s s' l.length:=by
 intro l;induction l with
 |nil=>exact λ es ep s J hg J J J=>⟨s,by rw[List.map_nil,List.forIn_nil];exact Qm.pure',by simpa using hg,Tq.refl d s⟩
 |cons e r ih=>
  intro es ep s hlt hg hsz hk hnd;rw[Qb]at hsz;rw[Qu]at hnd;obtain⟨hx,t,hkey⟩:=hk e (List.mem_cons_self ..);obtain⟨h,k,v⟩:=e;simp only at hx hkey;subst hkey;obtain⟨s1,g1,t1,m1⟩:=Qqj (pr:=pr) (w:=w) (ann:=ann) (p:=q) (s:=s) (t:=t) (v:=v) hlt hg (R8 hnd) (by lia) hn hx.1 hx.2;have hnd':((es++[⟨h,.int h t,v⟩]:List DictEntry).map (·.hash)++r.map (·.hash)).Nodup:=by simpa using hnd
  obtain⟨s2,g2,t2,m2⟩:=ih _ (ep+1) s1 (by rw[m1.n];exact hlt) t1 (by simp;lia) (λ y hy=>hk y (List.mem_cons_of_mem _ hy)) hnd';refine⟨s2,?_,?_,?_⟩
  .rw[Qu,List.forIn_cons,Qb];refine Qm.bind (A:=50) (a:=ForInStep.yield PUnit.unit) (s1:=s1) (p1:=q) ?_ g2;exact Qm.bind g1 Qm.pure'
  .rw[t2,Qr,Qb];simp only[Yq,Y7];rw[show ep+1+r.length=ep+(r.length+1) by exact Nat.add_right_comm _ _ _]
  .have:=m1.trans m2;rw[show 1+r.length=(⟨h,.int h t,v⟩::r:List DictEntry).length by simp;exact Nat.add_comm _ _]at this;exact this
end
def Qxn (T:BT)(n:Nat):Prop:=∀i,i<n->(T.get i).isSome=true
theorem Qrh (o:Obj):∀(T:BT) (n:Nat),Qxn T n->((T.ins n o).get n).isSome=true:=by
 intro T;induction T with
 |nil=>
  intro n h;cases n with
  |zero=>rfl
  |succ m=>have:=h 0 (Nat.succ_pos _);cases this
 |node v l r ihl ihr=>
  intro n h;rw[BT.ins_node];by_cases h0:n=0
  .subst h0;rfl
  .rw[if_neg h0];by_cases h1:n%2=1
   .rw[if_pos h1,BT.get_node,if_neg h0,if_pos h1];refine ihl (n/2) λ i hi=>?_;have:=h (2*i+1) (by lia);rw[BT.get_node,if_neg (by lia),if_pos (by lia),show(2*i+1)/2=i by lia]at this;exact this
   .rw[if_neg h1,BT.get_node,if_neg h0,if_neg h1];refine ihr (n/2-1) λ i hi=>?_;have:=h (2*i+2) (by lia);rw[BT.get_node,if_neg (by lia),if_neg (by lia),show(2*i+2)/2-1=i by lia]at this;exact this
noncomputable def Ud (t:Nat)(g:List KV):List DictEntry:=Mr (cond (Nat.ble g.length 15) 2 3) t g
theorem Bt (t:Nat)(g:List KV):(Ud t g).length=g.length:=W7 ..
theorem Mg (t:Nat)(g:List KV):(Ud t g).map (·.hash)=g.map (·.1):=Cg ..
theorem Qqh (t:Nat)(g:List KV):∀e∈Ud t g,(∃x∈g,e.hash=x.1)/\∃u,e.key=.int e.hash u:=Cp _ g t
structure Zpt (s s':SharedT)(dn dt:Nat)(d:Addr):Prop where
 n:s'.n=s.n+dn
 life:s'.life=s.life
 gens:s'.gens=s.gens
 drawn:s'.drawn=s.drawn
 os:s'.os=s.os
 toks:s'.toks=s.toks+dt
 tree:∀i,i<s.n->i≠d->s'.tree.get i=s.tree.get i
 full:Qxn s'.tree s'.n
section
variable {pr:Program}{w:World}{n₀:Nat}{ann:Option Value}
variable {s s' s1 s2:SharedT}{p p' p1 p2 q:Pos}
theorem Ea (g:List KV)(hfull:Qxn s.tree s.n)(hn:Nat.ble n₀ s.n=true)(hsz:g.length<2^22)(hk:∀x∈g,Cr x.1)(hnd:(g.map (·.1)).Nodup):
  ∃s',Qm table pr w n₀ ann (100*g.length+10) s q (subDict (g.map (J3 q))) s' q s.n/\s'.tree.get s.n=some (Xs (Ud s.toks g) g.length)/\Zpt s s' 1 (3*g.length) s.n:=by
 have hi:=Qrh (Xs [] 0) s.tree s.n hfull;have h0:(s.tree.ins s.n (Xs [] 0)).get s.n=some (Xs [] 0):=by rw[BT.get_ins _ _ _ hi,if_pos rfl]
 have key:∃s',Qm table pr w n₀ ann (100*g.length+5) {s with tree:=s.tree.ins s.n (Xs [] 0),n:=s.n+1} q (if (g.map (J3 q)).length<=15 then(do
    let vs <- evalPairs (g.map (J3 q))
    holding (vs.flatMap λ (k,v)=>[k,v]) do
     for (k,v) in vs do dictSet s.n k v)
   else(do
    rule "dict.display.long"
    for (k,v) in(g.map (J3 q)) do
     let kv <- k;let vv <- holding [kv] v
     holding [kv,vv] (dictSet s.n kv vv))) s' q ()/\s'.tree.get s.n=some (Xs (Ud s.toks g) g.length)/\Tq s.n {s with tree:=s.tree.ins s.n (Xs [] 0),n:=s.n+1} s' (3*g.length):=by
  by_cases hl:g.length<=15
  .have e:Ud s.toks g=Mr 2 s.toks g:=by delta Ud;rw[Nat.ble_eq_true_of_le hl];rfl
   rw[if_pos (by simpa using hl),e]
   obtain⟨s',g1,t1,m1⟩:=Dr (pr:=pr) (w:=w) (ann:=ann) (q:=q) hn (Mr 2 s.toks g) [] 0 {s with tree:=s.tree.ins s.n (Xs [] 0),n:=s.n+1,toks:=s.toks+2*g.length} (Zc _) h0
    (by rw[W7];simpa using hsz) (λ e he=>by
     obtain⟨⟨x,hx,e1⟩,e2⟩:=Cp 2 g s.toks e he;exact⟨e1▸hk x hx,e2⟩) (by simpa [Cg] using hnd)
   refine⟨s',?_,by simpa [W7] using t1,⟨m1.n,m1.life,m1.gens,m1.drawn,m1.os,by rw[m1.toks,W7];show s.toks+2*g.length+g.length=s.toks+3*g.length;lia,m1.tree⟩⟩
   have h2:=Do (pr:=pr) (w:=w) (n₀:=n₀) (ann:=ann) (q:=q) g {s with tree:=s.tree.ins s.n (Xs [] 0),n:=s.n+1}
   refine Qm.bind (B:=50*g.length) h2 (Qm.holding ?_);rw[W7]at g1;exact Qm.bind g1 Qm.pure'
  .have e:Ud s.toks g=Mr 3 s.toks g:=by delta Ud;rw[Bool.eq_false_iff.mpr λ q=>hl (Nat.le_of_ble_eq_true q)];rfl
   rw[if_neg (by simpa using hl),e]
   obtain⟨s',g1,t1,m1⟩:=Az (pr:=pr) (w:=w) (ann:=ann) (q:=q) hn g [] 0 {s with tree:=s.tree.ins s.n (Xs [] 0),n:=s.n+1} (Zc _) h0
    (by simpa using hsz) hk (by simpa using hnd)
   refine⟨s',?_,by simpa using t1,m1⟩;refine Qm.bind (B:=50*g.length) (a:=()) (Qm.rule Qm.pure) ?_;exact Qm.bind g1 Qm.pure'
 obtain⟨s',g1,t1,m1⟩:=key;refine⟨s',?_,t1,⟨m1.n,m1.life,m1.gens,m1.drawn,m1.os,m1.toks,λ i hi' hne=>?_,λ i hi'=>?_⟩⟩
 .unfold subDict;refine Qm.bind (B:=100*g.length+5) (a:=s.n) (Qm.alloc hi Qm.pure) ?_;exact Qm.bind (Qm.holding g1) Qm.pure'
 .rw[m1.tree i hne];show(s.tree.ins s.n _).get i=_;rw[BT.get_ins _ _ _ hi,if_neg hne]
 .by_cases hne:i=s.n
  .rw[hne,t1];rfl
  .rw[m1.tree i hne];show((s.tree.ins s.n _).get i).isSome=true;rw[BT.get_ins _ _ _ hi,if_neg hne];rw[m1.n]at hi';exact hfull i (by have:i<s.n+1:=hi';lia)
end
theorem Qb6:isSubtype (.type "dict") (.type "dict")=pure true:=by rw[isSubtype_type];kernel_rfl
theorem Qy1:typeLookup (.type "dict") "__iter__"=pure (some (.builtin "dict.__iter__")):=by rw[typeLookup_type,builtinLookup_eq_fast];kernel_rfl
noncomputable def C6 (d a:Addr)(sep:Nat)(i:Nat)(_:PUnit):Sem (ForInStep PUnit):=do
 let es <- dictEntries a
 match es[i]? with
 |some e=>do
  holding [e.key,e.val] (dictPut d e.hash e.key e.val)
  let ep <- dictEpoch a
  if (ep !=sep)=true then do
   unsupported "dict.changed-during-merge"
   pure (ForInStep.yield PUnit.unit)
  else pure (ForInStep.yield PUnit.unit)
 |_=>do
  unsupported "dict.changed-during-merge"
  pure (ForInStep.yield PUnit.unit)
section
variable {pr:Program}{w:World}{n₀:Nat}{ann:Option Value}
variable {s s' s1 s2:SharedT}{p p' p1 p2 q:Pos}
theorem Qpv {d:Addr}{es:List DictEntry}{ep:Nat}{k:Int}{t:Tok}{v:Value}(hlt:d<s.n)(hg:s.tree.get d=some (Xs es ep))(hno:∀e∈es,e.hash≠k)
  (hsz:es.length<2^23) (hn:Nat.ble n₀ d=true):
  ∃s',Qm table pr w n₀ ann 20 s p (dictPut d k (.int k t) v) s' p ()/\s'.tree.get d=some (Xs (es++[⟨k,.int k t,v⟩]) (ep+1))/\Tq d s s' 0:=by
 obtain⟨s',h,g',sm⟩:=Cj (pr:=pr) (w:=w) (ann:=ann) (s:=s) (p:=p) (e:=⟨k,.int k t,v⟩) (part:=none) hlt hg hsz hn;refine⟨s',?_,g',sm⟩;unfold dictPut;exact Qm.bind (Ck hlt hg hno) h
theorem T4 {a:Addr}{es:List DictEntry}{ep:Nat}(hlt:a<s.n)(hg:s.tree.get a=some (Xs es ep)):Qm table pr w n₀ ann 2 s p (dictEntries a) s p es.toArray:=by
 unfold dictEntries;exact Qm.bind (Qm.load hlt hg rfl Qm.pure) Qm.pure'
theorem P0 {a:Addr}{es:List DictEntry}{ep:Nat}(hlt:a<s.n)(hg:s.tree.get a=some (Xs es ep)):Qm table pr w n₀ ann 2 s p (dictEpoch a) s p ep:=by
 unfold dictEpoch;exact Qm.bind (Qm.load hlt hg rfl Qm.pure) Qm.pure'
theorem Qtj {α β:Type}{N M:Nat}{R:SharedT->Prop}{x:Sem α}{y:Sem β}{a:α}{b:β}(h:∃s',Qm table pr w n₀ ann N s q x s' q a/\R s')(k:∀s',Qm table pr w n₀ ann N s q x s' q a->Qm table pr w n₀ ann M s q y s' q b):
  ∃s',Qm table pr w n₀ ann M s q y s' q b/\R s':=let ⟨s',g,r⟩:=h;⟨s',k s' g,r⟩
theorem Di {d a:Addr}{f:Nat->PUnit->Sem (ForInStep PUnit)}(hda:a≠d)(sub:List DictEntry)(sep:Nat)
  (hf:∀(i:Nat) (h:Int) (t:Tok) (v:Value) (es:List DictEntry) (ep:Nat) (s:SharedT),sub[i]?=some ⟨h,.int h t,v⟩->d<s.n->a<s.n->s.tree.get d=some (Xs es ep)->s.tree.get a=some (Xs sub sep)->(∀e∈es,e.hash≠h)->es.length<2^23->
   ∃s',Qm table pr w n₀ ann 40 s q (f i ()) s' q (.yield ())/\s'.tree.get d=some (Xs (es++[⟨h,.int h t,v⟩]) (ep+1))/\Tq d s s' 0):
  ∀(rest pre es:List DictEntry) (ep:Nat) (s:SharedT),pre++rest=sub->d<s.n->a<s.n->s.tree.get d=some (Xs es ep)->s.tree.get a=some (Xs sub sep)->
  es.length+rest.length<2^22->(∀e∈rest,∃t,e.key=.int e.hash t)->(es.map (·.hash)++rest.map (·.hash)).Nodup->
  ∃s',Qm table pr w n₀ ann (40*rest.length) s q (forIn (List.range' pre.length rest.length) PUnit.unit f) s' q PUnit.unit/\
   s'.tree.get d=some (Xs (es++rest) (ep+rest.length))/\Tq d s s' 0:=by
 intro rest;induction rest with
 |nil=>exact λ pre es ep s J J J hg J J J J=>⟨s,by rw[Zs,List.range'_zero,List.forIn_nil];exact Qm.pure',by simpa using hg,Tq.refl d s⟩
 |cons e r ih=>
  intro pre es ep s hsub hlt hlta hg hga hsz hk hnd;rw[Qb]at hsz;rw[Qu]at hnd;obtain⟨t,hkey⟩:=hk e (List.mem_cons_self ..);obtain⟨h,k,v⟩:=e;simp only at hkey;subst hkey;obtain⟨s1,g1,t1,m1⟩:=hf pre.length h t v es ep s (by rw[<- hsub];simp) hlt hlta hg hga (R8 hnd) (by lia);have hga1:s1.tree.get a=some (Xs sub sep):=by rw[m1.tree a hda];exact hga
  have hnd':((es++[⟨h,.int h t,v⟩]:List DictEntry).map (·.hash)++r.map (·.hash)).Nodup:=by simpa using hnd
  obtain⟨s2,g2,t2,m2⟩:=ih (pre++[⟨h,.int h t,v⟩]) _ (ep+1) s1 (by simpa using hsub) (by rw[m1.n];exact hlt) (by rw[m1.n];exact hlta) t1 hga1 (by simp;lia) (λ y hy=>hk y (List.mem_cons_of_mem _ hy)) hnd';refine⟨s2,?_,?_,?_⟩
  .rw[Qb,List.range'_succ,List.forIn_cons];rw[Q8,Zw]at g2;exact Qm.bind (a:=ForInStep.yield PUnit.unit) (s1:=s1) (p1:=q) g1 g2 (by lia)
  .rw[t2,Qr,Qb];simp only[Yq,Y7];rw[show ep+1+r.length=ep+(r.length+1) by exact Nat.add_right_comm _ _ _]
  .exact m1.trans m2
theorem Qjo {d a:Addr}{es sub:List DictEntry}{ep sep:Nat}(hda:a≠d)(hsys:(a==sysModules)=false)(hn:Nat.ble n₀ d=true)(hlt:d<s.n)(hlta:a<s.n)(hg:s.tree.get d=some (Xs es ep))(hga:s.tree.get a=some (Xs sub sep))
  (hne:es≠[]) (hsz:es.length+sub.length<2^22) (hk:∀e∈sub,∃t,e.key=.int e.hash t) (hnd:(es.map (·.hash)++sub.map (·.hash)).Nodup):
  ∃s',Qm table pr w n₀ ann (40*sub.length+40) s q (mergeMapping d (.ref a) false) s' q ()/\s'.tree.get d=some (Xs (es++sub) (ep+sub.length))/\Tq d s s' 0:=by
 have hty:Qm table pr w n₀ ann 2 s q (typeOf (.ref a)) s q (.type "dict"):=by
  unfold typeOf;exact Qm.bind (Qm.load hlta hga rfl Qm.pure) Qm.pure'
 refine Qtj (Di (f:=C6 d a sep) hda sub sep ?hf sub [] es ep s rfl hlt hlta hg hga hsz hk hnd) ?k
 case k=>
  intro s1 g1;unfold mergeMapping;refine Qm.bind (A:=2) (B:=40*sub.length+30) (a:=true) (s1:=s) (p1:=q) ?_ ?_
  .unfold isInstance;refine Qm.bind (B:=0) hty ?_;rw[Qb6];exact Qm.pure'
  .rw[if_pos rfl];refine Qm.bind (A:=2) (B:=40*sub.length+20) (a:=some (.builtin "dict.__iter__")) (s1:=s) (p1:=q) ?_ ?_
   .unfold specialOf;refine Qm.bind (B:=0) hty ?_;rw[Qy1];exact Qm.pure'
   .have:((some (Value.builtin "dict.__iter__"):Option Value)==some (.builtin "dict.__iter__"))=true:=by decide
    rw[this];refine Qm.bind (B:=40*sub.length+20) (Qm.pure' (a:=true)) ?_;dsimp only;rw[hsys,if_neg (by decide)];refine Qm.bind (B:=40*sub.length+15) (T4 hlt hg) ?_;have he:es.toArray.isEmpty=false:=by
     cases es with
     |nil=>exact absurd rfl hne
     |cons=>rfl
    rw[he,if_neg (by decide)];refine Qm.bind (B:=40*sub.length+10) (T4 hlta hga) ?_;refine Qm.bind (B:=40*sub.length) (P0 hlta hga) ?_;have hr:List.range sub.toArray.size=List.range' ([]:List DictEntry).length sub.length:=by
     rw[List.range_eq_range'];rfl
    rw[hr];simp only[Bool.false_eq_true,if_false];exact Qm.bind g1 Qm.pure'
 case hf=>
  intro i h t v es' ep' s' hi hlt' hlta' hg' hga' hno hsz';obtain⟨s1,g1,t1,m1⟩:=Qpv (pr:=pr) (w:=w) (ann:=ann) (p:=q) (s:=s') (t:=t) (v:=v) hlt' hg' hno hsz' hn;have hga1:s1.tree.get a=some (Xs sub sep):=by rw[m1.tree a hda];exact hga'
  refine⟨s1,?_,t1,m1⟩;unfold C6;refine Qm.bind (B:=30) (T4 hlta' hga') ?_;have hi':sub.toArray[i]?=some ⟨h,.int h t,v⟩:=by simpa using hi
  rw[hi'];dsimp only;refine Qm.bind (B:=5) (Qm.holding g1) ?_;refine Qm.bind (B:=0) (P0 (by rw[m1.n];exact hlta') hga1) ?_;rw[if_neg (by simp)];exact Qm.pure'
end
noncomputable def U1 (t:Nat)(gs:List (List KV)):List (List DictEntry):=gs.rec (motive:=λ J=>Nat->List (List DictEntry)) (λ J=>[]) (λ g J r t=>Ud t g::r (t+3*g.length)) t
noncomputable def Js (gs:List (List KV)):Nat:=(gs.map List.length).sum
theorem W9 (g:List KV)(gs:List (List KV)):∀t:Nat,U1 t (gs++[g])=U1 t gs++[Ud (t+3*Js gs) g]:=by
 induction gs with
 |nil=>exact λ J=>rfl
 |cons a gs ih=>
  intro t;have ih:=ih (t+3*a.length);rw[show t+3*a.length+3*Js gs=t+3*Js (a::gs) by show _=t+3*(a.length+Js gs);lia]at ih;exact Zm (List.cons (Ud t a)) ih
theorem W8 (gs:List (List KV)):∀t:Nat,(U1 t gs).length=gs.length:=by
 induction gs with
 |nil=>exact λ J=>rfl
 |cons a gs ih=>exact λ t=>Zm Nat.succ (ih _)
theorem I2 (gs:List (List KV)):∀t:Nat,(U1 t gs).flatten.map (·.hash)=gs.flatten.map (·.1):=by
 induction gs with
 |nil=>exact λ J=>rfl
 |cons a gs ih=>
  intro t;show(Ud t a++(U1 (t+3*a.length) gs).flatten).map _=(a++gs.flatten).map _;rw[Zt,Zt,Mg,ih]
theorem Ry (gs:List (List KV)):∀t:Nat,(U1 t gs).flatten.length=Js gs:=by
 induction gs with
 |nil=>exact λ J=>rfl
 |cons a gs ih=>
  intro t;show(Ud t a++(U1 (t+3*a.length) gs).flatten).length=a.length+Js gs;rw[Q8,Bt,ih]
structure Did (s0 s:SharedT)(gs:List (List KV)):Prop where
 n:s.n=s0.n+gs.length
 life:s.life=s0.life
 gens:s.gens=s0.gens
 drawn:s.drawn=s0.drawn
 os:s.os=s0.os
 toks:s.toks=s0.toks+3*Js gs
 old:∀i,i<s0.n->s.tree.get i=s0.tree.get i
 full:Qxn s.tree s.n
 main:gs≠[]->s.tree.get s0.n=some (Xs (U1 s0.toks gs).flatten (Js gs))
 pos:gs≠[]->0<Js gs
 subs:∀i l,0<i->(U1 s0.toks gs)[i]?=some l->s.tree.get (s0.n+i)=some (Xs l l.length)
noncomputable def T5 (run:List (Sem Value×Sem Value))(main:Option Addr):Sem (Option Addr):=
 if run.isEmpty=true then pure main
 else match main with
  |none=>do let d <- subDict run;pure (some d)
  |some d=>do
   let sub <- holding [.ref d] (subDict run)
   (holding [.ref d,.ref sub] (mergeMapping d (.ref sub) false)).onRaise λ x=>do let _ <- holding [.ref d,x] (runValue (.builtin "proto.let_go" {}))
   pure (some d)
noncomputable def Df (d:Addr)(gs:List (List KV)):Option Addr:=if gs.isEmpty then none else some d
section
variable {pr:Program}{w:World}{n₀:Nat}{ann:Option Value}
variable {s0 s s' s1 s2:SharedT}{p p' p1 p2 q:Pos}
theorem De (gs:List (List KV))(g:List KV)(D:Did s0 s gs)(hg:g≠[])(hn:n₀<=s0.n)(hsys:sysModules<s0.n)(hsz:Js gs+g.length<2^21)(hk:∀x∈g,Cr x.1)
  (hnd:((gs++[g]).flatten.map (·.1)).Nodup):
  ∃s',Qm table pr w n₀ ann (200*g.length+100) s q (T5 (g.map (J3 q)) (Df s0.n gs)) s' q (some s0.n)/\Did s0 s' (gs++[g]):=by
 have hne:(g.map (J3 q)).isEmpty=false:=by cases g with |nil=>exact absurd rfl hg |cons=>rfl
 rw[List.flatten_append,Zt,List.flatten_singleton]at hnd;have hndg:(g.map (·.1)).Nodup:=(List.nodup_append.mp hnd).2.1;obtain⟨s1,g1,t1,m1⟩:=Ea (pr:=pr) (w:=w) (n₀:=n₀) (ann:=ann) (s:=s) (q:=q) g D.full (Nat.ble_eq_true_of_le (by rw[D.n];lia)) (by lia) hk hndg;have tot:Js (gs++[g])=Js gs+g.length:=by simp[Js]
 unfold T5;rw[hne,if_neg (by decide)]
 have gpos:0<g.length:=by cases g with |nil=>exact absurd rfl hg |cons=>simp
 cases gs with
 |nil=>
  have hsn:s.n=s0.n:=by rw[D.n];rfl
  have hst:s.toks=s0.toks:=by rw[D.toks];rfl
  refine⟨s1,?_,⟨by rw[m1.n,hsn];rfl,m1.life.trans D.life,m1.gens.trans D.gens,m1.drawn.trans D.drawn,m1.os.trans D.os,by rw[m1.toks,hst,tot];simp[Js],
   λ i hi=>(m1.tree i (by lia) (by lia)).trans (D.old i hi),m1.full,λ J=>?_,λ J=>by assumption,λ i l hi hl=>?_⟩⟩
  .show Qm table pr w n₀ ann (200*g.length+100) s q (subDict (g.map (J3 q)) >>=λ d=>pure (some d)) s1 q (some s0.n);rw[hsn]at g1;exact Qm.bind g1 Qm.pure'
  .rw[hsn,hst]at t1;rw[t1,tot];show _=some (Xs (Ud s0.toks g++[]) (0+g.length));rw[Qs,Nat.zero_add]
  .have h2:([]++[g]:List (List KV))=[g]:=rfl;rw[h2]at hl
   replace hl:[Ud s0.toks g][i]?=some l:=hl
   cases i with
   |zero=>exact absurd ‹_› (Y6 _)
   |succ i=>simp at hl
 |cons g0 gs0=>
  have hgs:(g0::gs0)≠[]:=by simp
  generalize hG:g0::gs0=gs at*;have hmain:=D.main hgs;have hlt:s0.n<s.n:=by rw[D.n,<- hG];simp
  have hlt1:s0.n<s1.n:=by rw[m1.n];lia
  have hm1:s1.tree.get s0.n=some (Xs (U1 s0.toks gs).flatten (Js gs)):=by rw[m1.tree _ hlt (by exact Zj ‹_›)];exact hmain
  have hfl:(U1 s0.toks gs).flatten≠[]:=by
   intro h;have e:=Ry gs s0.toks;rw[h]at e;have:=D.pos hgs;simp at e;lia
  obtain⟨s2,g2,t2,m2⟩:=Qjo (pr:=pr) (w:=w) (n₀:=n₀) (ann:=ann) (s:=s1) (q:=q) (d:=s0.n) (a:=s.n) (Nat.ne_of_gt hlt) (Ql.mpr (Nat.ne_of_gt (Nat.lt_trans hsys hlt))) (Nat.ble_eq_true_of_le hn) hlt1 (by rw[m1.n];exact Zc _) hm1 t1
   hfl (by rw[Ry,Bt];lia)
   (λ e he=>(Qqh _ g e he).2) (by rw[I2,Mg];exact hnd)
  have hmo:Df s0.n gs=some s0.n:=by rw[<- hG];rfl
  rw[hmo];refine⟨s2,?_,⟨?_,m2.life.trans (m1.life.trans D.life),m2.gens.trans (m1.gens.trans D.gens),m2.drawn.trans (m1.drawn.trans D.drawn),m2.os.trans (m1.os.trans D.os),?_,?_,?_,λ J=>?_,λ J=>by lia,?_⟩⟩
  .dsimp only;rw[Bt]at g2;refine Qm.bind (B:=40*g.length+40) (Qm.holding g1) ?_;exact Qm.bind (Qm.onRaise (Qm.holding g2)) Qm.pure'
  .rw[m2.n,m1.n,D.n,Q8,Zw];rfl
  .rw[m2.toks,m1.toks,D.toks,tot];lia
  .intro i hi;rw[m2.tree i (Zj hi),m1.tree i (by lia) (by lia),D.old i hi]
  .intro i hi;rw[m2.n]at hi;by_cases h:i=s0.n
   .rw[h,t2];rfl
   .rw[m2.tree i h];exact m1.full i hi
  .rw[t2,W9,tot,D.toks,Bt];simp
  .intro i l hi hl;rw[W9]at hl;rw[m2.tree _ (Nat.ne_of_gt (Nat.lt_add_of_pos_right hi))];by_cases h:i<(U1 s0.toks gs).length
   .rw[Zx h]at hl;rw[W8]at h;rw[m1.tree _ (by rw[D.n];exact Nat.add_lt_add_left ‹_› _) (by rw[D.n];lia)];exact D.subs i l hi hl
   .rw[Z2 (by exact Nat.le_of_not_lt ‹_›)]at hl;rw[W8]at h hl;have hi2:i=gs.length:=by
     by_cases h3:i-gs.length=0
     .lia
     .rw[Qo (by simp;exact Nat.pos_of_ne_zero ‹_›)]at hl;cases hl
    subst hi2;simp only[Nat.sub_self,List.getElem?_cons_zero,Option.some.injEq]at hl;subst hl;rw[D.n]at t1;rw[t1,D.toks,Bt]
theorem Qqv {f:(Option (Sem Value)×Sem Value)->(Option Addr×List (Sem Value×Sem Value))->Sem (ForInStep (Option Addr×List (Sem Value×Sem Value)))}
  (hf:∀(p:Sem Value×Sem Value) (run:List (Sem Value×Sem Value)) (main:Option Addr),run.length+1<17->f (some p.1,p.2) (main,run)=pure (.yield (main,run++[p]))) (main:Option Addr):
  ∀(items run:List (Sem Value×Sem Value)),run.length+items.length<17->forIn (items.map λ p=>(some p.1,p.2)) (main,run) f=pure (main,run++items):=by
 intro items;induction items with
 |nil=>intro run _;simp
 |cons p rest ih=>
  intro run h;rw[Qu,List.forIn_cons,hf p run main (by simp at h;lia),pure_bind];have:=ih (run++[p]) (by simp at h |-;lia)
  simpa using this
theorem Kh {f:(Option (Sem Value)×Sem Value)->(Option Addr×List (Sem Value×Sem Value))->Sem (ForInStep (Option Addr×List (Sem Value×Sem Value)))}
  (hf:∀(p:Sem Value×Sem Value) (run:List (Sem Value×Sem Value)) (main:Option Addr),run.length+1<17->f (some p.1,p.2) (main,run)=pure (.yield (main,run++[p])))
  (hf2:∀(p:Sem Value×Sem Value) (run:List (Sem Value×Sem Value)) (main:Option Addr),run.length+1=17->f (some p.1,p.2) (main,run)=T5 (run++[p]) main >>=λ m=>pure (.yield (m,[]))) (main:Option Addr) (rest:List (Option (Sem Value)×Sem Value)):
  ∀(items run:List (Sem Value×Sem Value)),items≠[]->run.length+items.length=17->
   forIn ((items.map λ p=>(some p.1,p.2))++rest) (main,run) f=T5 (run++items) main >>=λ m=>forIn rest (m,[]) f
 |[],_,h,_=>absurd rfl h
 |[p],run,_,h=>by
  simp only[Qu,List.map_nil,Yq,Y7];rw[List.forIn_cons,hf2 p run main (by simpa using h),bind_assoc];simp
 |p::a::r,run,_,h=>by
  rw[Qu,Yq,List.forIn_cons,hf p run main (by simp at h;lia),pure_bind];have:=Kh hf hf2 main rest (a::r) (run++[p]) (by simp) (by simp at h |-;lia)
  simpa using this
noncomputable def shown (gs:List (List (Sem Value×Sem Value)))(last:List (Sem Value×Sem Value))(main:Option Addr):Sem (Option Addr):=gs.rec (motive:=λ J=>Option Addr->Sem (Option Addr)) (T5 last) (λ g J r main=>T5 g main >>=r) main
theorem I0 {f:(Option (Sem Value)×Sem Value)->(Option Addr×List (Sem Value×Sem Value))->Sem (ForInStep (Option Addr×List (Sem Value×Sem Value)))}
  (hf:∀(p:Sem Value×Sem Value) (run:List (Sem Value×Sem Value)) (main:Option Addr),run.length+1<17->f (some p.1,p.2) (main,run)=pure (.yield (main,run++[p])))
  (hf2:∀(p:Sem Value×Sem Value) (run:List (Sem Value×Sem Value)) (main:Option Addr),run.length+1=17->f (some p.1,p.2) (main,run)=T5 (run++[p]) main >>=λ m=>pure (.yield (m,[])))
  (k:Option Addr->Sem Value) (last:List (Sem Value×Sem Value)) (hl:last.length<17):
  ∀(gs:List (List (Sem Value×Sem Value))) (main:Option Addr),(∀g∈gs,g.length=17)->
   (forIn ((gs.flatten++last).map λ p=>(some p.1,p.2)) (main,[]) f >>=λ x=>T5 x.2 x.1 >>=k)=shown gs last main >>=k:=by
 intro gs;induction gs with
 |nil=>
  intro main _;rw[List.flatten_nil,Y7,Qqv hf main last [] (by simpa using hl),pure_bind];rfl
 |cons g gs ih=>
  intro main h;have hg:=h g (List.mem_cons_self ..);rw[List.flatten_cons,Qr,Zt,Kh hf hf2 main _ g [] (by intro e;subst e;simp at hg) (by simpa using hg),bind_assoc];show _=(T5 g main >>=λ m=>shown gs last m) >>=k;rw[bind_assoc,Y7]
  congr 1
  funext m
  exact ih m λ x hx=>h x (List.mem_cons_of_mem _ hx)
theorem Py (gs:List (List (Sem Value×Sem Value)))(last:List (Sem Value×Sem Value))(h:∀g∈gs,g.length=17)(hl:last.length<17):
  dictDisplay ((gs.flatten++last).map λ p=>(some p.1,p.2))=shown gs last none >>=λ m=>match m with |some d=>pure (.ref d) |none=>newDict:=by
 unfold dictDisplay;dsimp only
 refine I0 ?hf ?hf2 (λ m=>match m with |some d=>pure (Value.ref d) |none=>newDict) last hl gs none h
 case hf=>
  intro p run main h;have:((run++[(p.1,p.2)]).length==17)=false:=by simp;lia
  simp only[this,Bool.false_eq_true,if_false]
 case hf2=>
  intro p run main h;have:((run++[(p.1,p.2)]).length==17)=true:=by simp;lia
  simp only[this,if_true];rfl
end
section
variable {pr:Program}{w:World}{n₀:Nat}{ann:Option Value}
variable {s0 s s' s1 s2:SharedT}{p p' p1 p2 q:Pos}
theorem Qje:∀(gs done:List (List KV)) (last:List KV) (s:SharedT),Did s0 s done->n₀<=s0.n->sysModules<s0.n->last≠[]->(∀g∈gs,g≠[])->Js (done++gs++[last])<2^21->
  (∀x∈(done++gs++[last]).flatten,Cr x.1)->((done++gs++[last]).flatten.map (·.1)).Nodup->
  ∃s',Qm table pr w n₀ ann (200*Js (gs++[last])+100*(gs.length+1)) s q (shown (gs.map λ g=>g.map (J3 q)) (last.map (J3 q)) (Df s0.n done)) s' q (some s0.n)/\Did s0 s' (done++gs++[last]):=by
 intro gs;induction gs with
 |nil=>
  intro done last s D hn hsys hl hg hsz hk hnd;rw[Qs]at*;obtain⟨s1,g1,D1⟩:=De (pr:=pr) (w:=w) (n₀:=n₀) (ann:=ann) (q:=q) done last D hl hn hsys (by simpa [Js] using hsz) (λ x hx=>hk x (by simp[hx])) hnd;exact⟨s1,g1.mono (by simp[Js]),D1⟩
 |cons g gs ih=>
  intro done last s D hn hsys hl hg hsz hk hnd;have e:done++g::gs++[last]=done++[g]++gs++[last]:=by simp
  rw[e]at hsz hk hnd |-;have hnd1:((done++[g]).flatten.map (·.1)).Nodup:=by
   rw[Qr,List.flatten_append (L₁:=done++[g]),Zt]at hnd;exact(List.nodup_append.mp hnd).1
  obtain⟨s1,g1,D1⟩:=De (pr:=pr) (w:=w) (n₀:=n₀) (ann:=ann) (q:=q) done g D (hg g (List.mem_cons_self ..)) hn hsys (by simp[Js]at hsz |-;lia) (λ x hx=>hk x (by simp[hx])) hnd1;obtain⟨s2,g2,D2⟩:=ih (done++[g]) last s1 D1 hn hsys hl (λ x hx=>hg x (List.mem_cons_of_mem _ hx)) hsz hk hnd;refine⟨s2,?_,D2⟩
  have hm:Df s0.n (done++[g])=some s0.n:=by unfold Df;cases done <;> rfl
  rw[hm]at g2;exact Qm.bind g1 g2 (by simp[Js];lia)
theorem Did.start (h:Qxn s0.tree s0.n):Did s0 s0 []:=
 ⟨rfl,rfl,rfl,rfl,rfl,rfl,λ J J=>rfl,h,λ h=>absurd rfl h,λ h=>absurd rfl h,λ i l hi hl=>nomatch (show([]:List (List DictEntry))[i]?=some l from hl)⟩
theorem Ei (gs:List (List KV))(last:List KV)(h17:∀g∈gs,g.length=17)(hl:last≠[])(hl17:last.length<17)(hfull:Qxn s0.tree s0.n)(hn:n₀<=s0.n)(hsys:sysModules<s0.n)(hsz:Js (gs++[last])<2^21)
  (hk:∀x∈(gs++[last]).flatten,Cr x.1) (hnd:((gs++[last]).flatten.map (·.1)).Nodup):
  ∃s',Qm table pr w n₀ ann (200*Js (gs++[last])+100*(gs.length+1)) s0 q (dictDisplay ((gs.flatten++last).map λ x=>(some (J3 q x).1,(J3 q x).2))) s' q (.ref s0.n)/\Did s0 s' (gs++[last]):=by
 obtain⟨s',g1,D⟩:=Qje (pr:=pr) (w:=w) (n₀:=n₀) (ann:=ann) (q:=q) gs [] last s0 (Did.start hfull) hn hsys hl (λ g hg e=>by have:=h17 g hg;rw[e]at this;simp at this) (by simpa using hsz) (by simpa using hk) (by simpa using hnd);refine⟨s',?_,by simpa using D⟩;have e:((gs.flatten++last).map λ x=>(some (J3 q x).1,(J3 q x).2))=(((gs.map λ g=>g.map (J3 q)).flatten++last.map (J3 q)).map λ p=>(some p.1,p.2)):=by
  simp[List.map_flatten,Function.comp_def]
 rw[e,Py _ _ (by simpa using h17) (by simpa using hl17)];exact Qm.bind g1 Qm.pure'
end
noncomputable section
noncomputable abbrev pw:Program:=PySem.Challenge.pw_wr0043_02
noncomputable def stN (i:Nat):Stmt:=(pw.main.body[i]?).getD default
noncomputable def fA (s:Stmt):Arguments:=if h:s.ctorIdx=0 then Stmt.FunctionDef.elim s h λ J a J J J J J J J J=>a else default
noncomputable def fB (s:Stmt):List Stmt:=if h:s.ctorIdx=0 then Stmt.FunctionDef.elim s h λ J J b J J J J J J J=>b else []
noncomputable def fS (s:Stmt):Scope:=if h:s.ctorIdx=0 then Stmt.FunctionDef.elim s h λ J J J J J J s J J J=>s else default
noncomputable def env:Env:={scope:=pw.main.scope,locals:=mainNs,globals:=mainNs,cells:=[],code:=(Value.ref 13),frame:=some 14}
noncomputable def Bf:List Frame:=[topFrame ⟨0,0,0,0⟩]
noncomputable abbrev en (P:Params)(x:Str)(t:Nat)(v:Value):DictEntry:=⟨PyData.keyHash P x,.str x t,v⟩
noncomputable abbrev Fn (n:Str)(i:Nat)(g:Addr)(md cd:Value):Data:=.func {name:=n,qualname:=n,params:=fA (stN i),body:=.stmts (fB (stN i)),scope:=fS (stN i),globals:=g,closure:=[],defaults:=.none,kwdefaults:=.none,doc:=.none,pyModule:=md,annotations:=none,code:=cd,closureTuple:=.none,builtins:=0}
noncomputable abbrev lf (o:Obj):BT:=.node o .nil .nil
noncomputable def Qq (P:Params):Obj:=⟨(.type "tuple"),none,(.seq #[] 0),#[]⟩
noncomputable def Zb (P:Params):Obj:=⟨.none,none,(.fields #[]),#[]⟩
noncomputable def H8 (P:Params):Obj:=⟨(.type "code"),none,(.fields #[(.str "<module>" 182),(.str "<module>" 183),(.str "/claim/cut.py" 184),(.int 1 0),(.int 0 0),(.int 0 0),(.int 0 0),(.int 0 0),(.ref 11),(.bool false),(.int 181 0),(.ref 12),.none,.none,.none,.none,(.int 185 0),(.int 1 0),(.str "/claim/cut.py" 186)]),#[]⟩
noncomputable def H7 (P:Params):Obj:=⟨(.type "frame"),none,.plain,#[(some (.ref 13)),(some (.ref 3)),(some (.ref 3)),none,(some (.str "__main__" 164)),none,(some (.ref 0))]⟩
noncomputable def Ta (P:Params):BT:=
 (.node (boot_o_0 P) (.node (boot_o_1 P) (.node (boot_o_3 P) (lf (boot_o_7 P)) (lf (Qq P))) (.node (boot_o_5 P) (lf (boot_o_9 P)) (lf (H8 P)))) (.node (boot_o_2 P) (.node (boot_o_4 P) (lf (boot_o_8 P)) (lf (Zb P))) (.node (boot_o_6 P) (lf (boot_o_10 P)) (lf (H7 P)))))
noncomputable def Sa (w:World)(os:OsState):SharedT:=⟨Ta w.params,15,(boot_heap w.params).life,#[],boot_drawn,187,os⟩
noncomputable def Tb (P:Params):BT:=
 (.node (boot_o_0 P) (.node (boot_o_1 P) (.node (boot_o_3 P) (lf (boot_o_7 P)) (lf (Qq P))) (.node (boot_o_5 P) (lf (boot_o_9 P)) (lf (H8 P)))) (.node (boot_o_2 P) (.node (boot_o_4 P) (lf (boot_o_8 P)) (lf (Zb P))) (.node (boot_o_6 P) (lf (boot_o_10 P)) (lf (H7 P)))))
noncomputable def Sb (w:World)(os:OsState):SharedT:=⟨Tb w.params,15,(boot_heap w.params).life,#[],boot_drawn,187,os⟩
noncomputable def Ql4:Pos:=⟨0,0,0,0⟩
noncomputable def Ql3:Pos:=⟨0,0,0,0⟩
noncomputable def S9 (P:Params):Obj:=⟨.none,none,(.dict #[en P "type.__subclasses__.Exception.0" 205 (.int 24 0),en P "type.__subclasses__.Exception.n" 206 (.int 1 0)] 2),#[]⟩
noncomputable def Zqh (P:Params):Obj:=⟨(.type "dict"),none,(.dict #[en P "__name__" 165 (.str "cpy313.stringprep" 293),en P "__doc__" 166 .none,en P "__package__" 167 .none,en P "__loader__" 168 (.builtin "__main__.__loader__#opaque"),en P "__spec__" 169 .none,en P "__annotations__" 170 (.ref 6),en P "__builtins__" 171 (.ref 4),en P "__file__" 173 (.str "/claim/cut.py" 172),en P "__cached__" 174 .none,en P "Error" 208 (.ref 24),en P "error_reply" 224 (.ref 37),en P "error_proto" 240 (.ref 49),en P "parse229" 253 (.ref 58),en P "parse257" 264 (.ref 65),en P "ELLIPSIS_MARKER" 268 (.str "..." 267),en P "_ellipsis_match" 280 (.ref 72),en P "Int2AP" 292 (.ref 79)] 17),#[]⟩
noncomputable def Qsg (P:Params):Obj:=⟨.none,none,(.fields #[(.int 2 0),(.int 0 0),(.ref 20),(.int 4 0),(.int 0 0),(.ref 33),(.int 6 0),(.int 0 0),(.ref 45),(.int 8 0),(.int 0 0),(.ref 57),(.int 25 0),(.int 0 0),(.ref 64),(.int 44 0),(.int 0 0),(.ref 71),(.int 73 0),(.int 0 0),(.ref 78)]),#[]⟩
noncomputable def Lm (P:Params):Obj:=⟨(.type "tuple"),none,(.seq #[(.type "Exception")] 0),#[]⟩
noncomputable def V2 (P:Params):Obj:=⟨(.type "builtin_function_or_method"),none,(.fields #[(.builtin "type.__prepare__"),(.type "type")]),#[]⟩
noncomputable def Db (P:Params):Obj:=⟨(.type "dict"),none,(.dict #[en P "__module__" 196 (.str "cpy313.ftplib" 187),en P "__qualname__" 198 (.str "Error" 197),en P "__firstlineno__" 200 (.int (2) 199),en P "__static_attributes__" 201 (.ref 22)] 4),#[]⟩
noncomputable def Kb (P:Params):Obj:=⟨(.type "code"),none,(.fields #[(.str "Error" 191),(.str "Error" 192),(.str "/claim/cut.py" 193),(.int 2 0),(.int 0 0),(.int 0 0),(.int 0 0),(.int 0 0),(.ref 18),(.bool false),(.int 181 0),(.ref 19),.none,.none,.none,.none,(.int 194 0),(.int 2 0),(.str "/claim/cut.py" 195)]),#[]⟩
noncomputable def Ku (P:Params):Obj:=⟨(.type "frame"),none,.plain,#[(some (.ref 20)),(some (.ref 3)),(some (.ref 17)),none,(some (.str "cpy313.ftplib" 187)),none,(some (.ref 0))]⟩
noncomputable def F9 (P:Params):Obj:=⟨(.type "dict"),none,(.dict #[en P "__module__" 196 (.str "cpy313.ftplib" 187),en P "__firstlineno__" 200 (.int (2) 199),en P "__static_attributes__" 201 (.ref 22),en P "__weakref__" 203 (.ref 25),en P "__doc__" 204 .none] 3),#[]⟩
noncomputable def F8 (P:Params):Obj:=⟨(.type "type"),none,(.cls {name:="Error",bases:=[(.type "Exception")],mro:=[(.ref 24),(.type "Exception"),(.type "BaseException"),(.type "object")],ns:=23,qualname:="Error",hasDict:=true,slotNames:=[],subclasses:=[(.ref 37),(.ref 49)],abstract:=false,collection:=none,hasDel:=false}),#[(some (.ref 15)),none,(some (.str "Error" 189)),(some (.str "Error" 197)),(some (.builtin "Exception.__new__")),(some (.bool true))]⟩
noncomputable def F7 (P:Params):Obj:=⟨(.type "getset_descriptor"),none,(.fields #[(.str "__weakref__" 202),(.ref 24),(.builtin "ExceptionGroup.__weakref__"),.none]),#[]⟩
noncomputable def Ky (P:Params):Obj:=⟨(.type "super"),none,(.fields #[(.ref 24),(.ref 24),(.ref 24)]),#[]⟩
noncomputable def Kv (P:Params):Obj:=⟨(.type "builtin_function_or_method"),none,(.fields #[(.builtin "object.__init_subclass__"),(.ref 24)]),#[]⟩
noncomputable def Ua (P:Params):Obj:=⟨(.type "tuple"),none,(.seq #[(.ref 24)] 0),#[]⟩
noncomputable def Kw (P:Params):Obj:=⟨(.type "dict"),none,(.dict #[en P "__module__" 216 (.str "cpy313.ftplib" 187),en P "__qualname__" 218 (.str "error_reply" 217),en P "__firstlineno__" 220 (.int (4) 219),en P "__static_attributes__" 221 (.ref 35)] 4),#[]⟩
noncomputable def Kk (P:Params):Obj:=⟨(.type "code"),none,(.fields #[(.str "error_reply" 211),(.str "error_reply" 212),(.str "/claim/cut.py" 213),(.int 4 0),(.int 0 0),(.int 0 0),(.int 0 0),(.int 0 0),(.ref 31),(.bool false),(.int 181 0),(.ref 32),.none,.none,.none,.none,(.int 214 0),(.int 4 0),(.str "/claim/cut.py" 215)]),#[]⟩
noncomputable def Kx (P:Params):Obj:=⟨(.type "frame"),none,.plain,#[(some (.ref 33)),(some (.ref 3)),(some (.ref 30)),none,(some (.str "cpy313.ftplib" 187)),none,(some (.ref 0))]⟩
noncomputable def F6 (P:Params):Obj:=⟨(.type "dict"),none,(.dict #[en P "__module__" 216 (.str "cpy313.ftplib" 187),en P "__firstlineno__" 220 (.int (4) 219),en P "__static_attributes__" 221 (.ref 35),en P "__doc__" 222 .none] 2),#[]⟩
noncomputable def F5 (P:Params):Obj:=⟨(.type "type"),none,(.cls {name:="error_reply",bases:=[(.ref 24)],mro:=[(.ref 37),(.ref 24),(.type "Exception"),(.type "BaseException"),(.type "object")],ns:=36,qualname:="error_reply",hasDict:=true,slotNames:=[],subclasses:=[],abstract:=false,collection:=none,hasDel:=false}),#[(some (.ref 28)),none,(some (.str "error_reply" 209)),(some (.str "error_reply" 217)),(some (.builtin "Exception.__new__")),(some (.bool true))]⟩
noncomputable def Kj (P:Params):Obj:=⟨(.type "super"),none,(.fields #[(.ref 37),(.ref 37),(.ref 37)]),#[]⟩
noncomputable def Kz (P:Params):Obj:=⟨(.type "builtin_function_or_method"),none,(.fields #[(.builtin "object.__init_subclass__"),(.ref 37)]),#[]⟩
noncomputable def Kq (P:Params):Obj:=⟨(.type "dict"),none,(.dict #[en P "__module__" 232 (.str "cpy313.ftplib" 187),en P "__qualname__" 234 (.str "error_proto" 233),en P "__firstlineno__" 236 (.int (6) 235),en P "__static_attributes__" 237 (.ref 47)] 4),#[]⟩
noncomputable def K9 (P:Params):Obj:=⟨(.type "code"),none,(.fields #[(.str "error_proto" 227),(.str "error_proto" 228),(.str "/claim/cut.py" 229),(.int 6 0),(.int 0 0),(.int 0 0),(.int 0 0),(.int 0 0),(.ref 43),(.bool false),(.int 181 0),(.ref 44),.none,.none,.none,.none,(.int 230 0),(.int 6 0),(.str "/claim/cut.py" 231)]),#[]⟩
noncomputable def K8 (P:Params):Obj:=⟨(.type "frame"),none,.plain,#[(some (.ref 45)),(some (.ref 3)),(some (.ref 42)),none,(some (.str "cpy313.ftplib" 187)),none,(some (.ref 0))]⟩
noncomputable def F4 (P:Params):Obj:=⟨(.type "dict"),none,(.dict #[en P "__module__" 232 (.str "cpy313.ftplib" 187),en P "__firstlineno__" 236 (.int (6) 235),en P "__static_attributes__" 237 (.ref 47),en P "__doc__" 238 .none] 2),#[]⟩
noncomputable def Wo (P:Params):Obj:=⟨(.type "type"),none,(.cls {name:="error_proto",bases:=[(.ref 24)],mro:=[(.ref 49),(.ref 24),(.type "Exception"),(.type "BaseException"),(.type "object")],ns:=48,qualname:="error_proto",hasDict:=true,slotNames:=[],subclasses:=[],abstract:=false,collection:=none,hasDel:=false}),#[(some (.ref 40)),none,(some (.str "error_proto" 225)),(some (.str "error_proto" 233)),(some (.builtin "Exception.__new__")),(some (.bool true))]⟩
noncomputable def K7 (P:Params):Obj:=⟨(.type "super"),none,(.fields #[(.ref 49),(.ref 49),(.ref 49)]),#[]⟩
noncomputable def K6 (P:Params):Obj:=⟨(.type "builtin_function_or_method"),none,(.fields #[(.builtin "object.__init_subclass__"),(.ref 49)]),#[]⟩
noncomputable def We (P:Params):Obj:=⟨(.type "tuple"),none,(.seq #[(.str "resp" 244),(.str "peer" 245),(.str "left" 246),(.str "right" 247),(.str "parts" 248),(.str "host" 249),(.str "port" 250)] 0),#[]⟩
noncomputable def K5 (P:Params):Obj:=⟨.none,none,Fn "parse229" 4 0 .none .none,#[]⟩
noncomputable def Wi (P:Params):Obj:=⟨(.type "code"),none,(.fields #[(.str "parse229" 241),(.str "parse229" 242),(.str "/claim/cut.py" 243),(.int 8 0),(.int 2 0),(.int 0 0),(.int 0 0),(.int 3 0),(.ref 52),(.bool true),(.int 181 0),(.ref 53),.none,(.ref 54),(.ref 55),(.ref 56),(.int 251 0),(.int 8 0),(.str "/claim/cut.py" 252)]),#[]⟩
noncomputable def Wa (P:Params):Obj:=⟨(.type "function"),none,Fn "parse229" 4 3 (.str "cpy313.ftplib" 187) (.ref 57),#[]⟩
noncomputable def Ws (P:Params):Obj:=⟨(.type "tuple"),none,(.seq #[(.str "resp" 257),(.str "dirname" 258),(.str "i" 259),(.str "n" 260),(.str "c" 261)] 0),#[]⟩
noncomputable def K4 (P:Params):Obj:=⟨.none,none,Fn "parse257" 5 0 .none .none,#[]⟩
noncomputable def Wc (P:Params):Obj:=⟨(.type "code"),none,(.fields #[(.str "parse257" 254),(.str "parse257" 255),(.str "/claim/cut.py" 256),(.int 25 0),(.int 1 0),(.int 0 0),(.int 0 0),(.int 3 0),(.ref 59),(.bool true),(.int 181 0),(.ref 60),.none,(.ref 61),(.ref 62),(.ref 63),(.int 262 0),(.int 25 0),(.str "/claim/cut.py" 263)]),#[]⟩
noncomputable def Wl (P:Params):Obj:=⟨(.type "function"),none,Fn "parse257" 5 3 (.str "cpy313.ftplib" 187) (.ref 64),#[]⟩
noncomputable def Wn (P:Params):Obj:=⟨(.type "tuple"),none,(.seq #[(.str "want" 272),(.str "got" 273),(.str "ws" 274),(.str "startpos" 275),(.str "endpos" 276),(.str "w" 277)] 0),#[]⟩
noncomputable def K2 (P:Params):Obj:=⟨.none,none,Fn "_ellipsis_match" 8 0 .none .none,#[]⟩
noncomputable def Wt (P:Params):Obj:=⟨(.type "code"),none,(.fields #[(.str "_ellipsis_match" 269),(.str "_ellipsis_match" 270),(.str "/claim/cut.py" 271),(.int 44 0),(.int 2 0),(.int 0 0),(.int 0 0),(.int 3 0),(.ref 66),(.bool true),(.int 181 0),(.ref 67),.none,(.ref 68),(.ref 69),(.ref 70),(.int 278 0),(.int 44 0),(.str "/claim/cut.py" 279)]),#[]⟩
noncomputable def Wd (P:Params):Obj:=⟨(.type "function"),none,Fn "_ellipsis_match" 8 3 (.str "cpy313.doctest" 265) (.ref 71),#[]⟩
noncomputable def Wh (P:Params):Obj:=⟨(.type "tuple"),none,(.seq #[(.str "num" 286),(.str "val" 287),(.str "AP" 288),(.str "mod" 289)] 0),#[]⟩
noncomputable def Ho (P:Params):Obj:=⟨.none,none,Fn "Int2AP" 10 0 .none .none,#[]⟩
noncomputable def Wf (P:Params):Obj:=⟨(.type "code"),none,(.fields #[(.str "Int2AP" 283),(.str "Int2AP" 284),(.str "/claim/cut.py" 285),(.int 73 0),(.int 1 0),(.int 0 0),(.int 0 0),(.int 3 0),(.ref 73),(.bool true),(.int 181 0),(.ref 74),.none,(.ref 75),(.ref 76),(.ref 77),(.int 290 0),(.int 73 0),(.str "/claim/cut.py" 291)]),#[]⟩
noncomputable def Wg (P:Params):Obj:=⟨(.type "function"),none,Fn "Int2AP" 10 3 (.str "cpy313.imaplib" 281) (.ref 78),#[]⟩
noncomputable def TA (P:Params):BT:=
 (.node (boot_o_0 P) (.node (boot_o_1 P) (.node (Zqh P) (.node (boot_o_7 P) (.node (Lm P) (.node (Qq P) (lf (K4 P)) .nil) (.node (Qq P) (lf (Wg P)) .nil)) (.node (F9 P) (.node (Kz P) (lf (Wt P)) .nil) (lf (Qq P)))) (.node (Qq P) (.node (Zb P) (.node (Qq P) (lf (Zb P)) .nil) (lf (K6 P))) (.node (Kv P) (.node (Qq P) (lf (Wh P)) .nil) (lf (Qq P))))) (.node (boot_o_5 P) (.node (boot_o_9 P) (.node (Db P) (.node (Kk P) (lf (Wl P)) .nil) (lf (Wo P))) (.node (F7 P) (.node (V2 P) (lf (Qq P)) .nil) (lf (Wi P)))) (.node (H8 P) (.node (Ku P) (.node (F5 P) (lf (Qq P)) .nil) (lf (Zb P))) (.node (V2 P) (.node (K9 P) (lf (Ho P)) .nil) (lf (Ws P)))))) (.node (S9 P) (.node (boot_o_4 P) (.node (boot_o_8 P) (.node (V2 P) (.node (Zb P) (lf (Wc P)) .nil) (lf (F4 P))) (.node (F8 P) (.node (Ua P) (lf (Wd P)) .nil) (lf (K5 P)))) (.node (Qsg P) (.node (Kb P) (.node (F6 P) (lf (Wn P)) .nil) (lf (Qq P))) (.node (Ua P) (.node (Zb P) (lf (Qq P)) .nil) (lf (Zb P))))) (.node (boot_o_6 P) (.node (boot_o_10 P) (.node (Qq P) (.node (Kx P) (lf (Qq P)) .nil) (lf (K7 P))) (.node (Ky P) (.node (Kq P) (lf (Zb P)) .nil) (lf (Wa P)))) (.node (H7 P) (.node (Qq P) (.node (Kj P) (lf (K2 P)) .nil) (lf (We P))) (.node (Kw P) (.node (K8 P) (lf (Wf P)) .nil) (lf (Qq P)))))))
noncomputable def SA (w:World)(os:OsState):SharedT:=⟨TA w.params,80,(boot_heap w.params).life,#[],boot_drawn,295,os⟩
noncomputable def Ql5:Pos:=⟨81,0,81,8⟩
noncomputable def Qmj (P:Params):Obj:=⟨(.type "dict"),none,(.dict #[en P "__name__" 165 (.str "cpy313.stringprep" 293),en P "__doc__" 166 .none,en P "__package__" 167 .none,en P "__loader__" 168 (.builtin "__main__.__loader__#opaque"),en P "__spec__" 169 .none,en P "__annotations__" 170 (.ref 6),en P "__builtins__" 171 (.ref 4),en P "__file__" 173 (.str "/claim/cut.py" 172),en P "__cached__" 174 .none,en P "Error" 208 (.ref 24),en P "error_reply" 224 (.ref 37),en P "error_proto" 240 (.ref 49),en P "parse229" 253 (.ref 58),en P "parse257" 264 (.ref 65),en P "ELLIPSIS_MARKER" 268 (.str "..." 267),en P "_ellipsis_match" 280 (.ref 72),en P "Int2AP" 292 (.ref 79),en P "b1_set" 354 (.ref 87),en P "in_table_b1" 361 (.ref 97)] 19),#[]⟩
noncomputable def Ef (P:Params):Obj:=⟨.none,none,(.fields #[(.int 2 0),(.int 0 0),(.ref 20),(.int 4 0),(.int 0 0),(.ref 33),(.int 6 0),(.int 0 0),(.ref 45),(.int 8 0),(.int 0 0),(.ref 57),(.int 25 0),(.int 0 0),(.ref 64),(.int 44 0),(.int 0 0),(.ref 71),(.int 73 0),(.int 0 0),(.ref 78),(.int 83 0),(.int 0 0),(.ref 96)]),#[]⟩
noncomputable def Nq (P:Params):Obj:=⟨(.type "list"),none,(.seq #[(.int (173) 295),(.int (847) 296),(.int (6150) 297),(.int (6155) 298),(.int (6156) 299),(.int (6157) 300),(.int (8203) 301),(.int (8204) 302),(.int (8205) 303),(.int (8288) 304),(.int (65279) 305)] 0),#[]⟩
noncomputable def N9 (P:Params):Obj:=⟨(.type "range"),none,(.fields #[(.int (65024) 306),(.int (65040) 307),(.int (1) 308)]),#[]⟩
noncomputable def N8 (P:Params):Obj:=⟨(.type "list"),none,(.seq #[(.int (65024) 311),(.int (65025) 312),(.int (65026) 313),(.int (65027) 314),(.int (65028) 315),(.int (65029) 316),(.int (65030) 317),(.int (65031) 318),(.int (65032) 319),(.int (65033) 320),(.int (65034) 321),(.int (65035) 322),(.int (65036) 323),(.int (65037) 324),(.int (65038) 325),(.int (65039) 326)] 18),#[]⟩
noncomputable def N7 (P:Params):Obj:=⟨(.type "range_iterator"),none,(.fields #[(.int 65040 0),(.int 0 0),(.int 1 0)]),#[]⟩
noncomputable def N6 (P:Params):Obj:=⟨(.type "StopIteration"),none,(.fields #[(.ref 84),.none,.none,.none,(.bool false),.none]),#[]⟩
noncomputable def N5 (P:Params):Obj:=⟨(.type "list"),none,(.seq #[(.int (173) 295),(.int (847) 296),(.int (6150) 297),(.int (6155) 298),(.int (6156) 299),(.int (6157) 300),(.int (8203) 301),(.int (8204) 302),(.int (8205) 303),(.int (8288) 304),(.int (65279) 305),(.int (65024) 311),(.int (65025) 312),(.int (65026) 313),(.int (65027) 314),(.int (65028) 315),(.int (65029) 316),(.int (65030) 317),(.int (65031) 318),(.int (65032) 319),(.int (65033) 320),(.int (65034) 321),(.int (65035) 322),(.int (65036) 323),(.int (65037) 324),(.int (65038) 325),(.int (65039) 326)] 0),#[]⟩
noncomputable def Gj (P:Params):Obj:=⟨(.type "set"),none,(.set #[(65024,(.int (65024) 311)),(65025,(.int (65025) 312)),(65026,(.int (65026) 313)),(65027,(.int (65027) 314)),(65028,(.int (65028) 315)),(65029,(.int (65029) 316)),(6150,(.int (6150) 297)),(65030,(.int (65030) 317)),(65031,(.int (65031) 318)),(65032,(.int (65032) 319)),(65033,(.int (65033) 320)),(6155,(.int (6155) 298)),(6156,(.int (6156) 299)),(6157,(.int (6157) 300)),(8203,(.int (8203) 301)),(8204,(.int (8204) 302)),(8205,(.int (8205) 303)),(65034,(.int (65034) 321)),(65035,(.int (65035) 322)),(65036,(.int (65036) 323)),(65037,(.int (65037) 324)),(65038,(.int (65038) 325)),(65039,(.int (65039) 326)),(173,(.int (173) 295)),(847,(.int (847) 296)),(8288,(.int (8288) 304)),(65279,(.int (65279) 305))] 29 {mask:=127,place:=#[0,1,2,3,4,5,6,7,8,9,10,11,12,13,14,15,16,17,18,19,20,21,22,45,79,96,127],dummies:=#[],finger:=0,led:=!P.followText "set-order",moves:=2,plain:=true}),#[]⟩
noncomputable def N4 (P:Params):Obj:=⟨(.type "list_iterator"),none,(.fields #[.none,(.int 27 0)]),#[]⟩
noncomputable def N3 (P:Params):Obj:=⟨(.type "StopIteration"),none,(.fields #[(.ref 89),.none,.none,.none,(.bool false),.none]),#[]⟩
noncomputable def He (P:Params):Obj:=⟨(.type "tuple"),none,(.seq #[(.str "code" 358)] 0),#[]⟩
noncomputable def N2 (P:Params):Obj:=⟨.none,none,Fn "in_table_b1" 13 0 .none .none,#[]⟩
noncomputable def Hi (P:Params):Obj:=⟨(.type "code"),none,(.fields #[(.str "in_table_b1" 355),(.str "in_table_b1" 356),(.str "/claim/cut.py" 357),(.int 83 0),(.int 1 0),(.int 0 0),(.int 0 0),(.int 3 0),(.ref 91),(.bool true),(.int 181 0),(.ref 92),.none,(.ref 93),(.ref 94),(.ref 95),(.int 359 0),(.int 83 0),(.str "/claim/cut.py" 360)]),#[]⟩
noncomputable def Ha (P:Params):Obj:=⟨(.type "function"),none,Fn "in_table_b1" 13 3 (.str "cpy313.stringprep" 293) (.ref 96),#[]⟩
noncomputable def TB (P:Params):BT:=
 (.node (boot_o_0 P) (.node (boot_o_1 P) (.node (Qmj P) (.node (boot_o_7 P) (.node (Lm P) (.node (Qq P) (lf (K4 P)) (lf (N2 P))) (.node (Qq P) (lf (Wg P)) .nil)) (.node (F9 P) (.node (Kz P) (lf (Wt P)) .nil) (.node (Qq P) (lf (Gj P)) .nil))) (.node (Qq P) (.node (Zb P) (.node (Qq P) (lf (Zb P)) .nil) (.node (K6 P) (lf (N7 P)) .nil)) (.node (Kv P) (.node (Qq P) (lf (Wh P)) .nil) (.node (Qq P) (lf (Qq P)) .nil)))) (.node (boot_o_5 P) (.node (boot_o_9 P) (.node (Db P) (.node (Kk P) (lf (Wl P)) (lf (Ha P))) (.node (Wo P) (lf (N9 P)) .nil)) (.node (F7 P) (.node (V2 P) (lf (Qq P)) .nil) (.node (Wi P) (lf (Qq P)) .nil))) (.node (H8 P) (.node (Ku P) (.node (F5 P) (lf (Qq P)) .nil) (.node (Zb P) (lf (N6 P)) .nil)) (.node (V2 P) (.node (K9 P) (lf (Ho P)) .nil) (.node (Ws P) (lf (He P)) .nil))))) (.node (S9 P) (.node (boot_o_4 P) (.node (boot_o_8 P) (.node (V2 P) (.node (Zb P) (lf (Wc P)) (lf (Hi P))) (.node (F4 P) (lf (Nq P)) .nil)) (.node (F8 P) (.node (Ua P) (lf (Wd P)) .nil) (.node (K5 P) (lf (N4 P)) .nil))) (.node (Ef P) (.node (Kb P) (.node (F6 P) (lf (Wn P)) .nil) (.node (Qq P) (lf (Qq P)) .nil)) (.node (Ua P) (.node (Zb P) (lf (Qq P)) .nil) (.node (Zb P) (lf (Zb P)) .nil)))) (.node (boot_o_6 P) (.node (boot_o_10 P) (.node (Qq P) (.node (Kx P) (lf (Qq P)) .nil) (.node (K7 P) (lf (N8 P)) .nil)) (.node (Ky P) (.node (Kq P) (lf (Zb P)) .nil) (.node (Wa P) (lf (N3 P)) .nil))) (.node (H7 P) (.node (Qq P) (.node (Kj P) (lf (K2 P)) .nil) (.node (We P) (lf (N5 P)) .nil)) (.node (Kw P) (.node (K8 P) (lf (Wf P)) .nil) (.node (Qq P) (lf (Qq P)) .nil))))))
noncomputable def SB (w:World)(os:OsState):SharedT:=⟨TB w.params,98,(boot_heap w.params).life,#[],boot_drawn,362,os⟩
noncomputable def Qm5:Pos:=⟨83,0,84,30⟩
noncomputable abbrev M6:Option Value:=some (Value.ref 6)
noncomputable def Qbq:List Stmt:=pw.main.body.take 12
theorem Qod (p:Program)(b:List Stmt)(w:World)(os:OsState):segRunT treeTable p w 11 M6 1 802 (Sb w os) (piecesOf Qbq env (.body b env) Ql3 Bf)=some (.next,SA w os,.body b env,Ql5):=by
 rw[Fast.te10110043849684766642,Fast.te14364793385576792824]
 kernel_rfl
theorem Qhs (w:World)(os:OsState):topGo treeTable pw w 11 M6 12 ⟨boot_heap w.params,#[],boot_drawn,boot_toks,os⟩ (topStub pw)=
  some ((Sa w os).abs,⟨denote treeTable (.body (behindTheImports pw) env),.body (behindTheImports pw) env,Ql4,Bf⟩):=by
 rw[Fast.te15667345088766844465,Fast.te14364793385576792824,Fast.te11892475500146522536]
 kernel_rfl
theorem Qyg (w:World)(os:OsState):segRun treeTable pw w 11 M6 1 1 (Sa w os).abs (blockOf (behindTheImports pw) env (.body (behindTheImports pw) env) Ql4 Bf)=
  some (.next,(Sb w os).abs,.body (behindTheImports pw) env,Ql3):=by
 rw[Fast.te14374325043358763698,Fast.te14364793385576792824]
 kernel_rfl
noncomputable def Qb9:List Stmt:=(pw.main.body.drop 12).take 2
theorem Qoh (p:Program)(b:List Stmt)(os:OsState):∀w:World,segRunT treeTable p w 11 M6 1 1028 (SA w os) (piecesOf Qb9 env (.body b env) Ql5 Bf)=some (.next,SB w os,.body b env,Qm5):=by
 rw[Fast.te10110043849684766642,Fast.te14364793385576792824]
 refine byRow2 "set-order" (byRow2 "special-get-raises" ?_ ?_) (byRow2 "special-get-raises" ?_ ?_) <;> (intro w;kernel_rfl)
noncomputable def Fj {α:Type}(n:Nat)(l:List α):List (List α):=n.rec (motive:=λ J=>List α->List (List α)) (λ J=>[]) (λ J r l=>l.take 17::r (l.drop 17)) l
theorem I8 {α:Type}(n:Nat):∀l:List α,(Fj n l).flatten++l.drop (17*n)=l:=by
 induction n with
 |zero=>exact λ J=>rfl
 |succ n ih=>
  intro l;show(l.take 17::Fj n (l.drop 17)).flatten++_=l;rw[List.flatten_cons,Qr,show 17*(n+1)=17+17*n from Nat.add_comm _ _,<- List.drop_drop,ih,List.take_append_drop]
theorem Qz0 {α:Type}(n:Nat):∀l:List α,17*n<=l.length->∀g∈Fj n l,g.length=17:=by
 induction n with
 |zero=>exact λ J J J h=>nomatch h
 |succ n ih=>
  intro l h g hg
  rcases Qx.mp (show g∈l.take 17::Fj n (l.drop 17) from hg) with rfl |hg
  .rw[List.length_take];lia
  .exact ih (l.drop 17) (by rw[List.length_drop];lia) g hg
theorem Cd {α:Type}(n:Nat):∀l:List α,(Fj n l).length=n:=by
 induction n with
 |zero=>exact λ J=>rfl
 |succ n ih=>exact λ l=>Zm Nat.succ (ih _)
noncomputable def cOf (e:Expr):Option Const:=if h:e.ctorIdx=19 then Expr.Constant.elim e h λ c J J=>some c else none
theorem Qgl {e:Expr}{c:Const}(h:cOf e=some c):∃a b,e=.Constant c a b:=by
 delta cOf at h
 by_cases q:e.ctorIdx=19
 .rw[dif_pos q]at h;exact Expr.Constant.elim (motive_1:=λ e=>∀q,Expr.Constant.elim e q (λ c J J=>some c)=some c->∃a b,e=.Constant c a b) e q (λ c' a b J h=>⟨a,b,by cases h;rfl⟩) q h
 .rw[dif_neg q]at h;cases h
noncomputable def iOf (c:Const):Option Int:=if h:c.ctorIdx=2 then Const.int.elim c h some else none
theorem Qrl {c:Const}{i:Int}(h:iOf c=some i):c=.int i:=by
 delta iOf at h
 by_cases q:c.ctorIdx=2
 .rw[dif_pos q]at h;exact Const.int.elim (motive:=λ c=>∀q,Const.int.elim c q some=some i->c=.int i) c q (λ J J h=>Zm Const.int (Option.some.inj h)) q h
 .rw[dif_neg q]at h;cases h
noncomputable def sOf (c:Const):Option Str:=if h:c.ctorIdx=5 then Const.str.elim c h some else none
theorem Qs5 {c:Const}{i:Str}(h:sOf c=some i):c=.str i:=by
 delta sOf at h
 by_cases q:c.ctorIdx=5
 .rw[dif_pos q]at h;exact Const.str.elim (motive:=λ c=>∀q,Const.str.elim c q some=some i->c=.str i) c q (λ J J h=>Zm Const.str (Option.some.inj h)) q h
 .rw[dif_neg q]at h;cases h
noncomputable def Lh (k:Option Expr)(v:Expr):Option KV:=((k.bind cOf).bind iOf).bind λ i=>((cOf v).bind sOf).map λ s=>(i,s)
theorem Qvi {k:Option Expr}{v:Expr}{x:KV}(h:Lh k v=some x):(∃a b,k=some (.Constant (.int x.1) a b))/\∃a b,v=.Constant (.str x.2) a b:=by
 obtain⟨i,h1,h2⟩:=Option.bind_eq_some_iff.mp h;obtain⟨s,h3,rfl⟩:=Option.map_eq_some_iff.mp h2;obtain⟨ci,h4,h5⟩:=Option.bind_eq_some_iff.mp h1;obtain⟨e,rfl,h6⟩:=Option.bind_eq_some_iff.mp h4;obtain⟨cs,h7,h8⟩:=Option.bind_eq_some_iff.mp h3;rw[Qrl h5]at h6;rw[Qs5 h8]at h7;obtain⟨a,b,rfl⟩:=Qgl h6;exact⟨⟨a,b,rfl⟩,Qgl h7⟩
theorem Qp6 (q:Pos)(env:Env)(kvs:List KV):∀(ks:List (Option Expr)) (vs:List Expr),List.zipWith Lh ks vs=kvs.map some->ks.length=vs.length->
  (evalEachOpt ks env).zip ((evalEach vs env).map λ v=>do let x <- v;standAt q;pure x)=kvs.map λ x=>(some (J3 q x).1,(J3 q x).2):=by
 induction kvs with
 |nil=>
  intro ks vs h n;cases ks with
  |nil=>rfl
  |cons k ks=>
   cases vs with
   |nil=>cases n
   |cons v vs=>cases h
 |cons x kvs ih=>
  intro ks vs h n;cases ks with
  |nil=>cases h
  |cons k ks=>
   cases vs with
   |nil=>cases h
   |cons v vs=>
    obtain⟨h1,h2⟩:=List.cons.inj (show Lh k v::List.zipWith Lh ks vs=some x::kvs.map some from h);obtain⟨⟨a,b,rfl⟩,c,d,rfl⟩:=Qvi h1;exact Zm (List.cons (some (J3 q x).1,(J3 q x).2)) (ih ks vs h2 (Nat.succ.inj n))
noncomputable def Jb (a:Int)(l:List Int):Bool:=l.rec (motive:=λ J=>Int->Bool) (λ J=>true) (λ b J r a=>decide (a<b)&&r b) a
theorem R7 (l:List Int):∀a:Int,Jb a l=true->∀b∈l,a<b:=by
 induction l with
 |nil=>exact λ J J J h=>nomatch h
 |cons x r ih=>
  intro a h b hb;have h:=Qe.mp (show(decide (a<x)&&Jb x r)=true from h);have h1:=Qc h.1
  rcases Qx.mp hb with rfl |hb
  .exact h1
  .exact Int.lt_trans h1 (ih x h.2 b hb)
theorem Ld (l:List Int):∀a:Int,Jb a l=true->l.Nodup:=by
 induction l with
 |nil=>exact λ J J=>List.nodup_nil
 |cons x r ih=>
  intro a h;have h:=Qe.mp (show(decide (a<x)&&Jb x r)=true from h);exact List.nodup_cons.mpr ⟨λ hx=>absurd (R7 r x h.2 x hx) (Int.lt_irrefl _),ih x h.2⟩
theorem Au {t t':BT}{n:Nat}(life:Life)(h:∀i,i<n->t.get i=t'.get i):absHeap t n life=absHeap t' n life:=by
 unfold absHeap BT.list
 congr 2
 refine List.map_congr_left λ i hi=>?_;rw[h i (List.mem_range.mp hi)]
noncomputable def Qn0:List Expr:=if h:(stN 14).ctorIdx=5 then Stmt.Assign.elim (stN 14) h λ ts J J=>ts else []
noncomputable def Rg:Expr:=if h:(stN 14).ctorIdx=5 then Stmt.Assign.elim (stN 14) h λ J v J=>v else default
noncomputable def M4:Pos:=if h:(stN 14).ctorIdx=5 then Stmt.Assign.elim (stN 14) h λ J J p=>p else default
noncomputable def Iw:List (Option Expr):=if h:Rg.ctorIdx=6 then Expr.Dict.elim Rg h λ ks J J=>ks else []
noncomputable def Ik:List Expr:=if h:Rg.ctorIdx=6 then Expr.Dict.elim Rg h λ J vs J=>vs else []
noncomputable def Qz6:Pos:=if h:Rg.ctorIdx=6 then Expr.Dict.elim Rg h λ J J p=>p else default
noncomputable def Hk:List KV:=(List.zipWith Lh Iw Ik).filterMap id
noncomputable def Kr:List (List KV):=Fj 38 Hk
noncomputable def G6:List KV:=Hk.drop 646
noncomputable def G7:List (List DictEntry):=U1 362 (Kr++[G6])
noncomputable def Wx (P:Params):Obj:=Xs G7.flatten 650
noncomputable def Qd (i:Nat):Obj:=Xs ((G7[i]?).getD []) ((G7[i]?).getD []).length
noncomputable def TD0 (P:Params):BT:=
 (.node (boot_o_0 P) (.node (boot_o_1 P) (.node (Qmj P) (.node (boot_o_7 P) (.node (Lm P) (.node (Qq P) (.node (K4 P) (.node (Qd 29) .nil .nil) .nil) (lf (N2 P))) (.node (Qq P) (lf (Wg P)) (.node (Qd 13) .nil .nil))) (.node (F9 P) (.node (Kz P) (.node (Wt P) (.node (Qd 37) .nil .nil) .nil) (.node (Qd 5) .nil .nil)) (.node (Qq P) (lf (Gj P)) (.node (Qd 21) .nil .nil)))) (.node (Qq P) (.node (Zb P) (.node (Qq P) (.node (Zb P) (.node (Qd 33) .nil .nil) .nil) (.node (Qd 1) .nil .nil)) (.node (K6 P) (lf (N7 P)) (.node (Qd 17) .nil .nil))) (.node (Kv P) (.node (Qq P) (lf (Wh P)) (.node (Qd 9) .nil .nil)) (.node (Qq P) (lf (Qq P)) (.node (Qd 25) .nil .nil))))) (.node (boot_o_5 P) (.node (boot_o_9 P) (.node (Db P) (.node (Kk P) (.node (Wl P) (.node (Qd 31) .nil .nil) .nil) (lf (Ha P))) (.node (Wo P) (lf (N9 P)) (.node (Qd 15) .nil .nil))) (.node (F7 P) (.node (V2 P) (lf (Qq P)) (.node (Qd 7) .nil .nil)) (.node (Wi P) (lf (Qq P)) (.node (Qd 23) .nil .nil)))) (.node (H8 P) (.node (Ku P) (.node (F5 P) (.node (Qq P) (.node (Qd 35) .nil .nil) .nil) (.node (Qd 3) .nil .nil)) (.node (Zb P) (lf (N6 P)) (.node (Qd 19) .nil .nil))) (.node (V2 P) (.node (K9 P) (lf (Ho P)) (.node (Qd 11) .nil .nil)) (.node (Ws P) (lf (He P)) (.node (Qd 27) .nil .nil)))))) (.node (S9 P) (.node (boot_o_4 P) (.node (boot_o_8 P) (.node (V2 P) (.node (Zb P) (.node (Wc P) (.node (Qd 30) .nil .nil) .nil) (lf (Hi P))) (.node (F4 P) (lf (Nq P)) (.node (Qd 14) .nil .nil))) (.node (F8 P) (.node (Ua P) (.node (Wd P) (.node (Qd 38) .nil .nil) .nil) (.node (Qd 6) .nil .nil)) (.node (K5 P) (lf (N4 P)) (.node (Qd 22) .nil .nil)))) (.node (Ef P) (.node (Kb P) (.node (F6 P) (.node (Wn P) (.node (Qd 34) .nil .nil) .nil) (.node (Qd 2) .nil .nil)) (.node (Qq P) (lf (Qq P)) (.node (Qd 18) .nil .nil))) (.node (Ua P) (.node (Zb P) (lf (Qq P)) (.node (Qd 10) .nil .nil)) (.node (Zb P) (lf (Zb P)) (.node (Qd 26) .nil .nil))))) (.node (boot_o_6 P) (.node (boot_o_10 P) (.node (Qq P) (.node (Kx P) (.node (Qq P) (.node (Qd 32) .nil .nil) .nil) (lf (Wx P))) (.node (K7 P) (lf (N8 P)) (.node (Qd 16) .nil .nil))) (.node (Ky P) (.node (Kq P) (lf (Zb P)) (.node (Qd 8) .nil .nil)) (.node (Wa P) (lf (N3 P)) (.node (Qd 24) .nil .nil)))) (.node (H7 P) (.node (Qq P) (.node (Kj P) (.node (K2 P) (.node (Qd 36) .nil .nil) .nil) (.node (Qd 4) .nil .nil)) (.node (We P) (lf (N5 P)) (.node (Qd 20) .nil .nil))) (.node (Kw P) (.node (K8 P) (lf (Wf P)) (.node (Qd 12) .nil .nil)) (.node (Qq P) (lf (Qq P)) (.node (Qd 28) .nil .nil)))))))
noncomputable def Zwm:Nat:=362
noncomputable def SD0 (w:World)(os:OsState):SharedT:=⟨TD0 w.params,137,(boot_heap w.params).life,#[],boot_drawn,2312,os⟩
noncomputable def Qsp (P:Params):Obj:=⟨(.type "dict"),none,(.dict #[en P "__name__" 165 (.str "cpy313.stringprep" 293),en P "__doc__" 166 .none,en P "__package__" 167 .none,en P "__loader__" 168 (.builtin "__main__.__loader__#opaque"),en P "__spec__" 169 .none,en P "__annotations__" 170 (.ref 6),en P "__builtins__" 171 (.ref 4),en P "__file__" 173 (.str "/claim/cut.py" 172),en P "__cached__" 174 .none,en P "Error" 208 (.ref 24),en P "error_reply" 224 (.ref 37),en P "error_proto" 240 (.ref 49),en P "parse229" 253 (.ref 58),en P "parse257" 264 (.ref 65),en P "ELLIPSIS_MARKER" 268 (.str "..." 267),en P "_ellipsis_match" 280 (.ref 72),en P "Int2AP" 292 (.ref 79),en P "b1_set" 354 (.ref 87),en P "in_table_b1" 361 (.ref 97),en P "b3_exceptions" 2312 (.ref 98)] 20),#[]⟩
noncomputable def TD (P:Params):BT:=
 (.node (boot_o_0 P) (.node (boot_o_1 P) (.node (Qsp P) (.node (boot_o_7 P) (.node (Lm P) (.node (Qq P) (.node (K4 P) (.node (Qd 29) .nil .nil) .nil) (lf (N2 P))) (.node (Qq P) (lf (Wg P)) (.node (Qd 13) .nil .nil))) (.node (F9 P) (.node (Kz P) (.node (Wt P) (.node (Qd 37) .nil .nil) .nil) (.node (Qd 5) .nil .nil)) (.node (Qq P) (lf (Gj P)) (.node (Qd 21) .nil .nil)))) (.node (Qq P) (.node (Zb P) (.node (Qq P) (.node (Zb P) (.node (Qd 33) .nil .nil) .nil) (.node (Qd 1) .nil .nil)) (.node (K6 P) (lf (N7 P)) (.node (Qd 17) .nil .nil))) (.node (Kv P) (.node (Qq P) (lf (Wh P)) (.node (Qd 9) .nil .nil)) (.node (Qq P) (lf (Qq P)) (.node (Qd 25) .nil .nil))))) (.node (boot_o_5 P) (.node (boot_o_9 P) (.node (Db P) (.node (Kk P) (.node (Wl P) (.node (Qd 31) .nil .nil) .nil) (lf (Ha P))) (.node (Wo P) (lf (N9 P)) (.node (Qd 15) .nil .nil))) (.node (F7 P) (.node (V2 P) (lf (Qq P)) (.node (Qd 7) .nil .nil)) (.node (Wi P) (lf (Qq P)) (.node (Qd 23) .nil .nil)))) (.node (H8 P) (.node (Ku P) (.node (F5 P) (.node (Qq P) (.node (Qd 35) .nil .nil) .nil) (.node (Qd 3) .nil .nil)) (.node (Zb P) (lf (N6 P)) (.node (Qd 19) .nil .nil))) (.node (V2 P) (.node (K9 P) (lf (Ho P)) (.node (Qd 11) .nil .nil)) (.node (Ws P) (lf (He P)) (.node (Qd 27) .nil .nil)))))) (.node (S9 P) (.node (boot_o_4 P) (.node (boot_o_8 P) (.node (V2 P) (.node (Zb P) (.node (Wc P) (.node (Qd 30) .nil .nil) .nil) (lf (Hi P))) (.node (F4 P) (lf (Nq P)) (.node (Qd 14) .nil .nil))) (.node (F8 P) (.node (Ua P) (.node (Wd P) (.node (Qd 38) .nil .nil) .nil) (.node (Qd 6) .nil .nil)) (.node (K5 P) (lf (N4 P)) (.node (Qd 22) .nil .nil)))) (.node (Ef P) (.node (Kb P) (.node (F6 P) (.node (Wn P) (.node (Qd 34) .nil .nil) .nil) (.node (Qd 2) .nil .nil)) (.node (Qq P) (lf (Qq P)) (.node (Qd 18) .nil .nil))) (.node (Ua P) (.node (Zb P) (lf (Qq P)) (.node (Qd 10) .nil .nil)) (.node (Zb P) (lf (Zb P)) (.node (Qd 26) .nil .nil))))) (.node (boot_o_6 P) (.node (boot_o_10 P) (.node (Qq P) (.node (Kx P) (.node (Qq P) (.node (Qd 32) .nil .nil) .nil) (lf (Wx P))) (.node (K7 P) (lf (N8 P)) (.node (Qd 16) .nil .nil))) (.node (Ky P) (.node (Kq P) (lf (Zb P)) (.node (Qd 8) .nil .nil)) (.node (Wa P) (lf (N3 P)) (.node (Qd 24) .nil .nil)))) (.node (H7 P) (.node (Qq P) (.node (Kj P) (.node (K2 P) (.node (Qd 36) .nil .nil) .nil) (.node (Qd 4) .nil .nil)) (.node (We P) (lf (N5 P)) (.node (Qd 20) .nil .nil))) (.node (Kw P) (.node (K8 P) (lf (Wf P)) (.node (Qd 12) .nil .nil)) (.node (Qq P) (lf (Qq P)) (.node (Qd 28) .nil .nil)))))))
noncomputable def SD (w:World)(os:OsState):SharedT:=⟨TD w.params,137,(boot_heap w.params).life,#[],boot_drawn,2313,os⟩
noncomputable def Qm4:Pos:=⟨85,0,85,13⟩
noncomputable def Qmz (P:Params):Obj:=⟨(.type "dict"),none,(.dict #[en P "__name__" 165 (.str "law_wr0043_02" 2321),en P "__doc__" 166 .none,en P "__package__" 167 .none,en P "__loader__" 168 (.builtin "__main__.__loader__#opaque"),en P "__spec__" 169 .none,en P "__annotations__" 170 (.ref 6),en P "__builtins__" 171 (.ref 4),en P "__file__" 173 (.str "/claim/cut.py" 172),en P "__cached__" 174 .none,en P "Error" 208 (.ref 24),en P "error_reply" 224 (.ref 37),en P "error_proto" 240 (.ref 49),en P "parse229" 253 (.ref 58),en P "parse257" 264 (.ref 65),en P "ELLIPSIS_MARKER" 268 (.str "..." 267),en P "_ellipsis_match" 280 (.ref 72),en P "Int2AP" 292 (.ref 79),en P "b1_set" 354 (.ref 87),en P "in_table_b1" 361 (.ref 97),en P "b3_exceptions" 2312 (.ref 98),en P "map_table_b3" 2320 (.ref 143),en P "_law_drawn" 2332 (.ref 150),en P "_law_readings" 2341 (.ref 157),en P "_law_row" 2347 (.ref 162),en P "_law_typed" 2361 (.ref 169),en P "_law_prepared" 2367 (.ref 174),en P "_law_named" 2375 (.ref 181),en P "_law_dots" 2381 (.ref 186),en P "_law_met" 2387 (.ref 191),en P "_law_fades" 2393 (.ref 196),en P "law" 2399 (.ref 201)] 31),#[]⟩
noncomputable def Qd6 (P:Params):Obj:=⟨.none,none,(.fields #[(.int 2 0),(.int 0 0),(.ref 20),(.int 4 0),(.int 0 0),(.ref 33),(.int 6 0),(.int 0 0),(.ref 45),(.int 8 0),(.int 0 0),(.ref 57),(.int 25 0),(.int 0 0),(.ref 64),(.int 44 0),(.int 0 0),(.ref 71),(.int 73 0),(.int 0 0),(.ref 78),(.int 83 0),(.int 0 0),(.ref 96),(.int 86 0),(.int 0 0),(.ref 142),(.int 92 0),(.int 0 0),(.ref 149),(.int 97 0),(.int 0 0),(.ref 156),(.int 104 0),(.int 0 0),(.ref 161),(.int 116 0),(.int 0 0),(.ref 168),(.int 132 0),(.int 0 0),(.ref 173),(.int 134 0),(.int 0 0),(.ref 180),(.int 139 0),(.int 0 0),(.ref 185),(.int 145 0),(.int 0 0),(.ref 190),(.int 160 0),(.int 0 0),(.ref 195),(.int 177 0),(.int 0 0),(.ref 200)]),#[]⟩
noncomputable def Qq2 (P:Params):Obj:=⟨(.type "tuple"),none,(.seq #[(.str "code" 2316),(.str "r" 2317)] 0),#[]⟩
noncomputable def Qmx (P:Params):Obj:=⟨.none,none,Fn "map_table_b3" 15 0 .none .none,#[]⟩
noncomputable def C3 (P:Params):Obj:=⟨(.type "code"),none,(.fields #[(.str "map_table_b3" 2313),(.str "map_table_b3" 2314),(.str "/claim/cut.py" 2315),(.int 86 0),(.int 1 0),(.int 0 0),(.int 0 0),(.int 3 0),(.ref 137),(.bool true),(.int 181 0),(.ref 138),.none,(.ref 139),(.ref 140),(.ref 141),(.int 2318 0),(.int 86 0),(.str "/claim/cut.py" 2319)]),#[]⟩
noncomputable def C2 (P:Params):Obj:=⟨(.type "function"),none,Fn "map_table_b3" 15 3 (.str "cpy313.stringprep" 293) (.ref 142),#[]⟩
noncomputable def C1 (P:Params):Obj:=⟨(.type "tuple"),none,(.seq #[(.str "script" 2326),(.str "drawn" 2327),(.str "place" 2328),(.str "number" 2329)] 0),#[]⟩
noncomputable def Qvp (P:Params):Obj:=⟨.none,none,Fn "_law_drawn" 17 0 .none .none,#[]⟩
noncomputable def C0 (P:Params):Obj:=⟨(.type "code"),none,(.fields #[(.str "_law_drawn" 2323),(.str "_law_drawn" 2324),(.str "/claim/cut.py" 2325),(.int 92 0),(.int 1 0),(.int 0 0),(.int 0 0),(.int 3 0),(.ref 144),(.bool true),(.int 181 0),(.ref 145),.none,(.ref 146),(.ref 147),(.ref 148),(.int 2330 0),(.int 92 0),(.str "/claim/cut.py" 2331)]),#[]⟩
noncomputable def So (P:Params):Obj:=⟨(.type "function"),none,Fn "_law_drawn" 17 3 (.str "law_wr0043_02" 2321) (.ref 149),#[]⟩
noncomputable def Se (P:Params):Obj:=⟨(.type "tuple"),none,(.seq #[(.str "count" 2336),(.str "heard" 2337),(.str "told" 2338)] 0),#[]⟩
noncomputable def Qvm (P:Params):Obj:=⟨.none,none,Fn "_law_readings" 18 0 .none .none,#[]⟩
noncomputable def Si (P:Params):Obj:=⟨(.type "code"),none,(.fields #[(.str "_law_readings" 2333),(.str "_law_readings" 2334),(.str "/claim/cut.py" 2335),(.int 97 0),(.int 1 0),(.int 0 0),(.int 0 0),(.int 3 0),(.ref 151),(.bool true),(.int 181 0),(.ref 152),.none,(.ref 153),(.ref 154),(.ref 155),(.int 2339 0),(.int 97 0),(.str "/claim/cut.py" 2340)]),#[]⟩
noncomputable def Sr (P:Params):Obj:=⟨(.type "function"),none,Fn "_law_readings" 18 3 (.str "law_wr0043_02" 2321) (.ref 156),#[]⟩
noncomputable def Qvb (P:Params):Obj:=⟨.none,none,Fn "_law_row" 19 0 .none .none,#[]⟩
noncomputable def Ss (P:Params):Obj:=⟨(.type "code"),none,(.fields #[(.str "_law_row" 2342),(.str "_law_row" 2343),(.str "/claim/cut.py" 2344),(.int 104 0),(.int 2 0),(.int 0 0),(.int 0 0),(.int 3 0),(.ref 158),(.bool true),(.int 181 0),(.ref 159),.none,.none,.none,(.ref 160),(.int 2345 0),(.int 104 0),(.str "/claim/cut.py" 2346)]),#[]⟩
noncomputable def Sc (P:Params):Obj:=⟨(.type "function"),none,Fn "_law_row" 19 3 (.str "law_wr0043_02" 2321) (.ref 161),#[]⟩
noncomputable def Sl (P:Params):Obj:=⟨(.type "tuple"),none,(.seq #[(.str "text" 2351),(.str "number" 2352),(.str "hidden" 2353),(.str "typed" 2354),(.str "place" 2355),(.str "pick" 2356),(.str "sign" 2357),(.str "wide" 2358)] 0),#[]⟩
noncomputable def Qvu (P:Params):Obj:=⟨.none,none,Fn "_law_typed" 20 0 .none .none,#[]⟩
noncomputable def Sn (P:Params):Obj:=⟨(.type "code"),none,(.fields #[(.str "_law_typed" 2348),(.str "_law_typed" 2349),(.str "/claim/cut.py" 2350),(.int 116 0),(.int 3 0),(.int 0 0),(.int 0 0),(.int 3 0),(.ref 163),(.bool true),(.int 181 0),(.ref 164),.none,(.ref 165),(.ref 166),(.ref 167),(.int 2359 0),(.int 116 0),(.str "/claim/cut.py" 2360)]),#[]⟩
noncomputable def Sd (P:Params):Obj:=⟨(.type "function"),none,Fn "_law_typed" 20 3 (.str "law_wr0043_02" 2321) (.ref 168),#[]⟩
noncomputable def Qvy (P:Params):Obj:=⟨.none,none,Fn "_law_prepared" 21 0 .none .none,#[]⟩
noncomputable def Sh (P:Params):Obj:=⟨(.type "code"),none,(.fields #[(.str "_law_prepared" 2362),(.str "_law_prepared" 2363),(.str "/claim/cut.py" 2364),(.int 132 0),(.int 1 0),(.int 0 0),(.int 0 0),(.int 3 0),(.ref 170),(.bool true),(.int 181 0),(.ref 171),.none,.none,.none,(.ref 172),(.int 2365 0),(.int 132 0),(.str "/claim/cut.py" 2366)]),#[]⟩
noncomputable def Sf (P:Params):Obj:=⟨(.type "function"),none,Fn "_law_prepared" 21 3 (.str "law_wr0043_02" 2321) (.ref 173),#[]⟩
noncomputable def Sg (P:Params):Obj:=⟨(.type "tuple"),none,(.seq #[(.str "reply" 2371),(.str "refusal" 2372)] 0),#[]⟩
noncomputable def Qvv (P:Params):Obj:=⟨.none,none,Fn "_law_named" 22 0 .none .none,#[]⟩
noncomputable def Sp (P:Params):Obj:=⟨(.type "code"),none,(.fields #[(.str "_law_named" 2368),(.str "_law_named" 2369),(.str "/claim/cut.py" 2370),(.int 134 0),(.int 1 0),(.int 0 0),(.int 0 0),(.int 3 0),(.ref 175),(.bool true),(.int 181 0),(.ref 176),.none,(.ref 177),(.ref 178),(.ref 179),(.int 2373 0),(.int 134 0),(.str "/claim/cut.py" 2374)]),#[]⟩
noncomputable def Sm (P:Params):Obj:=⟨(.type "function"),none,Fn "_law_named" 22 3 (.str "law_wr0043_02" 2321) (.ref 180),#[]⟩
noncomputable def Qvw (P:Params):Obj:=⟨.none,none,Fn "_law_dots" 23 0 .none .none,#[]⟩
noncomputable def Su (P:Params):Obj:=⟨(.type "code"),none,(.fields #[(.str "_law_dots" 2376),(.str "_law_dots" 2377),(.str "/claim/cut.py" 2378),(.int 139 0),(.int 2 0),(.int 0 0),(.int 0 0),(.int 3 0),(.ref 182),(.bool true),(.int 181 0),(.ref 183),.none,.none,.none,(.ref 184),(.int 2379 0),(.int 139 0),(.str "/claim/cut.py" 2380)]),#[]⟩
noncomputable def Sy (P:Params):Obj:=⟨(.type "function"),none,Fn "_law_dots" 23 3 (.str "law_wr0043_02" 2321) (.ref 185),#[]⟩
noncomputable def Qvk (P:Params):Obj:=⟨.none,none,Fn "_law_met" 24 0 .none .none,#[]⟩
noncomputable def Sv (P:Params):Obj:=⟨(.type "code"),none,(.fields #[(.str "_law_met" 2382),(.str "_law_met" 2383),(.str "/claim/cut.py" 2384),(.int 145 0),(.int 2 0),(.int 0 0),(.int 0 0),(.int 3 0),(.ref 187),(.bool true),(.int 181 0),(.ref 188),.none,.none,.none,(.ref 189),(.int 2385 0),(.int 145 0),(.str "/claim/cut.py" 2386)]),#[]⟩
noncomputable def Sw (P:Params):Obj:=⟨(.type "function"),none,Fn "_law_met" 24 3 (.str "law_wr0043_02" 2321) (.ref 190),#[]⟩
noncomputable def Qvx (P:Params):Obj:=⟨.none,none,Fn "_law_fades" 25 0 .none .none,#[]⟩
noncomputable def Sx (P:Params):Obj:=⟨(.type "code"),none,(.fields #[(.str "_law_fades" 2388),(.str "_law_fades" 2389),(.str "/claim/cut.py" 2390),(.int 160 0),(.int 1 0),(.int 0 0),(.int 0 0),(.int 3 0),(.ref 192),(.bool true),(.int 181 0),(.ref 193),.none,.none,.none,(.ref 194),(.int 2391 0),(.int 160 0),(.str "/claim/cut.py" 2392)]),#[]⟩
noncomputable def Sj (P:Params):Obj:=⟨(.type "function"),none,Fn "_law_fades" 25 3 (.str "law_wr0043_02" 2321) (.ref 195),#[]⟩
noncomputable def Qvj (P:Params):Obj:=⟨.none,none,Fn "law" 26 0 .none .none,#[]⟩
noncomputable def Sz (P:Params):Obj:=⟨(.type "code"),none,(.fields #[(.str "law" 2394),(.str "law" 2395),(.str "/claim/cut.py" 2396),(.int 177 0),(.int 1 0),(.int 0 0),(.int 0 0),(.int 3 0),(.ref 197),(.bool true),(.int 181 0),(.ref 198),.none,.none,.none,(.ref 199),(.int 2397 0),(.int 177 0),(.str "/claim/cut.py" 2398)]),#[]⟩
noncomputable def Sq (P:Params):Obj:=⟨(.type "function"),none,Fn "law" 26 3 (.str "law_wr0043_02" 2321) (.ref 200),#[]⟩
noncomputable def TE (P:Params):BT:=
 (.node (boot_o_0 P) (.node (boot_o_1 P) (.node (Qmz P) (.node (boot_o_7 P) (.node (Lm P) (.node (Qq P) (.node (K4 P) (.node (Qd 29) .nil .nil) (lf (Sw P))) (.node (N2 P) (lf (Zb P)) .nil)) (.node (Qq P) (.node (Wg P) (lf (C2 P)) .nil) (.node (Qd 13) (lf (Qq P)) .nil))) (.node (F9 P) (.node (Kz P) (.node (Wt P) (.node (Qd 37) .nil .nil) (lf (Qvj P))) (.node (Qd 5) (lf (Qvu P)) .nil)) (.node (Qq P) (.node (Gj P) (lf (Qq P)) .nil) (.node (Qd 21) (lf (Zb P)) .nil)))) (.node (Qq P) (.node (Zb P) (.node (Qq P) (.node (Zb P) (.node (Qd 33) .nil .nil) (lf (Sx P))) (.node (Qd 1) (lf (Qq P)) .nil)) (.node (K6 P) (.node (N7 P) (lf (Qq P)) .nil) (.node (Qd 17) (lf (Qvv P)) .nil))) (.node (Kv P) (.node (Qq P) (.node (Wh P) (lf (Qq2 P)) .nil) (.node (Qd 9) (lf (Zb P)) .nil)) (.node (Qq P) (.node (Qq P) (lf (Qvm P)) .nil) (.node (Qd 25) (lf (Qq P)) .nil))))) (.node (boot_o_5 P) (.node (boot_o_9 P) (.node (Db P) (.node (Kk P) (.node (Wl P) (.node (Qd 31) .nil .nil) (lf (Zb P))) (.node (Ha P) (lf (Ss P)) .nil)) (.node (Wo P) (.node (N9 P) (lf (Zb P)) .nil) (.node (Qd 15) (lf (Sg P)) .nil))) (.node (F7 P) (.node (V2 P) (.node (Qq P) (lf (Qq P)) (lf (Sq P))) (.node (Qd 7) (lf (Sd P)) .nil)) (.node (Wi P) (.node (Qq P) (lf (Se P)) .nil) (.node (Qd 23) (lf (Su P)) .nil)))) (.node (H8 P) (.node (Ku P) (.node (F5 P) (.node (Qq P) (.node (Qd 35) .nil .nil) (lf (Qq P))) (.node (Qd 3) (lf (Sl P)) .nil)) (.node (Zb P) (.node (N6 P) (lf (C0 P)) .nil) (.node (Qd 19) (lf (Sm P)) .nil))) (.node (V2 P) (.node (K9 P) (.node (Ho P) (lf (Qmx P)) .nil) (.node (Qd 11) (lf (Sh P)) .nil)) (.node (Ws P) (.node (He P) (lf (Sr P)) .nil) (.node (Qd 27) (lf (Qvk P)) .nil)))))) (.node (S9 P) (.node (boot_o_4 P) (.node (boot_o_8 P) (.node (V2 P) (.node (Zb P) (.node (Wc P) (.node (Qd 30) .nil .nil) (lf (Qq P))) (.node (Hi P) (lf (Qvb P)) .nil)) (.node (F4 P) (.node (Nq P) (lf (Qq P)) .nil) (.node (Qd 14) (lf (Zb P)) .nil))) (.node (F8 P) (.node (Ua P) (.node (Wd P) (.node (Qd 38) .nil .nil) (lf (Sz P))) (.node (Qd 6) (lf (Sn P)) .nil)) (.node (K5 P) (.node (N4 P) (lf (Zb P)) .nil) (.node (Qd 22) (lf (Qvw P)) .nil)))) (.node (Qd6 P) (.node (Kb P) (.node (F6 P) (.node (Wn P) (.node (Qd 34) .nil .nil) (lf (Sj P))) (.node (Qd 2) (lf (Zb P)) .nil)) (.node (Qq P) (.node (Qq P) (lf (Qvp P)) .nil) (.node (Qd 18) (lf (Sp P)) .nil))) (.node (Ua P) (.node (Zb P) (.node (Qq P) (lf (Qq P)) .nil) (.node (Qd 10) (lf (Qvy P)) .nil)) (.node (Zb P) (.node (Zb P) (lf (Si P)) .nil) (.node (Qd 26) (lf (Zb P)) .nil))))) (.node (boot_o_6 P) (.node (boot_o_10 P) (.node (Qq P) (.node (Kx P) (.node (Qq P) (.node (Qd 32) .nil .nil) (lf (Qvx P))) (.node (Wx P) (lf (Sc P)) .nil)) (.node (K7 P) (.node (N8 P) (lf (C1 P)) .nil) (.node (Qd 16) (lf (Qq P)) .nil))) (.node (Ky P) (.node (Kq P) (.node (Zb P) (lf (Zb P)) .nil) (.node (Qd 8) (lf (Qq P)) .nil)) (.node (Wa P) (.node (N3 P) (lf (Qq P)) .nil) (.node (Qd 24) (lf (Sy P)) .nil)))) (.node (H7 P) (.node (Qq P) (.node (Kj P) (.node (K2 P) (.node (Qd 36) .nil .nil) (lf (Zb P))) (.node (Qd 4) (lf (Qq P)) .nil)) (.node (We P) (.node (N5 P) (lf (So P)) .nil) (.node (Qd 20) (lf (Qq P)) .nil))) (.node (Kw P) (.node (K8 P) (.node (Wf P) (lf (C3 P)) .nil) (.node (Qd 12) (lf (Sf P)) .nil)) (.node (Qq P) (.node (Qq P) (lf (Qq P)) .nil) (.node (Qd 28) (lf (Sv P)) .nil)))))))
noncomputable def SE (w:World)(os:OsState):SharedT:=⟨TE w.params,202,(boot_heap w.params).life,#[],boot_drawn,2400,os⟩
noncomputable def Qm3:Pos:=⟨177,0,202,88⟩
theorem Qxy:Hk.length=650:=by kernel_rfl
theorem Mn:G6.length=4:=by unfold G6;rw[List.length_drop,Qxy]
theorem Qn2:List.zipWith Lh Iw Ik=Hk.map some:=by kernel_rfl
theorem Qn1:Iw.length=Ik.length:=by kernel_rfl
theorem Iv:Jb (-1) (Hk.map (·.1))=true:=by kernel_rfl
theorem Qlh:(Hk.all λ x=>decide (0<=x.1)&&decide (x.1<2^61-1))=true:=by kernel_rfl
theorem Ww:(Kr++[G6]).flatten=Hk:=by
 rw[List.flatten_append,List.flatten_singleton];exact I8 38 Hk
theorem Ka:Js (Kr++[G6])=650:=by
 have:Js (Kr++[G6])=(Kr++[G6]).flatten.length:=by rw[List.length_flatten];rfl
 rw[this,Ww,Qxy]
theorem Zvg:stN 14=.Assign Qn0 Rg M4:=by kernel_rfl
theorem Qex:Rg=.Dict Iw Ik Qz6:=by kernel_rfl
theorem Qhx:swapsWithSole Qn0 Rg M4.line env=pure false:=by kernel_rfl
noncomputable def Qlm (v:Value):Sem Flow:=do
 let s <- swappedStores Qn0 Rg env
 assignStores env v s ((assignEach Qn0 env).map (·.2))
theorem Qa8:exec (stN 14) env=standAt M4 >>=λ J=>eval Rg env >>=Qlm:=by
 rw[Zvg,arm_exec_Assign,Qhx];rfl
theorem Qa0 (P:Params):Qxn (TB P) 98:=by
 have h:((List.range 98).all λ i=>((TB P).get i).isSome)=true:=by kernel_rfl
 intro i hi;exact Qf.mp h i (List.mem_range.mpr hi)
theorem Qri (w:World)(os:OsState):∃s',Qm table pw w 11 M6 140000 (SB w os) Qm5 (standAt M4 >>=λ J=>eval Rg env) s' Qz6 (.ref 98)/\Did (SB w os) s' (Kr++[G6]):=by
 obtain⟨s',g,D⟩:=Ei (pr:=pw) (w:=w) (n₀:=11) (ann:=M6) (s0:=SB w os) (q:=Qz6) Kr G6 (Qz0 38 Hk (by rw[Qxy];decide))
  (by intro h;have:=Mn;rw[h]at this;cases this) (by rw[Mn];decide) (Qa0 w.params) (by show 11<=98;decide) (by show sysModules<98;decide) (by rw[Ka];decide)
  (by
   rw[Ww];intro x hx;have:=Qf.mp Qlh x hx;simp only[Qa,decide_eq_true_eq]at this;exact this)
  (by rw[Ww];exact Ld _ _ Iv)
 refine⟨s',?_,D⟩;have hgl:Kr.length=38:=by
  rw[Kr,Cd]
 rw[Ka,hgl]at g;refine Qm.bind (B:=139999) (B5 M4) ?_;rw[Qex,arm_eval_Dict,Qp6 _ _ _ _ _ Qn2 Qn1];refine Qm.bind (B:=139998) (B5 Qz6) ?_;have e:Kr.flatten++G6=Hk:=by rw[<- Ww,List.flatten_append,List.flatten_singleton]
 rw[e]at g;exact g.mono (by decide)
theorem Qh5 (P:Params):(List.range 98).map (TD0 P).get=(List.range 98).map (TB P).get:=by kernel_rfl
theorem Qh4 (P:Params):(TD0 P).get 98=some (Wx P):=by kernel_rfl
theorem Qh3 (P:Params):(List.range 38).map (λ i=>(TD0 P).get (99+i))=(List.range 38).map (λ i=>some (Qd (i+1))):=by kernel_rfl
theorem Kp {α:Type}{f g:Nat->α}{n:Nat}(h:(List.range n).map f=(List.range n).map g)(i:Nat)(hi:i<n):f i=g i:=by
 have:=Zm (λ l=>l[i]?) h
 simpa [hi] using this
theorem Zxa (w:World)(os:OsState)(s':SharedT)(D:Did (SB w os) s' (Kr++[G6])):s'.abs=(SD0 w os).abs:=by
 have hlen:(Kr++[G6]).length=39:=by
  rw[Q8,Zw,Kr,Cd]
 have hn:s'.n=137:=by rw[D.n,hlen];rfl
 have ht:s'.toks=Zwm+1950:=by rw[D.toks,Ka];rfl
 have hel:G7.length=39:=by unfold G7;rw[W8,hlen]
 have key:∀i,i<137->s'.tree.get i=(TD0 w.params).get i:=by
  intro i hi;by_cases h1:i<98
  .rw[D.old i h1];exact(Kp (Qh5 w.params) i h1).symm
  .by_cases h2:i=98
   .subst h2;have:=D.main (by simp);rw[Ka]at this;rw[Qh4];exact this
   .have h3:i=99+(i-99):=by lia
    have e2:=Kp (Qh3 w.params) (i-99) (by lia);rw[h3,e2];have hlt:i-99+1<G7.length:=by lia
    have hl:G7[i-99+1]?=some ((G7[i-99+1]?).getD []):=by
     rw[Q7 hlt];rfl
    have:=D.subs (i-99+1) _ (Nat.succ_pos _) hl;rw[show 99+(i-99)=(SB w os).n+(i-99+1) by show _=98+_;lia];exact this
 obtain⟨T,n,life,gens,drawn,toks,os'⟩:=s';have e1:=D.life;have e2:=D.gens;have e3:=D.drawn;have e4:=D.os;simp only at hn ht e1 e2 e3 e4;subst hn ht e1 e2 e3 e4;show Shared.mk (absHeap T 137 _) _ _ _ _=_;rw[Au _ key];rfl
noncomputable def Qgu (v:Value):Sem Fin:=(Qlm v).wrap (λ f=>match f with |.next=>(execs [] env).wrap doneF deadEnd id id |f=>doneF f) deadEnd id id
theorem Que:(execs [stN 14] env).wrap doneF deadEnd id id=(standAt M4 >>=λ J=>eval Rg env).wrap Qgu deadEnd id id:=by
 rw[execs_cons_wrap,Qa8,<- bind_assoc,Sem.bind_eq_wrap',Sem.wrap_wrap];rfl
theorem Qsr (p:Program)(b:List Stmt)(w:World)(os:OsState):segRunT treeTable p w 11 M6 1 60 (SD0 w os) ⟨Qgu (.ref 98),.body b env,Qz6,Bf⟩=some (.next,SD w os,.body b env,Qm4):=by
 rw[Fast.te10110043849684766642,Fast.te14364793385576792824]
 kernel_rfl
theorem Qof (b:List Stmt)(w:World)(os:OsState):∃n,n<=140060/\segRun treeTable pw w 11 M6 1 n (SB w os).abs (piecesOf [stN 14] env (.body b env) Qm5 Bf)=some (.next,(SD w os).abs,.body b env,Qm4):=by
 obtain⟨s',⟨n,ln,g⟩,D⟩:=Qri w os;have h:=g Qgu deadEnd id id (.body b env) Bf (by unfold Bf;simp);rw[<- Que]at h;unfold Go at h;rw[table_eq_tree]at h;have h2:=segGo_of h;rw[Zxa w os s' D]at h2;exact⟨n+60,by exact Nat.add_le_add_right ‹_› _,seg_go h2 (segRun_of (Qsr pw b w os))⟩
noncomputable def Qb8:List Stmt:=pw.main.body.drop 15
theorem Qog (p:Program)(b:List Stmt)(w:World)(os:OsState):segRunT treeTable p w 11 M6 1 400 (SD w os) (piecesOf Qb8 env (.body b env) Qm4 Bf)=some (.next,SE w os,.body b env,Qm3):=by
 rw[Fast.te10110043849684766642,Fast.te14364793385576792824]
 kernel_rfl
theorem Qt4 (w:World)(os:OsState):topRun treeTable pw w 11 M6 2 (SE w os).abs ⟨doneF .next,.body (behindTheImports pw) env,Qm3,Bf⟩=some (SE w os).abs:=by
 rw[Fast.te14082659384304107361,Fast.te14364793385576792824]
 kernel_rfl
theorem Qxx:behindTheImports pw=Qbq++(Qb9++([stN 14]++(Qb8++[]))):=by
 have e0:behindTheImports pw=pw.main.body:=by kernel_rfl
 have e1:[stN 14]=(pw.main.body.drop 14).take 1:=by kernel_rfl
 rw[e0,e1];unfold Qbq Qb9 Qb8;rw[Qs];have e2:(pw.main.body.drop 14).take 1++pw.main.body.drop 15=pw.main.body.drop 14:=by
  rw[<- List.drop_drop (i:=1) (j:=14),List.take_append_drop]
 rw[e2];have e3:(pw.main.body.drop 12).take 2++pw.main.body.drop 14=pw.main.body.drop 12:=by
  rw[<- List.drop_drop (i:=2) (j:=12),List.take_append_drop]
 rw[e3,List.take_append_drop]
theorem whole_run (w:World)(os:OsState):topRun treeTable pw w 11 M6 200000 ⟨boot_heap w.params,#[],boot_drawn,boot_toks,os⟩ (topStub pw)=some (SE w os).abs:=by
 obtain⟨nD,lD,hD⟩:=Qof (behindTheImports pw) w os;have k0:topRun treeTable pw w 11 M6 2 (SE w os).abs (restOf [] env (.body (behindTheImports pw) env) Qm3 Bf)=some (SE w os).abs:=piece_nil (Qt4 w os);have k1:=piece_app (segRun_of (Qog pw (behindTheImports pw) w os)) k0;have k2:=piece_app hD k1;have k3:=piece_app (segRun_of (Qoh pw (behindTheImports pw) os w)) k2;have k4:=piece_app (segRun_of (Qod pw (behindTheImports pw) w os)) k3;rw[<- Qxx]at k4;have k5:=piece_block (Qyg w os) k4;have k6:=go_top (Qhs w os) k5;have:=topRun_mono (200000-(12+(1+(802+(1028+(nD+(400+2))))))) _ _ _ _ k6;rw[show 12+(1+(802+(1028+(nD+(400+2)))))+(200000-(12+(1+(802+(1028+(nD+(400+2)))))))=200000 by omega]at this;exact this
noncomputable def qv:Program:={pw with main:={pw.main with body:=[stN 1,stN 2,stN 3,stN 4,stN 5,stN 7,stN 8,stN 10,stN 12,stN 13,stN 14,stN 15,stN 17,stN 18,stN 19,stN 20,stN 21,stN 22,stN 23,stN 24,stN 25,stN 26]}}
noncomputable def W3:List Str:=[(Str.ofString "b1_set"),(Str.ofString "b3_exceptions")]
noncomputable def KL (P:Params):Frag:=[(nat_lit 2,(S9 P)),(nat_lit 3,(Qmz P)),(nat_lit 6,(boot_o_6 P)),(nat_lit 15,(Lm P)),(nat_lit 22,(Qq P)),(nat_lit 23,(F9 P)),(nat_lit 24,(F8 P)),(nat_lit 25,(F7 P)),(nat_lit 28,(Ua P)),(nat_lit 35,(Qq P)),(nat_lit 36,(F6 P)),(nat_lit 37,(F5 P)),(nat_lit 40,(Ua P)),(nat_lit 47,(Qq P)),(nat_lit 48,(F4 P)),(nat_lit 49,(Wo P)),(nat_lit 52,(Qq P)),(nat_lit 54,(We P)),(nat_lit 55,(Qq P)),(nat_lit 57,(Wi P)),(nat_lit 58,(Wa P)),(nat_lit 59,(Qq P)),(nat_lit 61,(Ws P)),(nat_lit 62,(Qq P)),(nat_lit 64,(Wc P)),(nat_lit 65,(Wl P)),(nat_lit 66,(Qq P)),(nat_lit 68,(Wn P)),(nat_lit 69,(Qq P)),(nat_lit 71,(Wt P)),(nat_lit 72,(Wd P)),(nat_lit 73,(Qq P)),(nat_lit 75,(Wh P)),(nat_lit 76,(Qq P)),(nat_lit 78,(Wf P)),(nat_lit 79,(Wg P)),(nat_lit 87,(Gj P)),(nat_lit 91,(Qq P)),(nat_lit 93,(He P)),(nat_lit 94,(Qq P)),(nat_lit 96,(Hi P)),(nat_lit 97,(Ha P)),(nat_lit 98,(Wx P)),(nat_lit 137,(Qq P)),(nat_lit 139,(Qq2 P)),(nat_lit 140,(Qq P)),(nat_lit 142,(C3 P)),(nat_lit 143,(C2 P)),(nat_lit 144,(Qq P)),(nat_lit 146,(C1 P)),(nat_lit 147,(Qq P)),(nat_lit 149,(C0 P)),(nat_lit 150,(So P)),(nat_lit 151,(Qq P)),(nat_lit 153,(Se P)),(nat_lit 154,(Qq P)),(nat_lit 156,(Si P)),(nat_lit 157,(Sr P)),(nat_lit 158,(Qq P)),(nat_lit 161,(Ss P)),(nat_lit 162,(Sc P)),(nat_lit 163,(Qq P)),(nat_lit 165,(Sl P)),(nat_lit 166,(Qq P)),(nat_lit 168,(Sn P)),(nat_lit 169,(Sd P)),(nat_lit 170,(Qq P)),(nat_lit 173,(Sh P)),(nat_lit 174,(Sf P)),(nat_lit 175,(Qq P)),(nat_lit 177,(Sg P)),(nat_lit 178,(Qq P)),(nat_lit 180,(Sp P)),(nat_lit 181,(Sm P)),(nat_lit 182,(Qq P)),(nat_lit 185,(Su P)),(nat_lit 186,(Sy P)),(nat_lit 187,(Qq P)),(nat_lit 190,(Sv P)),(nat_lit 191,(Sw P)),(nat_lit 192,(Qq P)),(nat_lit 195,(Sx P)),(nat_lit 196,(Sj P)),(nat_lit 197,(Qq P)),(nat_lit 200,(Sz P)),(nat_lit 201,(Sq P))]
noncomputable def KA:List Addr:=[2,3,6,15,22,23,24,25,28,35,36,37,40,47,48,49,52,54,55,57,58,59,61,62,64,65,66,68,69,71,72,73,75,76,78,79,87,91,93,94,96,97,98,137,139,140,142,143,144,146,147,149,150,151,153,154,156,157,158,161,162,163,165,166,168,169,170,173,174,175,177,178,180,181,182,185,186,187,190,191,192,195,196,197,200,201]
noncomputable def HK:Hook:=kHook KL KA (λ J=>by kernel_rfl)
noncomputable def H1 (P:Params):Heap:=absHeap (TE P) 202 (boot_heap P).life
theorem Qsv:∀w:World,(fencedOpening treeTable pw w 1000000).map (λ s=>(s.heap,s.gens,s.drawn,s.toks))=some (boot_heap w.params,Array.mk [],boot_drawn,boot_toks):=
 boot_open (by kernel_rfl) (by decide) (λ s=>by kernel_rfl)
theorem Qs3:∀w:World,((boot_heap w.params).isNs mainGlobals&&(Array.mk ([]:List GenState)).size==0,(boot_heap w.params).objs.size,(boot_heap w.params).nsMap mainGlobals "__annotations__")=(true,11,M6):=by
 intro w;kernel_rfl
theorem Qwh:valNames qv=(["ELLIPSIS_MARKER","b1_set","b3_exceptions"]:List Str):=by kernel_rfl
noncomputable def b3D:List (PyData×PyData):=Hk.map λ p=>(.int p.1,.str p.2)
theorem tab_of:tabIntOf qv "b3_exceptions"=some b3D:=by kernel_rfl
theorem Qcn (P:Params):(H1 P).nsMap mainGlobals "b3_exceptions"=some (.ref 98):=by kernel_rfl
theorem Qh8 (P:Params):(H1 P).get? 98=some (Wx P):=by kernel_rfl
theorem Qb0:tupIntsOf qv "b3_exceptions"=none/\tupStrsOf qv "b3_exceptions"=none:=⟨by kernel_rfl,by kernel_rfl⟩
theorem Qrm (k:Int)(l:List KV):hasIntKey k (l.map λ p=>(PyData.int p.1,PyData.str p.2))=true->k∈l.map (·.1):=by
 induction l with
 |nil=>exact λ h=>nomatch h
 |cons x r ih=>
  intro h;exact(Bool.or_eq_true_iff.mp (show(x.1==k||hasIntKey k (r.map λ p=>(PyData.int p.1,PyData.str p.2)))=true from h)).elim (λ e=>eq_of_beq e▸.head _) λ e=>.tail _ (ih e)
theorem Qxg (l:List KV):∀a,Jb a (l.map (·.1))=true->keysApartInt (l.map λ p=>(PyData.int p.1,PyData.str p.2))=true:=by
 induction l with
 |nil=>exact λ J J=>rfl
 |cons x r ih=>
  intro a h;have h:=Qe.mp (show(decide (a<x.1)&&Jb x.1 (r.map (·.1)))=true from h);show(!hasIntKey x.1 (r.map λ p=>(PyData.int p.1,PyData.str p.2))&&keysApartInt (r.map λ p=>(PyData.int p.1,PyData.str p.2)))=true;rw[ih _ h.2,Bool.and_true];cases q:hasIntKey x.1 (r.map λ p=>(PyData.int p.1,PyData.str p.2)) with
  |false=>rfl
  |true=>exact absurd (R7 _ _ h.2 _ (Qrm _ _ q)) (Int.lt_irrefl _)
theorem Qat (P:Params):(H1 P).tabIntOk "b3_exceptions" b3D=true:=by
 have e:(H1 P).tabIntOk "b3_exceptions" b3D=(entriesAreInt G7.flatten b3D&&keysApartInt b3D):=by
  delta Heap.tabIntOk
  rw[Qcn];dsimp only;rw[Qh8];show((("dict":String)=="dict")&&((#[]:Array Value).size==0)&&entriesAreInt G7.flatten b3D&&keysApartInt b3D&&((98:Nat) !=sysModules))=_;rw[show(("dict":String)=="dict")=true from by decide,show((98:Nat) !=sysModules)=true from by decide,Bool.and_true];rfl
 rw[e,show keysApartInt b3D=true from Qxg Hk _ Iv,Bool.and_true]
 kernel_rfl
theorem Zph {f:Str->Bool}{a b c:Str}(h1:f a=true)(h2:f b=true)(h3:f c=true):[a,b,c].all f=true:=by
 rw[List.all_cons,List.all_cons,List.all_cons,List.all_nil,h1,h2,h3];rfl
theorem Qwc (P:Params):tablesOk qv (H1 P)=true:=by
 delta tablesOk
 rw[Qwh];refine Zph (by kernel_rfl) (by kernel_rfl) ?_;rw[tab_of,Qb0.1,Qb0.2];dsimp only;rw[Qat P];rfl
theorem Qdp:∀w:World,(λ os=>((staticsOk (importedModules pw.main.body) (boot_heap w.params) (H1 w.params)&&namesBound pw (H1 w.params)&&gensDone ⟨H1 w.params,#[],boot_drawn,2400,os⟩&&laidKept (boot_heap w.params) (H1 w.params)),
    openSeen qv W3 (importedModules pw.main.body) (λ s=>xlAt qv [] s&&recOk [] s) true ⟨H1 w.params,#[],boot_drawn,2400,os⟩,HK.obs ⟨H1 w.params,#[],boot_drawn,2400,os⟩))=λ J=>(true,openGood qv W3,HK.val w):=by
 intro w
 funext os
 delta openSeen
 rw[Qwc w.params]
 kernel_rfl
end
theorem Runs.toks {M:Model}{Γ:Ctx}{p:Pos}{t:Sem Fin}{fs:List Frame}{s:Shared}{e:End}{s':Shared}(h:Runs M Γ p t fs s e s'):s.toks<=s'.toks:=by
 induction h with
 |done |raise |yield=>exact Q2 _
 |again _ _ ih |rule _ ih | «at» _ ih |load _ _ ih |update _ _ ih |loadIfAlive _ ih |point _ ih |alloc _ ih |ask _ ih |choose _ _ ih |os _ ih |handled _ ih |genState _ _ ih |stack _ ih |thread _ ih |newGen _ ih
 |callSusp _ ih |resumeJustStarted _ _ _ ih |resumeThrowFresh _ _ ih |resumeRunning _ _ ih |resumeFinished _ _ ih |segSuspOut _ _ ih=>exact ih
 |fresh _ ih=>exact Q1 (Nat.le_succ _) ih
 |call _ _ ih1 ih2=>exact Q1 ih1 ih2
 |resumeFresh _ _ _ _ ih1 ih2=>exact Q1 ih1 ih2
 |resumeSuspended _ _ _ _ ih1 ih2=>exact Q1 ih1 ih2
 |segRet _ _ ih1 ih2=>exact Q1 ih1 ih2
 |segGen _ _ ih1 ih2=>exact Q1 ih1 ih2
 |segSuspGen _ _ _ _ ih1 ih2=>exact Q1 ih1 ih2
theorem Wakes.toks {M:Model}{Γ:Ctx}{p:Pos}{g:Nat}{r:Resume}{s:Shared}{res:GenResult}{s':Shared}(h:Wakes M Γ p g r s res s'):s.toks<=s'.toks:=by
 unfold Wakes at h;split at h
 .exact h.elim
 .split at h
  .obtain⟨e₁,s₁,h₁,_,_,rfl⟩:=h;have q:=Runs.toks h₁;exact q
  .obtain⟨_,rfl⟩:=h;exact Q2 _
  .obtain⟨_,rfl⟩:=h;exact Q2 _
 .obtain⟨e₁,s₁,h₁,_,_,rfl⟩:=h;have q:=Runs.toks h₁;exact q
 .obtain⟨_,rfl⟩:=h;exact Q2 _
 .obtain⟨_,rfl⟩:=h;exact Q2 _
theorem M9 {M:Model}{Γ:Ctx}{R:Result->Shared->Prop}{p:Pos}{s:Shared}(h:wpCode M Γ R p s):wpCode M Γ (λ r s'=>s.toks<=s'.toks/\R r s') p s:=by
 obtain⟨r,s',hr,hR⟩:=h;exact⟨r,s',hr,Runs.toks hr,hR⟩
theorem Qfs {X:Type}{M:Model}{Γ:Ctx}(t:Sem X){Q:X->Pos->Shared->Prop}{E:Value->Pos->Shared->Prop}{p:Pos}{s:Shared}(h:Sem.wp M Γ t Q E p s):
  Sem.wp M Γ t (λ a p' s'=>s.toks<=s'.toks/\Q a p' s') (λ e p' s'=>s.toks<=s'.toks/\E e p' s') p s:=by
 induction t generalizing p s with
 |pure x=>exact⟨Q2 _,h⟩
 |raise v=>exact⟨Q2 _,h⟩
 |unsupported |finish |yield |fork |await |register=>exact h
 |rule _ k ih | «at» _ k ih |alloc _ k ih |loadIfAlive _ k ih |point _ k ih |ask k ih |os _ _ k ih |handled _ k ih |newGen _ k ih |stack k ih |thread k ih=>exact ih _ h
 |fresh k ih=>
  have:=ih _ h;exact Sem.wp_mono M Γ _ (λ J J J x=>⟨Q1 (Nat.le_succ _) x.1,x.2⟩) (λ J J J x=>⟨Q1 (Nat.le_succ _) x.1,x.2⟩) _ _ this
 |load a _ k ih |genState a k ih=>obtain⟨o,ho,h⟩:=h;exact⟨o,ho,ih _ h⟩
 |update a _ f k ih |choose _ _ k ih=>exact⟨h.1,ih _ h.2⟩
 |call c hh g l k ih=>
  refine wpCode_mono ?_ (M9 h);intro r s' x;exact Sem.wp_mono M Γ _ (λ J J J y=>⟨Q1 x.1 y.1,y.2⟩) (λ J J J y=>⟨Q1 x.1 y.1,y.2⟩) _ _ (ih _ x.2)
 |resume g r l k ih=>
  obtain⟨res,s',hw,h⟩:=h;have q:=Wakes.toks hw;exact⟨res,s',hw,Sem.wp_mono M Γ _ (λ J J J y=>⟨Q1 q y.1,y.2⟩) (λ J J J y=>⟨Q1 q y.1,y.2⟩) _ _ (ih _ h)⟩
theorem wpAny_toks {X:Type}{M:Model}{A:Around}{t:Sem X}{Q:X->Shared->Prop}{E:Value->Shared->Prop}{s:Shared}(h:wpAny M A t Q E s):
  wpAny M A t (λ a s'=>s.toks<=s'.toks/\Q a s') (λ e s'=>s.toks<=s'.toks/\E e s') s:=λ Γ p x=>Qfs t (h Γ p x)
theorem Z0 {X:Type}{M:Model}{A:Around}{t:Sem X}{Q:X->Shared->Prop}{E:Value->Shared->Prop}{s:Shared}(h:wpAny M A t (λ a s'=>s.toks<=s'.toks->Q a s') E s):
  wpAny M A t Q E s:=wpAny_mono (wpAny_toks h) (λ J J x=>x.2 x.1) λ J J x=>x.2
theorem Qx9 {M:Model}{A:Around}{c:Code}{R:Result->Shared->Prop}{s:Shared}(h:codeAny M A c (λ r s'=>s.toks<=s'.toks->R r s') s):codeAny M A c R s:=
 λ Γ p x y=>wpCode_mono (λ J J z=>z.2 z.1) (M9 (h Γ p x y))
def X5 (b:Bool)(P:Prop):Prop:=cond b P False
theorem Nu {b:Bool}{P:Prop}:X5 b P↔b=true/\P:=by cases b <;> simp [X5]
theorem Zn {b:Bool}{P:Prop}(h:b=true)(p:P):X5 b P:=Nu.mpr ⟨h,p⟩
theorem Qto {b:Bool}{P:Prop}:X5 (!b) P↔b=false/\P:=by cases b <;> simp [X5]
inductive V where
 |none
 |bool (b:Bool)
 |int (i:Int)
 |str (s:Str)
 |bytes (b:Array UInt8)
 |list (xs:List V)
 |tuple (xs:List V)
 |range (a b c:Int)
 |own (n:Nat)
 |ext (n:Nat)
 |dict (H:Str->Int) (ks:List Str) (vs:List V)
 deriving Inhabited
theorem Yk {p:Prop}[Decidable p]{A:p->Prop}{B M:Prop}(h:dite p A λ J=>B)(f:∀q,A q->M)(g:B->M):M:=by
 by_cases q:p
 .rw[dif_pos q]at h;exact f q h
 .rw[dif_neg q]at h;exact g h
theorem Qq9 {p:Prop}[Decidable p]{A B M:Prop}(h:ite p A B)(f:p->A->M)(g:B->M):M:=Yk (A:=λ J=>A) h f g
@[elab_as_elim] theorem Yr {α:Type}{x c:α}[Decidable (x=c)]{A B:Prop}{M:α->Prop}(h:ite (x=c) A B)(f:A->M c)(g:B->M x):M x:=Qq9 h (λ e h=>e▸f h) g
@[elab_as_elim] theorem Jo {q:Bool}{A B:Prop}{M:Bool->Prop}(h:cond q A B)(f:A->M true)(g:B->M false):M q:=q.rec (motive:=λ q=>cond q A B->M q) g f h
theorem Zl {b:Bool}{P M:Prop}(h:X5 b P)(f:b=true->P->M):M:=(Nu.mp h).elim f
theorem Rm {b:Bool}{P M:Prop}(h:X5 (!b) P)(f:b=false->P->M):M:=(Qto.mp h).elim f
@[elab_as_elim] theorem Qw6 {α:Type}[BEq α][LawfulBEq α]{x c:α}{P:Prop}{M:α->Prop}(h:X5 (x==c) P)(f:P->M c):M x:=Zl h λ e h=>eq_of_beq e▸f h
theorem Uu {α:Type}{o:Option α}{k:α->Prop}{M:Prop}(h:o.elim False k)(f:∀a,o=some a->k a->M):M:=by
 cases o with
 |none=>exact h.elim
 |some a=>exact f a rfl h
def on0 {α:Type}(l:List α)(P:Prop):Prop:=l.rec P λ J J J=>False
def Tw {α:Type}(l:List α)(k:α->Prop):Prop:=l.rec False λ a r J=>on0 r (k a)
def on2 {α:Type}(l:List α)(k:α->α->Prop):Prop:=l.rec False λ a r J=>Tw r (k a)
def on3 {α:Type}(l:List α)(k:α->α->α->Prop):Prop:=l.rec False λ a r J=>on2 r (k a)
@[elab_as_elim] theorem Bg {α:Type}{l:List α}{P:Prop}{M:List α->Prop}(h:on0 l P)(f:P->M []):M l:=l.casesOn (motive:=λ l=>on0 l P->M l) f (λ J J h=>h.elim) h
theorem Qmq {α:Type}{l:List α}{q:α->List α->Prop}{M:List α->Prop}(h:l.rec False λ a r J=>q a r)(f:∀a r,q a r->M (a::r)):M l:=l.casesOn (motive:=λ l=>l.rec False (λ a r J=>q a r)->M l) (λ h=>h.elim) f h
@[elab_as_elim] theorem Rw {α:Type}{l:List α}{k:α->Prop}{M:List α->Prop}(h:Tw l k)(f:∀a,k a->M [a]):M l:=Qmq (M:=M) (q:=λ a r=>on0 r (k a)) h λ a J h=>Bg (M:=λ r=>M (a::r)) h (f a)
@[elab_as_elim] theorem S8 {α:Type}{l:List α}{k:α->α->Prop}{M:List α->Prop}(h:on2 l k)(f:∀a b,k a b->M [a,b]):M l:=Qmq (M:=M) (q:=λ a r=>Tw r (k a)) h λ a J h=>Rw (M:=λ r=>M (a::r)) h (f a)
@[elab_as_elim] theorem Zqg {α:Type}{l:List α}{k:α->α->α->Prop}{M:List α->Prop}(h:on3 l k)(f:∀a b c,k a b c->M [a,b,c]):M l:=Qmq (M:=M) (q:=λ a r=>on2 r (k a)) h λ a J h=>S8 (M:=λ r=>M (a::r)) h (f a)
def La (e:Expr)(k:Const->Nat->Pos->Prop)(B:Prop:=False):Prop:=if h:e.ctorIdx=19 then Expr.Constant.elim e h k else B
@[elab_as_elim] theorem Mh {e k B}{M:Expr->Prop}(h:La e k B)(f:∀a b c,k a b c->M (.Constant a b c))(g:B->M e):M e:=Yk h (λ q h=>Expr.Constant.elim (motive_1:=λ e=>∀q,Expr.Constant.elim e q k->M e) e q (λ a b c J=>f a b c) q h) g
def Tv (e:Expr)(k:Str->Pos->Prop)(B:Prop:=False):Prop:=if h:e.ctorIdx=23 then Expr.Name.elim e h k else B
@[elab_as_elim] theorem U2 {e k B}{M:Expr->Prop}(h:Tv e k B)(f:∀a b,k a b->M (.Name a b))(g:B->M e):M e:=Yk h (λ q h=>Expr.Name.elim (motive_1:=λ e=>∀q,Expr.Name.elim e q k->M e) e q (λ a b J=>f a b) q h) g
def Qgj (e:Expr)(k:Expr->Operator->Expr->Pos->Prop)(B:Prop:=False):Prop:=if h:e.ctorIdx=2 then Expr.BinOp.elim e h k else B
@[elab_as_elim] theorem Qgz {e k B}{M:Expr->Prop}(h:Qgj e k B)(f:∀a b c d,k a b c d->M (.BinOp a b c d))(g:B->M e):M e:=Yk h (λ q h=>Expr.BinOp.elim (motive_1:=λ e=>∀q,Expr.BinOp.elim e q k->M e) e q (λ a b c d J=>f a b c d) q h) g
def Px (e:Expr)(k:UnaryOp->Expr->Pos->Prop)(B:Prop:=False):Prop:=if h:e.ctorIdx=3 then Expr.UnaryOp.elim e h k else B
@[elab_as_elim] theorem Pj {e k B}{M:Expr->Prop}(h:Px e k B)(f:∀a b c,k a b c->M (.UnaryOp a b c))(g:B->M e):M e:=Yk h (λ q h=>Expr.UnaryOp.elim (motive_1:=λ e=>∀q,Expr.UnaryOp.elim e q k->M e) e q (λ a b c J=>f a b c) q h) g
def I4 (e:Expr)(k:BoolOp->List Expr->Pos->Prop)(B:Prop:=False):Prop:=if h:e.ctorIdx=0 then Expr.BoolOp.elim e h k else B
@[elab_as_elim] theorem Cf {e k B}{M:Expr->Prop}(h:I4 e k B)(f:∀a b c,k a b c->M (.BoolOp a b c))(g:B->M e):M e:=Yk h (λ q h=>Expr.BoolOp.elim (motive_1:=λ e=>∀q,Expr.BoolOp.elim e q k->M e) e q (λ a b c J=>f a b c) q h) g
def Pv (e:Expr)(k:Expr->List CmpOp->List Expr->Pos->Prop)(B:Prop:=False):Prop:=if h:e.ctorIdx=15 then Expr.Compare.elim e h k else B
@[elab_as_elim] theorem Pw {e k B}{M:Expr->Prop}(h:Pv e k B)(f:∀a b c d,k a b c d->M (.Compare a b c d))(g:B->M e):M e:=Yk h (λ q h=>Expr.Compare.elim (motive_1:=λ e=>∀q,Expr.Compare.elim e q k->M e) e q (λ a b c d J=>f a b c d) q h) g
def Qgq (e:Expr)(k:Expr->Expr->Expr->Pos->Prop)(B:Prop:=False):Prop:=if h:e.ctorIdx=5 then Expr.IfExp.elim e h k else B
@[elab_as_elim] theorem Qg9 {e k B}{M:Expr->Prop}(h:Qgq e k B)(f:∀a b c d,k a b c d->M (.IfExp a b c d))(g:B->M e):M e:=Yk h (λ q h=>Expr.IfExp.elim (motive_1:=λ e=>∀q,Expr.IfExp.elim e q k->M e) e q (λ a b c d J=>f a b c d) q h) g
def Hx (e:Expr)(k:Expr->Expr->Pos->Prop)(B:Prop:=False):Prop:=if h:e.ctorIdx=21 then Expr.Subscript.elim e h k else B
@[elab_as_elim] theorem Kc {e k B}{M:Expr->Prop}(h:Hx e k B)(f:∀a b c,k a b c->M (.Subscript a b c))(g:B->M e):M e:=Yk h (λ q h=>Expr.Subscript.elim (motive_1:=λ e=>∀q,Expr.Subscript.elim e q k->M e) e q (λ a b c J=>f a b c) q h) g
def Qg8 (e:Expr)(k:Option Expr->Option Expr->Option Expr->Pos->Prop)(B:Prop:=False):Prop:=if h:e.ctorIdx=26 then Expr.Slice.elim e h k else B
@[elab_as_elim] theorem Qg7 {e k B}{M:Expr->Prop}(h:Qg8 e k B)(f:∀a b c d,k a b c d->M (.Slice a b c d))(g:B->M e):M e:=Yk h (λ q h=>Expr.Slice.elim (motive_1:=λ e=>∀q,Expr.Slice.elim e q k->M e) e q (λ a b c d J=>f a b c d) q h) g
def Qw3 (e:Expr)(k:List Expr->Pos->Prop)(B:Prop:=False):Prop:=if h:e.ctorIdx=24 then Expr.List.elim e h k else B
@[elab_as_elim] theorem I3 {e k B}{M:Expr->Prop}(h:Qw3 e k B)(f:∀a b,k a b->M (.List a b))(g:B->M e):M e:=Yk h (λ q h=>Expr.List.elim (motive_1:=λ e=>∀q,Expr.List.elim e q k->M e) e q (λ a b J=>f a b) q h) g
def Pk (e:Expr)(k:List Expr->Nat->Pos->Prop)(B:Prop:=False):Prop:=if h:e.ctorIdx=25 then Expr.Tuple.elim e h k else B
@[elab_as_elim] theorem Wq {e k B}{M:Expr->Prop}(h:Pk e k B)(f:∀a b c,k a b c->M (.Tuple a b c))(g:B->M e):M e:=Yk h (λ q h=>Expr.Tuple.elim (motive_1:=λ e=>∀q,Expr.Tuple.elim e q k->M e) e q (λ a b c J=>f a b c) q h) g
def Lr (e:Expr)(k:Expr->List Comprehension->Scope->Pos->Prop)(B:Prop:=False):Prop:=if h:e.ctorIdx=8 then Expr.ListComp.elim e h k else B
@[elab_as_elim] theorem Mf {e k B}{M:Expr->Prop}(h:Lr e k B)(f:∀a b c d,k a b c d->M (.ListComp a b c d))(g:B->M e):M e:=Yk h (λ q h=>Expr.ListComp.elim (motive_1:=λ e=>∀q,Expr.ListComp.elim e q k->M e) e q (λ a b c d J=>f a b c d) q h) g
def Qqn (e:Expr)(k:Expr->List Expr->List Keyword->Pos->Prop)(B:Prop:=False):Prop:=if h:e.ctorIdx=16 then Expr.Call.elim e h k else B
@[elab_as_elim] theorem Nv {e k B}{M:Expr->Prop}(h:Qqn e k B)(f:∀a b c d,k a b c d->M (.Call a b c d))(g:B->M e):M e:=Yk h (λ q h=>Expr.Call.elim (motive_1:=λ e=>∀q,Expr.Call.elim e q k->M e) e q (λ a b c d J=>f a b c d) q h) g
def T8 (e:Expr)(k:Expr->Str->Pos->Prop)(B:Prop:=False):Prop:=if h:e.ctorIdx=20 then Expr.Attribute.elim e h k else B
@[elab_as_elim] theorem T7 {e k B}{M:Expr->Prop}(h:T8 e k B)(f:∀a b c,k a b c->M (.Attribute a b c))(g:B->M e):M e:=Yk h (λ q h=>Expr.Attribute.elim (motive_1:=λ e=>∀q,Expr.Attribute.elim e q k->M e) e q (λ a b c J=>f a b c) q h) g
def Qkw (e:Stmt)(k:List Expr->Expr->Pos->Prop)(B:Prop:=False):Prop:=if h:e.ctorIdx=5 then Stmt.Assign.elim e h k else B
@[elab_as_elim] theorem Qv4 {e k B}{M:Stmt->Prop}(h:Qkw e k B)(f:∀a b c,k a b c->M (.Assign a b c))(g:B->M e):M e:=Yk h (λ q h=>Stmt.Assign.elim (motive_2:=λ e=>∀q,Stmt.Assign.elim e q k->M e) e q (λ a b c J=>f a b c) q h) g
def Dz (e:Stmt)(k:Expr->Operator->Expr->Pos->Prop)(B:Prop:=False):Prop:=if h:e.ctorIdx=7 then Stmt.AugAssign.elim e h k else B
@[elab_as_elim] theorem Ew {e k B}{M:Stmt->Prop}(h:Dz e k B)(f:∀a b c d,k a b c d->M (.AugAssign a b c d))(g:B->M e):M e:=Yk h (λ q h=>Stmt.AugAssign.elim (motive_2:=λ e=>∀q,Stmt.AugAssign.elim e q k->M e) e q (λ a b c d J=>f a b c d) q h) g
def Qkx (e:Stmt)(k:Option Expr->Pos->Prop)(B:Prop:=False):Prop:=if h:e.ctorIdx=3 then Stmt.Return.elim e h k else B
@[elab_as_elim] theorem Qv2 {e k B}{M:Stmt->Prop}(h:Qkx e k B)(f:∀a b,k a b->M (.Return a b))(g:B->M e):M e:=Yk h (λ q h=>Stmt.Return.elim (motive_2:=λ e=>∀q,Stmt.Return.elim e q k->M e) e q (λ a b J=>f a b) q h) g
def Qbn (e:Stmt)(k:Pos->Prop)(B:Prop:=False):Prop:=if h:e.ctorIdx=26 then Stmt.Break.elim e h k else B
@[elab_as_elim] theorem Qbt {e k B}{M:Stmt->Prop}(h:Qbn e k B)(f:∀a,k a->M (.Break a))(g:B->M e):M e:=Yk h (λ q h=>Stmt.Break.elim (motive_2:=λ e=>∀q,Stmt.Break.elim e q k->M e) e q (λ a J=>f a) q h) g
def Qkv (e:Stmt)(k:Expr->Option Expr->Pos->Prop)(B:Prop:=False):Prop:=if h:e.ctorIdx=19 then Stmt.Assert.elim e h k else B
@[elab_as_elim] theorem Qv5 {e k B}{M:Stmt->Prop}(h:Qkv e k B)(f:∀a b c,k a b c->M (.Assert a b c))(g:B->M e):M e:=Yk h (λ q h=>Stmt.Assert.elim (motive_2:=λ e=>∀q,Stmt.Assert.elim e q k->M e) e q (λ a b c J=>f a b c) q h) g
def sIf (e:Stmt)(k:Expr->List Stmt->List Stmt->Pos->Prop)(B:Prop:=False):Prop:=if h:e.ctorIdx=12 then Stmt.If.elim e h k else B
@[elab_as_elim] theorem Qot {e k B}{M:Stmt->Prop}(h:sIf e k B)(f:∀a b c d,k a b c d->M (.If a b c d))(g:B->M e):M e:=Yk h (λ q h=>Stmt.If.elim (motive_2:=λ e=>∀q,Stmt.If.elim e q k->M e) e q (λ a b c d J=>f a b c d) q h) g
def Qon (e:Stmt)(k:Expr->Expr->List Stmt->List Stmt->Pos->Prop)(B:Prop:=False):Prop:=if h:e.ctorIdx=9 then Stmt.For.elim e h k else B
@[elab_as_elim] theorem Qs6 {e k B}{M:Stmt->Prop}(h:Qon e k B)(f:∀a b c d g,k a b c d g->M (.For a b c d g))(g:B->M e):M e:=Yk h (λ q h=>Stmt.For.elim (motive_2:=λ e=>∀q,Stmt.For.elim e q k->M e) e q (λ a b c d g J=>f a b c d g) q h) g
def Qbd (e:Stmt)(k:Expr->List Stmt->List Stmt->Pos->Prop)(B:Prop:=False):Prop:=if h:e.ctorIdx=11 then Stmt.While.elim e h k else B
@[elab_as_elim] theorem Qbh {e k B}{M:Stmt->Prop}(h:Qbd e k B)(f:∀a b c d,k a b c d->M (.While a b c d))(g:B->M e):M e:=Yk h (λ q h=>Stmt.While.elim (motive_2:=λ e=>∀q,Stmt.While.elim e q k->M e) e q (λ a b c d J=>f a b c d) q h) g
def Qkk (e:Stmt)(k:List Expr->Pos->Prop)(B:Prop:=False):Prop:=if h:e.ctorIdx=4 then Stmt.Delete.elim e h k else B
@[elab_as_elim] theorem Qv3 {e k B}{M:Stmt->Prop}(h:Qkk e k B)(f:∀a b,k a b->M (.Delete a b))(g:B->M e):M e:=Yk h (λ q h=>Stmt.Delete.elim (motive_2:=λ e=>∀q,Stmt.Delete.elim e q k->M e) e q (λ a b J=>f a b) q h) g
def Ql0 (e:Stmt)(k:Expr->Pos->Prop)(B:Prop:=False):Prop:=if h:e.ctorIdx=24 then Stmt.Expr.elim e h k else B
@[elab_as_elim] theorem Qhf {e k B}{M:Stmt->Prop}(h:Ql0 e k B)(f:∀a b,k a b->M (.Expr a b))(g:B->M e):M e:=Yk h (λ q h=>Stmt.Expr.elim (motive_2:=λ e=>∀q,Stmt.Expr.elim e q k->M e) e q (λ a b J=>f a b) q h) g
def Zxq (e:Const)(k:Str->Prop)(B:Prop:=False):Prop:=if h:e.ctorIdx=5 then Const.str.elim e h k else B
@[elab_as_elim] theorem Qag {e k B}{M:Const->Prop}(h:Zxq e k B)(f:∀a,k a->M (.str a))(g:B->M e):M e:=Yk h (λ q h=>Const.str.elim (motive:=λ e=>∀q,Const.str.elim e q k->M e) e q (λ a J=>f a) q h) g
def Ad (e:V)(P:Prop)(B:Prop:=False):Prop:=if h:e.ctorIdx=0 then V.none.elim e h P else B
@[elab_as_elim] theorem Qfr {e P B}{M:V->Prop}(h:Ad e P B)(f:P->M .none)(g:B->M e):M e:=Yk h (λ q h=>V.none.elim (motive_1:=λ e=>∀q,V.none.elim e q P->M e) e q (λ J=>f) q h) g
def O7 (e:V)(k:Bool->Prop)(B:Prop:=False):Prop:=if h:e.ctorIdx=1 then V.bool.elim e h k else B
@[elab_as_elim] theorem Qfi {e k B}{M:V->Prop}(h:O7 e k B)(f:∀a,k a->M (.bool a))(g:B->M e):M e:=Yk h (λ q h=>V.bool.elim (motive_1:=λ e=>∀q,V.bool.elim e q k->M e) e q (λ a J=>f a) q h) g
def Uh (e:V)(k:Int->Prop)(B:Prop:=False):Prop:=if h:e.ctorIdx=2 then V.int.elim e h k else B
@[elab_as_elim] theorem Qzn {e k B}{M:V->Prop}(h:Uh e k B)(f:∀a,k a->M (.int a))(g:B->M e):M e:=Yk h (λ q h=>V.int.elim (motive_1:=λ e=>∀q,V.int.elim e q k->M e) e q (λ a J=>f a) q h) g
def Jz (e:V)(k:Str->Prop)(B:Prop:=False):Prop:=if h:e.ctorIdx=3 then V.str.elim e h k else B
@[elab_as_elim] theorem H3 {e k B}{M:V->Prop}(h:Jz e k B)(f:∀a,k a->M (.str a))(g:B->M e):M e:=Yk h (λ q h=>V.str.elim (motive_1:=λ e=>∀q,V.str.elim e q k->M e) e q (λ a J=>f a) q h) g
def H4 (e:V)(k:Array UInt8->Prop)(B:Prop:=False):Prop:=if h:e.ctorIdx=4 then V.bytes.elim e h k else B
@[elab_as_elim] theorem O6 {e k B}{M:V->Prop}(h:H4 e k B)(f:∀a,k a->M (.bytes a))(g:B->M e):M e:=Yk h (λ q h=>V.bytes.elim (motive_1:=λ e=>∀q,V.bytes.elim e q k->M e) e q (λ a J=>f a) q h) g
def Vh (e:V)(k:List V->Prop)(B:Prop:=False):Prop:=if h:e.ctorIdx=5 then V.list.elim e h k else B
@[elab_as_elim] theorem Ej {e k B}{M:V->Prop}(h:Vh e k B)(f:∀a,k a->M (.list a))(g:B->M e):M e:=Yk h (λ q h=>V.list.elim (motive_1:=λ e=>∀q,V.list.elim e q k->M e) e q (λ a J=>f a) q h) g
def Te (e:V)(k:List V->Prop)(B:Prop:=False):Prop:=if h:e.ctorIdx=6 then V.tuple.elim e h k else B
@[elab_as_elim] theorem Hh {e k B}{M:V->Prop}(h:Te e k B)(f:∀a,k a->M (.tuple a))(g:B->M e):M e:=Yk h (λ q h=>V.tuple.elim (motive_1:=λ e=>∀q,V.tuple.elim e q k->M e) e q (λ a J=>f a) q h) g
def Ez (e:V)(k:Int->Int->Int->Prop)(B:Prop:=False):Prop:=if h:e.ctorIdx=7 then V.range.elim e h k else B
@[elab_as_elim] theorem O5 {e k B}{M:V->Prop}(h:Ez e k B)(f:∀a b c,k a b c->M (.range a b c))(g:B->M e):M e:=Yk h (λ q h=>V.range.elim (motive_1:=λ e=>∀q,V.range.elim e q k->M e) e q (λ a b c J=>f a b c) q h) g
def Qzt (e:V)(k:Nat->Prop)(B:Prop:=False):Prop:=if h:e.ctorIdx=8 then V.own.elim e h k else B
@[elab_as_elim] theorem Qc9 {e k B}{M:V->Prop}(h:Qzt e k B)(f:∀a,k a->M (.own a))(g:B->M e):M e:=Yk h (λ q h=>V.own.elim (motive_1:=λ e=>∀q,V.own.elim e q k->M e) e q (λ a J=>f a) q h) g
def Qk4 (e:V)(k:(Str->Int)->List Str->List V->Prop)(B:Prop:=False):Prop:=if h:e.ctorIdx=10 then V.dict.elim e h k else B
@[elab_as_elim] theorem Qfa {e k B}{M:V->Prop}(h:Qk4 e k B)(f:∀a b c,k a b c->M (.dict a b c))(g:B->M e):M e:=Yk h (λ q h=>V.dict.elim (motive_1:=λ e=>∀q,V.dict.elim e q k->M e) e q (λ a b c J=>f a b c) q h) g
def DictAt (h:Heap)(a:Addr)(H:Str->Int)(ks:List Str)(items:List Value):Prop:=
 ∃(prog:Program) (w:World),(PySem.strKind prog w).hash=H/\(a==sysModules)=false/\ks.length=items.length/\h.DictOf (PySem.strKind prog w) a (ks.zip items)
theorem Qx5 {h h':Heap}{a:Addr}{H:Str->Int}{ks:List Str}{items:List Value}(k:∀o,h.get? a=some o->h'.get? a=some o)(x:DictAt h a H ks items):DictAt h' a H ks items:=
 let ⟨p,w,e,n,l,o,es,ep,ho,r⟩:=x;⟨p,w,e,n,l,o,es,ep,k o ho,r⟩
theorem DictAt.there {h:Heap}{a:Addr}{H:Str->Int}{ks:List Str}{items:List Value}(x:DictAt h a H ks items):∃o,h.get? a=some o:=let ⟨_,_,_,_,_,o,_,_,ho,_⟩:=x;⟨o,ho⟩
structure Lay where
 N:Addr->Prop
 σ:List Addr
 x:List Value
def VR (l:Lay)(h:Heap):V->Value->Prop:=
 V.rec (motive_1:=λ J=>Value->Prop) (motive_2:=λ J=>List Value->Prop) (λ w=>w=.none) (λ b w=>w=.bool b) (λ i w=>∃t,w=.int i t) (λ s w=>∃t,w=.str s t) (λ b w=>∃t,w=.bytes b t)
  (λ J r w=>∃a items,w=.ref a/\¬l.N a/\h.PlainList a items.toArray/\r items) (λ J r w=>∃a items,w=.ref a/\¬l.N a/\h.IsTuple a items.toArray/\r items)
  (λ x y z w=>∃a t u v,w=.ref a/\¬l.N a/\IsRange h a x y z t u v) (λ n w=>∃a,w=.ref a/\l.σ[n]?=some a) (λ n w=>l.x[n]?=some w) (λ H ks J r w=>∃a items,w=.ref a/\¬l.N a/\DictAt h a H ks items/\r items)
  (λ ws=>ws=[]) (λ J J r rs ws=>∃w ws',ws=w::ws'/\r w/\rs ws')
def Y0 (l:Lay)(h:Heap):List V->List Value->Prop:=
 V.rec_1 (motive_1:=λ J=>Value->Prop) (motive_2:=λ J=>List Value->Prop) (λ w=>w=.none) (λ b w=>w=.bool b) (λ i w=>∃t,w=.int i t) (λ s w=>∃t,w=.str s t) (λ b w=>∃t,w=.bytes b t)
  (λ J r w=>∃a items,w=.ref a/\¬l.N a/\h.PlainList a items.toArray/\r items) (λ J r w=>∃a items,w=.ref a/\¬l.N a/\h.IsTuple a items.toArray/\r items)
  (λ x y z w=>∃a t u v,w=.ref a/\¬l.N a/\IsRange h a x y z t u v) (λ n w=>∃a,w=.ref a/\l.σ[n]?=some a) (λ n w=>l.x[n]?=some w) (λ H ks J r w=>∃a items,w=.ref a/\¬l.N a/\DictAt h a H ks items/\r items)
  (λ ws=>ws=[]) (λ J J r rs ws=>∃w ws',ws=w::ws'/\r w/\rs ws')
section
variable {l:Lay}{h:Heap}
theorem VR.none:VR l h .none .none:=rfl
theorem VR.bool (b:Bool):VR l h (.bool b) (.bool b):=rfl
theorem VR.int (i:Int)(t:Tok):VR l h (.int i) (.int i t):=⟨t,rfl⟩
theorem VR.str (s:Str)(t:Tok):VR l h (.str s) (.str s t):=⟨t,rfl⟩
theorem VR.bytes (b:Array UInt8)(t:Tok):VR l h (.bytes b) (.bytes b t):=⟨t,rfl⟩
theorem VR.list {xs:List V}{a:Addr}{items:List Value}(n:¬l.N a)(p:h.PlainList a items.toArray)(r:Y0 l h xs items):VR l h (.list xs) (.ref a):=⟨a,items,rfl,n,p,r⟩
theorem VR.tuple {xs:List V}{a:Addr}{items:List Value}(n:¬l.N a)(p:h.IsTuple a items.toArray)(r:Y0 l h xs items):VR l h (.tuple xs) (.ref a):=⟨a,items,rfl,n,p,r⟩
theorem VR.range {x y z:Int}{a:Addr}{t u v:Tok}(n:¬l.N a)(p:IsRange h a x y z t u v):VR l h (.range x y z) (.ref a):=⟨a,t,u,v,rfl,n,p⟩
theorem VR.own {n:Nat}{a:Addr}(e:l.σ[n]?=some a):VR l h (.own n) (.ref a):=⟨a,rfl,e⟩
theorem VR.dict {H:Str->Int}{ks:List Str}{xs:List V}{a:Addr}{items:List Value}(n:¬l.N a)(p:DictAt h a H ks items)(r:Y0 l h xs items):VR l h (.dict H ks xs) (.ref a):=⟨a,items,rfl,n,p,r⟩
theorem VR.invD {H:Str->Int}{ks:List Str}{xs:List V}{w:Value}(r:VR l h (.dict H ks xs) w):∃a items,w=.ref a/\¬l.N a/\DictAt h a H ks items/\Y0 l h xs items:=r
theorem Y0.nil:Y0 l h [] []:=rfl
theorem Y0.cons {x:V}{xs:List V}{w:Value}{ws:List Value}(a:VR l h x w)(b:Y0 l h xs ws):Y0 l h (x::xs) (w::ws):=⟨w,ws,rfl,a,b⟩
theorem Y0.inv {x:V}{xs:List V}{ws:List Value}(r:Y0 l h (x::xs) ws):∃w r,ws=w::r/\VR l h x w/\Y0 l h xs r:=r
theorem VR.inv {xs:List V}{w:Value}(r:VR l h (.list xs) w):∃a items,w=.ref a/\¬l.N a/\h.PlainList a items.toArray/\Y0 l h xs items:=r
theorem VR.invT {xs:List V}{w:Value}(r:VR l h (.tuple xs) w):∃a items,w=.ref a/\¬l.N a/\h.IsTuple a items.toArray/\Y0 l h xs items:=r
end
abbrev Sub (h h':Heap):Prop:=∀b o,h.get? b=some o->h'.get? b=some o
theorem Qjl {h h':Heap}{a:Addr}{items:Array Value}(k:∀o,h.get? a=some o->h'.get? a=some o)(x:h.IsList a items):h'.IsList a items:=let ⟨o,ho,r⟩:=x;⟨o,k o ho,r⟩
theorem Qqq {h h':Heap}{a:Addr}{items:Array Value}(k:∀o,h.get? a=some o->h'.get? a=some o)(x:h.IsTuple a items):h'.IsTuple a items:=let ⟨o,ho,r⟩:=x;⟨o,k o ho,r⟩
theorem VR.to {l l':Lay}{h h':Heap}(hσ:∀(n:Nat) (a:Addr),l.σ[n]?=some a->l'.σ[n]?=some a)(hx:∀(n:Nat) (w:Value),l.x[n]?=some w->l'.x[n]?=some w)
  (k:∀a,¬l.N a->(∃o,h.get? a=some o)->¬l'.N a/\∀o,h.get? a=some o->h'.get? a=some o) {v:V}:∀{w:Value},VR l h v w->VR l' h' v w:=by
 refine V.rec (motive_1:=λ v=>∀{w:Value},VR l h v w->VR l' h' v w) (motive_2:=λ v=>∀{w:List Value},Y0 l h v w->Y0 l' h' v w) id (λ J=>id) (λ J=>id) (λ J=>id) (λ J=>id)
  (λ xs f w q=>?_) (λ xs f w q=>?_) (λ x y z w q=>?_) (λ n w q=>?_) (λ n J=>hx n _) (λ H ks xs f w q=>?_) id (λ x xs f fs w q=>?_) v
 .obtain⟨a,its,e,n,⟨m,p⟩,q⟩:=VR.inv q;have y:=k a n ⟨_,p⟩;exact⟨a,its,e,y.1,⟨m,y.2 _ p⟩,f q⟩
 .obtain⟨a,its,e,n,⟨o,p,p'⟩,q⟩:=VR.invT q;have y:=k a n ⟨o,p⟩;exact⟨a,its,e,y.1,⟨o,y.2 _ p,p'⟩,f q⟩
 .obtain⟨a,t,u,v,e,n,p⟩:=q;have y:=k a n ⟨_,p⟩;exact⟨a,t,u,v,e,y.1,y.2 _ p⟩
 .obtain⟨a,e,q⟩:=q;exact⟨a,e,hσ n a q⟩
 .obtain⟨a,its,e,n,p,q⟩:=VR.invD q;have y:=k a n p.there;exact⟨a,its,e,y.1,Qx5 y.2 p,f q⟩
 .obtain⟨w,ws,e,a,b⟩:=Y0.inv q;exact⟨w,ws,e,f a,fs b⟩
theorem Y0.to {l l':Lay}{h h':Heap}(hσ:∀(n:Nat) (a:Addr),l.σ[n]?=some a->l'.σ[n]?=some a)(hx:∀(n:Nat) (w:Value),l.x[n]?=some w->l'.x[n]?=some w)
  (k:∀a,¬l.N a->(∃o,h.get? a=some o)->¬l'.N a/\∀o,h.get? a=some o->h'.get? a=some o) {v:List V} {w:List Value} (x:Y0 l h v w):Y0 l' h' v w:=by
 induction v generalizing w with
 |nil=>exact x
 |cons _ _ ih=>obtain⟨w,ws,e,a,b⟩:=x.inv;exact⟨w,ws,e,a.to hσ hx k,ih b⟩
theorem VR.sub {l:Lay}{h h':Heap}(k:Sub h h'){v:V}{w:Value}(x:VR l h v w):VR l h' v w:=x.to (λ J J e=>e) (λ J J e=>e) λ a n J=>⟨n,k a⟩
theorem Y0.sub {l:Lay}{h h':Heap}(k:Sub h h'){v:List V}{w:List Value}(x:Y0 l h v w):Y0 l h' v w:=x.to (λ J J e=>e) (λ J J e=>e) λ a n J=>⟨n,k a⟩
theorem Y0.length {l:Lay}{h:Heap}{v:List V}{w:List Value}(x:Y0 l h v w):v.length=w.length:=by
 induction v generalizing w with
 |nil=>cases x;rfl
 |cons _ _ ih=>obtain⟨w,ws,rfl,_,b⟩:=x.inv;exact Zm Nat.succ (ih b)
theorem Y0.get {l:Lay}{h:Heap}{v:List V}{w:List Value}(r:Y0 l h v w)(i:Nat)(x:V)(e:v[i]?=some x):∃y,w[i]?=some y/\VR l h x y:=by
 induction v generalizing w i with
 |nil=>cases e
 |cons _ _ ih=>
  obtain⟨w,ws,rfl,a,b⟩:=r.inv;cases i with
  |zero=>cases e;exact⟨w,rfl,a⟩
  |succ i=>exact ih b i e
theorem Y0.append {l:Lay}{h:Heap}{v v':List V}{w w':List Value}(x:Y0 l h v w)(y:Y0 l h v' w'):Y0 l h (v++v') (w++w'):=by
 induction v generalizing w with
 |nil=>cases x;exact y
 |cons _ _ ih=>obtain⟨w,ws,rfl,a,b⟩:=x.inv;exact .cons a (ih b)
theorem Yw (s:Shared):Keeps s s:=⟨s.heap,s.toks,rfl,λ J J e=>e⟩
theorem Qi {s s1 s2:Shared}(x:Keeps s s1)(y:Keeps s1 s2):Keeps s s2:=by
 obtain⟨h1,t1,rfl,k1⟩:=x;obtain⟨h2,t2,rfl,k2⟩:=y;exact⟨h2,t2,rfl,λ b o e=>k2 b o (k1 b o e)⟩
theorem kDr {s s1:Shared}(x:Keeps s s1):s1.drawn=s.drawn:=by obtain⟨_,_,rfl,_⟩:=x;rfl
theorem Yh {s s1:Shared}(x:Keeps s s1):Sub s.heap s1.heap:=by obtain⟨h1,t1,rfl,k1⟩:=x;exact k1
theorem Xw (s:Shared)(n:Nat):Keeps s {s with toks:=n}:=⟨s.heap,n,rfl,λ J J e=>e⟩
theorem kOf {s:Shared}{h:Heap}{n:Nat}(k:Sub s.heap h):Keeps s {s with heap:=h,toks:=n}:=⟨h,n,rfl,k⟩
theorem My (s:Shared)(o:Obj)(n:Nat):Keeps s {s with heap:=s.heap.push o,toks:=n}:=⟨_,n,rfl,λ J J e=>Q9 _ e⟩
structure Cx where
 A:Around
 A₀:Around
 base:Heap
 h₀:Heap
 L:Addr
 fenv:Env
 env:Env
 outer:List Env
 /-- names whose text has a token below the count -/
 bnd:List Str
 /-- how many calls deep one may still go -/
 room:Nat
 /-- places that the callers bar -/
 B:Addr->Prop
 /-- the callers' names' dicts whose slots may turn -/
 fs:List Addr:=[]
 /-- draws of an order may be made -/
 dr:Bool:=false
noncomputable abbrev Loc:=List (Str×V)
noncomputable abbrev Q4:=List (List V×Nat)
structure Qj where
 prog:Program
 w:World
 K:Frag
 p:Program
 loose:List Str
 mean:ExcName->Option Value
 mg:Str->Option Value
 mb:Str->Option Value
structure Ok (W:Qj)(c:Cx):Prop where
 below:Below c.A₀ c.base c.outer c.h₀
 frames:c.A.frames=some (c.fenv::c.outer)
 ff:c.fenv.frame=some c.L
 fk:c.fenv.scope.kind=.function
 ek:c.env.scope.kind=.function
 eg:c.env.globals=mainGlobals
 eb:c.env.builtins=builtinsNs
 inK:W.K.In c.base
 top:Top W.p W.loose W.mean W.mg W.mb c.base
 handled:c.A.handled=none
 nob:NoneBooked c.base
 units:c.A.units+8*c.room<=1000
 deep:c.A.depth+c.room<recursionLimit
 guards:c.A.guards=some []
 place:c.env.locals=c.L\/(c.env.locals≠c.L/\c.h₀.get? c.env.locals=none)
 fsb:∀b∈c.fs,c.base.get? b=none/\c.B b/\∃o,c.h₀.get? b=some o
structure FrT (c:Cx)(h:Heap)(m:Str->Option Value):Prop where
 ns:h.Ns c.L m
 keep:∀b o,c.h₀.get? b=some o->b∉c.fs->h.get? b=some o
 slot:∀b o,c.h₀.get? b=some o->∃sl,h.get? b=some {o with slots:=sl}
 above:c.h₀.objs.size<=c.L
theorem FrT.to {c:Cx}{h h':Heap}{m m':Str->Option Value}(F:FrT c h m)(hn:h'.Ns c.L m')(k:∀b o o',c.h₀.get? b=some o->h.get? b=some o'->h'.get? b=some o'):FrT c h' m':=
 ⟨hn,λ b o e q=>k b o o e (F.keep b o e q),λ b o e=>let ⟨sl,q⟩:=F.slot b o e;⟨sl,k b o _ e q⟩,F.above⟩
theorem FrT.keeps {c:Cx}{h h':Heap}{m:Str->Option Value}(F:FrT c h m)(k:Sub h h'):FrT c h' m:=F.to (F.ns.keeps k) λ b J o' J e=>k b o' e
theorem FrT.set {c:Cx}{h h':Heap}{m m':Str->Option Value}(F:FrT c h m)(hn:h'.Ns c.L m')(hs:Heap.SameBut c.L h h'):FrT c h' m':=
 F.to hn λ b J J e e'=>(hs.2 b (Zj (Qg (Qh e) F.above))).trans e'
theorem FrT.of {c:Cx}{h:Heap}{m:Str->Option Value}(F:Fr c.h₀ c.L h m):FrT c h m:=⟨F.ns,λ b o e J=>F.keep b o e,λ b o e=>⟨o.slots,F.keep b o e⟩,F.above⟩
theorem FrT.fr {c:Cx}{h:Heap}{m:Str->Option Value}(F:FrT c h m)(hf:c.fs=[]):Fr c.h₀ c.L h m:=⟨F.ns,λ b o e=>F.keep b o e (hf▸Zf),F.above⟩
theorem Ok.sub {W:Qj}{c:Cx}(O:Ok W c){h:Heap}{m:Str->Option Value}(F:FrT c h m):Sub c.base h:=λ b o e=>F.keep b o (O.below.stays b o e) λ q=>by rw[(O.fsb b q).1]at e;cases e
def Qnj (c:Cx)(l:Lay)(h:Heap)(ml:Str->Option Value)(loc:Loc):Prop:=
 ∀x v,loc.lookup x=some v->∃w,VR l h v w/\
  ((c.env.kindOf x=some .local/\ml x=some w)\/((c.env.kindOf x=some .cell\/c.env.kindOf x=some .free)/\∃a,c.env.cells.lookup x=some a/\h.IsCell a (some w)))
structure R (c:Cx)(l:Lay)(loc:Loc)(st:Q4)(s:Shared):Prop where
 fr:∃m,FrT c s.heap m
 names:∃ml,s.heap.Ns c.env.locals ml/\Qnj c l s.heap ml loc/\∀x∈c.bnd,∀v,loc.lookup x=some v->∃y t,ml x=some (.str y t)/\t≠0/\t<s.toks
 lists:∀(n:Nat) (xs:List V×Nat),st[n]?=some xs->∃a items,l.σ[n]?=some a/\s.heap.PlainList a items.toArray/\Y0 l s.heap xs.1 items
 low:∀a,l.N a->∃o,s.heap.get? a=some o
 tk:0<s.toks
 loN:l.N c.env.locals
 clN:∀x a,c.env.cells.lookup x=some a->l.N a
 owN:∀(n:Nat) (a:Addr),l.σ[n]?=some a->l.N a
theorem Qju {h h':Heap}{a:Addr}{m:Str->Option Value}(k:Sub h h')(x:h.Ns a m):h'.Ns a m:=x.keeps k
theorem Qnj.sub {c:Cx}{l:Lay}{h h':Heap}{ml:Str->Option Value}{loc:Loc}(k:Sub h h')(x:Qnj c l h ml loc):Qnj c l h' ml loc:=λ y v e=>by
 obtain⟨w,hv,hw⟩:=x y v e;refine⟨w,hv.sub k,hw.imp id λ ⟨a,b,c,o,ho,hd⟩=>⟨a,b,c,o,k _ _ ho,hd⟩⟩
noncomputable def Qk7 (g h:Heap)(fs:List Addr):Heap:={g with objs:=g.objs.mapIdx λ i o=>if i∈fs/\(g.get? i).isSome=true then(h.objs[i]?).getD o else o}
theorem Qqk {g h:Heap}{a b:Addr}(e:g.objs[a]?=h.objs[b]?):g.get? a=h.get? b:=by
 unfold Heap.get?;rw[e]
theorem Qk6 {g h:Heap}{fs:List Addr}{b:Addr}{o o':Obj}(hb:b∈fs)(e:g.get? b=some o)(e':h.get? b=some o'):(Qk7 g h fs).get? b=some o':=by
 rw[<- e'];refine Qqk ?_;show(Array.mapIdx _ _)[b]?=_;have hl:=Qh e;have hl':=Qh e';rw[Array.getElem?_mapIdx,Array.getElem?_eq_getElem hl,Array.getElem?_eq_getElem hl',Option.map_some,if_pos ⟨hb,by rw[e];rfl⟩];rfl
theorem Nr {g h:Heap}{fs:List Addr}{b:Addr}(hb:¬(b∈fs/\(g.get? b).isSome=true)):(Qk7 g h fs).get? b=g.get? b:=by
 refine Qqk ?_;show(Array.mapIdx _ _)[b]?=_;rw[Array.getElem?_mapIdx];cases g.objs[b]? with
 |none=>rfl
 |some o=>rw[Option.map_some,if_neg hb]
theorem Qwt {g h:Heap}{fs:List Addr}(k:∀b o,g.get? b=some o->∃sl,h.get? b=some {o with slots:=sl}):KtsTurn fs g (Qk7 g h fs):=by
 refine⟨Array.size_mapIdx ..,λ b e=>?_,λ b o e n=>?_,λ b o e n=>?_⟩
 .rw[Nr (by rw[e];exact λ q=>nomatch q.2)];exact e
 .rw[Nr λ q=>n q.1];exact e
 .obtain⟨sl,z⟩:=k b o e;exact⟨sl,Qk6 n e z⟩
theorem Ok.ground {W:Qj}{c:Cx}(O:Ok W c){h:Heap}{m:Str->Option Value}(F:FrT c h m):∃g,KtsTurn c.fs c.h₀ g/\Fr g c.L h m/\Below c.A₀ c.base c.outer g/\W.K.In g/\Top W.p W.loose W.mean W.mg W.mb g:=by
 have T:=Qwt (fs:=c.fs) F.slot;have st:c.base.StaysIn (Qk7 c.h₀ h c.fs):=λ b o e=>T.other b o (O.below.stays b o e) λ q=>by rw[(O.fsb b q).1]at e;cases e
 refine⟨_,T,⟨F.ns,λ b o e=>?_,Q1 (Nat.le_of_eq T.size) F.above⟩,⟨O.below.stack,st,O.below.frames.of_keeps λ b o e J=>?_⟩,O.inK.keeps st,O.top.keeps st⟩
 .by_cases q:b∈c.fs/\(c.h₀.get? b).isSome=true
  .obtain⟨o0,e0⟩:=Option.isSome_iff_exists.mp q.2;obtain⟨sl,z⟩:=F.slot b o0 e0;rw[Qk6 q.1 e0 z]at e;rw[z];exact e
  .rw[Nr q]at e;exact F.keep b o e λ z=>q ⟨z,by rw[e];rfl⟩
 .by_cases q:b∈c.fs
  .obtain⟨sl,z⟩:=T.frame b o e q;exact⟨_,z,rfl⟩
  .exact⟨o,T.other b o e q,rfl⟩
theorem R.keeps {c:Cx}{l:Lay}{loc:Loc}{st:Q4}{s s':Shared}(x:R c l loc st s)(k:Keeps s s')(t:s.toks<=s'.toks):R c l loc st s' where
 fr:=let ⟨m,F⟩:=x.fr;⟨m,F.keeps (Yh k)⟩
 names:=let ⟨ml,a,b,q⟩:=x.names;⟨ml,Qju (Yh k) a,b.sub (Yh k),λ y hy v e=>let ⟨z,u,h1,h2,h3⟩:=q y hy v e;⟨z,u,h1,h2,Qg h3 t⟩⟩
 lists:=λ n xs e=>let ⟨a,items,h1,h2,h3⟩:=x.lists n xs e;⟨a,items,h1,let ⟨m,e⟩:=h2;⟨m,(Yh k) a _ e⟩,h3.sub (Yh k)⟩
 low:=λ a h=>let ⟨o,ho⟩:=x.low a h;⟨o,Yh k _ _ ho⟩
 tk:=Qg x.tk t
 loN:=x.loN
 clN:=x.clN
 owN:=x.owN
noncomputable def drf (st:Q4)(v:V):V:=if h:v.ctorIdx=8 then V.own.elim v h λ n=>(st[n]?).elim (.own n) λ p=>.list p.1 else v
def VD (l:Lay)(h:Heap)(v:V)(w:Value):Prop:=VR l h v w\/Vh v (λ xs=>∃(n:Nat) (a:Addr) (items:List Value),w=.ref a/\l.σ[n]?=some a/\h.PlainList a items.toArray/\Y0 l h xs items) False
theorem R.drf {c:Cx}{l:Lay}{loc:Loc}{st:Q4}{s:Shared}(x:R c l loc st s){v:V}{w:Value}(h:VR l s.heap v w):VD l s.heap (drf st v) w:=by
 unfold Mine.drf;by_cases q:v.ctorIdx=8
 .rw[dif_pos q];obtain⟨n,rfl⟩:∃n,v=.own n:=V.own.elim (motive_1:=λ v=>∃n,v=.own n) v q λ n=>⟨n,rfl⟩;obtain⟨a,rfl,e⟩:=h;show VD l s.heap ((st[n]?).elim (.own n) λ p=>.list p.1) _;cases q:st[n]? with
  |none=>exact Or.inl ⟨a,rfl,e⟩
  |some xs=>
   obtain⟨a',items,h1,h2,h3⟩:=x.lists n xs q;rw[e]at h1;cases h1;exact Or.inr ⟨n,a,items,rfl,e,h2,h3⟩
 .rw[dif_neg q];exact Or.inl h
section
variable {l:Lay}{h:Heap}{w:Value}
theorem VD.of {v:V}(x:VR l h v w):VD l h v w:=Or.inl x
theorem VD.plist {xs:List V}(x:VD l h (.list xs) w):∃a items,w=.ref a/\h.PlainList a items.toArray/\Y0 l h xs items/\(¬l.N a\/∃n:Nat,l.σ[n]?=some a):=by
 rcases x with x |x
 .obtain⟨a,i,e,n,p,r⟩:=VR.inv x;exact⟨a,i,e,p,r,.inl n⟩
 .obtain⟨n,a,i,e,q,p,r⟩:∃(n:Nat) (a:Addr) (items:List Value),w=.ref a/\l.σ[n]?=some a/\h.PlainList a items.toArray/\Y0 l h xs items:=x;exact⟨a,i,e,p,r,.inr ⟨n,q⟩⟩
theorem VD.tuple' {xs:List V}(x:VD l h (.tuple xs) w):∃a items,w=.ref a/\¬l.N a/\h.IsTuple a items.toArray/\Y0 l h xs items:=Or.elim x id False.elim
theorem VD.range {x y z:Int}(q:VD l h (.range x y z) w):∃a t u v,w=.ref a/\¬l.N a/\IsRange h a x y z t u v:=Or.elim q id False.elim
theorem VD.int {i:Int}(x:VD l h (.int i) w):∃t,w=.int i t:=Or.elim x id False.elim
theorem VD.str {i:Str}(x:VD l h (.str i) w):∃t,w=.str i t:=Or.elim x id False.elim
theorem VD.bytes {i:Array UInt8}(x:VD l h (.bytes i) w):∃t,w=.bytes i t:=Or.elim x id False.elim
theorem VD.bool {i:Bool}(x:VD l h (.bool i) w):w=.bool i:=Or.elim x id False.elim
theorem VD.none (x:VD l h .none w):w=.none:=Or.elim x id False.elim
variable {v:V}{B:Prop}
variable {M:Value->Prop}
@[elab_as_elim] theorem VD.vn (x:VD l h v w){P:Prop}(q:Ad v P B)(f:P->M .none)(g:B->M w):M w:=Qfr (M:=λ v=>VD l h v w->M w) q (λ q x=>x.none▸f q) (λ q J=>g q) x
@[elab_as_elim] theorem VD.vb (x:VD l h v w){k:Bool->Prop}(q:O7 v k B)(f:∀i,k i->M (.bool i))(g:B->M w):M w:=Qfi (M:=λ v=>VD l h v w->M w) q (λ i q x=>x.bool▸f i q) (λ q J=>g q) x
@[elab_as_elim] theorem VD.vi (x:VD l h v w){k:Int->Prop}(q:Uh v k B)(f:∀i t,k i->M (.int i t))(g:B->M w):M w:=Qzn (M:=λ v=>VD l h v w->M w) q (λ i q x=>x.int.elim λ t e=>e▸f i t q) (λ q J=>g q) x
@[elab_as_elim] theorem VD.vs (x:VD l h v w){k:Str->Prop}(q:Jz v k B)(f:∀i t,k i->M (.str i t))(g:B->M w):M w:=H3 (M:=λ v=>VD l h v w->M w) q (λ i q x=>x.str.elim λ t e=>e▸f i t q) (λ q J=>g q) x
@[elab_as_elim] theorem VD.vy (x:VD l h v w){k:Array UInt8->Prop}(q:H4 v k B)(f:∀i t,k i->M (.bytes i t))(g:B->M w):M w:=O6 (M:=λ v=>VD l h v w->M w) q (λ i q x=>x.bytes.elim λ t e=>e▸f i t q) (λ q J=>g q) x
@[elab_as_elim] theorem VD.vl (x:VD l h v w){k:List V->Prop}(q:Vh v k B)(f:∀xs a i,h.PlainList a i.toArray->Y0 l h xs i->(¬l.N a\/∃n:Nat,l.σ[n]?=some a)->k xs->M (.ref a))(g:B->M w):M w:=
 Ej (M:=λ v=>VD l h v w->M w) q (λ i q x=>by obtain⟨a,b,rfl,d,e,n⟩:=x.plist;exact f i a b d e n q) (λ q J=>g q) x
@[elab_as_elim] theorem VD.vt (x:VD l h v w){k:List V->Prop}(q:Te v k B)(f:∀xs a i,¬l.N a->h.IsTuple a i.toArray->Y0 l h xs i->k xs->M (.ref a))(g:B->M w):M w:=
 Hh (M:=λ v=>VD l h v w->M w) q (λ i q x=>by obtain⟨a,b,rfl,d,e,n⟩:=x.tuple';exact f i a b d e n q) (λ q J=>g q) x
@[elab_as_elim] theorem VD.vr (r:VD l h v w){k:Int->Int->Int->Prop}(q:Ez v k B)(f:∀x y z a t u v,¬l.N a->IsRange h a x y z t u v->k x y z->M (.ref a))(g:B->M w):M w:=
 O5 (M:=λ v=>VD l h v w->M w) q (λ x y z q r=>by obtain⟨a,t,u,o,rfl,n,p⟩:=r.range;exact f x y z a t u o n p q) (λ q J=>g q) r
end
def Uv (W:Qj)(c:Cx)(e:Expr)(loc:Loc)(st:Q4)(k:V->Prop):Prop:=
 ∀(l:Lay) (s:Shared) (Q:Value->Shared->Prop) (E:Value->Shared->Prop),R c l loc st s->
  (∀v w s',Keeps s s'->s.toks<=s'.toks->VR l s'.heap v w->k v->Q w s')->wpAny (model W.prog W.w) c.A (eval e c.env) Q E s
def Ps (W:Qj)(c:Cx)(e:Expr)(loc:Loc)(st:Q4)(k:Bool->Prop):Prop:=
 ∀(l:Lay) (s:Shared) (Q:Bool->Shared->Prop) (E:Value->Shared->Prop),R c l loc st s->
  (∀b s',Keeps s s'->s.toks<=s'.toks->k b->Q b s')->wpAny (model W.prog W.w) c.A (isTrue e c.env (eval e c.env)) Q E s
def Gv (W:Qj)(c:Cx)(t:Sem Value)(l:Lay)(s:Shared)(k:V->Prop):Prop:=
 ∀(Q:Value->Shared->Prop) (E:Value->Shared->Prop),(∀v w s',Keeps s s'->VR l s'.heap v w->k v->Q w s')->wpAny (model W.prog W.w) c.A t Q E s
theorem Gv.use {W:Qj}{c:Cx}{t:Sem Value}{l:Lay}{s:Shared}{k:V->Prop}(h:Gv W c t l s k){Q:Value->Shared->Prop}{E:Value->Shared->Prop}
  (hQ:∀v w s',Keeps s s'->s.toks<=s'.toks->VR l s'.heap v w->k v->Q w s'):wpAny (model W.prog W.w) c.A t Q E s:=
 Z0 (h _ E λ v w s' a b c d=>hQ v w s' a d b c)
theorem Vk {l:Lay}{s:Shared}(low:∀a,l.N a->∃o,s.heap.get? a=some o):¬l.N s.heap.objs.size:=λ h=>by
 obtain⟨o,ho⟩:=low _ h;exact absurd (Qh ho) (Y6 _)
theorem G1 (h:Heap)(items:Array Value):(h.push {cls:=.type "list",data:=.seq items}).PlainList h.objs.size items:=⟨0,Qp _ rfl⟩
theorem Vx (h:Heap)(items:Array Value):(h.push {cls:=.type "tuple",data:=.seq items}).IsTuple h.objs.size items:=⟨_,Qp _ rfl,rfl,0,rfl⟩
theorem Yo (h:Heap)(o:Obj):Sub h (h.push o):=λ J J e=>Q9 _ e
section
variable {prog:Program}{w:World}{A:Around}{E:Value->Shared->Prop}{s:Shared}
theorem Qxh {l b:Addr}{vs ws:List Value}{Q:Value->Shared->Prop}(hl:s.heap.IsList l vs.toArray)(hb:s.heap.IsList b ws.toArray)
  (h:Q (.ref s.heap.objs.size) {s with heap:=s.heap.push {cls:=.type "list",data:=.seq (vs++ws).toArray}})
  (hsz:vs.length+ws.length<=sizeLine):wpAny (model prog w) A (binaryOp .Add (.ref l) (.ref b)) Q E s:=by
 obtain⟨⟨cls,dd,data,sl⟩,ho,hc,n,hd⟩:=id hl;obtain⟨⟨cls2,dd2,data2,sl2⟩,ho2,hc2,n2,hd2⟩:=id hb;simp only at hc hd hc2 hd2;subst hc hd hc2 hd2;have e:vs.toArray++ws.toArray=(vs++ws).toArray:=by simp
 refine concat_meets ⟨_,ho,rfl⟩ ⟨_,ho2,rfl⟩ noFill_list_add seq_list_add PySem.F.slot_list_add PySem.F.entry_list_add (PySem.F.args_list_add_2 _ _) (list_addW l b vs.toArray ws.toArray n n2 dd dd2 sl sl2 (by simpa using hsz)) ⟨ho,ho2,?_⟩;rw[e];exact h
end
def Ks (op:Operator)(a b:V)(k:V->Prop):Prop:=
 ite (op=.Add) (Uh a (λ x=>Uh b λ y=>k (.int (x+y))) <| Jz a (λ x=>Jz b λ y=>x.length+y.length<=sizeLine/\k (.str (x++y))) <|
  H4 a (λ x=>H4 b λ y=>x.size+y.size<=16777216/\k (.bytes (x++y))) <| Vh a λ xs=>Vh b λ ys=>xs.length+ys.length<=sizeLine/\k (.list (xs++ys))) <|
 ite (op=.Mult) (Uh b λ y=>Uh a (λ x=>IntMulOk x y/\k (.int (x*y))) <| Jz a λ x=>MulOk x y/\k (.str (Txt.mul x y))) <|
 Uh a λ x=>Uh b λ y=>ite (op=.Sub) (k (.int (x-y))) <| ite (op=.FloorDiv) (y≠0/\Builtin.divisionGoesByPylong x y=false/\k (.int (x.fdiv y))) <|
  ite (op=.Mod) (y≠0/\k (.int (x.fmod y))) <| ite (op=.Pow) (0<=y/\↑(Builtin.Int.intBits x)*y<=2^27/\k (.int (x^y.toNat))) False
theorem Pn {W:Qj}{c:Cx}{l:Lay}{s:Shared}{op:Operator}{a b:V}{wa wb:Value}{k:V->Prop}(hh:c.A.handled=none)
  (low:∀a,l.N a->∃o,s.heap.get? a=some o) (ha:VD l s.heap a wa) (hb:VD l s.heap b wb) (h:Ks op a b k):Gv W c (binaryOp op wa wb) l s k:=by
 delta Ks at h
 exact Yr h
  (λ h=>ha.vi h (λ x t h=>hb.vi h (λ y u h Q E hQ=>by exact add_int (hQ _ _ _ (Xw _ _) (.int _ _) h)) False.elim) λ h=>
  ha.vs h (λ x t h=>hb.vs h (λ y u h Q E hQ=>by exact SB.add (λ t' n=>hQ _ _ _ (Xw _ _) (.str _ _) h.2) h.1) False.elim) λ h=>
  ha.vy h (λ x t h=>hb.vy h (λ y u h Q E hQ=>by exact KBy.add_bytes h.1 (λ t' n=>hQ _ _ _ (Xw _ _) (.bytes _ _) h.2)) False.elim) λ h=>
  ha.vl h (λ xs a1 i1 h1 r1 J h=>hb.vl h (λ ys a2 i2 h2 r2 J h Q E hQ=>by
   exact Qxh h1.isList h2.isList (hQ _ _ _ (My _ _ _) (.list (Vk low) (G1 _ _) ((r1.append r2).sub (Yo _ _))) h.2) (by rw[<- r1.length,<- r2.length];exact h.1)) False.elim) False.elim) λ h=>
  Yr h
  (λ h=>hb.vi h (λ y u h=>ha.vi h (λ x t h Q E hQ=>by exact mul_int (hQ _ _ _ (Xw _ _) (.int _ _) h.2) h.1) λ h=>ha.vs h (λ x t h Q E hQ=>by exact SB.mul h.1 (λ t' n=>hQ _ _ _ (Xw _ _) (.str _ _) h.2)) False.elim) False.elim) λ h=>
  ha.vi h (λ x t h=>hb.vi h (λ y u h=>
  Yr h (λ h Q E hQ=>by exact sub_int (hQ _ _ _ (Xw _ _) (.int _ _) h)) λ h=>Yr h (λ h Q E hQ=>by exact floordiv_int h.1 (hQ _ _ _ (Xw _ _) (.int _ _) h.2.2) (.inl h.2.1)) λ h=>
  Yr h (λ h Q E hQ=>by exact mod_int_or hh (λ q=>absurd q h.1) (λ J=>hQ _ _ _ (Xw _ _) (.int _ _) h.2)) λ h=>
  Yr h (λ h Q E hQ=>by exact pow_int h.1 h.2.1 (hQ _ _ _ (Xw _ _) (.int _ _) h.2.2)) False.elim) False.elim) False.elim
def Oz (v:V)(k:Bool->Prop):Prop:=O7 v k <| Uh v (λ i=>k (i !=0)) <| Jz v λ x=>x.length<=16777216/\k ((x.length:Int) !=0)
theorem Ra {W:Qj}{c:Cx}{l:Lay}{s:Shared}{v:V}{w:Value}{k:Bool->Prop}(hv:VR l s.heap v w)(h:Oz v k)(Q:Bool->Shared->Prop)(E:Value->Shared->Prop)
  (hQ:∀b s',Keeps s s'->k b->Q b s'):wpAny (model W.prog W.w) c.A (truthy w) Q E s:=by
 delta Oz at h
 exact(VD.of hv).vb h (λ b h=>by exact wpAny_truthy_bool (hQ _ _ (Yw _) h)) λ h=>(VD.of hv).vi h (λ b t h=>by exact truthy_int (hQ _ _ (Yw _) h)) λ h=>(VD.of hv).vs h (λ b t h=>by exact P.truthy_str (by lia) (hQ _ _ (Xw _ _) h.2)) False.elim
noncomputable def deep (n:Nat):V->Bool:=n.rec (λ v=>v.ctorIdx.blt 5) λ J r v=>if h:v.ctorIdx=5 then V.list.elim v h (·.all r) else if h:v.ctorIdx=6 then V.tuple.elim v h (·.all r) else v.ctorIdx.blt 5
open SeqAt in
theorem Qx2 {A:Around}{s:Shared}(b:Array UInt8)(t u:Tok):EqAt A s (.bytes b t) (.bytes b u) true:=λ prog w E Q h=>by
 unfold eqBool;refine Z1 ?_;refine wpAny_ite_split (λ hab=>?_) (λ J=>?_)
 .exact Q0 (wpAny_rule (Q5 h))
 .refine Q0 ?_;show wpAny (model prog w) A (compareOp .Eq (.bytes b t) (.bytes b u)) _ E s;exact eq_bytes (wpAny_truthy_bool (by simpa using h))
open SeqAt in
theorem Qyw {A:Around}{s:Shared}:EqAt A s .none .none true:=λ prog w E Q h=>by
 unfold eqBool;refine Z1 ?_;refine wpAny_ite_split (λ hab=>?_) (λ hn=>absurd rfl hn);exact Q0 (wpAny_rule (Q5 h))
theorem Wy (n:Nat):(List.range n).all (λ J=>true)=true:=by simp
open SeqAt in
theorem Cm {A:Around}{s:Shared}{l:Lay}{v:V}{w w':Value}(h:v.ctorIdx.blt 5=true)(a:VR l s.heap v w)(b:VR l s.heap v w'):EqAt A s w w' true:=by
 cases v with
 |none=>cases a;cases b;exact Qyw
 |bool x=>cases a;cases b;have:=EqAt.bool_bool (A:=A) (s:=s) x x;rwa [Qt]at this
 |int x=>obtain⟨t,rfl⟩:=a;obtain⟨u,rfl⟩:=b;have:=EqAt.int_int (A:=A) (s:=s) x t x u;rwa [Qt]at this
 |str x=>obtain⟨t,rfl⟩:=a;obtain⟨u,rfl⟩:=b;have:=EqAt.str_str (A:=A) (s:=s) x t x u;rwa [Qt]at this
 |bytes x=>obtain⟨t,rfl⟩:=a;obtain⟨u,rfl⟩:=b;exact Qx2 x t u
 |_=>exact nomatch (show false=true from h)
open SeqAt in
theorem W5 {P:V->Bool}{B:Around}{s:Shared}{l:Lay}(f:∀v w w',P v=true->VR l s.heap v w->VR l s.heap v w'->EqAt B s w w' true){xs:List V}{i1 i2:List Value}(h:xs.all P=true)(r1:Y0 l s.heap xs i1)(r2:Y0 l s.heap xs i2):
  ∀j (h1:j<i1.toArray.size) (h2:j<i2.toArray.size),EqAt B s i1.toArray[j] i2.toArray[j] ((λ J=>true) j):=λ j j1 j2=>by
 have hj:j<xs.length:=r1.length▸j1;obtain⟨y1,q1,v1⟩:=r1.get j xs[j] (Q7 hj);obtain⟨y2,q2,v2⟩:=r2.get j xs[j] (Q7 hj);rw[Q7 j1]at q1;rw[Q7 j2]at q2;cases q1;cases q2;exact f _ _ _ (Qf.mp h _ (List.getElem_mem hj)) v1 v2
open SeqAt in
theorem Qyk {s:Shared}{l:Lay}(n:Nat):∀(A:Around) (v:V) (w w':Value),deep n v=true->A.units+n<cLine->VR l s.heap v w->VR l s.heap v w'->EqAt A s w w' true:=by
 induction n with
 |zero=>exact λ J J J J h J=>Cm h
 |succ n ih=>
  intro A v w w' h hu a b;have hu1:A.units+1+n<cLine:=by rw[Nat.add_right_comm];exact hu
  have hu2:A.units<cLine:=Nat.lt_of_le_of_lt (Zq _ _) hu;cases v with
  |list xs=>
   obtain⟨x,i1,rfl,_,h1,r1⟩:=a.inv;obtain⟨y,i2,rfl,_,h2,r2⟩:=b.inv;by_cases hab:x=y
   .subst hab;exact EqAt.same _
   have:=RcAt.lists (A:=A) (e:=λ J=>true) h1.isList h2.isList (r1.length.symm.trans r2.length) hu2 (W5 (λ v w w' d=>ih A.in1 v w w' d hu1) h r1 r2);rw[Wy]at this;exact EqAt.of_refs hab this
  |tuple xs=>
   obtain⟨x,i1,rfl,_,h1,r1⟩:=a.invT;obtain⟨y,i2,rfl,_,h2,r2⟩:=b.invT;by_cases hab:x=y
   .subst hab;exact EqAt.same _
   have:=RcAt.tuples (A:=A) (e:=λ J=>true) h1 h2 hu2 (W5 (λ v w w' d=>ih A.in1 v w w' d hu1) h r1 r2);rw[Wy,show(i1.toArray.size==i2.toArray.size)=true from Zr.mpr (r1.length.symm.trans r2.length)]at this;exact EqAt.of_refs hab this
  |_=>exact Cm (by exact h) a b
open SeqAt in
theorem Hz {s:Shared}{l:Lay}{A:Around}{n:Nat}{xs:List V}{i1 i2:List Value}(h:xs.all (deep n)=true)(hu:A.units+1+n<cLine)(r1:Y0 l s.heap xs i1)(r2:Y0 l s.heap xs i2):
  ∀j (h1:j<i1.toArray.size) (h2:j<i2.toArray.size),EqAt A.in1 s i1.toArray[j] i2.toArray[j] ((λ J=>true) j):=W5 (λ v w w' d=>Qyk n A.in1 v w w' d hu) h r1 r2
def Qgg (op:CmpOp)(a b:V)(k:Bool->Prop):Prop:=
 Uh a (λ x=>Uh b λ y=>ite (op=.Eq) (k (x==y)) <| ite (op=.NotEq) (k (x !=y)) <| ite (op=.Lt) (k (decide (x<y))) <| ite (op=.LtE) (k (decide (x<=y))) <|
  ite (op=.Gt) (k (decide (y<x))) <| ite (op=.GtE) (k (decide (y<=x))) False) <|
 Jz a (λ x=>Ad b (ite (op=.IsNot) (k true) <| ite (op=.Is) (k false) False) <| Jz b λ y=>ite (op=.Eq) (k (x==y)) <| ite (op=.NotEq) (k (x.cps.toList !=y.cps.toList)) <|
  ite (op=.LtE) (k (!(y.cps.toList<x.cps.toList))) <| ite (op=.GtE) (k (!(x.cps.toList<y.cps.toList))) <| ite (op=.In) (k (Txt.contains y x)) <| ite (op=.NotIn) (k (!Txt.contains y x)) False) <|
 O7 a (λ x=>O7 b λ y=>ite (op=.Eq) (k (x==y)) <| ite (op=.Is) (k (x==y)) <| ite (op=.IsNot) (k (!(x==y))) False) <|
 Vh a (λ xs=>Vh b λ ys=>ite (op=.Eq) ((xs=ys/\xs.all (deep 5)=true/\k true)\/(xs.length≠ys.length/\k false)) <| ite (op=.NotEq) ((xs=ys/\xs.all (deep 5)=true/\k false)\/(xs.length≠ys.length/\k true)) False) <|
 Ad a <| Ad b <| ite (op=.IsNot) (k false) <| ite (op=.Is) (k true) False
theorem Cq {M:Model}{A:Around}{E:Value->Shared->Prop}{s:Shared}{x:Str}{t:Tok}{Q:Bool->Shared->Prop}(h:Q false s):wpAny M A (isSame (.str x t) .none) Q E s:=by
 unfold isSame;exact Q5 h
theorem Cz {M:Model}{A:Around}{E:Value->Shared->Prop}{s:Shared}{Q:Bool->Shared->Prop}(h:Q true s):wpAny M A (isSame .none .none) Q E s:=by
 unfold isSame;exact Q5 h
theorem Mu {M:Model}{A:Around}{E:Value->Shared->Prop}{s:Shared}{x y:Bool}{Q:Bool->Shared->Prop}(h:Q (x==y) s):wpAny M A (isSame (.bool x) (.bool y)) Q E s:=by
 unfold isSame;refine Q5 ?_
 have e:(Value.bool x==Value.bool y)=(x==y):=by cases x <;> cases y <;> rfl
 rw[e];exact h
open SeqAt in
theorem G5 {W:Qj}{c:Cx}{l:Lay}{s:Shared}{op:CmpOp}{a b:V}{wa wb:Value}{k:Bool->Prop}(hu:c.A.units<=1000)
  (ha:VD l s.heap a wa) (hb:VD l s.heap b wb) (h:Qgg op a b k) (Q:Value->Shared->Prop) (E:Value->Shared->Prop)
  (hQ:∀b s',Keeps s s'->k b->Q (.bool b) s'):wpAny (model W.prog W.w) c.A (compareOp op wa wb) Q E s:=by
 delta Qgg at h
 exact ha.vi h (λ x t h=>hb.vi h (λ y u h=>Yr h (λ h=>by exact eq_int (hQ _ _ (Yw _) h)) λ h=>Yr h (λ h=>by exact ne_int (hQ _ _ (Yw _) h)) λ h=>Yr h (λ h=>by exact lt_int (hQ _ _ (Yw _) h)) λ h=>Yr h (λ h=>by exact le_int (hQ _ _ (Yw _) h)) λ h=>Yr h (λ h=>by exact gt_int (hQ _ _ (Yw _) h)) λ h=>Yr h (λ h=>by exact ge_int (hQ _ _ (Yw _) h)) False.elim) False.elim) λ h=>
  ha.vs h (λ x t h=>hb.vn h (λ h=>Yr h (λ h=>by exact Q0 (Cq (Q5 (hQ _ _ (Yw _) h)))) λ h=>Yr h (λ h=>by exact Q0 (Cq (Q5 (hQ _ _ (Yw _) h)))) False.elim) λ h=>
   hb.vs h (λ y u h=>Yr h (λ h=>by exact eq_str (hQ _ _ (Yw _) h)) λ h=>Yr h (λ h=>by exact P.ne_str (hQ _ _ (Yw _) h)) λ h=>Yr h (λ h=>by exact P.le_str (hQ _ _ (Yw _) h)) λ h=>Yr h (λ h=>by exact P.ge_str (hQ _ _ (Yw _) h)) λ h=>Yr h (λ h=>by exact SB.contains (hQ _ _ (Yw _) h)) λ h=>Yr h (λ h=>by exact SB.notContains (hQ _ _ (Yw _) h)) False.elim) False.elim) λ h=>
  ha.vb h (λ x h=>hb.vb h (λ y h=>Yr h (λ h=>by exact RcAt.bool_bool _ _ _ _ E Q (hQ _ _ (Yw _) h)) λ h=>Yr h (λ h=>by exact Q0 (Mu (Q5 (hQ _ _ (Yw _) h)))) λ h=>Yr h (λ h=>by exact Q0 (Mu (Q5 (hQ _ _ (Yw _) h)))) False.elim) False.elim) λ h=>
  ha.vl h (λ xs a1 i1 h1 r1 J h=>hb.vl h (λ ys a2 i2 h2 r2 J h=>by
   have hu0:c.A.units<cLine:=Nat.lt_of_le_of_lt hu (by decide);have hu5:c.A.units+1+5<cLine:=Nat.lt_of_le_of_lt (Nat.add_le_add_right hu 6) (by decide);have ne:xs.length≠ys.length->i1.toArray.size≠i2.toArray.size:=λ q e=>q (r1.length.trans (e.trans r2.length.symm));refine Yr h (λ h=>h.elim (λ ⟨q,hd,g⟩=>?_) λ ⟨hn,h⟩=>RcAt.lists_lengths h1.isList h2.isList (bne_iff_ne.mpr (ne hn)) hu0 _ _ E Q (hQ _ _ (Yw _) h)) λ h=>
    Yr h (λ h=>h.elim (λ ⟨q,hd,g⟩=>?_) λ ⟨hn,h⟩=>RcNeAt.lists_lengths h1.isList h2.isList (bne_iff_ne.mpr (ne hn)) hu0 _ _ E Q (hQ _ _ (Yw _) h)) False.elim <;> subst q
   .refine RcAt.lists (e:=λ J=>true) h1.isList h2.isList (r1.length.symm.trans r2.length) hu0 (Hz hd hu5 r1 r2) _ _ E Q ?_;rw[Wy];exact hQ _ _ (Yw _) g
   .refine RcNeAt.lists (e:=λ J=>true) h1.isList h2.isList (r1.length.symm.trans r2.length) hu0 (Hz hd hu5 r1 r2) _ _ E Q ?_;rw[Wy];exact hQ _ _ (Yw _) g) False.elim) λ h=>
  ha.vn h (λ h=>hb.vn h (λ h=>Yr h (λ h=>by exact Q0 (Cz (Q5 (hQ _ _ (Yw _) h)))) λ h=>Yr h (λ h=>by exact Q0 (Cz (Q5 (hQ _ _ (Yw _) h)))) False.elim) False.elim) False.elim
set_option tactic.hygienic true in
theorem Ur (slice:Expr)(o i:Value):∃ops,subscripted slice false o i=operate ops (getItem o i):=by
 cases slice <;> first |exact⟨_,rfl⟩ |(rename_i st _;cases st <;> exact⟨_,rfl⟩)
noncomputable def Ge (xs:List V)(i:Int):Option V:=(seqIndex? i xs.length).bind (xs[·]?)
theorem Yp {α:Type}{o:Option α}{f:α->Prop}:o.elim False f↔∃v,o=some v/\f v:=by cases o <;> simp
abbrev Qqz (xs:List V)(i:Int)(k:V->Prop):Prop:=(Ge xs i).elim False λ v=>X5 (decide (-(2^63)<=i)) <| X5 (decide (i<2^63)) <| k v
def Qrn (a i:V)(k:V->Prop):Prop:=Uh i λ i=>Jz a (λ x=>(Txt.charAt x i).elim False λ c=>X5 (fitsSsize i) <| k (.str ⟨#[c]⟩)) <| Vh a (λ xs=>Qqz xs i k) <| Te a λ xs=>Qqz xs i k
theorem Dq {i:Int}{n j:Nat}(h:seqIndex? i n=some j):(0<=i/\j=i.toNat)\/(i<0/\-(n:Int)<=i/\j=(i+n).toNat):=by
 have g:∀x:Int,(if (decide (0<=x)&&decide (x<n))=true then some x.toNat else none)=some j->0<=x/\j=x.toNat:=λ x h=>by
  by_cases q:(decide (0<=x)&&decide (x<n))=true
  .rw[if_pos q]at h;exact⟨Qc (Qe.mp q).1,(Option.some.inj h).symm⟩
  .rw[if_neg q]at h;cases h
 have h:=g _ h;by_cases h0:i<0
 .rw[if_pos h0]at h;exact .inr ⟨h0,by lia,h.2⟩
 .rw[if_neg h0]at h;exact .inl h
theorem Y0.idx {l:Lay}{h:Heap}{xs:List V}{ws:List Value}(r:Y0 l h xs ws){i:Int}{k:V->Prop}(q:Qqz xs i k):∃j w v,seqIndex? i ws.length=some j/\ws[j]?=some w/\VR l h v w/\-(2^63)<=i/\i<2^63/\k v:=
 Uu q λ v e q=>Zl q λ q1 q=>Zl q λ q2 q=>by
  obtain⟨j,e1,e2⟩:=Option.bind_eq_some_iff.mp e;obtain⟨w,hw,hv⟩:=r.get j v e2;exact⟨j,w,v,r.length▸e1,hw,hv,Qc q1,Qc q2,q⟩
theorem Qp7 {x:Str}{i:Int}{ch:Nat}(q:Txt.charAt x i=some ch):Txt.item x i=⟨#[ch]⟩:=by delta Txt.item;rw[q];rfl
theorem Qjr {W:Qj}{c:Cx}{l:Lay}{s:Shared}{value slice:Expr}{a i:V}{wa wi:Value}{k:V->Prop}(ha:VD l s.heap a wa)(hi:VD l s.heap i wi)(h:Qrn a i k):
  Gv W c (subscriptTail value slice wa wi) l s k:=by
 delta Qrn at h
 refine hi.vi h (λ i u h=>?_) False.elim;have ⟨ops,ho⟩:=Ur slice wa (.int i u);revert ho;refine ha.vs h (λ x t h ho Q E hQ=>?_) λ h=>ha.vl h (λ xs a1 i1 h1 r1 J h ho Q E hQ=>?_) λ h=>ha.vt h (λ xs a1 i1 J h1 r1 h ho Q E hQ=>?_) False.elim
 .refine Uu h λ ch h1 h=>Zl h λ h2 h=>tail_any (typeIs_str s _ _) F.slot_str_getitem.lookup (SB.getItem h2 (by rw[h1];rfl) (hQ _ _ _ (Xw _ _) (.str _ _) ?_)) ho;rw[Qp7 h1];exact h
 .obtain⟨j,w,v,e1,e2,e3,q2,q3,h⟩:=r1.idx h;refine tail_any h1.isList.typeIs F.slot_list_getitem.lookup ?_ ho
  rcases Dq e1 with⟨p1,rfl⟩ |⟨p1,p2,rfl⟩
  .exact wpAny_getItem_list h1.isList p1 q3 (by simpa only [Zh] using e2) (hQ _ _ _ (Yw _) e3 h)
  .exact wpAny_getItem_list_neg h1.isList p1 (by simpa only [Z4] using p2) q2 (by simpa only [Zh,Z4] using e2) (hQ _ _ _ (Yw _) e3 h)
 .obtain⟨j,w,v,e1,e2,e3,q2,q3,h⟩:=r1.idx h;exact tail_any (T:="tuple") (let ⟨o,ho,hc,_⟩:=h1;⟨o,ho,hc⟩) F.slot_tuple_getitem.lookup (getItem_tuple h1 q2 q3 (by simpa only [Z4] using e1) (by simpa only [Zh] using e2) (hQ _ _ _ (Yw _) e3 h)) ho
def Oe (a:V)(k:Option Int->Prop):Prop:=Ad a (k none) <| Uh a λ i=>k (some i)
noncomputable def Qop (x:Str)(lo hi:Option Int)(st:Int):Str:=
 if (st==1&&(Builtin.Str.strSliceIndices lo hi st x.length).length==x.length)=true then x else⟨((Builtin.Str.strSliceIndices lo hi st x.length).filterMap (x.cps[·]?)).toArray⟩
noncomputable def Fd {α:Type}(xs:List α)(lo hi:Option Int):List α:=(sliceRange (sliceBounds lo hi none xs.length).1 (sliceBounds lo hi none xs.length).2.1 (sliceBounds lo hi none xs.length).2.2).filterMap (xs[·]?)
theorem Y0.pick {l:Lay}{h:Heap}{xs:List V}{ws:List Value}(r:Y0 l h xs ws)(idx:List Nat):Y0 l h (idx.filterMap (xs[·]?)) (idx.filterMap (ws[·]?)):=by
 induction idx with
 |nil=>exact .nil
 |cons i idx ih=>
  cases e:xs[i]? with
  |none=>rw[List.filterMap_cons_none e,List.filterMap_cons_none (List.getElem?_eq_none_iff.mpr (r.length▸List.getElem?_eq_none_iff.mp e))];exact ih
  |some x=>
   obtain⟨w,e2,v⟩:=r.get i x e;rw[List.filterMap_cons_some e,List.filterMap_cons_some e2];exact .cons v ih
def Qbp (a lo hi st:V)(k:V->Prop):Prop:=Oe lo λ lo=>Oe hi λ hi=>Oe st λ st=>
 Jz a (λ x=>x.length<=sizeLine/\st.rec (k (.str (Txt.slice x lo hi))) λ n=>(n==0)=false/\(Qop x lo hi n).length<=sizeLine/\k (.str (Qop x lo hi n))) <|
 X5 st.isNone <| H4 a (λ b=>b.size<=sizeLine/\k (.bytes (KBy.picked b lo hi))) <| Vh a λ xs=>xs.length<=sizeLine/\k (.list (Fd xs lo hi))
@[elab_as_elim] theorem Dv {l:Lay}{h:Heap}{v:V}{w:Value}{k:Option Int->Prop}{M:Value->Prop}(hv:VD l h v w)(q:Oe v k)(f:∀p:Option (Int×Tok),k (p.map (·.1))->M (partValue p)):M w:=by
 delta Oe at q
 exact hv.vn q (f none) λ q=>hv.vi q (λ i t=>f (some (i,t))) False.elim
theorem Fq (p:Option (Int×Tok)):IsPart (partValue p) (p.map (·.1)):=by cases p with |none=>exact .none |some p=>exact .int _ _
theorem D9 {W:Qj}{c:Cx}{l:Lay}{s:Shared}{value slice:Expr}{a lo hi st:V}{wa wl wu ws:Value}{k:V->Prop}(low:∀a,l.N a->∃o,s.heap.get? a=some o)(ha:VD l s.heap a wa)(h1:VD l s.heap lo wl)(h2:VD l s.heap hi wu)(h3:VD l s.heap st ws)
  (h:Qbp a lo hi st k) (Q:Value->Shared->Prop) (E:Value->Shared->Prop) (hQ:∀v w s',Keeps s s'->VR l s'.heap v w->k v->Q w s'):
  wpAny (model W.prog W.w) c.A (subscriptTail value slice wa (.ref s.heap.objs.size)) Q E {s with heap:=s.heap.push {cls:=.type "slice",data:=.fields #[wl,wu,ws]}}:=by
 delta Qbp at h
 refine Dv h1 h λ pl h=>Dv h2 h λ pu h=>Dv h3 h λ ps h=>?_
 have kp:∀n,Keeps s {s with heap:=s.heap.push {cls:=.type "slice",data:=.fields #[partValue pl,partValue pu,partValue ps]},toks:=n}:=λ n=>My _ _ _
 have ⟨ops,ho⟩:=Ur slice wa (.ref s.heap.objs.size);revert ho;refine ha.vs h (λ x t h ho=>?_) λ h=>Zl h λ hn h=>?_
 .refine tail_any (typeIs_str _ _ _) F.slot_str_getitem.lookup ?_ ho;obtain⟨hz,h⟩:=h;cases ps with
  |none=>exact wpAny_getItem_str_slice (l:=pl) (u:=pu) (st:=none) ⟨_,Qp _ rfl,rfl,rfl⟩ rfl (post_val_or_str ⟨Q1 (Txt.slice_le _ _ _) hz,λ t' n=>hQ _ _ _ (kp n) (.str _ _) h⟩)
  |some p=>exact wpAny_getItem_str_slice (l:=pl) (u:=pu) (st:=some p) ⟨_,Qp _ rfl,rfl,rfl⟩ h.1 (post_val_or_str ⟨h.2.1,λ t' n=>hQ _ _ _ (kp n) (.str _ _) h.2.2⟩)
 .cases ps with
  |some p=>cases hn
  |none=>
   refine ha.vy h (λ b t h ho=>?_) λ h=>ha.vl h (λ xs b its hb rb J h ho=>?_) False.elim
   .exact tail_any (typeIs_bytes _ _ _) FB.slot_bytes_getitem.lookup (getItem_meets (typeIs_bytes _ _ _) (by decide) FB.slot_bytes_getitem FB.entry_bytes_getitem (FB.args_bytes_getitem_2 _ _) (KBc.meets_slice2 _ t _ (Fq pl) (Fq pu))
     ⟨Heap.IsSliceOf.new _ _ _ _,Q1 (KBc.size_picked_le _ _ _) h.1,λ t' n=>hQ _ _ _ (kp n) (.bytes _ _) h.2⟩) ho
   .refine tail_any (Heap.IsList.typeIs (s:={s with heap:=s.heap.push {cls:=.type "slice",data:=.fields #[partValue pl,partValue pu,partValue none]}}) (hb.isList.push _)) list_getitem_lookup
     (wpAny_getItem_list_slice (hb.isList.push _) (Heap.IsSliceOf.new ..) (Fq pl) (Fq pu) .none (by simp) (hQ _ _ _ ⟨_,s.toks,rfl,λ c o e=>Q9 _ (Q9 _ e)⟩ (.list (items:=Fd its (pl.map (·.1)) (pu.map (·.1))) (λ q=>?_) ?_ ?_) h.2) (by rw[Z4,<- rb.length];exact h.1)) ho
    .obtain⟨o,ho'⟩:=low _ q;have:=Qh ho';rw[Heap.size_push]at this;exact Y6 _ (Nat.lt_of_succ_lt this)
    .have e:slicePick its.toArray (pl.map (·.1)) (pu.map (·.1)) none=(Fd its (pl.map (·.1)) (pu.map (·.1))).toArray:=by
      delta slicePick Fd;simp only[Z4,Zh]
     rw[<- e];exact G1 _ _
    .delta Fd
     rw[rb.length];exact(rb.pick _).sub λ c o e=>Q9 _ (Q9 _ e)
noncomputable def Xi (a c:Int)(n:Nat):List V:=(List.range n).map λ i=>.int (a+(i:Nat)*c)
def Xv (v:V)(k:List V->Prop):Prop:=Jz v (λ x=>k (x.cps.toList.map λ c=>.str ⟨#[c]⟩)) <| Vh v k <| Te v k <| H4 v (λ b=>k (b.toList.map λ c=>.int (c.toNat:Nat))) <|
 Ez v λ a b c=>X5 (Builtin.Range.small a b c) <| X5 (decide (0<=Builtin.Range.rangeSize a b c)) <| k (Xi a c (Builtin.Range.rangeSize a b c).toNat)
structure Im (W:Qj)(l:Lay)(s:Shared)(w:Value)(I:Addr)(xs:List V)(fp:List Addr)(P:Nat->Value->Prop)(St:Nat->Heap->Prop):Prop where
 walks:∀A:Around,A.handled=none->Walks W.prog W.w A I fp [I] xs.length P St
 mem:I∈fp
 old:∀b∈fp,b=I\/((∃o,s.heap.get? b=some o)/\(¬l.N b\/∃n:Nat,l.σ[n]?=some b))
 src:∀b∈fp,b=I\/w=.ref b
 item:∀i y,P i y->∃x,xs[i]?=some x/\VR l s.heap x y
 live:∀i h,St i h->∃o,h.get? I=some o
 quiet:(∀i y,P i y->∀a,y≠.ref a)\/∀i h,St i h->∃o,h.get? I=some o/\(o.cls=.type "list_iterator"\/o.cls=.type "tuple_iterator")
theorem Y0.back {l:Lay}{h:Heap}{xs:List V}{ws:List Value}(r:Y0 l h xs ws)(i:Nat)(y:Value)(e:ws.toArray[i]?=some y):∃x,xs[i]?=some x/\VR l h x y:=by
 rw[Zh]at e;have hi:=(List.getElem?_eq_some_iff.mp e).1;obtain⟨y',e1,e2⟩:=r.get i _ (Q7 (r.length.symm▸hi));rw[e]at e1;cases e1;exact⟨_,Q7 _,e2⟩
section
variable {W:Qj}{A:Around}{l:Lay}{s:Shared}
theorem Rs {w:Value}{I:Addr}{xs:List V}{P:Nat->Value->Prop}{St:Nat->Heap->Prop}(hW:∀A:Around,A.handled=none->Walks W.prog W.w A I [I] [I] xs.length P St)(it:∀i y,P i y->∃x,xs[i]?=some x/\VR l s.heap x y)
  (lv:∀i h,St i h->∃o,h.get? I=some o) (qu:∀i y,P i y->∀a,y≠.ref a):Im W l s w I xs [I] P St:=
 ⟨hW,Q3.mpr rfl,λ J hb=>.inl (Q3.mp hb),λ J hb=>.inl (Q3.mp hb),it,lv,.inl qu⟩
theorem Nl {a I:Addr}{xs:List V}{items:List Value}{o:Obj}{St:Nat->Heap->Prop}(ho:s.heap.get? a=some o)(hN:¬l.N a\/∃n:Nat,l.σ[n]?=some a)(r1:Y0 l s.heap xs items)(hW:∀A:Around,A.handled=none->Walks W.prog W.w A I [I,a] [I] items.toArray.size (λ i v=>items.toArray[i]?=some v) St)
  (lv:∀i h,St i h->∃o,h.get? I=some o/\(o.cls=.type "list_iterator"\/o.cls=.type "tuple_iterator")):Im W l s (.ref a) I xs [I,a] (λ i v=>items.toArray[i]?=some v) St where
 walks:=λ A hA=>r1.length▸hW A hA
 mem:=.head _
 old:=λ b hb=>(Qx.mp hb).imp_right λ e=>by rw[Q3.mp e];exact⟨⟨o,ho⟩,hN⟩
 src:=λ b hb=>(Qx.mp hb).imp_right λ e=>by rw[Q3.mp e]
 item:=r1.back
 live:=λ i h q=>(lv i h q).imp λ J q=>q.1
 quiet:=.inr lv
theorem W4 {v:V}{w:Value}{k:List V->Prop}(hv:VD l s.heap v w)(h:Xv v k){Q:Value->Shared->Prop}{E:Value->Shared->Prop}
  (hQ:∀(xs:List V) (o:Obj) (fp:List Addr) (P:Nat->Value->Prop) (St:Nat->Heap->Prop),k xs->Im W l s w s.heap.objs.size xs fp P St->St 0 (s.heap.push o)->Q (.ref s.heap.objs.size) {s with heap:=s.heap.push o}):
  wpAny (model W.prog W.w) A (pyIter w) Q E s:=by
 delta Xv at h
 revert hQ;refine hv.vs h (λ x t h hQ=>?_) λ h=>hv.vl h (λ xs a items hp r1 hN h hQ=>?_) λ h=>hv.vt h (λ xs a items hN h1 r1 h hQ=>?_) λ h=>hv.vy h (λ b t h hQ=>?_) λ h=>hv.vr h (λ a b c r t u v J hr h hQ=>?_) False.elim
 .have it:∀i y,SignAt x i y->∃z,(x.cps.toList.map λ c=>V.str ⟨#[c]⟩)[i]?=some z/\VR l s.heap z y:=λ i y hy=>by
   obtain⟨c,u,e,rfl⟩:=hy;exact⟨.str ⟨#[c]⟩,by simp only[Z7,Array.getElem?_toList,e,Option.map_some],.str _ _⟩
  have qu:∀i y,SignAt x i y->∀a,y≠.ref a:=λ i y ⟨c,u,_,e⟩ a q=>by rw[e]at q;cases q
  have len:(x.cps.toList.map λ c=>V.str ⟨#[c]⟩).length=x.cps.size:=by rw[Q6,Zg]
  cases ha:x.cps.all (· < 128)
  .exact wpAny_pyIter_wide ha (hQ _ _ _ (SignAt x) (λ i h=>h.IsStrIter s.heap.objs.size "str_iterator" x t i) h (Rs (λ A hA=>len▸Walks.strWide hA _ x t) it (λ i h ⟨o,ho,_⟩=>⟨o,ho⟩) qu) ⟨_,Qp _ rfl,rfl,rfl⟩)
  .exact wpAny_pyIter_ascii ha (hQ _ _ _ (SignAt x) (λ i h=>h.IsStrIter s.heap.objs.size "str_ascii_iterator" x t i) h (Rs (λ A hA=>len▸Walks.strAscii hA _ x t) it (λ i h ⟨o,ho,_⟩=>⟨o,ho⟩) qu) ⟨_,Qp _ rfl,rfl,rfl⟩)
 .obtain⟨n,ho⟩:=id hp;exact wpAny_pyIter_list hp.isList (hQ _ _ _ _ (λ i h=>h.IsListIter s.heap.objs.size a i/\h.IsList a items.toArray) h (Nl ho hN r1 (λ A hA=>Walks.list hA s.heap.objs.size a (Zj (Qh ho)) items.toArray) λ i h ⟨⟨o,ho,hc,_⟩,_⟩=>⟨o,ho,.inl hc⟩) ⟨⟨_,Qp _ rfl,rfl,rfl⟩,hp.isList.push _⟩)
 .obtain⟨o,ho,_⟩:=id h1;exact wpAny_pyIter_tuple h1 (hQ _ _ _ _ (λ i h=>h.IsTupleIter s.heap.objs.size a i/\h.IsTuple a items.toArray) h (Nl ho (.inl hN) r1 (λ A hA=>Walks.tuple hA s.heap.objs.size a (Zj (Qh ho)) items.toArray) λ i h ⟨⟨o,ho,hc,_⟩,_⟩=>⟨o,ho,.inr hc⟩) ⟨⟨_,Qp _ rfl,rfl,rfl⟩,Qqq (λ o e=>Q9 _ e) h1⟩)
 .have it:∀(i:Nat) (y:Value),(∃(c:UInt8) (u:Tok),b[i]?=some c/\y=.int (c.toNat:Int) u)->∃z,(b.toList.map λ c=>V.int (c.toNat:Nat))[i]?=some z/\VR l s.heap z y:=λ i y hy=>by
   obtain⟨c,u,e,rfl⟩:=hy;exact⟨.int (c.toNat:Nat),by simp only[Z7,Array.getElem?_toList,e,Option.map_some],.int _ _⟩
  have len:(b.toList.map λ c=>V.int (c.toNat:Nat)).length=b.size:=by rw[Q6,Zg]
  exact KBw.pyIter_bytes (hQ _ _ _ (λ i v=>∃(c:UInt8) (u:Tok),b[i]?=some c/\v=.int (c.toNat:Int) u) (λ i h=>KBw.IsBytesIter h s.heap.objs.size b t i) h
   (Rs (λ A hA=>len▸KBw.walks hA s.heap.objs.size b t) it (λ i h ⟨o,ho,_⟩=>⟨o,ho⟩) λ i y ⟨c,u,_,e⟩ a q=>by rw[e]at q;cases q) ⟨_,Qp _ rfl,rfl,rfl⟩)
 .refine Zl h λ h1 h=>Zl h λ h2 h=>wpAny_pyIter_range hr h1 (hQ _ _ _ (λ i v=>i<(Builtin.Range.rangeSize a b c).toNat/\∃t,v=.int (a+i*c) t) (λ i h=>IsRangeIter h s.heap.objs.size (a+(i:Nat)*c) (((Builtin.Range.rangeSize a b c).toNat:Int)-(i:Nat)) c) h (Rs (λ A hA=>?_) (λ i y hy=>?_) (λ i h q=>⟨_,q⟩) λ i y ⟨_,t,e⟩ a q=>by rw[e]at q;cases q) ?_)
  .have len:(Xi a c (Builtin.Range.rangeSize a b c).toNat).length=(Builtin.Range.rangeSize a b c).toNat:=by rw[Xi,Q6,List.length_range]
   rw[len];exact(Walks.range (prog:=W.prog) (w:=W.w) (A:=A) hA s.heap.objs.size a c (Builtin.Range.rangeSize a b c).toNat).bound
  .obtain⟨hi,t,rfl⟩:=hy;exact⟨.int (a+(i:Nat)*c),by simp only[Xi,Z7,List.getElem?_range hi,Option.map_some],.int _ _⟩
  .show IsRangeIter _ _ _ _ _;rw[Int.natCast_zero,Int.zero_mul,Int.add_zero,Int.sub_zero,Int.toNat_of_nonneg (Qc h2)];exact Qp _ rfl
end
inductive B1 where
 |len |ord |chr |abs |divmod |int |str |range |list |bytes |all |sum
noncomputable def B1.val:B1->Value
 |.len=>.builtin "len"
 |.ord=>.builtin "ord"
 |.chr=>.builtin "chr"
 |.abs=>.builtin "abs"
 |.divmod=>.builtin "divmod"
 |.int=>.type "int"
 |.str=>.type "str"
 |.range=>.type "range"
 |.list=>.type "list"
 |.bytes=>.type "bytes"
 |.all=>.builtin "all"
 |.sum=>.builtin "sum"
noncomputable def b1s:List (Str×B1):=[("len",.len),("ord",.ord),("chr",.chr),("abs",.abs),("divmod",.divmod),("int",.int),("str",.str),("range",.range),("list",.list),("bytes",.bytes),("all",.all),("sum",.sum)]
theorem Yn {β:Type}{l:List (Str×β)}{x:Str}{y:β}(e:l.lookup x=some y):(x,y)∈l:=by
 induction l with
 |nil=>cases e
 |cons p l ih=>
  rw[Qz]at e;cases h:x==p.1 with
  |true=>rw[h]at e;cases e;rw[eq_of_beq h];exact .head _
  |false=>rw[h]at e;exact .tail _ (ih e)
theorem Qge:(b1s.all λ p=>decide (bootBuiltins p.1=some p.2.val))=true:=by decide +kernel
theorem Qw9 {x:Str}{b:B1}(e:b1s.lookup x=some b):bootBuiltins x=some b.val:=by
 have:=Qf.mp Qge _ (Yn e);exact Qc this
noncomputable def Qys {α:Type}(p:V->Option α)(xs:List V):Option (List α):=xs.rec (some []) λ x J r=>(p x).bind λ a=>r.map (a::·)
noncomputable def Qlj (v:V):Option Int:=if h:v.ctorIdx=2 then V.int.elim v h some else none
noncomputable def Qgr (v:V):Option Bool:=if h:v.ctorIdx=1 then V.bool.elim v h some else none
noncomputable def Qnc (v:V):Option Str:=if h:v.ctorIdx=3 then V.str.elim v h some else none
noncomputable def Rh:List V->Option (List Int):=Qys Qlj
noncomputable def Cs:List V->Option (List Bool):=Qys Qgr
theorem Fw {α:Type}{p:V->Option α}{x:V}{r:List V}{ns:List α}(e:Qys p (x::r)=some ns):∃i n,p x=some i/\Qys p r=some n/\ns=i::n:=by
 obtain⟨i,h1,h2⟩:=Option.bind_eq_some_iff.mp (show(p x).bind (λ a=>(Qys p r).map (a::·))=some ns from e);obtain⟨n,h3,h4⟩:=Option.map_eq_some_iff.mp h2;exact⟨i,n,h1,h3,h4.symm⟩
theorem Fz {α:Type}{p:Prop}[Decidable p]{A:p->Option α}{a:α}(h:(if q:p then A q else none)=some a):∃q,A q=some a:=by
 by_cases q:p
 .rw[dif_pos q]at h;exact⟨q,h⟩
 .rw[dif_neg q]at h;cases h
theorem Qde {v:V}{i:Int}(h:Qlj v=some i):v=.int i:=(Fz h).elim λ q h=>V.int.elim (motive_1:=λ v=>∀q,V.int.elim v q some=some i->v=.int i) v q (λ J J e=>Zm V.int (Option.some.inj e)) q h
theorem Qgs {v:V}{i:Bool}(h:Qgr v=some i):v=.bool i:=(Fz h).elim λ q h=>V.bool.elim (motive_1:=λ v=>∀q,V.bool.elim v q some=some i->v=.bool i) v q (λ J J e=>Zm V.bool (Option.some.inj e)) q h
theorem Qkq {v:V}{i:Str}(h:Qnc v=some i):v=.str i:=(Fz h).elim λ q h=>V.str.elim (motive_1:=λ v=>∀q,V.str.elim v q some=some i->v=.str i) v q (λ J J e=>Zm V.str (Option.some.inj e)) q h
noncomputable def Rk (x:Str):Option Nat:=x.cps.toList.rec none λ c r J=>r.rec (some c) λ J J J=>none
theorem Du {x:Str}{c:Nat}(h:Rk x=some c):x=⟨#[c]⟩:=by
 have g:∀l:List Nat,l.rec none (λ c r J=>r.rec (some c) λ J J J=>none)=some c->l=[c]:=λ l h=>by
  cases l with
  |nil=>cases h
  |cons d r=>cases r with
   |nil=>cases h;rfl
   |cons=>cases h
 exact Str.ext' (Array.toList_inj.mp (g _ h))
noncomputable def Ij (n:Int):UInt8:=n.toNat.toUInt8
def b1V (b:B1)(vs:List V)(k:V->Prop):Prop:=
 b.rec (motive:=λ J=>Prop) (len:=Tw vs λ v=>Jz v (λ x=>x.length<=16777216/\k (.int x.length)) <| Vh v (λ xs=>xs.length<=16777216/\k (.int xs.length)) <| Te v λ xs=>xs.length<=16777216/\k (.int xs.length))
 (ord:=Tw vs λ v=>Jz v λ x=>(Rk x).elim False λ c=>k (.int (c:Nat)))
 (chr:=Tw vs λ v=>Uh v λ i=>0<=i/\i<=1114111/\k (.str ⟨#[i.toNat]⟩))
 (abs:=Tw vs λ v=>Uh v λ i=>k (.int (if i<0 then -i else i)))
 (divmod:=on2 vs λ v u=>Uh v λ x=>Uh u λ y=>y≠0/\Builtin.divisionGoesByPylong x y=false/\k (.tuple [.int (x.fdiv y),.int (x.fmod y)]))
 (int:=Tw vs λ v=>Uh v (λ i=>k (.int i)) <| Jz v λ x=>(PySem.intText? x).elim False λ n=>x.length<=640/\k (.int n))
 (str:=Tw vs λ v=>Uh v λ i=>i.natAbs.log2<1920/\k (.str (toString i)))
 (range:=ite (vs.length=1) (Tw vs λ v=>Uh v λ n=>k (.range 0 n 1)) <| on2 vs λ v u=>Uh v λ a=>Uh u λ b=>k (.range a b 1))
 (list:=Tw vs λ v=>Ez v λ a b c=>Builtin.Range.small a b c=true/\0<=Builtin.Range.rangeSize a b c/\(Builtin.Range.rangeSize a b c).toNat<=2^24/\k (.list (Xi a c (Builtin.Range.rangeSize a b c).toNat)))
 (bytes:=Tw vs λ v=>Vh v λ xs=>(Rh xs).elim False λ ns=>(∀n∈ns,0<=n/\n<256)/\xs.length<=sizeLine/\k (.bytes (ns.map Ij).toArray))
 (all:=Tw vs λ v=>Vh v λ xs=>(Cs xs).elim False λ bs=>k (.bool (bs.all id)))
 (sum:=Tw vs λ v=>Vh v λ xs=>(Rh xs).elim False λ ns=>k (.int ns.sum))
theorem intsAre_of {l:Lay}{h:Heap}{xs:List V}:∀{ws:List Value} {ns:List Int},Y0 l h xs ws->Rh xs=some ns->IntsAre ws ns:=by
 induction xs with
 |nil=>intro ws ns r e;cases r;cases e;exact .nil
 |cons x xs ih=>
  intro ws ns r e;obtain⟨i,n,h0,h1,rfl⟩:=Fw e;obtain⟨w,ws,rfl,a,b⟩:=r.inv;rw[Qde h0]at a;obtain⟨t,rfl⟩:=a;exact .cons _ _ (ih b h1)
theorem Qz2 {l:Lay}{h:Heap}{xs:List V}:∀{ws:List Value} {ns:List Bool},Y0 l h xs ws->Cs xs=some ns->LSm.BoolsAre ws ns:=by
 induction xs with
 |nil=>intro ws ns r e;cases r;cases e;exact .nil
 |cons x xs ih=>
  intro ws ns r e;obtain⟨i,n,h0,h1,rfl⟩:=Fw e;obtain⟨w,ws,rfl,a,b⟩:=r.inv;rw[Qgs h0]at a;cases a;exact .cons _ (ih b h1)
def Il (l:Lay)(h:Heap)(vs:List V):List Value->Prop:=vs.rec (λ ws=>ws=[]) λ x J r ws=>∃w ws',ws=w::ws'/\VD l h x w/\r ws'
section
variable {l:Lay}{h:Heap}{vs:List V}{ws:List Value}{M:List Value->Prop}
theorem Il.inv {x:V}{xs:List V}{ws:List Value}(r:Il l h (x::xs) ws):∃w r,ws=w::r/\VD l h x w/\Il l h xs r:=r
@[elab_as_elim] theorem Il.o0 (r:Il l h vs ws){P:Prop}(q:on0 vs P)(f:P->M []):M ws:=Bg (M:=λ vs=>Il l h vs ws->M ws) q (λ q r=>(show ws=[] from r)▸f q) r
@[elab_as_elim] theorem Il.o1 (r:Il l h vs ws){k:V->Prop}(q:Tw vs k)(f:∀v w,VD l h v w->k v->M [w]):M ws:=
 Rw (M:=λ vs=>Il l h vs ws->M ws) q (λ v q r=>by obtain⟨w,r,rfl,a,e⟩:=r.inv;cases e;exact f v w a q) r
@[elab_as_elim] theorem Il.o2 (r:Il l h vs ws){k:V->V->Prop}(q:on2 vs k)(f:∀v v' w w',VD l h v w->VD l h v' w'->k v v'->M [w,w']):M ws:=
 S8 (M:=λ vs=>Il l h vs ws->M ws) q (λ v v' q r=>by obtain⟨w,r,rfl,a,r⟩:=r.inv;obtain⟨w',r,rfl,b,e⟩:=r.inv;cases e;exact f v v' w w' a b q) r
@[elab_as_elim] theorem Il.o3 (r:Il l h vs ws){k:V->V->V->Prop}(q:on3 vs k)(f:∀v v' v'' w w' w'',VD l h v w->VD l h v' w'->VD l h v'' w''->k v v' v''->M [w,w',w'']):M ws:=
 Zqg (M:=λ vs=>Il l h vs ws->M ws) q (λ v v' v'' q r=>by obtain⟨w,r,rfl,a,r⟩:=r.inv;obtain⟨w',r,rfl,b,r⟩:=r.inv;obtain⟨w'',r,rfl,c,e⟩:=r.inv;cases e;exact f v v' v'' w w' w'' a b c q) r
end
theorem Qve {s:Shared}{o:Obj}{h':Heap}{n:Nat}(hk:∀b x,b∉[s.heap.objs.size]->(s.heap.push o).get? b=some x->h'.get? b=some x):Keeps s {s with heap:=h',toks:=n}:=
 kOf λ b x e=>hk b x (λ hm=>by rw[Q3.mp hm]at e;exact Y6 _ (Qh e)) (Q9 _ e)
section
variable {W:Qj}{c:Cx}{l:Lay}{s:Shared}{k:V->Prop}{E:Value->Shared->Prop}
theorem Qp8 {l:Lay}{h:Heap}{n:Nat}:∀(acc:List Value) (f:Nat->Int),acc.length=n->(∀(i:Nat) (v:Value),acc[i]?=some v->∃t,v=Value.int (f i) t)->Y0 l h ((List.range n).map λ i=>V.int (f i)) acc:=by
 induction n with
 |zero=>intro acc f e _;rw[Y8.mp e];exact .nil
 |succ n ih=>
  intro acc f e hf;cases acc with
  |nil=>cases e
  |cons y ys=>
   obtain⟨t,rfl⟩:=hf 0 y rfl;rw[List.range_succ_eq_map,Qu,Z3];exact .cons (.int _ _) (ih ys (λ i=>f (i+1)) (Nat.succ.inj e) λ i v hv=>hf (i+1) v hv)
theorem Qyt {b:B1}{vs:List V}{ws:List Value}(hh:c.A.handled=none)
  (low:∀a,l.N a->∃o,s.heap.get? a=some o) (hv:Il l s.heap vs ws) (h:b1V b vs k):Gv W c (call b.val ws) l s k:=by
 have fn:=Vk low;have tk:=λ n=>Xw s n;cases b with
 |len=>
  exact hv.o1 h λ v w ha h=>ha.vs h (λ x t h Q E hQ=>by exact len_str (by lia) (hQ _ _ _ (tk _) (.int _ _) h.2)) λ h=>
   ha.vl h (λ xs a i h1 r1 J h Q E hQ=>by rw[r1.length]at h;exact call_len_list h1.isList (by rw[Z4];lia) (hQ _ _ _ (tk _) (.int _ _) h.2)) λ h=>
   ha.vt h (λ xs a i J h1 r1 h Q E hQ=>by rw[r1.length]at h;exact len_tuple h1 (by rw[Z4];lia) (hQ _ _ _ (tk _) (.int _ _) h.2)) False.elim
 |ord=>
  exact hv.o1 h λ v w ha h=>ha.vs h (λ x t h Q E hQ=>Uu h λ c hc h=>by cases Du hc;exact P.ord_of_char (hQ _ _ _ (tk _) (.int _ _) h)) False.elim
 |chr=>
  exact hv.o1 h λ v w ha h=>ha.vi h (λ i t h Q E hQ=>by exact P.chr_of_int (Bool.or_eq_false_iff.mpr ⟨Z5 (Int.not_lt.mpr h.1),Z5 (Int.not_lt.mpr h.2.1)⟩) (hQ _ _ _ (tk _) (.str _ _) h.2.2)) False.elim
 |abs=>
  exact hv.o1 h λ v w ha h=>ha.vi h (λ i t h Q E hQ=>by exact call_abs_int λ u n=>hQ _ _ _ (tk _) (.int _ _) h) False.elim
 |divmod=>
  exact hv.o2 h λ v v' w w' ha hb h=>ha.vi h (λ x t h=>hb.vi h (λ y u h Q E hQ=>by
   exact divmod_int h.1 (hQ _ _ _ (My _ _ _) (.tuple (items:=[.int _ s.toks,.int _ (s.toks+1)]) fn (Vx _ _) (.cons (.int _ _) (.cons (.int _ _) .nil))) h.2.2) (.inl h.2.1)) False.elim) False.elim
 |int=>
  exact hv.o1 h λ v w ha h=>ha.vi h (λ i t h Q E hQ=>by exact call_int_int (hQ _ _ _ (Yw _) (.int _ _) h)) λ h=>ha.vs h (λ x t h Q E hQ=>Uu h λ n e h=>by exact KIN.call_text e h.1 (hQ _ _ _ (tk _) (.int _ _) h.2)) False.elim
 |str=>
  exact hv.o1 h λ v w ha h=>ha.vi h (λ i t h Q E hQ=>by exact P.str_of_int h.1 (hQ _ _ _ (tk _) (.str _ _) h.2)) False.elim
 |range=>
  exact Qq9 (show ite (vs.length=1) _ _ from h) (λ J h=>hv.o1 h λ v w ha h=>ha.vi h (λ i t h Q E hQ=>by exact call_range_1 (hQ _ _ _ (My _ _ _) (.range fn (IsRange.new ..)) h)) False.elim) λ h=>
   hv.o2 h λ v v' w w' ha hb h=>ha.vi h (λ x t h=>hb.vi h (λ y u h Q E hQ=>by exact call_range_2 (hQ _ _ _ (My _ _ _) (.range fn (IsRange.new ..)) h)) False.elim) False.elim
 |list=>
  exact hv.o1 h λ v w ha h=>ha.vr h (λ a b c' r t u v J hr h Q E hQ=>by
   exact call_list_range hh hr h.1 (n:=(Builtin.Range.rangeSize a b c').toNat) (by lia) h.2.2.1 λ h' tk acc cc hk hS hacc=>hQ _ _ _ (kOf hk) (.list (items:=acc.toList) fn ⟨cc,by rw[Array.toArray_toList];exact hS⟩
    (Qp8 _ (λ i=>a+(i:Nat)*c') (by rw[Zg];exact hacc.1) λ i v hv=>hacc.2 i v (by rw[<- Array.getElem?_toList];exact hv))) h.2.2.2) False.elim
 |bytes=>
  exact hv.o1 h λ v w ha h=>ha.vl h (λ xs a i h1 r1 J h Q E hQ=>Uu h λ ns e h=>by
   exact call_bytes_ints h1.isList (intsAre_of r1 e) h.1 (by rw[<- r1.length];exact h.2.1) hh λ h' t tk hk=>hQ _ _ _ (kOf hk) (.bytes _ _) h.2.2) False.elim
 |sum=>
  exact hv.o1 h λ v w ha h=>ha.vl h (λ xs a i h1 r1 J h Q E hQ=>Uu h λ ns e h=>by
   have hi:=intsAre_of r1 e;have hl:=h1.isList;obtain⟨xs,hx⟩:=hi.allInts.items;have hn:numsOf i.toArray.toList=ns:=hi.numsOf;rw[hx]at hl hn;rw[nums_intItems]at hn;refine sum_intListG hh hl λ h' tk t' hk=>?_;rw[preSum_eq,List.take_of_length_le (by simp),hn];exact hQ _ _ _ (kOf hk) (.int _ _) h) False.elim
 |all=>
  exact hv.o1 h λ v w ha h=>ha.vl h (λ xs a i h1 r1 J h Q E hQ=>Uu h λ bs e h=>by
   have hb:=Qz2 r1 e;have hlt:a<s.heap.objs.size:=by obtain⟨_,e⟩:=h1;exact Qh e
   refine call_all_walk (wpAny_pyIter_list h1.isList ⟨s.heap.objs.size,[s.heap.objs.size,a],[s.heap.objs.size],i.toArray.size,_,_,λ i=>(bs[i]?).getD true,rfl,Walks.list (A:=c.A.in1) hh _ a (Zj hlt) i.toArray,
    ⟨⟨_,Qp _ rfl,rfl,rfl⟩,h1.isList.push _⟩,λ i v s' Q' E' hP hQ=>?_,λ h' tk hk=>?_⟩)
   .obtain⟨b,e,rfl⟩:=hb.get i v (by rw[<- Zh];exact hP);dsimp only at hQ;rw[e]at hQ;exact wpAny_truthy_bool hQ
   .have e:((List.range i.toArray.size).all λ i=>(bs[i]?).getD true)=bs.all id:=by rw[Z4,hb.length];exact LSm.range_all bs
    rw[e];exact hQ _ _ _ (Qve hk) (.bool _) h) False.elim
end
noncomputable def Z8 (es:List Expr):Bool:=es.all λ e=>!(e.ctorIdx==22)
theorem B8 {e:Expr}{r:List Expr}{env:Env}(h:Z8 (e::r)=true):starEach (e::r) env=(false,eval e env)::starEach r env/\Z8 r=true:=by
 have h:=Qe.mp h;refine⟨?_,h.2⟩
 cases e <;> first |rfl |cases h.1
theorem Y5 {e:Expr}{r:List Expr}{env:Env}{pos:Pos}(h:Z8 (e::r)=true):backTo pos (starEach (e::r) env)=(false,eval e env)::backTo pos (starEach r env):=by
 rw[(B8 h).1];rfl
theorem Pl {env:Env}{pos:Pos}:backTo pos (starEach [] env)=[]:=rfl
theorem Rp {env:Env}{pos:Pos}{es:List Expr}(h:Z8 es=true):(backTo pos (starEach es env)).any (·.1)=false:=by
 induction es with
 |nil=>rfl
 |cons e r ih=>rw[Y5 h];exact ih (B8 (env:=env) h).2
theorem Bn {env:Env}{pos:Pos}{es:List Expr}(h:Z8 es=true):(backTo pos (starEach es env)).all (λ x=>!x.1)=true:=by
 induction es with
 |nil=>rfl
 |cons e r ih=>rw[Y5 h];exact ih (B8 (env:=env) h).2
def Ab (W:Qj)(c:Cx)(es:List Expr)(loc:Loc)(st:Q4)(k:List V->Prop):Prop:=
 ∀(l:Lay) (s:Shared) (pos:Pos) (Q:List Value->Shared->Prop) (E:Value->Shared->Prop),R c l loc st s->
  (∀vs ws s',Keeps s s'->s.toks<=s'.toks->Y0 l s'.heap vs ws->k vs->Q ws s')->wpAny (model W.prog W.w) c.A (spliced (backTo pos (starEach es c.env))) Q E s
theorem Nw {W:Qj}{c:Cx}{loc:Loc}{st:Q4}{k:List V->Prop}(h:k []):Ab W c [] loc st k:=λ l s pos Q E J hQ=>
 spliced_nil (hQ [] [] s (Yw s) (Q2 _) .nil h)
theorem Kt {W:Qj}{c:Cx}{loc:Loc}{st:Q4}{e:Expr}{r:List Expr}{k:List V->Prop}(hs:Z8 (e::r)=true)
  (h:Uv W c e loc st λ v=>Ab W c r loc st λ vs=>k (v::vs)):Ab W c (e::r) loc st k:=λ l s pos Q E hR hQ=>by
 rw[Y5 hs];refine spliced_cons (h l s _ E hR λ v w s1 k1 t1 v1 h1=>?_);refine h1 l s1 pos _ E (hR.keeps k1 t1) λ vs ws s2 k2 t2 v2 h2=>?_;exact hQ (v::vs) (w::ws) s2 (Qi k1 k2) (Q1 t1 t2) (.cons (v1.sub (Yh k2)) v2) h2
theorem Y0.drf {c:Cx}{l:Lay}{loc:Loc}{st:Q4}{s:Shared}(x:R c l loc st s){vs:List V}:∀{ws:List Value},Y0 l s.heap vs ws->Il l s.heap (vs.map (Mine.drf st)) ws:=by
 induction vs with
 |nil=>exact id
 |cons v vs ih=>intro ws r;obtain⟨w,ws,e,a,b⟩:=r.inv;exact⟨w,ws,e,x.drf a,ih b⟩
section
variable {M:Model}{A:Around}{E:Value->Shared->Prop}{s:Shared}{env:Env}{pos:Pos}{Q:Value->Shared->Prop}
theorem Rf {f:Value}{es:List Expr}(hs:Z8 es=true){Q:Args->Shared->Prop}(h:wpAny M A (spliced (backTo pos (starEach es env))) (λ ws s1=>Q ⟨ws,[]⟩ s1) E s):
  wpAny M A (evalArgs f true (backTo pos (starEach es env)) []) Q E s:=by
 cases es with
 |nil=>
  unfold evalArgs;show wpAny M A (spliced [] >>=_) Q E s;refine Q0 (wpAny_mono h (λ vs s' h'=>?_) λ J J x=>x);refine Z1 ?_;exact Q0 (Q5 (Q0 (Q5 (Q5 h'))))
 |cons e r=>rw[Y5 hs]at h |-;exact evalArgs_plain h
theorem Uk {id:String}{first:List Value}{es:List Expr}(hs:Z8 es=true)(h:wpAny M A (spliced (backTo pos (starEach es env))) (λ ws s1=>wpAny M A (call (.builtin id) (first++ws)) Q E s1) E s):
  wpAny M A (callWith pos (.builtin id) first (backTo pos (starEach es env)) []) Q E s:=callWith_builtin (Rp hs) (Rf hs h)
theorem Fx {T:String}{first:List Value}{es:List Expr}(hs:Z8 es=true)(h:wpAny M A (spliced (backTo pos (starEach es env))) (λ ws s1=>wpAny M A (call (.type T) (first++ws)) Q E s1) E s):
  wpAny M A (callWith pos (.type T) first (backTo pos (starEach es env)) []) Q E s:=PySem.callWith_type (Rp hs) (Rf hs h)
end
section
open Builtin Builtin.Str
noncomputable def Gu (x y:Str)(i j:Int):Int:=(occurrences x y (fromIndex x.length i) (min (fromIndex x.length j) x.length) 1).rec (-1) λ k J J=>(k:Int)
theorem Qqx (x y:Str)(i j:Int)(t u v v':Tok):Gives («str.find» ⟨[.str x t,.str y u,.int i v,.int j v'],[]⟩) (.int (Gu x y i j)):=by
 delta Gu
 show Gives (match occurrences x y (fromIndex x.length i) (min (fromIndex x.length j) x.length) 1 with |k::_=>retInt k |[]=>(do rule "str.find.not-found";retInt (-1))) _
 cases occurrences x y (fromIndex x.length i) (min (fromIndex x.length j) x.length) 1 with
 |nil=>exact .rule (.of_eq rfl)
 |cons k _=>exact .of_eq rfl
inductive M1 where
 |find |count |startswith |endswith |split |join |lower |index
noncomputable def M1.id:M1->String
 |.find=>"str.find"
 |.count=>"str.count"
 |.startswith=>"str.startswith"
 |.endswith=>"str.endswith"
 |.split=>"str.split"
 |.join=>"str.join"
 |.lower=>"str.lower"
 |.index=>"str.index"
noncomputable def M1.name:M1->Str
 |.find=>"find"
 |.count=>"count"
 |.startswith=>"startswith"
 |.endswith=>"endswith"
 |.split=>"split"
 |.join=>"join"
 |.lower=>"lower"
 |.index=>"index"
noncomputable def m1s:List (Str×M1):=[("find",.find),("count",.count),("startswith",.startswith),("endswith",.endswith),("split",.split),("join",.join),("lower",.lower),("index",.index)]
theorem Qdb {x:Str}{b:M1}(e:m1s.lookup x=some b):x=b.name:=eq_of_beq (Qf.mp (show(m1s.all λ p=>p.1==p.2.name)=true by decide +kernel) _ (Yn e))
theorem Qkd (b:M1):Slot "str" b.name b.id/\typeOf (.builtin b.id)=pure (.type "method_descriptor"):=by
 cases b
 .exact⟨F.slot_str_find,F.type_str_find⟩
 .exact⟨F.slot_str_count,F.type_str_count⟩
 .exact⟨F.slot_str_startswith,F.type_str_startswith⟩
 .exact⟨F.slot_str_endswith,F.type_str_endswith⟩
 .exact⟨F.slot_str_split,F.type_str_split⟩
 .exact⟨F.slot_str_join,F.type_str_join⟩
 .exact⟨F.slot_str_lower,F.type_str_lower⟩
 .exact⟨F.slot_str_index,F.type_str_index⟩
noncomputable def Jr:List V->Option (List Str):=Qys Qnc
theorem D3 {l:Lay}{h:Heap}{xs:List V}:∀{ws:List Value} {ns:List Str},Y0 l h xs ws->Jr xs=some ns->StrsAre ws ns:=by
 induction xs with
 |nil=>intro ws ns r e;cases r;cases e;exact .nil
 |cons x xs ih=>
  intro ws ns r e;obtain⟨i,n,h0,h1,rfl⟩:=Fw e;obtain⟨w,ws,rfl,a,b⟩:=r.inv;rw[Qkq h0]at a;obtain⟨t,rfl⟩:=a;exact .cons _ _ (ih b h1)
theorem Qce {l:Lay}{h:Heap}{xs:List V}:∀{ws:List Value} {ns:List Str},Y0 l h xs ws->Jr xs=some ns->∃ps:List (Str×Tok),ws=strValues ps/\ps.map (·.1)=ns:=by
 induction xs with
 |nil=>intro ws ns r e;cases r;cases e;exact⟨[],rfl,rfl⟩
 |cons x xs ih=>
  intro ws ns r e;obtain⟨i,n,h0,h1,rfl⟩:=Fw e;obtain⟨w,ws,rfl,a,b⟩:=r.inv;rw[Qkq h0]at a;obtain⟨t,rfl⟩:=a;obtain⟨ps,rfl,rfl⟩:=ih b h1;exact⟨(i,t)::ps,rfl,rfl⟩
theorem Ou {l:Lay}{h:Heap}(ps:List (Str×Tok)):Y0 l h ((ps.map (·.1)).map V.str) (strValues ps):=by
 induction ps with
 |nil=>exact .nil
 |cons p ps ih=>exact .cons (.str _ _) ih
def m1V (b:M1)(o:V)(vs:List V)(k:V->Prop):Prop:=Jz o λ x=>
 b.rec (motive:=λ J=>Prop) (find:=ite (vs.length=1) (Tw vs λ v=>Jz v λ y=>k (.int (Txt.find x y))) <| ite (vs.length=2) (on2 vs λ v u=>Jz v λ y=>Uh u λ i=>k (.int (Txt.find3 x y i))) <|
  on3 vs λ v u w=>Jz v λ y=>Uh u λ i=>Uh w λ j=>k (.int (Gu x y i j)))
 (count:=Tw vs λ v=>Jz v λ y=>k (.int (Txt.count x y))) (startswith:=Tw vs λ v=>Jz v λ y=>k (.bool (Txt.startswith x y))) (endswith:=Tw vs λ v=>Jz v λ y=>k (.bool (Txt.endswith x y)))
 (split:=Tw vs λ v=>Jz v λ y=>(y.length==0)=false/\x.length<=sizeLine/\(partsBetween x (occurrences x y 0 x.length (x.length+1)) y.length).length<=sizeLine/\k (.list ((Txt.split x y).map V.str)))
 (join:=Tw vs λ v=>Vh v λ xs=>(Jr xs).elim False λ ts=>JoinOk x ts=true/\k (.str (Txt.join x ts))) (lower:=on0 vs (tooLong (Txt.lower x).length=false/\k (.str (Txt.lower x))))
 (index:=Tw vs λ v=>Jz v λ y=>∃i rest,occurrences x y 0 x.length 1=i::rest/\k (.int (i:Nat)))
section
variable {prog:Program}{w:World}{A:Around}{E:Value->Shared->Prop}{s:Shared}{x y:Str}{t u:Tok}{Q:Value->Shared->Prop}
theorem D6 (hy:(y.length==0)=false)(hsz:x.length<=sizeLine)(hsz2:(partsBetween x (occurrences x y 0 x.length (x.length+1)) y.length).length<=sizeLine)
  (hq:∀(ps:List (Str×Tok)) h' n,ps.map (·.1)=Txt.split x y->Sub s.heap h'->h'.PlainList s.heap.objs.size (strValues ps).toArray->Q (.ref s.heap.objs.size) {s with heap:=h',toks:=n}):
  wpAny (model prog w) A (call (.builtin "str.split") [.str x t,.str y u]) Q E s:=by
 have one:Txt.split x y=[x]->wants Q E (.ok (.ret (.ref s.heap.objs.size))) {s with heap:=s.heap.push {cls:=.type "list",data:=.seq (strValues [(x,t)]).toArray}}:=λ e=>
  hq [(x,t)] _ s.toks e.symm (Yo _ _) ⟨_,Qp _ rfl⟩
 by_cases h1:(decide (x.length<y.length)||decide (strKind x<strKind y))=true
 .exact call_meets F.slot_str_split (typeIs_str _ _ _) F.entry_str_split (F.args_str_split_2 _ _) (meets_str_split_cannot_occur x y t u h1) (one (by unfold Txt.split;rw[if_pos h1]))
 .have h1':=Bool.eq_false_iff.mpr h1;by_cases hf:(occurrences x y 0 x.length (x.length+1)).isEmpty=true
  .exact call_meets F.slot_str_split (typeIs_str _ _ _) F.entry_str_split (F.args_str_split_2 _ _) (meets_str_split_not_found x y t u h1' hy hf) (one (by unfold Txt.split;rw[if_neg h1,if_pos hf]))
  .have hf':=Bool.eq_false_iff.mpr hf;refine call_meets F.slot_str_split (typeIs_str _ _ _) F.entry_str_split (F.args_str_split_2 _ _) (meets_str_split_sep x y t u h1' hy hf' hsz hsz2) ?_;rw[strsFrom_eq];exact hq (numbered s.toks _) _ _ ((numbered_texts _ _).trans (by unfold Txt.split;rw[if_neg h1,if_neg hf])) (Yo _ _) ⟨_,Qp _ rfl⟩
end
theorem Qvr {W:Qj}{c:Cx}{l:Lay}{s:Shared}{b:M1}{x:Str}{t:Tok}{vs:List V}{ws:List Value}{k:V->Prop}
  (low:∀a,l.N a->∃o,s.heap.get? a=some o) (hv:Il l s.heap vs ws) (h:m1V b (.str x) vs k):Gv W c (call (.builtin b.id) (.str x t::ws)) l s k:=by
 have fn:=Vk low;have tk:=λ n=>Xw s n;cases b with
 |find=>
  exact Qq9 (show ite (vs.length=1) _ _ from h) (λ J h=>hv.o1 h λ v w ha h=>ha.vs h (λ y u h Q E hQ=>by exact SC.find (hQ _ _ _ (tk _) (.int _ _) h)) False.elim) λ h=>
   Qq9 h (λ J h=>hv.o2 h λ v v' w w' ha hb h=>ha.vs h (λ y u h=>hb.vi h (λ i u' h Q E hQ=>by exact SC.find3 (hQ _ _ _ (tk _) (.int _ _) h)) False.elim) False.elim) λ h=>
   hv.o3 h λ v v' v'' w w' w'' ha hb hc h=>ha.vs h (λ y u h=>hb.vi h (λ i u' h=>hc.vi h (λ j o h Q E hQ=>by
    exact call_gives F.slot_str_find (typeIs_str _ _ _) F.entry_str_find (F.args_str_find_4 _ _ _ _) (Qqx _ _ _ _ _ _ _ _) (hQ _ _ _ (tk _) (.int _ _) h)) False.elim) False.elim) False.elim
 |count=>exact hv.o1 h λ v w ha h=>ha.vs h (λ y u h Q E hQ=>by exact SC.count (hQ _ _ _ (tk _) (.int _ _) h)) False.elim
 |startswith=>exact hv.o1 h λ v w ha h=>ha.vs h (λ y u h Q E hQ=>by exact SC.startswith (hQ _ _ _ (Yw _) (.bool _) h)) False.elim
 |endswith=>exact hv.o1 h λ v w ha h=>ha.vs h (λ y u h Q E hQ=>by exact SC.endswith (hQ _ _ _ (Yw _) (.bool _) h)) False.elim
 |split=>
  exact hv.o1 h λ v w ha h=>ha.vs h (λ y u h Q E hQ=>by
   exact D6 h.1 h.2.1 h.2.2.1 λ ps h' n e1 e2 e3=>hQ _ _ _ (kOf e2) (.list (items:=strValues ps) fn e3 (by rw[<- e1];exact Ou ps)) h.2.2.2) False.elim
 |join=>
  exact hv.o1 h λ v w ha h=>ha.vl h (λ xs a i h1 r1 J h Q E hQ=>Uu h λ ts e1 h=>by
   obtain⟨ps,rfl,e⟩:=Qce r1 e1;exact SC.join h1.isList e h.1 λ t' n=>hQ _ _ _ (tk _) (.str _ _) h.2) False.elim
 |lower=>exact hv.o0 h λ h Q E hQ=>by exact SC.lower h.1 (hQ _ _ _ (tk _) (.str _ _) h.2)
 |index=>exact hv.o1 h λ v w ha h=>ha.vs h (λ y u h Q E hQ=>by obtain⟨i,rest,e,h⟩:=h;exact SC.index e (hQ _ _ _ (tk _) (.int _ _) h)) False.elim
end
theorem Re {h:Heap}{a:Addr}{m:Str->Option Value}{xs:Array Value}(hn:h.Ns a m)(hl:h.PlainList a xs):False:=by
 obtain⟨o,es,ep,ho,hd,_⟩:=hn;obtain⟨n,hl⟩:=hl;rw[ho]at hl;cases hl;cases hd
theorem H9 {h:Heap}{a:Addr}{m:Str->Option Value}{v:Option Value}(hn:h.Ns a m)(hl:h.IsCell a v):False:=by
 obtain⟨o,es,ep,ho,hd,_⟩:=hn;obtain⟨o',ho',hd'⟩:=hl;rw[ho]at ho';cases ho';rw[hd]at hd';cases hd'
theorem VR.same {l:Lay}{a:Addr}{h h':Heap}(hs:Heap.SameBut a h h')(hN:l.N a){v:V}{w:Value}(x:VR l h v w):VR l h' v w:=
 x.to (λ J J e=>e) (λ J J e=>e) λ b n J=>⟨n,λ o e=>(hs.2 b λ q=>n (q▸hN)).trans e⟩
theorem Y0.same {l:Lay}{a:Addr}{h h':Heap}(hs:Heap.SameBut a h h')(hN:l.N a){v:List V}{w:List Value}(x:Y0 l h v w):Y0 l h' v w:=
 x.to (λ J J e=>e) (λ J J e=>e) λ b n J=>⟨n,λ o e=>(hs.2 b λ q=>n (q▸hN)).trans e⟩
section
variable {W:Qj}{c:Cx}{l:Lay}{loc loc':Loc}{st:Q4}{s:Shared}
theorem Mx (O:Ok W c)(hR:R c l loc st s){x:Str}{v:V}{w:Value}(hk:c.env.kindOf x=some .local)(hb:x∈c.bnd->∃y t,w=.str y t/\t≠0/\t<s.toks)(hv:VR l s.heap v w)
  (hl:∀y,loc'.lookup y=if y=x then some v else loc.lookup y) {Q:Unit->Shared->Prop} {E:Value->Shared->Prop}
  (hQ:∀h',Heap.SameBut c.env.locals s.heap h'->R c l loc' st {s with heap:=h',toks:=s.toks+1 }->Q () {s with heap:=h',toks:=s.toks+1}):
  wpAny (model W.prog W.w) c.A (storeName c.env x w) Q E s:=by
 obtain⟨ml,hn,hL,hB⟩:=hR.names;refine wpAny_storeName_local hk hn (λ h' hn' hs=>hQ h' hs ?_) (by rw[O.ek];rfl);have other:∀b o,b≠c.env.locals->s.heap.get? b=some o->h'.get? b=some o:=λ b o hb e=>(hs.2 b hb).trans e;refine⟨?_,⟨_,hn',?_,?_⟩,?_,?_,Nat.lt_succ_of_lt hR.tk,hR.loN,hR.clN,hR.owN⟩
 .obtain⟨m,F⟩:=hR.fr
  rcases O.place with e |⟨e,e0⟩
  .exact⟨_,F.set (e▸hn') (e▸hs)⟩
  .exact⟨m,F.to (F.ns.sameBut hs (Ne.symm e)) λ b J o q=>other b o (λ p=>by rw[p,e0]at q;cases q)⟩
 .intro y u e;rw[hl]at e;by_cases hy:y=x
  .subst hy;rw[if_pos rfl]at e;cases e;exact⟨w,hv.same hs hR.loN,.inl ⟨hk,by simp⟩⟩
  .rw[if_neg hy]at e;obtain⟨w',h1,h2⟩:=hL y u e;refine⟨w',h1.same hs hR.loN,?_⟩
   rcases h2 with⟨a,b⟩ |⟨a,ca,b,hc⟩
   .exact .inl ⟨a,by simp[hy,b]⟩
   .refine .inr ⟨a,ca,b,?_⟩;obtain⟨o,ho,hd⟩:=id hc;exact⟨o,other ca o (λ p=>H9 hn (p▸hc)) ho,hd⟩
 .intro y hy u e;rw[hl]at e;by_cases hyx:y=x
  .subst hyx;obtain⟨z,t,h1,h2,h3⟩:=hb hy;exact⟨z,t,by simp[h1],h2,Nat.lt_succ_of_lt h3⟩
  .rw[if_neg hyx]at e;obtain⟨z,t,h1,h2,h3⟩:=hB y hy u e;exact⟨z,t,by simp[hyx,h1],h2,Nat.lt_succ_of_lt h3⟩
 .intro n xs e;obtain⟨a,items,h1,h2,h3⟩:=hR.lists n xs e;refine⟨a,items,h1,?_,h3.same hs hR.loN⟩;obtain⟨m,ho⟩:=id h2;exact⟨m,other a _ (λ p=>Re hn (p▸h2)) ho⟩
 .intro a ha;by_cases q:a=c.env.locals
  .subst q;obtain⟨o,_,_,ho,_⟩:=hn';exact⟨o,ho⟩
  .obtain⟨o,ho⟩:=hR.low a ha;exact⟨o,other a o q ho⟩
end
def Ct (kd:Str->Option NameKind)(x:Str)(v:V)(loc:Loc)(k:Loc->Prop):Prop:=X5 (loc.lookup x).isNone (X5 (kd x==some .local) (k ((x,v)::loc)))
def Wz (kd:Str->Option NameKind)(ts:List Expr)(vs:List V)(loc:Loc)(k:Loc->Prop):Prop:=
 ts.rec (motive:=λ J=>List V->Loc->Prop) (λ vs loc=>on0 vs (k loc)) (λ t J r vs loc=>vs.rec False λ v vs J=>Tv t λ x J=>Ct kd x v loc λ loc=>r vs loc) vs loc
def Vn (kd:Str->Option NameKind)(t:Expr)(v:V)(loc:Loc)(k:Loc->Prop):Prop:=
 Tv t (λ x J=>Ct kd x v loc k) <| Pk t λ ts J J=>Te v λ vs=>X5 (decide (vs.length<=8)) (Wz kd ts vs loc k)
theorem Ro {loc:Loc}{x:Str}{v:V}(y:Str):((x,v)::loc).lookup y=if y=x then some v else loc.lookup y:=by
 rw[Qz];by_cases h:y=x
 .rw[if_pos h,Zr.mpr h]
 .rw[if_neg h,Ql.mpr h]
def KB (a:Addr)(s s':Shared):Prop:=∃h' tk,s'={s with heap:=h',toks:=tk }/\∀b o,b≠a->s.heap.get? b=some o->h'.get? b=some o
theorem KB.refl {a:Addr}{s:Shared}:KB a s s:=⟨s.heap,s.toks,rfl,λ J J J e=>e⟩
theorem KB.trans {a:Addr}{s s' s'':Shared}(x:KB a s s')(y:KB a s' s''):KB a s s'':=by
 obtain⟨h1,t1,rfl,k1⟩:=x;obtain⟨h2,t2,rfl,k2⟩:=y;exact⟨h2,t2,rfl,λ b o n e=>k2 b o n (k1 b o n e)⟩
theorem KB.of {a:Addr}{s s':Shared}(x:Keeps s s'):KB a s s':=by obtain⟨h1,t1,rfl,k1⟩:=x;exact⟨h1,t1,rfl,λ b o J e=>k1 b o e⟩
theorem KB.get {a b:Addr}{s s':Shared}(x:KB a s s'){o:Obj}(n:b≠a)(e:s.heap.get? b=some o):s'.heap.get? b=some o:=by obtain⟨h1,t1,rfl,k1⟩:=x;exact k1 b o n e
theorem KB.vrs {l:Lay}{a:Addr}{s s':Shared}(x:KB a s s')(hN:l.N a){v:List V}{w:List Value}(r:Y0 l s.heap v w):Y0 l s'.heap v w:=
 r.to (λ J J e=>e) (λ J J e=>e) λ b n J=>⟨n,λ o e=>x.get (λ q=>n (q▸hN)) e⟩
section
variable {W:Qj}{c:Cx}{l:Lay}{st:Q4}
theorem Mt (O:Ok W c)(hbn:c.bnd=[]){loc:Loc}{s:Shared}(hR:R c l loc st s){x:Str}{px:Pos}{v:V}{w:Value}{k:Loc->Prop}(hv:VR l s.heap v w)(h:Ct c.env.kindOf x v loc k){Q:Unit->Shared->Prop}{E:Value->Shared->Prop}
  (hQ:∀loc' s',KB c.env.locals s s'->R c l loc' st s'->k loc'->Q () s'):wpAny (model W.prog W.w) c.A (assign (.Name x px) c.env w) Q E s:=
 Zl h λ J h=>Zl h λ h2 h=>wpAny_assign_Name (Mx O hR (eq_of_beq h2) (λ q=>by rw[hbn]at q;cases q) hv Ro λ h' hs hR'=>hQ _ _ ⟨h',_,rfl,λ b o n e=>(hs.2 b n).trans e⟩ hR' h)
theorem Ix (O:Ok W c)(hbn:c.bnd=[])(ts:List Expr):∀(vs:List V) (ws:List Value) {loc:Loc} {s:Shared} {k:Loc->Prop},R c l loc st s->Y0 l s.heap vs ws->Wz c.env.kindOf ts vs loc k->∀{Q:Unit->Shared->Prop} {E:Value->Shared->Prop},
  (∀loc' s',KB c.env.locals s s'->R c l loc' st s'->k loc'->Q () s')->wpAny (model W.prog W.w) c.A (assignInOrder ((assignEach ts c.env).map (·.2)) ws) Q E s:=by
 induction ts with
 |nil=>
  intro vs ws loc s k hR hv h Q E hQ;refine Bg (M:=λ vs=>Y0 l s.heap vs ws->_) h (λ h hv=>?_) hv;cases hv;exact Q5 (hQ _ _ KB.refl hR h)
 |cons t ts ih=>
  intro vs ws loc s k hR hv h Q E hQ;cases vs with
  |nil=>exact h.elim
  |cons v vs=>
   obtain⟨w,ws,rfl,a,b⟩:=hv.inv;refine U2 h (λ x px h=>?_) False.elim;show wpAny _ _ (assignInOrder (assign (.Name x px) c.env::(assignEach ts c.env).map (·.2)) (w::ws)) _ _ _;exact Q0 (Z1 (Mt O hbn hR a h λ loc' s' k1 hR' h'=>ih _ _ hR' (k1.vrs hR.loN b) h' λ loc'' s'' k2 hR'' h''=>hQ _ _ (k1.trans k2) hR'' h''))
theorem Pt {kd:Str->Option NameKind}{env:Env}{k:Loc->Prop}(ts:List Expr):∀(vs:List V) {loc:Loc},Wz kd ts vs loc k->ts.length=vs.length/\(assignEach ts env).findIdx? (·.1)=none/\(assignEach ts env).length=ts.length:=by
 induction ts with
 |nil=>intro vs loc h;exact Bg h λ J=>⟨rfl,rfl,rfl⟩
 |cons t ts ih=>
  intro vs loc h;cases vs with
  |nil=>exact h.elim
  |cons v vs=>
   refine U2 h (λ x px h=>Zl h λ J h=>Zl h λ J h=>?_) False.elim;obtain⟨e1,e2,e3⟩:=ih vs h;refine⟨Zm Nat.succ e1,?_,Zm Nat.succ e3⟩;show List.findIdx? (·.1) ((false,_)::assignEach ts env)=none;rw[List.findIdx?_cons,e2];rfl
theorem Qz3 (O:Ok W c)(hbn:c.bnd=[]){loc:Loc}{s:Shared}(hR:R c l loc st s){t:Expr}{v:V}{w:Value}{k:Loc->Prop}(hv:VR l s.heap v w)(h:Vn c.env.kindOf t v loc k){Q:Unit->Shared->Prop}{E:Value->Shared->Prop}
  (hQ:∀loc' s',KB c.env.locals s s'->R c l loc' st s'->k loc'->Q () s'):wpAny (model W.prog W.w) c.A (assign t c.env w) Q E s:=by
 delta Vn at h
 refine U2 h (λ x px h=>Mt O hbn hR hv h hQ) λ h=>Wq h (λ ts a b h=>(VD.of hv).vt h (λ vs ad items nN ht r h=>Zl h λ J h=>?_) False.elim) False.elim;obtain⟨e1,e2,e3⟩:=Pt (env:=c.env) ts vs h;rw[arm_assign_Tuple];refine Q0 (wpAny_standAt ?_)
 delta unpack
 rw[e2,e3,show ts.length=items.toArray.size from e1.trans r.length];refine Q0 (Z1 (wpAny_unpackItems_tuple O.handled ht λ h' he=>?_))
 have kp:Keeps s {s with heap:=h'}:=⟨h',s.toks,rfl,λ b o e=>he b o (Zj (Qh e)) e⟩
 exact Ix O hbn ts vs items (hR.keeps kp (Q2 _)) (r.sub (Yh kp)) h λ loc' s' k1 hR' h'=>hQ _ _ (KB.trans (KB.of kp) k1) hR' h'
end
def Bu (ts:Expr->Loc->(Bool->Prop)->Prop)(es:List Expr)(loc:Loc)(k:Bool->Prop):Prop:=es.rec (k true) λ c J r=>ts c loc λ b=>cond b r (k false)
noncomputable def Bb (env:Env)(ifs:List Expr)(ok:Bool):Sem Bool:=
 forIn ifs ok λ c r=>if r=true then do let ok <- isTrue c env (eval c env);pure (ForInStep.yield ok) else pure (ForInStep.yield r)
theorem Ni {M:Model}{A:Around}{env:Env}{Q:Bool->Shared->Prop}{E:Value->Shared->Prop}{s:Shared}(cs:List Expr)(h:Q false s):wpAny M A (Bb env cs false) Q E s:=by
 induction cs with
 |nil=>exact Q5 h
 |cons c cs ih=>delta Bb;rw[List.forIn_cons];exact Q0 (Q5 ih)
theorem Na {W:Qj}{c:Cx}{l:Lay}{loc:Loc}{st:Q4}{ts:Expr->Loc->(Bool->Prop)->Prop}(hts:∀e loc k,ts e loc k->Ps W c e loc st k)(cs:List Expr){k:Bool->Prop}:∀{s:Shared},R c l loc st s->Bu ts cs loc k->
  ∀{Q:Bool->Shared->Prop} {E:Value->Shared->Prop},(∀b s',Keeps s s'->s.toks<=s'.toks->k b->Q b s')->wpAny (model W.prog W.w) c.A (Bb c.env cs true) Q E s:=by
 induction cs with
 |nil=>intro s hR h Q E hQ;exact Q5 (hQ _ _ (Yw _) (Q2 _) h)
 |cons e cs ih=>
  intro s hR h Q E hQ
  delta Bb
  rw[List.forIn_cons];refine Q0 (Q0 (hts e loc _ h l s _ _ hR λ b s' k1 t1 hb=>Q5 ?_));exact Jo hb (λ hb=>ih (hR.keeps k1 t1) hb λ b s'' k2 t2 h2=>hQ _ _ (Qi k1 k2) (Q1 t1 t2) h2) λ hb=>Ni cs (hQ _ _ k1 t1 hb)
theorem Av {elt target iter:Expr}{ifs:List Expr}{gens:List Comprehension}{scope:Scope}{pos:Pos}{d:Nat}{it acc:Value}{env:Env}(hg:gens[d]?=some ⟨target,iter,ifs,0⟩)(hn:gens[d+1]?=none):
  compTurn (.ListComp elt gens scope pos) d it acc env=(do
   standAt iter.pos
   match <- pyNext it with
   |none=>pure (.done .next)
   |some v=>
    letOwnedTupleGo target it v
    assign target env v
    let ok <- Bb env ifs true
    if ok=true then do
     (do let _ <- call (.builtin "list.append") [acc,<- eval elt env])
     again (.compLoop (.ListComp elt gens scope pos) d it acc env)
    else again (.compLoop (.ListComp elt gens scope pos) d it acc env)):=by
 unfold compTurn;simp only[hg,hn];rfl
theorem Aw {elt target iter t' i':Expr}{ifs ifs':List Expr}{gens:List Comprehension}{scope:Scope}{pos:Pos}{d:Nat}{it acc:Value}{env:Env}(hg:gens[d]?=some ⟨target,iter,ifs,0⟩)(hn:gens[d+1]?=some ⟨t',i',ifs',0⟩):
  compTurn (.ListComp elt gens scope pos) d it acc env=(do
   standAt iter.pos
   match <- pyNext it with
   |none=>pure (.done .next)
   |some v=>
    letOwnedTupleGo target it v
    assign target env v
    let ok <- Bb env ifs true
    if ok=true then do
     let x <- eval i' env
     standAt i'.pos
     let x <- foldedSetIterable i' env x;let _ <- runOwn (.compStart (.ListComp elt gens scope pos) (d+1) (<- holding [x] (pyIter x)) acc env) env
     again (.compLoop (.ListComp elt gens scope pos) d it acc env)
    else again (.compLoop (.ListComp elt gens scope pos) d it acc env)):=by
 unfold compTurn;simp only[hg,hn];rfl
noncomputable def Jj (e:Expr):Bool:=!(e.ctorIdx==7)
theorem Gx {e:Expr}{env:Env}{x:Value}(h:Jj e=true):foldedSetIterable e env x=pure x:=by
 cases e <;> first |rfl |cases h
def KX (X:Addr->Prop)(s s':Shared):Prop:=∃h' tk,s'={s with heap:=h',toks:=tk }/\∀b o,¬X b->s.heap.get? b=some o->h'.get? b=some o
theorem KX.drn {X:Addr->Prop}{s s1:Shared}(x:KX X s s1):s1.drawn=s.drawn:=by obtain⟨_,_,rfl,_⟩:=x;rfl
theorem KX.refl {X:Addr->Prop}{s:Shared}:KX X s s:=⟨s.heap,s.toks,rfl,λ J J J e=>e⟩
theorem KX.trans {X:Addr->Prop}{s s' s'':Shared}(x:KX X s s')(y:KX X s' s''):KX X s s'':=by
 obtain⟨h1,t1,rfl,k1⟩:=x;obtain⟨h2,t2,rfl,k2⟩:=y;exact⟨h2,t2,rfl,λ b o n e=>k2 b o n (k1 b o n e)⟩
theorem KX.of {X:Addr->Prop}{s s':Shared}(x:Keeps s s'):KX X s s':=by obtain⟨h1,t1,rfl,k1⟩:=x;exact⟨h1,t1,rfl,λ b o J e=>k1 b o e⟩
theorem KX.ofB {X:Addr->Prop}{a:Addr}{s s':Shared}(x:KB a s s')(h:X a):KX X s s':=by
 obtain⟨h1,t1,rfl,k1⟩:=x;exact⟨h1,t1,rfl,λ b o n e=>k1 b o (λ q=>n (q▸h)) e⟩
theorem KX.get {X:Addr->Prop}{b:Addr}{s s':Shared}(x:KX X s s'){o:Obj}(n:¬X b)(e:s.heap.get? b=some o):s'.heap.get? b=some o:=by obtain⟨h1,t1,rfl,k1⟩:=x;exact k1 b o n e
theorem KX.mono {X Y:Addr->Prop}{s s':Shared}(x:KX X s s')(h:∀a,X a->Y a):KX Y s s':=by
 obtain⟨h1,t1,rfl,k1⟩:=x;exact⟨h1,t1,rfl,λ b o n e=>k1 b o (λ q=>n (h b q)) e⟩
theorem KX.vrs {l:Lay}{X:Addr->Prop}{s s':Shared}(x:KX X s s')(hN:∀a,X a->l.N a){v:List V}{w:List Value}(r:Y0 l s.heap v w):Y0 l s'.heap v w:=
 r.to (λ J J e=>e) (λ J J e=>e) λ b n J=>⟨n,λ o e=>x.get (λ q=>n (hN b q)) e⟩
theorem KX.vr {l:Lay}{X:Addr->Prop}{s s':Shared}(x:KX X s s')(hN:∀a,X a->l.N a){v:V}{w:Value}(r:VR l s.heap v w):VR l s'.heap v w:=
 r.to (λ J J e=>e) (λ J J e=>e) λ b n J=>⟨n,λ o e=>x.get (λ q=>n (hN b q)) e⟩
noncomputable def Lay.plus (l:Lay)(X:Addr->Prop):Lay:={l with N:=λ a=>l.N a\/X a}
theorem VR.minus {l:Lay}{X:Addr->Prop}{h:Heap}{v:V}{w:Value}(x:VR (l.plus X) h v w):VR l h v w:=VR.to (l:=l.plus X) (l':=l) (h:=h) (h':=h) (λ J J e=>e) (λ J J e=>e) (λ J n J=>⟨λ q=>n (Or.inl q),λ J e=>e⟩) x
theorem Y0.minus {l:Lay}{X:Addr->Prop}{h:Heap}{v:List V}{w:List Value}(x:Y0 (l.plus X) h v w):Y0 l h v w:=Y0.to (l:=l.plus X) (l':=l) (h:=h) (h':=h) (λ J J e=>e) (λ J J e=>e) (λ J n J=>⟨λ q=>n (Or.inl q),λ J e=>e⟩) x
theorem VR.plus {l:Lay}{X:Addr->Prop}{h:Heap}(hX:∀a,X a->h.get? a=Option.none){v:V}{w:Value}(x:VR l h v w):VR (l.plus X) h v w:=
 VR.to (l:=l) (l':=l.plus X) (h:=h) (h':=h) (λ J J e=>e) (λ J J e=>e) (λ b n ⟨o,ho⟩=>⟨λ q=>Or.elim q n λ q=>(by rw[hX b q]at ho;cases ho),λ J e=>e⟩) x
theorem Y0.plus {l:Lay}{X:Addr->Prop}{h:Heap}(hX:∀a,X a->h.get? a=Option.none){v:List V}{w:List Value}(x:Y0 l h v w):Y0 (l.plus X) h v w:=
 Y0.to (l:=l) (l':=l.plus X) (h:=h) (h':=h) (λ J J e=>e) (λ J J e=>e) (λ b n ⟨o,ho⟩=>⟨λ q=>Or.elim q n λ q=>(by rw[hX b q]at ho;cases ho),λ J e=>e⟩) x
theorem R.plus {c:Cx}{l:Lay}{loc:Loc}{st:Q4}{s s':Shared}{X:Addr->Prop}(hR:R c l loc st s)(k:Keeps s s')(t:s.toks<=s'.toks)(hX:∀a,X a->s.heap.get? a=none/\∃o,s'.heap.get? a=some o):R c (l.plus X) loc st s':=by
 have hX':∀a,X a->s.heap.get? a=none:=λ a q=>(hX a q).1;have hR':=hR.keeps k t;have vr:∀{v w},VR l s.heap v w->VR (l.plus X) s'.heap v w:=λ q=>(q.plus hX').sub (Yh k);refine⟨hR'.fr,?_,?_,?_,hR'.tk,.inl hR.loN,λ x a e=>.inl (hR.clN x a e),λ n a e=>.inl (hR.owN n a e)⟩
 .obtain⟨ml,hn,hL,hB⟩:=hR.names;refine⟨ml,hn.keeps (Yh k),λ y u e=>?_,λ y hy v e=>let ⟨z,u,h1,h2,h3⟩:=hB y hy v e;⟨z,u,h1,h2,Qg h3 t⟩⟩;obtain⟨w,hv,hw⟩:=hL y u e;exact⟨w,vr hv,hw.imp id λ ⟨a,b,c,o,ho,hd⟩=>⟨a,b,c,o,Yh k _ _ ho,hd⟩⟩
 .intro n xs e;obtain⟨a,items,h1,h2,h3⟩:=hR.lists n xs e;exact⟨a,items,h1,let ⟨m,q⟩:=h2;⟨m,Yh k _ _ q⟩,(h3.plus hX').sub (Yh k)⟩
 .intro a ha
  rcases ha with ha |ha
  .exact hR'.low a ha
  .exact(hX a ha).2
theorem R.fewer {c:Cx}{l:Lay}{loc loc':Loc}{st:Q4}{s:Shared}(hR:R c l loc' st s)(hbn:c.bnd=[])(h:∀y u,loc.lookup y=some u->loc'.lookup y=some u):R c l loc st s:=by
 refine⟨hR.fr,?_,hR.lists,hR.low,hR.tk,hR.loN,hR.clN,hR.owN⟩;obtain⟨ml,hn,hL,hB⟩:=hR.names;exact⟨ml,hn,λ y u e=>hL y u (h y u e),λ y hy=>by rw[hbn]at hy;cases hy⟩
abbrev Ext (loc loc':Loc):Prop:=∀y u,loc.lookup y=some u->loc'.lookup y=some u
theorem Qz4 {kd:Str->Option NameKind}{x:Str}{v:V}{loc:Loc}{k k':Loc->Prop}(h:Ct kd x v loc k)(m:∀loc',Ext loc loc'->k loc'->k' loc'):Ct kd x v loc k':=
 Zl h λ h1 h=>Zl h λ h2 h=>Zn h1 (Zn h2 (m _ (λ y u e=>by
  rw[Ro,if_neg λ q=>?_]
  .exact e
  .subst q;rw[e]at h1;cases h1) h))
theorem Qyf {kd:Str->Option NameKind}{k k':Loc->Prop}(ts:List Expr):∀(vs:List V) {loc:Loc},Wz kd ts vs loc k->(∀loc',Ext loc loc'->k loc'->k' loc')->Wz kd ts vs loc k':=by
 induction ts with
 |nil=>intro vs loc h m;exact Bg (M:=λ vs=>Wz kd [] vs loc k') h (m loc λ J J e=>e)
 |cons t ts ih=>
  intro vs loc h m;cases vs with
  |nil=>exact h.elim
  |cons v vs=>exact U2 (M:=λ t=>Wz kd (t::ts) (v::vs) loc k') h (λ x px h=>Qz4 h λ loc' e h=>ih vs h λ loc'' e'=>m loc'' λ y u q=>e' y u (e y u q)) False.elim
theorem Qxw {kd:Str->Option NameKind}{t:Expr}{v:V}{loc:Loc}{k:Loc->Prop}(h:Vn kd t v loc k):Vn kd t v loc λ loc'=>k loc'/\Ext loc loc':=
 U2 (M:=λ t=>Vn kd t v loc λ loc'=>k loc'/\Ext loc loc') h (λ x px h=>show Ct kd x v loc λ loc'=>k loc'/\Ext loc loc' from Qz4 h λ J e q=>⟨q,e⟩) λ h=>
  Wq (M:=λ t=>Vn kd t v loc λ loc'=>k loc'/\Ext loc loc') h (λ ts a b h=>Hh (M:=λ v=>Vn kd (.Tuple ts a b) v loc λ loc'=>k loc'/\Ext loc loc') h (λ vs h=>Zl h λ h1 h=>show X5 _ (Wz kd ts vs loc λ loc'=>k loc'/\Ext loc loc') from Zn h1 (Qyf _ _ h λ J e q=>⟨q,e⟩)) False.elim) False.elim
theorem Qq7 {prog:Program}{w:World}{A:Around}{s:Shared}{t:Expr}{I:Addr}{y:Value}(h:(∀a,y≠.ref a)\/∃o,s.heap.get? I=some o/\(o.cls=.type "list_iterator"\/o.cls=.type "tuple_iterator")){Q:Unit->Shared->Prop}{E:Value->Shared->Prop}(hQ:Q () s):
  wpAny (model prog w) A (letOwnedTupleGo t (.ref I) y) Q E s:=by
 have go:∀a,y=.ref a->wpAny (model prog w) A (letOwnedTupleGo (.Tuple [] 0 default) (.ref I) (.ref a)) Q E s:=λ a e=>h.elim (λ h=>absurd e (h a)) λ ⟨o,ho,hc⟩=>by
  obtain⟨n,hn,hm⟩:∃n,o.cls=.type n/\List.contains ["enumerate","zip","dict_itemiterator","dict_reverseitemiterator","odict_iterator","itertools.zip_longest","itertools.pairwise"] n=false:=hc.elim (λ e=>⟨_,e,by decide⟩) λ e=>⟨_,e,by decide⟩;refine Q0 (wpAny_load ho ?_);obtain⟨cl,dd,dt,sl⟩:=o;cases hn
  cases dt <;> first |exact Q5 hQ |(refine wpAny_ite ?_;rw[hm];exact Q5 hQ)
 cases t <;> first |exact Q5 hQ |(cases y <;> first |exact Q5 hQ |exact go _ rfl)
theorem R.kx {c:Cx}{l:Lay}{loc:Loc}{st:Q4}{s s':Shared}{X:Addr->Prop}(hR:R c l loc st s)(k:KX X s s')(t:s.toks<=s'.toks)(hX:∀a,X a->l.N a)(hL:¬X c.L)(h0:∀a,X a->c.h₀.get? a=none)
  (hloc:¬X c.env.locals) (hcell:∀x a,c.env.cells.lookup x=some a->¬X a) (hσ:∀(n:Nat) (a:Addr),l.σ[n]?=some a->¬X a) (hlow:∀a,X a->∃o,s'.heap.get? a=some o):R c l loc st s':=by
 refine⟨?_,?_,?_,?_,Qg hR.tk t,hR.loN,hR.clN,hR.owN⟩
 .obtain⟨m,F⟩:=hR.fr;exact⟨m,F.to (F.ns.at' λ o e=>k.get hL e) λ b J o e=>k.get (λ q=>by rw[h0 b q]at e;cases e)⟩
 .obtain⟨ml,hn,hLo,hB⟩:=hR.names;refine⟨ml,hn.at' λ o e=>k.get hloc e,λ y u e=>?_,λ y hy v e=>let ⟨z,u,h1,h2,h3⟩:=hB y hy v e;⟨z,u,h1,h2,Qg h3 t⟩⟩;obtain⟨w,hv,hw⟩:=hLo y u e;refine⟨w,k.vr hX hv,hw.imp id λ ⟨a,ca,hc,o,ho,hd⟩=>⟨a,ca,hc,o,k.get (hcell _ _ hc) ho,hd⟩⟩
 .intro n xs e;obtain⟨a,items,h1,h2,h3⟩:=hR.lists n xs e;exact⟨a,items,h1,let ⟨m,q⟩:=h2;⟨m,k.get (hσ _ _ h1) q⟩,k.vrs hX h3⟩
 .intro a ha;by_cases q:X a
  .exact hlow a q
  .obtain⟨o,ho⟩:=hR.low a ha;exact⟨o,k.get q ho⟩
structure Apart (c:Cx)(l:Lay)(a:Addr):Prop where
 L:a≠c.L
 h0:c.h₀.get? a=none
 loc:a≠c.env.locals
 cell:∀x b,c.env.cells.lookup x=some b->b≠a
 own:∀(n:Nat) (b:Addr),l.σ[n]?=some b->b≠a
theorem Apart.fresh {c:Cx}{l:Lay}{loc:Loc}{st:Q4}{s:Shared}(hR:R c l loc st s){a:Addr}(h:s.heap.get? a=none):Apart c l a:=by
 have no:∀b,(∃o,s.heap.get? b=some o)->b≠a:=λ b ⟨o,ho⟩ q=>by rw[q,h]at ho;cases ho
 obtain⟨m,F⟩:=hR.fr;refine⟨λ q=>no c.L (let ⟨o,_,_,ho,_⟩:=F.ns;⟨o,ho⟩) q.symm,?_,λ q=>no _ (hR.low _ hR.loN) q.symm,λ x b e=>no b (hR.low b (hR.clN x b e)),λ n b e=>no b (hR.low b (hR.owN n b e))⟩;cases q:c.h₀.get? a with
 |none=>rfl
 |some o=>obtain⟨_,z⟩:=F.slot a o q;rw[z]at h;cases h
theorem Apart.plus {c:Cx}{l:Lay}{a:Addr}{X:Addr->Prop}(h:Apart c l a):Apart c (l.plus X) a:=⟨h.L,h.h0,h.loc,h.cell,h.own⟩
theorem R.kx1 {c:Cx}{l:Lay}{loc:Loc}{st:Q4}{s s':Shared}{a:Addr}(hR:R c l loc st s)(k:KX (·=a) s s')(t:s.toks<=s'.toks)(hN:l.N a)(ha:Apart c l a)(hlow:∃o,s'.heap.get? a=some o):R c l loc st s':=
 hR.kx k t (λ J q=>q▸hN) (λ q=>ha.L q.symm) (λ J q=>q▸ha.h0) (λ q=>ha.loc q.symm) (λ x b e q=>ha.cell x b e q) (λ n b e q=>ha.own n b e q) (λ J q=>q▸hlow)
theorem R.done {c:Cx}{l:Lay}{loc:Loc}{st:Q4}{s s':Shared}{a:Addr}(hR:R c (l.plus (·=a)) loc st s)(k:KX (·=a) s s')(t:s.toks<=s'.toks)(hA:Apart c l a)(hN:¬l.N a)(h1:l.N c.env.locals)(h2:∀x b,c.env.cells.lookup x=some b->l.N b)(h3:∀(n:Nat) (b:Addr),l.σ[n]?=some b->l.N b):R c l loc st s':=by
 have aN:∀b,b=a->(l.plus (·=a)).N b:=λ b q=>.inr q;refine⟨?_,?_,?_,?_,Qg hR.tk t,h1,h2,h3⟩
 .obtain⟨m,F⟩:=hR.fr;exact⟨m,F.to (F.ns.at' λ o e=>k.get (λ q=>hA.L q.symm) e) λ b J o e=>k.get (λ q=>by subst q;rw[hA.h0]at e;cases e)⟩
 .obtain⟨ml,hn,hLo,hB⟩:=hR.names;refine⟨ml,hn.at' λ o e=>k.get (λ q=>hA.loc q.symm) e,λ y u e=>?_,λ y hy v e=>let ⟨z,u,h1,h2,h3⟩:=hB y hy v e;⟨z,u,h1,h2,Qg h3 t⟩⟩;obtain⟨w,hv,hw⟩:=hLo y u e;exact⟨w,(k.vr aN hv).minus,hw.imp id λ ⟨a,ca,hc,o,ho,hd⟩=>⟨a,ca,hc,o,k.get (hA.cell _ _ hc) ho,hd⟩⟩
 .intro n xs e;obtain⟨b,items,h1,h2,h3⟩:=hR.lists n xs e;exact⟨b,items,h1,let ⟨m,q⟩:=h2;⟨m,k.get (hA.own _ _ h1) q⟩,(k.vrs aN h3).minus⟩
 .intro b hb;obtain⟨o,ho⟩:=hR.low b (.inl hb);exact⟨o,k.get (λ q=>hN (q▸hb)) ho⟩
def Wu (D:Addr)(l:Lay)(s:Shared)(acc:List V):Prop:=∃ys:List Value,s.heap.PlainList D ys.toArray/\Y0 l s.heap acc ys
theorem Wu.kx {D:Addr}{l:Lay}{s s':Shared}{acc:List V}{X:Addr->Prop}(h:Wu D l s acc)(k:KX X s s')(hX:∀a,X a->l.N a)(hD:¬X D):Wu D l s' acc:=
 let ⟨ys,⟨n,h1⟩,h2⟩:=h;⟨ys,⟨n,k.get hD h1⟩,k.vrs hX h2⟩
structure Wr (P:Prop):Prop where
 go:P
def V3 (kd:Str->Option NameKind)(ts:Expr->Loc->(Bool->Prop)->Prop)(inner:Loc->List V->(List V->Prop)->Prop)(g:Comprehension)(xs:List V)(loc:Loc)(acc:List V)(k:List V->Prop):Prop:=
 xs.rec (motive:=λ J=>List V->Prop) k (λ x J r acc=>Vn kd g.target x loc λ loc'=>Bu ts g.ifs loc' λ b=>cond b (inner loc' acc r) (r acc)) acc
def cGo (kd:Str->Option NameKind)(el:Loc->(V->Prop)->Prop)(ev:Expr->Loc->(V->Prop)->Prop)(ts:Expr->Loc->(Bool->Prop)->Prop)(st:Q4)(gs:List Comprehension):Loc->List V->(List V->Prop)->Prop:=
 gs.rec (motive:=λ J=>Loc->List V->(List V->Prop)->Prop) (λ loc acc k=>el loc λ v=>X5 (decide (acc.length<16777216)) (k (acc++[v])))
  λ g J r loc acc k=>X5 (decide (g.is_async=0)) <| X5 (Jj g.iter) <| ev g.iter loc λ v=>Xv (drf st v) λ xs=>V3 kd ts r g xs loc acc k
theorem Ty {prog:Program}{w:World}{A:Around}{Rr:Result->Shared->Prop}{s:Shared}{elt:Expr}{gens:List Comprehension}{scope:Scope}{pos:Pos}{d:Nat}{I:Addr}{acc:Value}{env:Env}{g:Comprehension}
  (hg:gens[d]?=some g) (ha:g.is_async=0) (hself:∀(Q:Value->Shared->Prop) (E:Value->Shared->Prop),Q (.ref I) s->wpAny (model prog w) A (pyIter (.ref I)) Q E s)
  (h:codeAny (model prog w) A (.compLoop (.ListComp elt gens scope pos) d (.ref I) acc env) Rr s):
  codeAny (model prog w) A (.compStart (.ListComp elt gens scope pos) d (.ref I) acc env) Rr s:=by
 refine codeAny_of_tree ?_;show wpAny _ _ ((compStart (.ListComp elt gens scope pos) d (.ref I) acc env).onRaise (λ x=>do noteFrame x env;standAt theWindowsPlace)) _ _ s;refine wpAny_notedAt ?_
 delta compStart
 rw[show(clausesOf (.ListComp elt gens scope pos))[d]?=some g from hg,if_neg (show ¬((some g).elim false λ x=>x.is_async !=0)=true by show ¬(g.is_async !=0)=true;rw[ha];decide)];refine Q0 (wpAny_askSetting ?_);refine wpAny_ite ?_;split
 .first
   |exact Q0 (Q5 (Q5 (And.intro rfl h)))
   |exact Q5 (And.intro rfl h)
 .refine Q0 (wpAny_rule ?_);refine Q0 (wpAny_standAt ?_);exact Q0 (hself _ _ (Q5 (And.intro rfl h)))
theorem Qql {α:Type}{l gs:List α}{g:α}{d:Nat}(h:l.drop d=g::gs):l[d]?=some g/\l.drop (d+1)=gs/\l[d+1]?=gs[0]?:=by
 have h1:l[d]?=some g:=by
  have:(l.drop d)[0]?=some g:=by rw[h];rfl
  rw[List.getElem?_drop]at this;simpa using this
 have h2:l.drop (d+1)=gs:=by
  have:(l.drop d).drop 1=gs:=by rw[h];rfl
  rw[List.drop_drop]at this;exact this
 refine⟨h1,h2,?_⟩;rw[<- h2,List.getElem?_drop]
theorem KX.drop {X Y:Addr->Prop}{a:Addr}{s s':Shared}(k:KX Y s s')(hY:∀b,Y b->X b\/b=a)(h:s.heap.get? a=none):KX X s s':=by
 obtain⟨h1,t1,rfl,k1⟩:=k;exact⟨h1,t1,rfl,λ b o n e=>k1 b o (λ q=>(hY b q).elim n λ q=>by rw[q,h]at e;cases e) e⟩
structure G9 (z:Prop)(X:Addr->Prop)(ts:List Addr)(s s':Shared):Prop where
 kx:KX (λ a=>X a\/z/\a∈ts) s s'
 sl:z->∀a∈ts,∀o,s.heap.get? a=some o->∃sl,s'.heap.get? a=some {o with slots:=sl}
theorem G9.refl {z:Prop}{X:Addr->Prop}{ts:List Addr}{s:Shared}:G9 z X ts s s:=⟨KX.refl,λ J J J o e=>⟨o.slots,e⟩⟩
theorem G9.trans {z:Prop}{X:Addr->Prop}{ts:List Addr}{s s' s'':Shared}(x:G9 z X ts s s')(y:G9 z X ts s' s''):G9 z X ts s s'':=⟨x.kx.trans y.kx,λ q a ha o e=>by
 obtain⟨_,h1⟩:=x.sl q a ha o e;obtain⟨b,h2⟩:=y.sl q a ha _ h1;exact⟨b,h2⟩⟩
theorem G9.of {z:Prop}{X:Addr->Prop}{ts:List Addr}{s s':Shared}(x:KX X s s')(h:z->∀a∈ts,¬X a):G9 z X ts s s':=⟨x.mono λ J q=>.inl q,λ q a ha o e=>⟨o.slots,x.get (h q a ha) e⟩⟩
theorem G9.ofK {z:Prop}{X:Addr->Prop}{ts:List Addr}{s s':Shared}(x:Keeps s s'):G9 z X ts s s':=⟨KX.of x,λ J a J o e=>⟨o.slots,Yh x a o e⟩⟩
theorem G9.mono {z:Prop}{X Y:Addr->Prop}{ts:List Addr}{s s':Shared}(x:G9 z X ts s s')(h:∀a,X a->Y a):G9 z Y ts s s':=⟨x.kx.mono λ a q=>q.imp (h a) id,x.sl⟩
theorem G9.drop {z:Prop}{X:Addr->Prop}{a:Addr}{ts:List Addr}{s s':Shared}(k:G9 z (λ b=>X b\/b=a) ts s s')(h:s.heap.get? a=none):G9 z X ts s s':=
 ⟨k.kx.drop (λ J q=>q.elim (λ q=>q.imp_left .inl) λ q=>.inl (.inr q)) h,k.sl⟩
theorem G9.get {z:Prop}{X:Addr->Prop}{b:Addr}{ts:List Addr}{s s':Shared}(x:G9 z X ts s s'){o:Obj}(n:¬X b)(m:b∉ts)(e:s.heap.get? b=some o):s'.heap.get? b=some o:=x.kx.get (λ q=>q.elim n λ q=>m q.2) e
section
variable {z:Prop}{W:Qj}{c:Cx}{st:Q4}{ev:Expr->Loc->(V->Prop)->Prop}{ts:Expr->Loc->(Bool->Prop)->Prop}{elt:Expr}{gens:List Comprehension}{scope:Scope}{pos:Pos}{D:Addr}
structure Lp (z:Prop)(W:Qj)(c:Cx)(D:Addr)(l:Lay)(s:Shared)(xs:List V)(I:Addr)(fp:List Addr)(P:Nat->Value->Prop)(St:Nat->Heap->Prop):Prop where
 dN:l.N D
 iN:¬l.N I
 lN:l.N c.env.locals
 cN:∀x b,c.env.cells.lookup x=some b->l.N b
 oN:∀(n:Nat) (b:Addr),l.σ[n]?=some b->l.N b
 dA:Apart c l D
 iA:Apart c l I
 di:D≠I
 walks:∀A:Around,A.handled=none->Walks W.prog W.w A I fp [I] xs.length P St
 iI:I∈fp
 z:z->∀a∈c.L::c.fs,l.N a/\(a≠c.env.locals/\a≠D/\a≠I)/\(∀b∈fp,b≠a)/\∀(n:Nat) (b:Addr),l.σ[n]?=some b->b≠a
 off:∀b∈fp,b≠c.env.locals/\b≠D
 cO:∀(n:Nat) (b:Addr),l.σ[n]?=some b->b≠c.env.locals
 item:∀i y,P i y->∃x,xs[i]?=some x/\VR (l.plus (·=I)) s.heap x y
 live:∀i h,St i h->∃o,h.get? I=some o
 quiet:(∀i y,P i y->∀a,y≠.ref a)\/∀i h,St i h->∃o,h.get? I=some o/\(o.cls=.type "list_iterator"\/o.cls=.type "tuple_iterator")
theorem Pb (O:Ok W c)(hbn:c.bnd=[])(hts:∀e loc k,ts e loc k->Ps W c e loc st k){inner:Loc->List V->(List V->Prop)->Prop}{g:Comprehension}{d:Nat}
  {l:Lay} {s:Shared} {xs:List V} {loc:Loc} {acc:List V} {k:List V->Prop} {I:Addr} {fp:List Addr} {P:Nat->Value->Prop} {St:Nat->Heap->Prop} {Rr:Result->Shared->Prop} {bodyK:Sem Fin} {ip:Pos}
  (hturn:compTurn (.ListComp elt gens scope pos) d (.ref I) (.ref D) c.env=(do
   standAt ip
   match <- pyNext (.ref I) with
   |none=>pure (.done .next)
   |some v=>
    letOwnedTupleGo g.target (.ref I) v
    assign g.target c.env v
    let ok <- Bb c.env g.ifs true
    if ok=true then bodyK
    else again (.compLoop (.ListComp elt gens scope pos) d (.ref I) (.ref D) c.env)))
  (hbody:∀(loc':Loc) (acc:List V) (k':List V->Prop),inner loc' acc k'->∀(s':Shared) (Q:Fin->Shared->Prop) (E:Value->Shared->Prop),R c (l.plus (·=I)) loc' st s'->Wu D (l.plus (·=I)) s' acc->
   (∀acc' s'',G9 z (λ a=>a=c.env.locals\/a=D) (c.L::c.fs) s' s''->R c (l.plus (·=I)) loc' st s''->Wu D (l.plus (·=I)) s'' acc'->k' acc'->Q (.again (.compLoop (.ListComp elt gens scope pos) d (.ref I) (.ref D) c.env)) s'')->wpAny (model W.prog W.w) c.A bodyK Q E s')
  (hR:R c (l.plus (·=I)) loc st s) (hA:Wu D (l.plus (·=I)) s acc) (L:Lp z W c D l s xs I fp P St) (h0:St 0 s.heap) (hc:V3 c.env.kindOf ts inner g xs loc acc k)
  (hRr:∀acc' s',G9 z (λ a=>(a=c.env.locals\/a=D)\/a=I) (c.L::c.fs) s s'->R c l loc st s'->Wu D l s' acc'->k acc'->Rr (.ok .next) s'):
  codeAny (model W.prog W.w) c.A (.compLoop (.ListComp elt gens scope pos) d (.ref I) (.ref D) c.env) Rr s:=by
 have Wk:=L.walks c.A O.handled;let Z:Addr->Prop:=λ a=>(a=c.env.locals\/a=D)\/a=I;let l':=l.plus (·=I);have dN':l'.N D:=.inl L.dN;have iN':l'.N I:=.inr rfl;have ZN:∀a,(Z a\/z/\a∈c.L::c.fs)->l'.N a:=λ a q=>by
  rcases q with((q |q) |q) |⟨y,q⟩
  .exact q▸hR.loN
  .exact q▸dN'
  .exact q▸iN'
  .exact .inl (L.z y a q).1
 have ZL:z->∀a∈c.L::c.fs,¬Z a:=λ y a ha q=>let w:=(L.z y a ha).2.1;q.elim (λ q=>q.elim w.1 w.2.1) w.2.2;refine codeAny_loop rfl (λ m s1=>∃(i:Nat) (acc1:List V),m+i=xs.length+1/\i<=xs.length/\St i s1.heap/\R c l' loc st s1/\Wu D l' s1 acc1/\G9 z Z (c.L::c.fs) s s1/\V3 c.env.kindOf ts inner g (xs.drop i) loc acc1 k) (λ m s1 hI=>?_) (xs.length+1)
  ⟨0,acc,rfl,Zy _,h0,hR,hA,G9.refl,hc⟩
 obtain⟨i,acc1,hm,hi,hst,hR1,hA1,hk1,hc1⟩:=hI;show wpAny _ c.A ((compTurn (.ListComp elt gens scope pos) d (.ref I) (.ref D) c.env).onRaise (λ x=>do noteFrame x c.env;theTreesLotGoes x)) _ _ s1;refine wpAny_noted ?_;rw[hturn];refine Q0 (wpAny_standAt (Q0 ?_));by_cases hlt:i<xs.length
 .refine Z0 (Wk.item i s1 _ _ hlt hst λ v h2 tk2 hP hst2 hk2=>?_);intro tk
  have k2:KX (·=I) s1 {s1 with heap:=h2,toks:=tk2}:=⟨h2,tk2,rfl,λ b o n e=>hk2 b o (λ q=>n (Q3.mp q)) e⟩
  have hR2:R c l' loc st {s1 with heap:=h2,toks:=tk2}:=hR1.kx1 k2 tk iN' L.iA.plus (L.live _ _ hst2)
  have hA2:Wu D l' {s1 with heap:=h2,toks:=tk2} acc1:=hA1.kx k2 (λ a q=>q▸iN') L.di
  obtain⟨x,hx,hv⟩:=L.item i v hP;have hv2:VR l' h2 x v:=(hk1.trans (G9.of (k2.mono λ a q=>.inr q) ZL)).kx.vr ZN hv;have hdrop:xs.drop i=x::xs.drop (i+1):=by
   rw[List.drop_eq_getElem_cons hlt];rw[Q7 hlt]at hx;cases hx;rfl
  rw[hdrop]at hc1;have hb:=Qxw hc1;refine Q0 (Qq7 (L.quiet.imp (λ q a=>q i v hP a) λ q=>q _ _ hst2) ?_);refine Q0 (Qz3 O hbn hR2 hv2 hb λ loc' s3 k3 hR3 h3=>?_);have fr3:∀b∈fp,∀o,h2.get? b=some o->s3.heap.get? b=some o:=λ b hb o e=>k3.get (L.off b hb).1 e;have hst3:=Wk.frame _ _ _ hst2 fr3;have hA3:Wu D l' s3 acc1:=hA2.kx (KX.ofB k3 rfl:KX (·=c.env.locals) _ _) (λ a q=>q▸hR.loN) L.dA.loc;refine Q0 (Na hts g.ifs hR3 h3.1 λ b s4 k4 t4 h4=>?_);have hst4:=Wk.frame _ _ _ hst3 λ b J o e=>Yh k4 b o e;have hR4:=hR3.keeps k4 t4;have hA4:Wu D l' s4 acc1:=hA3.kx (X:=λ J=>False) (KX.of k4) (λ J q=>q.elim) (λ q=>q);have kk4:G9 z Z (c.L::c.fs) s s4:=hk1.trans (G9.of ((k2.mono λ a q=>.inr q).trans ((KX.ofB k3 (.inl (.inl rfl))).trans (KX.of k4))) ZL);have nx:m-1<m/\m-1+(i+1)=xs.length+1:=by lia
  refine Jo h4 (λ h4=>hbody loc' acc1 _ h4 s4 _ _ hR4 hA4 λ acc5 s5 k5 hR5 hA5 h5=>?_) λ h4=>Q5 ⟨rfl,m-1,nx.1,i+1,acc1,nx.2,hlt,hst4,hR4.fewer hbn h3.2,hA4,kk4,h4⟩;have hst5:=Wk.frame _ _ _ hst4 λ b hb o e=>k5.kx.get (λ q=>q.elim (λ q=>q.elim (L.off b hb).1 (L.off b hb).2) λ q=>(L.z q.1 b q.2).2.2.1 b hb rfl) e;exact⟨rfl,m-1,nx.1,i+1,acc5,nx.2,hlt,hst5,hR5.fewer hbn h3.2,hA5,kk4.trans (k5.mono λ a q=>.inl q),h5⟩
 .have hi':i=xs.length:=by lia
  subst hi';refine Z0 (Wk.done s1 _ _ hst λ h2 tk2 hk2=>?_);intro tk
  have k2:KX (·=I) s1 {s1 with heap:=h2,toks:=tk2}:=⟨h2,tk2,rfl,λ b o n e=>hk2 b o (λ q=>n (Q3.mp q)) e⟩
  refine Q5 ?_
  have hR2:R c l loc st {s1 with heap:=h2,toks:=tk2}:=hR1.done k2 tk L.iA L.iN L.lN L.cN L.oN
  have hA2:Wu D l' {s1 with heap:=h2,toks:=tk2} acc1:=hA1.kx k2 (λ a q=>q▸iN') L.di
  refine hRr acc1 _ (hk1.trans (G9.of (k2.mono λ a q=>.inr q) ZL)) hR2 (let ⟨ys,a,b⟩:=hA2;⟨ys,a,b.minus⟩) ?_;rw[List.drop_length]at hc1;exact hc1
theorem X4 (h:Heap):h.get? h.objs.size=none:=by
 cases q:h.get? h.objs.size with
 |none=>rfl
 |some o=>exact absurd (Qh q) (Y6 _)
theorem Lp.start {l:Lay}{s:Shared}{loc:Loc}{o:Obj}{xs:List V}{fp:List Addr}{P:Nat->Value->Prop}{St:Nat->Heap->Prop}(hR:R c l loc st s)(dN:l.N D)(dA:Apart c l D)(cO:∀(n:Nat) (b:Addr),l.σ[n]?=some b->b≠c.env.locals)(hz:z->∀a∈c.L::c.fs,l.N a/\(a≠c.env.locals/\a≠D)/\∀(n:Nat) (b:Addr),l.σ[n]?=some b->b≠a)
  (hD:∃o,s.heap.get? D=some o) {w:Value} (Wk:Im W l s w s.heap.objs.size xs fp P St):Lp z W c D l {s with heap:=s.heap.push o} xs s.heap.objs.size fp P St:=by
 have iA:Apart c l s.heap.objs.size:=Apart.fresh hR (X4 _);have di:D≠s.heap.objs.size:=λ q=>by obtain⟨o,ho⟩:=hD;rw[q,X4]at ho;cases ho
 refine⟨dN,λ q=>?_,hR.loN,hR.clN,hR.owN,dA,iA,di,Wk.walks,Wk.mem,λ q a ha=>⟨(hz q a ha).1,⟨(hz q a ha).2.1.1,(hz q a ha).2.1.2,λ e=>?_⟩,λ b hb=>?_,(hz q a ha).2.2⟩,λ b hb=>?_,cO,λ i y hy=>?_,Wk.live,Wk.quiet⟩
 .obtain⟨o,ho⟩:=hR.low _ q;rw[X4]at ho;cases ho
 .obtain⟨o,ho⟩:=hR.low _ (e▸(hz q a ha).1);rw[X4]at ho;cases ho
 .rcases Wk.old b hb with rfl |⟨_,hn |⟨n,hn⟩⟩
  .exact λ e=>by obtain⟨o,ho⟩:=hR.low _ (e▸(hz q a ha).1);rw[X4]at ho;cases ho
  .exact λ e=>hn (e▸(hz q a ha).1)
  .exact(hz q a ha).2.2 n b hn
 .rcases Wk.old b hb with rfl |⟨_,hn |⟨n,hn⟩⟩
  .exact⟨iA.loc,Ne.symm di⟩
  .exact⟨λ q=>hn (q▸hR.loN),λ q=>hn (q▸dN)⟩
  .exact⟨cO n b hn,dA.own n b hn⟩
 .obtain⟨x,hx,hv⟩:=Wk.item i y hy;exact⟨x,hx,(hv.plus λ a q=>by subst q;exact X4 _).sub (Yo _ _)⟩
def Tch (c:Cx)(l:Lay):Prop:=∀a∈c.L::c.fs,l.N a/\∀(n:Nat) (b:Addr),l.σ[n]?=some b->b≠a
def Qxl (z:Prop)(W:Qj)(c:Cx)(e:Expr)(loc:Loc)(st:Q4)(k:V->Prop):Prop:=
 ∀(l:Lay) (s:Shared) (Q:Value->Shared->Prop) (E:Value->Shared->Prop),R c l loc st s->(z->Tch c l)->
  (∀v w s',G9 z (λ J=>False) (c.L::c.fs) s s'->s.toks<=s'.toks->R c l loc st s'->VR l s'.heap v w->k v->Q w s')->wpAny (model W.prog W.w) c.A (eval e c.env) Q E s
theorem Uv.sl {loc:Loc}{e:Expr}{k:V->Prop}(h:Uv W c e loc st k):Qxl z W c e loc st k:=λ l s Q E hR J hQ=>
 h l s Q E hR λ v w s' k1 t1 v1 h1=>hQ v w s' (G9.ofK k1) t1 (hR.keeps k1 t1) v1 h1
theorem Qyb (O:Ok W c)(hbn:c.bnd=[]){el:Loc->(V->Prop)->Prop}(hel:∀loc k,el loc k->Qxl z W c elt loc st k)(hev:∀e loc k,ev e loc k->Uv W c e loc st k)(hts:∀e loc k,ts e loc k->Ps W c e loc st k)(hall:∀g∈gens,g.is_async=0):
  ∀(gs:List Comprehension) (g:Comprehension) (d:Nat),gens.drop d=g::gs->∀{l:Lay} {s:Shared} {xs:List V} {loc:Loc} {acc:List V} {k:List V->Prop} {I:Addr} {fp:List Addr} {P:Nat->Value->Prop} {St:Nat->Heap->Prop} {Rr:Result->Shared->Prop},
   R c (l.plus (·=I)) loc st s->Wu D (l.plus (·=I)) s acc->Lp z W c D l s xs I fp P St->St 0 s.heap->V3 c.env.kindOf ts (cGo c.env.kindOf el ev ts st gs) g xs loc acc k->
   (∀acc' s',G9 z (λ a=>(a=c.env.locals\/a=D)\/a=I) (c.L::c.fs) s s'->R c l loc st s'->Wu D l s' acc'->k acc'->Rr (.ok .next) s')->
   codeAny (model W.prog W.w) c.A (.compLoop (.ListComp elt gens scope pos) d (.ref I) (.ref D) c.env) Rr s:=by
 intro gs;induction gs with
 |nil=>
  intro g d hd l s xs loc acc k I fp P St Rr hR hA L h0 hc hRr;obtain⟨hg,_,hg1⟩:=Qql hd;have hga:g.is_async=0:=hall g (Y3 hg);obtain⟨t,it0,ifs,a⟩:=g;cases hga;refine Pb (ip:=it0.pos) O hbn hts (Av hg hg1) (λ loc' acc k' h s' Q E hR hA hQ=>?_) hR hA L h0 hc hRr;refine Q0 (Q0 (hel loc' _ h _ s' _ _ hR (λ q a ha=>⟨.inl (L.z q a ha).1,(L.z q a ha).2.2.2⟩) λ v w s2 k2 t2 hR2 v2 h2=>?_));have h2:=Nu.mp h2;have h2:_/\_:=⟨Qc h2.1,h2.2⟩;have hA2:Wu D (l.plus (·=I)) s2 acc:=hA.kx k2.kx (λ a q=>q.elim False.elim λ q=>.inl (L.z q.1 a q.2).1) λ q=>q.elim id λ q=>(L.z q.1 D q.2).2.1.2.1 rfl;obtain⟨ys,hp,hv⟩:=hA2;have hz:=hv.length;refine Q0 (wpAny_list_append_plain hp (λ h' hp' hs=>?_) (by simp only[Z4,Zv];lia))
  have k3:KX (·=D) s2 {s2 with heap:=h'}:=⟨h',s2.toks,rfl,λ b o n e=>(hs.2 b n).trans e⟩
  have dN':(l.plus (·=I)).N D:=.inl L.dN;have hex:∃o,h'.get? D=some o:=let ⟨n,q⟩:=hp';⟨_,q⟩;refine Q5 (Q5 (hQ (acc++[v]) _ ((k2.mono λ a q=>q.elim).trans (G9.of (k3.mono λ a q=>.inr q) λ y a ha q=>let w:=(L.z y a ha).2.1;q.elim w.1 w.2.1)) (hR2.kx1 k3 (Q2 _) dN' L.dA.plus hex) ⟨ys++[w],?_,?_⟩ h2.2))
  .have e:(ys++[w]).toArray=ys.toArray.push w:=by simp
   rw[e];exact hp'
  .exact k3.vrs (λ a q=>q▸dN') (hv.append (.cons v2 .nil))
 |cons g' gs' ih=>
  intro g d hd l s xs loc acc k I fp P St Rr hR hA L h0 hc hRr;obtain⟨hg,hd1,hg1⟩:=Qql hd;have hga:g.is_async=0:=hall g (Y3 hg);have hgb:g'.is_async=0:=hall g' (Y3 hg1);obtain⟨t,it0,ifs,a⟩:=g;cases hga;have hg1':gens[d+1]?=some ⟨g'.target,g'.iter,g'.ifs,0⟩:=by rw[hg1];obtain⟨t',i',f',a'⟩:=g';cases hgb;rfl
  refine Pb (ip:=it0.pos) O hbn hts (Aw hg hg1') (λ loc' acc k' h s' Q E hR hA hQ=>?_) hR hA L h0 hc hRr;refine Zl h λ J h=>Zl h λ hns h=>Q0 (hev g'.iter loc' _ h _ s' _ _ hR λ v w s2 k2 t2 v2 h2=>?_);have hA2:Wu D (l.plus (·=I)) s2 acc:=hA.kx (X:=λ J=>False) (KX.of k2) (λ J q=>q.elim) (λ q=>q);have hR2:=hR.keeps k2 t2;refine Q0 (wpAny_standAt (Q0 (wpAny_of_eq (Gx hns) ?_)));refine Q0 (Z1 (W4 (hR2.drf v2) h2 λ xs' o fp' P' St' hk' hW h0'=>?_));obtain⟨ys,hp,hv⟩:=hA2;have hDex:∃o,s2.heap.get? D=some o:=let ⟨n,q⟩:=hp;⟨_,q⟩;have hX:∀a,a=s2.heap.objs.size->s2.heap.get? a=none:=λ a q=>by subst q;exact X4 _
  have kp:Keeps s2 {s2 with heap:=s2.heap.push o}:=⟨_,_,rfl,Yo _ _⟩
  have L':Lp z W c D (l.plus (·=I)) {s2 with heap:=s2.heap.push o} xs' s2.heap.objs.size fp' P' St':=Lp.start hR2 (.inl L.dN) L.dA.plus L.cO (λ q a ha=>let w:=L.z q a ha;⟨.inl w.1,⟨w.2.1.1,w.2.1.2.1⟩,w.2.2.2⟩) hDex hW
  have hR3:R c ((l.plus (·=I)).plus (·=s2.heap.objs.size)) loc' st {s2 with heap:=s2.heap.push o}:=hR2.plus kp (Q2 _) λ a q=>⟨hX a q,q▸hW.live _ _ h0'⟩
  have hA3:Wu D ((l.plus (·=I)).plus (·=s2.heap.objs.size)) {s2 with heap:=s2.heap.push o} acc:=⟨ys,let ⟨n,q⟩:=hp;⟨n,Yh kp _ _ q⟩,(hv.plus hX).sub (Yo _ _)⟩
  refine Q0 (wpAny_runOwn (Ty hg1' rfl (λ Q E hq=>(hW.walks c.A O.handled).self 0 _ Q E h0' hq) ?_));refine ih g' (d+1) hd1 hR3 hA3 L' h0' hk' λ acc' s4 k4 hR4 hA4 h4=>?_;have k5:G9 z (λ a=>(a=c.env.locals\/a=D)\/a=s2.heap.objs.size) (c.L::c.fs) s2 s4:=G9.trans (G9.ofK kp) k4;exact Q5 (hQ acc' s4 (G9.trans (G9.ofK k2) (k5.drop (X4 _))) hR4 hA4 h4)
end
noncomputable def Uj (scope:Scope)(kd:Str->Option NameKind)(x:Str):Option NameKind:=
 (scope.names.map λ (n,k)=>if (k==.free&&kd n==some .cell) then(n,.cell) else(n,k)).lookup x
noncomputable def M2 (cells:List (Str×Addr))(ns:List (Str×NameKind))(cs:List (Str×Addr)):List (Str×Addr):=
 ns.rec (motive:=λ J=>List (Str×Addr)->List (Str×Addr)) id (λ y J r cs=>r (if y.2==.free then(y.1,(cells.lookup y.1).getD 0)::cs else cs)) cs
noncomputable def Gq (scope:Scope):Bool:=
 scope.kind==.function&&scope.names.all (λ y=>y.2 !=.cell)&&scope.names.all (λ y=>y.2 !=.local||scope.names.lookup y.1==some .local)&&scope.names.all (λ y=>y.2 !=.free||scope.names.lookup y.1==some .free)
noncomputable def Vt (kd:Str->Option NameKind)(loc:Loc)(names:List (Str×NameKind)):Bool:=
 names.all λ y=>y.2 !=.free||((loc.lookup y.1).isSome&&(kd y.1==some .cell||kd y.1==some .free))
noncomputable def Fy (kd:Str->Option NameKind)(loc:Loc):Loc:=loc.filter λ p=>kd p.1==some .cell||kd p.1==some .free
theorem Qq6 {kd:Str->Option NameKind}{x:Str}{v:V}{loc:Loc}(h:(Fy kd loc).lookup x=some v):loc.lookup x=some v/\(kd x=some .cell\/kd x=some .free):=by
 induction loc with
 |nil=>cases h
 |cons p loc ih=>
  replace h:(if (kd p.1==some .cell||kd p.1==some .free)=true then p::Fy kd loc else Fy kd loc).lookup x=some v:=by rw[<- h];delta Fy;rw[List.filter_cons]
  have hk:∀y,(kd y==some .cell||kd y==some .free)=true->kd y=some .cell\/kd y=some .free:=λ y q=>(Bool.or_eq_true_iff.mp q).imp eq_of_beq eq_of_beq;rw[Qz];by_cases q:(kd p.1==some .cell||kd p.1==some .free)=true
  .rw[if_pos q,Qz]at h;cases e:x==p.1 with
   |true=>rw[e]at h;exact⟨h,eq_of_beq e▸hk _ q⟩
   |false=>rw[e]at h;exact ih h
  .rw[if_neg q]at h;obtain⟨h1,h2⟩:=ih h;cases e:x==p.1 with
   |true=>rw[<- eq_of_beq e]at q;exact absurd (h2.elim (λ h=>by rw[h];rfl) λ h=>by rw[h];rfl) q
   |false=>exact⟨h1,h2⟩
theorem I7 {env:Env}(names:List (Str×NameKind)):∀(cs:List (Str×Addr)),(∀y∈names,y.2=.free->∃a,env.cells.lookup y.1=some a)->
  (forIn names cs λ (x:Str×NameKind) r=>(match x with |(name,kind)=>if (kind==.free)=true then do let c <- cellOf env name;pure (ForInStep.yield ((name,c)::r)) else pure (ForInStep.yield r):Sem (ForInStep (List (Str×Addr)))))=pure (M2 env.cells names cs):=by
 induction names with
 |nil=>exact λ J J=>rfl
 |cons y r ih=>
  intro cs h;obtain⟨n,k⟩:=y;rw[List.forIn_cons];have ih:=λ cs=>ih cs λ y hy=>h y (.tail _ hy);show _=pure (M2 env.cells r (if k==.free then(n,(env.cells.lookup n).getD 0)::cs else cs));rw[<- ih];by_cases q:(k==.free)=true
  .obtain⟨a,ha⟩:=h (n,k) (.head _) (eq_of_beq q);have e:cellOf env n=pure a:=by delta cellOf;rw[ha]
   rw[if_pos q,ha];dsimp only;rw[if_pos q,e];rfl
  .rw[if_neg q];dsimp only;rw[if_neg q];rfl
theorem Pp {scope:Scope}{env:Env}(h:∀y∈scope.names,y.2=.free->∃a,env.cells.lookup y.1=some a):closureFor scope env=pure (M2 env.cells scope.names []):=by
 delta closureFor
 simp only[bind_pure];exact I7 scope.names [] h
theorem Md {cells:List (Str×Addr)}{x:Str}{a:Addr}(names:List (Str×NameKind)):∀(cs:List (Str×Addr)),(∀y∈names,y.2=.free->∃a,cells.lookup y.1=some a)->(∀x a,cs.lookup x=some a->cells.lookup x=some a)->(M2 cells names cs).lookup x=some a->cells.lookup x=some a:=by
 induction names with
 |nil=>exact λ cs J hc e=>hc x a e
 |cons n r ih=>
  intro cs h hc e;refine ih _ (λ y hy=>h y (.tail _ hy)) (λ y b q=>?_) e;by_cases p:(n.2==.free)=true
  .rw[if_pos p,Qz]at q;obtain⟨c,hc'⟩:=h n (.head _) (eq_of_beq p);cases e:y==n.1 with
   |true=>rw[e,hc']at q;rw[eq_of_beq e,hc'];exact q
   |false=>rw[e]at q;exact hc y b q
  .rw[if_neg p]at q;exact hc y b q
theorem Qgf {cells:List (Str×Addr)}{x:Str}(names:List (Str×NameKind)):∀(cs:List (Str×Addr)),((x,NameKind.free)∈names\/(cs.lookup x).isSome=true)->((M2 cells names cs).lookup x).isSome=true:=by
 induction names with
 |nil=>exact λ cs h=>h.elim nofun id
 |cons n r ih=>
  intro cs h;refine ih _ (h.elim (λ h=>(Qx.mp h).elim (λ e=>.inr ?_) .inl) λ h=>.inr ?_)
  .rw[<- e,if_pos (Qt _),Qz,Qt];rfl
  .by_cases q:(n.2==.free)=true
   .rw[if_pos q,Qz];cases x==n.1
    .exact h
    .rfl
   .rw[if_neg q];exact h
set_option tactic.hygienic true in
theorem Dt {scope:Scope}{kd:Str->Option NameKind}{x:Str}(hc:scope.names.all (λ y=>y.2 !=.cell)=true)(h:Uj scope kd x=some .cell\/Uj scope kd x=some .free):(x,NameKind.free)∈scope.names:=by
 unfold Uj at h;have key:∀(k:NameKind),(scope.names.map λ (n,k)=>if (k==.free&&kd n==some .cell) then(n,NameKind.cell) else(n,k)).lookup x=some k->(k=.cell\/k=.free)->(x,NameKind.free)∈scope.names:=by
  intro k e hk;have hm:=Yn e;obtain⟨⟨n,k'⟩,hm',e'⟩:=Qv.mp hm;have hcell:=Qf.mp hc _ hm';dsimp only at e' hcell;split at e'
  .rename_i q
   simp only[Qa,Zr]at q;cases e';rw[<- q.1];exact hm'
  .cases e'
   rcases hk with rfl |rfl
   .exact absurd hcell (by decide)
   .exact hm'
 rcases h with h |h
 .exact key _ h (.inl rfl)
 .exact key _ h (.inr rfl)
def Qqe (evO:Expr->(V->Prop)->Prop)(kd:Str->Option NameKind)(ev:Expr->Loc->(V->Prop)->Prop)(ts:Expr->Loc->(Bool->Prop)->Prop)(loc:Loc)(st:Q4)(elt:Expr)(gens:List Comprehension)(scope:Scope)(k:V->Prop):Prop:=
 gens.rec False λ g gs J=>X5 (gens.all λ g=>decide (g.is_async=0)) <| X5 (Jj g.iter) <| X5 (Gq scope) <| X5 (Vt kd loc scope.names) <|
  evO g.iter λ v=>Xv (drf st v) λ xs=>Wr (V3 (Uj scope kd) ts (cGo (Uj scope kd) (ev elt) ev ts st gs) g xs (Fy (Uj scope kd) loc) [] λ acc=>k (.list acc))
noncomputable def Cx.comp (c:Cx)(scope:Scope)(C:Addr):Cx:={c with env:=compEnvC scope (M2 c.env.cells scope.names []) C c.env,bnd:=[]}
theorem Rb {c:Cx}{scope:Scope}{C:Addr}(hk:c.env.scope.kind=.function):(c.comp scope C).env.kindOf=Uj scope c.env.kindOf:=by
 funext x
 show List.lookup x (scope.names.map _)=List.lookup x (scope.names.map _)
 congr 1
 refine List.map_congr_left λ y J=>?_;obtain⟨n,k⟩:=y;dsimp only;rw[hk];simp
theorem W1 {scope:Scope}(h:Gq scope=true):scope.kind=.function/\scope.names.all (λ y=>y.2 !=.cell)=true/\∀x∈scope.names,x.2=.local->scope.names.lookup x.1=some .local:=by
 have h:=Qe.mp h;have h1:=Qe.mp h.1;have h2:=Qe.mp h1.1;exact⟨eq_of_beq h2.1,h2.2,λ y hy e=>(Bool.or_eq_true_iff.mp (Qf.mp h1.2 y hy)).elim (λ q=>by rw[e]at q;cases q) eq_of_beq⟩
section
variable {c:Cx}{l:Lay}{loc:Loc}{st:Q4}{s:Shared}{scope:Scope}
theorem Qw0 {kd:Str->Option NameKind}{names:List (Str×NameKind)}(hfr:Vt kd loc names=true){x:Str}(hm:(x,NameKind.free)∈names):∃v,loc.lookup x=some v/\kd x≠some .local:=by
 have h:=(Bool.or_eq_true_iff.mp (Qf.mp hfr _ hm)).resolve_left Zu;have h:=Qe.mp h;exact⟨_,(Option.some_get h.1).symm,λ q=>by rw[q]at h;exact nomatch h.2⟩
theorem cell_out (hR:R c l loc st s)(hfr:Vt c.env.kindOf loc scope.names=true){x:Str}{v:V}(hm:(x,NameKind.free)∈scope.names)(e:loc.lookup x=some v):∃w a,VR l s.heap v w/\c.env.cells.lookup x=some a/\s.heap.IsCell a (some w):=by
 obtain⟨ml,hn,hL,hB⟩:=hR.names;obtain⟨w,hv,q |⟨_,a,e3,hc⟩⟩:=hL x v e
 .exact absurd q.1 (let ⟨_,_,n⟩:=Qw0 hfr hm;n)
 .exact⟨w,a,hv,e3,hc⟩
theorem Pg (hR:R c l loc st s)(hfr:Vt c.env.kindOf loc scope.names=true):∀y∈scope.names,y.2=.free->∃a,c.env.cells.lookup y.1=some a:=λ y hy e=>by
 obtain⟨x,k⟩:=y;cases (show k=.free from e);obtain⟨v,e1,_⟩:=Qw0 hfr hy;obtain⟨w,a,_,e2,_⟩:=cell_out hR hfr hy e1;exact⟨a,e2⟩
theorem cell_in (hR:R c l loc st s)(hfr:Vt c.env.kindOf loc scope.names=true){x:Str}{v:V}(hm:(x,NameKind.free)∈scope.names)(e:loc.lookup x=some v):∃w a,VR l s.heap v w/\(M2 c.env.cells scope.names []).lookup x=some a/\s.heap.IsCell a (some w):=by
 obtain⟨w,a,hv,e3,hc⟩:=cell_out hR hfr hm e;obtain⟨a',ha'⟩:=Option.isSome_iff_exists.mp (Qgf (cells:=c.env.cells) scope.names [] (.inl hm));have e4:=Md scope.names [] (Pg hR hfr) (λ J J q=>nomatch q) ha';rw[e3]at e4;cases e4;exact⟨w,a,hv,ha',hc⟩
end
theorem Ok.comp {W:Qj}{c:Cx}(O:Ok W c){scope:Scope}{C:Addr}(hk:scope.kind=.function)(hL:C≠c.L)(h0:c.h₀.get? C=none):Ok W (c.comp scope C):=
 ⟨O.below,O.frames,O.ff,O.fk,hk,O.eg,O.eb,O.inK,O.top,O.handled,O.nob,O.units,O.deep,O.guards,.inr ⟨hL,h0⟩,O.fsb⟩
theorem G9.mono' {z:Prop}{X Y:Addr->Prop}{ts:List Addr}{s s':Shared}(x:G9 z X ts s s')(h:∀b o,s.heap.get? b=some o->X b->Y b):G9 z Y ts s s':=
 ⟨by obtain⟨h1,t1,e,k1⟩:=x.kx;exact⟨h1,t1,e,λ b o n e=>k1 b o (λ q=>n (q.imp_left (h b o e))) e⟩,x.sl⟩
theorem Lo (z:Prop){W:Qj}{c:Cx}(O:Ok W c){loc:Loc}{st:Q4}{el:Loc->(V->Prop)->Prop}{ev:Expr->Loc->(V->Prop)->Prop}{ts:Expr->Loc->(Bool->Prop)->Prop}{elt:Expr}{g:Comprehension}{gs:List Comprehension}{scope:Scope}{pos:Pos}{k:V->Prop}
  (hel:∀C,Ok W (c.comp scope C)->∀loc k,el loc k->Qxl z W (c.comp scope C) elt loc st k) (hev:∀C,Ok W (c.comp scope C)->∀e loc k,ev e loc k->Uv W (c.comp scope C) e loc st k) (hts:∀C,Ok W (c.comp scope C)->∀e loc k,ts e loc k->Ps W (c.comp scope C) e loc st k)
  (hal:(g::gs).all (λ g=>decide (g.is_async=0))=true) (hns:Jj g.iter=true) (hsc:Gq scope=true) (hfr:Vt c.env.kindOf loc scope.names=true)
  (h:Uv W c g.iter loc st λ v=>Xv (drf st v) λ xs=>Wr (V3 (Uj scope c.env.kindOf) ts (cGo (Uj scope c.env.kindOf) el ev ts st gs) g xs (Fy (Uj scope c.env.kindOf) loc) [] λ acc=>k (.list acc)))
  {l:Lay} {s:Shared} {ip:Pos} {use:Option (Value->Sem Unit)} {Q:Value->Shared->Prop} {E:Value->Shared->Prop} (hR:R c l loc st s) (hz:z->Tch c l)
  (hEnd:∀(acc':List V) (D C:Addr) (s5:Shared),G9 z (λ J=>False) (c.L::c.fs) s s5->s.toks<=s5.toks->s.heap.get? C=none->(∃m,s5.heap.Ns C m)->VR (l.plus (·=C)) s5.heap (.list acc') (.ref D)->k (.list acc')->compPost (model W.prog W.w) c.A E use Q (.ref D) C (.ok .next) s5):
  wpAny (model W.prog W.w) c.A (comprehension (.ListComp elt (g::gs) scope pos) scope c.env ip (newList []) (firstAsync (g::gs)) (firstIter (g::gs) c.env) use) Q E s:=by
 have hall:∀g'∈g::gs,g'.is_async=0:=λ g' hm=>Qc (Qf.mp hal g' hm);have hga:=hall g (.head _);obtain⟨hk,hcell,hloc⟩:=W1 hsc;have cells:=Pg hR hfr;obtain⟨gt,gi,gf,ga⟩:=g;cases hga;refine wpAny_comprehension_free (use:=use) rfl (λ x=>Gx hns) (Pp cells) hk hloc ?_;refine h l s _ _ hR λ v w s1 k1 t1 v1 h1=>?_;have hR1:=hR.keeps k1 t1;refine W4 (hR1.drf v1) h1 λ xs o fp P St hc hW h0=>?_;refine wpAny_newObj_type (wpAny_newFunctionEnv (λ y hy=>by simpa using Qf.mp hcell y hy) (by intro y hy;simp at hy) (λ h₁ hns₁ hsb₁=>?_) hk);dsimp only at hns₁ hsb₁ |-;generalize hH2:(s1.heap.push o).push {cls:=.type "list",dict:=none,data:=.seq ([]:List Value).toArray }=H2 at hns₁ hsb₁ |-;have sz:(s1.heap.push o).objs.size=s1.heap.objs.size+1:=Heap.size_push ..;have hC:H2.objs.size=s1.heap.objs.size+1+1:=by rw[<- hH2,Heap.size_push,sz]
 have hDI:(s1.heap.push o).objs.size≠s1.heap.objs.size:=by rw[sz];exact Nat.succ_ne_self _
 have hCI:H2.objs.size≠s1.heap.objs.size:=by rw[hC];lia
 have hDC:(s1.heap.push o).objs.size≠H2.objs.size:=by rw[hC,sz];exact Zj (Zc _)
 have big:∀a,s1.heap.objs.size<=a->s1.heap.get? a=none:=λ a ha=>by
  cases q:s1.heap.get? a with
  |none=>rfl
  |some o'=>exact absurd (Qh q) (Nat.not_lt.mpr ha)
 have nI:s1.heap.get? s1.heap.objs.size=none:=big _ (Q2 _);have nD:s1.heap.get? (s1.heap.push o).objs.size=none:=big _ (by rw[sz];exact Nat.le_succ _);have nC:s1.heap.get? H2.objs.size=none:=big _ (by rw[hC];lia);have old2:∀b x,(s1.heap.push o).get? b=some x->h₁.get? b=some x:=λ b x e=>by
  have hb:=Qh e;exact hsb₁.extBut b x (by rw[hC];rw[sz]at hb;exact Zj (Nat.lt_trans hb (Zc _))) (Q9 _ (hH2▸Q9 _ e))
 have old:Sub s1.heap h₁:=λ b x e=>old2 b x (Q9 _ e);have hacc:h₁.PlainList (s1.heap.push o).objs.size #[]:=⟨_,hsb₁.extBut _ _ hDC (Q9 _ (hH2▸Qp _ rfl))⟩
 have k4:Keeps s1 {s1 with heap:=h₁,toks:=s1.toks+([]:List (Str×Value)).length}:=⟨h₁,_,rfl,old⟩
 have noL:∀a,s1.heap.get? a=none->a≠c.L/\c.h₀.get? a=none:=λ a ha=>let q:=Apart.fresh hR1 ha;⟨q.L,q.h0⟩;have O':Ok W (c.comp scope H2.objs.size):=O.comp hk (noL _ nC).1 (noL _ nC).2;have ck:(c.comp scope H2.objs.size).env.kindOf=Uj scope c.env.kindOf:=Rb O.ek;let X:Addr->Prop:=λ a=>a=(s1.heap.push o).objs.size\/a=H2.objs.size;have hX:∀a,X a->s1.heap.get? a=none:=λ a q=>q.elim (λ q=>q▸nD) λ q=>q▸nC;have hXI:∀a,a=s1.heap.objs.size->s1.heap.get? a=none:=λ a q=>q▸nI;have cellN:∀x a,(M2 c.env.cells scope.names []).lookup x=some a->l.N a:=λ x a e=>hR.clN x a (Md scope.names [] cells (λ J J q=>nomatch q) e);have vr4:∀{v:V} {w:Value},VR l s1.heap v w->VR ((l.plus X).plus (·=s1.heap.objs.size)) h₁ v w:=λ q=>((q.plus hX).plus hXI).sub old;have vrs4:∀{v:List V} {w:List Value},Y0 l s1.heap v w->Y0 ((l.plus X).plus (·=s1.heap.objs.size)) h₁ v w:=λ q=>((q.plus hX).plus hXI).sub old;have cO:∀(n:Nat) (b:Addr),l.σ[n]?=some b->b≠H2.objs.size/\b≠(s1.heap.push o).objs.size/\b≠s1.heap.objs.size:=λ n b e=>by
  obtain⟨ob,ho⟩:=hR1.low b (hR1.owN n b e);exact⟨λ q=>(by rw[q,nC]at ho;cases ho),λ q=>(by rw[q,nD]at ho;cases ho),λ q=>(by rw[q,nI]at ho;cases ho)⟩
 have hR4:R (c.comp scope H2.objs.size) ((l.plus X).plus (·=s1.heap.objs.size)) (Fy (Uj scope c.env.kindOf) loc) st {s1 with heap:=h₁,toks:=s1.toks+([]:List (Str×Value)).length}:=by
  refine⟨?_,⟨_,hns₁,λ x u e=>?_,λ y hy=>by cases hy⟩,?_,?_,hR1.tk,.inl (.inr (.inr rfl)),λ x a e=>.inl (.inl (cellN x a e)),λ n a e=>.inl (.inl (hR.owN n a e))⟩
  .obtain⟨m,F⟩:=hR1.fr;let F':=F.keeps old;exact⟨m,F'.ns,F'.keep,F'.slot,F'.above⟩
  .obtain⟨e1,e2⟩:=Qq6 e;obtain⟨w',a,hv',ha',ob,ho,hd⟩:=cell_in hR1 hfr (Dt hcell e2) e1;exact⟨w',vr4 hv',.inr ⟨by rw[ck];exact e2,a,ha',ob,old _ _ ho,hd⟩⟩
  .intro n ys e;obtain⟨a,items,q1,q2,q3⟩:=hR1.lists n ys e;exact⟨a,items,q1,let ⟨m,q⟩:=q2;⟨m,old _ _ q⟩,vrs4 q3⟩
  .intro a ha
   rcases ha with(ha |ha |ha) |ha
   .obtain⟨ob,ho⟩:=hR1.low a ha;exact⟨ob,old _ _ ho⟩
   .obtain⟨n,q⟩:=hacc;exact⟨_,ha▸q⟩
   .obtain⟨ob,_,_,ho,_⟩:=hns₁;exact⟨ob,ha▸ho⟩
   .obtain⟨ob,ho⟩:=hW.live _ _ h0;exact⟨ob,old2 _ _ (ha▸ho)⟩
 have cellA:∀x b,(M2 c.env.cells scope.names []).lookup x=some b->∀a,s1.heap.get? a=none->b≠a:=λ x b e a ha q=>by
  obtain⟨ob,ho⟩:=hR1.low b (cellN x b e);rw[q,ha]at ho;cases ho
 have oldN:∀a,l.N a->∀b,s1.heap.get? b=none->a≠b:=λ a ha b hb q=>by
  obtain⟨ob,ho⟩:=hR1.low a ha;rw[q,hb]at ho;cases ho
 have L4:Lp z W (c.comp scope H2.objs.size) (s1.heap.push o).objs.size (l.plus X) {s1 with heap:=h₁,toks:=s1.toks+([]:List (Str×Value)).length} xs s1.heap.objs.size fp P St:=by
  refine⟨.inr (.inl rfl),λ q=>?_,.inr (.inr rfl),λ x b e=>.inl (cellN x b e),λ n b e=>.inl (hR.owN n b e),⟨(noL _ nD).1,(noL _ nD).2,hDC,λ x b e=>cellA x b e _ nD,λ n b e=>(cO n b e).2.1⟩,
   ⟨(noL _ nI).1,(noL _ nI).2,Ne.symm hCI,λ x b e=>cellA x b e _ nI,λ n b e=>(cO n b e).2.2⟩,hDI,hW.walks,hW.mem,λ q a ha=>let w:=hz q a ha;⟨.inl w.1,⟨oldN a w.1 _ nC,oldN a w.1 _ nD,oldN a w.1 _ nI⟩,λ b hb=>?_,w.2⟩,λ b hb=>?_,λ n b e=>(cO n b e).1,λ i y hy=>?_,hW.live,hW.quiet⟩
  .rcases q with q |q |q
   .obtain⟨ob,ho⟩:=hR1.low _ q;rw[nI]at ho;cases ho
   .exact hDI q.symm
   .exact hCI q.symm
  .rcases hW.old b hb with rfl |⟨_,hn |⟨n,hn⟩⟩
   .exact(oldN a (hz q a ha).1 _ nI).symm
   .exact λ e=>hn (e▸(hz q a ha).1)
   .exact(hz q a ha).2 n b hn
  .rcases hW.old b hb with rfl |⟨⟨ob,ho⟩,_⟩
   .exact⟨Ne.symm hCI,Ne.symm hDI⟩
   .exact⟨λ q=>(by have q':b=H2.objs.size:=q;rw[q',nC]at ho;cases ho),λ q=>(by rw[q,nD]at ho;cases ho)⟩
  .obtain⟨x,hx,hv⟩:=hW.item i y hy;exact⟨x,hx,vr4 hv⟩
 refine Qx9 ?_;refine Ty (g:=⟨gt,gi,gf,0⟩) rfl rfl (λ Q' E' hq=>(hW.walks c.A O.handled).self 0 _ Q' E' ((hW.walks c.A O.handled).frame 0 _ _ h0 λ b J x e=>old2 b x e) hq) ?_;refine Qyb (c:=c.comp scope H2.objs.size) O' rfl (hel _ O') (hev _ O') (hts _ O') hall gs ⟨gt,gi,gf,0⟩ 0 rfl hR4 ⟨[],hacc,.nil⟩ L4 ((hW.walks c.A O.handled).frame 0 _ _ h0 λ b J x e=>old2 b x e) (by rw[ck];exact hc.go) λ acc' s5 k5 hR5 hA5 h5=>?_;intro tk5;obtain⟨ml5,hn5,_,_⟩:=hR5.names;have none1:∀a,s1.heap.get? a=none->s.heap.get? a=none:=λ a ha=>by
  cases q:s.heap.get? a with
  |none=>rfl
  |some ob=>rw[Yh k1 _ _ q]at ha;cases ha
 refine hEnd acc' (s1.heap.push o).objs.size H2.objs.size s5 ?_ (Q1 t1 tk5) (none1 _ nC) ⟨ml5,hn5⟩ ?_ h5
 .refine G9.trans (G9.ofK k1) (G9.trans (G9.ofK k4) k5 |>.mono' λ b o e q=>?_);have ne:∀a,s1.heap.get? a=none->b≠a:=λ a ha q=>by rw[q,ha]at e;cases e
  exact q.elim (λ q=>q.elim (ne _ nC) (ne _ nD)) (ne _ nI)
 .obtain⟨ys,⟨n,hp⟩,hv⟩:=hA5;have hv':Y0 (l.plus X) s5.heap acc' ys:=hv;have hv2:Y0 (l.plus (·=H2.objs.size)) s5.heap acc' ys:=Y0.to (l:=l.plus X) (l':=l.plus (·=H2.objs.size)) (h:=s5.heap) (h':=s5.heap) (λ J J e=>e) (λ J J e=>e) (λ J n J=>⟨λ q=>n (q.elim (λ q=>Or.inl q) λ q=>Or.inr (Or.inr q)),λ J e=>e⟩) hv';refine .list (items:=ys) (λ q=>?_) ⟨n,hp⟩ hv2
  rcases q with q |q
  .obtain⟨ob,ho⟩:=hR1.low _ q;rw[nD]at ho;cases ho
  .exact hDC q
theorem Qx8 {W:Qj}{c:Cx}(O:Ok W c){loc:Loc}{st:Q4}{evO:Expr->(V->Prop)->Prop}{ev:Expr->Loc->(V->Prop)->Prop}{ts:Expr->Loc->(Bool->Prop)->Prop}{elt:Expr}{gens:List Comprehension}{scope:Scope}{pos:Pos}{k:V->Prop}
  (hO:∀e k,evO e k->Uv W c e loc st k) (hev:∀C,Ok W (c.comp scope C)->∀e loc k,ev e loc k->Uv W (c.comp scope C) e loc st k) (hts:∀C,Ok W (c.comp scope C)->∀e loc k,ts e loc k->Ps W (c.comp scope C) e loc st k)
  (h:Qqe evO c.env.kindOf ev ts loc st elt gens scope k):Uv W c (.ListComp elt gens scope pos) loc st k:=by
 intro l s Q E hR hQ;refine Z0 ?_;rw[eval_ListComp]
 rcases gens with _ |⟨g,gs⟩
 .exact h.elim
 refine Zl h λ hal h=>Zl h λ hns h=>Zl h λ hsc h=>Zl h λ hfr h=>?_;refine Lo False O (λ C O' loc k q=>(hev C O' elt loc k q).sl) hev hts hal hns hsc hfr (hO _ _ h) hR (λ q=>q.elim) λ acc' D C s5 k5 J hC ⟨m,hn⟩ hv h5=>⟨m,hn,λ h' hs tk=>hQ (.list acc') (.ref D) _ ?_ tk ?_ h5⟩
 .obtain⟨h5',t5,rfl,kk⟩:=k5.kx;exact⟨h',t5,rfl,λ b ob e=>(hs.2 b (λ q=>by rw[q,hC]at e;cases e)).trans (kk b ob (λ q=>q.elim id And.left) e)⟩
 .exact(hv.same hs (Or.inr rfl)).minus
structure Fs where
 sp:List (Str×(List V->(V->Prop)->Prop))
 gl:List (Str×Str)
 /-- the world's hash of texts,where dicts are read -/
 hk:Option (Str->Int):=none
noncomputable abbrev Kd:=Str->Option NameKind
structure R9 (W:Qj)(F:Fs)(room:Nat):Prop where
 gl:∀x t,F.gl.lookup x=some t->∃u,nsIn W.K mainGlobals x=some (some (.str t u))
 bi:∀x b,b1s.lookup x=some b->nsIn W.K mainGlobals x=some none
 isi:nsIn W.K mainGlobals "isinstance"=some none
 hk:∀H,F.hk=some H->(PySem.strKind W.prog W.w).hash=H
 sp:∀f p,F.sp.lookup f=some p->∃fa,nsIn W.K mainGlobals f=some (some (.ref fa))/\keepIn W.K (.ref fa)=true/\∀vs k,p vs k->
  ∀(c:Cx) (l:Lay) (loc:Loc) (st:Q4) (s:Shared) (ws:List Value) (Q:Value->Shared->Prop) (E:Value->Shared->Prop),Ok W c->c.room=room->R c l loc st s->Y0 l s.heap vs ws->
   (∀v w s',Keeps s s'->VR l s'.heap v w->k v->Q w s')->wpAny (model W.prog W.w) c.A (call (.ref fa) ws) Q E s
def Qgb (c:Const)(k:V->Prop):Prop:=c.rec (motive:=λ J=>Prop) (k .none) (λ b=>k (.bool b)) (λ i=>k (.int i)) (λ J=>False) (λ J J=>False) (λ x=>k (.str x)) (λ b=>k (.bytes b.toArray)) False
def Fu (ev:Expr->(V->Prop)->Prop)(es:List Expr):(List V->Prop)->Prop:=es.rec (motive:=λ J=>(List V->Prop)->Prop) (λ k=>k []) λ e J r k=>ev e λ v=>r λ vs=>k (v::vs)
def Qkp (ev:Expr->(V->Prop)->Prop)(e:Option Expr)(k:V->Prop):Prop:=e.rec (k .none) λ e=>ev e k
noncomputable def G0 (e:Expr):Bool:=if h:e.ctorIdx=16 then Expr.Call.elim e h λ f a k J=>!(f.ctorIdx==23&&a.isEmpty&&k.isEmpty) else true
theorem B4 {o:Expr}{name:Str}{env:Env}{w:Sem Value}(h:G0 o=true):attributeBase o name env w=w:=by
 cases o with
 |Call f a k p=>
  cases f with
  |Name x q=>
   cases a with
   |nil=>
    cases k with
    |nil=>exact nomatch (show false=true from h)
    |cons _ _=>rfl
   |cons _ _=>rfl
  |_=>rfl
 |_=>rfl
def Qrf (T:Str)(v:V)(k:V->Prop):Prop:=Uh v (λ J=>X5 (T=="int") <| k (.bool true)) <| H4 v λ J=>X5 (T=="bytes") <| k (.bool true)
def Ql8 (F:Fs)(kd:Kd)(x:Str)(loc:Loc)(k:V->Prop):Prop:=
 X5 (!(x=="__debug__")) <| X5 (!(x=="__classdict__")) <| (loc.lookup x).rec (X5 (kd x==some .globalImplicit) <| (F.gl.lookup x).elim False λ t=>k (.str t)) k
def Qlg (F:Fs)(kd:Kd)(ev:Expr->(V->Prop)->Prop)(st:Q4)(f:Str)(args:List Expr)(k:V->Prop):Prop:=
 X5 (kd f==some .globalImplicit) <| X5 (!(f=="__debug__")) <| X5 (!(f=="__name__")) <| X5 (Z8 args) <|
  (b1s.lookup f).rec ((F.sp.lookup f).elim False λ p=>Fu ev args λ vs=>p vs k) λ b=>Fu ev args λ vs=>b1V b (vs.map (drf st)) k
def Zj2 (kd:Kd)(ev:Expr->(V->Prop)->Prop)(st:Q4)(e:Expr)(T:Str)(k:V->Prop):Prop:=
 X5 (kd "isinstance"==some .globalImplicit) <| X5 (kd T==some .globalImplicit) <| X5 (Z8 [e]) <| X5 (b1s.lookup T).isSome <| X5 (!(T=="__debug__")) <| X5 (!(T=="__name__")) <| ev e λ v=>Qrf T (drf st v) k
def Ql9 (ev:Expr->(V->Prop)->Prop)(st:Q4)(o:Expr)(m:Str)(apos:Pos)(args:List Expr)(pos:Pos)(k:V->Prop):Prop:=
 X5 (apos.endLine==pos.line) <| X5 (G0 o) <| X5 (Z8 args) <| X5 (decide (args.length<29)) <|
  (m1s.lookup m).elim False λ b=>ev o λ ov=>Jz ov (λ x=>Fu ev args λ vs=>m1V b (.str x) (vs.map (drf st)) k) <|
   X5 (m=="index") <| Vh (drf st ov) λ xs=>Fu ev args λ vs=>Tw vs λ v=>Jz v λ y=>(Jr xs).elim False λ zs=>y∈zs/\zs.length<=1000/\k (.int (zs.idxOf y:Nat))
theorem Ql6 {α:Type}{o:Option α}{k:α->Prop}{B M:Prop}(h:o.rec B k)(f:∀a,o=some a->k a->M)(g:o=none->B->M):M:=by
 cases o with
 |none=>exact g rfl h
 |some a=>exact f a rfl h
theorem Ly (y:Str):∀{vs:List Value} {ys:List Str},StrsAre vs ys->∀(i:Nat) (h1:i<ys.length) (h2:i<vs.length),isStrOf y vs[i]=(ys[i]==y)
 |_,_,.cons z t h,0,_,_=>rfl
 |_,_,.cons z t h,i+1,h1,h2=>Ly y h i (Nat.lt_of_succ_lt_succ h1) (Nat.lt_of_succ_lt_succ h2)
section
variable {W:Qj}{c:Cx}{loc:Loc}{st:Q4}{k:V->Prop}
theorem Qqi {ct:Const}{n:Nat}{pos:Pos}(h:Qgb ct k):Uv W c (.Constant ct n pos) loc st k:=by
 intro l s Q E hR hQ;cases ct with
 |none=>exact wpAny_Constant_none (hQ _ _ _ (Yw _) (Q2 _) .none h)
 |bool=>exact wpAny_Constant_bool (hQ _ _ _ (Yw _) (Q2 _) (.bool _) h)
 |int=>exact wpAny_Constant_int (hQ _ _ _ (Xw _ _) (Nat.le_succ _) (.int _ _) h)
 |str=>exact wpAny_Constant_str (hQ _ _ _ (Xw _ _) (Nat.le_succ _) (.str _ _) h)
 |bytes=>exact Constant_bytes (hQ _ _ _ (Xw _ _) (Nat.le_succ _) (.bytes _ _) h)
 |_=>exact h.elim
theorem J4 (O:Ok W c){l:Lay}{s:Shared}(hR:R c l loc st s){x:Str}{v:V}(e:loc.lookup x=some v)(hcd:(x==("__classdict__":Str))=false){Q:Value->Shared->Prop}{E:Value->Shared->Prop}(hQ:∀w,VR l s.heap v w->Q w s):
  wpAny (model W.prog W.w) c.A (loadName c.env x) Q E s:=by
 obtain⟨ml,hn,hL,_⟩:=hR.names;obtain⟨w,hv,⟨hk,hm⟩ |⟨hk |hk,a,ha,hc⟩⟩:=hL x v e
 .exact wpAny_loadName_local O.ek hk hn hm (hQ w hv)
 .exact wpAny_loadName_cell O.ek hk ha hc (hQ w hv)
 .exact wpAny_loadName_free O.ek hk ha hc (hQ w hv) hcd
theorem Jm (O:Ok W c){l:Lay}{s:Shared}(hR:R c l loc st s){x:Str}{pos:Pos}{w:Value}(hk:c.env.kindOf x=some .globalImplicit)(hd:(x==("__debug__":Str))=false)(e:nsIn W.K mainGlobals x=some (some w)){Q:Value->Shared->Prop}{E:Value->Shared->Prop}(hQ:Q w s):
  wpAny (model W.prog W.w) c.A (eval (.Name x pos) c.env) Q E s:=by
 obtain⟨m,F⟩:=hR.fr;exact Name_function_global O.ek hk (loadGlobal_global (by rw[O.eg];exact O.top.g.keeps (O.sub F)) (mg_of O.inK O.top.g e) hQ) hd
theorem Ji (O:Ok W c){l:Lay}{s:Shared}(hR:R c l loc st s){x:Str}{pos:Pos}{w:Value}(hk:c.env.kindOf x=some .globalImplicit)(hd:(x==("__debug__":Str))=false)(hn:(x==("__name__":Str))=false)(e:nsIn W.K mainGlobals x=some none)(hb:bootBuiltins x=some w){Q:Value->Shared->Prop}{E:Value->Shared->Prop}(hQ:Q w s):
  wpAny (model W.prog W.w) c.A (eval (.Name x pos) c.env) Q E s:=by
 obtain⟨m,F⟩:=hR.fr;exact Name_function_global O.ek hk (loadGlobal_builtin (by rw[O.eg];exact O.top.g.keeps (O.sub F)) (mg_none_of O.inK O.top.g e) (by rw[O.eb];exact O.top.b.keeps (O.sub F)) ((O.top.builtins x (by simpa using hn)).trans hb) hQ) hd
theorem Qjg (O:Ok W c){F:Fs}{room:Nat}(FO:R9 W F room){x:Str}{pos:Pos}(h:Ql8 F c.env.kindOf x loc k):Uv W c (.Name x pos) loc st k:=by
 intro l s Q E hR hQ;refine Rm h λ hd h=>Rm h λ hcd h=>Ql6 h (λ v e h=>wpAny_Name (J4 O hR e hcd λ w hv=>hQ _ _ _ (Yw _) (Q2 _) hv h) hd) λ J h=>Zl h λ hk h=>Uu h λ t e h=>?_;obtain⟨u,e'⟩:=FO.gl _ _ e;exact Jm O hR (eq_of_beq hk) hd e' (hQ _ _ _ (Yw _) (Q2 _) (.str _ _) h)
theorem Ja {ev:Expr->(V->Prop)->Prop}(hev:∀e k,ev e k->Uv W c e loc st k){es:List Expr}:∀{k:List V->Prop},Z8 es=true->Fu ev es k->Ab W c es loc st k:=by
 induction es with
 |nil=>exact λ J h=>Nw h
 |cons e r ih=>exact λ hs h=>Kt hs λ l s Q E hR hQ=>hev e _ h l s Q E hR λ v w s' a b d h'=>hQ v w s' a b d (ih (B8 (env:=c.env) hs).2 h')
theorem Qxz (O:Ok W c){F:Fs}(FO:R9 W F c.room){ev:Expr->(V->Prop)->Prop}(hev:∀e k,ev e k->Uv W c e loc st k){f:Str}{fp pos:Pos}{args:List Expr}(h:Qlg F c.env.kindOf ev st f args k):
  Uv W c (.Call (.Name f fp) args [] pos) loc st k:=by
 intro l s Q E hR hQ;refine Z0 ?_;refine Zl h λ hk h=>Rm h λ hd h=>Rm h λ hn h=>Zl h λ hs h=>?_;have hk:=eq_of_beq hk;refine Call_ (Ql6 h (λ b e h=>?_) λ J h=>Uu h λ p e h=>?_) rfl
 .refine Ji O hR hk hd hn (FO.bi _ _ e) (Qw9 e) ?_;have key:wpAny (model W.prog W.w) c.A (spliced (backTo pos (starEach args c.env))) (λ ws s1=>wpAny (model W.prog W.w) c.A (call b.val ([]++ws)) (λ a s'=>s.toks<=s'.toks->Q a s') E s1) E s:=by
   refine Ja hev hs h l s pos _ E hR λ vs ws s1 k1 t1 v1 h1=>?_;have hR1:=hR.keeps k1 t1;exact Qyt O.handled hR1.low (Y0.drf hR1 v1) h1 _ E λ v w s2 k2 v2 h2 tk=>hQ v w s2 (Qi k1 k2) tk v2 h2
  cases b <;> first |exact Uk hs key |exact Fx hs key
 .obtain⟨fa,e1,e2,hsp⟩:=FO.sp f p e;refine Jm O hR hk hd e1 (callWith_of (P:=W.K.In) (by rw[Rp hs];rfl) (keeps_K e2) (Rf hs (Ja hev hs h l s pos _ E hR λ vs ws s1 k1 t1 v1 h1=>?_)));have hR1:=hR.keeps k1 t1;obtain⟨m,Fr1⟩:=hR1.fr;exact⟨O.inK.keeps (O.sub Fr1),hsp vs k h1 c l loc st s1 ws _ E O rfl hR1 v1 λ v w s2 k2 v2 h2 tk=>hQ v w s2 (Qi k1 k2) tk v2 h2⟩
theorem Qy2 (O:Ok W c){F:Fs}(FO:R9 W F c.room){ev:Expr->(V->Prop)->Prop}(hev:∀e k,ev e k->Uv W c e loc st k){e:Expr}{T:Str}{fp tp pos:Pos}(h:Zj2 c.env.kindOf ev st e T k):
  Uv W c (.Call (.Name "isinstance" fp) [e,.Name T tp] [] pos) loc st k:=by
 intro l s Q E hR hQ;refine Z0 ?_;refine Zl h λ hk h=>Zl h λ hkT h=>Zl h λ hs h=>Zl h λ hb h=>Rm h λ hd h=>Rm h λ hn h=>Call_ ?_ rfl;obtain⟨b,hb⟩:=Option.isSome_iff_exists.mp hb;have hs2:Z8 [e,.Name T tp]=true:=Qe.mpr ⟨(Qe.mp hs).1,rfl⟩;refine Ji O hR (eq_of_beq hk) (by decide) (by decide) FO.isi (w:=.builtin "isinstance") (by decide +kernel) ?_;refine Uk hs2 ?_;rw[Y5 hs2];refine spliced_cons (hev e _ h l s _ E hR λ v w s1 k1 t1 v1 h1=>?_);have hR1:=hR.keeps k1 t1;rw[Y5 (show Z8 [.Name T tp]=true from rfl)];refine spliced_cons (Ji O hR1 (eq_of_beq hkT) hd hn (FO.bi _ _ hb) (Qw9 hb) (spliced_nil ?_))
 replace h1:Qrf T (drf st v) k:=h1
 delta Qrf at h1
 revert hb;refine(hR1.drf v1).vi h1 (λ i t h1=>Qw6 h1 λ h1 hb=>?_) λ h1=>(hR1.drf v1).vy h1 (λ i t h1=>Qw6 h1 λ h1 hb=>?_) False.elim
 .have e2:b1s.lookup ("int":Str)=some B1.int:=by kernel_rfl
  cases e2.symm.trans hb;exact IsiPair.int_int λ tk=>hQ _ _ _ k1 tk (.bool _) h1
 .have e2:b1s.lookup ("bytes":Str)=some B1.bytes:=by kernel_rfl
  cases e2.symm.trans hb;exact call_isinstance (isinstance_true (Tx:="bytes") PySem.F.isi_meta_bytes PySem.F.sub_bytes_bytes) ⟨rfl,λ tk=>hQ _ _ _ k1 tk (.bool _) h1⟩
theorem Qjf (O:Ok W c){ev:Expr->(V->Prop)->Prop}(hev:∀e k,ev e k->Uv W c e loc st k){o:Expr}{m:Str}{apos pos:Pos}{args:List Expr}(h:Ql9 ev st o m apos args pos k):
  Uv W c (.Call (.Attribute o m apos) args [] pos) loc st k:=by
 intro l s Q E hR hQ;refine Z0 ?_;refine Zl h λ hl h=>Zl h λ hp h=>Zl h λ hs h=>Zl h λ hn h=>Uu h λ b e h=>?_;cases Qdb e;refine wpAny_Call_method_lateS (B4 hp) ?_ hl (hev o _ h l s _ E hR λ ov wo s1 k1 t1 v1 h1=>?_)
 .rw[Bn hs,show(backToKw pos (keywordEach [] c.env)).all (λ x=>x.1.isSome)=true from rfl];have hn:=Qc hn;simp;lia
 .have hR1:=hR.keeps k1 t1;refine(VD.of v1).vs h1 (λ x t h1=>?_) λ h1=>?_
  .refine⟨"str",b.id,F.plainAttrs_str,(Qkd b).1,(Qkd b).2,typeIs_str _ _ _,(λ J e=>nomatch e),Uk hs (Ja hev hs h1 l s1 pos _ E hR1 λ vs ws s2 k2 t2 v2 h2=>?_)⟩;have hR2:=hR1.keeps k2 t2;exact Qvr hR2.low (Y0.drf hR2 v2) h2 _ E λ v w s3 k3 v3 h3 tk=>hQ v w s3 (Qi k1 (Qi k2 k3)) tk v3 h3
  .refine Zl h1 λ hm h1=>(hR1.drf v1).vl h1 (λ xs a items hp r1 J h1=>?_) False.elim;obtain⟨j,hj⟩:=id hp;rw[eq_of_beq hm];refine⟨"list","list.index",F.plainAttrs_list,F.slot_list_index,F.type_list_index,⟨_,hj,rfl⟩,(λ b q=>by cases q;exact⟨_,hj,rfl⟩),Uk hs (Ja hev hs h1 l s1 pos _ E hR1 λ vs ws s2 k2 t2 v2 h2=>?_)⟩;refine Rw (M:=λ vs=>Y0 l s2.heap vs ws->_) h2 (λ v h2 v2=>?_) v2;obtain⟨w,_,rfl,va,vn⟩:=v2.inv;cases vn;refine(VD.of va).vs h2 (λ y ty h2=>Uu h2 λ zs e3 h2=>?_) False.elim;have hst:=D3 (r1.sub (Yh k2)) e3;have hj2:=Yh k2 _ _ hj;have hlt:zs.idxOf y<zs.length:=List.idxOf_lt_length_iff.mpr h2.1;have hit:isStrOf y (items.toArray[zs.idxOf y]'(by rw[Z4,hst.length];exact hlt))=true:=by
    have:=Ly y hst _ hlt (by rw[hst.length];exact hlt);rw[List.getElem_toArray,this,List.getElem_idxOf hlt,Qt]
   exact call_meets PySem.F.slot_list_index ⟨_,hj2,rfl⟩ PySem.F.entry_list_index (PySem.F.args_list_index_2 _ _) (SeqAt.list_indexAt a items.toArray j none #[] (.str y ty) (isStrOf y) (zs.idxOf y) _ (by have:=h2.2.1;lia) hit λ q hq hl=>by
     rw[List.getElem_toArray,Ly y hst q (Nat.lt_trans hl hlt) (by rw[Z4]at hq;exact hq)];exact List.not_of_lt_findIdx (p:=(·==y)) (show q<zs.findIdx (·==y) from hl))
    ⟨hj2,λ z hz=>(eq_isStrOf y ty hst z (Array.mem_toList_iff.mpr hz)).at _ _,λ tk=>hQ _ _ _ (Qi k1 (Qi k2 (Xw _ _))) tk (.int _ _) h2.2.2⟩
end
def FrS (W:Qj)(c:Cx)(e:Expr)(loc:Loc)(st:Q4)(k:Str->Prop):Prop:=
 ∀(l:Lay) (s:Shared) (Q:Value->Shared->Prop) (E:Value->Shared->Prop),R c l loc st s->
  (∀x t s',Keeps s s'->s.toks<=t->t<s'.toks->k x->Q (.str x t) s')->wpAny (model W.prog W.w) c.A (eval e c.env) Q E s
section
variable {W:Qj}{c:Cx}{loc:Loc}{st:Q4}
theorem Qpf {x:Str}{n:Nat}{pos:Pos}{k:Str->Prop}(h:k x):FrS W c (.Constant (.str x) n pos) loc st k:=λ l s Q E hR hQ=>
 wpAny_Constant_str (hQ x s.toks _ (Xw _ _) (Q2 _) (Zc _) h)
theorem Qbe (O:Ok W c){o a b:Expr}{apos pos:Pos}{k:V->Prop}(hs:Z8 [a,b]=true)(hb:G0 o=true)(hl:(apos.endLine==pos.line)=true)
  (h:Uv W c o loc st λ ov=>∃x,ov=.str x/\FrS W c a loc st λ y=>FrS W c b loc st λ z=>x.length+(x.length+1)*z.length<=16777216/\k (.str (Txt.replace x y z))):
  Uv W c (.Call (.Attribute o "replace" apos) [a,b] [] pos) loc st k:=λ l s Q E hR hQ=>by
 refine Z0 ?_;refine wpAny_Call_method_lateS (B4 hb) (by rw[Bn hs];rfl) hl ?_;refine h l s _ E hR λ ov wo s1 k1 t1 v1 h1=>?_;obtain⟨x,rfl,h1⟩:=h1;obtain⟨t,rfl⟩:=(VD.of v1).str;have hR1:=hR.keeps k1 t1;refine⟨"str","str.replace",F.plainAttrs_str,F.slot_str_replace,F.type_str_replace,typeIs_str _ _ _,(λ J e=>nomatch e),?_⟩;refine Uk hs ?_;have hs2:Z8 [b]=true:=(B8 (env:=c.env) hs).2;rw[Y5 hs];refine spliced_cons (h1 l s1 _ E hR1 λ y u s2 k2 lo1 hi1 h2=>?_);have hR2:=hR1.keeps k2 (Nat.le_of_lt (Nat.lt_of_le_of_lt lo1 hi1));rw[Y5 hs2];refine spliced_cons (h2 l s2 _ E hR2 λ z v s3 k3 lo2 hi2 h3=>spliced_nil ?_);have hp:=hR1.tk;have u0:u≠0:=by have q:s1.toks<=u:=lo1;lia
 have v0:v≠0:=by have q:s2.toks<=v:=lo2;have q2:=hR2.tk;lia
 have uv:u≠v:=by have q:s2.toks<=v:=lo2;have q2:u<s2.toks:=hi1;lia
 obtain⟨m,Fr3⟩:=hR2.fr;have nb:NoneBooked s3.heap:=let ⟨mc,q1,q2⟩:=O.nob;⟨mc,(q1.keeps (O.sub Fr3)).keeps (Yh k3),q2⟩;exact SC.replaceA u0 v0 uv h3.1 (λ t' n tk=>hQ _ _ _ (Qi k1 (Qi k2 (Qi k3 (Xw _ _)))) tk (.str _ _) h3.2) nb
def frV (e:Expr)(_:Loc)(k:Str->Prop):Prop:=La e (λ c J J=>Zxq c k) False
theorem Cw (O:Ok W c){e:Expr}{k:Str->Prop}(h:frV e loc k):FrS W c e loc st k:=by
 delta frV at h
 exact Mh h (λ ct n p h=>Qag h (λ x h=>Qpf h) False.elim) False.elim
end
theorem Qjx {prog prog':Program}{w w':World}{es:List DictEntry}{kvs:List (Str×Value)}(h:Pairs (PySem.strKind prog w) es kvs):Pairs (PySem.strKind prog' w') es kvs:=by
 induction h with
 |nil=>exact .nil
 |cons h1 h2 _ ih=>exact .cons h1 h2 ih
theorem DictAt.of {W:Qj}{h:Heap}{a:Addr}{H:Str->Int}{ks:List Str}{items:List Value}(x:DictAt h a H ks items)(e:(PySem.strKind W.prog W.w).hash=H):h.DictOf (PySem.strKind W.prog W.w) a (ks.zip items):=by
 obtain⟨p,w,e',_,_,o,es,ep,ho,hx,hd,hk,hp,hn⟩:=x;refine⟨o,es,ep,ho,hx,hd,λ q hq=>?_,Qjx hp,hn⟩;obtain⟨k,h1,h2⟩:=hk q hq;exact⟨k,h1,by rw[h2,e',e]⟩
theorem By (kvs:List (Str×Value))(k:Str):valueAt kvs k=kvs.lookup k:=by
 induction kvs with
 |nil=>rfl
 |cons p kvs ih=>
  unfold valueAt at ih |-;rw[List.find?_cons,Qz];cases q:k==p.1 with
  |true=>rw[Qw (eq_of_beq q).symm];rfl
  |false=>rw[Z5 λ e=>by rw[e,Qt]at q;cases q];exact ih
theorem Qq5 {l:Lay}{h:Heap}{y:Str}{v:V}:∀{ks:List Str} {vs:List V} {ws:List Value},Y0 l h vs ws->(ks.zip vs).lookup y=some v->∃w,(ks.zip ws).lookup y=some w/\VR l h v w:=by
 intro ks;induction ks with
 |nil=>intro vs ws _ e;cases e
 |cons p ks ih=>
  intro vs ws r e;cases vs with
  |nil=>cases e
  |cons u vs=>
   obtain⟨w,ws,rfl,a,b⟩:=r.inv;rw[List.zip_cons_cons,Qz]at e;rw[List.zip_cons_cons,Qz];cases q:y==p with
   |true=>rw[q]at e;cases e;exact⟨w,rfl,a⟩
   |false=>rw[q]at e;exact ih b e
theorem A8 {α:Type}(y:Str):∀(ks:List Str) (ws:List α),ks.length=ws.length->((ks.zip ws).lookup y).isSome=ks.any (·==y):=by
 intro ks;induction ks with
 |nil=>intro ws _;rfl
 |cons p ks ih=>
  intro ws e;cases ws with
  |nil=>cases e
  |cons w ws=>
   rw[List.zip_cons_cons,Qz,List.any_cons];cases q:y==p with
   |true=>rw[show(p==y)=true by rw[eq_of_beq q];exact Qt _];rfl
   |false=>
    rw[show(p==y)=false from Ql.mpr λ z=>(by rw[z,Qt]at q;cases q),Bool.false_or];exact ih ws (Nat.succ.inj e)
section
variable {l:Lay}{h:Heap}{v:V}{w:Value}{B:Prop}{M:Value->Prop}
theorem VD.dict {H:Str->Int}{ks:List Str}{xs:List V}(x:VD l h (.dict H ks xs) w):∃a items,w=.ref a/\¬l.N a/\DictAt h a H ks items/\Y0 l h xs items:=Or.elim x id False.elim
@[elab_as_elim] theorem VD.vd (x:VD l h v w){k:(Str->Int)->List Str->List V->Prop}(q:Qk4 v k B)(f:∀H ks xs a i,DictAt h a H ks i->Y0 l h xs i->k H ks xs->M (.ref a))(g:B->M w):M w:=
 Qfa (M:=λ v=>VD l h v w->M w) q (λ H ks xs q x=>by obtain⟨a,i,rfl,_,p,r⟩:=x.dict;exact f H ks xs a i p r q) (λ q J=>g q) x
end
def Qrt (F:Fs)(a i:V)(k:V->Prop):Prop:=Qk4 a (λ H ks vs=>Jz i λ x=>F.hk=some H/\((ks.zip vs).lookup x).elim False k) (Qrn a i k)
abbrev inB (op:CmpOp)(t:Bool)(k:Bool->Prop):Prop:=ite (op=.In) (k t) <| ite (op=.NotIn) (k (!t)) False
def I6 (F:Fs)(op:CmpOp)(a b:V)(k:Bool->Prop):Prop:=
 Qk4 b (λ H ks J=>Jz a λ x=>F.hk=some H/\inB op (ks.any (·==x)) k) <| ite (op=.In\/op=.NotIn) (Vh b (λ ys=>Jz a λ x=>(Jr ys).elim False λ zs=>inB op (zs.any (·==x)) k) (Qgg op a b k)) (Qgg op a b k)
section
variable {W:Qj}{c:Cx}{F:Fs}{l:Lay}{s:Shared}
theorem Qjs (FO:R9 W F c.room){value slice:Expr}{a i:V}{wa wi:Value}{k:V->Prop}(ha:VD l s.heap a wa)(hi:VD l s.heap i wi)(h:Qrt F a i k):Gv W c (subscriptTail value slice wa wi) l s k:=by
 delta Qrt at h
 refine ha.vd h (λ H ks vs a it hd hr h=>hi.vs h (λ x t h Q E hQ=>?_) False.elim) λ h=>Qjr ha hi h;have D:=hd.of (W:=W) (FO.hk H h.1);refine Uu h.2 λ u e h2=>?_;obtain⟨w,e2,vw⟩:=Qq5 hr e;have ⟨ops,ho⟩:=Ur slice (.ref a) (.str x t);exact tail_any D.typeIs slot_dict_getitem.lookup (wpAny_getItem_of (k:=x) (strKind_is _ _ _ _) D.mapOf (by rw[By];exact e2) (hQ u w _ (Xw _ _) vw h2)) ho
theorem Pm (FO:R9 W F c.room){op:CmpOp}{a b:V}{wa wb:Value}{k:Bool->Prop}(hu:c.A.units<=1000)(ha:VD l s.heap a wa)(hb:VD l s.heap b wb)(h:I6 F op a b k)(Q:Value->Shared->Prop)(E:Value->Shared->Prop)
  (hQ:∀b s',Keeps s s'->k b->Q (.bool b) s'):wpAny (model W.prog W.w) c.A (compareOp op wa wb) Q E s:=by
 delta I6 at h
 refine hb.vd h (λ H ks vs a it hd hr h=>ha.vs h (λ x t h=>?_) False.elim) λ h=>Qq9 h (λ J h=>hb.vl h (λ ys a items hp r1 J h=>ha.vs h (λ x t h=>Uu h λ zs e h=>?_) False.elim) λ h=>G5 hu ha hb h Q E hQ) λ h=>G5 hu ha hb h Q E hQ
 .have D:=hd.of (W:=W) (FO.hk H h.1);have nm:(a==sysModules)=false:=let ⟨_,_,_,n,_⟩:=hd;n;have ln:ks.length=it.length:=let ⟨_,_,_,_,n,_⟩:=hd;n;have e1:(valueAt (ks.zip it) x).isSome=ks.any (·==x):=by rw[By];exact A8 x ks it ln
  exact Yr h.2 (λ h=>wpAny_in_of (k:=x) (strKind_is _ _ _ _) nm D.mapOf (by rw[e1];exact hQ _ _ (Xw _ _) h)) λ h=>Yr h (λ h=>wpAny_notIn_of (k:=x) (strKind_is _ _ _ _) nm D.mapOf (by rw[e1];exact hQ _ _ (Xw _ _) h)) False.elim
 .have hs:=D3 r1 e;exact Yr h (λ h=>in_list_strs hp.isList hs (hQ _ _ (Yw _) h)) λ h=>Yr h (λ h=>notin_list_strs hp.isList hs (hQ _ _ (Yw _) h)) False.elim
end
noncomputable abbrev EvF:=Kd->Expr->Loc->Q4->(V->Prop)->Prop
noncomputable abbrev TsF:=Kd->Expr->Loc->Q4->(Bool->Prop)->Prop
def Qsh (v:V)(k:V->Prop):Prop:=Uh v λ i=>k (.int (-i))
def Ac (F:Fs)(ev:EvF)(ts:TsF)(kd:Kd)(e:Expr)(loc:Loc)(st:Q4)(k:V->Prop):Prop:=
 La e (λ c J J=>Qgb c k) <|
 Tv e (λ x J=>Ql8 F kd x loc k) <|
 Qgj e (λ l op r J=>ev kd l loc st λ a=>ev kd r loc st λ b=>Ks op (drf st a) (drf st b) k) <|
 Px e (λ op x J=>ite (op=.USub) (ev kd x loc st λ a=>Qsh a k) <| ite (op=.Not) (ev kd x loc st λ a=>Oz a λ b=>k (.bool !b)) False) <|
 I4 e (λ op es J=>on2 es λ x y=>ev kd x loc st λ a=>Oz a λ b=>op.rec (motive:=λ J=>Prop) (cond b (ev kd y loc st k) (k a)) (cond b (k a) (ev kd y loc st k))) <|
 Pv e (λ l ops rs J=>Tw ops λ op=>Tw rs λ r=>X5 (!behindInMarks op r) <| ev kd l loc st λ a=>ev kd r loc st λ b=>I6 F op (drf st a) (drf st b) λ t=>k (.bool t)) <|
 Qgq e (λ t a b J=>ts kd t loc st λ c=>cond c (ev kd a loc st k) (ev kd b loc st k)) <|
 Hx e (λ v i J=>ev kd v loc st λ a=>Qg8 i (λ lo hi sp J=>Qkp (λ e k=>ev kd e loc st k) lo λ l=>Qkp (λ e k=>ev kd e loc st k) hi λ u=>Qkp (λ e k=>ev kd e loc st k) sp λ p=>Qbp (drf st a) (drf st l) (drf st u) (drf st p) k)
  (ev kd i loc st λ b=>Qrt F (drf st a) (drf st b) k)) <|
 Qw3 e (λ es J=>X5 (Z8 es) <| Fu (λ e k=>ev kd e loc st k) es λ vs=>X5 (decide (vs.length<=sizeLine)) <| k (.list vs)) <|
 Pk e (λ es J J=>X5 (Z8 es) <| Fu (λ e k=>ev kd e loc st k) es λ vs=>X5 (decide (vs.length<=sizeLine)) <| k (.tuple vs)) <|
 Lr e (λ elt gens scope J=>Qqe (λ e k=>ev kd e loc st k) kd (λ e loc k=>ev (Uj scope kd) e loc st k) (λ e loc k=>ts (Uj scope kd) e loc st k) loc st elt gens scope k) <|
 Qqn e λ f args kw pos=>on0 kw <| Tv f (λ f J=>cond (f=="isinstance") (on2 args λ e t=>Tv t λ T J=>Zj2 kd (λ e k=>ev kd e loc st k) st e T k) (Qlg F kd (λ e k=>ev kd e loc st k) st f args k)) <|
  T8 f λ o m apos=>cond (m=="replace") (on2 args λ a b=>X5 (Z8 [a,b]) <| X5 (G0 o) <| X5 (apos.endLine==pos.line) <| ev kd o loc st λ ov=>Jz ov λ x=>frV a loc λ y=>frV b loc λ z=>x.length+(x.length+1)*z.length<=16777216/\k (.str (Txt.replace x y z)))
   (Ql9 (λ e k=>ev kd e loc st k) st o m apos args pos k)
def stepT (F:Fs)(ev:EvF)(ts:TsF)(kd:Kd)(e:Expr)(loc:Loc)(st:Q4)(k:Bool->Prop):Prop:=
 Px e (λ op x J=>ite (op=.Not) (ts kd x loc st λ b=>k !b) False) <|
 I4 e (λ op es J=>op.rec (motive:=λ J=>Prop)
  (es.rec (motive:=λ J=>Prop) False λ x r J=>ts kd x loc st λ a=>cond a (r.rec (motive:=λ J=>Prop) False λ y r J=>ts kd y loc st λ b=>cond b (r.rec (motive:=λ J=>Prop) (k true) λ z r J=>on0 r (ts kd z loc st λ c=>cond c (k true) (k false))) (k false)) (k false))
  (es.rec (motive:=λ J=>Prop) False λ x r J=>ts kd x loc st λ a=>cond a (k true) (r.rec (motive:=λ J=>Prop) False λ y r J=>ts kd y loc st λ b=>cond b (k true) (r.rec (motive:=λ J=>Prop) (k false) λ z r J=>on0 r (ts kd z loc st λ c=>cond c (k true) (k false)))))) <|
 Pv e (λ l ops rs J=>Tw ops λ op=>Tw rs λ r=>X5 (!behindInMarks op r) <| ev kd l loc st λ a=>ev kd r loc st λ b=>I6 F op (drf st a) (drf st b) k) <|
 Tv e (λ n p=>ev kd (.Name n p) loc st λ v=>Oz v k) <| Qqn e λ f a w p=>ev kd (.Call f a w p) loc st λ v=>Oz v k
noncomputable def X7 (F:Fs)(n:Nat):EvF×TsF:=n.rec (λ J J J J J=>False,λ J J J J J=>False) λ J r=>(Ac F r.1 r.2,stepT F r.1 r.2)
section
variable {W:Qj}{c:Cx}{loc:Loc}{st:Q4}
theorem P8 {a b:Expr}{l:Lay}{s:Shared}{Q:Value->Value->Shared->Prop}{E:Value->Shared->Prop}{k:V->V->Prop}(h:Uv W c a loc st λ v=>Uv W c b loc st λ u=>k v u)(hR:R c l loc st s)
  (hQ:∀v w u w' s',Keeps s s'->s.toks<=s'.toks->R c l loc st s'->VR l s'.heap v w->VR l s'.heap u w'->k v u->Q w w' s'):
  wpAny (model W.prog W.w) c.A (eval a c.env) (λ w s1=>wpAny (model W.prog W.w) c.A (eval b c.env) (λ w'=>Q w w') E s1) E s:=
 h l s _ E hR λ v w s1 k1 t1 v1 h1=>h1 l s1 _ E (hR.keeps k1 t1) λ u w' s2 k2 t2 v2 h2=>hQ v w u w' s2 (Qi k1 k2) (Q1 t1 t2) ((hR.keeps k1 t1).keeps k2 t2) (v1.sub (Yh k2)) v2 h2
theorem I1 {a:Expr}{l:Lay}{s s0:Shared}{Q:Value->Shared->Prop}{E:Value->Shared->Prop}{k:V->Prop}(h:Uv W c a loc st k)(hR:R c l loc st s)(k0:Keeps s0 s)(t0:s0.toks<=s.toks)
  (hQ:∀v w s',Keeps s0 s'->s0.toks<=s'.toks->VR l s'.heap v w->k v->Q w s'):wpAny (model W.prog W.w) c.A (eval a c.env) Q E s:=
 h l s Q E hR λ v w s1 k1 t1 v1 h1=>hQ v w s1 (Qi k0 k1) (Q1 t0 t1) v1 h1
theorem Og {F:Fs}{ev:EvF}{ts:TsF}(hev:∀(c:Cx),Ok W c->R9 W F c.room->∀e loc st k,ev c.env.kindOf e loc st k->Uv W c e loc st k)(hts:∀(c:Cx),Ok W c->R9 W F c.room->∀e loc st k,ts c.env.kindOf e loc st k->Ps W c e loc st k)
  (O:Ok W c) (FO:R9 W F c.room) {e:Expr} {k:V->Prop} (h:Ac F ev ts c.env.kindOf e loc st k):Uv W c e loc st k:=by
 have hev':=λ {e k}=>hev c O FO e loc st k;have hts':=λ {e k}=>hts c O FO e loc st k;have un:c.A.units<=1000:=by have:=O.units;lia
 have two:∀{a b:Expr} {k:V->V->Prop},(ev c.env.kindOf a loc st λ v=>ev c.env.kindOf b loc st λ u=>k v u)->Uv W c a loc st λ v=>Uv W c b loc st λ u=>k v u:=λ h l s Q E hR hQ=>hev' h l s Q E hR λ v w s' a b d h=>hQ v w s' a b d (hev' h)
 delta Ac at h
 refine Mh h (λ J J J h=>Qqi h) λ h=>U2 h (λ J J h=>Qjg O FO h) λ h=>Qgz h (λ a op b J h l s Q E hR hQ=>?BinOp) λ h=>Pj h (λ op a J h=>Yr h (λ h l s Q E hR hQ=>?USub) λ h=>Yr h (λ h l s Q E hR hQ=>?Not) False.elim) λ h=>
  Cf h (λ op es J h=>S8 h λ x y h l s Q E hR hQ=>?BoolOp) λ h=>Pw h (λ a ops rs J h=>Rw h λ op h=>Rw h λ b h=>Rm h λ hb h l s Q E hR hQ=>?Compare) λ h=>Qg9 h (λ t a b J h l s Q E hR hQ=>?IfExp) λ h=>
  Kc h (λ a i J h l s Q E hR hQ=>?Subscript) λ h=>I3 h (λ es J h=>Zl h λ hs h l s Q E hR hQ=>?List) λ h=>Wq h (λ es J J h=>Zl h λ hs h l s Q E hR hQ=>?Tuple) λ h=>Mf h (λ elt gens scope J h=>?Comp) λ h=>
  Nv h (λ f args kw pos h=>Bg h λ h=>U2 h (λ f fp h=>?CallN) λ h=>T7 h (λ o m apos h=>?CallA) False.elim) False.elim
 case BinOp=>exact wpAny_BinOp (P8 (two h) hR λ v w u w' s2 k2 t2 hR2 v1 v2 h2=>(Pn O.handled hR2.low (hR2.drf v1) (hR2.drf v2) h2).use λ v w s3 k3 t3 v3 h3=>hQ v w s3 (Qi k2 k3) (Q1 t2 t3) v3 h3)
 case USub=>
  refine Z0 (wpAny_UnaryOp (hev' h l s _ E hR λ a wa s1 k1 t1 v1 h1=>?_))
  replace h1:Qsh a k:=h1
  delta Qsh at h1
  exact(VD.of v1).vi h1 (λ i t h1=>by exact neg_int λ tk=>hQ _ _ _ (Qi k1 (Xw _ _)) tk (.int _ _) h1) False.elim
 case Not=>exact Z0 (wpAny_UnaryOp (hev' h l s _ E hR λ a wa s1 k1 t1 v1 h1=>not_of (Ra v1 h1 _ E λ b s2 k2 h2 tk=>hQ _ _ _ (Qi k1 k2) tk (.bool _) h2)))
 case BoolOp=>
  have fin:∀{a wa s1 s2},Keeps s s1->s.toks<=s1.toks->VR l s1.heap a wa->Keeps s1 s2->s1.toks<=s2.toks->(k a->Q wa s2)/\(ev c.env.kindOf y loc st k->wpAny (model W.prog W.w) c.A (eval y c.env) Q E s2):=λ k1 t1 v1 k2 t2=>
   ⟨λ h=>hQ _ _ _ (Qi k1 k2) (Q1 t1 t2) (v1.sub (Yh k2)) h,λ h=>I1 (hev' h) ((hR.keeps k1 t1).keeps k2 t2) (Qi k1 k2) (Q1 t1 t2) hQ⟩
  cases op with
  |And=>exact wpAny_And2 (hev' h l s _ E hR λ a wa s1 k1 t1 v1 h1=>Z0 (Ra v1 h1 _ E λ b s2 k2 h2 t2=>Jo h2 (fin k1 t1 v1 k2 t2).2 (fin k1 t1 v1 k2 t2).1))
  |Or=>exact wpAny_Or2 (hev' h l s _ E hR λ a wa s1 k1 t1 v1 h1=>Z0 (Ra v1 h1 _ E λ b s2 k2 h2 t2=>Jo h2 (fin k1 t1 v1 k2 t2).1 (fin k1 t1 v1 k2 t2).2))
 case Compare=>exact Z0 (wpAny_Compare1 (P8 (two h) hR λ v w u w' s2 k2 t2 hR2 v1 v2 h2=>Pm FO un (hR2.drf v1) (hR2.drf v2) h2 _ E λ b s3 k3 h3 tk=>hQ _ _ _ (Qi k2 k3) tk (.bool _) h3) hb)
 case IfExp=>exact wpAny_IfExp (hts' h l s _ E hR λ b s1 k1 t1 h1=>Jo h1 (λ h=>I1 (hev' h) (hR.keeps k1 t1) k1 t1 hQ) λ h=>I1 (hev' h) (hR.keeps k1 t1) k1 t1 hQ)
 case Subscript=>
  refine Z0 (Subscript_ (hev' h l s _ E hR λ a wa s1 k1 t1 v1 h1=>?_));refine Qg7 h1 (λ lo hi sp p h1=>?_) λ h1=>hev' h1 l s1 _ E (hR.keeps k1 t1) λ b wb s2 k2 t2 v2 h2=>?_
  .have part:∀(o:Option Expr) {k:V->Prop},Qkp (λ e k=>ev c.env.kindOf e loc st k) o k->∀(s:Shared) (Q:Value->Shared->Prop),R c l loc st s->
     (∀v w s',Keeps s s'->s.toks<=s'.toks->VR l s'.heap v w->k v->Q w s')->wpAny (model W.prog W.w) c.A (evalPart o c.env) Q E s:=by
    intro o k h s Q hR hQ;cases o with
    |none=>exact Q5 (hQ _ _ _ (Yw _) (Q2 _) .none h)
    |some e=>exact hev' h l s Q E hR hQ
   refine wpAny_Slice (part _ h1 s1 _ (hR.keeps k1 t1) λ b wb s2 k2 t2 v2 h2=>?_);have hR2:=(hR.keeps k1 t1).keeps k2 t2;refine part _ h2 s2 _ hR2 λ d wd s3 k3 t3 v3 h3=>part _ h3 s3 _ (hR2.keeps k3 t3) λ p wp s4 k4 t4 v4 h4=>?_;have hR4:=(hR2.keeps k3 t3).keeps k4 t4;exact D9 hR4.low (hR4.drf (v1.sub (Yh (Qi k2 (Qi k3 k4))))) (hR4.drf (v2.sub (Yh (Qi k3 k4)))) (hR4.drf (v3.sub (Yh k4))) (hR4.drf v4) h4 _ E λ v w s5 k5 v5 h5 tk=>hQ v w s5 (Qi k1 (Qi k2 (Qi k3 (Qi k4 k5)))) tk v5 h5
  .have hR2:=(hR.keeps k1 t1).keeps k2 t2;exact Qjs FO (hR2.drf (v1.sub (Yh k2))) (hR2.drf v2) h2 _ E λ v w s3 k3 v3 h3 tk=>hQ v w s3 (Qi k1 (Qi k2 k3)) tk v3 h3
 case List=>exact List_ (Ja (λ e k h=>hev' h) hs h l s _ _ E hR λ vs ws s1 k1 t1 v1 h1=>Zl h1 λ h1 h2=>wpAny_newList (hQ _ _ _ (Qi k1 (My _ _ _)) t1 (.list (Vk (hR.keeps k1 t1).low) (G1 _ _) (v1.sub (Yo _ _))) h2) (by rw[<- v1.length];exact Qc h1))
 case Tuple=>exact Tuple_ (Ja (λ e k h=>hev' h) hs h l s _ _ E hR λ vs ws s1 k1 t1 v1 h1=>Zl h1 λ h1 h2=>wpAny_newTuple (hQ _ _ _ (Qi k1 (My _ _ _)) t1 (.tuple (Vk (hR.keeps k1 t1).low) (Vx _ _) (v1.sub (Yo _ _))) h2) (by rw[<- v1.length];exact Qc h1))
 case Comp=>
  have ck:∀C,(c.comp scope C).env.kindOf=Uj scope c.env.kindOf:=λ C=>Rb O.ek;exact Qx8 O (λ e k h=>hev' h) (λ C O' e loc k h=>hev _ O' FO e loc st k (by rw[ck];exact h)) (λ C O' e loc k h=>hts _ O' FO e loc st k (by rw[ck];exact h)) h
 case CallN=>
  cases q:f==("isinstance":Str) with
  |true=>rw[q]at h;cases eq_of_beq q;exact S8 h λ a t h=>U2 h (λ T tp h=>Qy2 O FO (λ e k h=>hev' h) h) False.elim
  |false=>rw[q]at h;exact Qxz O FO (λ e k h=>hev' h) h
 case CallA=>
  cases q:m==("replace":Str) with
  |true=>
   rw[q]at h;cases eq_of_beq q;refine S8 h λ a b h=>Zl h λ h1 h=>Zl h λ h2 h=>Zl h λ h3 h=>Qbe O h1 h2 h3 λ l s Q E hR hQ=>hev' h l s Q E hR λ v w s' p q d h=>hQ v w s' p q d ?_;exact H3 (M:=λ v=>∃x,v=.str x/\FrS W c a loc st λ y=>FrS W c b loc st λ z=>x.length+(x.length+1)*z.length<=16777216/\k (.str (Txt.replace x y z))) h
    (λ x h=>⟨x,rfl,λ l s Q E hR hQ=>Cw O h l s Q E hR λ x t s' p q d h=>hQ x t s' p q d (Cw O h)⟩) False.elim
  |false=>rw[q]at h;exact Qjf O (λ e k h=>hev' h) h
theorem Op {F:Fs}{ev:EvF}{ts:TsF}(O:Ok W c)(FO:R9 W F c.room)(hev':∀e k,ev c.env.kindOf e loc st k->Uv W c e loc st k)(hts':∀e k,ts c.env.kindOf e loc st k->Ps W c e loc st k)
  {e:Expr} {k:Bool->Prop} (h:stepT F ev ts c.env.kindOf e loc st k):Ps W c e loc st k:=by
 have un:c.A.units<=1000:=by have:=O.units;lia
 have tst:∀{e:Expr} {k:Bool->Prop} {l:Lay} {s s0:Shared} {Q:Bool->Shared->Prop} {E:Value->Shared->Prop},ts c.env.kindOf e loc st k->R c l loc st s->Keeps s0 s->s0.toks<=s.toks->(∀b s',R c l loc st s'->Keeps s0 s'->s0.toks<=s'.toks->k b->Q b s')->wpAny (model W.prog W.w) c.A (isTrue e c.env (eval e c.env)) Q E s:=λ h hR k0 t0 hQ=>
  hts' _ _ h _ _ _ _ hR λ b s' k1 t1 h=>hQ b s' (hR.keeps k1 t1) (Qi k0 k1) (Q1 t0 t1) h
 have gen:∀{e},(∀{Q E s},wpAny (model W.prog W.w) c.A (eval e c.env) (λ v s'=>wpAny (model W.prog W.w) c.A (truthy v) Q E s') E s->wpAny (model W.prog W.w) c.A (isTrue e c.env (eval e c.env)) Q E s)->(ev c.env.kindOf e loc st λ v=>Oz v k)->Ps W c e loc st k:=λ g h l s Q E hR hQ=>
  Z0 (g (hev' _ _ h l s _ E hR λ a wa s1 k1 t1 v1 h1=>Ra v1 h1 _ E λ b s2 k2 h2 tk=>hQ _ _ (Qi k1 k2) tk h2))
 delta stepT at h
 refine Pj h (λ op a J h=>Yr h (λ h l s Q E hR hQ=>isTrue_not (hts' _ _ h l s _ E hR λ b s1 k1 t1 h1=>hQ _ _ k1 t1 h1)) False.elim) λ h=>Cf h (λ op es J h=>?BoolOp) λ h=>
  Pw h (λ a ops rs J h=>Rw h λ op h=>Rw h λ b h=>Rm h λ hb h l s Q E hR hQ=>?Compare) λ h=>U2 h (λ J J h=>gen (λ g=>wpAny_isTrue_value g rfl) h) λ h=>Nv h (λ J J J J h=>gen (λ g=>wpAny_isTrue_value g rfl) h) False.elim
 case BoolOp=>
  cases op with
  |And=>
   rcases es with _ |⟨x,_ |⟨y,r⟩⟩
   .exact h.elim
   .intro l s Q E hR hQ;exact isTrue_and (tst h hR (Yw _) (Q2 _) λ a s1 hR1 k1 t1 h=>Jo h False.elim (hQ _ _ k1 t1))
   .intro l s Q E hR hQ;refine isTrue_and (tst h hR (Yw _) (Q2 _) λ a s1 hR1 k1 t1 h=>Jo h (λ h=>isTrue_and (tst h hR1 k1 t1 λ b s2 hR2 k2 t2 h=>Jo h (λ h=>?_) (hQ _ _ k2 t2))) (hQ _ _ k1 t1));cases r with
    |nil=>exact isTrue_and_nil (hQ _ _ k2 t2 h)
    |cons z r=>exact Bg h λ h=>isTrue_and (tst h hR2 k2 t2 λ c s3 hR3 k3 t3 h=>Jo h (λ h=>isTrue_and_nil (hQ _ _ k3 t3 h)) (hQ _ _ k3 t3))
  |Or=>
   rcases es with _ |⟨x,_ |⟨y,r⟩⟩
   .exact h.elim
   .intro l s Q E hR hQ;exact isTrue_or (tst h hR (Yw _) (Q2 _) λ a s1 hR1 k1 t1 h=>Jo h (hQ _ _ k1 t1) False.elim)
   .intro l s Q E hR hQ;refine isTrue_or (tst h hR (Yw _) (Q2 _) λ a s1 hR1 k1 t1 h=>Jo h (hQ _ _ k1 t1) λ h=>isTrue_or (tst h hR1 k1 t1 λ b s2 hR2 k2 t2 h=>Jo h (hQ _ _ k2 t2) λ h=>?_));cases r with
    |nil=>exact isTrue_or_nil (hQ _ _ k2 t2 h)
    |cons z r=>exact Bg h λ h=>isTrue_or (tst h hR2 k2 t2 λ c s3 hR3 k3 t3 h=>Jo h (hQ _ _ k3 t3) λ h=>isTrue_or_nil (hQ _ _ k3 t3 h))
 case Compare=>
  exact Z0 (wpAny_isTrue_Compare1 (P8 (λ l s Q E hR hQ=>hev' _ _ h l s Q E hR λ v w s' a b d h=>hQ v w s' a b d (hev' _ _ h)) hR λ v w u w' s2 k2 t2 hR2 v1 v2 h2=>Pm FO un (hR2.drf v1) (hR2.drf v2) h2 _ E λ b s3 k3 h3=>wpAny_truthy_bool λ tk=>hQ _ _ (Qi k2 k3) tk h3) hb)
theorem Jp (F:Fs)(n:Nat):∀(c:Cx),Ok W c->R9 W F c.room->
  (∀e loc st k,(X7 F n).1 c.env.kindOf e loc st k->Uv W c e loc st k)/\(∀e loc st k,(X7 F n).2 c.env.kindOf e loc st k->Ps W c e loc st k):=by
 induction n with
 |zero=>exact λ c O FO=>⟨λ J J J J h=>h.elim,λ J J J J h=>h.elim⟩
 |succ n ih=>exact λ c O FO=>⟨λ J J J J h=>Og (λ c O FO=>(ih c O FO).1) (λ c O FO=>(ih c O FO).2) O FO h,
   λ J loc st J h=>Op (F:=F) O FO (λ e k h=>(ih c O FO).1 e loc st k h) (λ e k h=>(ih c O FO).2 e loc st k h) h⟩
end
structure RS (c:Cx)(l:Lay)(loc:Loc)(st:Q4)(s:Shared):Prop where
 r:R c l loc st s
 hB:∀a,c.B a->l.N a
 own:∀(n:Nat) (a:Addr),l.σ[n]?=some a->c.h₀.get? a=none
 cel:∀x a,c.env.cells.lookup x=some a->c.h₀.get? a=none
 lL:c.env.locals=c.L
 fr:c.h₀.get? c.L=none
 al:st.length=l.σ.length
 inj:∀(n m:Nat) (a:Addr),l.σ[n]?=some a->l.σ[m]?=some a->n=m
 cinj:∀x y a,c.env.cells.lookup x=some a->c.env.cells.lookup y=some a->x=y
 cells:∀x a,c.env.cells.lookup x=some a->∃v,s.heap.IsCell a v
def Z6 (s s':Shared):Prop:=∃h' tk dr,s'={s with heap:=h',toks:=tk,drawn:=dr}
theorem Z6.refl (s:Shared):Z6 s s:=⟨_,_,_,rfl⟩
theorem Z6.trans {s s' s'':Shared}(x:Z6 s s')(y:Z6 s' s''):Z6 s s'':=by obtain⟨_,_,_,rfl⟩:=x;obtain⟨h,t,d,rfl⟩:=y;exact⟨h,t,d,rfl⟩
theorem Z6.of {X:Addr->Prop}{s s':Shared}(x:KX X s s'):Z6 s s':=by obtain⟨h,t,rfl,_⟩:=x;exact⟨h,t,_,rfl⟩
theorem Z6.ofK {s s':Shared}(x:Keeps s s'):Z6 s s':=by obtain⟨h,t,rfl,_⟩:=x;exact⟨h,t,_,rfl⟩
structure OW (c:Cx)(Z:Addr->Prop)(l:Lay)(st:Q4)(s:Shared)(l':Lay)(st':Q4)(s':Shared):Prop where
 σ:∀(n:Nat) (a:Addr),l.σ[n]?=some a->l'.σ[n]?=some a
 x:∀(n:Nat) (w:Value),l.x[n]?=some w->l'.x[n]?=some w
 N:∀a,l.N a->l'.N a
 Nup:∀a,l'.N a->l.N a\/s.heap.get? a=none
 new:∀(n:Nat) (a:Addr),l'.σ[n]?=some a->l.σ[n]?=some a\/s.heap.get? a=none
 ex:∀a o,s.heap.get? a=some o->∃o',s'.heap.get? a=some o'
 keep:∀a o,s.heap.get? a=some o->¬Z a->a≠c.env.locals->(∀x,c.env.cells.lookup x≠some a)->(∀n:Nat,l.σ[n]?≠some a)->s'.heap.get? a=some o
 le:∀(n:Nat) (p:List V×Nat),st[n]?=some p->∃p',st'[n]?=some p'/\p.2<=p'.2
 eq:∀(n:Nat) (a:Addr) (p p':List V×Nat),l.σ[n]?=some a->st[n]?=some p->st'[n]?=some p'->p'.2=p.2->∀o,s.heap.get? a=some o->s'.heap.get? a=some o
 dr:c.dr=false->s'.drawn=s.drawn
theorem OW.refl {c:Cx}{Z:Addr->Prop}{l:Lay}{st:Q4}{s:Shared}:OW c Z l st s l st s:=⟨λ J J e=>e,λ J J e=>e,λ J q=>q,λ J q=>.inl q,λ J J e=>.inl e,λ J o e=>⟨o,e⟩,λ J J e J J J J=>e,λ J p e=>⟨p,e,Q2 _⟩,λ J J J J J J J J J e=>e,λ J=>rfl⟩
theorem OW.trans {c:Cx}{Z:Addr->Prop}{l l' l'':Lay}{st st' st'':Q4}{s s' s'':Shared}(x:OW c Z l st s l' st' s')(y:OW c Z l' st' s' l'' st'' s''):OW c Z l st s l'' st'' s'':=by
 have nw:∀(n:Nat) (a:Addr),s'.heap.get? a=none->s.heap.get? a=none:=λ n a e=>by
  cases q:s.heap.get? a with
  |none=>rfl
  |some o=>obtain⟨o',h⟩:=x.ex a o q;rw[h]at e;cases e
 refine⟨λ n a e=>y.σ n a (x.σ n a e),λ n w e=>y.x n w (x.x n w e),λ a q=>y.N a (x.N a q),λ a q=>(y.Nup a q).elim (x.Nup a) λ q=>.inr (nw 0 a q),λ n a e=>(y.new n a e).elim (x.new n a) λ q=>.inr (nw n a q),λ a o e=>let ⟨o',e'⟩:=x.ex a o e;y.ex a o' e',
  λ a o e h0 h1 h2 h3=>y.keep a o (x.keep a o e h0 h1 h2 h3) h0 h1 h2 (λ n q=>(x.new n a q).elim (h3 n) λ z=>by rw[e]at z;cases z),λ n p e=>?_,λ n a p p'' ea ep ep'' hv o ho=>?_,λ q=>(y.dr q).trans (x.dr q)⟩
 .obtain⟨p',e',h⟩:=x.le n p e;obtain⟨p'',e'',h'⟩:=y.le n p' e';exact⟨p'',e'',Q1 h h'⟩
 .obtain⟨p',ep',h1⟩:=x.le n p ep;obtain⟨q,eq',h2⟩:=y.le n p' ep';rw[ep'']at eq';cases eq';exact y.eq n a p' p'' (x.σ n a ea) ep' ep'' (by lia) o (x.eq n a p p' ea ep ep' (by lia) o ho)
theorem OW.keeps {c:Cx}{Z:Addr->Prop}{l:Lay}{st:Q4}{s s':Shared}(k:Keeps s s'):OW c Z l st s l st s':=⟨λ J J e=>e,λ J J e=>e,λ J q=>q,λ J q=>.inl q,λ J J e=>.inl e,λ J o e=>⟨o,Yh k _ _ e⟩,λ J J e J J J J=>Yh k _ _ e,λ J p e=>⟨p,e,Q2 _⟩,λ J J J J J J J J o ho=>Yh k _ _ ho,λ J=>kDr k⟩
theorem OW.mono {c:Cx}{Z Z':Addr->Prop}{l l':Lay}{st st':Q4}{s s':Shared}(x:OW c Z l st s l' st' s')(h:∀a,Z a->Z' a):OW c Z' l st s l' st' s':=
 ⟨x.σ,x.x,x.N,x.Nup,x.new,x.ex,λ a o e n=>x.keep a o e (λ q=>n (h a q)),x.le,x.eq,x.dr⟩
section
variable {W:Qj}{c:Cx}{Z:Addr->Prop}{l:Lay}{loc loc':Loc}{st:Q4}{s:Shared}
theorem RS.keeps (h:RS c l loc st s){s':Shared}(k:Keeps s s')(t:s.toks<=s'.toks):RS c l loc st s':=
 ⟨h.r.keeps k t,h.hB,h.own,h.cel,h.lL,h.fr,h.al,h.inj,h.cinj,λ x a e=>let ⟨v,o,ho,hd⟩:=h.cells x a e;⟨v,o,Yh k _ _ ho,hd⟩⟩
theorem RS.live (h:RS c l loc st s){n:Nat}{a:Addr}(e:l.σ[n]?=some a):∃p items,st[n]?=some p/\s.heap.PlainList a items:=by
 have hn:n<l.σ.length:=by
  rcases Nat.lt_or_ge n l.σ.length with q |q
  .exact q
  .rw[Qo q]at e;cases e
 have hs:n<st.length:=h.al▸hn;obtain⟨a',items,h1,h2,_⟩:=h.r.lists n _ (Q7 hs);rw[e]at h1;cases h1;exact⟨_,_,Q7 hs,h2⟩
theorem B7 {h:Heap}{a:Addr}{v:Option Value}{xs:Array Value}(hn:h.IsCell a v)(hl:h.PlainList a xs):False:=by
 obtain⟨o,ho,hd⟩:=hn;obtain⟨n,hl⟩:=hl;rw[ho]at hl;cases hl;cases hd
theorem RS.set (O:Ok W c)(h:RS c l loc st s){x:Str}{v:V}{w:Value}(hk:c.env.kindOf x=some .local\/(c.env.kindOf x=some .cell/\(c.env.cells.lookup x).isSome=true))(hb:x∈c.bnd->c.env.kindOf x=some .local/\∃y t,w=.str y t/\t≠0/\t<s.toks)(hv:VR l s.heap v w)
  (hl:∀y,loc'.lookup y=if y=x then some v else loc.lookup y) {Q:Unit->Shared->Prop} {E:Value->Shared->Prop}
  (hQ:∀s',Z6 s s'->OW c Z l st s l st s'->RS c l loc' st s'->Q () s'):wpAny (model W.prog W.w) c.A (storeName c.env x w) Q E s:=by
 rcases hk with hk |⟨hk,hc⟩
 .refine Mx O h.r hk (λ q=>(hb q).2) hv hl λ h' hs hR'=>hQ _ ⟨h',_,_,rfl⟩ ⟨λ J J e=>e,λ J J e=>e,λ J q=>q,λ J q=>.inl q,λ J J e=>.inl e,λ b o e=>if q:b=c.env.locals then q▸hR'.low _ hR'.loN else⟨o,(hs.2 b q).trans e⟩,λ b o e J q J J=>(hs.2 b q).trans e,λ J p e=>⟨p,e,Q2 _⟩,λ n a p p' ea J J J o ho=>?_,λ J=>rfl⟩
   ⟨hR',h.hB,h.own,h.cel,h.lL,h.fr,h.al,h.inj,h.cinj,λ y a e=>?_⟩
  .obtain⟨_,items,_,hp⟩:=h.live ea;obtain⟨ml,hn,_⟩:=h.r.names;exact(hs.2 a (λ q=>Re hn (q▸hp))).trans ho
  .obtain⟨u,hc⟩:=h.cells y a e;obtain⟨ml,hn,_⟩:=h.r.names;obtain⟨o,ho,hd⟩:=id hc;exact⟨u,o,(hs.2 a (λ q=>H9 hn (q▸hc))).trans ho,hd⟩
 .obtain⟨a,ha⟩:=Option.isSome_iff_exists.mp hc;obtain⟨u,hcell⟩:=h.cells x a ha;have aN:l.N a:=h.r.clN x a ha;obtain⟨ml,hn,hLo,hB⟩:=h.r.names;have ne:a≠c.env.locals:=λ q=>H9 hn (q▸hcell);refine wpAny_storeName_cell O.ek hk ha hcell λ h' hc' hs=>hQ _ ⟨h',_,_,rfl⟩ ⟨λ J J e=>e,λ J J e=>e,λ J q=>q,λ J q=>.inl q,λ J J e=>.inl e,λ b o e=>if q:b=a then let ⟨o,z,_⟩:=hc';⟨o,q▸z⟩ else⟨o,(hs.2 b q).trans e⟩,λ b o e J J q J=>(hs.2 b (λ z=>q x (z▸ha))).trans e,λ J p e=>⟨p,e,Q2 _⟩,λ n b p p' eb J J J o ho=>?_,λ J=>rfl⟩
   ⟨⟨?_,⟨ml,hn.sameBut hs (Ne.symm ne),λ y u e=>?_,λ y hy u e=>?_⟩,λ n xs e=>?_,λ b hb'=>?_,h.r.tk,h.r.loN,h.r.clN,h.r.owN⟩,h.hB,h.own,h.cel,h.lL,h.fr,h.al,h.inj,h.cinj,λ y b e=>?_⟩
  .obtain⟨_,items,_,hp⟩:=h.live eb;exact(hs.2 b (λ q=>B7 hcell (q▸hp))).trans ho
  .obtain⟨m,F⟩:=h.r.fr;exact⟨m,F.to (F.ns.sameBut hs (λ q=>ne (q▸h.lL.symm))) λ b J o e=>(hs.2 b (λ q=>by rw[q,h.cel x a ha]at e;cases e)).trans⟩
  .rw[hl]at e;by_cases hy:y=x
   .subst hy;rw[if_pos rfl]at e;cases e;exact⟨w,hv.same hs aN,.inr ⟨.inl hk,a,ha,hc'⟩⟩
   .rw[if_neg hy]at e;obtain⟨w',h1,h2⟩:=hLo y u e;refine⟨w',h1.same hs aN,h2.imp id λ ⟨p,b,eb,o,ho,hd⟩=>⟨p,b,eb,o,(hs.2 b (λ q=>hy (h.cinj y x a (q▸eb) ha))).trans ho,hd⟩⟩
  .rw[hl]at e;by_cases hyx:y=x
   .subst hyx;have:=(hb hy).1;rw[hk]at this;cases this
   .rw[if_neg hyx]at e;exact hB y hy u e
  .obtain⟨b,items,h1,h2,h3⟩:=h.r.lists n xs e;exact⟨b,items,h1,let ⟨m,q⟩:=h2;⟨m,(hs.2 b (λ z=>B7 hcell (z▸h2))).trans q⟩,h3.same hs aN⟩
  .by_cases q:b=a
   .subst q;obtain⟨o,ho,_⟩:=hc';exact⟨o,ho⟩
   .obtain⟨o,ho⟩:=h.r.low b hb';exact⟨o,(hs.2 b q).trans ho⟩
  .by_cases q:b=a
   .subst q;exact⟨_,hc'⟩
   .obtain⟨u,o,ho,hd⟩:=h.cells y b e;exact⟨u,o,(hs.2 b q).trans ho,hd⟩
noncomputable def Lay.adopt (l:Lay)(a:Addr):Lay:={N:=λ b=>l.N b\/b=a,σ:=l.σ++[a],x:=l.x}
theorem Fv {l:Lay}{a b:Addr}{n:Nat}(e:l.σ[n]?=some b):(l.adopt a).σ[n]?=some b:=by
 have hn:n<l.σ.length:=by
  rcases Nat.lt_or_ge n l.σ.length with q |q
  .exact q
  .rw[Qo q]at e;cases e
 show(l.σ++[a])[n]?=some b;rw[Zx hn];exact e
theorem Rd {l:Lay}{a b:Addr}{n:Nat}(e:(l.adopt a).σ[n]?=some b):l.σ[n]?=some b\/(n=l.σ.length/\b=a):=by
 have e:(l.σ++[a])[n]?=some b:=e
 rcases Nat.lt_or_ge n l.σ.length with q |q
 .rw[Zx q]at e;exact .inl e
 .rw[Z2 q]at e
  rcases Nat.eq_or_lt_of_le q with q |q
  .subst q;simp at e;exact .inr ⟨rfl,e.symm⟩
  .have:(([a]:List Addr)[n-l.σ.length]?)=none:=Qo (by simp;lia);rw[this]at e;cases e
theorem VR.adopt {l:Lay}{a:Addr}{h:Heap}{v:V}{w:Value}(x:VR (l.plus (·=a)) h v w):VR (l.adopt a) h v w:=
 VR.to (l:=l.plus (·=a)) (l':=l.adopt a) (h:=h) (h':=h) (λ J J e=>Fv e) (λ J J e=>e) (λ J n J=>⟨n,λ J e=>e⟩) x
theorem Y0.adopt {l:Lay}{a:Addr}{h:Heap}{v:List V}{w:List Value}(x:Y0 (l.plus (·=a)) h v w):Y0 (l.adopt a) h v w:=
 Y0.to (l:=l.plus (·=a)) (l':=l.adopt a) (h:=h) (h':=h) (λ J J e=>Fv e) (λ J J e=>e) (λ J n J=>⟨n,λ J e=>e⟩) x
theorem RS.adopt (h:RS c l loc st s){s':Shared}(k:Keeps s s')(t:s.toks<=s'.toks){a:Addr}{xs:List V}{items:List Value}(ha:s.heap.get? a=none)(hp:s'.heap.PlainList a items.toArray)(hv:Y0 (l.plus (·=a)) s'.heap xs items):
  RS c (l.adopt a) loc (st++[(xs,0)]) s'/\OW c Z l st s (l.adopt a) (st++[(xs,0)]) s'/\VR (l.adopt a) s'.heap (.own st.length) (.ref a):=by
 have hX:∀b,b=a->s.heap.get? b=none/\∃o,s'.heap.get? b=some o:=λ b q=>by subst q;exact⟨ha,let ⟨n,q⟩:=hp;⟨_,q⟩⟩
 have hR:=h.r.plus k t hX;have old:∀(n:Nat) (b:Addr),l.σ[n]?=some b->b≠a:=λ n b e q=>by
  obtain⟨o,ho⟩:=h.r.low b (h.r.owN n b e);rw[q,ha]at ho;cases ho
 have h0:c.h₀.get? a=none:=by
  obtain⟨m,F⟩:=h.r.fr;cases q:c.h₀.get? a with
  |none=>rfl
  |some o=>obtain⟨_,z⟩:=F.slot a o q;rw[z]at ha;cases ha
 refine⟨⟨⟨hR.fr,?_,λ n p e=>?_,hR.low,hR.tk,hR.loN,hR.clN,λ n b e=>?_⟩,λ b q=>.inl (h.hB b q),λ n b e=>?_,h.cel,h.lL,h.fr,?_,λ n m b e1 e2=>?_,h.cinj,(h.keeps k t).cells⟩,
  ⟨λ n b e=>Fv e,λ J J e=>e,λ b q=>.inl q,λ b q=>q.elim .inl λ q=>.inr (q▸ha),λ n b e=>(Rd e).imp id λ ⟨_,q⟩=>q▸ha,λ b o e=>⟨o,Yh k _ _ e⟩,λ b o e J J J J=>Yh k _ _ e,λ n p e=>⟨p,?_,Q2 _⟩,λ n b p p' J J J J o ho=>Yh k _ _ ho,λ J=>kDr k⟩,.own ?_⟩
 .obtain⟨ml,hn,hLo,hB⟩:=hR.names;exact⟨ml,hn,λ y u e=>let ⟨w,q,r⟩:=hLo y u e;⟨w,q.adopt,r⟩,hB⟩
 .rcases Nat.lt_or_ge n st.length with q |q
  .rw[Zx q]at e;obtain⟨b,its,e1,e2,e3⟩:=hR.lists n p e;exact⟨b,its,Fv e1,e2,e3.adopt⟩
  .rw[Z2 q]at e
   rcases Nat.eq_or_lt_of_le q with q |q
   .subst q;simp at e;subst e;refine⟨a,items,?_,hp,hv.adopt⟩;show(l.σ++[a])[st.length]?=some a;rw[h.al,Z2 (Q2 _)];simp
   .have:(([(xs,0)]:Q4)[n-st.length]?)=none:=Qo (by simp;lia);rw[this]at e;cases e
 .rcases Rd e with e |⟨_,rfl⟩
  .exact .inl (h.r.owN n b e)
  .exact .inr rfl
 .rcases Rd e with e |⟨_,rfl⟩
  .exact h.own n b e
  .exact h0
 .show(st++[(xs,0)]).length=(l.σ++[a]).length;simp[h.al]
 .rcases Rd e1 with e1 |⟨q1,rfl⟩ <;> rcases Rd e2 with e2 |⟨q2,q3⟩
  .exact h.inj n m b e1 e2
  .exact absurd q3 (old n b e1)
  .exact absurd rfl (old m b e2)
  .lia
 .have:n<st.length:=by
   rcases Nat.lt_or_ge n st.length with q |q
   .exact q
   .rw[Qo q]at e;cases e
  rw[Zx this];exact e
 .show(l.σ++[a])[st.length]?=some a;rw[h.al,Z2 (Q2 _)];simp
theorem RS.turn (h:RS c l loc st s){n:Nat}{a:Addr}{p:List V×Nat}{xs:List V}{items:List Value}{h':Heap}(ea:l.σ[n]?=some a)(ep:st[n]?=some p)(hs:Heap.SameBut a s.heap h')(hp:h'.PlainList a items.toArray)(hv:Y0 l s.heap xs items):
  RS c l loc (st.set n (xs,p.2+1)) {s with heap:=h' }/\OW c Z l st s l (st.set n (xs,p.2+1)) {s with heap:=h'}:=by
 have aN:l.N a:=h.r.owN n a ea;obtain⟨p0,its0,_,hp0⟩:=h.live ea;have hn:n<st.length:=by
  rcases Nat.lt_or_ge n st.length with q |q
  .exact q
  .rw[Qo q]at ep;cases ep
 obtain⟨ml,hns,hLo,hB⟩:=h.r.names;have ne:a≠c.env.locals:=λ q=>Re hns (q▸hp0);refine⟨⟨⟨?_,⟨ml,hns.sameBut hs (Ne.symm ne),λ y u e=>?_,hB⟩,λ m q e=>?_,λ b hb=>?_,h.r.tk,h.r.loN,h.r.clN,h.r.owN⟩,h.hB,h.own,h.cel,h.lL,h.fr,by rw[List.length_set];exact h.al,h.inj,h.cinj,λ y b e=>?_⟩,
  ⟨λ J J e=>e,λ J J e=>e,λ J q=>q,λ J q=>.inl q,λ J J e=>.inl e,λ b o e=>if q:b=a then let ⟨j,z⟩:=hp;⟨_,q▸z⟩ else⟨o,(hs.2 b q).trans e⟩,λ b o e J J J q=>(hs.2 b (λ z=>q n (z▸ea))).trans e,λ m q e=>?_,λ m b q q' eb eq1 eq2 ev o ho=>?_,λ J=>rfl⟩⟩
 .obtain⟨m,F⟩:=h.r.fr;exact⟨m,F.to (F.ns.sameBut hs (λ q=>ne (q▸h.lL.symm))) λ b J o e=>(hs.2 b (λ q=>by rw[q,h.own n a ea]at e;cases e)).trans⟩
 .obtain⟨w',h1,h2⟩:=hLo y u e;exact⟨w',h1.same hs aN,h2.imp id λ ⟨q,b,eb,o,ho,hd⟩=>⟨q,b,eb,o,(hs.2 b (λ z=>B7 ⟨o,ho,hd⟩ (z▸hp0))).trans ho,hd⟩⟩
 .by_cases q1:m=n
  .subst q1;rw[List.getElem?_set_self hn]at e;cases e;exact⟨a,items,ea,hp,hv.same hs aN⟩
  .rw[List.getElem?_set_ne (Ne.symm q1)]at e;obtain⟨b,its,e1,⟨j,e2⟩,e3⟩:=h.r.lists m q e;exact⟨b,its,e1,⟨j,(hs.2 b (λ z=>q1 (h.inj m n b e1 (z▸ea)))).trans e2⟩,e3.same hs aN⟩
 .by_cases q:b=a
  .subst q;obtain⟨j,e⟩:=hp;exact⟨_,e⟩
  .obtain⟨o,ho⟩:=h.r.low b hb;exact⟨o,(hs.2 b q).trans ho⟩
 .obtain⟨u,hc⟩:=h.cells y b e;obtain⟨o,ho,hd⟩:=id hc;exact⟨u,o,(hs.2 b (λ z=>B7 hc (z▸hp0))).trans ho,hd⟩
 .by_cases q1:m=n
  .subst q1;rw[ep]at e;cases e;exact⟨_,List.getElem?_set_self hn,Nat.le_succ _⟩
  .exact⟨q,by rw[List.getElem?_set_ne (Ne.symm q1)];exact e,Q2 _⟩
 .by_cases q1:m=n
  .subst q1;rw[List.getElem?_set_self hn]at eq2;cases eq2;rw[ep]at eq1;cases eq1;simp at ev
  .exact(hs.2 b (λ z=>q1 (h.inj m n b eb (z▸ea)))).trans ho
end
inductive Fl where
 |next |brk |cont
 |ret (v:V)
noncomputable abbrev KF:=Fl->Loc->Q4->Prop
def FlR (l:Lay)(h:Heap)(fl:Fl)(fw:Flow):Prop:=fl.rec (fw=.next) (fw=.brk) (fw=.cont) λ v=>∃w,fw=.ret w/\VR l h v w
theorem FlR.next {l:Lay}{h:Heap}:FlR l h .next .next:=rfl
theorem FlR.brk {l:Lay}{h:Heap}:FlR l h .brk .brk:=rfl
theorem FlR.cont {l:Lay}{h:Heap}:FlR l h .cont .cont:=rfl
theorem FlR.ret {l:Lay}{h:Heap}{v:V}{w:Value}(x:VR l h v w):FlR l h (.ret v) (.ret w):=⟨w,rfl,x⟩
noncomputable def Xk (P:Loc->Q4->Prop)(K:KF):KF:=λ fl loc st=>fl.rec (motive:=λ J=>Prop) (P loc st) (K .brk loc st) (K .cont loc st) λ v=>K (.ret v) loc st
noncomputable def Bo (I:Loc->Q4->Prop)(K:KF):KF:=λ fl loc st=>fl.rec (motive:=λ J=>Prop) (I loc st) (K .next loc st) (I loc st) λ v=>K (.ret v) loc st
def XS (W:Qj)(c:Cx)(t:Sem Flow)(loc:Loc)(st:Q4)(K:KF):Prop:=
 ∀(l:Lay) (s:Shared) (Q:Flow->Shared->Prop) (E:Value->Shared->Prop),RS c l loc st s->
  (∀fl fw loc' st' l' s',Z6 s s'->s.toks<=s'.toks->OW c (λ J=>False) l st s l' st' s'->RS c l' loc' st' s'->FlR l' s'.heap fl fw->K fl loc' st'->Q fw s')->wpAny (model W.prog W.w) c.A t Q E s
noncomputable def Yx (loc:Loc)(x:Str)(v:V):Loc:=loc.rec [(x,v)] λ p r s=>cond (x==p.1) ((x,v)::r) (p::s)
theorem Bh {x:Str}{v:V}(loc:Loc)(y:Str):(Yx loc x v).lookup y=if y=x then some v else loc.lookup y:=by
 induction loc with
 |nil=>exact Ro y
 |cons p r ih=>
  show(cond (x==p.1) ((x,v)::r) (p::Yx r x v)).lookup y=_;cases e:x==p.1 with
  |true=>
   rw[Zi,Ro,Qz,<- eq_of_beq e];by_cases h:y=x
   .rw[if_pos h,if_pos h]
   .rw[if_neg h,if_neg h,Ql.mpr h]
  |false=>
   rw[Zo,Qz,Qz,ih];cases h:y==p.1 with
   |true=>
    have:y≠x:=λ q=>by rw[<- q,h]at e;cases e
    exact(if_neg this).symm
   |false=>rfl
def Jx (kd:Kd)(bnd:List Str)(x:Str):Prop:=(kd x==some .local||kd x==some .cell)=true/\bnd.contains x=false
section
variable {W:Qj}{c:Cx}{loc:Loc}{st:Q4}{K:KF}
theorem E3 (h:K .next loc st):XS W c (execs [] c.env) loc st K:=λ J s Q E hR hQ=>
 wpAny_execs_nil (hQ _ _ _ _ _ _ (Z6.refl s) (Q2 _) OW.refl hR .next h)
theorem E4 {a:Stmt}{r:List Stmt}(h:XS W c (exec a c.env) loc st (Xk (λ loc' st'=>XS W c (execs r c.env) loc' st' K) K)):XS W c (execs (a::r) c.env) loc st K:=λ l s Q E hR hQ=>by
 rw[execs_cons];refine Q0 (h l s _ E hR λ fl fw loc' st' l' s' sm tk ow hR' hf h'=>?_);cases fl with
 |next=>cases hf;exact h' l' s' Q E hR' λ fl fw loc'' st'' l'' s'' sm2 tk2 ow2 hR2 hf2 h2=>hQ fl fw loc'' st'' l'' s'' (sm.trans sm2) (Q1 tk tk2) (ow.trans ow2) hR2 hf2 h2
 |brk=>cases hf;exact Q5 (hQ _ _ _ _ _ _ sm tk ow hR' .brk h')
 |cont=>cases hf;exact Q5 (hQ _ _ _ _ _ _ sm tk ow hR' .cont h')
 |ret v=>obtain⟨w,rfl,v⟩:=hf;exact Q5 (hQ _ _ _ _ _ _ sm tk ow hR' (.ret v) h')
theorem RS.setN (O:Ok W c)(hch:∀x,c.env.kindOf x=some .cell->(c.env.cells.lookup x).isSome=true){l:Lay}{s:Shared}(h:RS c l loc st s){x:Str}{v:V}{w:Value}(hk:Jx c.env.kindOf c.bnd x)(hv:VR l s.heap v w){Q:Unit->Shared->Prop}{E:Value->Shared->Prop}
  (hQ:∀s',Z6 s s'->s.toks<=s'.toks->OW c (λ J=>False) l st s l st s'->RS c l (Yx loc x v) st s'->Q () s'):wpAny (model W.prog W.w) c.A (storeName c.env x w) Q E s:=by
 obtain⟨h1,h2⟩:=hk;exact Z0 (h.set O ((Bool.or_eq_true_iff.mp h1).imp eq_of_beq λ q=>⟨eq_of_beq q,hch x (eq_of_beq q)⟩) (λ q=>nomatch (Zd.mpr q).symm.trans h2) hv (Bh loc) λ s' sm ow hR' tk=>hQ s' sm tk ow hR')
theorem Nn (O:Ok W c)(hch:∀x,c.env.kindOf x=some .cell->(c.env.cells.lookup x).isSome=true){x:Str}{px pos:Pos}{value:Expr}(hs:swapsWith value (some (.Name x px)) pos.line c.env=pure false)(hk:Jx c.env.kindOf c.bnd x)
  (h:Uv W c value loc st λ v=>K .next (Yx loc x v) st):XS W c (exec (.Assign [.Name x px] value pos) c.env) loc st K:=λ l s Q E hR hQ=>by
 refine wpAny_Assign_Name (h l s _ E hR.r λ v w s1 k1 t1 v1 h1=>?_) hs;exact(hR.keeps k1 t1).setN O hch hk v1 λ s' sm tk ow hR'=>hQ _ _ _ _ _ _ ((Z6.ofK k1).trans sm) (Q1 t1 tk) ((OW.keeps k1).trans ow) hR' .next h1
theorem Nt {e:Expr}{pos:Pos}(h:Uv W c e loc st λ v=>K (.ret v) loc st):XS W c (exec (.Return (some e) pos) c.env) loc st K:=λ l s Q E hR hQ=>
 wpAny_Return_some (h l s _ E hR.r λ J J J k1 t1 v1 h1=>hQ _ _ _ _ _ _ (Z6.ofK k1) t1 (OW.keeps k1) (hR.keeps k1 t1) (.ret v1) h1)
theorem Qfl {pos:Pos}(h:K .brk loc st):XS W c (exec (.Break pos) c.env) loc st K:=λ J s Q E hR hQ=>
 wpAny_Break (hQ _ _ _ _ _ _ (Z6.refl s) (Q2 _) OW.refl hR .brk h)
theorem Quy {e:Expr}{m:Option Expr}{pos:Pos}(h:Ps W c e loc st λ b=>b=true/\K .next loc st):XS W c (exec (.Assert e m pos) c.env) loc st K:=λ l s Q E hR hQ=>
 wpAny_Assert_holds (h l s _ E hR.r λ J J k1 t1 h1=>⟨h1.1,hQ _ _ _ _ _ _ (Z6.ofK k1) t1 (OW.keeps k1) (hR.keeps k1 t1) .next h1.2⟩)
theorem Quk {t:Expr}{a b:List Stmt}{pos:Pos}(h:Ps W c t loc st λ q=>cond q (XS W c (execs a c.env) loc st K) (XS W c (execs b c.env) loc st K)):XS W c (exec (.If t a b pos) c.env) loc st K:=λ l s Q E hR hQ=>by
 refine wpAny_If (h l s _ E hR.r λ q s1 k1 t1 h1=>?_);have go:∀{t:Sem Flow},XS W c t loc st K->wpAny (model W.prog W.w) c.A t Q E s1:=λ h=>h l s1 Q E (hR.keeps k1 t1) λ fl fw loc' st' l' s' sm tk ow hR' hf h'=>
  hQ fl fw loc' st' l' s' ((Z6.ofK k1).trans sm) (Q1 t1 tk) ((OW.keeps k1).trans ow) hR' hf h'
 exact Jo h1 go go
theorem E7 {t:Expr}{body:List Stmt}{pos:Pos}(I:Nat->Loc->Q4->Prop)(n:Nat)(h0:I n loc st)
  (hI:∀n loc st,I n loc st->Ps W c t loc st λ q=>cond q (XS W c (execs body c.env) loc st (Bo (λ loc' st'=>∃m,m<n/\I m loc' st') K)) (K .next loc st)):XS W c (exec (.While t body [] pos) c.env) loc st K:=λ l s Q E hR hQ=>by
 refine wpAny_While (codeAny_whileLoop (λ m s1=>∃loc1 st1 l1,I m loc1 st1/\Z6 s s1/\s.toks<=s1.toks/\OW c (λ J=>False) l st s l1 st1 s1/\RS c l1 loc1 st1 s1) (λ m s1 ⟨loc1,st1,l1,h1,sm1,tk1,ow1,hR1⟩=>?_) n ⟨loc,st,l,h0,Z6.refl s,Q2 _,OW.refl,hR⟩);refine hI m loc1 st1 h1 l1 s1 _ _ hR1.r λ q s2 k2 t2 h2=>?_;have hR2:=hR1.keeps k2 t2;have sm2:=sm1.trans (Z6.ofK k2);have tk2:=Q1 tk1 t2;have ow2:=ow1.trans (OW.keeps k2);cases q with
 |true=>
  rw[if_pos rfl];refine h2 l1 s2 _ _ hR2 λ fl fw loc' st' l' s' sm tk ow hR' hf h'=>?_;have sm:=sm2.trans sm;have tk:=Q1 tk2 tk;have ow:=ow2.trans ow;cases fl with
  |next=>cases hf;obtain⟨m',hm,h'⟩:=h';exact⟨m',hm,loc',st',l',h',sm,tk,ow,hR'⟩
  |cont=>cases hf;obtain⟨m',hm,h'⟩:=h';exact⟨m',hm,loc',st',l',h',sm,tk,ow,hR'⟩
  |brk=>cases hf;exact hQ _ _ _ _ _ _ sm tk ow hR' .next h'
  |ret v=>obtain⟨w,rfl,v⟩:=hf;exact hQ _ _ _ _ _ _ sm tk ow hR' (.ret v) h'
 |false=>
  rw[if_neg Zu];exact wpAny_execs_nil (hQ _ _ _ _ _ _ sm2 tk2 ow2 hR2 .next h2)
end
noncomputable def Lay.lessX (l:Lay)(X:Addr->Prop):Lay:={l with N:=λ b=>l.N b/\¬X b}
noncomputable abbrev Lay.less (l:Lay)(a:Addr):Lay:=l.lessX (·=a)
theorem VR.lessX {l:Lay}{X:Addr->Prop}{h:Heap}{v:V}{w:Value}(x:VR l h v w):VR (l.lessX X) h v w:=VR.to (l:=l) (l':=l.lessX X) (h:=h) (h':=h) (λ J J e=>e) (λ J J e=>e) (λ J n J=>⟨λ q=>n q.1,λ J e=>e⟩) x
theorem Y0.lessX {l:Lay}{X:Addr->Prop}{h:Heap}{v:List V}{w:List Value}(x:Y0 l h v w):Y0 (l.lessX X) h v w:=Y0.to (l:=l) (l':=l.lessX X) (h:=h) (h':=h) (λ J J e=>e) (λ J J e=>e) (λ J n J=>⟨λ q=>n q.1,λ J e=>e⟩) x
section
variable {W:Qj}{c:Cx}{l:Lay}{loc:Loc}{st:Q4}{s s':Shared}{X:Addr->Prop}{a:Addr}
theorem RS.kxX (h:RS c l loc st s)(k:KX X s s')(t:s.toks<=s'.toks)(hN:∀a,X a->l.N a)(ha:∀a,X a->Apart c l a)(hlow:∀a,X a->∃o,s'.heap.get? a=some o):RS c l loc st s'/\OW c X l st s l st s':=
 ⟨⟨h.r.kx k t hN (λ q=>(ha _ q).L rfl) (λ a q=>(ha a q).h0) (λ q=>(ha _ q).loc rfl) (λ x a e q=>(ha a q).cell x a e rfl) (λ n a e q=>(ha a q).own n a e rfl) hlow,h.hB,h.own,h.cel,h.lL,h.fr,h.al,h.inj,h.cinj,
   λ x b e=>let ⟨v,o,ho,hd⟩:=h.cells x b e;⟨v,o,k.get (λ q=>(ha b q).cell x b e rfl) ho,hd⟩⟩,
  ⟨λ J J e=>e,λ J J e=>e,λ J q=>q,λ J q=>.inl q,λ J J e=>.inl e,λ b o e=>by
   by_cases q:X b
   .exact hlow b q
   .exact⟨o,k.get q e⟩,λ b o e q J J J=>k.get q e,λ J p e=>⟨p,e,Q2 _⟩,λ n b J J eb J J J o ho=>k.get (λ q=>(ha b q).own n b eb rfl) ho,λ J=>k.drn⟩⟩
theorem RS.kx1 (h:RS c l loc st s)(k:KX (·=a) s s')(t:s.toks<=s'.toks)(hN:l.N a)(ha:Apart c l a)(hlow:∃o,s'.heap.get? a=some o):RS c l loc st s'/\OW c (·=a) l st s l st s':=h.kxX k t (λ J q=>q▸hN) (λ J q=>q▸ha) λ J q=>q▸hlow
theorem RS.plusX (h:RS c l loc st s)(k:Keeps s s')(t:s.toks<=s'.toks)(hX:∀a,X a->s.heap.get? a=none/\∃o,s'.heap.get? a=some o):RS c (l.plus X) loc st s'/\OW c (λ J=>False) l st s (l.plus X) st s':=
 ⟨⟨h.r.plus k t hX,λ b q=>.inl (h.hB b q),h.own,h.cel,h.lL,h.fr,h.al,h.inj,h.cinj,(h.keeps k t).cells⟩,
  ⟨λ J J e=>e,λ J J e=>e,λ J q=>.inl q,λ b q=>q.elim .inl λ q=>.inr (hX b q).1,λ J J e=>.inl e,λ J o e=>⟨o,Yh k _ _ e⟩,λ J J e J J J J=>Yh k _ _ e,λ J p e=>⟨p,e,Q2 _⟩,λ J J J J J J J J o ho=>Yh k _ _ ho,λ J=>kDr k⟩⟩
theorem RS.plus (h:RS c l loc st s)(k:Keeps s s')(t:s.toks<=s'.toks)(hn:s.heap.get? a=none)(hx:∃o,s'.heap.get? a=some o):RS c (l.plus (·=a)) loc st s'/\OW c (λ J=>False) l st s (l.plus (·=a)) st s':=h.plusX k t λ J q=>q▸⟨hn,hx⟩
theorem RS.doneX (h:RS c l loc st s)(k:KX X s s')(t:s.toks<=s'.toks)(hN:∀a,X a->l.N a)(ha:∀a,X a->Apart c l a)(hB:∀a,X a->¬c.B a):RS c (l.lessX X) loc st s':=by
 refine⟨⟨?_,?_,λ n xs e=>?_,λ b hb=>?_,Qg h.r.tk t,⟨h.r.loN,λ q=>(ha _ q).loc rfl⟩,λ x b e=>⟨h.r.clN x b e,λ q=>(ha b q).cell x b e rfl⟩,λ n b e=>⟨h.r.owN n b e,λ q=>(ha b q).own n b e rfl⟩⟩,λ b q=>⟨h.hB b q,λ z=>hB b z q⟩,h.own,h.cel,h.lL,h.fr,h.al,h.inj,h.cinj,
  λ x b e=>let ⟨v,o,ho,hd⟩:=h.cells x b e;⟨v,o,k.get (λ q=>(ha b q).cell x b e rfl) ho,hd⟩⟩
 .obtain⟨m,F⟩:=h.r.fr;exact⟨m,F.to (F.ns.at' λ o e=>k.get (λ q=>(ha _ q).L rfl) e) λ b J o e=>k.get (λ q=>by rw[(ha b q).h0]at e;cases e)⟩
 .obtain⟨ml,hn,hLo,hB⟩:=h.r.names;refine⟨ml,hn.at' λ o e=>k.get (λ q=>(ha _ q).loc rfl) e,λ y u e=>?_,λ y hy v e=>let ⟨z,u,h1,h2,h3⟩:=hB y hy v e;⟨z,u,h1,h2,Qg h3 t⟩⟩;obtain⟨w,hv,hw⟩:=hLo y u e;exact⟨w,(k.vr hN hv).lessX,hw.imp id λ ⟨hk,b,hc,o,ho,hd⟩=>⟨hk,b,hc,o,k.get (λ q=>(ha b q).cell _ _ hc rfl) ho,hd⟩⟩
 .obtain⟨b,items,h1,h2,h3⟩:=h.r.lists n xs e;exact⟨b,items,h1,let ⟨m,q⟩:=h2;⟨m,k.get (λ q=>(ha b q).own _ _ h1 rfl) q⟩,(k.vrs hN h3).lessX⟩
 .obtain⟨o,ho⟩:=h.r.low b hb.1;exact⟨o,k.get hb.2 ho⟩
theorem RS.done (h:RS c l loc st s)(k:KX (·=a) s s')(t:s.toks<=s'.toks)(hN:l.N a)(ha:Apart c l a)(hB:¬c.B a):RS c (l.less a) loc st s':=h.doneX k t (λ J q=>q▸hN) (λ J q=>q▸ha) λ J q=>q▸hB
theorem Lg {b:Addr}(k:Keeps s s')(e:s'.heap.get? b=none):s.heap.get? b=none:=by
 cases q:s.heap.get? b with
 |none=>rfl
 |some o=>rw[Yh k _ _ q]at e;cases e
theorem OW.dropX {Z:Addr->Prop}{l l':Lay}{st st':Q4}{s s2 s':Shared}(x:OW c (λ b=>Z b\/X b) (l.plus X) st s2 l' st' s')(k:Keeps s s2)(hn:∀a,X a->s.heap.get? a=none):OW c Z l st s l' st' s':=
 ⟨x.σ,x.x,λ b q=>x.N b (.inl q),λ b q=>(x.Nup b q).elim (λ q=>q.elim .inl λ q=>.inr (hn b q)) λ q=>.inr (Lg k q),λ n b e=>(x.new n b e).imp id (Lg k),λ b o e=>x.ex b o (Yh k _ _ e),
  λ b o e z=>x.keep b o (Yh k _ _ e) (λ q=>q.elim z λ q=>nomatch (hn b q).symm.trans e),x.le,λ n b p p' eb ep ep' ev o ho=>x.eq n b p p' eb ep ep' ev o (Yh k _ _ ho),λ q=>(x.dr q).trans (kDr k)⟩
inductive LI {γ:Type} (c:Cx) (Z X:Addr->Prop) (l:Lay) (st:Q4) (s2:Shared) (n:Nat) (P:Nat->Lay->Loc->Q4->γ->Shared->Prop) (m:Nat) (s3:Shared):Prop
 |mk (i:Nat) (l3:Lay) (loc3:Loc) (st3:Q4) (g3:γ) (hm:m+i=n+1) (hi:i<=n) (hR:RS c l3 loc3 st3 s3) (ow:OW c (λ b=>Z b\/X b) l st s2 l3 st3 s3) (sm:Z6 s2 s3) (tk:s2.toks<=s3.toks) (p:P i l3 loc3 st3 g3 s3)
theorem Qqm {γ:Type}{Z:Addr->Prop}{g:γ}{s2:Shared}{it:Value}{target:Expr}{body:List Stmt}{n:Nat}{R:Result->Shared->Prop}(P:Nat->Lay->Loc->Q4->γ->Shared->Prop)(PE:Fl->Lay->Loc->Q4->γ->Shared->Prop)
  (hR:RS c l loc st s) (k2:Keeps s s2) (t2:s.toks<=s2.toks) (hX:∀a,X a->s.heap.get? a=none/\∃o,s2.heap.get? a=some o) (p0:P 0 (l.plus X) loc st g s2)
  (turn:∀i l3 loc3 st3 g3 s3 (Q:Flow->Shared->Prop) (Q':Option Value->Shared->Prop) (E:Value->Shared->Prop),i<n->RS c l3 loc3 st3 s3->OW c (λ b=>Z b\/X b) (l.plus X) st s2 l3 st3 s3->(∀a,X a->l3.N a)->(∀a,X a->Apart c l3 a)->P i l3 loc3 st3 g3 s3->
   (∀fl fw loc' st' g' l' s',Z6 s3 s'->s3.toks<=s'.toks->OW c (λ b=>Z b\/X b) l3 st3 s3 l' st' s'->RS c l' loc' st' s'->FlR l' s'.heap fl fw->fl.rec (motive:=λ J=>Prop) (P (i+1) l' loc' st' g' s') (PE .next l' loc' st' g' s') (P (i+1) l' loc' st' g' s') (λ v=>PE (.ret v) l' loc' st' g' s')->Q fw s')->
   (∀v s1,wpAny (model W.prog W.w) c.A (letOwnedTupleGo target it v) (λ J s1'=>wpAny (model W.prog W.w) c.A (assign target c.env v) (λ J s2=>wpAny (model W.prog W.w) c.A (execs body c.env) Q E s2) E s1') E s1->Q' (some v) s1)->wpAny (model W.prog W.w) c.A (pyNext it) Q' E s3)
  (done:∀l3 loc3 st3 g3 s3 (F:Option Value->Shared->Prop) (E:Value->Shared->Prop),P n l3 loc3 st3 g3 s3->(∀h4 tk4,KX X s3 {s3 with heap:=h4,toks:=tk4 }->(PE .next (l3.lessX X) loc3 st3 g3 {s3 with heap:=h4,toks:=tk4})->F none {s3 with heap:=h4,toks:=tk4})->wpAny (model W.prog W.w) c.A (pyNext it) F E s3)
  (hQ:∀fl fw loc' st' g' l' s',Z6 s s'->s.toks<=s'.toks->OW c Z l st s l' st' s'->RS c l' loc' st' s'->FlR l' s'.heap fl fw->PE fl l' loc' st' g' s'->R (.ok fw) s'):
  codeAny (model W.prog W.w) c.A (.forLoop target it body [] c.env) R s2:=by
 obtain⟨hR2,ow2⟩:=hR.plusX k2 t2 hX;refine codeAny_forLoop_any (LI c Z X (l.plus X) st s2 n P) (λ m s3 hI=>?_) (n+1) (.mk 0 (l.plus X) loc st g rfl (Zy _) hR2 OW.refl (Z6.refl _) (Q2 _) p0);obtain⟨i,l3,loc3,st3,g3,hm,hi,hR3,ow3,sm3,tk3,p⟩:=hI;have sm0:=(Z6.ofK k2).trans sm3;have tk0:=Q1 t2 tk3;have iN:∀a,X a->l3.N a:=λ a q=>ow3.N _ (.inr q);have iA:∀a,X a->Apart c l3 a:=λ a q=>⟨(Apart.fresh hR.r (hX a q).1).L,(Apart.fresh hR.r (hX a q).1).h0,(Apart.fresh hR.r (hX a q).1).loc,(Apart.fresh hR.r (hX a q).1).cell,λ n b e z=>by
  subst z;refine(ow3.new n b e).elim (λ e=>(Apart.fresh hR.r (hX b q).1).own n b e rfl) λ e=>?_;obtain⟨o,ho⟩:=(hX b q).2;rw[ho]at e;cases e⟩
 have nX:∀a,X a->s.heap.get? a=none:=λ a q=>(hX a q).1;have ne:∀b o,s.heap.get? b=some o->¬X b:=λ b o e q=>by rw[nX b q]at e;cases e
 by_cases hlt:i<n
 .refine turn i l3 loc3 st3 g3 s3 _ _ _ hlt hR3 ow3 iN iA p (λ fl fw loc' st' g' l' s' sm tk ow hR' hf h'=>?_) λ v s1 h=>h;have I:P (i+1) l' loc' st' g' s'->∃m',m'<m/\LI c Z X (l.plus X) st s2 n P m' s':=λ q=>
   ⟨m-1,by lia,.mk (i+1) l' loc' st' g' (by lia) hlt hR' (ow3.trans ow) (sm3.trans sm) (Q1 tk3 tk) q⟩
  have D:∀fl fw,FlR l' s'.heap fl fw->PE fl l' loc' st' g' s'->R (.ok fw) s':=λ fl fw=>hQ fl fw loc' st' g' l' s' (sm0.trans sm) (Q1 tk0 tk) ((ow3.trans ow).dropX k2 nX) hR';cases fl with
  |next=>cases hf;exact I h'
  |cont=>cases hf;exact I h'
  |brk=>cases hf;exact D _ _ .next h'
  |ret v=>obtain⟨_,rfl,v⟩:=hf;exact D _ _ (.ret v) h'
 .have hi':i=n:=by lia
  subst hi';refine Z0 (done l3 loc3 st3 g3 s3 _ _ p λ h4 tk4 k4 h' tk=>wpAny_execs_nil ?_);have y:=ow3.dropX k2 nX;refine hQ _ _ _ _ _ _ _ (sm0.trans (Z6.of k4)) (Q1 tk0 tk) ?_ (hR3.doneX k4 tk iN iA λ b z q=>let ⟨o,ho⟩:=hR.r.low _ (hR.hB _ q);ne b o ho z) .next h';exact⟨y.σ,y.x,λ b q=>⟨y.N b q,let ⟨o,ho⟩:=hR.r.low _ q;ne b o ho⟩,λ b q=>y.Nup b q.1,y.new,λ b o e=>let ⟨o',e'⟩:=y.ex b o e;⟨o',k4.get (ne b o e) e'⟩,λ b o e h0 h1 h2 h3=>k4.get (ne b o e) (y.keep b o e h0 h1 h2 h3),y.le,
   λ n b p p' eb ep ep' ev o ho=>k4.get (ne b o ho) (y.eq n b p p' eb ep ep' ev o ho),λ q=>k4.drn.trans (y.dr q)⟩
end
def Us (st:Q4)(v:V)(k:List V->Option (Nat×Nat)->Prop):Prop:=Qzt v (λ n=>(st[n]?).elim False λ p=>k p.1 (some (n,p.2))) (Xv v λ xs=>k xs none)
def okV (st:Q4)(own:Option (Nat×Nat)):Prop:=own.rec True λ q=>(st[q.1]?).map (·.2)=some q.2
def H0 (x:Str)(body:Loc->Q4->KF->Prop)(own:Option (Nat×Nat))(vs:List V)(loc:Loc)(st:Q4)(K:KF):Prop:=
 vs.rec (motive:=λ J=>Loc->Q4->Prop) (K .next) (λ v J r loc st=>body (Yx loc x v) st (Bo (λ loc' st'=>okV st' own/\r loc' st') K)) loc st
def XG {γ:Type}(W:Qj)(c:Cx)(Z:Addr->Prop)(Γ:γ->Lay->Shared->Prop)(t:Sem Flow)(loc:Loc)(st:Q4)(g:γ)(K:Fl->Loc->Q4->γ->Prop):Prop:=
 ∀(l:Lay) (s:Shared) (Q:Flow->Shared->Prop) (E:Value->Shared->Prop),RS c l loc st s->Γ g l s->
  (∀fl fw loc' st' g' l' s',Z6 s s'->s.toks<=s'.toks->OW c Z l st s l' st' s'->RS c l' loc' st' s'->Γ g' l' s'->FlR l' s'.heap fl fw->K fl loc' st' g'->Q fw s')->wpAny (model W.prog W.w) c.A t Q E s
structure Ca {γ:Type}(c:Cx)(Z:Addr->Prop)(Γ:γ->Lay->Shared->Prop):Prop where
 live:∀{g l s a},Γ g l s->Z a->l.N a
 ow:∀{g l st s X l' st' s'},Γ g l s->(∀a,Z a->¬X a)->OW c X l st s l' st' s'->Γ g l' s'
 less:∀{g l s s' i},Γ g l s->¬Z i->KX (·=i) s s'->Γ g (l.less i) s'
def Qmf {γ:Type}(I:Loc->Q4->γ->Prop)(K:Fl->Loc->Q4->γ->Prop):Fl->Loc->Q4->γ->Prop:=λ fl loc st g=>fl.rec (motive:=λ J=>Prop) (I loc st g) (K .next loc st g) (I loc st g) λ v=>K (.ret v) loc st g
def Mo {γ:Type}(x:Str)(body:Loc->Q4->γ->(Fl->Loc->Q4->γ->Prop)->Prop)(own:Option (Nat×Nat))(vs:List V)(loc:Loc)(st:Q4)(g:γ)(K:Fl->Loc->Q4->γ->Prop):Prop:=
 vs.rec (motive:=λ J=>Loc->Q4->γ->Prop) (K .next) (λ v J r loc st g=>body (Yx loc x v) st g (Qmf (λ loc' st' g'=>okV st' own/\r loc' st' g') K)) loc st g
def Qll (st:Q4)(v:V)(own:Option (Nat×Nat)):Prop:=(own=none/\∀n,v≠.own n)\/∃n p,v=.own n/\st[n]?=some p/\own=some (n,p.2)
theorem Dn {v:V}{k k':List V->Prop}(h:Xv v k)(m:∀xs,k xs->k' xs):Xv v k':=
 H3 (M:=λ v=>Xv v k') h (λ x h=>m _ h) λ h=>Ej (M:=λ v=>Xv v k') h (λ x h=>m _ h) λ h=>Hh (M:=λ v=>Xv v k') h (λ x h=>m _ h) λ h=>O6 (M:=λ v=>Xv v k') h (λ x h=>m _ h) λ h=>
  O5 (M:=λ v=>Xv v k') h (λ a b c h=>show X5 _ (X5 _ _) from Zl h λ h1 h=>Zl h λ h2 h=>Zn h1 (Zn h2 (m _ h))) False.elim
theorem Qda {st:Q4}{v:V}{k:List V->Option (Nat×Nat)->Prop}(h:Us st v k):Xv (drf st v) λ xs=>∃own,Qll st v own/\k xs own:=by
 by_cases q:v.ctorIdx=8
 .obtain⟨n,rfl⟩:∃n,v=.own n:=V.own.elim (motive_1:=λ v=>∃n,v=.own n) v q λ n=>⟨n,rfl⟩;refine Uu (o:=st[n]?) h λ p e h=>?_;have e':drf st (.own n)=.list p.1:=show(st[n]?).elim (V.own n) (λ p=>V.list p.1)=_ by rw[e];rfl
  rw[e'];exact⟨_,.inr ⟨n,p,rfl,e,rfl⟩,h⟩
 .delta Us Qzt at h
  rw[dif_neg q]at h
  delta drf
  rw[dif_neg q];exact Dn h λ xs h=>⟨none,.inl ⟨rfl,λ n e=>q (by rw[e];rfl)⟩,h⟩
theorem Qho {l:Lay}{h:Heap}{st:Q4}{v:V}{own:Option (Nat×Nat)}{b:Addr}{k:List V->Option (Nat×Nat)->Prop}(hown:Qll st v own)(v1:VR l h v (.ref b))(h1:Us st v k)(hb:l.N b):∃n p,l.σ[n]?=some b/\st[n]?=some p/\own=some (n,p.2):=by
 rcases hown with⟨_,hno⟩ |⟨n,p,rfl,ep,rfl⟩
 .cases v with
  |none=>cases v1
  |bool=>cases v1
  |int=>obtain⟨_,e⟩:=v1;cases e
  |str=>obtain⟨_,e⟩:=v1;cases e
  |bytes=>obtain⟨_,e⟩:=v1;cases e
  |list xs=>obtain⟨_,_,e,q,_⟩:=v1.inv;cases e;exact(q hb).elim
  |tuple xs=>obtain⟨_,_,e,q,_⟩:=v1.invT;cases e;exact(q hb).elim
  |range=>obtain⟨_,_,_,_,e,q,_⟩:=v1;cases e;exact(q hb).elim
  |own n=>exact(hno n rfl).elim
  |ext n=>exact h1.elim
  |dict=>exact h1.elim
 .obtain⟨_,e,en⟩:=v1;cases e;exact⟨n,p,en,ep,rfl⟩
theorem Quw {γ:Type}{W:Qj}{c:Cx}{Z:Addr->Prop}{Γ:γ->Lay->Shared->Prop}(G:Ca c Z Γ){loc:Loc}{st:Q4}{g:γ}{K:Fl->Loc->Q4->γ->Prop}(O:Ok W c)(hch:∀x,c.env.kindOf x=some .cell->(c.env.cells.lookup x).isSome=true){x:Str}{px pos:Pos}{iter:Expr}{body:List Stmt}(hns:Jj iter=true)(hk:Jx c.env.kindOf c.bnd x)
  (h:Uv W c iter loc st λ v=>Us st v λ xs own=>Mo x (λ loc st g K=>XG W c Z Γ (execs body c.env) loc st g K) own xs loc st g K):XG W c Z Γ (exec (.For (.Name x px) iter body [] pos) c.env) loc st g K:=λ l s Q E hR hG hQ=>by
 refine wpAny_For (h l s _ E hR.r λ v w s1 k1 t1 v1 h1=>?_) (λ x=>Gx hns);have hR1:=hR.keeps k1 t1;refine W4 (hR1.r.drf v1) (Qda h1) λ xs o fp P St hc hW h0=>?_;obtain⟨own,hown,hc⟩:=hc;have Wk:=hW.walks c.A O.handled;have nI:s1.heap.get? s1.heap.objs.size=none:=X4 _
 have kp:Keeps s1 {s1 with heap:=s1.heap.push o}:=⟨_,_,rfl,Yo _ _⟩
 have h0:St 0 ({s1 with heap:=s1.heap.push o}:Shared).heap:=h0
 have hx2:∃ob,({s1 with heap:=s1.heap.push o}:Shared).heap.get? s1.heap.objs.size=some ob:=hW.live _ _ h0
 have src:∀b∈fp,(∃o,s1.heap.get? b=some o)->w=.ref b:=λ b hb ⟨o,ho⟩=>(hW.src b hb).resolve_left λ q=>by rw[q,nI]at ho;cases ho
 have old:=hW.old;have item:=hW.item;have live:=hW.live
 have t2:s.toks<=({s1 with heap:=s1.heap.push o}:Shared).toks:=t1
 clear hW
 generalize s1.heap.objs.size=I at*
 generalize ({s1 with heap:=s1.heap.push o}:Shared)=s2 at*
 have nI0:=Lg k1 nI;have exI:∀b,(∃o,s1.heap.get? b=some o)->b≠I:=λ b ⟨o,ho⟩ q=>by rw[q,nI]at ho;cases ho
 have nZI:∀a,Z a->a≠I:=λ a z=>exI a (hR1.r.low a (G.live hG z));have kN:∀b o,s1.heap.get? b=some o->s2.heap.get? b≠none:=λ b o ho q=>by rw[Yh kp _ _ ho]at q;cases q
 refine Qqm (X:=(·=I)) (Z:=Z) (n:=xs.length) (g:=g) (λ i l3 loc3 st3 g3 s3=>St i s3.heap/\Γ g3 l3 s3/\okV st3 own/\Mo x (λ loc st g K=>XG W c Z Γ (execs body c.env) loc st g K) own (xs.drop i) loc3 st3 g3 K) (λ fl l' loc' st' g' s'=>Γ g' l' s'/\K fl loc' st' g') hR (Qi k1 kp) t2
  (λ a q=>q▸⟨nI0,hx2⟩) ⟨h0,G.ow hG (λ a z q=>q) (hR.plus (Qi k1 kp) t2 nI0 hx2).2,?_,hc⟩ (λ i l3 loc3 st3 g3 s3 Q Q' E hlt hR3 ow3 iN iA p hq hq'=>?_) (λ l3 loc3 st3 g3 s3 F E p hF=>?_) λ fl fw loc' st' g' l' s' sm tk ow hR' hf h'=>hQ _ _ _ _ _ _ _ sm tk ow hR' h'.1 hf h'.2
 .rcases hown with⟨rfl,_⟩ |⟨n,p,_,e,rfl⟩
  .trivial
  .show(st[n]?).map (·.2)=some p.2;rw[e];rfl
 .refine Z0 (Wk.item i s3 _ _ hlt p.1 λ y h4 tk4 hP hst4 hk4 tk=>hq' _ _ (wpAny_of_eq rfl ?_))
  have k4:KX (·=I) s3 {s3 with heap:=h4,toks:=tk4}:=⟨h4,tk4,rfl,λ b o n e=>hk4 b o (λ q=>n (Q3.mp q)) e⟩
  obtain⟨hR4,ow4⟩:=hR3.kxX k4 tk iN iA λ J q=>q▸live _ _ hst4;have hG4:=G.ow p.2.1 (λ a z=>nZI a z) ow4;have sm4:=Z6.of k4
  have hst4:St (i+1) ({s3 with heap:=h4,toks:=tk4}:Shared).heap:=hst4
  have hk4:∀b o,b≠I->s3.heap.get? b=some o->({s3 with heap:=h4,toks:=tk4}:Shared).heap.get? b=some o:=λ b o n e=>k4.get n e
  clear k4
  generalize ({s3 with heap:=h4,toks:=tk4}:Shared)=s4 at*
  obtain⟨z,hz,hv⟩:=item i y hP;have hc3:=p.2.2.2;rw[show xs.drop i=z::xs.drop (i+1) by
   rw[List.drop_eq_getElem_cons hlt];rw[Q7 hlt]at hz;cases hz;rfl]at hc3
  have kept:∀b o,s1.heap.get? b=some o->¬l.N b->b≠c.env.locals/\(∀x,c.env.cells.lookup x≠some b)/\(∀n:Nat,l3.σ[n]?≠some b):=λ b o ho nb=>
   ⟨λ q=>nb (q▸hR1.r.loN),λ x q=>nb (hR1.r.clN x b q),λ n q=>(ow3.new n b q).elim (λ q=>nb (hR1.r.owN n b q)) λ q=>kN b o ho q⟩
  have hv4:VR l3 s4.heap z y:=VR.to (l:=l) (l':=l3) (h:=s1.heap) (h':=s4.heap) (λ n a e=>ow3.σ n a e) ow3.x (λ b nb ⟨ob,ho⟩=>⟨λ q=>(ow3.Nup b q).elim (λ q=>q.elim nb (exI b ⟨ob,ho⟩)) λ q=>kN b ob ho q,
   λ o' ho'=>hk4 b o' (exI b ⟨ob,ho⟩) (ow3.keep b o' (Yh kp _ _ ho') (λ q=>q.elim (λ z=>nb (G.live hG z)) (exI b ⟨ob,ho⟩)) (kept b ob ho nb).1 (kept b ob ho nb).2.1 λ n q=>nb (hR1.r.owN n b q))⟩) hv
  refine wpAny_assign_Name (hR4.setN O hch hk hv4 λ s5 sm5 tk5 ow5 hR5=>?_);refine hc3 l3 s5 _ _ hR5 (G.ow hG4 (λ J J q=>q) ow5) λ fl fw loc' st' g' l' s' sm tk' ow hR' hG' hf h'=>?_;refine hq fl fw loc' st' g' l' s' (sm4.trans (sm5.trans sm)) (Q1 tk (Q1 tk5 tk')) ((ow4.mono λ J q=>.inr q).trans ((ow5.mono λ J q=>q.elim).trans (ow.mono λ J q=>.inl q))) hR' hf ?_;have stN:okV st' own->St (i+1) s'.heap:=λ ok'=>by
   refine Wk.frame _ _ _ hst4 λ b hb o' ho'=>?_;have by3:¬Z b->b≠c.env.locals->(∀x,c.env.cells.lookup x≠some b)->(∀n:Nat,l3.σ[n]?≠some b)->s'.heap.get? b=some o':=λ q0 q1 q2 q3=>
    ow.keep b o' (ow5.keep b o' ho' (λ q=>q) q1 q2 q3) q0 q1 q2 q3
   rcases old b hb with rfl |⟨hex,nb |⟨n,hn⟩⟩
   .exact by3 (λ z=>nZI _ z rfl) (iA b rfl).loc (λ x q=>(iA b rfl).cell x _ q rfl) (λ n q=>(iA b rfl).own n _ q rfl)
   .obtain⟨o,ho⟩:=hex;obtain⟨q1,q2,q3⟩:=kept b o ho nb;exact by3 (λ z=>nb (G.live hG z)) q1 q2 q3
   .have hwb:=src b hb hex;obtain⟨n',p',en,ep,rfl⟩:=Qho hown (hwb▸v1) h1 (hR1.r.owN n b hn);obtain⟨p3,e3,v3⟩:=Option.map_eq_some_iff.mp (show(st3[n']?).map (·.2)=some p'.2 from p.2.2.1);obtain⟨p5,e5,v5⟩:=Option.map_eq_some_iff.mp (show(st'[n']?).map (·.2)=some p'.2 from ok');have eb3:l3.σ[n']?=some b:=ow3.σ n' b en;exact ow.eq n' b p3 p5 eb3 e3 e5 (v5.trans v3.symm) o' (ow5.eq n' b p3 p3 eb3 e3 e3 rfl o' ho')
  cases fl with
  |next=>exact⟨stN h'.1,hG',h'⟩
  |cont=>exact⟨stN h'.1,hG',h'⟩
  |brk=>exact⟨hG',h'⟩
  |ret v=>exact⟨hG',h'⟩
 .refine Wk.done s3 _ _ p.1 λ h4 tk4 hk4=>?_
  have k4:KX (·=I) s3 {s3 with heap:=h4,toks:=tk4}:=⟨h4,tk4,rfl,λ b o n e=>hk4 b o (λ q=>n (Q3.mp q)) e⟩
  have hc3:=p.2.2.2;rw[List.drop_length]at hc3;exact hF h4 tk4 k4 ⟨G.less p.2.1 (λ z=>nZI _ z rfl) k4,hc3⟩
def Qn5 (op:Operator)(a b:V)(k:V->Prop):Prop:=
 Uh a (λ x=>Uh b λ y=>ite (op=.Add) (k (.int (x+y))) <| ite (op=.Sub) (k (.int (x-y))) <| ite (op=.FloorDiv) (y≠0/\Builtin.divisionGoesByPylong x y=false/\k (.int (x.fdiv y))) False) <|
 Jz a λ x=>Jz b λ y=>ite (op=.Add) (x.length+y.length<=sizeLine/\k (.str (x++y))) False
theorem Qxu {W:Qj}{c:Cx}{l:Lay}{s:Shared}{op:Operator}{a b:V}{wa wb:Value}{k:V->Prop}(ha:VR l s.heap a wa)(hb:VR l s.heap b wb)(h:Qn5 op a b k):Gv W c (inplaceOp op wa wb) l s k:=by
 delta Qn5 at h
 exact(VD.of ha).vi h (λ x t h=>(VD.of hb).vi h (λ y u h=>Yr h (λ h Q E hQ=>by exact PyProof.Rows.iadd_int (hQ _ _ _ (Xw _ _) (.int _ _) h)) λ h=>Yr h (λ h Q E hQ=>by exact PyProof.Rows.isub_int (hQ _ _ _ (Xw _ _) (.int _ _) h)) λ h=>
   Yr h (λ h Q E hQ=>by exact ifloordiv_int h.1 (hQ _ _ _ (Xw _ _) (.int _ _) h.2.2) (.inl h.2.1)) False.elim) False.elim) λ h=>
  (VD.of ha).vs h (λ x t h=>(VD.of hb).vs h (λ y u h=>Yr h (λ h Q E hQ=>by exact SB.iadd (λ t' n=>hQ _ _ _ (Xw _ _) (.str _ _) h.2) h.1) False.elim) False.elim) False.elim
section
variable {W:Qj}{c:Cx}{loc:Loc}{st:Q4}{K:KF}
theorem Qez (O:Ok W c)(hch:∀x,c.env.kindOf x=some .cell->(c.env.cells.lookup x).isSome=true){x:Str}{px pos:Pos}{op:Operator}{value:Expr}(hk:Jx c.env.kindOf c.bnd x)(hcd:(x==("__classdict__":Str))=false)
  {a:V} (ha:loc.lookup x=some a) (h:Uv W c value loc st λ v=>Qn5 op a v λ r=>K .next (Yx loc x r) st):XS W c (exec (.AugAssign (.Name x px) op value pos) c.env) loc st K:=λ l s Q E hR hQ=>by
 refine wpAny_AugAssign_Name (J4 O hR.r ha hcd λ wa va=>h l s _ E hR.r λ v w s1 k1 t1 v1 h1=>(Qxu (va.sub (Yh k1)) v1 h1).use λ r wr s2 k2 t2 v2 h2=>?_);exact((hR.keeps k1 t1).keeps k2 t2).setN O hch hk v2 λ s' sm tk ow hR'=>hQ _ _ _ _ _ _ ((Z6.ofK (Qi k1 k2)).trans sm) (Q1 (Q1 t1 t2) tk) ((OW.keeps (Qi k1 k2)).trans ow) hR' .next h2
theorem Qe6 (O:Ok W c)(hch:∀x,c.env.kindOf x=some .cell->(c.env.cells.lookup x).isSome=true){x:Str}{px pos lpos:Pos}{es:List Expr}(hs:Z8 es=true)(hk:Jx c.env.kindOf c.bnd x)
  (h:Ab W c es loc st λ vs=>vs.length<=sizeLine/\K .next (Yx loc x (.own st.length)) (st++[(vs,0)])):XS W c (exec (.Assign [.Name x px] (.List es lpos) pos) c.env) loc st K:=λ l s Q E hR hQ=>by
 refine wpAny_Assign_Name ?_ rfl;refine List_ (h l s _ _ E hR.r λ vs ws s1 k1 t1 v1 h1=>wpAny_newList ?_ (by rw[<- v1.length];exact h1.1));have hR1:=hR.keeps k1 t1
 have kp:Keeps s1 {s1 with heap:=s1.heap.push {cls:=.type "list",data:=.seq ws.toArray}}:=⟨_,_,rfl,Yo _ _⟩
 have nI:=X4 s1.heap;obtain⟨hR2,ow2,v2⟩:=hR1.adopt (Z:=λ J=>False) (a:=s1.heap.objs.size) (xs:=vs) (items:=ws) kp (Q2 _) nI ⟨_,Qp _ rfl⟩ ((v1.plus λ b q=>q▸nI).sub (Yo _ _));exact hR2.setN O hch hk v2 λ s' sm tk ow hR'=>hQ _ _ _ _ _ _ ((Z6.ofK (Qi k1 kp)).trans sm) (Q1 t1 tk) ((OW.keeps k1).trans (ow2.trans ow)) hR' .next h1.2
theorem Y0.erase {l:Lay}{h:Heap}{xs:List V}:∀{ws:List Value} (k:Nat),Y0 l h xs ws->Y0 l h (xs.eraseIdx k) (ws.eraseIdx k):=by
 induction xs with
 |nil=>intro ws k r;cases r;exact .nil
 |cons x xs ih=>
  intro ws k r;obtain⟨w,ws,rfl,a,b⟩:=r.inv;cases k with
  |zero=>exact b
  |succ k=>exact .cons a (ih k b)
theorem Qeq (O:Ok W c){o:Str}{op ip pos spos:Pos}{i:Expr}{xx:Nat}(hcd:(o==("__classdict__":Str))=false)(hd:(o==("__debug__":Str))=false){n:Nat}(ho:loc.lookup o=some (.own n))
  (h:Uv W c i loc st λ v=>∃p ix k,v=.int ix/\st[n]?=some p/\p.1.length<=16777216/\Builtin.List.listFitsIndex ix=true/\seqIndex? ix p.1.length=some k/\k<p.1.length/\K .next loc (st.set n (p.1.eraseIdx k,p.2+1))):
  XS W c (exec (.Delete [.Subscript (.Name o op) i ip] pos) c.env) loc st K:=λ l s Q E hR hQ=>by
 refine Z0 ?_;refine wpAny_Delete (wpAny_deleteEach_cons ?_);rw[arm_delete_Subscript];refine Q0 (wpAny_Name (J4 O hR.r ho hcd λ w hw=>Q0 (Z1 (h l s _ E hR.r λ v wi s1 k1 t1 v1 h1=>?_))) hd);obtain⟨p,ix,k,rfl,ep,hz,hf,hk,hlt,h1⟩:=h1;obtain⟨t,rfl⟩:=v1;obtain⟨a,rfl,ea⟩:=hw;have hR1:=hR.keeps k1 t1;obtain⟨b,items,eb,hp,hv⟩:=hR1.r.lists n p ep;rw[ea]at eb;cases eb;have hlen:=hv.length;refine Q0 (wpAny_standAt (Q0 (Z1 (wpAny_delItem_plain hp hf (k:=k) (by rw[Z4,<- hlen];exact hk) (λ h' hp' hs'=>?_) (by simp only[Z4,Zv];lia)))));have e':(items.eraseIdx k).toArray=items.toArray.eraseIdxIfInBounds k:=by
  simp
 obtain⟨hR2,ow2⟩:=hR1.turn (Z:=λ J=>False) (xs:=p.1.eraseIdx k) (items:=items.eraseIdx k) ea ep hs' (by rw[e'];exact hp') (hv.erase k);refine wpAny_release ?_;refine wpAny_deleteEach_nil ?_;intro tk;exact hQ _ _ _ _ _ _ ((Z6.ofK k1).trans ⟨h',s1.toks,_,rfl⟩) tk ((OW.keeps k1).trans ow2) hR2 .next h1
theorem Qfd (O:Ok W c)(hch:∀x,c.env.kindOf x=some .cell->(c.env.cells.lookup x).isSome=true){x:Str}{px pos apos cpos:Pos}{o e:Expr}(hs:Z8 [e]=true)(hb:G0 o=true)(hl:(apos.endLine==cpos.line)=true)(hk:Jx c.env.kindOf c.bnd x)
  (h:Uv W c o loc st λ ov=>∃y,ov=.str y/\Uv W c e loc st λ v=>∃z,v=.str z/\(z.length==0)=false/\y.length<=sizeLine/\(Builtin.Str.partsBetween y (Builtin.Str.occurrences y z 0 y.length (y.length+1)) z.length).length<=sizeLine/\
   K .next (Yx loc x (.own st.length)) (st++[((Txt.split y z).map V.str,0)])):XS W c (exec (.Assign [.Name x px] (.Call (.Attribute o "split" apos) [e] [] cpos) pos) c.env) loc st K:=λ l s Q E hR hQ=>by
 refine Z0 ?_;refine wpAny_Assign_Name ?_ rfl;refine wpAny_Call_method_lateS (B4 hb) (by rw[Bn hs];rfl) hl ?_;refine h l s _ E hR.r λ ov wo s1 k1 t1 v1 h1=>?_;obtain⟨y,rfl,h1⟩:=h1;obtain⟨t,rfl⟩:=v1;have hR1:=hR.keeps k1 t1;refine⟨"str","str.split",F.plainAttrs_str,F.slot_str_split,F.type_str_split,typeIs_str _ _ _,(λ J e=>nomatch e),?_⟩;refine Uk hs ?_;rw[Y5 hs];refine spliced_cons (h1 l s1 _ E hR1.r λ v w s2 k2 t2 v2 h2=>spliced_nil ?_);obtain⟨z,rfl,hz,h3,h4,h5⟩:=h2;obtain⟨u,rfl⟩:=v2;have hR2:=hR1.keeps k2 t2;have nI:=X4 s2.heap;refine Z0 (D6 hz h3 h4 λ ps h' n e1 e2 e3 tk2=>?_)
 have kp:Keeps s2 {s2 with heap:=h',toks:=n}:=kOf e2
 have hv:Y0 (l.plus (·=s2.heap.objs.size)) h' ((Txt.split y z).map V.str) (strValues ps):=by rw[<- e1];exact Ou ps
 obtain⟨hR3,ow3,v3⟩:=hR2.adopt (Z:=λ J=>False) kp tk2 nI e3 hv;exact hR3.setN O hch hk v3 λ s' sm tk ow hR' tk'=>hQ _ _ _ _ _ _ ((Z6.ofK (Qi k1 (Qi k2 kp))).trans sm) tk' ((OW.keeps (Qi k1 k2)).trans (ow3.trans ow)) hR' .next h5
end
section
variable {W:Qj}{c:Cx}{loc:Loc}{st:Q4}
theorem Eg {l l':Lay}{st st':Q4}{s s':Shared}(hR:R c l loc st s)(ow:OW c (λ J=>False) l st s l' st' s')(b:Addr)(nb:¬l.N b)(hex:∃o,s.heap.get? b=some o):¬l'.N b/\∀o,s.heap.get? b=some o->s'.heap.get? b=some o:=by
 obtain⟨ob,ho⟩:=hex;refine⟨λ q=>(ow.Nup b q).elim nb λ q=>(by rw[ho]at q;cases q),λ o e=>?_⟩;exact ow.keep b o e (λ q=>q) (λ q=>nb (q▸hR.loN)) (λ x q=>nb (hR.clN x b q)) (λ n q=>nb (hR.owN n b q))
theorem VR.ow {l l':Lay}{st st':Q4}{s s':Shared}(hR:R c l loc st s)(ow:OW c (λ J=>False) l st s l' st' s'){v:V}{w:Value}(x:VR l s.heap v w):VR l' s'.heap v w:=
 VR.to (l:=l) (l':=l') (h:=s.heap) (h':=s'.heap) (λ n a e=>ow.σ n a e) ow.x (λ b nb hex=>Eg hR ow b nb hex) x
def Fa (W:Qj)(c:Cx)(e:Expr)(loc:Loc)(st:Q4)(k:V->Q4->Prop):Prop:=
 ∀(l:Lay) (s:Shared) (Q:Value->Shared->Prop) (E:Value->Shared->Prop),RS c l loc st s->
  (∀v w st' l' s',Z6 s s'->s.toks<=s'.toks->OW c (λ J=>False) l st s l' st' s'->RS c l' loc st' s'->VR l' s'.heap v w->k v st'->Q w s')->wpAny (model W.prog W.w) c.A (eval e c.env) Q E s
def Pa (W:Qj)(c:Cx)(es:List Expr)(loc:Loc)(st:Q4)(k:List V->Q4->Prop):Prop:=
 ∀(l:Lay) (s:Shared) (pos:Pos) (Q:List Value->Shared->Prop) (E:Value->Shared->Prop),RS c l loc st s->
  (∀vs ws st' l' s',Z6 s s'->s.toks<=s'.toks->OW c (λ J=>False) l st s l' st' s'->RS c l' loc st' s'->Y0 l' s'.heap vs ws->k vs st'->Q ws s')->wpAny (model W.prog W.w) c.A (spliced (backTo pos (starEach es c.env))) Q E s
theorem Fa.of {e:Expr}{k:V->Q4->Prop}(h:Uv W c e loc st λ v=>k v st):Fa W c e loc st k:=λ l s Q E hR hQ=>
 h l s Q E hR.r λ v w s1 k1 t1 v1 h1=>hQ v w st l s1 (Z6.ofK k1) t1 (OW.keeps k1) (hR.keeps k1 t1) v1 h1
theorem Fa.own {es:List Expr}{lpos:Pos}{k:V->Q4->Prop}(h:Ab W c es loc st λ vs=>vs.length<=sizeLine/\k (.own st.length) (st++[(vs,0)])):Fa W c (.List es lpos) loc st k:=λ l s Q E hR hQ=>by
 refine List_ (h l s _ _ E hR.r λ vs ws s1 k1 t1 v1 h1=>wpAny_newList ?_ (by rw[<- v1.length];exact h1.1));have hR1:=hR.keeps k1 t1
 have kp:Keeps s1 {s1 with heap:=s1.heap.push {cls:=.type "list",data:=.seq ws.toArray}}:=⟨_,_,rfl,Yo _ _⟩
 have nI:=X4 s1.heap;obtain⟨hR2,ow2,v2⟩:=hR1.adopt (Z:=λ J=>False) (a:=s1.heap.objs.size) (xs:=vs) (items:=ws) kp (Q2 _) nI ⟨_,Qp _ rfl⟩ ((v1.plus λ b q=>q▸nI).sub (Yo _ _));exact hQ _ _ _ _ _ (Z6.ofK (Qi k1 kp)) t1 ((OW.keeps k1).trans ow2) hR2 v2 h1.2
theorem P4 {k:List V->Q4->Prop}(h:k [] st):Pa W c [] loc st k:=λ J s J J J hR hQ=>
 spliced_nil (hQ [] [] st _ s (Z6.refl s) (Q2 _) OW.refl hR .nil h)
theorem Cu {e:Expr}{r:List Expr}{k:List V->Q4->Prop}(hs:Z8 (e::r)=true)
  (h:Fa W c e loc st λ v st'=>Pa W c r loc st' λ vs st''=>k (v::vs) st''):Pa W c (e::r) loc st k:=λ l s pos Q E hR hQ=>by
 rw[Y5 hs];refine spliced_cons (h l s _ E hR λ v w st1 l1 s1 sm1 t1 ow1 hR1 v1 h1=>?_);refine h1 l1 s1 pos _ E hR1 λ vs ws st2 l2 s2 sm2 t2 ow2 hR2 v2 h2=>?_;exact hQ (v::vs) (w::ws) st2 l2 s2 (sm1.trans sm2) (Q1 t1 t2) (ow1.trans ow2) hR2 (.cons (v1.ow hR1.r ow2) v2) h2
noncomputable def Be (kd:Kd)(bnd:List Str)(x:Str):Bool:=(kd x==some .local||kd x==some .cell)&&!bnd.contains x
theorem Xm {kd:Kd}{bnd:List Str}{x:Str}(h:Be kd bnd x=true):Jx kd bnd x:=(Qe.mp h).imp_right λ h=>(Bool.not_eq_true' _).mp h
def W0 (kd:Kd)(bnd:List Str)(xs:List Str)(vs:List V)(loc:Loc)(k:Loc->Prop):Prop:=
 xs.rec (motive:=λ J=>List V->Loc->Prop) (λ vs loc=>on0 vs (k loc)) (λ x J r vs loc=>vs.rec (motive:=λ J=>Prop) False λ v vs J=>X5 (Be kd bnd x) (r vs (Yx loc x v))) vs loc
theorem Od (O:Ok W c)(hch:∀x,c.env.kindOf x=some .cell->(c.env.cells.lookup x).isSome=true)(xs:List Str):∀(vs:List V) (ws:List Value) {l:Lay} {loc:Loc} {st:Q4} {s:Shared} {k:Loc->Prop},RS c l loc st s->Y0 l s.heap vs ws->W0 c.env.kindOf c.bnd xs vs loc k->
  ∀{Q:Unit->Shared->Prop} {E:Value->Shared->Prop},(∀loc' s',Z6 s s'->s.toks<=s'.toks->OW c (λ J=>False) l st s l st s'->RS c l loc' st s'->k loc'->Q () s')->wpAny (model W.prog W.w) c.A (assignInOrder (xs.map λ n=>bindName c.env n) ws) Q E s:=by
 induction xs with
 |nil=>
  intro vs ws l loc st s k hR hv h Q E hQ;refine Bg (M:=λ vs=>Y0 l s.heap vs ws->_) h (λ h hv=>?_) hv;cases hv;exact Q5 (hQ _ _ (Z6.refl s) (Q2 _) OW.refl hR h)
 |cons x xs ih=>
  intro vs ws l loc st s k hR hv h Q E hQ;cases vs with
  |nil=>exact h.elim
  |cons v vs=>
   obtain⟨w,ws,rfl,a,b⟩:=hv.inv;refine Zl h λ hn h=>?_;show wpAny _ _ (assignInOrder (bindName c.env x::xs.map λ n=>bindName c.env n) (w::ws)) _ _ _;refine Q0 (Z1 (wpAny_bindName (hR.setN O hch (Xm hn) a λ s1 sm1 t1 ow1 hR1=>?_)));have b1:Y0 l s1.heap vs ws:=Y0.to (l:=l) (l':=l) (h:=s.heap) (h':=s1.heap) (λ J J e=>e) (λ J J e=>e) (λ b nb hex=>Eg hR.r ow1 b nb hex) b;exact ih _ _ hR1 b1 h λ loc' s' sm t ow hR' h'=>hQ _ _ (sm1.trans sm) (Q1 t1 t) (ow1.trans ow) hR' h'
theorem Y0.rev {l:Lay}{h:Heap}{vs:List V}:∀{ws:List Value},Y0 l h vs ws->Y0 l h vs.reverse ws.reverse:=by
 induction vs with
 |nil=>intro ws r;cases r;exact .nil
 |cons v vs ih=>
  intro ws r;obtain⟨w,ws,rfl,a,b⟩:=r.inv;rw[List.reverse_cons,List.reverse_cons];exact(ih b).append (.cons a .nil)
theorem Lu {kd:Kd}{bnd:List Str}{xs:List Str}{k:Loc->Prop}:∀{vs:List V} {loc:Loc},W0 kd bnd xs vs loc k->xs.length=vs.length:=by
 induction xs with
 |nil=>exact λ h=>Bg h λ J=>rfl
 |cons x xs ih=>
  intro vs loc h;cases vs with
  |nil=>exact h.elim
  |cons v vs=>exact Zm Nat.succ (ih (Nu.mp h).2)
theorem Qc2 (O:Ok W c)(hch:∀x,c.env.kindOf x=some .cell->(c.env.cells.lookup x).isSome=true){K:KF}{ts vs:List Expr}{k1 k2:Nat}{tp vp pos:Pos}{names:List Str}
  (hw:swappedStores [.Tuple ts k1 tp] (.Tuple vs k2 vp) c.env=pure (some names))
  (h:Pa W c vs loc st λ xs st'=>xs.length<=sizeLine/\W0 c.env.kindOf c.bnd names.reverse xs.reverse loc λ loc'=>K .next loc' st'):XS W c (exec (.Assign [.Tuple ts k1 tp] (.Tuple vs k2 vp) pos) c.env) loc st K:=λ l s Q E hR hQ=>by
 refine Assign_Tuple_swapped (names:=names) ?_ rfl hw;refine Tuple_ (h l s _ _ E hR λ xs ws st1 l1 s1 sm1 t1 ow1 hR1 v1 h1=>wpAny_newTuple ?_ (by rw[<- v1.length];exact h1.1))
 have kp:Keeps s1 {s1 with heap:=s1.heap.push {cls:=.type "tuple",data:=.seq ws.toArray}}:=⟨_,_,rfl,Yo _ _⟩
 have e1:=Lu h1.2;rw[List.length_reverse,List.length_reverse]at e1;rw[show names.length=ws.toArray.size from e1.trans v1.length];refine wpAny_unpackItems_tuple O.handled (Vx _ _) λ h' he=>?_
 have kp2:Keeps {s1 with heap:=s1.heap.push {cls:=.type "tuple",data:=.seq ws.toArray}} {s1 with heap:=h'}:=⟨h',s1.toks,rfl,λ b o e=>he b o (Zj (Qh e)) e⟩
 have k3:=Qi kp kp2;have hR3:=hR1.keeps k3 (Q2 _);refine Od O hch names.reverse xs.reverse ws.reverse hR3 ((v1.sub (Yh k3)).rev) h1.2 λ loc' s' sm t ow hR' h'=>?_;exact hQ _ _ _ _ _ _ (sm1.trans ((Z6.ofK k3).trans sm)) (Q1 t1 t) (ow1.trans ((OW.keeps k3).trans ow)) hR' .next h'
noncomputable def Gs (ts:List Expr):Option (List Str):=ts.rec (some []) λ t J r=>if h:t.ctorIdx=23 then Expr.Name.elim t h λ x J=>r.map (x::·) else none
theorem Mj {t:Expr}{r:List Expr}{xs:List Str}(h:Gs (t::r)=some xs):∃x px ys,t=.Name x px/\Gs r=some ys/\xs=x::ys:=by
 have h:(if h:t.ctorIdx=23 then Expr.Name.elim t h (λ x J=>(Gs r).map (x::·)) else none:Option (List Str))=some xs:=h;obtain⟨q,h⟩:=Fz h;obtain⟨x,px,rfl⟩:∃x px,t=.Name x px:=Expr.Name.elim (motive_1:=λ t=>∃x px,t=.Name x px) t q λ x px=>⟨x,px,rfl⟩;obtain⟨ys,h1,h2⟩:=Option.map_eq_some_iff.mp (show(Gs r).map (x::·)=some xs from h);exact⟨x,px,ys,rfl,h1,h2.symm⟩
theorem Mv (O:Ok W c)(hch:∀x,c.env.kindOf x=some .cell->(c.env.cells.lookup x).isSome=true)(ts:List Expr):∀(xs:List Str) (vs:List V) (ws:List Value) {l:Lay} {loc:Loc} {st:Q4} {s:Shared} {k:Loc->Prop},Gs ts=some xs->RS c l loc st s->Y0 l s.heap vs ws->W0 c.env.kindOf c.bnd xs vs loc k->
  ∀{Q:Unit->Shared->Prop} {E:Value->Shared->Prop},(∀loc' s',Z6 s s'->s.toks<=s'.toks->OW c (λ J=>False) l st s l st s'->RS c l loc' st s'->k loc'->Q () s')->wpAny (model W.prog W.w) c.A (assignInOrder ((assignEach ts c.env).map (·.2)) ws) Q E s:=by
 induction ts with
 |nil=>
  intro xs vs ws l loc st s k ht hR hv h Q E hQ;cases ht;refine Bg (M:=λ vs=>Y0 l s.heap vs ws->_) h (λ h hv=>?_) hv;cases hv;exact Q5 (hQ _ _ (Z6.refl s) (Q2 _) OW.refl hR h)
 |cons t ts ih=>
  intro xs vs ws l loc st s k ht hR hv h Q E hQ;obtain⟨x,px,ys,rfl,ht',rfl⟩:=Mj ht;cases vs with
  |nil=>exact h.elim
  |cons v vs=>
   obtain⟨w,ws,rfl,a,b⟩:=hv.inv;refine Zl h λ hn h=>?_;show wpAny _ _ (assignInOrder (assign (.Name x px) c.env::(assignEach ts c.env).map (·.2)) (w::ws)) _ _ _;refine Q0 (Z1 (wpAny_assign_Name (hR.setN O hch (Xm hn) a λ s1 sm1 t1 ow1 hR1=>?_)));have b1:Y0 l s1.heap vs ws:=Y0.to (l:=l) (l':=l) (h:=s.heap) (h':=s1.heap) (λ J J e=>e) (λ J J e=>e) (λ b nb hex=>Eg hR.r ow1 b nb hex) b;exact ih _ _ _ ht' hR1 b1 h λ loc' s' sm t ow hR' h'=>hQ _ _ (sm1.trans sm) (Q1 t1 t) (ow1.trans ow) hR' h'
theorem Mz {env:Env}{ts:List Expr}:∀{xs:List Str},Gs ts=some xs->(assignEach ts env).findIdx? (·.1)=none/\(assignEach ts env).length=xs.length:=by
 induction ts with
 |nil=>intro xs h;cases h;exact⟨rfl,rfl⟩
 |cons t ts ih=>
  intro xs h;obtain⟨x,px,ys,rfl,h',rfl⟩:=Mj h;obtain⟨e1,e2⟩:=ih h';refine⟨?_,Zm Nat.succ e2⟩;show List.findIdx? (·.1) ((false,_)::assignEach ts env)=none;rw[List.findIdx?_cons,e1];rfl
theorem Qnf (O:Ok W c)(hch:∀x,c.env.kindOf x=some .cell->(c.env.cells.lookup x).isSome=true){K:KF}{ts:List Expr}{k1:Nat}{tp pos:Pos}{value:Expr}{names:List Str}(ht:Gs ts=some names)
  (hw:swappedStores [.Tuple ts k1 tp] value c.env=pure none) (hsw:swapsWithSole [.Tuple ts k1 tp] value pos.line c.env=pure false)
  (h:Fa W c value loc st λ v st'=>∃xs,(v=.tuple xs\/v=.list xs)/\W0 c.env.kindOf c.bnd names xs loc λ loc'=>K .next loc' st'):XS W c (exec (.Assign [.Tuple ts k1 tp] value pos) c.env) loc st K:=λ l s Q E hR hQ=>by
 refine Assign_Tuple ?_ hsw hw;refine h l s _ E hR λ v w st1 l1 s1 sm1 t1 ow1 hR1 v1 h1=>?_;obtain⟨xs,hx,h1⟩:=h1
 have key:∃(a:Addr) (items:List Value),w=.ref a/\Y0 l1 s1.heap xs items/\∀{Q:List Value->Shared->Prop},(∀h',Heap.ExtBut s1.heap.objs.size s1.heap h'->Q items {s1 with heap:=h'})->wpAny (model W.prog W.w) c.A (unpackItems (.ref a) items.toArray.size none) Q E s1:=by
  rcases hx with rfl |rfl
  .obtain⟨a,items,rfl,_,hit,hv⟩:=v1.invT;exact⟨a,items,rfl,hv,λ hq=>wpAny_unpackItems_tuple O.handled hit hq⟩
  .obtain⟨a,items,rfl,_,hit,hv⟩:=v1.inv;exact⟨a,items,rfl,hv,λ hq=>kun_itemsOf O.handled hit.isList hq⟩
 obtain⟨a,items,rfl,hv,un⟩:=key;obtain⟨e1,e2⟩:=Mz (env:=c.env) ht;rw[arm_assign_Tuple];refine Q0 (wpAny_standAt ?_)
 delta unpack
 rw[e1,e2,show names.length=items.toArray.size from(Lu h1).trans hv.length];refine Q0 (Z1 (un λ h' he=>?_))
 have kp2:Keeps s1 {s1 with heap:=h'}:=⟨h',s1.toks,rfl,λ b o e=>he b o (Zj (Qh e)) e⟩
 have hR3:=hR1.keeps kp2 (Q2 _);refine Mv O hch ts names xs items ht hR3 (hv.sub (Yh kp2)) h1 λ loc' s' sm t ow hR' h'=>?_;exact hQ _ _ _ _ _ _ (sm1.trans ((Z6.ofK kp2).trans sm)) (Q1 t1 t) (ow1.trans ((OW.keeps kp2).trans ow)) hR' .next h'
theorem Fa.tuple {vs:List Expr}{k2:Nat}{vp:Pos}{k:V->Q4->Prop}(h:Pa W c vs loc st λ xs st'=>xs.length<=sizeLine/\k (.tuple xs) st'):Fa W c (.Tuple vs k2 vp) loc st k:=λ l s Q E hR hQ=>by
 refine Tuple_ (h l s _ _ E hR λ xs ws st1 l1 s1 sm1 t1 ow1 hR1 v1 h1=>wpAny_newTuple ?_ (by rw[<- v1.length];exact h1.1))
 have kp:Keeps s1 {s1 with heap:=s1.heap.push {cls:=.type "tuple",data:=.seq ws.toArray}}:=⟨_,_,rfl,Yo _ _⟩
 exact hQ _ _ _ _ _ (sm1.trans (Z6.ofK kp)) t1 (ow1.trans (OW.keeps kp)) (hR1.keeps kp (Q2 _)) (.tuple (Vk hR1.r.low) (Vx _ _) (v1.sub (Yh kp))) h1.2
end
theorem Qkh {h h':Heap}{L:Addr}{m:Str->Option Value}(x:∀o,h.get? L=some o->∃sl,h'.get? L=some {o with slots:=sl})(h:h.Ns L m):h'.Ns L m:=by
 obtain⟨o,es,ep,ho,hd,r⟩:=h;obtain⟨sl,hs⟩:=x o ho;exact⟨_,es,ep,hs,hd,r⟩
theorem R.slotsP {c:Cx}{l:Lay}{loc:Loc}{st:Q4}{s s':Shared}{X:Addr->Prop}(hR:R c l loc st s)(k:G9 True (λ J=>False) (c.L::c.fs) s s')(t:s.toks<=s'.toks)(hN:Tch c l)(h0:c.h₀.get? c.L=none)(hX:∀a,X a->s.heap.get? a=none/\∃o,s'.heap.get? a=some o):R c (l.plus X) loc st s':=by
 have kL:∀b o,b∉c.L::c.fs->s.heap.get? b=some o->s'.heap.get? b=some o:=λ b o n e=>k.get id n e;have NX:∀a,(False\/True/\a∈c.L::c.fs)->(l.plus X).N a:=λ a q=>q.elim False.elim λ q=>.inl (hN a q.2).1;have hX':∀a,X a->s.heap.get? a=none:=λ a q=>(hX a q).1
 have low:∀a o,s.heap.get? a=some o->∃sl,s'.heap.get? a=some {o with slots:=sl}:=λ a o ho=>by
  by_cases q:a∈c.L::c.fs
  .exact k.sl trivial a q o ho
  .exact⟨o.slots,kL a o q ho⟩
 refine⟨?_,?_,?_,?_,Qg hR.tk t,.inl hR.loN,λ x a e=>.inl (hR.clN x a e),λ n a e=>.inl (hR.owN n a e)⟩
 .obtain⟨m,F⟩:=hR.fr;exact⟨m,Qkh (low _) F.ns,λ b o e n=>kL b o (λ q=>(Qx.mp q).elim (λ q=>by rw[q,h0]at e;cases e) n) (F.keep b o e n),λ b o e=>let ⟨_,z⟩:=F.slot b o e;let ⟨sl,z'⟩:=low b _ z;⟨sl,z'⟩,F.above⟩
 .obtain⟨ml,hn,hLo,hB⟩:=hR.names;refine⟨ml,Qkh (low _) hn,λ y u e=>?_,λ y hy v e=>let ⟨z,u,h1,h2,h3⟩:=hB y hy v e;⟨z,u,h1,h2,Qg h3 t⟩⟩;obtain⟨w,hv,hw⟩:=hLo y u e;exact⟨w,k.kx.vr NX (hv.plus hX'),hw.imp id λ ⟨hk,b,hc,o,ho,hd⟩=>⟨hk,b,hc,let ⟨_,hs⟩:=low b o ho;⟨_,hs,hd⟩⟩⟩
 .intro n xs e;obtain⟨b,items,h1,⟨m,h2⟩,h3⟩:=hR.lists n xs e;exact⟨b,items,h1,⟨m,kL b _ (λ q=>(hN b q).2 n b h1 rfl) h2⟩,k.kx.vrs NX (h3.plus hX')⟩
 .intro a ha
  rcases ha with ha |ha
  .obtain⟨o,ho⟩:=hR.low a ha;exact let ⟨_,hs⟩:=low a o ho;⟨_,hs⟩
  .exact(hX a ha).2
theorem R.slots {c:Cx}{l:Lay}{loc:Loc}{st:Q4}{s s':Shared}(hR:R c l loc st s)(k:G9 True (λ J=>False) (c.L::c.fs) s s')(t:s.toks<=s'.toks)(hN:Tch c l)(h0:c.h₀.get? c.L=none):R c l loc st s':=by
 exact(Zm (λ N=>R c {l with N:=N} loc st s') (funext λ a=>propext ⟨λ q=>q.elim id False.elim,.inl⟩)).mp (hR.slotsP (X:=λ J=>False) k t hN h0 λ J q=>q.elim)
theorem G9.weak {z:Prop}{ts:List Addr}{s s':Shared}(k:G9 z (λ J=>False) ts s s'):G9 True (λ J=>False) ts s s':=
 ⟨k.kx.mono λ J q=>q.imp_right λ w=>⟨trivial,w.2⟩,λ J a ha o e=>by
  by_cases h:z
  .exact k.sl h a ha o e
  .exact⟨o.slots,k.kx.get (λ q=>q.elim id λ w=>h w.1) e⟩⟩
theorem RS.tch {c:Cx}{l:Lay}{loc:Loc}{st:Q4}{s:Shared}(hR:RS c l loc st s){W:Qj}(O:Ok W c):Tch c l:=λ a ha=>by
 rcases Qx.mp ha with rfl |ha
 .refine⟨by have:=hR.r.loN;rwa [hR.lL]at this,λ n b e q=>?_⟩;obtain⟨p,items,_,hp⟩:=hR.live e;obtain⟨m,F⟩:=hR.r.fr;exact Re F.ns (q▸hp)
 .obtain⟨_,h1,o,h2⟩:=O.fsb a ha;exact⟨hR.hB a h1,λ n b e q=>by have z:=hR.own n b e;rw[q,h2]at z;cases z⟩
section
variable {W:Qj}{c:Cx}{loc:Loc}{st:Q4}{K:KF}
theorem Qfn (z:Prop)(hz:z->c.fs=[])(O:Ok W c)(hch:∀x,c.env.kindOf x=some .cell->(c.env.cells.lookup x).isSome=true){x:Str}{px pos spos:Pos}{ev:Expr->Loc->(V->Prop)->Prop}{ts:Expr->Loc->(Bool->Prop)->Prop}{el:Loc->(V->Prop)->Prop}{elt:Expr}{g:Comprehension}{gs:List Comprehension}{scope:Scope}
  (hsw:swapsWith (.ListComp elt (g::gs) scope pos) (some (.Name x px)) spos.line c.env=pure true) (hk:Jx c.env.kindOf c.bnd x)
  (hel:∀C,Ok W (c.comp scope C)->∀loc k,el loc k->Qxl z W (c.comp scope C) elt loc st k) (hev:∀C,Ok W (c.comp scope C)->∀e loc k,ev e loc k->Uv W (c.comp scope C) e loc st k) (hts:∀C,Ok W (c.comp scope C)->∀e loc k,ts e loc k->Ps W (c.comp scope C) e loc st k)
  (hal:(g::gs).all (λ g=>decide (g.is_async=0))=true) (hns:Jj g.iter=true) (hsc:Gq scope=true) (hfr:Vt c.env.kindOf loc scope.names=true)
  (h:Uv W c g.iter loc st λ v=>Xv (drf st v) λ xs=>Wr (V3 (Uj scope c.env.kindOf) ts (cGo (Uj scope c.env.kindOf) el ev ts st gs) g xs (Fy (Uj scope c.env.kindOf) loc) [] λ acc=>K .next (Yx loc x (.list acc)) st)):
  XS W c (exec (.Assign [.Name x px] (.ListComp elt (g::gs) scope pos) spos) c.env) loc st K:=λ l s Q E hR hQ=>by
 rw[exec_Assign_Name_used _ _ _ _ hsw];refine Z0 ?_;refine Q0 (wpAny_standAt (Q0 ?_));have tl:Tch c l:=hR.tch O;show wpAny _ c.A (do let _ <- comprehension (.ListComp elt (g::gs) scope pos) scope c.env _ (newList []) (firstAsync (g::gs)) (firstIter (g::gs) c.env) (some (assign (.Name x px) c.env))) _ _ s;refine Q0 (wpAny_mono (Lo z (use:=some (assign (.Name x px) c.env)) (k:=λ v=>K .next (Yx loc x v) st) (Q:=λ J s'=>s.toks<=s'.toks->Q .next s') (E:=E) O hel hev hts hal hns hsc hfr
  h hR.r (λ J=>tl) λ acc' D C s5 k5 t5 hC hns hv h5=>?_) (λ J s' hq=>Q5 (Q5 hq)) λ J J e=>e)
 show wpAny _ c.A (assign (.Name x px) c.env (.ref D)) _ E s5;obtain⟨m5,hn5⟩:=hns;have hxC:∃o,s5.heap.get? C=some o:=let ⟨o,_,_,ho,_⟩:=hn5;⟨o,ho⟩;have kN:∀b o,b≠c.L->s.heap.get? b=some o->s5.heap.get? b=some o:=λ b o n e=>k5.kx.get (λ q=>q.elim id λ w=>n (by have:=w.2;rw[hz w.1]at this;exact Q3.mp this)) e;have k6:=k5.weak;have exN:∀b o,s.heap.get? b=some o->∃o',s5.heap.get? b=some o':=λ b o e=>by
  by_cases q:b=c.L
  .subst q;obtain⟨sl,z⟩:=k6.sl trivial _ (.head _) o e;exact⟨_,z⟩
  .exact⟨o,kN b o q e⟩
 have hR5:RS c (l.plus (·=C)) loc st s5:=⟨hR.r.slotsP k6 t5 tl hR.fr λ a q=>q▸⟨hC,hxC⟩,λ b q=>.inl (hR.hB b q),hR.own,hR.cel,hR.lL,hR.fr,hR.al,hR.inj,hR.cinj,λ x a e=>by
  obtain⟨v,o,ho,hd⟩:=hR.cells x a e;by_cases q:a=c.L
  .subst q;obtain⟨sl,z⟩:=k6.sl trivial _ (.head _) o ho;exact⟨v,_,z,hd⟩
  .exact⟨v,o,kN a o q ho,hd⟩⟩
 have ow5:OW c (λ J=>False) l st s (l.plus (·=C)) st s5:=⟨λ J J e=>e,λ J J e=>e,λ J q=>.inl q,λ b q=>q.elim .inl λ q=>.inr (q▸hC),λ J J e=>.inl e,exN,
  λ b o e J h2 J J=>kN b o (λ q=>h2 (q.trans hR.lL.symm)) e,λ J p e=>⟨p,e,Q2 _⟩,λ n b J J eb J J J o ho=>kN b o ((tl c.L (.head _)).2 n b eb) ho,λ J=>k5.kx.drn⟩
 have sm5:Z6 s s5:=by obtain⟨h',tk,e,_⟩:=k5.kx;exact⟨h',tk,_,e⟩
 have cA:Apart c l C:=Apart.fresh hR.r hC;refine wpAny_assign_Name (hR5.setN O hch hk hv λ s6 sm6 t6 ow6 hR6=>?_);have hn6:s6.heap.Ns C m5:=hn5.at' λ o e=>ow6.keep C o e (λ q=>q) cA.loc (λ x q=>cA.cell x C q rfl) (λ n q=>cA.own n C q rfl);refine⟨m5,hn6,λ h' hs' tk=>?_⟩
 have k7:KX (·=C) s6 {s6 with heap:=h'}:=⟨h',s6.toks,rfl,λ b o n e=>(hs'.2 b n).trans e⟩
 have nBC:¬c.B C:=λ q=>by obtain⟨o,ho⟩:=hR.r.low _ (hR.hB _ q);rw[hC]at ho;cases ho
 have hR7:=hR6.done k7 (Q2 _) (.inr rfl) cA.plus nBC;have y:OW c (λ J=>False) l st s (l.plus (·=C)) st s6:=ow5.trans ow6;have ne:∀b o,s.heap.get? b=some o->b≠C:=λ b o e q=>by rw[q,hC]at e;cases e
 refine hQ _ _ _ _ _ _ (sm5.trans (sm6.trans (Z6.of k7))) (Q1 t5 t6) ?_ hR7 .next h5;exact⟨y.σ,y.x,λ b q=>⟨y.N b q,λ z=>by subst z;obtain⟨o,ho⟩:=hR.r.low _ q;rw[hC]at ho;cases ho⟩,λ b q=>y.Nup b q.1,y.new,λ b o e=>let ⟨o',e'⟩:=y.ex b o e;⟨o',k7.get (ne b o e) e'⟩,
  λ b o e h0 h1 h2 h3=>k7.get (ne b o e) (y.keep b o e h0 h1 h2 h3),y.le,λ n b p p' eb ep ep' ev o ho=>k7.get (ne b o ho) (y.eq n b p p' eb ep ep' ev o ho),λ q=>k7.drn.trans (y.dr q)⟩
theorem Qc5 (O:Ok W c)(hch:∀x,c.env.kindOf x=some .cell->(c.env.cells.lookup x).isSome=true){x:Str}{px pos spos:Pos}{evO:Expr->(V->Prop)->Prop}{ev:Expr->Loc->(V->Prop)->Prop}{ts:Expr->Loc->(Bool->Prop)->Prop}{elt:Expr}{gens:List Comprehension}{scope:Scope}
  (hsw:swapsWith (.ListComp elt gens scope pos) (some (.Name x px)) spos.line c.env=pure true) (hk:Jx c.env.kindOf c.bnd x)
  (hO:∀e k,evO e k->Uv W c e loc st k) (hev:∀C,Ok W (c.comp scope C)->∀e loc k,ev e loc k->Uv W (c.comp scope C) e loc st k) (hts:∀C,Ok W (c.comp scope C)->∀e loc k,ts e loc k->Ps W (c.comp scope C) e loc st k)
  (h:Qqe evO c.env.kindOf ev ts loc st elt gens scope λ v=>K .next (Yx loc x v) st):XS W c (exec (.Assign [.Name x px] (.ListComp elt gens scope pos) spos) c.env) loc st K:=by
 rcases gens with _ |⟨g,gs⟩
 .exact h.elim
 exact Zl h λ hal h=>Zl h λ hns h=>Zl h λ hsc h=>Zl h λ hfr h=>Qfn False (λ q=>q.elim) O hch hsw hk (λ C O' loc k q=>(hev C O' elt loc k q).sl) hev hts hal hns hsc hfr (hO _ _ h)
end
section
variable {W:Qj}{c:Cx}{loc:Loc}{st:Q4}
theorem Qwf (O:Ok W c){K:KF}{o:Str}{op apos pos spos:Pos}{e:Expr}(hs:Z8 [e]=true)(hl:(apos.endLine==pos.line)=true)(hcd:(o==("__classdict__":Str))=false)(hd:(o==("__debug__":Str))=false){n:Nat}(ho:loc.lookup o=some (.own n))
  (h:Fa W c e loc st λ v st'=>∃p,st'[n]?=some p/\p.1.length<16777216/\K .next loc (st'.set n (p.1++[v],p.2+1))) (hi:interactive c.env=false):XS W c (exec (.Expr (.Call (.Attribute (.Name o op) "append" apos) [e] [] pos) spos) c.env) loc st K:=λ l s Q E hR hQ=>by
 refine wpAny_Expr ?_ (hi:=hi) (hs:=rfl);refine Z0 ?_;refine wpAny_Call_method_lateS rfl (by rw[Bn hs];rfl) hl ?_;refine wpAny_Name (J4 O hR.r ho hcd λ w hw=>?_) hd;obtain⟨a,rfl,ea⟩:=hw;obtain⟨p0,its0,ep0,n0,hp0⟩:=hR.live ea;refine⟨"list","list.append",F.plainAttrs_list,F.slot_list_append,F.type_list_append,⟨_,hp0,rfl⟩,(λ b q=>by cases q;exact⟨_,hp0,rfl⟩),?_⟩;refine Uk hs ?_;rw[Y5 hs];refine spliced_cons (h l s _ E hR λ v w st1 l1 s1 sm1 t1 ow1 hR1 v1 h1=>spliced_nil ?_);obtain⟨p,ep,hz,h1⟩:=h1;obtain⟨b,items,eb,hp,hv⟩:=hR1.r.lists n p ep;have ea1:=ow1.σ n a ea;rw[ea1]at eb;cases eb;have hlen:=hv.length;refine wpAny_list_append_plain hp (λ h' hp' hs'=>?_) (by simp only[Z4,Zv];lia);have e':(items++[w]).toArray=items.toArray.push w:=by simp
 obtain⟨hR2,ow2⟩:=hR1.turn (Z:=λ J=>False) (xs:=p.1++[v]) (items:=items++[w]) ea1 ep hs' (by rw[e'];exact hp') (hv.append (.cons v1 .nil));intro tk;exact hQ _ _ _ _ _ _ (sm1.trans ⟨h',s1.toks,_,rfl⟩) tk (ow1.trans ow2) hR2 .next h1
end
section
variable {W:Qj}{c:Cx}{loc:Loc}{st:Q4}
end
theorem Y0.mapTo {l l':Lay}{h h':Heap}{vs:List V}:∀{ws:List Value},(∀v∈vs,∀w,VR l h v w->VR l' h' v w)->Y0 l h vs ws->Y0 l' h' vs ws:=by
 induction vs with
 |nil=>exact λ J x=>x
 |cons v vs ih=>intro ws f x;obtain⟨w,ws,e,a,b⟩:=x.inv;exact⟨w,ws,e,f v (.head _) w a,ih (λ u hu=>f u (.tail _ hu)) b⟩
theorem VR.deepTo {l l':Lay}{h:Heap}(hN:∀a,l'.N a->l.N a)(n:Nat):∀{v:V} {w:Value},deep n v=true->VR l h v w->VR l' h v w:=by
 induction n with
 |zero=>intro v w hd x;cases v <;> first |exact x |cases hd
 |succ n ih=>
  have all:∀{xs:List V} {ws:List Value},xs.all (deep n)=true->Y0 l h xs ws->Y0 l' h xs ws:=λ hd=>Y0.mapTo λ v hv w=>ih (Qf.mp hd v hv);intro v w hd x;cases v with
  |list xs=>obtain⟨a,i,rfl,q,p,r⟩:=x.inv;exact .list (λ z=>q (hN _ z)) p (all hd r)
  |tuple xs=>obtain⟨a,i,rfl,q,p,r⟩:=x.invT;exact .tuple (λ z=>q (hN _ z)) p (all hd r)
  |_=>first |exact x |cases hd
theorem Rc {l:Lay}{h:Heap}{y:Str}{v:V}{ps:List Str}:∀{vs:List V} {ws:List Value},Y0 l h vs ws->(ps.zip vs).lookup y=some v->∃w,(ps.zip ws).lookup y=some w/\VR l h v w:=by
 induction ps with
 |nil=>intro vs ws _ e;cases e
 |cons p ps ih=>
  intro vs ws r e;cases vs with
  |nil=>cases e
  |cons u vs=>
   obtain⟨w,ws,rfl,a,b⟩:=r.inv;rw[List.zip_cons_cons,Qz]at e;rw[List.zip_cons_cons,Qz];cases q:y==p with
   |true=>rw[q]at e;cases e;exact⟨w,rfl,a⟩
   |false=>rw[q]at e;exact ih b e
theorem Me {α β:Type}(ps:List α)(ws:List β)(h:ps.length=ws.length):(ps.zip ws).reverse=ps.reverse.zip ws.reverse:=by
 induction ps generalizing ws with
 |nil=>cases ws with |nil=>rfl |cons=>simp at h
 |cons p ps ih=>
  cases ws with
  |nil=>simp at h
  |cons w ws=>
   have h':ps.length=ws.length:=by simpa using h
   rw[List.zip_cons_cons,List.reverse_cons,List.reverse_cons,List.reverse_cons,ih ws h',List.zip_append (by simp[h'])];rfl
noncomputable def Cx.fn (c:Cx)(g:Heap)(L:Addr)(env:Env)(bnd:List Str)(room:Nat)(B:Addr->Prop)(z:Bool:=false):Cx:=
 {A:=c.A.deeper env,A₀:=c.A,base:=c.base,h₀:=g,L:=L,fenv:=env,env:=env,outer:=c.fenv::c.outer,bnd:=bnd,room:=room,B:=B,dr:=z}
section
variable {W:Qj}{name qual:Str}{params:Arguments}{body:List Stmt}{scope:Scope}{dV kV doc pm cdv ct oc:Value}{an od:Option Addr}{osl:Array (Option Value)}{f:Addr}
theorem Qpn {room:Nat}{ps:List Str}{vs:List V}{bnd:List Str}{k:V->Prop}{d:Nat}(hK:W.K.lookup f=some ⟨oc,od,.func (fnOf name qual params body scope dV kV doc pm an cdv ct),osl⟩)(hcd:codeIn W.K cdv qual=true)
  (hbind:∀(s:Shared) (ws:List Value),ws.length=vs.length->BindsTo s (fnOf name qual params body scope dV kV doc pm an cdv ct) ⟨ws,[]⟩ (ps.zip ws)) (hps:ps.length=vs.length) (hloc:∀y∈ps,scope.names.lookup y=some .local)
  (hco:scope.isCoroutine=false) (hgen:scope.isGenerator=false) (hk:scope.kind=.function) (hcell:∀x∈scope.names,x.2≠.cell) (hbn:∀x∈bnd,(ps.reverse.zip vs.reverse).lookup x=none)
  (hvs:∀v∈vs,deep d v=true\/∃n,v=.ext n) (hbody:∀(c':Cx),Ok W c'->c'.room=room->c'.bnd=bnd->(∃L cd,c'.env=envOf qual scope L f cd)->XS W c' (execs body c'.env) (ps.reverse.zip vs.reverse) [] λ fl J J=>∃v,fl=.ret v/\deep d v=true/\k v)
  (c:Cx) (l:Lay) (loc:Loc) (st:Q4) (s:Shared) (ws:List Value) (Q:Value->Shared->Prop) (E:Value->Shared->Prop) (O:Ok W c) (hr:c.room=room+1) (hR:R c l loc st s) (hv:Y0 l s.heap vs ws)
  (hQ:∀v w s',Keeps s s'->VR l s'.heap v w->k v->Q w s'):wpAny (model W.prog W.w) c.A (call (.ref f) ws) Q E s:=by
 refine wpAny_call ?_;obtain⟨m,FrX⟩:=hR.fr;obtain⟨g0,_,Fr0,B0,K0,T0⟩:=O.ground FrX;refine code_defG (news:=[]) B0 Fr0 K0 (λ p hp=>nomatch hp) T0 O.frames O.ff O.fk hK hcd (by have:=O.deep;lia) (hbind s ws hv.length.symm) (λ y hy=>hloc y.1 (List.of_mem_zip hy).1) (λ g L' h₁ FG F' N' BG KG TG GS=>?_) hco hgen hk hcell;have sg:Sub s.heap g:=λ b o e=>GS b o e (by simp);have s1:Sub s.heap h₁:=λ b o e=>F'.keep b o (sg b o e);have hgL:g.get? L'=none:=by
  cases q:g.get? L' with
  |none=>rfl
  |some o=>exact absurd (Qg (Qh q) F'.above) (Y6 _)
 have O':Ok W (c.fn g L' (envOf qual scope L' f cdv) bnd room l.N):=
  ⟨BG,by show(c.A.frames.map _)=_;rw[O.frames];rfl,rfl,hk,hk,rfl,rfl,O.inK,O.top,O.handled,O.nob,(by show c.A.units+3+8*room<=1000;have:=O.units;lia),(by show c.A.depth+1+room<recursionLimit;have:=O.deep;lia),O.guards,.inl rfl,λ J q=>nomatch q⟩
 let l':Lay:={N:=λ a=>l.N a\/a=L',σ:=[],x:=l.x};have nL:s.heap.get? L'=none:=by
  cases q:s.heap.get? L' with
  |none=>rfl
  |some o=>rw[sg _ _ q]at hgL;cases hgL
 let l':Lay:={N:=λ a=>l.N a\/a=L',σ:=[],x:=l.x}
 have RS':RS (c.fn g L' (envOf qual scope L' f cdv) bnd room l.N) l' (ps.reverse.zip vs.reverse) [] {s with heap:=h₁,toks:=s.toks+(ps.zip ws).length}:=by
  have hv':Y0 l' h₁ vs.reverse ws.reverse:=(Y0.mapTo (λ v hm w x=>by
   rcases hvs v hm with q |⟨n,rfl⟩
   .exact(VR.deepTo (l:=l.plus (·=L')) (l':=l') (λ a z=>z) d q (x.plus (λ a z=>z▸nL))).sub s1
   .exact x) hv).rev
  have ez:(ps.zip ws).reverse=ps.reverse.zip ws.reverse:=Me ps ws (by rw[hps,hv.length]);have noc:∀(x:Str) (a:Addr),(Cx.fn c g L' (envOf qual scope L' f cdv) bnd room l.N).env.cells.lookup x=some a->False:=λ x a e=>by
   have e':([]:List (Str×Addr)).lookup x=some a:=e;cases e'
  have nos:∀{P:Prop} (n:Nat) (a:Addr),l'.σ[n]?=some a->P:=λ n a e=>by
   have e':([]:List Addr)[n]?=some a:=e;simp at e'
  refine⟨⟨⟨_,.of F'⟩,⟨_,F'.ns,λ y u e=>?_,λ y hy u e=>?_⟩,λ n xs e=>(by simp at e),λ a ha=>?_,Qg hR.tk (Zq _ _),.inr rfl,λ x a e=>(noc x a e).elim,λ n a e=>nos n a e⟩,
   λ a q=>.inl q,λ n a e=>nos n a e,λ x a e=>(noc x a e).elim,rfl,hgL,rfl,λ n m a e J=>nos n a e,λ x y a e J=>(noc x a e).elim,λ x a e=>(noc x a e).elim⟩
  .obtain⟨w,e1,e2⟩:=Rc hv' e;refine⟨w,e2,.inl ⟨?_,?_⟩⟩
   .refine hloc y ?_;have:=Yn e;exact List.mem_reverse.mp (List.of_mem_zip this).1
   .show(ps.zip ws).reverse.lookup y=some w;rw[ez];exact e1
  .rw[hbn y hy]at e;cases e
  .rcases ha with ha |ha
   .obtain⟨o,ho⟩:=hR.low a ha;exact⟨o,s1 _ _ ho⟩
   .obtain⟨o,_,_,ho,_⟩:=F'.ns;exact⟨o,ha▸ho⟩
 refine hbody _ O' rfl rfl ⟨L',cdv,rfl⟩ l' _ _ _ RS' λ fl fw loc' st' l'' s' sm tk ow hR' hf h'=>?_;obtain⟨v,rfl,hd,hkv⟩:=h';obtain⟨_,rfl,vw⟩:=hf;obtain⟨m',FX''⟩:=hR'.r.fr;have F'':=FX''.fr rfl;refine leaveK_ (news':=[]) F'' (λ p hp=>nomatch hp) λ J J=>?_;have sub':Sub s.heap s'.heap:=λ b o e=>F''.keep b o (sg b o e);obtain⟨h2,t2,d2,rfl⟩:=sm;cases ow.dr rfl;exact hQ v _ _ ⟨h2,t2,rfl,sub'⟩ (vw.deepTo (λ a q=>ow.N a (.inl q)) d hd) hkv
end
theorem Dh {β:Type}{y:Str}(xs ys:List (Str×β)):(xs++ys).lookup y=(xs.lookup y).or (ys.lookup y):=by
 induction xs with
 |nil=>rfl
 |cons p xs ih=>
  rw[Yq,Qz,Qz,ih]
  cases y==p.1 <;> rfl
theorem Qz5 {kd:Str->Option NameKind}{y:Str}(hy:kd y=some .local)(binds:List (Str×Value)):∀(m:Str->Option Value),bindL kd binds m y=(binds.reverse.lookup y).or (m y):=by
 induction binds with
 |nil=>exact λ m=>rfl
 |cons p r ih=>
  intro m;obtain⟨n,v⟩:=p;rw[bindL,ih,List.reverse_cons,Dh,Option.or_assoc]
  congr 1
  by_cases q:y=n
  .subst q;simp[hy]
  .rw[Qz,Ql.mpr q]
   split <;> simp [q]
theorem Qgi {kd:Str->Option NameKind}{y:Str}(hy:kd y≠some .local)(binds:List (Str×Value)):∀(m:Str->Option Value),bindC kd binds m y=(binds.reverse.lookup y).or (m y):=by
 induction binds with
 |nil=>exact λ m=>rfl
 |cons p r ih=>
  intro m;obtain⟨n,v⟩:=p;rw[bindC,ih,List.reverse_cons,Dh,Option.or_assoc]
  congr 1
  by_cases q:y=n
  .subst q;simp[hy]
  .rw[Qz,Ql.mpr q]
   split <;> simp [q]
section
variable {W:Qj}{name qual:Str}{params:Arguments}{body:List Stmt}{scope:Scope}{dV kV doc pm cdv ct oc:Value}{an od:Option Addr}{osl:Array (Option Value)}{f:Addr}
theorem Oo {cs:List (Str×Addr)}(h:cs.Pairwise λ x y=>x.2≠y.2){x y:Str}{a:Addr}(e1:cs.lookup x=some a)(e2:cs.lookup y=some a):x=y:=by
 have m1:=Yn e1;have m2:=Yn e2;induction cs with
 |nil=>cases m1
 |cons p cs ih=>
  rw[List.pairwise_cons]at h
  rcases Qx.mp m1 with q1 |q1 <;> rcases Qx.mp m2 with q2 |q2
  .rw[<- q1]at q2;exact(Prod.mk.inj q2).1.symm
  .exact absurd (by rw[<- q1]) (h.1 _ q2)
  .exact absurd (by rw[<- q2]) (h.1 _ q1)
  .have n:∀{x:Str},(x,a)∈cs->(p::cs).lookup x=some a->cs.lookup x=some a:=λ {x} m e=>by
    rw[Qz]at e;cases q:x==p.1 with
    |true=>rw[q]at e;cases e;exact absurd rfl (h.1 (x,p.2) m)
    |false=>rw[q]at e;exact e
   exact ih h.2 (n q1 e1) (n q2 e2) q1 q2
theorem VD.out {l l2:Lay}{h:Heap}{u:V}{w:Value}(hN:∀a,l.N a->l2.N a)(hσ:∀(n:Nat) (a:Addr),l2.σ[n]?=some a->¬l.N a)(d:Nat)(hd:deep d u=true)(x:VD l2 h u w):VR l h u w:=by
 rcases x with x |x
 .exact x.deepTo hN d hd
 .cases u with
  |list xs=>
   obtain⟨n,a,items,rfl,e,p,r⟩:=x;cases d with
   |zero=>cases hd
   |succ d=>exact .list (hσ n a e) p (Y0.mapTo (λ v hv w y=>y.deepTo hN d (Qf.mp hd v hv)) r)
  |_=>exact False.elim x
theorem Qqc {d:Nat}{st:Q4}{v:V}(h:deep d v=true):drf st v=v:=by
 cases v with
 |own n=>cases d <;> cases h
 |_=>rfl
def M7 (z:Bool)(s s':Shared):Prop:=∃h' tk dr,s'={s with heap:=h',toks:=tk,drawn:=dr }/\Sub s.heap h'/\(z=false->dr=s.drawn)
theorem Cy (z:Bool){room:Nat}{ps:List Str}{vs:List V}{bnd:List Str}{k:V->Prop}{d:Nat}(hK:W.K.lookup f=some ⟨oc,od,.func (fnOf name qual params body scope dV kV doc pm an cdv ct),osl⟩)(hcd:codeIn W.K cdv qual=true)
  (hbind:∀(s:Shared) (ws:List Value),ws.length=vs.length->BindsTo s (fnOf name qual params body scope dV kV doc pm an cdv ct) ⟨ws,[]⟩ (ps.zip ws)) (hps:ps.length=vs.length)
  (hkind:∀n,∀x∈ps,scope.names.lookup x=some .local\/(scope.names.lookup x=some .cell/\((cellsFrom n scope.names []).lookup x).isSome=true))
  (hco:scope.isCoroutine=false) (hgen:scope.isGenerator=false) (hk:scope.kind=.function) (hbn:∀x∈bnd,(ps.reverse.zip vs.reverse).lookup x=none)
  (hvs:∀v∈vs,deep d v=true\/∃n,v=.ext n) (hbody:∀(c':Cx),Ok W c'->c'.room=room->c'.bnd=bnd->c'.dr=z->(∃L cd,c'.env=envOfC qual scope L f cd)->XS W c' (execs body c'.env) (ps.reverse.zip vs.reverse) [] λ fl J st=>∃v,fl=.ret v/\deep d (drf st v)=true/\k (drf st v))
  (c:Cx) (l:Lay) (loc:Loc) (st:Q4) (s:Shared) (ws:List Value) (Q:Value->Shared->Prop) (E:Value->Shared->Prop) (O:Ok W c) (hr:c.room=room+1) (hR:R c l loc st s) (hv:Y0 l s.heap vs ws)
  (hQ:∀v w s',M7 z s s'->VR l s'.heap v w->k v->Q w s'):wpAny (model W.prog W.w) c.A (call (.ref f) ws) Q E s:=by
 refine wpAny_call ?_;obtain⟨m,FrX⟩:=hR.fr;obtain⟨g0,_,Fr0,B0,K0,T0⟩:=O.ground FrX;obtain⟨FG,BG,_,_⟩:=groundX (R:=λ J J=>True) (news:=[]) B0 Fr0 (λ p hp=>nomatch hp) O.frames O.ff O.fk;have KG:W.K.In s.heap:=K0.keeps Fr0.keep;have TG:=T0.keeps Fr0.keep;refine codeAny_call_function (by have:=O.deep;lia) (KG _ _ hK) rfl hco hgen rfl (codeRec_of KG hcd) (hbind s ws hv.length.symm _ _ _ _ ?_);refine Z0 (wpAny_newFunctionEnv_cells hk (λ x hx=>hkind _ x.1 (List.of_mem_zip hx).1) λ env' he s' x tk=>?_);subst he;refine⟨(TG.nolimit).keeps x.toInCall.keep,codeAny_func ?_⟩;obtain⟨h₁,tk',rfl⟩:=x.toInCall.same;have big:∀a,s.heap.objs.size<=a->s.heap.get? a=none:=λ a ha=>by
  cases q:s.heap.get? a with
  |none=>rfl
  |some o=>exact absurd (Qh q) (Nat.not_lt.mpr ha)
 have s1:Sub s.heap h₁:=x.toInCall.keep;have ns:h₁.Ns s.heap.objs.size _:=x.toInCall.ns;have F':Fr s.heap s.heap.objs.size h₁ _:=⟨ns,s1,Q2 _⟩;have cellE:∀(y:Str) (a:Addr),(cellsFrom (s.heap.objs.size+1) scope.names []).lookup y=some a->s.heap.get? a=none/\h₁.IsCell a _:=λ y a e=>
  ⟨big a (Nat.le_of_lt (x.above y a (Yn e))),x.cell y a e⟩
 have O':Ok W (c.fn s.heap s.heap.objs.size (envOfC qual scope s.heap.objs.size f cdv) bnd room l.N z):=
  ⟨BG,by show(c.A.frames.map _)=_;rw[O.frames];rfl,rfl,hk,hk,rfl,rfl,O.inK,O.top,O.handled,O.nob,(by show c.A.units+3+8*room<=1000;have:=O.units;lia),(by show c.A.depth+1+room<recursionLimit;have:=O.deep;lia),O.guards,.inl rfl,λ J q=>nomatch q⟩
 let X:Addr->Prop:=λ a=>a=s.heap.objs.size\/∃y,(cellsFrom (s.heap.objs.size+1) scope.names []).lookup y=some a;have hX:∀a,X a->s.heap.get? a=none:=λ a q=>q.elim (λ q=>q▸X4 _) λ ⟨y,e⟩=>(cellE y a e).1;let l':Lay:={N:=λ a=>l.N a\/X a,σ:=[],x:=l.x};have nos:∀{P:Prop} (n:Nat) (a:Addr),l'.σ[n]?=some a->P:=λ n a e=>by
  have e':([]:List Addr)[n]?=some a:=e;simp at e'
 have RS':RS (c.fn s.heap s.heap.objs.size (envOfC qual scope s.heap.objs.size f cdv) bnd room l.N z) l' (ps.reverse.zip vs.reverse) [] {s with heap:=h₁,toks:=tk'}:=by
  have hv':Y0 l' h₁ vs.reverse ws.reverse:=(Y0.mapTo (λ v hm w x=>by
   rcases hvs v hm with q |⟨n,rfl⟩
   .exact(VR.deepTo (l:=l.plus X) (l':=l') (λ a z=>z) d q (x.plus hX)).sub s1
   .exact x) hv).rev
  have ez:(ps.zip ws).reverse=ps.reverse.zip ws.reverse:=Me ps ws (by rw[hps,hv.length]);refine⟨⟨⟨_,.of F'⟩,⟨_,ns,λ y u e=>?_,λ y hy u e=>?_⟩,λ n xs e=>(by simp at e),λ a ha=>?_,Qg hR.tk tk,.inr (.inl rfl),λ y a e=>.inr (.inr ⟨y,e⟩),λ n a e=>nos n a e⟩,
   λ a q=>.inl q,λ n a e=>nos n a e,λ y a e=>(cellE y a e).1,rfl,X4 _,rfl,λ n m a e J=>nos n a e,λ y z a e e'=>Oo x.apart e e',λ y a e=>⟨_,(cellE y a e).2⟩⟩
  .obtain⟨w,e1,e2⟩:=Rc hv' e;have hy:y∈ps:=List.mem_reverse.mp (List.of_mem_zip (Yn e)).1;refine⟨w,e2,?_⟩
   rcases hkind (s.heap.objs.size+1) y hy with q |⟨q,q'⟩
   .refine .inl ⟨q,?_⟩;refine(Qz5 q _ _).trans ?_;rw[ez,e1];rfl
   .obtain⟨a,ha⟩:=Option.isSome_iff_exists.mp q';refine .inr ⟨.inl q,a,ha,?_⟩;have:=(cellE y a ha).2;have q2:(envOfC qual scope s.heap.objs.size f cdv).kindOf y≠some .local:=λ z=>by
     have z':scope.names.lookup y=some .local:=z;rw[q]at z';cases z'
    have eb:bindC (envOfC qual scope s.heap.objs.size f cdv).kindOf (ps.zip ws) (λ J=>none) y=some w:=by
     rw[Qgi q2,ez,e1];rfl
    rw[<- eb];exact this
  .rw[hbn y hy]at e;cases e
  .rcases ha with ha |ha |⟨y,ha⟩
   .obtain⟨o,ho⟩:=hR.low a ha;exact⟨o,s1 _ _ ho⟩
   .obtain⟨o,_,_,ho,_⟩:=ns;exact⟨o,ha▸ho⟩
   .obtain⟨o,ho,_⟩:=(cellE y a ha).2;exact⟨o,ho⟩
 refine hbody _ O' rfl rfl rfl ⟨_,cdv,rfl⟩ l' _ _ _ RS' λ fl fw loc' st' l'' s' sm tk2 ow hR' hf h'=>?_;obtain⟨v,rfl,hd,hkv⟩:=h';obtain⟨_,rfl,vw⟩:=hf;obtain⟨m',FX''⟩:=hR'.r.fr;have F'':=FX''.fr rfl;have sub':Sub s.heap s'.heap:=F''.keep;have vd:=(hR'.r.drf vw).out (l:=l) (λ a q=>ow.N a (.inl q)) (λ n a e q=>(ow.new n a e).elim (λ z=>nos n a z) λ z=>by
  obtain⟨o,ho⟩:=hR.low a q;have:=s1 _ _ ho;rw[show h₁.get? a=none from z]at this;cases this) d hd
 obtain⟨h2,t2,d2,rfl⟩:=sm;exact hQ _ _ _ ⟨h2,t2,d2,rfl,sub',ow.dr⟩ vd hkv
theorem Qpc {room:Nat}{ps:List Str}{vs:List V}{bnd:List Str}{k:V->Prop}{d:Nat}(hK:W.K.lookup f=some ⟨oc,od,.func (fnOf name qual params body scope dV kV doc pm an cdv ct),osl⟩)(hcd:codeIn W.K cdv qual=true)
  (hbind:∀(s:Shared) (ws:List Value),ws.length=vs.length->BindsTo s (fnOf name qual params body scope dV kV doc pm an cdv ct) ⟨ws,[]⟩ (ps.zip ws)) (hps:ps.length=vs.length)
  (hkind:∀n,∀x∈ps,scope.names.lookup x=some .local\/(scope.names.lookup x=some .cell/\((cellsFrom n scope.names []).lookup x).isSome=true))
  (hco:scope.isCoroutine=false) (hgen:scope.isGenerator=false) (hk:scope.kind=.function) (hbn:∀x∈bnd,(ps.reverse.zip vs.reverse).lookup x=none)
  (hvs:∀v∈vs,deep d v=true\/∃n,v=.ext n) (hbody:∀(c':Cx),Ok W c'->c'.room=room->c'.bnd=bnd->(∃L cd,c'.env=envOfC qual scope L f cd)->XS W c' (execs body c'.env) (ps.reverse.zip vs.reverse) [] λ fl J J=>∃v,fl=.ret v/\deep d v=true/\k v)
  (c:Cx) (l:Lay) (loc:Loc) (st:Q4) (s:Shared) (ws:List Value) (Q:Value->Shared->Prop) (E:Value->Shared->Prop) (O:Ok W c) (hr:c.room=room+1) (hR:R c l loc st s) (hv:Y0 l s.heap vs ws)
  (hQ:∀v w s',Keeps s s'->VR l s'.heap v w->k v->Q w s'):wpAny (model W.prog W.w) c.A (call (.ref f) ws) Q E s:=
 Cy false hK hcd hbind hps hkind hco hgen hk hbn hvs (λ c' O h1 h2 J h3=>λ l s Q E hR hQ=>hbody c' O h1 h2 h3 l s Q E hR λ fl fw loc' st' l' s' a b c d e ⟨v,e',hd,hk⟩=>hQ fl fw loc' st' l' s' a b c d e ⟨v,e',by rw[Qqc hd];exact hd,by rw[Qqc hd];exact hk⟩) c l loc st s ws Q E O hr hR hv λ v w s' ⟨h',t,d,e,sb,q⟩=>hQ v w s' ⟨h',t,by rw[e,q rfl],sb⟩
end
noncomputable def swW (kd:Kd)(value:Expr)(t:Str)(tl:Nat):Option Bool:=
 if h:value.ctorIdx=8 then Expr.ListComp.elim value h λ J J s p=>some (kd t==some .local&&tl==p.line&&!(s.names.any λ (n,k)=>n==t&&(k==.local||k==.cell)))
 else if value.ctorIdx=9\/value.ctorIdx=10 then none else some false
theorem Qxk {env:Env}(hk:env.scope.kind=.function):env.blockKind=.function:=by
 delta Env.blockKind;rw[hk];rfl
theorem sp {α:Type}{a b:α}{X:Sem α}(h:some a=some b)(e:X=pure a):X=pure b:=Option.some.inj h▸e
theorem Ek {env:Env}{value:Expr}{t:Str}{px:Pos}{line:Nat}{b:Bool}(hk:env.scope.kind=.function)(h:swW env.kindOf value t px.line=some b):swapsWith value (some (.Name t px)) line env=pure b:=by
 cases value with
 |ListComp e g s p=>refine sp h ?_;delta swapsWith;dsimp only;rw[Qxk hk];rfl
 |SetComp e g s p=>cases h
 |DictComp e v g s p=>cases h
 |_=>exact sp h rfl
theorem Ri {ts:List Expr}{k:Nat}{tp:Pos}{value:Expr}{line:Nat}{env:Env}:swapsWithSole [.Tuple ts k tp] value line env=pure false:=by
 cases value <;> rfl
noncomputable def Dl (e:Expr):Bool:=e.ctorIdx==22
noncomputable def Qzr (kd:Kd)(line:Nat)(e:Expr):Option Str:=if h:e.ctorIdx=23 then Expr.Name.elim e h λ id pos=>if kd id==some .local&&pos.line==line then some id else none else none
noncomputable def swS (kd:Kd)(ts vs:List Expr):Option (Option (List Str)):=
 cond (!(ts.length==2||ts.length==3)||vs.length !=ts.length) (some none) <|
 cond (vs.any Dl) (some none) <|
 cond ((ts.filterMap (Qzr kd ((ts.head?.map (·.pos.line)).getD 0))).length !=ts.length||(ts.filterMap (Qzr kd ((ts.head?.map (·.pos.line)).getD 0))).eraseDups.length !=(ts.filterMap (Qzr kd ((ts.head?.map (·.pos.line)).getD 0))).length) (some none) <|
 cond (vs.all (foldedForSure 8)) (some none) <|
 cond (vs.all (constantsAlone 8)) none (some (some (ts.filterMap (Qzr kd ((ts.head?.map (·.pos.line)).getD 0)))))
theorem No {env:Env}{ts vs:List Expr}{k1 k2:Nat}{p1 p2:Pos}{r:Option (List Str)}(hk:env.scope.kind=.function)(h:swS env.kindOf ts vs=some r):swappedStores [.Tuple ts k1 p1] (.Tuple vs k2 p2) env=pure r:=by
 delta swS at h
 delta swappedStores
 have e2:∀f:Expr->Bool,(∀x,f x=Dl x)->vs.any f=vs.any Dl:=λ f hf=>by rw[show f=Dl from funext hf]
 have e3:∀f:Expr->Option Str,(∀x,f x=Qzr env.kindOf ((ts.head?.map (·.pos.line)).getD 0) x)->ts.filterMap f=ts.filterMap (Qzr env.kindOf ((ts.head?.map (·.pos.line)).getD 0)):=λ f hf=>by rw[show f=_ from funext hf]
 dsimp only;rw[show(env.blockKind !=.function)=false by rw[Qxk hk];rfl,Bool.or_false]
 rw[e2 _ (by intro x;cases x <;> rfl)]
 cases q1:(!(ts.length==2||ts.length==3)||vs.length !=ts.length) with
 |true=>rw[q1,Zi]at h;exact sp h rfl
 |false=>
  rw[q1,Zo]at h;cases q2:vs.any Dl with
  |true=>rw[q2,Zi]at h;exact sp h rfl
  |false=>
   rw[q2,Zo]at h;rw[if_neg Zu,if_neg Zu]
   rw[e3 _ (by intro x;cases x <;> rfl)]
   generalize ts.filterMap (Qzr env.kindOf ((ts.head?.map (·.pos.line)).getD 0))=ns at h |-;cases q3:(ns.length !=ts.length||ns.eraseDups.length !=ns.length) with
   |true=>rw[q3,Zi]at h;exact sp h rfl
   |false=>
    rw[q3,Zo]at h;rw[if_neg Zu];cases q4:vs.all (foldedForSure 8) with
    |true=>rw[q4,Zi]at h;exact sp h rfl
    |false=>
     rw[q4,Zo]at h;cases q5:vs.all (constantsAlone 8) with
     |true=>rw[q5,Zi]at h;cases h
     |false=>rw[q5,Zo]at h;exact sp h rfl
theorem Qws {env:Env}{ts:List Expr}{k1:Nat}{p1:Pos}{value:Expr}(h:value.ctorIdx≠25):swappedStores [.Tuple ts k1 p1] value env=pure none:=by
 cases value <;> first |rfl |exact absurd rfl h
def rdR (ev:Expr->Q4->(V->Prop)->Prop)(e:Expr)(st:Q4)(k:V->Q4->Prop):Prop:=
 Qw3 e (λ es p=>es.rec (motive:=λ J=>Prop) (k (.own st.length) (st++[([],0)])) λ a r J=>ev (.List (a::r) p) st λ v=>k v st) (ev e st λ v=>k v st)
def Qbo (ev:Expr->Q4->(V->Prop)->Prop)(es:List Expr):Q4->(List V->Q4->Prop)->Prop:=
 es.rec (motive:=λ J=>Q4->(List V->Q4->Prop)->Prop) (λ st k=>k [] st) λ e J r st k=>rdR ev e st λ v st'=>r st' λ vs st''=>k (v::vs) st''
section
variable (ev:EvF)(ts:TsF)(kd:Kd)(bnd:List Str)
def Qsx (x:Str)(value:Expr)(loc:Loc)(st:Q4)(K:KF):Prop:=
 Qw3 value (λ es J=>X5 (Z8 es) <| Fu (λ e k=>ev kd e loc st k) es λ vs=>vs.length<=sizeLine/\K .next (Yx loc x (.own st.length)) (st++[(vs,0)])) <|
 Qqn value λ f as kw cpos=>on0 kw <| Tw as λ e=>T8 f λ o m apos=>X5 (m=="split") <| X5 (Z8 [e]) <| X5 (G0 o) <| X5 (apos.endLine==cpos.line) <| ev kd o loc st λ ov=>Jz ov λ y=>ev kd e loc st λ v=>Jz v λ z=>
  (z.length==0)=false/\y.length<=sizeLine/\(Builtin.Str.partsBetween y (Builtin.Str.occurrences y z 0 y.length (y.length+1)) z.length).length<=sizeLine/\K .next (Yx loc x (.own st.length)) (st++[((Txt.split y z).map V.str,0)])
def Qek (x:Str)(px:Pos)(value:Expr)(loc:Loc)(st:Q4)(K:KF):Prop:=(swW kd value x px.line).elim False λ b=>
 cond b (Lr value λ elt gens scope J=>Qqe (λ e k=>ev kd e loc st k) kd (λ e loc k=>ev (Uj scope kd) e loc st k) (λ e loc k=>ts (Uj scope kd) e loc st k) loc st elt gens scope λ v=>K .next (Yx loc x v) st)
  (ev kd value loc st λ v=>K .next (Yx loc x v) st)
def Qch (tl:List Expr)(value:Expr)(loc:Loc)(st:Q4)(K:KF):Prop:=
 ite (value.ctorIdx=25) (Pk value λ vs J J=>X5 (Z8 vs) <| (swS kd tl vs).elim False λ r=>r.rec
   ((Gs tl).elim False λ names=>Qbo (λ e st k=>ev kd e loc st k) vs st λ us st'=>X5 (decide (us.length<=16777216)) <| W0 kd bnd names us loc λ loc'=>K .next loc' st')
   λ names=>Qbo (λ e st k=>ev kd e loc st k) vs st λ us st'=>X5 (decide (us.length<=16777216)) <| W0 kd bnd names.reverse us.reverse loc λ loc'=>K .next loc' st')
  ((Gs tl).elim False λ names=>ev kd value loc st λ v=>Te v (λ us=>W0 kd bnd names us loc λ loc'=>K .next loc' st) <| Vh v λ us=>W0 kd bnd names us loc λ loc'=>K .next loc' st)
def Zpy (e:Expr)(n:Nat)(loc:Loc)(st:Q4)(K:KF):Prop:=ev kd e loc st λ v=>(st[n]?).elim False λ p=>p.1.length<16777216/\K .next loc (st.set n (p.1++[v],p.2+1))
def Zxl (o:Str)(e:Expr)(loc:Loc)(st:Q4)(K:KF):Prop:=(loc.lookup o).elim False λ v=>Qzt v λ n=>Zpy ev kd e n loc st K
end
def Om (ev:EvF)(ts:TsF)(owns:List Str)(kd:Kd)(bnd:List Str)(xs:List Stmt->Loc->Q4->KF->Prop)(s:Stmt)(loc:Loc)(st:Q4)(K:KF):Prop:=
 Qkw s (λ tg value J=>Tw tg λ t=>Tv t (λ x px=>X5 (Be kd bnd x) <| cond (owns.contains x) (Qsx ev kd x value loc st K) (Qek ev ts kd x px value loc st K)) <| Pk t λ tl J J=>Qch ev kd bnd tl value loc st K) <|
 Dz s (λ t op value J=>Tv t λ x J=>X5 (Be kd bnd x) <| X5 (!(x=="__classdict__")) <| (loc.lookup x).elim False λ a=>ev kd value loc st λ v=>Qn5 op a v λ r=>K .next (Yx loc x r) st) <|
 Qkx s (λ e J=>e.elim False λ e=>ev kd e loc st λ v=>K (.ret v) loc st) <|
 Qbn s (λ J=>K .brk loc st) <|
 Qkv s (λ e J J=>ts kd e loc st λ b=>b=true/\K .next loc st) <|
 sIf s (λ t a b J=>ts kd t loc st λ q=>cond q (xs a loc st K) (xs b loc st K)) <|
 Qon s (λ t iter body els J=>on0 els <| Tv t λ x J=>X5 (Jj iter) <| X5 (Be kd bnd x) <| ev kd iter loc st λ v=>Us st v λ items own=>H0 x (λ loc st K=>xs body loc st K) own items loc st K) <|
 Qbd s (λ t body els J=>on0 els <| ∃(I:Nat->Loc->Q4->Prop) (n:Nat),I n loc st/\∀n loc st,I n loc st->ts kd t loc st λ q=>cond q (xs body loc st (Bo (λ loc' st'=>∃m,m<n/\I m loc' st') K)) (K .next loc st)) <|
 Qkk s (λ tg J=>Tw tg λ t=>Hx t λ b i J=>Tv b λ o J=>X5 (!(o=="__classdict__")) <| X5 (!(o=="__debug__")) <| (loc.lookup o).elim False λ v=>Qzt v λ n=>ev kd i loc st λ v=>Uh v λ ix=>(st[n]?).elim False λ p=>
  ∃k,p.1.length<=16777216/\Builtin.List.listFitsIndex ix=true/\seqIndex? ix p.1.length=some k/\k<p.1.length/\K .next loc (st.set n (p.1.eraseIdx k,p.2+1))) <|
 Ql0 s λ e J=>Qqn e λ f as kw pos=>on0 kw <| Tw as λ e=>T8 f λ b m apos=>Tv b λ o J=>X5 (m=="append") <| X5 (Z8 [e]) <| X5 (apos.endLine==pos.line) <| X5 (!(o=="__classdict__")) <| X5 (!(o=="__debug__")) <| Zxl ev kd o e loc st K
def xss (F:Fs)(n:Nat)(owns:List Str)(kd:Kd)(bnd:List Str)(m:Nat):List Stmt->Loc->Q4->KF->Prop:=
 m.rec (λ J J J J=>False) λ J r ss loc st K=>ss.rec (motive:=λ J=>Loc->Q4->Prop) (K .next) (λ s J q loc st=>Om (X7 F n).1 (X7 F n).2 owns kd bnd r s loc st (Xk q K)) loc st
theorem Qup {v k}(h:Jz v k):∃y,v=.str y/\k y:=H3 (M:=λ v=>∃y,v=.str y/\k y) h (λ y h=>⟨y,rfl,h⟩) False.elim
theorem Qcq {v k}(h:Uh v k):∃y,v=.int y/\k y:=Qzn (M:=λ v=>∃y,v=.int y/\k y) h (λ y h=>⟨y,rfl,h⟩) False.elim
theorem Qug {v k}(h:Qzt v k):∃y,v=.own y/\k y:=Qc9 (M:=λ v=>∃y,v=.own y/\k y) h (λ y h=>⟨y,rfl,h⟩) False.elim
theorem Qc8 {v k}(h:Te v k (Vh v k)):∃xs,(v=.tuple xs\/v=.list xs)/\k xs:=Hh (M:=λ v=>∃xs,(v=.tuple xs\/v=.list xs)/\k xs) h (λ xs h=>⟨xs,.inl rfl,h⟩) λ h=>Ej (M:=λ v=>∃xs,(v=.tuple xs\/v=.list xs)/\k xs) h (λ xs h=>⟨xs,.inr rfl,h⟩) False.elim
theorem Zj1 {p:Prop}[Decidable p]{A B M:Prop}(h:ite p A B)(f:p->A->M)(g:¬p->B->M):M:=by
 by_cases q:p
 .rw[if_pos q]at h;exact f q h
 .rw[if_neg q]at h;exact g q h
section
variable {W:Qj}{c:Cx}
theorem Qv9 {ev:Expr->Q4->(V->Prop)->Prop}{loc:Loc}(hev:∀e st k,ev e st k->Uv W c e loc st k){e:Expr}{st:Q4}{k:V->Q4->Prop}(h:rdR ev e st k):Fa W c e loc st k:=
 I3 h (λ es p h=>by cases es with |nil=>exact Fa.own (Nw ⟨Zy _,h⟩) |cons a r=>exact Fa.of (hev _ _ _ h)) λ h=>Fa.of (hev _ _ _ h)
theorem Qj9 {ev:Expr->Q4->(V->Prop)->Prop}{loc:Loc}(hev:∀e st k,ev e st k->Uv W c e loc st k){es:List Expr}:∀{st:Q4} {k:List V->Q4->Prop},Z8 es=true->Qbo ev es st k->Pa W c es loc st k:=by
 induction es with
 |nil=>exact λ J h=>P4 h
 |cons e r ih=>exact λ hs h=>Cu hs λ l s Q E hR hQ=>Qv9 hev (k:=λ v st'=>Qbo ev r st' _) h l s Q E hR λ v w st' l' s' a b d e' f g=>hQ v w st' l' s' a b d e' f (ih (B8 (env:=c.env) hs).2 g)
theorem Fa.mono {e:Expr}{loc:Loc}{st:Q4}{k k':V->Q4->Prop}(h:Fa W c e loc st k)(m:∀v st,k v st->k' v st):Fa W c e loc st k':=λ l s Q E hR hQ=>
 h l s Q E hR λ v w st' l' s' a b d e' f g=>hQ v w st' l' s' a b d e' f (m _ _ g)
theorem Pa.mono {e:List Expr}{loc:Loc}{st:Q4}{k k':List V->Q4->Prop}(h:Pa W c e loc st k)(m:∀v st,k v st->k' v st):Pa W c e loc st k':=λ l s p Q E hR hQ=>
 h l s p Q E hR λ v w st' l' s' a b d e' f g=>hQ v w st' l' s' a b d e' f (m _ _ g)
theorem Uv.mono {e:Expr}{loc:Loc}{st:Q4}{k k':V->Prop}(h:Uv W c e loc st k)(m:∀v,k v->k' v):Uv W c e loc st k':=λ l s Q E hR hQ=>
 h l s Q E hR λ v w s' a b d g=>hQ v w s' a b d (m _ g)
theorem Ps.mono {e:Expr}{loc:Loc}{st:Q4}{k k':Bool->Prop}(h:Ps W c e loc st k)(m:∀v,k v->k' v):Ps W c e loc st k':=λ l s Q E hR hQ=>
 h l s Q E hR λ v s' a b g=>hQ v s' a b (m _ g)
theorem XS.mono {t:Sem Flow}{loc:Loc}{st:Q4}{K K':KF}(h:XS W c t loc st K)(m:∀fl loc st,K fl loc st->K' fl loc st):XS W c t loc st K':=λ l s Q E hR hQ=>
 h l s Q E hR λ fl fw loc' st' l' s' a b d e f g=>hQ fl fw loc' st' l' s' a b d e f (m _ _ _ g)
theorem O0 {x:Str}{b b':Loc->Q4->KF->Prop}(hb:∀loc st K,b loc st K->b' loc st K)(m:∀loc st K K',(∀fl loc st,K fl loc st->K' fl loc st)->b' loc st K->b' loc st K'){own:Option (Nat×Nat)}{K:KF}{vs:List V}:∀{loc:Loc} {st:Q4},H0 x b own vs loc st K->H0 x b' own vs loc st K:=by
 induction vs with
 |nil=>exact λ h=>h
 |cons v vs ih=>
  intro loc st h;refine m _ _ _ _ (λ fl loc' st' h=>?_) (hb _ _ _ h);cases fl with
  |next=>exact⟨h.1,ih h.2⟩
  |cont=>exact⟨h.1,ih h.2⟩
  |_=>exact h
theorem Bd {st:Q4}{v:V}{k k':List V->Option (Nat×Nat)->Prop}(h:Us st v k)(m:∀xs own,k xs own->k' xs own):Us st v k':=by
 delta Us Qzt at h |-
 by_cases q:v.ctorIdx=8
 .rw[dif_pos q]at h |-;obtain⟨n,rfl⟩:∃n,v=.own n:=V.own.elim (motive_1:=λ v=>∃n,v=.own n) v q λ n=>⟨n,rfl⟩;obtain⟨p,e,h⟩:=Yp.mp (show(st[n]?).elim False _ from h);exact(Yp (f:=λ p=>k' p.1 (some (n,p.2)))).mpr ⟨p,e,m _ _ h⟩
 .rw[dif_neg q]at h |-;exact Dn h λ xs=>m xs _
abbrev noG:Unit->Lay->Shared->Prop:=λ J J J=>True
theorem Qpb:Ca c (λ J=>False) noG:=⟨λ J z=>z.elim,λ J J J=>trivial,λ J J J=>trivial⟩
theorem XG.of {t:Sem Flow}{loc:Loc}{st:Q4}{K:KF}{K':Fl->Loc->Q4->Unit->Prop}(h:XS W c t loc st K)(m:∀fl loc st,K fl loc st->K' fl loc st ()):XG W c (λ J=>False) noG t loc st () K':=λ l s Q E hR J hQ=>
 h l s Q E hR λ fl fw loc' st' l' s' sm tk ow hR' hf h'=>hQ fl fw loc' st' () l' s' sm tk ow hR' trivial hf (m _ _ _ h')
theorem Quu {x:Str}{body:List Stmt}{own:Option (Nat×Nat)}{K:KF}(vs:List V):∀{loc:Loc} {st:Q4},H0 x (λ loc st K=>XS W c (execs body c.env) loc st K) own vs loc st K->
  Mo x (λ loc st g K=>XG W c (λ J=>False) noG (execs body c.env) loc st g K) own vs loc st () (λ fl loc st J=>K fl loc st):=by
 induction vs with
 |nil=>exact λ h=>h
 |cons v vs ih=>
  intro loc st h;refine XG.of h λ fl loc st q=>?_;cases fl with
  |next=>exact⟨q.1,ih q.2⟩
  |cont=>exact⟨q.1,ih q.2⟩
  |_=>exact q
theorem Quv {loc:Loc}{st:Q4}{K:KF}(O:Ok W c)(hch:∀x,c.env.kindOf x=some .cell->(c.env.cells.lookup x).isSome=true){x:Str}{px pos:Pos}{iter:Expr}{body:List Stmt}(hns:Jj iter=true)(hk:Jx c.env.kindOf c.bnd x)
  (h:Uv W c iter loc st λ v=>Us st v λ xs own=>H0 x (λ loc st K=>XS W c (execs body c.env) loc st K) own xs loc st K):XS W c (exec (.For (.Name x px) iter body [] pos) c.env) loc st K:=λ l s Q E hR hQ=>
 Quw Qpb (g:=()) (K:=λ fl loc st J=>K fl loc st) O hch hns hk (h.mono λ v h=>Bd h λ xs own h=>Quu xs h) l s Q E hR trivial λ fl fw loc' st' J l' s' sm tk ow hR' J hf h'=>hQ fl fw loc' st' l' s' sm tk ow hR' hf h'
variable (O:Ok W c)(hch:∀x,c.env.kindOf x=some .cell->(c.env.cells.lookup x).isSome=true){ev:EvF}{ts:TsF}(hev:∀(c':Cx),Ok W c'->c'.room=c.room->∀e loc st k,ev c'.env.kindOf e loc st k->Uv W c' e loc st k)(hts:∀(c':Cx),Ok W c'->c'.room=c.room->∀e loc st k,ts c'.env.kindOf e loc st k->Ps W c' e loc st k)
 {loc:Loc} {st:Q4} {K:KF}
include O hev
theorem P9 {e:Expr}{k:V->Prop}{P:V->Prop}(h:ev c.env.kindOf e loc st k)(f:∀v,k v->P v):Uv W c e loc st P:=(hev c O rfl _ _ _ _ h).mono f
include hch
theorem Qjw {x:Str}{px:Pos}{value:Expr}{pos:Pos}(hn:Jx c.env.kindOf c.bnd x)(h:Qsx ev c.env.kindOf x value loc st K):XS W c (exec (.Assign [.Name x px] value pos) c.env) loc st K:=by
 delta Qsx at h
 refine I3 h (λ es J h=>Zl h λ h1 h=>Qe6 O hch h1 hn (Ja (λ e k h=>hev c O rfl e loc st k h) h1 h)) λ h=>Nv h (λ f as kw cpos h=>Bg h λ h=>Rw h λ e h=>T7 h (λ o m apos h=>Qw6 h λ h=>Zl h λ h1 h=>Zl h λ h2 h=>Zl h λ h3 h=>?_) False.elim) False.elim;exact Qfd O hch h1 h2 h3 hn (P9 O hev h λ ov h=>by obtain⟨y,e,h⟩:=Qup h;exact⟨y,e,P9 O hev h λ v h=>Qup h⟩)
include hts
theorem Qzl {x:Str}{px:Pos}{value:Expr}{pos:Pos}(hn:Jx c.env.kindOf c.bnd x)(h:Qek ev ts c.env.kindOf x px value loc st K):XS W c (exec (.Assign [.Name x px] value pos) c.env) loc st K:=by
 refine Uu h λ b e h=>?_;cases b with
 |false=>exact Nn O hch (Ek O.ek e) hn (hev c O rfl _ _ _ _ h)
 |true=>
  refine Mf (M:=λ value=>swW c.env.kindOf value x px.line=some true->XS W c (exec (.Assign [.Name x px] value pos) c.env) loc st K) h (λ elt gens scope p h e=>?_) False.elim e;have ck:∀C,(c.comp scope C).env.kindOf=Uj scope c.env.kindOf:=λ C=>Rb O.ek;exact Qc5 O hch (Ek O.ek e) hn (λ e k h=>hev c O rfl e loc st k h) (λ C O' e loc k h=>hev _ O' rfl e loc st k (by rw[ck];exact h)) (λ C O' e loc k h=>hts _ O' rfl e loc st k (by rw[ck];exact h)) h
omit hts
theorem Qzs {tl:List Expr}{n:Nat}{tp:Pos}{value:Expr}{pos:Pos}(h:Qch ev c.env.kindOf c.bnd tl value loc st K):XS W c (exec (.Assign [.Tuple tl n tp] value pos) c.env) loc st K:=by
 delta Qch at h
 refine Zj1 h (λ J h=>Wq h (λ vs a b h=>Zl h λ h1 h=>Uu h λ r e' h=>?_) False.elim) λ ne h=>Uu h λ names en h=>Qnf O hch en (Qws ne) Ri (Fa.of (P9 O hev h λ v h=>Qc8 h));have rs:∀{k},Qbo (λ e st k=>ev c.env.kindOf e loc st k) vs st k->Pa W c vs loc st k:=λ h=>Qj9 (λ e st k h=>hev c O rfl e loc st k h) h1 h;cases r with
 |none=>
  exact Uu h λ names en h=>Qnf O hch en (No O.ek e') Ri (Fa.tuple ((rs h).mono λ us st' h=>Zl h λ h2 h=>⟨Qc h2,us,.inl rfl,h⟩))
 |some names=>exact Qc2 O hch (No O.ek e') ((rs h).mono λ us st' h=>Zl h λ h2 h=>⟨Qc h2,h⟩)
omit hch in
theorem Qxp {o:Str}{e:Expr}{op apos pos spos:Pos}(h1:Z8 [e]=true)(h2:(apos.endLine==pos.line)=true)(h3:(o==("__classdict__":Str))=false)(h4:(o==("__debug__":Str))=false)(h:Zxl ev c.env.kindOf o e loc st K):
  XS W c (exec (.Expr (.Call (.Attribute (.Name o op) "append" apos) [e] [] pos) spos) c.env) loc st K:=by
 have hi:interactive c.env=false:=by
  delta interactive
  rw[O.ek];rfl
 refine Uu h λ v eo h=>?_;obtain⟨n,rfl,h⟩:=Qug h;exact Qwf O h1 h2 h3 h4 eo (Fa.of (P9 O hev h λ v h=>Yp.mp h)) hi
include hts
theorem Mk {owns:List Str}{xs:List Stmt->Loc->Q4->KF->Prop}(hxs:∀ss loc st K,xs ss loc st K->XS W c (execs ss c.env) loc st K){s:Stmt}
  (h:Om ev ts owns c.env.kindOf c.bnd xs s loc st K):XS W c (exec s c.env) loc st K:=by
 have ev':=λ {e k}=>hev c O rfl e loc st k
 delta Om at h
 refine Qv4 h (λ tg value pos h=>Rw h λ t h=>U2 h (λ x px h=>Zl h λ hn h=>?_) λ h=>Wq h (λ tl a b h=>Qzs O hch hev h) False.elim) λ h=>
  Ew h (λ t op value pos h=>U2 h (λ x px h=>Zl h λ hn h=>Rm h λ h2 h=>Uu h λ a e h=>Qez O hch (Xm hn) h2 e (ev' h)) False.elim) λ h=>
  Qv2 h (λ e pos h=>?_) λ h=>Qbt h (λ pos h=>Qfl h) λ h=>Qv5 h (λ e m pos h=>Quy (hts c O rfl _ _ _ _ h)) λ h=>
  Qot h (λ t a b pos h=>Quk ((hts c O rfl _ _ _ _ h).mono λ q h=>Jo (M:=λ q=>cond q (XS W c (execs a c.env) loc st K) (XS W c (execs b c.env) loc st K)) h (hxs _ _ _ _) (hxs _ _ _ _))) λ h=>
  Qs6 h (λ t iter body els pos h=>Bg h λ h=>U2 h (λ x px h=>Zl h λ h1 h=>Zl h λ h2 h=>Quv O hch h1 (Xm h2) ((ev' h).mono λ v h=>Bd h λ xs own h=>O0 (λ loc st K h=>hxs body loc st K h) (λ loc st K K' m h=>XS.mono h m) h)) False.elim) λ h=>
  Qbh h (λ t body els pos h=>Bg h λ h=>?_) λ h=>
  Qv3 h (λ tg pos h=>Rw h λ t h=>Kc h (λ b i sp h=>U2 h (λ o op h=>Rm h λ h1 h=>Rm h λ h2 h=>Uu h λ v e h=>?_) False.elim) False.elim) λ h=>
  Qhf h (λ e spos h=>Nv h (λ f as kw pos h=>Bg h λ h=>Rw h λ e h=>T7 h (λ b m apos h=>U2 h (λ o op h=>Qw6 h λ h=>Zl h λ h1 h=>Zl h λ h2 h=>Rm h λ h3 h=>Rm h λ h4 h=>Qxp O hev h1 h2 h3 h4 h) False.elim) False.elim) False.elim) False.elim
 .cases q:owns.contains x with
  |true=>rw[q]at h;exact Qjw O hch hev (Xm hn) h
  |false=>rw[q]at h;exact Qzl O hch hev hts (Xm hn) h
 .cases e with
  |none=>exact h.elim
  |some e=>exact Nt (ev' h)
 .obtain⟨I,n,h0,hI⟩:=h;exact E7 I n h0 λ n loc st h=>(hts c O rfl _ _ _ _ (hI n loc st h)).mono λ q h=>Jo (M:=λ q=>cond q (XS W c (execs body c.env) loc st (Bo (λ loc' st'=>∃m,m<n/\I m loc' st') K)) (K .next loc st)) h (hxs _ _ _ _) id
 .obtain⟨n,rfl,h⟩:=Qug h;refine Qeq (xx:=0) (spos:=default) O h1 h2 e (P9 O hev h λ v h=>?_);obtain⟨ix,e,h⟩:=Qcq h;obtain⟨p,ep,k,h⟩:=Yp.mp h;exact⟨p,ix,k,e,ep,h⟩
end
section
variable {W:Qj}{c:Cx}
theorem Ag {F:Fs}{n:Nat}{owns:List Str}(O:Ok W c)(FO:R9 W F c.room)(hch:∀x,c.env.kindOf x=some .cell->(c.env.cells.lookup x).isSome=true)(m:Nat):∀(ss:List Stmt) (loc:Loc) (st:Q4) (K:KF),xss F n owns c.env.kindOf c.bnd m ss loc st K->XS W c (execs ss c.env) loc st K:=by
 induction m with
 |zero=>exact λ J J J J h=>h.elim
 |succ m ih=>
  intro ss;induction ss with
  |nil=>exact λ J J J h=>E3 h
  |cons s r ihr=>
   intro loc st K h;refine E4 (XS.mono (Mk O hch (λ c' O' e=>(Jp F n c' O' (e▸FO)).1) (λ c' O' e=>(Jp F n c' O' (e▸FO)).2) ih h) λ fl loc' st' h=>?_);cases fl with
   |next=>exact ihr _ _ _ h
   |_=>exact h
theorem Qwm {F:Fs}{n m:Nat}{owns:List Str}(O:Ok W c)(FO:R9 W F c.room)(hch:∀x,c.env.kindOf x=some .cell->(c.env.cells.lookup x).isSome=true){s:Stmt}{loc:Loc}{st:Q4}{K:KF}
  (h:Om (X7 F n).1 (X7 F n).2 owns c.env.kindOf c.bnd (xss F n owns c.env.kindOf c.bnd m) s loc st K):XS W c (exec s c.env) loc st K:=
 Mk O hch (λ c' O' e=>(Jp F n c' O' (e▸FO)).1) (λ c' O' e=>(Jp F n c' O' (e▸FO)).2) (Ag O FO hch m) h
end
noncomputable def stW {α:Type}(s:Stmt)(d:α)(w:Expr->List Stmt->List Stmt->Pos->α)(f:Expr->Expr->List Stmt->List Stmt->Pos->α)(a:List Expr->Expr->Pos->α):α:=
 if h:s.ctorIdx=11 then Stmt.While.elim s h w else if h:s.ctorIdx=12 then Stmt.If.elim s h w else if h:s.ctorIdx=9 then Stmt.For.elim s h f else if h:s.ctorIdx=5 then Stmt.Assign.elim s h a else d
noncomputable def exN (e:Expr):Str:=if h:e.ctorIdx=23 then Expr.Name.elim e h λ x J=>x else default
noncomputable def exP (e:Expr):Pos:=if h:e.ctorIdx=23 then Expr.Name.elim e h λ J p=>p else default
noncomputable def wB (s:Stmt):List Stmt:=stW s [] (λ J b J J=>b) (λ J J b J J=>b) λ J J J=>[]
noncomputable def wT (s:Stmt):Expr:=stW s default (λ t J J J=>t) (λ J i J J J=>i) λ J v J=>v
noncomputable def wP (s:Stmt):Pos:=stW s default (λ J J J p=>p) (λ J J J J p=>p) λ J J p=>p
noncomputable def wN (s:Stmt):Str:=stW s default (λ J J J J=>default) (λ t J J J J=>exN t) λ t J J=>exN (t.headD default)
noncomputable def Mq (s:Stmt):Pos:=stW s default (λ J J J J=>default) (λ t J J J J=>exP t) λ t J J=>exP (t.headD default)
def rd (F:Fs)(owns:List Str)(kd:Kd)(bnd:List Str)(s:Stmt)(loc:Loc)(st:Q4)(K:KF):Prop:=Om (X7 F 40).1 (X7 F 40).2 owns kd bnd (xss F 40 owns kd bnd 60) s loc st K
def rds (F:Fs)(owns:List Str)(kd:Kd)(bnd:List Str)(ss:List Stmt)(loc:Loc)(st:Q4)(K:KF):Prop:=xss F 40 owns kd bnd 60 ss loc st K
def Gi (F:Fs)(kd:Kd)(e:Expr)(loc:Loc)(st:Q4)(k:V->Prop):Prop:=(X7 F 40).1 kd e loc st k
def Ot (F:Fs)(kd:Kd)(e:Expr)(loc:Loc)(st:Q4)(k:Bool->Prop):Prop:=(X7 F 40).2 kd e loc st k
section
variable {W:Qj}{c:Cx}{F:Fs}{owns:List Str}{kd:Kd}{bnd:List Str}{loc:Loc}{st:Q4}{K:KF}
structure Vl (W:Qj)(F:Fs)(kd:Kd)(bnd:List Str)(c:Cx):Prop where
 O:Ok W c
 FO:R9 W F c.room
 ch:∀x,c.env.kindOf x=some .cell->(c.env.cells.lookup x).isSome=true
 kd:c.env.kindOf=kd
 bnd:c.bnd=bnd
structure XB (W:Qj)(c:Cx)(ss:List Stmt)(loc:Loc)(st:Q4)(K:KF):Prop where
 go:XS W c (execs ss c.env) loc st K
structure X1 (W:Qj)(c:Cx)(s:Stmt)(loc:Loc)(st:Q4)(K:KF):Prop where
 go:XS W c (exec s c.env) loc st K
structure EX (W:Qj)(c:Cx)(e:Expr)(loc:Loc)(st:Q4)(k:V->Prop):Prop where
 go:Uv W c e loc st k
theorem at_ (H:Vl W F kd bnd c){s:Stmt}(h:rd F owns kd bnd s loc st K):X1 W c s loc st K:=⟨by
 obtain⟨O,FO,ch,rfl,rfl⟩:=H;exact Qwm O FO ch h⟩
theorem Qn6 (H:Vl W F kd bnd c){ss:List Stmt}(h:rds F owns kd bnd ss loc st K):XB W c ss loc st K:=⟨by
 obtain⟨O,FO,ch,rfl,rfl⟩:=H;exact Ag O FO ch _ _ _ _ _ h⟩
theorem G8 (H:Vl W F kd bnd c){e:Expr}{k:V->Prop}(h:Gi F kd e loc st k):EX W c e loc st k:=⟨by
 obtain⟨O,FO,ch,rfl,rfl⟩:=H;exact(Jp F 40 c O FO).1 _ _ _ _ h⟩
theorem Qz8 (H:Vl W F kd bnd c){e:Expr}{k:Bool->Prop}(h:Ot F kd e loc st k):Ps W c e loc st k:=by
 obtain⟨O,FO,ch,rfl,rfl⟩:=H;exact(Jp F 40 c O FO).2 _ _ _ _ h
theorem XB.mono {ss:List Stmt}{K K':KF}(h:XB W c ss loc st K)(m:∀fl loc st,K fl loc st->K' fl loc st):XB W c ss loc st K':=⟨h.go.mono m⟩
theorem Uq (h:K .next loc st):XB W c [] loc st K:=⟨E3 h⟩
theorem Zp {a:Stmt}{r:List Stmt}(K1:KF)(h:X1 W c a loc st K1)(m:∀fl loc' st',K1 fl loc' st'->Xk (λ loc' st'=>XB W c r loc' st' K) K fl loc' st'):XB W c (a::r) loc st K:=
 ⟨E4 (h.go.mono λ fl loc' st' q=>by
  have:=m fl loc' st' q;cases fl with
  |next=>exact XB.go this
  |_=>exact this)⟩
theorem Qk (H:Vl W F kd bnd c){a:Stmt}{r:List Stmt}(h:rd F owns kd bnd a loc st (Xk (λ loc' st'=>XB W c r loc' st' K) K)):XB W c (a::r) loc st K:=Zp _ (at_ H h) λ J J J q=>q
theorem Pc (H:Vl W F kd bnd c){s:Stmt}(hs:s=.While (wT s) (wB s) [] (wP s))(I:Nat->Loc->Q4->Prop)(n:Nat)(h0:I n loc st)
  (hI:∀n loc st,I n loc st->Ot F kd (wT s) loc st λ q=>cond q (XB W c (wB s) loc st (Bo (λ loc' st'=>∃m,m<n/\I m loc' st') K)) (K .next loc st)):X1 W c s loc st K:=⟨by
 rw[hs];exact E7 I n h0 λ n loc st h=>(Qz8 H (hI n loc st h)).mono λ q h=>by
  cases q with
  |true=>exact h.go
  |false=>exact h⟩
theorem Qzd {x:Str}{body:List Stmt}{own:Option (Nat×Nat)}(I:List V->Loc->Q4->Prop)
  (hb:∀v vs loc st,I (v::vs) loc st->XB W c body (Yx loc x v) st (Bo (λ loc' st'=>okV st' own/\I vs loc' st') K))
  (hK:∀loc st,I [] loc st->K .next loc st) (vs:List V):∀(loc:Loc) (st:Q4),I vs loc st->H0 x (λ loc st K=>XS W c (execs body c.env) loc st K) own vs loc st K:=by
 induction vs with
 |nil=>exact hK
 |cons v vs ih=>
  refine λ loc st h=>(hb v vs loc st h).go.mono λ fl loc' st' q=>?_;cases fl with
  |next=>exact⟨q.1,ih loc' st' q.2⟩
  |cont=>exact⟨q.1,ih loc' st' q.2⟩
  |_=>exact q
theorem Qas (H:Vl W F kd bnd c){s:Stmt}(hs:s=.For (.Name (wN s) (Mq s)) (wT s) (wB s) [] (wP s))(hns:Jj (wT s)=true)(hk:Be kd bnd (wN s)=true)(I:List V->Loc->Q4->Prop)
  (h:Gi F kd (wT s) loc st λ v=>Us st v λ xs own=>I xs loc st/\
   (∀v vs loc st,I (v::vs) loc st->XB W c (wB s) (Yx loc (wN s) v) st (Bo (λ loc' st'=>okV st' own/\I vs loc' st') K))/\∀loc st,I [] loc st->K .next loc st):X1 W c s loc st K:=⟨by
 rw[hs];have hk':Jx c.env.kindOf c.bnd (wN s):=by rw[H.kd,H.bnd];exact Xm hk
 refine Quv H.O H.ch hns hk' ((G8 H h).go.mono λ v h=>Bd h λ xs own ⟨h0,hb,hK⟩=>Qzd I hb hK xs loc st h0)⟩
structure XT (W:Qj)(c:Cx)(x:Str)(body:List Stmt)(own:Option (Nat×Nat))(vs:List V)(loc:Loc)(st:Q4)(K:KF):Prop where
 go:H0 x (λ loc st K=>XS W c (execs body c.env) loc st K) own vs loc st K
theorem Fo {x:Str}{body:List Stmt}{own:Option (Nat×Nat)}(h:K .next loc st):XT W c x body own [] loc st K:=⟨h⟩
theorem Ba {x:Str}{body:List Stmt}{own:Option (Nat×Nat)}{v:V}{vs:List V}(h:XB W c body (Yx loc x v) st (Bo (λ loc' st'=>okV st' own/\XT W c x body own vs loc' st' K) K)):XT W c x body own (v::vs) loc st K:=
 ⟨h.go.mono λ fl loc' st' q=>by
  cases fl with
  |next=>exact⟨q.1,q.2.go⟩
  |cont=>exact⟨q.1,q.2.go⟩
  |brk=>exact q
  |ret u=>exact q⟩
theorem T9 (H:Vl W F kd bnd c){s:Stmt}(hs:s=.For (.Name (wN s) (Mq s)) (wT s) (wB s) [] (wP s))(hns:Jj (wT s)=true)(hk:Be kd bnd (wN s)=true)
  (h:Gi F kd (wT s) loc st λ v=>Us st v λ xs own=>XT W c (wN s) (wB s) own xs loc st K):X1 W c s loc st K:=⟨by
 rw[hs];have hk':Jx c.env.kindOf c.bnd (wN s):=by rw[H.kd,H.bnd];exact Xm hk
 refine Quv H.O H.ch hns hk' ((G8 H h).go.mono λ v h=>Bd h λ xs own h=>h.go)⟩
theorem M5 (H:Vl W F kd bnd c){s:Stmt}(hs:s=.Assign [.Name (wN s) (Mq s)] (wT s) (wP s))(hk:Be kd bnd (wN s)=true)(hw:swW kd (wT s) (wN s) (Mq s).line=some false)
  (h:EX W c (wT s) loc st λ v=>K .next (Yx loc (wN s) v) st):X1 W c s loc st K:=⟨by
 rw[hs];have hk':Jx c.env.kindOf c.bnd (wN s):=by rw[H.kd,H.bnd];exact Xm hk
 refine Nn H.O H.ch (Ek (t:=wN s) (px:=Mq s) H.O.ek (by rw[H.kd];exact hw)) hk' h.go⟩
end
noncomputable def Fb (e:Expr):Expr:=if h:e.ctorIdx=8 then Expr.ListComp.elim e h λ e J J J=>e else default
noncomputable def Jw (e:Expr):List Comprehension:=if h:e.ctorIdx=8 then Expr.ListComp.elim e h λ J g J J=>g else []
noncomputable def Y4 (e:Expr):Scope:=if h:e.ctorIdx=8 then Expr.ListComp.elim e h λ J J s J=>s else default
def rdC (F:Fs)(n:Nat)(kd:Kd)(e:Expr)(st:Q4)(xs:List V)(loc:Loc)(k:List V->Prop):Prop:=Tw (Jw e) λ g=>
 Wr (V3 (Uj (Y4 e) kd) (λ e' loc k=>(X7 F n).2 (Uj (Y4 e) kd) e' loc st k) (cGo (Uj (Y4 e) kd) (λ loc k=>(X7 F n).1 (Uj (Y4 e) kd) (Fb e) loc st k) (λ e' loc k=>(X7 F n).1 (Uj (Y4 e) kd) e' loc st k) (λ e' loc k=>(X7 F n).2 (Uj (Y4 e) kd) e' loc st k) st []) g xs loc [] k)
def rdI (F:Fs)(n:Nat)(kd:Kd)(e:Expr)(st:Q4)(v:V)(loc:Loc)(acc:List V)(k:List V->Prop):Prop:=Tw (Jw e) λ g=>
 Vn (Uj (Y4 e) kd) g.target v loc λ loc'=>Bu (λ e' loc k=>(X7 F n).2 (Uj (Y4 e) kd) e' loc st k) g.ifs loc' λ b=>
   cond b (cGo (Uj (Y4 e) kd) (λ loc k=>(X7 F n).1 (Uj (Y4 e) kd) (Fb e) loc st k) (λ e' loc k=>(X7 F n).1 (Uj (Y4 e) kd) e' loc st k) (λ e' loc k=>(X7 F n).2 (Uj (Y4 e) kd) e' loc st k) st [] loc' acc k) (k acc)
theorem Ph {kd:Kd}{ts:Expr->Loc->(Bool->Prop)->Prop}{inner:Loc->List V->(List V->Prop)->Prop}{g:Comprehension}{loc:Loc}(f:V->Option V){xs:List V}{k:List V->Prop}:
  ∀{acc:List V},(∀v∈xs,∀(acc':List V) (k':List V->Prop),acc'.length<acc.length+xs.length->k' (acc'++(f v).toList)->
   Vn kd g.target v loc λ loc'=>Bu ts g.ifs loc' λ b=>cond b (inner loc' acc' k') (k' acc'))->k (acc++xs.filterMap f)->V3 kd ts inner g xs loc acc k:=by
 induction xs with
 |nil=>intro acc _ h;rw[List.filterMap_nil,Qs]at h;exact h
 |cons v vs ih=>
  intro acc hb h;refine hb v (.head _) acc (λ acc'=>V3 kd ts inner g vs loc acc' k) (Nat.lt_add_of_pos_right (Nat.succ_pos _)) (ih (λ u hu a k' hl hk=>hb u (.tail _ hu) a k' ?_ hk) ?_)
  .have:(f v).toList.length<=1:=by cases f v <;> first |exact Zy _ |exact Q2 _
   rw[Q8]at hl;rw[Qb];lia
  .cases e:f v with
   |none=>rw[List.filterMap_cons_none e]at h;rw[Option.toList_none,Qs];exact h
   |some y=>rw[List.filterMap_cons_some e]at h;rw[Option.toList_some,Qr];exact h
theorem Gz {F:Fs}{n:Nat}{kd:Kd}{e:Expr}{st:Q4}{xs:List V}{loc:Loc}{k:List V->Prop}(f:V->Option V)(hg:(Jw e).length=1)
  (hb:∀v∈xs,∀(acc:List V) (k':List V->Prop),acc.length<xs.length->k' (acc++(f v).toList)->rdI F n kd e st v loc acc k') (h:k (xs.filterMap f)):rdC F n kd e st xs loc k:=by
 delta rdC
 delta rdI at hb
 generalize Jw e=gs at hg hb |-
 match gs,hg with
 |[g],_=>exact⟨Ph f (λ v hv acc k' hl hk=>hb v hv acc k' (by rw[Zs,Nat.zero_add]at hl;exact hl) hk) h⟩
section
variable {W:Qj}{c:Cx}{F:Fs}{owns:List Str}{kd:Kd}{bnd:List Str}{loc:Loc}{st:Q4}{K:KF}
theorem Qtz {es:List Expr}{p:Pos}{k:V->Prop}(hs:Z8 es=true)(h:Ab W c es loc st λ vs=>vs.length<=sizeLine/\k (.list vs)):EX W c (.List es p) loc st k:=⟨λ l s Q E hR hQ=>by
 refine List_ (h l s _ _ E hR λ vs ws s1 k1 t1 v1 h1=>wpAny_newList ?_ (by rw[<- v1.length];exact h1.1));exact hQ _ _ _ (Qi k1 (My _ _ _)) t1 (.list (Vk (hR.keeps k1 t1).low) (G1 _ _) (v1.sub (Yo _ _))) h1.2⟩
theorem Qpi {e:Expr}{r:List Expr}{k:List V->Prop}(hs:Z8 (e::r)=true)(h:EX W c e loc st λ v=>Ab W c r loc st λ vs=>k (v::vs)):Ab W c (e::r) loc st k:=Kt hs h.go
end
noncomputable def chE (e:Expr):List Expr:=
 if h:e.ctorIdx=16 then Expr.Call.elim e h λ f as J J=>f::as else
 if h:e.ctorIdx=20 then Expr.Attribute.elim e h λ o J J=>[o] else
 if h:e.ctorIdx=21 then Expr.Subscript.elim e h λ a b J=>[a,b] else
 if h:e.ctorIdx=2 then Expr.BinOp.elim e h λ a J b J=>[a,b] else
 if h:e.ctorIdx=15 then Expr.Compare.elim e h λ l J rs J=>l::rs else
 if h:e.ctorIdx=25 then Expr.Tuple.elim e h λ es J J=>es else
 if h:e.ctorIdx=24 then Expr.List.elim e h λ es J=>es else
 if h:e.ctorIdx=5 then Expr.IfExp.elim e h λ a b c J=>[a,b,c] else
 if h:e.ctorIdx=10 then Expr.DictComp.elim e h λ k v gs J J=>k::v::gs.flatMap λ g=>[g.target,g.iter] else
 if h:e.ctorIdx=8 then Expr.ListComp.elim e h λ k gs J J=>k::gs.flatMap λ g=>[g.target,g.iter] else
 if h:e.ctorIdx=0 then Expr.BoolOp.elim e h λ J es J=>es else
 if h:e.ctorIdx=3 then Expr.UnaryOp.elim e h λ J a J=>[a] else
 if h:e.ctorIdx=26 then Expr.Slice.elim e h λ a b c J=>a.toList++b.toList++c.toList else
 if h:e.ctorIdx=6 then Expr.Dict.elim e h λ ks vs J=>ks.flatMap Option.toList++vs else []
noncomputable def kE (e:Expr):Nat:=if h:e.ctorIdx=25 then Expr.Tuple.elim e h λ J k J=>k else if h:e.ctorIdx=19 then Expr.Constant.elim e h λ J k J=>k else 0
noncomputable def Qap (e:Expr):Scope:=if h:e.ctorIdx=10 then Expr.DictComp.elim e h λ J J J s J=>s else default
noncomputable def stE (s:Stmt):List Expr:=
 if h:s.ctorIdx=5 then Stmt.Assign.elim s h λ ts v J=>v::ts else
 if h:s.ctorIdx=12 then Stmt.If.elim s h λ t J J J=>[t] else
 if h:s.ctorIdx=9 then Stmt.For.elim s h λ t i J J J=>[i,t] else
 if h:s.ctorIdx=3 then Stmt.Return.elim s h λ o J=>o.toList else
 if h:s.ctorIdx=24 then Stmt.Expr.elim s h λ e J=>[e] else
 if h:s.ctorIdx=16 then Stmt.Raise.elim s h λ o J J=>o.toList else []
noncomputable def stP (s:Stmt):Pos:=
 if h:s.ctorIdx=3 then Stmt.Return.elim s h λ J p=>p else
 if h:s.ctorIdx=24 then Stmt.Expr.elim s h λ J p=>p else
 if h:s.ctorIdx=16 then Stmt.Raise.elim s h λ J J p=>p else
 if h:s.ctorIdx=17 then Stmt.Try.elim s h λ J J J J p=>p else wP s
noncomputable def Qh2 (s:Stmt):List Stmt:=if h:s.ctorIdx=17 then Stmt.Try.elim s h λ b J J J J=>b else []
noncomputable def Zwb (s:Stmt):List ExceptHandler:=if h:s.ctorIdx=17 then Stmt.Try.elim s h λ J h J J J=>h else []
noncomputable def nv (e:Expr)(p:List Nat):Expr:=p.foldl (λ e i=>(chE e).getD i default) e
noncomputable def ns (s:Stmt)(i:Nat)(p:List Nat):Expr:=nv ((stE s).getD i default) p
noncomputable def sN (i j:Nat):Stmt:=((fB (stN i))[j]?).getD default
noncomputable def Z9 (i:Nat):Kd:=λ x=>(fS (stN i)).names.lookup x
noncomputable def Vu (i j k:Nat):Stmt:=((wB (sN i j))[k]?).getD default
noncomputable def F0:Fs:=⟨[],[("ELLIPSIS_MARKER","...")],none⟩
set_option tactic.hygienic true in
theorem pyl (x:Int){y:Int}(h:y.natAbs<2^30):Builtin.divisionGoesByPylong x y=false:=by
 unfold Builtin.divisionGoesByPylong;have e:∀n:Int,n.natAbs<2^30->(if (n==0)=true then 0 else n.natAbs.log2/30+1)<=1:=by
  intro n hn;split
  .exact Zy _
  .rename_i q
   have hz:n.natAbs≠0:=by intro z;apply q;simp;lia
   have:n.natAbs.log2<30:=(Nat.log2_lt hz).mpr hn;lia
 have:=e y h;dsimp only;rw[Bool.and_eq_false_iff]
 left
 exact Z5 (by lia)
noncomputable def Wv (d:Nat):UInt8:=(65+d).toUInt8
noncomputable def apD (f n:Nat):List UInt8:=f.rec (motive:=λ J=>Nat->List UInt8) (λ J=>[]) (λ J r n=>if n=0 then [] else r (n/16)++[Wv (n%16)]) n
theorem Qf4 {f n:Nat}:apD (f+1) n=if n=0 then [] else apD f (n/16)++[Wv (n%16)]:=rfl
noncomputable def Cc:Array UInt8:=#[65,66,67,68,69,70,71,72,73,74,75,76,77,78,79,80]
theorem Qn7 (m:Nat)(h:m<16):KBy.picked Cc (some (m:Int)) (some ((m:Int)+1))=#[Wv m]:=by
 have:∀m:Fin 16,KBy.picked Cc (some ((m.val:Nat):Int)) (some (((m.val:Nat):Int)+1))=#[Wv m.val]:=by decide +kernel
 exact this ⟨m,h⟩
noncomputable def apL (k:Int)(v:Array UInt8)(mo:Loc):Loc:=("num",.int k)::("val",.bytes v)::("AP",.bytes Cc)::mo
theorem Zpf (n:Int)(K:KF):rd F0 [] (Z9 10) [] (sN 10 0) [("num",.int n)] [] K=K Fl.next [("num",.int n),("val",.bytes #[])] []:=by kernel_rfl
theorem Zpg (n:Int)(K:KF):rd F0 [] (Z9 10) [] (sN 10 1) [("num",.int n),("val",.bytes #[])] [] K=K Fl.next (apL n #[] []) []:=by kernel_rfl
theorem Zpp (n:Int)(K:KF):rd F0 [] (Z9 10) [] (sN 10 2) (apL n #[] []) [] K=K Fl.next (apL (if n<0 then -n else n) #[] []) []:=by kernel_rfl
theorem Zpb (n:Int)(v:Array UInt8)(mo:Loc)(k:Bool->Prop):Ot F0 (Z9 10) (wT (sN 10 3)) (apL n v mo) [] k=k (n !=0):=by kernel_rfl
def apP (n:Int)(v:Array UInt8)(K:KF):Prop:=
 (16:Int)≠0/\Builtin.divisionGoesByPylong n 16=false/\Cc.size<=sizeLine/\(KBy.picked Cc (some (Int.fmod n 16)) (some (Int.fmod n 16+1))).size+v.size<=16777216/\
   K Fl.next (apL (Int.fdiv n 16) (KBy.picked Cc (some (Int.fmod n 16)) (some (Int.fmod n 16+1))++v) [("mod",.int (Int.fmod n 16))]) []
theorem Zxs (n:Int)(v:Array UInt8)(K:KF):rds F0 [] (Z9 10) [] (wB (sN 10 3)) (apL n v []) [] K=apP n v K:=by kernel_rfl
theorem Zxc (n m:Int)(v:Array UInt8)(K:KF):rds F0 [] (Z9 10) [] (wB (sN 10 3)) (apL n v [("mod",.int m)]) [] K=apP n v K:=by kernel_rfl
theorem Zpm (n:Int)(v:Array UInt8)(mo:Loc)(K:KF):rd F0 [] (Z9 10) [] (sN 10 4) (apL n v mo) [] K=K (Fl.ret (.bytes v)) (apL n v mo) []:=by kernel_rfl
theorem Qn8:fB (stN 10)=[sN 10 0,sN 10 1,sN 10 2,sN 10 3,sN 10 4]:=by kernel_rfl
theorem Zpu:sN 10 3=.While (wT (sN 10 3)) (wB (sN 10 3)) [] (wP (sN 10 3)):=by kernel_rfl
section
variable {W:Qj}{c:Cx}
theorem Qar (H:Vl W F0 (Z9 10) [] c){n:Int}(hn:n.natAbs<16^7){K:KF}(h:∀loc,K (.ret (.bytes (apD 7 n.natAbs).toArray)) loc []):XB W c (fB (stN 10)) [("num",.int n)] [] K:=by
 rw[Qn8];refine Qk (owns:=[]) H ?_;rw[Zpf];refine Qk (owns:=[]) H ?_;rw[Zpg];refine Qk (owns:=[]) H ?_;rw[Zpp]
 have en:(if n<0 then -n else n)=(n.natAbs:Int):=by split <;> lia
 rw[en];refine Zp (λ fl loc st=>fl=.next/\st=[]/\∃k mo,loc=apL k (apD 7 n.natAbs).toArray mo) (Pc H Zpu
  (λ m loc st=>st=[]/\∃(k:Nat) (v:List UInt8) (mo:Loc),loc=apL k v.toArray mo/\(mo=[]\/∃q,mo=[(("mod":Str),V.int q)])/\k<16^m/\apD m k++v=apD 7 n.natAbs/\v.length+m<=7) 7
  ⟨rfl,n.natAbs,[],[],rfl,.inl rfl,hn,by simp,by simp⟩ λ m loc st=>?_) ?_
 .rintro⟨rfl,k,v,mo,rfl,hmo,hk,hv,hl⟩
  rw[Zpb];by_cases hz:k=0
  .subst hz;show cond false _ _
   have e0:v=apD 7 n.natAbs:=by rw[<- hv];cases m <;> rfl
   exact⟨rfl,rfl,((0:Nat):Int),mo,by rw[e0]⟩
  .cases m with
   |zero=>lia
   |succ m=>
    have:((k:Int) !=0)=true:=by simp;assumption
    rw[this,Zi];refine Qn6 (owns:=[]) H ?_;have hm:k%16<16:=Za _ (by exact Nat.succ_pos _);have e1:Int.fmod (k:Int) 16=((k%16:Nat):Int):=by rw[Int.fmod_eq_emod_of_nonneg _ (by exact Qy _)];rfl
    have e2:Int.fdiv (k:Int) 16=((k/16:Nat):Int):=by rw[Int.fdiv_eq_ediv_of_nonneg _ (by exact Qy _)];rfl
    have key:∀K:KF,K Fl.next (apL ((k/16:Nat):Int) (Wv (k%16)::v).toArray [("mod",.int ((k%16:Nat):Int))]) []->apP k v.toArray K:=by
     intro K hK;unfold apP;rw[e1,e2,Qn7 _ hm];refine⟨by lia,pyl _ (by decide),(by decide),by simp;lia,?_⟩;have:#[Wv (k%16)]++v.toArray=(Wv (k%16)::v).toArray:=by simp
     rw[this];exact hK
    have fin:∃m',m'<m+1/\(([]:Q4)=[]/\∃(k':Nat) (v':List UInt8) (mo:Loc),(apL ((k/16:Nat):Int) (Wv (k%16)::v).toArray [("mod",.int ((k%16:Nat):Int))])=apL k' v'.toArray mo/\(mo=[]\/∃q,mo=[(("mod":Str),V.int q)])/\k'<16^m'/\apD m' k'++v'=apD 7 n.natAbs/\v'.length+m'<=7):=by
     refine⟨m,Zc _,rfl,k/16,Wv (k%16)::v,[("mod",.int ((k%16:Nat):Int))],rfl,.inr ⟨_,rfl⟩,?_,?_,?_⟩
     .rw[Nat.pow_succ]at hk;lia
     .rw[<- hv,Qf4,if_neg hz,Qr];rfl
     .simp at hl |-;lia
    rcases hmo with rfl |⟨q,rfl⟩
    .rw[Zxs];exact key _ fin
    .rw[Zxc];exact key _ fin
 .rintro fl loc st ⟨rfl,rfl,k,mo,rfl⟩
  refine Qk (owns:=[]) H ?_;rw[Zpm];exact h _
end
section
open Builtin Builtin.Str
noncomputable abbrev Zz:Str:="..."
noncomputable def Kl (y:Str)(j:Int)(ws:List Str)(i:Int):Bool:=ws.rec (motive:=λ J=>Int->Bool) (λ J=>true) (λ w J r i=>cond (decide (Gu y w i j<0)) false (r (Gu y w i j+w.length))) i
noncomputable def Qyv (y:Str)(i j:Int)(ws:List Str):Bool:=cond (decide (j<i)) false (Kl y j ws i)
noncomputable def Qqt (y:Str)(i:Int)(ws:List Str):Bool:=
 cond ((((ws.getLastD "").length:Nat):Int) !=0) (cond (Txt.endswith y (ws.getLastD "")) (Qyv y i (y.length-(ws.getLastD "").length) ws.dropLast) false) (Qyv y i y.length ws)
noncomputable def Qtb (y:Str)(ws:List Str):Bool:=
 cond ((((ws.headD "").length:Nat):Int) !=0) (cond (Txt.startswith y (ws.headD "")) (Qqt y (ws.headD "").length ws.tail) false) (Qqt y 0 ws)
noncomputable def ell (x y:Str):Bool:=cond (!Txt.contains x Zz) (x==y) (Qtb y (Txt.split x Zz))
noncomputable def elL (x y:Str)(mo:Loc):Loc:=("got",.str y)::("want",.str x)::("ws",.own 0)::mo
noncomputable def Ma (x y w:Str)(i j:Int):Loc:=elL x y [("endpos",.int j),("startpos",.int i),("w",.str w)]
theorem Zml (x y:Str)(K:KF):rd F0 ["ws"] (Z9 8) [] (sN 8 0) [("got",.str y),("want",.str x)] [] K=
  cond (!Txt.contains x Zz) (K (.ret (.bool (x==y))) [("got",.str y),("want",.str x)] []) (K .next [("got",.str y),("want",.str x)] []):=by kernel_rfl
theorem Zmn (x y:Str)(K:KF):rd F0 ["ws"] (Z9 8) [] (sN 8 1) [("got",.str y),("want",.str x)] [] K=
  ((Zz.length==0)=false/\x.length<=sizeLine/\(partsBetween x (occurrences x Zz 0 x.length (x.length+1)) Zz.length).length<=sizeLine/\K .next (elL x y []) [((Txt.split x Zz).map V.str,0)]):=by kernel_rfl
theorem Zmt (x y:Str)(ws:List V)(K:KF):rd F0 ["ws"] (Z9 8) [] (sN 8 2) (elL x y []) [(ws,0)] K=
  (ws.length<=16777216/\decide ((2:Int)<=(ws.length:Nat))=true/\K .next (elL x y []) [(ws,0)]):=by kernel_rfl
theorem Zmd (x y:Str)(ws:List V)(K:KF):rd F0 ["ws"] (Z9 8) [] (sN 8 3) (elL x y []) [(ws,0)] K=
  (y.length<=16777216/\K .next (elL x y [("endpos",.int (y.length:Nat)),("startpos",.int 0)]) [(ws,0)]):=by kernel_rfl
theorem Zmh (x y:Str)(i j:Int)(ws:List V)(K:KF):rd F0 ["ws"] (Z9 8) [] (sN 8 4) (elL x y [("endpos",.int j),("startpos",.int i)]) [(ws,0)] K=
  ((Ge ws 0).elim False λ v:V=>K .next (elL x y [("endpos",.int j),("startpos",.int i),("w",v)]) [(ws,0)]):=by kernel_rfl
theorem Zmf (x y w:Str)(i j:Int)(ws:List V)(K:KF):rd F0 ["ws"] (Z9 8) [] (sN 8 5) (Ma x y w i j) [(ws,0)] K=
  (w.length<=16777216/\cond (((w.length:Nat):Int) !=0) (cond (Txt.startswith y w) (w.length<=16777216/\∃k:Nat,ws.length<=16777216/\Builtin.List.listFitsIndex 0=true/\seqIndex? 0 ws.length=some k/\k<ws.length/\
    K .next (Ma x y w (w.length:Nat) j) [(ws.eraseIdx k,1)])
   (K (.ret (.bool false)) (Ma x y w i j) [(ws,0)])) (K .next (Ma x y w i j) [(ws,0)])):=by kernel_rfl
theorem Zmg (x y w:Str)(i j:Int)(n:Nat)(ws:List V)(K:KF):rd F0 ["ws"] (Z9 8) [] (sN 8 6) (Ma x y w i j) [(ws,n)] K=
  ((Ge ws (-1)).elim False λ v:V=>K .next (elL x y [("endpos",.int j),("startpos",.int i),("w",v)]) [(ws,n)]):=by kernel_rfl
theorem Zmp (x y w:Str)(i j:Int)(n:Nat)(ws:List V)(K:KF):rd F0 ["ws"] (Z9 8) [] (sN 8 7) (Ma x y w i j) [(ws,n)] K=
  (w.length<=16777216/\cond (((w.length:Nat):Int) !=0) (cond (Txt.endswith y w) (w.length<=16777216/\∃k:Nat,ws.length<=16777216/\Builtin.List.listFitsIndex (-1)=true/\seqIndex? (-1) ws.length=some k/\k<ws.length/\
    K .next (Ma x y w i (j-(w.length:Nat))) [(ws.eraseIdx k,n+1)])
   (K (.ret (.bool false)) (Ma x y w i j) [(ws,n)])) (K .next (Ma x y w i j) [(ws,n)])):=by kernel_rfl
theorem Zmm (x y w:Str)(i j:Int)(n:Nat)(ws:List V)(K:KF):rd F0 ["ws"] (Z9 8) [] (sN 8 8) (Ma x y w i j) [(ws,n)] K=
  cond (decide (j<i)) (K (.ret (.bool false)) (Ma x y w i j) [(ws,n)]) (K .next (Ma x y w i j) [(ws,n)]):=by kernel_rfl
theorem Zx0 (x y w:Str)(i j:Int)(n:Nat)(ws:List V)(k:V->Prop):Gi F0 (Z9 8) (wT (sN 8 9)) (Ma x y w i j) [(ws,n)] k=k (.own 0):=by kernel_rfl
theorem Zx1 (x y w:Str)(i j:Int)(n:Nat)(ws:List V)(K:KF):rds F0 ["ws"] (Z9 8) [] (wB (sN 8 9)) (Ma x y w i j) [(ws,n)] K=
  cond (decide (Gu y w i j<0)) (K (.ret (.bool false)) (Ma x y w (Gu y w i j) j) [(ws,n)])
   (w.length<=16777216/\K .next (Ma x y w (Gu y w i j+(w.length:Nat)) j) [(ws,n)]):=by kernel_rfl
theorem Zx2 (x y w:Str)(i j:Int)(n:Nat)(ws:List V)(K:KF):rd F0 ["ws"] (Z9 8) [] (sN 8 10) (Ma x y w i j) [(ws,n)] K=K (.ret (.bool true)) (Ma x y w i j) [(ws,n)]:=by kernel_rfl
theorem Qtm:fB (stN 8)=[sN 8 0,sN 8 1,sN 8 2,sN 8 3,sN 8 4,sN 8 5,sN 8 6,sN 8 7,sN 8 8,sN 8 9,sN 8 10]:=by kernel_rfl
theorem Zmb:sN 8 9=.For (.Name (wN (sN 8 9)) (Mq (sN 8 9))) (wT (sN 8 9)) (wB (sN 8 9)) [] (wP (sN 8 9)):=by kernel_rfl
theorem Zjo:wN (sN 8 9)="w":=by kernel_rfl
theorem B9 (x:Str)(w:Nat)(cuts:List Nat):∀a:Nat,(StrLaws.partsFrom x w a cuts).length=cuts.length+1/\∀p∈StrLaws.partsFrom x w a cuts,p.length<=x.length:=by
 have sub:∀a b,(strSub x a b).length<=x.length:=λ a b=>by simp only[Str.length,strSub,Array.size_extract];lia
 induction cuts with
 |nil=>exact λ a=>⟨rfl,λ p hp=>Q3.mp (show p∈[_] from hp)▸sub _ _⟩
 |cons c r ih=>exact λ a=>⟨Zm Nat.succ (ih _).1,λ p hp=>(Qx.mp (show p∈_::StrLaws.partsFrom x w (c+w) r from hp)).elim (λ e=>e▸sub _ _) ((ih _).2 p)⟩
theorem split_len (x y:Str):∀p∈Txt.split x y,p.length<=x.length:=by
 unfold Txt.split;split
 .simp
 .split
  .simp
  .rw[StrLaws.partsBetween_eq];exact(B9 x _ _ 0).2
theorem Of (x y:Str)(hy:1<=y.length)(hk:Builtin.Str.strKind y=1)(h:Txt.contains x y=true):2<=(Txt.split x y).length/\(Txt.split x y).length<=x.length+2:=by
 obtain⟨i,hi,hs⟩:=(StrLaws.found_iff x y).mp h;unfold Txt.split;rw[if_neg,if_neg]
 .rw[StrLaws.partsBetween_eq,(B9 x _ _ 0).1];have:=StrLaws.occ_length_le x y 0 x.length (x.length+1);refine⟨?_,by exact Nat.add_le_add_right ‹_› _⟩
  rcases StrLaws.occ_head x y (x.length+1) (by exact Nat.succ_pos _) with⟨_,hn⟩ |⟨a,r,e,_⟩
  .exact absurd ⟨hi,hs⟩ (hn i)
  .rw[e];simp
 .rcases StrLaws.occ_head x y (x.length+1) (by exact Nat.succ_pos _) with⟨_,hn⟩ |⟨a,r,e,_⟩
  .exact absurd ⟨hi,hs⟩ (hn i)
  .rw[e];simp
 .have:1<=Builtin.Str.strKind x:=by unfold Builtin.Str.strKind;split <;> (try split) <;> exact Nat.succ_pos _
  rw[hk];simp;lia
theorem Qpz {w:Str}{ws:List Str}:Ge ((w::ws).map V.str) 0=some (.str w):=by
 unfold Ge;rw[StrLaws.seqIndex_nonneg (by exact Qy _) (by simp)];rfl
theorem Qpq {ws:List Str}(h:ws≠[]):Ge (ws.map V.str) (-1)=some (.str (ws.getLastD "")):=by
 have hl:0<ws.length:=List.length_pos_iff.mpr h;unfold Ge;rw[StrLaws.seqIndex_neg (by exact Qy _) (by simp;lia)];simp only[Q6,Option.bind_some];have e:((-1:Int)+(ws.length:Int)).toNat=ws.length-1:=by lia
 rw[e,Z7,<- List.getLast?_eq_getElem?,List.getLast?_eq_some_getLast h];simp only[Option.map_some,List.getLastD_eq_getLast?,List.getLast?_eq_some_getLast h,Option.getD_some]
section
variable {W:Qj}{c:Cx}
theorem Qay (H:Vl W F0 (Z9 8) [] c){x y:Str}(hx:x.length<=1000)(hy:y.length<=1000){K:KF}(h:∀loc st,K (.ret (.bool (ell x y))) loc st):XB W c (fB (stN 8)) [("got",.str y),("want",.str x)] [] K:=by
 have z16:sizeLine=16777216:=rfl;rw[Qtm];refine Qk (owns:=["ws"]) H ?_;rw[Zml];unfold ell at h;cases hc:Txt.contains x Zz with
 |false=>rw[hc]at h;exact h _ _
 |true=>
 rw[hc]at h;show XB W c _ _ _ _;have h:∀loc st,K (.ret (.bool (Qtb y (Txt.split x Zz)))) loc st:=h;obtain⟨hn,hn2⟩:=Of x Zz (by decide) (by decide +kernel) hc;have hl:=split_len x Zz;refine Qk (owns:=["ws"]) H ?_;rw[Zmn];refine⟨by decide +kernel,by lia,?_,?_⟩
 .rw[StrLaws.partsBetween_eq,(B9 x _ _ 0).1];have:=StrLaws.occ_length_le x Zz 0 x.length (x.length+1);lia
 generalize Txt.split x Zz=ws at hn hn2 hl h;show XB W c _ _ _ _;refine Qk (owns:=["ws"]) H ?_;rw[Zmt];refine⟨by simp;lia,by simp;lia,?_⟩;show XB W c _ _ _ _;refine Qk (owns:=["ws"]) H ?_;rw[Zmd];refine⟨by lia,?_⟩;show XB W c _ _ _ _;refine Qk (owns:=["ws"]) H ?_;rw[Zmh];cases ws with
 |nil=>simp at hn
 |cons w ws=>
 rw[Qpz];show XB W c _ (Ma x y w 0 y.length) _ _;have hw:w.length<=x.length:=hl w (.head _);have r3:∀(w:Str) (i j:Int) (n:Nat) (ws:List Str),(∀p∈ws,p.length<=x.length)->(∀loc st,K (.ret (.bool (Qyv y i j ws))) loc st)->XB W c [sN 8 8,sN 8 9,sN 8 10] (Ma x y w i j) [(ws.map V.str,n)] K:=by
  intro w i j n ws hl h;refine Qk (owns:=["ws"]) H ?_;rw[Zmm];unfold Qyv at h;cases hc:decide (j<i) with
  |true=>rw[hc]at h;exact h _ _
  |false=>
  rw[hc]at h;have h:∀loc st,K (.ret (.bool (Kl y j ws i))) loc st:=h;show XB W c _ _ _ _;refine Zp (λ fl loc st=>(fl=.next/\∃w i,loc=Ma x y w i j/\st=[(ws.map V.str,n)]/\Kl y j ws i=Kl y j ws i/\∀loc st,K (.ret (.bool true)) loc st)\/(∃v,fl=.ret v/\K (.ret v) loc st))
   (Qas H Zmb (by decide +kernel) (by decide +kernel) (λ vs loc st=>st=[(ws.map V.str,n)]/\∃w i us,loc=Ma x y w i j/\vs=us.map V.str/\(∀p∈us,p.length<=x.length)/\∀loc st,K (.ret (.bool (Kl y j us i))) loc st) ?_) ?_
  .rw[Zx0];refine⟨⟨rfl,w,i,ws,rfl,rfl,hl,h⟩,?_,?_⟩
   .rintro v vs loc st ⟨rfl,w,i,us,rfl,e,hl,h⟩
    cases us with
    |nil=>cases e
    |cons u us=>
    simp only[Qu,List.cons.injEq]at e;obtain⟨rfl,rfl⟩:=e;rw[Zjo];show XB W c _ (Ma x y u i j) _ _;refine Qn6 (owns:=["ws"]) H ?_;rw[Zx1]
    replace h:∀loc st,K (.ret (.bool (cond (decide (Gu y u i j<0)) false (Kl y j us (Gu y u i j+u.length))))) loc st:=h
    cases hf:decide (Gu y u i j<0) with
    |true=>
     rw[hf]at h;exact .inr ⟨_,rfl,h _ _⟩
    |false=>
     rw[hf]at h;have hu:=hl u (.head _);exact⟨by lia,rfl,rfl,u,_,us,rfl,rfl,λ p hp=>hl p (.tail _ hp),h⟩
   .rintro loc st ⟨rfl,w,i,us,rfl,e,hl,h⟩
    cases us with
    |nil=>exact .inl ⟨rfl,w,i,rfl,rfl,rfl,h⟩
    |cons u us=>cases e
  .rintro fl loc st (⟨rfl,w,i,rfl,rfl,_,h⟩ |⟨v,rfl,h⟩)
   .refine Qk (owns:=["ws"]) H ?_;rw[Zx2];exact h _ _
   .exact h
 have r2:∀(w:Str) (i:Int) (n:Nat) (ws:List Str),ws≠[]->(∀p∈ws,p.length<=x.length)->ws.length<=x.length+2->(∀loc st,K (.ret (.bool (Qqt y i ws))) loc st)->XB W c [sN 8 6,sN 8 7,sN 8 8,sN 8 9,sN 8 10] (Ma x y w i y.length) [(ws.map V.str,n)] K:=by
  intro w i n ws hne hl hz h;refine Qk (owns:=["ws"]) H ?_;rw[Zmg];rw[Qpq hne];show XB W c _ (Ma x y (ws.getLastD "") i y.length) _ _;have hw:(ws.getLastD "").length<=x.length:=hl _ (by
   rw[List.getLastD_eq_getLast?,List.getLast?_eq_some_getLast hne];exact List.getLast_mem hne)
  refine Qk (owns:=["ws"]) H ?_;rw[Zmp];refine⟨by lia,?_⟩;unfold Qqt at h;cases hc:((((ws.getLastD "").length:Nat):Int) !=0) with
  |false=>
   rw[hc]at h;exact r3 _ _ _ _ _ hl h
  |true=>
   rw[hc]at h;cases he:Txt.endswith y (ws.getLastD "") with
   |false=>rw[he]at h;exact h _ _
   |true=>
    rw[he]at h;have h:∀loc st,K (.ret (.bool (Qyv y i (y.length-(ws.getLastD "").length) ws.dropLast))) loc st:=h;have hl0:0<ws.length:=List.length_pos_iff.mpr hne;refine⟨by lia,ws.length-1,by simp;lia,by decide +kernel,?_,by simp;lia,?_⟩
    .rw[StrLaws.seqIndex_neg (by exact Qy _) (by simp;lia)]
     congr 1
     simp only[Q6];lia
    .have e:(ws.map V.str).eraseIdx (ws.length-1)=(ws.dropLast).map V.str:=by
      rw[List.map_dropLast,<- List.eraseIdx_length_sub_one,Q6]
     rw[e];exact r3 _ _ _ _ _ (λ p hp=>hl p (List.dropLast_subset _ hp)) h
 refine Qk (owns:=["ws"]) H ?_;rw[Zmf];refine⟨by lia,?_⟩;have h:∀loc st,K (.ret (.bool (cond (((w.length:Nat):Int) !=0) (cond (Txt.startswith y w) (Qqt y w.length ws) false) (Qqt y 0 (w::ws))))) loc st:=h;cases hc:(((w.length:Nat):Int) !=0) with
 |false=>
  rw[hc]at h;exact r2 _ _ _ _ (by simp) hl hn2 h
 |true=>
  rw[hc]at h;cases hs:Txt.startswith y w with
  |false=>rw[hs]at h;exact h _ _
  |true=>
   rw[hs]at h;refine⟨by lia,0,by simp at hn2 |-;lia,by decide +kernel,?_,by simp,?_⟩
   .rw[StrLaws.seqIndex_nonneg (by exact Qy _) (by simp)];rfl
   .refine r2 _ _ _ _ (by rintro rfl;simp at hn) (λ p hp=>hl p (.tail _ hp)) (by simp at hn2;lia) h
end
noncomputable def mk (l:List Nat):Str:=⟨l.toArray⟩
theorem Qn (l:List Nat):(mk l).length=l.length:=by simp[mk,Str.length]
theorem Zk (l:List Nat):(mk l).cps.toList=l:=by simp[mk]
theorem Qmb (x:Str):mk x.cps.toList=x:=by cases x;simp[mk]
theorem X6 (a b:List Nat):mk a++mk b=mk (a++b):=by
 apply Str.ext';rw[Str.cps_append];simp[mk]
theorem Dp {a b:List Nat}(h:mk a=mk b):a=b:=by
 have:=Zm (λ x=>x.cps.toList) h
 simpa [mk] using this
theorem Lf (a b:List Nat):(mk a==mk b)=(a==b):=by
 by_cases h:a=b
 .subst h;simp
 .rw[Ql.mpr h,Ql.mpr λ e=>h (Dp e)]
theorem Uz (c:Nat):(⟨#[c]⟩:Str)=mk [c]:=rfl
theorem Zxj (a n:Nat):max (0:Int) (min (a:Int) (n:Int))=((min a n:Nat):Int):=by lia
theorem C4 (a n:Nat):(if (a:Int)<0 then(a:Int)+(n:Int) else a)=a:=if_neg (Int.not_lt.mpr (Qy a))
theorem To (a b n:Nat):strSliceIndices (some (a:Int)) (some (b:Int)) 1 n=strSliceIndices (some ((min a n:Nat):Int)) (some ((min b n:Nat):Int)) 1 n:=by
 unfold strSliceIndices;have m:∀a:Nat,min (min a n) n=min a n:=λ a=>Nat.min_eq_left (Nat.min_le_right _ _);simp only[C4,Zxj,m];rfl
theorem Bm (l:List Nat){a b:Nat}(hab:a<=b):Txt.slice (mk l) (some (a:Int)) (some (b:Int))=mk ((l.drop a).take (b-a)):=by
 have h:Txt.slice (mk l) (some (a:Int)) (some (b:Int))=Txt.slice (mk l) (some ((min a l.length:Nat):Int)) (some ((min b l.length:Nat):Int)):=by
  unfold Txt.slice;rw[Qn,To]
 rw[h];refine(StrLaws.sliceText_nat (mk l) (a:=min a l.length) (b:=min b l.length) (Nat.le_min.mpr ⟨Q1 (Nat.min_le_left _ _) hab,Nat.min_le_right _ _⟩) (by rw[Qn];exact Nat.min_le_right _ _)).trans ?_;rw[Zk];show mk _=mk _;refine Zm mk ?_;by_cases ha:a<=l.length
 .rw[Nat.min_eq_left ha,List.take_eq_take_iff,List.length_drop,<- Nat.sub_min_sub_right,Nat.min_assoc,Nat.min_self]
 .have ha':=Nat.le_of_not_le ha;rw[Nat.min_eq_right ha',List.drop_eq_nil_of_le (Q2 _),List.drop_eq_nil_of_le ha',List.take_nil,List.take_nil]
theorem Hc (l:List Nat)(b:Nat):Txt.slice (mk l) none (some (b:Int))=mk (l.take b):=by
 have e:Txt.slice (mk l) none (some (b:Int))=Txt.slice (mk l) (some ((0:Nat):Int)) (some (b:Int)):=by
  unfold Txt.slice;rw[StrLaws.sliceIdx_none_lo];rfl
 rw[e,Bm l (Zy b)];rfl
theorem D8 (l:List Nat)(a:Nat):Txt.slice (mk l) (some (a:Int)) none=mk (l.drop a):=by
 have e:Txt.slice (mk l) (some (a:Int)) none=Txt.slice (mk l) (some ((min a l.length:Nat):Int)) (some (l.length:Int)):=by
  unfold Txt.slice;rw[StrLaws.sliceIdx_none_hi,Qn,To,Nat.min_self]
 rw[e,Bm l (Nat.min_le_right _ _)];refine Zm mk ?_;rw[List.take_of_length_le (by rw[List.length_drop];exact Q2 _)];by_cases ha:a<=l.length
 .rw[Nat.min_eq_left ha]
 .have ha':=Nat.le_of_not_le ha;rw[Nat.min_eq_right ha',List.drop_eq_nil_of_le (Q2 _),List.drop_eq_nil_of_le ha']
theorem Qbm (l:List Nat):Txt.slice (mk l) none (some (-1))=mk (l.take (l.length-1)):=by
 have e:Txt.slice (mk l) none (some (-1))=Txt.slice (mk l) none (some ((l.length-1:Nat):Int)):=by
  cases l with
  |nil=>rfl
  |cons x r=>
   have:strSliceIndices none (some (-1:Int)) 1 (x::r).length=strSliceIndices none (some ((r.length:Nat):Int)) 1 (x::r).length:=by
    unfold strSliceIndices;have q:(if (-1:Int)<0 then(-1:Int)+((x::r).length:Int) else -1)=(r.length:Int):=by
     rw[if_pos (by decide),Qb];lia
    simp only[q,C4]
   unfold Txt.slice;rw[Qn,this];rfl
 rw[e,Hc]
theorem Ux {l:List Nat}{p c:Nat}(h:l[p]?=some c):Txt.charAt (mk l) (p:Int)=some c:=by
 refine StrLaws.at_nonneg (by exact Qy _) ?_;show l.toArray[p]?=some c;rw[Zh];exact h
theorem J5 {p:Int}(h:-1000000<=p/\p<=1000000):fitsSsize p=true:=by
 unfold fitsSsize;have h1:¬p < -(2^63:Int):=by lia
 have h2:¬p ≥ 2^63:=by lia
 rw[Z5 h1,Z5 h2];rfl
end
section
open Builtin Builtin.Str StrLaws
noncomputable def pL (x d:Str)(i n:Int)(mo:Loc):Loc:=("resp",.str x)::("dirname",.str d)::("i",.int i)::("n",.int n)::mo
theorem Zu4 (x:Str)(K:KF):rd F0 [] (Z9 5) [] (sN 5 0) [("resp",.str x)] [] K=
  (x.length<=sizeLine/\cond ((Txt.slice x none (some 3)).cps.toList !=("257":Str).cps.toList) False (K .next [("resp",.str x)] [])):=by kernel_rfl
theorem Zu3 (x:Str)(K:KF):rd F0 [] (Z9 5) [] (sN 5 1) [("resp",.str x)] [] K=
  (x.length<=sizeLine/\cond ((Txt.slice x (some 3) (some 5)).cps.toList !=(" \"":Str).cps.toList) (K (.ret (.str "")) [("resp",.str x)] []) (K .next [("resp",.str x)] [])):=by kernel_rfl
theorem Zu2 (x:Str)(K:KF):rd F0 [] (Z9 5) [] (sN 5 2) [("resp",.str x)] [] K=K .next [("resp",.str x),("dirname",.str "")] []:=by kernel_rfl
theorem Zu1 (x:Str)(K:KF):rd F0 [] (Z9 5) [] (sN 5 3) [("resp",.str x),("dirname",.str "")] [] K=K .next [("resp",.str x),("dirname",.str ""),("i",.int 5)] []:=by kernel_rfl
theorem Zu0 (x:Str)(K:KF):rd F0 [] (Z9 5) [] (sN 5 4) [("resp",.str x),("dirname",.str ""),("i",.int 5)] [] K=(x.length<=16777216/\K .next (pL x "" 5 (x.length:Nat) []) []):=by kernel_rfl
theorem Zys (x d:Str)(i n:Int)(mo:Loc)(k:Bool->Prop):Ot F0 (Z9 5) (wT (sN 5 5)) (pL x d i n mo) [] k=k (decide (i<n)):=by kernel_rfl
theorem Zye (x d:Str)(i n:Int)(K:KF):rd F0 [] (Z9 5) [] (Vu 5 5 0) (pL x d i n []) [] K=
  ((Txt.charAt x i).elim False λ c:Nat=>X5 (fitsSsize i) (K .next (pL x d i n [("c",.str ⟨#[c]⟩)]) [])):=by kernel_rfl
theorem Zqb (x d e:Str)(i n:Int)(K:KF):rd F0 [] (Z9 5) [] (Vu 5 5 0) (pL x d i n [("c",.str e)]) [] K=
  ((Txt.charAt x i).elim False λ c:Nat=>X5 (fitsSsize i) (K .next (pL x d i n [("c",.str ⟨#[c]⟩)]) [])):=by kernel_rfl
theorem Zyi (x d c:Str)(i n:Int)(K:KF):rd F0 [] (Z9 5) [] (Vu 5 5 1) (pL x d i n [("c",.str c)]) [] K=K .next (pL x d (i+1) n [("c",.str c)]) []:=by kernel_rfl
theorem Zya (x d c:Str)(i n:Int)(K:KF):rd F0 [] (Z9 5) [] (Vu 5 5 2) (pL x d i n [("c",.str c)]) [] K=
  cond (c=="\"") (cond (decide (n<=i)) (K .brk (pL x d i n [("c",.str c)]) [])
   ((Txt.charAt x i).elim False λ e:Nat=>X5 (fitsSsize i) (cond ((⟨#[e]⟩:Str).cps.toList !=("\"":Str).cps.toList) (K .brk (pL x d i n [("c",.str c)]) []) (K .next (pL x d (i+1) n [("c",.str c)]) []))))
   (K .next (pL x d i n [("c",.str c)]) []):=by kernel_rfl
theorem Zyr (x d c:Str)(i n:Int)(K:KF):rd F0 [] (Z9 5) [] (Vu 5 5 3) (pL x d i n [("c",.str c)]) [] K=(d.length+c.length<=sizeLine/\K .next (pL x (d++c) i n [("c",.str c)]) []):=by kernel_rfl
theorem Zyo (x d:Str)(i n:Int)(mo:Loc)(K:KF):rd F0 [] (Z9 5) [] (sN 5 6) (pL x d i n mo) [] K=K (.ret (.str d)) (pL x d i n mo) []:=by kernel_rfl
theorem Qkg:fB (stN 5)=[sN 5 0,sN 5 1,sN 5 2,sN 5 3,sN 5 4,sN 5 5,sN 5 6]:=by kernel_rfl
theorem Zyc:sN 5 5=.While (wT (sN 5 5)) (wB (sN 5 5)) [] (wP (sN 5 5)):=by kernel_rfl
theorem Zqy:wB (sN 5 5)=[Vu 5 5 0,Vu 5 5 1,Vu 5 5 2,Vu 5 5 3]:=by kernel_rfl
theorem W2:("\"":Str)=mk [34]:=by decide +kernel
noncomputable def un (l:List Nat):List Nat:=l.rec (motive:=λ J=>Bool->List Nat) (λ J=>[]) (λ c J r b=>cond (c==34) (cond b (34::r false) (r true)) (cond b [] (c::r false))) false
theorem Quf (q:List Nat):un (34::34::q)=34::un q:=rfl
theorem Quh (e:Nat)(q:List Nat)(h:e≠34):un (34::e::q)=[]:=by
 show cond (e==34) _ []=[];rw[Ql.mpr h];rfl
theorem Qud:un [34]=[]:=rfl
theorem Qcz (c:Nat)(r:List Nat)(h:c≠34):un (c::r)=c::un r:=by
 show cond (c==34) _ (c::un r)=_;rw[Ql.mpr h];rfl
theorem Qut (name t:List Nat):un (dbl 34 name++t)=name++un t:=by
 induction name with
 |nil=>rfl
 |cons c r ih=>
  by_cases h:c=34
  .subst h;rw[show dbl 34 (34::r)=34::34::dbl 34 r by simp[dbl],Yq,Yq,Quf,ih];rfl
  .rw[show dbl 34 (c::r)=c::dbl 34 r by simp[dbl,h],Yq,Qcz _ _ h,ih];rfl
theorem Li {l:List Nat}{p c:Nat}{r:List Nat}(h:l.drop p=c::r):l[p]?=some c/\l.drop (p+1)=r/\p<l.length:=by
 have hp:p<l.length:=by
  rcases Nat.lt_or_ge p l.length with q |q
  .exact q
  .rw[List.drop_eq_nil_of_le q]at h;cases h
 rw[List.drop_eq_getElem_cons hp]at h;cases h;exact⟨Q7 hp,rfl,hp⟩
section
variable {W:Qj}{c:Cx}
theorem Qhe (H:Vl W F0 (Z9 5) [] c){x:Str}{rest d r:List Nat}{p e:Nat}{mo:Loc}{K:KF}(hx:∀(p e:Nat),rest[p]?=some e->Txt.charAt x ((5+p:Nat):Int)=some e)(hr:rest.length<=898)(hr0:rest.drop p=e::r)(hd:d++un (rest.drop p)=un rest)(hdl:d.length<=p)(hmo:mo=[]\/∃e,mo=[(("c":Str),V.str e)])
  (kN:∀(i:Nat) (d':List Nat) (y:Str),p<i->i<=rest.length->d'++un (rest.drop i)=un rest->d'.length<=i->K .next (pL x (mk d') ((5+i:Nat):Int) ((5+rest.length:Nat):Int) [("c",.str y)]) [])
  (kB:∀(i:Int) (mo:Loc),K .brk (pL x (mk (un rest)) i ((5+rest.length:Nat):Int) mo) []):
  XB W c (wB (sN 5 5)) (pL x (mk d) ((5+p:Nat):Int) ((5+rest.length:Nat):Int) mo) [] K:=by
 have z16:sizeLine=16777216:=rfl;obtain⟨g1,g2,g3⟩:=Li hr0;rw[hr0]at hd;rw[Zqy];have nx:∀q:Nat,((q:Nat):Int)+1=((q+1:Nat):Int):=λ q=>rfl
 have first:∀{K:KF},K .next (pL x (mk d) ((5+p:Nat):Int) ((5+rest.length:Nat):Int) [("c",.str ⟨#[e]⟩)]) []->rd F0 [] (Z9 5) [] (Vu 5 5 0) (pL x (mk d) ((5+p:Nat):Int) ((5+rest.length:Nat):Int) mo) [] K:=by
  intro K h2
  rcases hmo with rfl |⟨q,rfl⟩
  .rw[Zye,hx p e g1];exact Zn (J5 (by lia)) h2
  .rw[Zqb,hx p e g1];exact Zn (J5 (by lia)) h2
 refine Qk (owns:=[]) H (first ?_)
 show XB W c _ _ _ _;refine Qk (owns:=[]) H ?_;rw[Zyi,nx];show XB W c _ _ _ _;refine Qk (owns:=[]) H ?_;rw[Zya];have last:∀(i:Nat),p<i->i<=rest.length->(d++[e])++un (rest.drop i)=un rest->XB W c [Vu 5 5 3] (pL x (mk d) ((5+i:Nat):Int) ((5+rest.length:Nat):Int) [("c",.str ⟨#[e]⟩)]) [] K:=λ i h1 h2 h3=>by
  refine Qk (owns:=[]) H ?_;rw[Zyr];refine⟨by rw[Qn,Uz,Qn];simp;lia,Uq ?_⟩;rw[Uz,X6];exact kN i (d++[e]) _ h1 h2 h3 (by rw[Q8,Zw];lia)
 by_cases he:e=34
 .subst he;rw[show((⟨#[34]⟩:Str)=="\"")=true by decide +kernel,Zi];cases r with
  |nil=>
   have:rest.length=p+1:=by
    have:=Zm List.length hr0;rw[List.length_drop,Zw]at this;lia
   rw[Qw (by lia),Zi];rw[Qud,Qs]at hd;rw[hd];exact kB _ _
  |cons u r=>
   obtain⟨k1,k2,k3⟩:=Li g2;rw[Z5 (by lia),Zo];refine Yp.mpr ⟨u,hx (p+1) u k1,Zn (J5 (by lia)) ?_⟩;by_cases hu:u=34
   .subst hu;rw[show((⟨#[34]⟩:Str).cps.toList !=("\"":Str).cps.toList)=false by decide +kernel,Zo,nx];exact last (p+1+1) (by lia) (by lia) (by rw[k2,<- hd,Quf,Qr];rfl)
   .have:((⟨#[u]⟩:Str).cps.toList !=("\"":Str).cps.toList)=true:=by
     rw[W2,Zk];simp[hu]
    rw[this,Zi];rw[Quh u r hu,Qs]at hd;rw[hd];exact kB _ _
 .have:((⟨#[e]⟩:Str)=="\"")=false:=by rw[W2,Uz,Lf];simp[he]
  rw[this,Zo];exact last (p+1) (by lia) (by lia) (by rw[g2,<- hd,Qcz e r he,Qr];rfl)
theorem Qm6 (H:Vl W F0 (Z9 5) [] c){t:List Nat}(hl:t.length<=900){K:KF}(h:∀loc,K (.ret (.str (mk (cond (t.take 2==[32,34]) (un (t.drop 2)) [])))) loc []):
  XB W c (fB (stN 5)) [("resp",.str (mk (50::53::55::t)))] [] K:=by
 have z16:sizeLine=16777216:=rfl;have hlen:(mk (50::53::55::t)).length=3+t.length:=by rw[Qn];simp;lia
 rw[Qkg];refine Qk (owns:=[]) H ?_;rw[Zu4];refine⟨by lia,?_⟩;have e0:((Txt.slice (mk (50::53::55::t)) none (some 3)).cps.toList !=("257":Str).cps.toList)=false:=by
  rw[show Txt.slice (mk (50::53::55::t)) none (some (3:Int))=mk [50,53,55] from Hc _ 3];decide +kernel
 rw[e0];show XB W c _ _ _ _;refine Qk (owns:=[]) H ?_;rw[Zu3];refine⟨by lia,?_⟩;have e1:(Txt.slice (mk (50::53::55::t)) (some 3) (some 5)).cps.toList=t.take 2:=by
  rw[show Txt.slice (mk (50::53::55::t)) (some (3:Int)) (some (5:Int))=mk (t.take 2) from Bm _ (a:=3) (b:=5) (by lia),Zk]
 rw[e1,show(" \"":Str).cps.toList=[32,34] by decide +kernel];show cond (!(t.take 2==[32,34])) _ _;cases q:t.take 2==[32,34]with
 |false=>rw[q]at h;exact h _
 |true=>
 rw[q]at h;obtain⟨rest,rfl⟩:∃rest,t=32::34::rest:=by
  match t,eq_of_beq q with
  |a::b::r,e=>cases e;exact⟨r,rfl⟩
 have h:∀loc,K (.ret (.str (mk (un rest)))) loc []:=h;have hr:rest.length<=898:=by simp at hl;lia
 have hlen:(mk (50::53::55::32::34::rest)).length=5+rest.length:=by rw[Qn];simp;lia
 have hx:∀(p e:Nat),rest[p]?=some e->Txt.charAt (mk (50::53::55::32::34::rest)) ((5+p:Nat):Int)=some e:=λ p e hp=>by
  refine Ux ?_;rw[show 5+p=p+1+1+1+1+1 by lia];exact hp
 show XB W c _ _ _ _;refine Qk (owns:=[]) H ?_;rw[Zu2];refine Qk (owns:=[]) H ?_;rw[Zu1];refine Qk (owns:=[]) H ?_;rw[Zu0];refine⟨by lia,?_⟩;rw[hlen];generalize mk (50::53::55::32::34::rest)=x at hx;show XB W c _ _ _ _;refine Zp (λ fl loc st=>fl=.next/\st=[]/\∃i n mo,loc=pL x (mk (un rest)) i n mo) (Pc H Zyc
  (λ m loc st=>st=[]/\∃(d:List Nat) (p:Nat) (mo:Loc),d++un (rest.drop p)=un rest/\d.length<=p/\p<=rest.length/\loc=pL x (mk d) ((5+p:Nat):Int) ((5+rest.length:Nat):Int) mo/\(mo=[]\/∃e,mo=[(("c":Str),V.str e)])/\rest.length-p<=m) rest.length
  ⟨rfl,[],0,[],rfl,Q2 _,Zy _,rfl,.inl rfl,Q2 _⟩ λ m loc st=>?_) ?_
 .rintro⟨rfl,d,p,mo,hd,hdl,hp,rfl,hmo,hm⟩
  rw[Zys];cases hr0:rest.drop p with
  |nil=>
   have hp':rest.length<=p:=List.drop_eq_nil_iff.mp hr0;rw[Z5 (by lia),Zo];rw[hr0]at hd;have:d=un rest:=by rw[<- hd];exact(Qs d).symm
   rw[this];exact⟨rfl,rfl,_,_,_,rfl⟩
  |cons e r=>
  rw[Qw (by have:=(Li hr0).2.2;lia),Zi];exact Qhe H hx hr hr0 hd hdl hmo (λ i d' y h1 h2 h3 h4=>⟨rest.length-i,by lia,rfl,d',i,_,h3,h4,h2,rfl,.inr ⟨y,rfl⟩,Q2 _⟩) λ i mo=>⟨rfl,rfl,i,_,mo,rfl⟩
 .rintro fl loc st ⟨rfl,rfl,i,n,mo,rfl⟩
  refine Qk (owns:=[]) H ?_;rw[Zyo];exact h _
end
end
end Mine
namespace Mine
open PySem PySem.W PySem.Calls PyProof.Rows
section
variable {W:Qj}{c:Cx}{loc:Loc}{st:Q4}
theorem Qdj {A:Around}{env:Env}{o:Expr}{m:Str}{apos pos:Pos}{args:List Expr}{s:Shared}{Q:Value->Shared->Prop}{E:Value->Shared->Prop}(hb:G0 o=true)(hs:Z8 args=true)(hn:args.length<29)(hl:(apos.endLine==pos.line)=true)
  (h:wpAny (model W.prog W.w) A (eval o env) (λ ov s1=>MethodOnS W.prog W.w A E m ov pos (backTo pos (starEach args env)) Q s1) E s):
  wpAny (model W.prog W.w) A (eval (.Call (.Attribute o m apos) args [] pos) env) Q E s:=by
 refine wpAny_Call_method_lateS (B4 hb) ?_ hl h;rw[Bn hs];have:(backToKw pos (keywordEach [] env)).all (λ x=>x.1.isSome)=true:=rfl;rw[this];simp;lia
theorem Qg0 {A:Around}{env:Env}{a b y1 y2:Str}{n1 n2 n3 n4:Nat}{p1 p2 p3 p4 dp:Pos}(hab:a≠b){s:Shared}{Q:Value->Shared->Prop}{E:Value->Shared->Prop}
  (h:∀(h':Heap) (t1 t2 n:Nat),h'.DictOf (PySem.strKind W.prog W.w) s.heap.objs.size [(a,.str y1 t1),(b,.str y2 t2)]->Sub s.heap h'->s.toks<=n->Q (.ref s.heap.objs.size) {s with heap:=h',toks:=n}):
  wpAny (model W.prog W.w) A (eval (.Dict [some (.Constant (.str a) n1 p1),some (.Constant (.str b) n2 p2)] [.Constant (.str y1) n3 p3,.Constant (.str y2) n4 p4] dp) env) Q E s:=by
 refine wpAny_Dict_walk (prog:=W.prog) (w:=W.w) (knd:=PySem.strKind W.prog W.w) (A:=A) (E:=E) (s:=s) (env:=env) (Q:=Q) (pos:=dp) (keys:=[some (.Constant (.str a) n1 p1),some (.Constant (.str b) n2 p2)]) (values:=[.Constant (.str y1) n3 p3,.Constant (.str y2) n4 p4]) ?_ ?_ ?_ ?_ ?_
 .rfl
 .rfl
 .simp
 .simp
 refine pairTrees_cons_walk (wpAny_Constant_str (wpAny_Constant_str (pairTrees_cons_walk (wpAny_Constant_str (wpAny_Constant_str (pairTrees_nil_walk ?_))))));refine display_done_str (by rfl) (by
  show [a,b].Nodup;simp[hab]) (Heap.DictOf.new (knd:=PySem.strKind W.prog W.w) s.heap) λ h' hm hsb=>?_
 exact h h' _ _ _ hm (λ b o e=>(hsb.2 b (Zj (Qh e))).trans (Q9 _ e)) (by show s.toks<=_;simp only[];lia)
theorem Qtv (O:Ok W c){a b y1 y2 z:Str}{x:Expr}{n1 n2 n3 n4 n5:Nat}{p1 p2 p3 p4 p5 dp apos pos:Pos}{k:V->Prop}(hab:a≠b)(hs:Z8 [x,.Constant (.str z) n5 p5]=true)(hl:(apos.endLine==pos.line)=true)
  (h:Uv W c x loc st λ v=>∃y,v=.str y/\k (.str (if y=a then y1 else if y=b then y2 else z))):
  Uv W c (.Call (.Attribute (.Dict [some (.Constant (.str a) n1 p1),some (.Constant (.str b) n2 p2)] [.Constant (.str y1) n3 p3,.Constant (.str y2) n4 p4] dp) "get" apos) [x,.Constant (.str z) n5 p5] [] pos) loc st k:=λ l s Q E hR hQ=>by
 refine Z0 ?_;refine Qdj (W:=W) (A:=c.A) (env:=c.env) (s:=s) (E:=E) (m:="get") (args:=[x,.Constant (.str z) n5 p5]) (pos:=pos) (apos:=apos) (o:=.Dict [some (.Constant (.str a) n1 p1),some (.Constant (.str b) n2 p2)] [.Constant (.str y1) n3 p3,.Constant (.str y2) n4 p4] dp) ?hb hs ?hn hl ?hw
 case hb=>rfl
 case hn=>simp
 refine @Qg0 W c.A c.env a b y1 y2 n1 n2 n3 n4 p1 p2 p3 p4 dp hab s _ E ?_;intro h' t1 t2 n hm sub tn;obtain⟨m,FrX⟩:=hR.fr;obtain⟨g0,_,Fr0,_,_,T0⟩:=O.ground FrX;have lo:(s.heap.objs.size==sysModules)=false:=Fr0.notModules (modules_low T0.nolimit);refine⟨"dict","dict.get",F.plainAttrs_dict,F.slot_dict_get,F.type_dict_get,hm.mapOf.typeIs,hm.mapOf.noDict,?_⟩
 have kp:∀n,Keeps s {s with heap:=h',toks:=n}:=λ n=>⟨h',n,rfl,sub⟩
 rw[Y5 hs,Y5 (show Z8 [.Constant (.str z) n5 p5]=true from rfl),Pl];refine wpAny_dict_get2 (knd:=PySem.strKind W.prog W.w) lo (h l _ _ E (hR.keeps (kp _) tn) λ v w s1 k1 tk1 v1 h1=>?_);obtain⟨y,rfl,h1⟩:=h1;obtain⟨t,rfl⟩:=v1;refine wpAny_Constant_str ⟨y,_,strKind_is W.prog W.w y t,(hm.keep (Yh k1)).mapOf,λ tk=>?_⟩
 have k2:Keeps s {s1 with toks:=s1.toks+1+1}:=Qi (kp _) (Qi k1 (Xw _ _))
 have ev:∃t,(valueAt [(a,Value.str y1 t1),(b,Value.str y2 t2)] y).getD (Value.str z s1.toks)=Value.str (if y=a then y1 else if y=b then y2 else z) t:=by
  by_cases e1:y=a
  .subst e1;exact⟨t1,by simp[valueAt]⟩
  .by_cases e2:y=b
   .subst e2;exact⟨t2,by simp[valueAt,e1,hab]⟩
   .exact⟨s1.toks,by simp[valueAt,e1,e2,Ne.symm e1,Ne.symm e2]⟩
 obtain⟨t',e⟩:=ev;rw[e];exact hQ _ _ _ k2 tk (.str _ _) h1
end
end Mine
namespace Mine
open PySem PySem.W PySem.Calls PyProof.Rows
section
variable {W:Qj}{c:Cx}{loc:Loc}{st:Q4}{F:Fs}{kd:Kd}{bnd:List Str}{K:KF}
theorem Qpo (O:Ok W c){e x:Expr}{a b y1 y2 z:Str}{n1 n2 n3 n4 n5:Nat}{p1 p2 p3 p4 p5 dp apos pos:Pos}{k:V->Prop}
  (he:e=.Call (.Attribute (.Dict [some (.Constant (.str a) n1 p1),some (.Constant (.str b) n2 p2)] [.Constant (.str y1) n3 p3,.Constant (.str y2) n4 p4] dp) "get" apos) [x,.Constant (.str z) n5 p5] [] pos)
  (q:(Z8 [x,.Constant (.str z) n5 p5]&&(apos.endLine==pos.line))=true) (hab:a≠b)
  (h:EX W c x loc st λ v=>∃y,v=.str y/\k (.str (if y=a then y1 else if y=b then y2 else z))):EX W c e loc st k:=⟨by
 subst he;rw[Qa]at q;exact @Qtv W c loc st O a b y1 y2 z x n1 n2 n3 n4 n5 p1 p2 p3 p4 p5 dp apos pos k hab q.1 q.2 h.go⟩
end
end Mine
namespace Mine
open PySem PySem.W PySem.Calls PyProof.Rows
noncomputable def tyL (t h:Str)(n p:Int)(y:Str)(mo:Loc):Loc:=("hidden",.str h)::("number",.int n)::("text",.str t)::("typed",.str y)::("place",.int p)::mo
noncomputable def Lx (t h:Str)(n p:Int)(y u:Str)(q:Int)(w:Str):Loc:=tyL t h n p y [("sign",.str u),("pick",.int q),("wide",.str w)]
def H5 (t h y u w:Str)(n p q:Int)(K:KF):Prop:=y.length+w.length<=sizeLine/\K .next (Lx t h n (p+2) (y++w) u q w) []
def Ex (t h y u w:Str)(n p q:Int)(K:KF):Prop:=y.length+u.length<=sizeLine/\K .next (Lx t h n (p+1) (y++u) u q w) []
def Qcf (t h y u w:Str)(n p q:Int)(K:KF):Prop:=(Rk u).elim False λ c:Nat=>0<=(c:Int)-32/\(c:Int)-32<=1114111/\y.length+(⟨#[Int.toNat ((c:Int)-32)]⟩:Str).length<=sizeLine/\
 K .next (Lx t h n (p+1) (y++⟨#[Int.toNat ((c:Int)-32)]⟩) ⟨#[Int.toNat ((c:Int)-32)]⟩ q w) []
def Qun (t h y u w:Str)(n p q:Int)(K:KF):Prop:=h.length+u.length<=sizeLine/\y.length+(h++u).length<=sizeLine/\K .next (Lx t h n (p+1) (y++(h++u)) (h++u) q w) []
def Nc (t h y u w:Str)(n p q m:Int)(K:KF):Prop:=IntMulOk 52 m/\(Rk u).elim False λ c:Nat=>0<=119711+52*m+(c:Int)/\119711+52*m+(c:Int)<=1114111/\
 y.length+(⟨#[Int.toNat (119711+52*m+(c:Int))]⟩:Str).length<=sizeLine/\K .next (Lx t h n (p+1) (y++⟨#[Int.toNat (119711+52*m+(c:Int))]⟩) ⟨#[Int.toNat (119711+52*m+(c:Int))]⟩ q w) []
theorem Zwu (t h:Str)(n:Int)(K:KF):rd F0 [] (Z9 20) [] (sN 20 0) [("hidden",.str h),("number",.int n),("text",.str t)] [] K=K .next (tyL t h n 0 "" []) []:=by kernel_rfl
theorem Zww (t h y:Str)(n p:Int)(mo:Loc)(k:Bool->Prop):Ot F0 (Z9 20) (wT (sN 20 1)) (tyL t h n p y mo) [] k=(t.length<=16777216/\k (decide (p<(t.length:Nat)))):=by kernel_rfl
theorem Zwv (t h y:Str)(n p:Int)(K:KF):rd F0 [] (Z9 20) [] (Vu 20 1 0) (tyL t h n p y []) [] K=
  (p+1≠0/\Builtin.divisionGoesByPylong n (p+1)=false/\(16:Int)≠0/\(Txt.charAt t p).elim False λ c:Nat=>X5 (fitsSsize p) (K .next (tyL t h n p y [("sign",.str ⟨#[c]⟩),("pick",.int (Int.fmod (Int.fdiv n (p+1)) 16))]) [])):=by kernel_rfl
theorem Qeo (t h y u w:Str)(n p q:Int)(K:KF):rd F0 [] (Z9 20) [] (Vu 20 1 0) (Lx t h n p y u q w) [] K=
  (p+1≠0/\Builtin.divisionGoesByPylong n (p+1)=false/\(16:Int)≠0/\(Txt.charAt t p).elim False λ c:Nat=>X5 (fitsSsize p) (K .next (Lx t h n p y ⟨#[c]⟩ (Int.fmod (Int.fdiv n (p+1)) 16) w) [])):=by kernel_rfl
noncomputable def Eo (e:Expr):Expr:=nv e [1]
theorem Qee:Vu 20 1 1=.Assign [.Name (wN (Vu 20 1 1)) (Mq (Vu 20 1 1))] (wT (Vu 20 1 1)) (wP (Vu 20 1 1)):=by kernel_rfl
theorem Qei:wN (Vu 20 1 1)="wide":=by kernel_rfl
noncomputable def g2L (e:Expr):Nat×Pos×Nat×Pos×Nat×Pos×Nat×Pos×Pos×Pos×Nat×Pos×Pos:=(kE (nv e [0,0,0]),(nv e [0,0,0]).pos,kE (nv e [0,0,1]),(nv e [0,0,1]).pos,kE (nv e [0,0,2]),(nv e [0,0,2]).pos,kE (nv e [0,0,3]),(nv e [0,0,3]).pos,(nv e [0,0]).pos,(nv e [0]).pos,kE (nv e [2]),(nv e [2]).pos,e.pos)
noncomputable def g2W:Nat×Pos×Nat×Pos×Nat×Pos×Nat×Pos×Pos×Pos×Nat×Pos×Pos:=g2L (wT (Vu 20 1 1))
theorem Qea:wT (Vu 20 1 1)=.Call (.Attribute (.Dict [some (.Constant (.str "fi") g2W.1 g2W.2.1),some (.Constant (.str "fl") g2W.2.2.1 g2W.2.2.2.1)] [.Constant (.str "ﬁ") g2W.2.2.2.2.1 g2W.2.2.2.2.2.1,.Constant (.str "ﬂ") g2W.2.2.2.2.2.2.1 g2W.2.2.2.2.2.2.2.1] g2W.2.2.2.2.2.2.2.2.1) "get" g2W.2.2.2.2.2.2.2.2.2.1) [Eo (wT (Vu 20 1 1)),.Constant (.str "") g2W.2.2.2.2.2.2.2.2.2.2.1 g2W.2.2.2.2.2.2.2.2.2.2.2.1] [] g2W.2.2.2.2.2.2.2.2.2.2.2.2:=by kernel_rfl
theorem Qcg:(Z8 [Eo (wT (Vu 20 1 1)),.Constant (.str "") g2W.2.2.2.2.2.2.2.2.2.2.1 g2W.2.2.2.2.2.2.2.2.2.2.2.1]&&(g2W.2.2.2.2.2.2.2.2.2.1.endLine==g2W.2.2.2.2.2.2.2.2.2.2.2.2.line))=true:=by kernel_rfl
theorem Qer:swW (Z9 20) (wT (Vu 20 1 1)) (wN (Vu 20 1 1)) (Mq (Vu 20 1 1)).line=some false:=by kernel_rfl
theorem Qes:Be (Z9 20) [] (wN (Vu 20 1 1))=true:=by kernel_rfl
theorem Qec (t h y:Str)(n p:Int)(mo:Loc)(k:V->Prop):Gi F0 (Z9 20) (Eo (wT (Vu 20 1 1))) (tyL t h n p y mo) [] k=(t.length<=sizeLine/\k (.str (Txt.slice t (some p) (some (p+2))))):=by kernel_rfl
theorem Zwy (t h y:Str)(n p:Int)(mo:Loc)(K:KF):rd F0 [] (Z9 20) [] (sN 20 2) (tyL t h n p y mo) [] K=K (.ret (.str y)) (tyL t h n p y mo) []:=by kernel_rfl
theorem Qh0:fB (stN 20)=[sN 20 0,sN 20 1,sN 20 2]:=by kernel_rfl
theorem Zwk:sN 20 1=.While (wT (sN 20 1)) (wB (sN 20 1)) [] (wP (sN 20 1)):=by kernel_rfl
theorem Qew:wB (sN 20 1)=[Vu 20 1 0,Vu 20 1 1,Vu 20 1 2]:=by kernel_rfl
theorem Qed (t h y u w:Str)(n p:Int)(K:KF):rd F0 [] (Z9 20) [] (Vu 20 1 2) (Lx t h n p y u 0 w) [] K=(cond (w.cps.toList !=("":Str).cps.toList) (H5 t h y u w n p 0 K) (Ex t h y u w n p 0 K)):=by kernel_rfl
theorem Qeh (t h y u w:Str)(n p:Int)(K:KF):rd F0 [] (Z9 20) [] (Vu 20 1 2) (Lx t h n p y u 1 w) [] K=(cond (w.cps.toList !=("":Str).cps.toList) (H5 t h y u w n p 1 K) (Ex t h y u w n p 1 K)):=by kernel_rfl
theorem Qef (t h y u w:Str)(n p:Int)(K:KF):rd F0 [] (Z9 20) [] (Vu 20 1 2) (Lx t h n p y u 2 w) [] K=(cond (w.cps.toList !=("":Str).cps.toList) (H5 t h y u w n p 2 K) (Qcf t h y u w n p 2 K)):=by kernel_rfl
theorem Qeg (t h y u w:Str)(n p:Int)(K:KF):rd F0 [] (Z9 20) [] (Vu 20 1 2) (Lx t h n p y u 3 w) [] K=(cond (w.cps.toList !=("":Str).cps.toList) (H5 t h y u w n p 3 K) (Qcf t h y u w n p 3 K)):=by kernel_rfl
theorem Qep (t h y u w:Str)(n p:Int)(K:KF):rd F0 [] (Z9 20) [] (Vu 20 1 2) (Lx t h n p y u 4 w) [] K=(cond (w.cps.toList !=("":Str).cps.toList) (H5 t h y u w n p 4 K) (Qun t h y u w n p 4 K)):=by kernel_rfl
theorem Qem (t h y u w:Str)(n p:Int)(K:KF):rd F0 [] (Z9 20) [] (Vu 20 1 2) (Lx t h n p y u 5 w) [] K=(cond (w.cps.toList !=("":Str).cps.toList) (H5 t h y u w n p 5 K) (Qun t h y u w n p 5 K)):=by kernel_rfl
theorem Qeb (t h y u w:Str)(n p:Int)(K:KF):rd F0 [] (Z9 20) [] (Vu 20 1 2) (Lx t h n p y u 6 w) [] K=(Nc t h y u w n p 6 0 K):=by kernel_rfl
theorem Qeu (t h y u w:Str)(n p:Int)(K:KF):rd F0 [] (Z9 20) [] (Vu 20 1 2) (Lx t h n p y u 7 w) [] K=(Nc t h y u w n p 7 1 K):=by kernel_rfl
theorem Qey (t h y u w:Str)(n p:Int)(K:KF):rd F0 [] (Z9 20) [] (Vu 20 1 2) (Lx t h n p y u 8 w) [] K=(Nc t h y u w n p 8 2 K):=by kernel_rfl
theorem Qev (t h y u w:Str)(n p:Int)(K:KF):rd F0 [] (Z9 20) [] (Vu 20 1 2) (Lx t h n p y u 9 w) [] K=(Nc t h y u w n p 9 4 K):=by kernel_rfl
theorem Qcb (t h y u w:Str)(n p:Int)(K:KF):rd F0 [] (Z9 20) [] (Vu 20 1 2) (Lx t h n p y u 10 w) [] K=(Nc t h y u w n p 10 7 K):=by kernel_rfl
theorem Qcu (t h y u w:Str)(n p:Int)(K:KF):rd F0 [] (Z9 20) [] (Vu 20 1 2) (Lx t h n p y u 11 w) [] K=(Nc t h y u w n p 11 8 K):=by kernel_rfl
theorem Qcy (t h y u w:Str)(n p:Int)(K:KF):rd F0 [] (Z9 20) [] (Vu 20 1 2) (Lx t h n p y u 12 w) [] K=(Nc t h y u w n p 12 9 K):=by kernel_rfl
theorem Qcv (t h y u w:Str)(n p:Int)(K:KF):rd F0 [] (Z9 20) [] (Vu 20 1 2) (Lx t h n p y u 13 w) [] K=(Nc t h y u w n p 13 10 K):=by kernel_rfl
theorem Qcw (t h y u w:Str)(n p:Int)(K:KF):rd F0 [] (Z9 20) [] (Vu 20 1 2) (Lx t h n p y u 14 w) [] K=(Nc t h y u w n p 14 11 K):=by kernel_rfl
theorem Qck (t h y u w:Str)(n p:Int)(K:KF):rd F0 [] (Z9 20) [] (Vu 20 1 2) (Lx t h n p y u 15 w) [] K=(Nc t h y u w n p 15 12 K):=by kernel_rfl
noncomputable def b1L:List Nat:=[173,847,6150,6155,6156,6157,8203,8204,8205,8288,65279,65024,65025,65026,65027,65028,65029,65030,65031,65032,65033,65034,65035,65036,65037,65038,65039]
noncomputable def b1 (c:Nat):Bool:=b1L.contains c
noncomputable def Qwd:List Nat:=[0,1,2,4,7,8,9,10,11,12]
noncomputable def Dc (c:Nat):Bool:=decide (119808<=c)&&Qwd.contains ((c-119808)/52)&&decide ((c-119808)%52<16)
noncomputable def b3 (c:Nat):List Nat:=
 cond (Dc c) [97+(c-119808)%52] (cond (c==64257) [102,105] (cond (c==64258) [102,108] (cond (decide (65<=c)&&decide (c<=80)) [c+32] [c])))
noncomputable def Wj (c:Nat):Bool:=Dc c||c==64257||c==64258||(decide (65<=c)&&decide (c<=80))||(decide (97<=c)&&decide (c<=112))||c==34
noncomputable def U3 (l:List Nat):List Nat:=l.flatMap λ c=>cond (b1 c) [] (b3 c)
theorem Dk (a b:List Nat):U3 (a++b)=U3 a++U3 b:=by simp[U3]
theorem Dx (c:Nat):U3 [c]=cond (b1 c) [] (b3 c):=by simp[U3]
theorem Wp (c:Nat)(l:List Nat):U3 (c::l)=cond (b1 c) [] (b3 c)++U3 l:=by simp[U3]
def Aq (h c:Nat):Prop:=b1 c=(c==h)/\c≠34/\(b1 c=true\/Wj c=true)
def small (c:Nat):Prop:=97<=c/\c<=112
theorem Qgo (c:Nat)(h:c<173\/65279<c):b1 c=false:=by
 unfold b1;rw[<- Bool.not_eq_true,Zd];intro m;have:∀x∈b1L,173<=x/\x<=65279:=by decide
 have:=this c m;lia
theorem Cn {h c:Nat}(hh:b1 h=true)(hc:b1 c=false):b1 c=(c==h):=by
 rw[hc]
 symm
 rw[Ql]
 rintro rfl
 rw[hh]at hc;cases hc
theorem Qki {c:Nat}(h:c<119808):Dc c=false:=by unfold Dc;rw[Z5 (by lia)];rfl
theorem Bi {h c:Nat}(hh:b1 h=true)(hc:small c):U3 [c]=[c]/\Aq h c:=by
 obtain⟨h1,h2⟩:=hc;have e1:=Qgo c (.inl (by lia));have e2:Dc c=false:=Qki (by lia);refine⟨?_,Cn hh e1,by lia,.inr ?_⟩
 .rw[Dx,e1];unfold b3;rw[e2,show(c==64257)=false by simp;lia,show(c==64258)=false by simp;lia,Z5 (show ¬c<=80 by lia)];simp
 .unfold Wj;rw[Qw h1,Qw h2];simp
theorem Os {h c:Nat}(hh:b1 h=true)(hc:small c):U3 [c-32]=[c]/\Aq h (c-32):=by
 obtain⟨h1,h2⟩:=hc;have e1:=Qgo (c-32) (.inl (by lia));have e2:Dc (c-32)=false:=Qki (by lia);refine⟨?_,Cn hh e1,by lia,.inr ?_⟩
 .rw[Dx,e1];unfold b3;rw[e2,show(c-32==64257)=false by simp;lia,show(c-32==64258)=false by simp;lia,Qw (show 65<=c-32 by lia),Qw (show c-32<=80 by lia)];simp;lia
 .unfold Wj;rw[Qw (show 65<=c-32 by lia),Qw (show c-32<=80 by lia)];simp
theorem Oa {h c m:Nat}(hh:b1 h=true)(hc:small c)(hm:m∈Qwd):U3 [119711+52*m+c]=[c]/\Aq h (119711+52*m+c):=by
 obtain⟨h1,h2⟩:=hc;have e1:=Qgo (119711+52*m+c) (.inr (by lia));have q1:(119711+52*m+c-119808)/52=m:=by lia
 have q2:(119711+52*m+c-119808)%52=c-97:=by lia
 have e2:Dc (119711+52*m+c)=true:=by
  unfold Dc;rw[q1,q2,Qw (by lia),Qw (by lia),Zd.mpr hm];rfl
 refine⟨?_,Cn hh e1,by lia,.inr ?_⟩
 .rw[Dx,e1];unfold b3;rw[e2,q2];simp;lia
 .unfold Wj;rw[e2];simp
theorem S7 {h c:Nat}(hh:b1 h=true)(hc:small c):U3 [h,c]=[c]/\Aq h h:=by
 refine⟨?_,by rw[hh];simp,?_,.inl hh⟩
 .rw[Wp,hh,(Bi hh hc).1];rfl
 .rintro rfl
  revert hh;decide
theorem Oc {h:Nat}(hh:b1 h=true):U3 [64257]=[102,105]/\Aq h 64257:=by
 refine⟨by decide,Cn hh (by decide),by decide,.inr (by decide)⟩
theorem Ol {h:Nat}(hh:b1 h=true):U3 [64258]=[102,108]/\Aq h 64258:=by
 refine⟨by decide,Cn hh (by decide),by decide,.inr (by decide)⟩
def Uw (h:Nat)(t y:List Nat):Prop:=U3 y=t/\(∀c∈y,Aq h c)/\y.length<=2*t.length+1
theorem Uw.more {h:Nat}{t y u:List Nat}{p n:Nat}(x:Uw h (t.take p) y)(hp:p+n<=t.length)(hn:1<=n)(hu:U3 u=(t.drop p).take n)(hg:∀c∈u,Aq h c)(hl:u.length<=2*n):Uw h (t.take (p+n)) (y++u):=by
 obtain⟨h1,h2,h3⟩:=x;refine⟨?_,?_,?_⟩
 .rw[Dk,h1,hu,List.take_add]
 .intro c hc
  rcases List.mem_append.mp hc with hc |hc
  .exact h2 c hc
  .exact hg c hc
 .rw[Q8,List.length_take];rw[List.length_take]at h3;lia
theorem Qha (n:Nat)(p:Nat):∃q:Nat,q<16/\Int.fmod (Int.fdiv (n:Int) ((p:Int)+1)) 16=(q:Int):=by
 refine⟨n/(p+1)%16,Za _ (by exact Nat.succ_pos _),?_⟩;rw[Int.fdiv_eq_ediv_of_nonneg _ (by exact Qy _),Int.fmod_eq_emod_of_nonneg _ (by exact Qy _)];rfl
section
variable {W:Qj}{c:Cx}
theorem Qen:("fi":Str)=mk [102,105]:=by decide +kernel
theorem Qet:("fl":Str)=mk [102,108]:=by decide +kernel
theorem Qcp:("ﬁ":Str)=mk [64257]:=by decide +kernel
theorem Qcm:("ﬂ":Str)=mk [64258]:=by decide +kernel
theorem Qel:("":Str)=mk []:=by decide +kernel
theorem Qfo:("fi":Str)≠"fl":=by decide +kernel
noncomputable def Qh1 (t:List Nat)(p:Nat):Str:=if mk ((t.drop p).take 2)="fi" then "ﬁ" else if mk ((t.drop p).take 2)="fl" then "ﬂ" else ""
set_option tactic.hygienic true in
theorem Qfe {t y:List Nat}{h n p q u:Nat}(hh:b1 h=true)(hp:p<t.length)(hu:t[p]?=some u)(ht:∀c∈t,small c)(hl:t.length<=100)(hy:Uw h (t.take p) y)(hq:q<16){K:KF}
  (hK:∀(p':Nat) (y':List Nat) (u w:Str) (q:Int),p<p'->p'<=t.length->Uw h (t.take p') y'->K .next (Lx (mk t) (mk [h]) n (p':Int) (mk y') u q w) []):
  rd F0 [] (Z9 20) [] (Vu 20 1 2) (Lx (mk t) (mk [h]) n p (mk y) (mk [u]) q (Qh1 t p)) [] K:=by
 have z16:sizeLine=16777216:=rfl;have sm:small u:=ht u (Y3 hu);have t1:(t.drop p).take 1=[u]:=by
  rw[List.drop_eq_getElem_cons hp];rw[Q7 hp]at hu;cases hu;rfl
 have yl:y.length<=300:=by
  have:=hy.2.2;rw[List.length_take]at this;lia
 have nx1:(p:Int)+1=((p+1:Nat):Int):=by rfl
 have nx2:(p:Int)+2=((p+2:Nat):Int):=by rfl
 generalize hw:Qh1 t p=w;unfold Qh1 at hw;have wcase:w=""\/∃x,w=mk [x]/\p+2<=t.length/\U3 [x]=(t.drop p).take 2/\Aq h x:=by
  rw[Qen,Qet,Qcp,Qcm]at hw;have len2:∀{a b:Nat},(t.drop p).take 2=[a,b]->p+2<=t.length:=by
   intro a b e;have:=Zm List.length e;simp at this;lia
  split at hw
  .rename_i e
   have e:=Dp e;exact .inr ⟨64257,hw.symm,len2 e,by rw[e];exact(Oc hh).1,(Oc hh).2⟩
  .split at hw
   .rename_i e
    have e:=Dp e;exact .inr ⟨64258,hw.symm,len2 e,by rw[e];exact(Ol hh).1,(Ol hh).2⟩
   .exact .inl hw.symm
 clear hw
 have fW:∀(q:Int) {R:Prop},R->cond (w.cps.toList !=("":Str).cps.toList) (H5 (mk t) (mk [h]) (mk y) (mk [u]) w n p q K) R:=by
  intro q R r
  rcases wcase with rfl |⟨x,rfl,hx,e,g⟩
  .rw[show((("":Str).cps.toList) !=("":Str).cps.toList)=false by simp,Zo];exact r
  .rw[Qel,Zk,Zk,show(([x]:List Nat) !=[])=true by simp,Zi];refine⟨by rw[Qn,Qn];simp;lia,?_⟩;rw[X6,nx2];exact hK _ _ _ _ _ (by lia) hx (hy.more hx (by lia) e (by simpa using g) (by simp))
 have one:∀{e:List Nat},U3 e=[u]->(∀c∈e,Aq h c)->e.length<=2->Uw h (t.take (p+1)) (y++e):=λ a b d=>hy.more (by assumption) (by lia) (a.trans t1.symm) b (by assumption);have fPlain:∀q:Int,Ex (mk t) (mk [h]) (mk y) (mk [u]) w n p q K:=by
  intro q;refine⟨by rw[Qn,Qn];simp;lia,?_⟩;rw[X6,nx1];exact hK _ _ _ _ _ (by exact Zc _) (by assumption) (one (Bi hh sm).1 (by simpa using (Bi hh sm).2) (by simp))
 have fUp:∀q:Int,Qcf (mk t) (mk [h]) (mk y) (mk [u]) w n p q K:=by
  intro q;have e:Int.toNat ((u:Int)-32)=u-32:=by lia
  show 0<=(u:Int)-32/\_;refine⟨by have:=sm.1;lia,by have:=sm.2;lia,?_,?_⟩
  .rw[Uz,Qn,Qn];simp;lia
  .rw[Uz,X6,nx1,e];exact hK _ _ _ _ _ (by exact Zc _) (by assumption) (one (Os hh sm).1 (by simpa using (Os hh sm).2) (by simp))
 have fHid:∀q:Int,Qun (mk t) (mk [h]) (mk y) (mk [u]) w n p q K:=by
  intro q;refine⟨by rw[Qn,Qn];simp;exact Nat.le_add_left _ _,by rw[X6,Qn,Qn];simp;lia,?_⟩;rw[X6,X6,nx1];refine hK _ _ _ _ _ (by exact Zc _) (by assumption) (one (S7 hh sm).1 ?_ (by simp));intro c hc;simp only[Yq,Y7,Qx,Zf,or_false]at hc
  rcases hc with rfl |rfl
  .exact(S7 hh sm).2
  .exact(Bi hh sm).2
 have fHi:∀(q:Int) (m:Nat),m∈Qwd->q<=100/\0<=q->Nc (mk t) (mk [h]) (mk y) (mk [u]) w n p q m K:=by
  intro q m hm hq;have m12:m<=12:=by
   have:∀m∈Qwd,m<=12:=by decide
   exact this m hm
  have e:Int.toNat (119711+52*(m:Int)+(u:Int))=119711+52*m+u:=by rfl
  have:=sm.2;have im:IntMulOk 52 (m:Int):=by
   have:∀m∈Qwd,Builtin.Int.intBits 52+Builtin.Int.intBits (m:Int)<=134217728:=by decide +kernel
   exact IntMulOk.of_le (Q2 _) (Q2 _) (this m hm)
  refine⟨im,?_⟩;show 0<=119711+52*(m:Int)+(u:Int)/\_;refine⟨by exact Qy _,by lia,?_,?_⟩
  .rw[Uz,Qn,Qn];simp;lia
  .rw[Uz,X6,nx1,e];exact hK _ _ _ _ _ (by exact Zc _) (by assumption) (one (Oa hh sm hm).1 (by simpa using (Oa hh sm hm).2) (by simp))
 have q16:=(by decide:∀q:Fin 16,q.val=0\/q.val=1\/q.val=2\/q.val=3\/q.val=4\/q.val=5\/q.val=6\/q.val=7\/q.val=8\/q.val=9\/q.val=10\/q.val=11\/q.val=12\/q.val=13\/q.val=14\/q.val=15) ⟨q,hq⟩;dsimp only at q16
 rcases q16 with rfl |rfl |rfl |rfl |rfl |rfl |rfl |rfl |rfl |rfl |rfl |rfl |rfl |rfl |rfl |rfl
 .refine(Qed _ _ _ _ _ _ _ _).mpr ?_;exact fW 0 (fPlain 0)
 .refine(Qeh _ _ _ _ _ _ _ _).mpr ?_;exact fW 1 (fPlain 1)
 .refine(Qef _ _ _ _ _ _ _ _).mpr ?_;exact fW 2 (fUp 2)
 .refine(Qeg _ _ _ _ _ _ _ _).mpr ?_;exact fW 3 (fUp 3)
 .refine(Qep _ _ _ _ _ _ _ _).mpr ?_;exact fW 4 (fHid 4)
 .refine(Qem _ _ _ _ _ _ _ _).mpr ?_;exact fW 5 (fHid 5)
 .refine(Qeb _ _ _ _ _ _ _ _).mpr ?_;exact fHi 6 0 (by decide) (by decide)
 .refine(Qeu _ _ _ _ _ _ _ _).mpr ?_;exact fHi 7 1 (by decide) (by decide)
 .refine(Qey _ _ _ _ _ _ _ _).mpr ?_;exact fHi 8 2 (by decide) (by decide)
 .refine(Qev _ _ _ _ _ _ _ _).mpr ?_;exact fHi 9 4 (by decide) (by decide)
 .refine(Qcb _ _ _ _ _ _ _ _).mpr ?_;exact fHi 10 7 (by decide) (by decide)
 .refine(Qcu _ _ _ _ _ _ _ _).mpr ?_;exact fHi 11 8 (by decide) (by decide)
 .refine(Qcy _ _ _ _ _ _ _ _).mpr ?_;exact fHi 12 9 (by decide) (by decide)
 .refine(Qcv _ _ _ _ _ _ _ _).mpr ?_;exact fHi 13 10 (by decide) (by decide)
 .refine(Qcw _ _ _ _ _ _ _ _).mpr ?_;exact fHi 14 11 (by decide) (by decide)
 .refine(Qck _ _ _ _ _ _ _ _).mpr ?_;exact fHi 15 12 (by decide) (by decide)
def tyI (h:Nat)(t:List Nat)(n m:Nat)(loc:Loc)(st:Q4):Prop:=
 st=[]/\∃(p:Nat) (y:List Nat) (mo:Loc),loc=tyL (mk t) (mk [h]) n p (mk y) mo/\(mo=[]\/∃u q w,mo=[(("sign":Str),V.str u),("pick",.int q),("wide",.str w)])/\Uw h (t.take p) y/\p<=t.length/\t.length-p<=m
noncomputable def tyE (h:Nat)(t:List Nat)(n:Nat):KF:=λ fl loc st=>fl=.next/\st=[]/\∃(y:List Nat) (p:Int) (mo:Loc),Uw h t y/\loc=tyL (mk t) (mk [h]) n p (mk y) mo
theorem Qcx (H:Vl W F0 (Z9 20) [] c){t:List Nat}{h n:Nat}(hh:b1 h=true)(ht:∀c∈t,small c)(hl:t.length<=100){K:KF}(hK:∀y loc,Uw h t y->K (.ret (.str (mk y))) loc []):
  XB W c (fB (stN 20)) [("hidden",.str (mk [h])),("number",.int n),("text",.str (mk t))] [] K:=by
 have z16:sizeLine=16777216:=rfl;rw[Qh0];refine Qk (owns:=[]) H ?_;rw[Zwu];have ok0:Uw h (t.take 0) []:=⟨rfl,λ c hc=>(nomatch hc),by simp⟩;refine Zp (tyE h t n) (Pc H Zwk
  (tyI h t n) t.length
  ⟨rfl,0,[],[],rfl,.inl rfl,ok0,by exact Zy _,by exact Nat.sub_le _ _⟩ λ m loc st=>?_) ?_
 .rintro⟨rfl,p,y,mo,rfl,hmo,hy,hp,hm⟩
  rw[Zww];refine⟨by rw[Qn];lia,?_⟩;rw[Qn];by_cases hlt:p<t.length
  .rw[Qw (by lia),Zi,Qew];obtain⟨e0,hu⟩:∃e0,t[p]?=some e0:=⟨_,Q7 hlt⟩;obtain⟨q,q16,eq⟩:=Qha n p
   have first:∀{K:KF},(∀w:Str,K .next (tyL (mk t) (mk [h]) n p (mk y) [("sign",.str ⟨#[e0]⟩),("pick",.int q),("wide",.str w)]) [])->K .next (tyL (mk t) (mk [h]) n p (mk y) [("sign",.str ⟨#[e0]⟩),("pick",.int q)]) []->
     rd F0 [] (Z9 20) [] (Vu 20 1 0) (tyL (mk t) (mk [h]) n p (mk y) mo) [] K:=by
    intro K h1 h2
    rcases hmo with rfl |⟨u,q',w,rfl⟩
    .rw[Zwv,Ux hu];exact⟨by lia,pyl _ (by lia),by decide,Zn (J5 (by lia)) (by rw[eq];exact h2)⟩
    .show rd F0 [] (Z9 20) [] (Vu 20 1 0) (Lx (mk t) (mk [h]) n p (mk y) u q' w) [] K;rw[Qeo,Ux hu];exact⟨by lia,pyl _ (by lia),by decide,Zn (J5 (by lia)) (by rw[eq];exact h1 w)⟩
   have rest:∀mo:Loc,(mo=[(("sign":Str),V.str ⟨#[e0]⟩),("pick",.int q)]\/∃w,mo=[(("sign":Str),V.str ⟨#[e0]⟩),("pick",.int q),("wide",.str w)])->
     XB W c [Vu 20 1 1,Vu 20 1 2] (tyL (mk t) (mk [h]) n p (mk y) mo) [] (Bo (λ loc' st'=>∃m',m'<m/\tyI h t n m' loc' st') (tyE h t n)):=by
    intro mo hmo;refine Zp (λ fl loc st=>fl=.next/\st=[]/\loc=Lx (mk t) (mk [h]) n p (mk y) (mk [e0]) q (Qh1 t p)) ?_ ?_
    .refine M5 H Qee Qes Qer ?_;refine Qpo H.O Qea Qcg Qfo ?_;refine G8 H ?_;rw[Qec];refine⟨by rw[Qn];lia,_,rfl,rfl,rfl,?_⟩;have e2:(p:Int)+2=((p+2:Nat):Int):=by rfl
     rw[e2,Bm t (Zq p 2),show p+2-p=2 by lia,Qei]
     rcases hmo with rfl |⟨w,rfl⟩ <;> rfl
    .rintro fl loc st ⟨rfl,rfl,rfl⟩
     refine Qk (owns:=[]) H (Qfe hh hlt hu ht hl hy q16 ?_);intro p' y' u w q h1 h2 h3;refine Uq ⟨t.length-p',by lia,rfl,p',y',_,rfl,.inr ⟨u,q,w,rfl⟩,h3,h2,Q2 _⟩
   refine Qk (owns:=[]) H (first (λ w=>?_) ?_)
   .show XB W c _ _ _ _;exact rest _ (.inr ⟨w,rfl⟩)
   .show XB W c _ _ _ _;exact rest _ (.inl rfl)
  .rw[Z5 (by lia),Zo];have:p=t.length:=by lia
   subst this;rw[List.take_length]at hy;exact⟨rfl,rfl,y,_,mo,hy,rfl⟩
 .rintro fl loc st ⟨rfl,rfl,y,p,mo,hy,rfl⟩
  refine Qk (owns:=[]) H ?_;rw[Zwy];exact hK y _ hy
end
def Qom (vs:List V)(k:V->Prop):Prop:=Tw vs λ a=>Uh a λ n=>n.natAbs<16^7/\k (.bytes (apD 7 n.natAbs).toArray)
def Qbu (vs:List V)(k:V->Prop):Prop:=on2 vs λ a b=>Jz a λ x=>Jz b λ y=>x.length<=1000/\y.length<=1000/\k (.bool (ell x y))
def Qkz (vs:List V)(k:V->Prop):Prop:=
 ∃t:List Nat,vs=[.str (mk (50::53::55::t))]/\t.length<=900/\k (.str (mk (cond (t.take 2==[32,34]) (un (t.drop 2)) [])))
def Qob (vs:List V)(k:V->Prop):Prop:=Tw vs λ a=>Jz a λ x=>(Rk x).elim False λ c=>k (.bool (b1 c))
def Qou (vs:List V)(k:V->Prop):Prop:=Tw vs λ a=>Jz a λ x=>(Rk x).elim False λ c=>Wj c=true/\k (.str (mk (b3 c)))
theorem Qkf {vs:List V}{P:Str->Prop}(h:Tw vs λ a=>Jz a P):∃x,vs=[.str x]/\P x:=Rw (M:=λ vs=>∃x,vs=[.str x]/\P x) h λ J h=>H3 (M:=λ a=>∃x,[a]=[V.str x]/\P x) h (λ x h=>⟨x,rfl,h⟩) False.elim
theorem Qd3 {vs:List V}{P:Int->Prop}(h:Tw vs λ a=>Uh a P):∃x,vs=[.int x]/\P x:=Rw (M:=λ vs=>∃x,vs=[.int x]/\P x) h λ J h=>Qzn (M:=λ a=>∃x,[a]=[V.int x]/\P x) h (λ x h=>⟨x,rfl,h⟩) False.elim
theorem Qd2 {vs:List V}{P:Str->Str->Prop}(h:on2 vs λ a b=>Jz a λ x=>Jz b λ y=>P x y):∃x y,vs=[.str x,.str y]/\P x y:=S8 (M:=λ vs=>∃x y,vs=[.str x,.str y]/\P x y) h λ J b h=>
 H3 (M:=λ a=>∃x y,[a,b]=[V.str x,.str y]/\P x y) h (λ x h=>H3 (M:=λ b=>∃x' y,[V.str x,b]=[V.str x',.str y]/\P x' y) h (λ y h=>⟨x,y,rfl,h⟩) False.elim) False.elim
noncomputable def F1:Fs:=⟨[("Int2AP",Qom),("_ellipsis_match",Qbu),("parse257",Qkz),("in_table_b1",Qob),("map_table_b3",Qou)],[("ELLIPSIS_MARKER","...")],none⟩
noncomputable def rvE (s:Stmt):Expr:=ns s 0 []
noncomputable def Qml:Expr:=Eo (rvE (sN 21 0))
theorem Al:∀(ls:List (List Nat)),Str.join (mk []) (ls.map mk)=mk ls.flatten
 |[]=>rfl
 |[x]=>by simp[Str.join]
 |x::y::r=>by
  have ih:=Al (y::r);simp only[Qu]at ih |-;show mk x++mk []++Str.join (mk []) (mk y::r.map mk)=_;rw[ih,X6,X6];simp
theorem Qkr (ls:List (List Nat)):Txt.join "" (ls.map mk)=mk ls.flatten:=by
 rw[Qel];exact(StrLaws.glued_eq_join _ _).trans (Al ls)
theorem Xo:∀ls:List Str,Jr (ls.map V.str)=some ls
 |[]=>rfl
 |x::r=>by
  show(Jr (r.map V.str)).map (x::·)=_;rw[Xo r];rfl
theorem Nx {ls:List Str}{B:Nat}(h:∀y∈ls,y.length<=B)(hl:ls.length*B<=16777216):JoinOk "" ls=true:=by
 have:=StrLaws.joinFits (sep:="") h (by rw[show("":Str).length=0 by decide +kernel];assumption);unfold JoinOk;rw[this];rfl
theorem Zyu (t:Str)(K:KF):rd F1 [] (Z9 21) [] (sN 21 0) [("signs",.str t)] [] K=
  rdC F1 38 (Z9 21) Qml [] (t.cps.toList.map λ c=>.str ⟨#[c]⟩) [] λ acc=>m1V .join (.str "") [.list acc] λ v=>K (.ret v) [("signs",.str t)] []:=by kernel_rfl
theorem Zyy (xs:List V)(K:KF):rd F1 [] (Z9 21) [] (sN 21 0) [("signs",.list xs)] [] K=
  rdC F1 38 (Z9 21) Qml [] xs [] λ acc=>m1V .join (.str "") [.list acc] λ v=>K (.ret v) [("signs",.list xs)] []:=by kernel_rfl
theorem Zyw (t:Str)(acc:List V)(k:List V->Prop):rdI F1 38 (Z9 21) Qml [] (.str t) [] acc k=
  (Rk t).elim False λ c=>cond (!b1 c) ((Rk t).elim False λ c=>Wj c=true/\X5 (decide (acc.length<16777216)) (k (acc++[.str (mk (b3 c))]))) (k acc):=by kernel_rfl
theorem Zyv:(Jw Qml).length=1:=by kernel_rfl
theorem Qhr:fB (stN 21)=[sN 21 0]:=by kernel_rfl
noncomputable def prF (v:V):Option V:=
 match v with
 |.str t=>(Rk t).bind λ c=>cond (b1 c) none (some (.str (mk (b3 c))))
 |_=>none
theorem Qkm:∀cs:List Nat,(cs.map λ c=>V.str ⟨#[c]⟩).filterMap prF=((cs.filter λ c=>!b1 c).map b3).map λ l=>V.str (mk l)
 |[]=>rfl
 |c::r=>by
  have e:prF (.str ⟨#[c]⟩)=cond (b1 c) none (some (.str (mk (b3 c)))):=rfl;rw[Qu,List.filterMap_cons,e,Qkm r]
  cases h:b1 c <;> simp [h]
theorem S6:∀cs:List Nat,((cs.filter λ c=>!b1 c).map b3).flatten=U3 cs
 |[]=>rfl
 |c::r=>by
  rw[Wp,<- S6 r]
  cases h:b1 c <;> simp [h]
theorem Qw7 (c:Nat):(b3 c).length<=2:=by
 unfold b3
 cases Dc c <;> cases c==64257 <;> cases c==64258 <;> cases (decide (65<=c)&&decide (c<=80)) <;> simp
section
variable {W:Qj}{c:Cx}
theorem Qsj (H:Vl W F1 (Z9 21) [] c){v:V}{cs:List Nat}(hv:v=.str (mk cs)\/v=.list (cs.map λ c=>.str ⟨#[c]⟩))(hok:∀c∈cs,b1 c=true\/Wj c=true)(hl:cs.length<=1000){K:KF}(hK:∀loc,K (.ret (.str (mk (U3 cs)))) loc []):
  XB W c (fB (stN 21)) [("signs",v)] [] K:=by
 rw[Qhr];have main:∀K:KF,(∀loc,K (.ret (.str (mk (U3 cs)))) loc [])->rdC F1 38 (Z9 21) Qml [] (cs.map λ c=>.str ⟨#[c]⟩) [] λ acc=>m1V .join (.str "") [.list acc] λ u=>K (.ret u) [("signs",v)] []:=by
  intro K hK;refine Gz prF Zyv ?_ ?_
  .intro u hu acc k' ha hk;obtain⟨c,hc,rfl⟩:=Qv.mp hu;rw[Zyw];show cond (!b1 c) (Wj c=true/\X5 (decide (acc.length<16777216)) (k' (acc++[.str (mk (b3 c))]))) (k' acc);have e:prF (.str ⟨#[c]⟩)=cond (b1 c) none (some (.str (mk (b3 c)))):=rfl;rw[e]at hk;rw[Q6]at ha
   rcases hok c hc with h |h
   .rw[h]at hk |-
    simpa using hk
   .cases hb:b1 c with
    |true=>rw[hb]at hk;simpa using hk
    |false=>
     rw[hb]at hk;exact⟨h,Zn (Qw (by lia)) hk⟩
  .rw[Qkm];refine Yp.mpr ⟨((cs.filter λ c=>!b1 c).map b3).map mk,?_,?_,?_⟩
   .have e:∀L:List (List Nat),(L.map λ l=>V.str (mk l))=(L.map mk).map V.str:=by intro L;rw[Z3];rfl
    rw[e,Xo]
   .refine Nx (B:=2) ?_ ?_
    .intro y hy;obtain⟨l,hl,rfl⟩:=Qv.mp hy;obtain⟨d,_,rfl⟩:=Qv.mp hl;rw[Qn];exact Qw7 d
    .have:=List.length_filter_le (λ c=>!b1 c) cs;simp only[Q6];lia
   .rw[Qkr,S6];exact hK _
 rcases hv with rfl |rfl
 .refine Qk (owns:=[]) H ?_;rw[Zyu,Zk];exact main _ hK
 .refine Qk (owns:=[]) H ?_;rw[Zyy];exact main _ hK
end
section
open Builtin Builtin.Str
section
variable {S:List Nat}{f:Nat->Nat}
theorem Qw4:Zz=mk [46,46,46]:=by decide +kernel
theorem Qp1 (x:Str):1<=Builtin.Str.strKind x:=by unfold Builtin.Str.strKind;split <;> (try split) <;> exact Nat.succ_pos _
theorem Qyy:Builtin.Str.strKind Zz=1:=by decide +kernel
end
end
section
variable {W:Qj}{c:Cx}{F:Fs}{kd:Kd}{bnd:List Str}{loc:Loc}{st:Q4}
theorem Qpe (H:Vl W F kd bnd c){e l:Expr}{x:Str}{xp pos:Pos}(he:e=.Compare l [.In] [.Name x xp] pos)(q:(kd x==some .globalImplicit&&!(x==("__debug__":Str)))=true){a:Addr}{o:Obj}{S:Int->Bool}{n:Nat}(hx:nsIn W.K mainGlobals x=some (some (.ref a)))(hK:W.K.lookup a=some o)(hs:o.SetObjOf (intKind W.prog W.w) S n)(hn:n<scanBound)
  {k:V->Prop} (h:EX W c l loc st λ v=>∃i,v=.int i/\k (.bool (S i))):EX W c e loc st k:=⟨λ ly s Q E hR hQ=>by
 subst he;simp only[Qa,Bool.not_eq_true']at q;obtain⟨q1,q2⟩:=q;refine Z0 (wpAny_Compare1 (h.go ly s _ E hR λ v w s1 k1 t1 v1 h1=>?_) rfl);obtain⟨i,rfl,h1⟩:=h1;have hR1:=hR.keeps k1 t1;obtain⟨u,rfl⟩:=v1;refine Jm H.O hR1 (by rw[H.kd];exact eq_of_beq q1) q2 hx ?_;obtain⟨m,Fr1⟩:=hR1.fr;have ho:=(H.O.inK.keeps (H.O.sub Fr1)) a o hK;refine wpAny_inSet_of (knd:=intKind W.prog W.w) (intKind_is W.prog W.w i u) rfl (hs.setOf ho hn) λ tk=>?_;exact hQ _ _ _ (Qi k1 (Xw _ _)) tk (.bool _) h1⟩
theorem Qtw (H:Vl W F kd bnd c){e l:Expr}{x:Str}{xp apos pos:Pos}(he:e=.Call (.Attribute (.Name x xp) "get" apos) [l] [] pos)(q:(Z8 [l]&&((apos.endLine==pos.line)&&((kd x==some .globalImplicit)&&!(x=="__debug__"))))=true){a:Addr}{o:Obj}{kvs:List (Int×Value)}(hx:nsIn W.K mainGlobals x=some (some (.ref a)))(hK:W.K.lookup a=some o)(hd:o.dict=none)(hs:o.IsDictOf (intKind W.prog W.w) kvs)(hm:(a==sysModules)=false)
  {k:V->Prop} (h:EX W c l loc st λ v=>∃i,v=.int i/\((valueAt kvs i=none/\k .none)\/∃y t,valueAt kvs i=some (.str y t)/\k (.str y))):EX W c e loc st k:=⟨λ ly s Q E hR hQ=>by
 subst he;simp only[Qa,Bool.not_eq_true']at q;obtain⟨q2,q3,q4,q5⟩:=q;refine Z0 ?_;refine wpAny_Call_method_lateS rfl (by rw[Bn q2];rfl) q3 ?_;refine Jm H.O hR (by rw[H.kd];exact eq_of_beq q4) q5 hx ?_;obtain⟨mm,Fr1⟩:=hR.fr;have ho:=(H.O.inK.keeps (H.O.sub Fr1)) a o hK;have hD:s.heap.DictOf (intKind W.prog W.w) a kvs:=Heap.dictOf_iff.mpr ⟨o,ho,hs⟩;refine⟨"dict","dict.get",PySem.F.plainAttrs_dict,PySem.F.slot_dict_get,PySem.F.type_dict_get,hD.mapOf.typeIs,hD.mapOf.noDict,?_⟩;rw[Y5 q2,Pl];refine wpAny_dict_get1 (knd:=intKind W.prog W.w) hm (h.go ly s _ E hR λ v w s1 k1 t1 v1 h1=>?_);obtain⟨i,rfl,h1⟩:=h1;obtain⟨u,rfl⟩:=v1;refine⟨i,_,intKind_is W.prog W.w i u,(hD.keep (Yh k1)).mapOf,λ tk=>?_⟩
 rcases h1 with⟨h1,h2⟩ |⟨y,t,h1,h2⟩
 .rw[h1];exact hQ _ _ _ (Qi k1 (Xw _ _)) tk .none h2
 .rw[h1];exact hQ _ _ _ (Qi k1 (Xw _ _)) tk (.str _ _) h2⟩
end
theorem Ft {k:Int}(h0:0<=k)(h1:k<2^61-1):hashInt k=k:=by
 have e:rawHash k=k:=by
  unfold rawHash;have e1:(k.natAbs:Int)%((2^61-1:Nat):Int)=k:=by lia
  dsimp only;rw[e1];simp only[if_neg (show ¬k<0 by lia)];rw[if_neg (by simp;lia)]
 unfold hashInt;rw[e,if_neg (by simp;lia)]
inductive Th:List DictEntry->List KV->Prop
 |nil:Th [] []
 |cons {k:Int} {x:Str} {t u:Tok} {es:List DictEntry} {l:List KV}:Th es l->Th (⟨k,.int k t,.str x u⟩::es) ((k,x)::l)
theorem Th.append:∀{es es':List DictEntry} {l l':List KV},Th es l->Th es' l'->Th (es++es') (l++l')
 |_,_,_,_,.nil,h=>h
 |_,_,_,_,.cons a,h=>.cons (a.append h)
theorem Qax (k:Nat)(l:List KV):∀t:Nat,Th (Mr k t l) l:=by
 induction l with
 |nil=>exact λ J=>.nil
 |cons x r ih=>exact λ t=>.cons (ih _)
theorem Qg3 (gs:List (List KV)):∀t:Nat,Th (U1 t gs).flatten gs.flatten:=by
 induction gs with
 |nil=>exact λ J=>.nil
 |cons g gs ih=>exact λ t=>(Qax _ g t).append (ih _)
theorem Ki:Th G7.flatten Hk:=by
 have:=Qg3 (Kr++[G6]) 362;rw[Ww]at this;exact this
noncomputable def kvE (es:List DictEntry):List (Int×Value):=es.map λ e=>(e.hash,e.val)
theorem Th.pairs {prog:Program}{w:World}:∀{es:List DictEntry} {l:List KV},Th es l->Pairs (intKind prog w) es (kvE es)
 |_,_,.nil=>.nil
 |_,_,.cons h=>.cons (intKind_is prog w _ _) rfl h.pairs
theorem Th.keys {prog:Program}{w:World}:∀{es:List DictEntry} {l:List KV},Th es l->(∀p∈l,0<=p.1/\p.1<2^61-1)->∀e∈es,∃k,(intKind prog w).is k e.key=true/\e.hash=(intKind prog w).hash k
 |_,_,.nil,_,e,he=>by cases he
 |_,_,.cons (k:=k) h,hl,e,he=>by
  rcases Qx.mp he with rfl |he
  .obtain⟨a,b⟩:=hl _ (.head _);exact⟨k,intKind_is prog w _ _,(Ft a b).symm⟩
  .exact h.keys (λ p hp=>hl p (.tail _ hp)) e he
theorem Th.hashes:∀{es:List DictEntry} {l:List KV},Th es l->(kvE es).map (·.1)=l.map (·.1)
 |_,_,.nil=>rfl
 |_,_,.cons h=>Zm (_::·) h.hashes
theorem Th.find:∀{es:List DictEntry} {l:List KV},Th es l->∀i:Int,(l.find? (λ p=>decide (p.1=i))=none->valueAt (kvE es) i=none)/\∀x,(l.find? λ p=>decide (p.1=i)).map (·.2)=some x->∃u,valueAt (kvE es) i=some (.str x u)
 |_,_,.nil,i=>⟨λ J=>rfl,λ x h=>by cases h⟩
 |_,_,.cons (k:=k) (x:=y) (t:=t) (u:=u) (es:=es) (l:=l) h,i=>by
  have ih:=h.find i;by_cases e:k=i
  .subst e;refine⟨λ q=>by simp at q,λ x q=>⟨u,?_⟩⟩;simp at q;subst q;simp[kvE,valueAt]
  .have v:valueAt (kvE (⟨k,.int k t,.str y u⟩::es)) i=valueAt (kvE es) i:=by
    unfold valueAt kvE;rw[Qu,List.find?_cons_of_neg (by simpa using e)]
   refine⟨λ q=>?_,λ x q=>?_⟩
   .rw[List.find?_cons_of_neg (by simpa using e)]at q;exact v.trans (ih.1 q)
   .rw[List.find?_cons_of_neg (by simpa using e)]at q;obtain⟨u',hu⟩:=ih.2 x q;exact⟨u',v.trans hu⟩
theorem Ds:∀(l:List Int) (a:Int),Jb a l=true->l.Nodup
 |[],_,_=>List.nodup_nil
 |b::r,a,h=>by
  simp only[Jb,Qa,decide_eq_true_eq]at h;rw[List.nodup_cons];exact⟨λ m=>absurd (R7 r b h.2 b m) (Int.lt_irrefl _),Ds r b h.2⟩
theorem Qyh (P:Params)(prog:Program)(w:World):(Wx P).IsDictOf (intKind prog w) (kvE G7.flatten):=by
 refine⟨G7.flatten.toArray,650,⟨rfl,rfl,rfl⟩,rfl,?_,Ki.pairs,?_⟩
 .intro e he;refine Ki.keys (λ p hp=>?_) e (by simpa using he);have:=Qf.mp Qlh p hp;simp only[Qa,decide_eq_true_eq]at this;exact this
 .rw[Ki.hashes];exact Ds _ _ Iv
noncomputable def okL:List Nat:=(List.range' 119808 676).filter Dc++[64257,64258,34]++List.range' 65 16++List.range' 97 16
theorem Qsu {c:Nat}(h:Wj c=true):c∈okL:=by
 unfold Wj at h;simp only[Bool.or_eq_true,Qa,Zr,decide_eq_true_eq]at h;unfold okL;simp only[List.mem_append,List.mem_filter,List.mem_range'_1,Qx,Zf,or_false]
 rcases h with((((h |h) |h) |h) |h) |h
 .refine .inl (.inl (.inl ⟨?_,h⟩));have h':=h;unfold Dc at h';simp only[Qa,decide_eq_true_eq]at h';obtain⟨⟨h1,h2⟩,h3⟩:=h';have m:(c-119808)/52<=12:=by
   have:∀m∈Qwd,m<=12:=by decide
   exact this _ (Zd.mp h2)
  lia
 .exact .inl (.inl (.inr (.inl h)))
 .exact .inl (.inl (.inr (.inr (.inl h))))
 .exact .inl (.inr (by lia))
 .exact .inr (by lia)
 .exact .inl (.inl (.inr (.inr (.inr h))))
noncomputable def okC (c:Nat):Bool:=match Hk.find? λ p=>decide (p.1=(c:Int)) with
 |some p=>p.2==mk (b3 c)
 |none=>decide (c<128)
theorem Qsb:okL.all okC=true:=by decide +kernel
theorem Qdm:(([34]++List.range' 65 16++List.range' 97 16).all λ c=>Txt.lower (mk [c])==mk (b3 c))=true:=by decide +kernel
section
open Builtin Builtin.Str
noncomputable def Qyn (P:Params):List (Int×Value):=match (Gj P).data with
 |.set es _ _=>es.toList
 |_=>[]
noncomputable def b1T (P:Params):SetTable:=match (Gj P).data with
 |.set _ _ t=>t
 |_=>default
theorem Qn3 (P:Params):(Gj P).data=.set (Qyn P).toArray 29 (b1T P):=by kernel_rfl
noncomputable def Cl (p:Int×Value):Option Int:=if h:p.2.ctorIdx=4 then Value.int.elim p.2 h λ k J=>cond (decide (p.1=k)&&(decide (0<=k)&&decide (k<100000))) (some k) none else none
theorem Qz7 {p:Int×Value}{i:Int}(h:Cl p=some i):∃t,p=(i,.int i t)/\0<=i/\i<100000:=by
 obtain⟨a,v⟩:=p
 delta Cl at h
 dsimp only at h;by_cases q:v.ctorIdx=4
 .rw[dif_pos q]at h;refine Value.int.elim (motive:=λ v=>∀q,(Value.int.elim v q λ k J=>cond (decide (a=k)&&(decide (0<=k)&&decide (k<100000))) (some k) none)=some i->∃t,(a,v)=(i,Value.int i t)/\0<=i/\i<100000) v q (λ k t J h=>?_) q h
  replace h:cond (decide (a=k)&&(decide (0<=k)&&decide (k<100000))) (some k) none=some i:=h
  cases e:(decide (a=k)&&(decide (0<=k)&&decide (k<100000))) with
  |false=>rw[e]at h;cases h
  |true=>
   rw[e]at h;cases h;have e:=Qe.mp e;have e2:=Qe.mp e.2;exact⟨t,by rw[Qc e.1],Qc e2.1,Qc e2.2⟩
 .rw[dif_neg q]at h;cases h
theorem Qw8 (P:Params):(Qyn P).map Cl=[65024,65025,65026,65027,65028,65029,6150,65030,65031,65032,65033,6155,6156,6157,8203,8204,8205,65034,65035,65036,65037,65038,65039,173,847,8288,65279].map some:=by kernel_rfl
noncomputable def b1S (i:Int):Bool:=[65024,65025,65026,65027,65028,65029,6150,65030,65031,65032,65033,6155,6156,6157,8203,8204,8205,65034,65035,65036,65037,65038,65039,173,847,8288,65279].contains i
noncomputable def b1P:List Nat:=[65024,65025,65026,65027,65028,65029,6150,65030,65031,65032,65033,6155,6156,6157,8203,8204,8205,65034,65035,65036,65037,65038,65039,173,847,8288,65279]
theorem Qal:∀x∈b1P,x∈b1L:=by decide
theorem Qac:∀x∈b1L,x∈b1P:=by decide
theorem Qan (c:Nat):b1S (c:Int)=b1 c:=by
 have e:b1S (c:Int)=(b1P.map λ n:Nat=>(n:Int)).contains (c:Int):=rfl;rw[e];unfold b1;rw[Bool.eq_iff_iff,Zd,Zd,Qv];constructor
 .rintro⟨n,hn,h⟩
  exact Int.ofNat.inj h▸Qal n hn
 .intro h;exact⟨c,Qac c h,rfl⟩
theorem Qyd (P:Params)(prog:Program)(w:World):(Gj P).SetObjOf (intKind prog w) b1S 27:=by
 have key:∀e∈Qyn P,∃k t,e=(k,.int k t)/\b1S k=true/\0<=k/\k<100000:=by
  intro e he;have m:Cl e∈(Qyn P).map Cl:=List.mem_map_of_mem he;rw[Qw8,Qv]at m;obtain⟨k,hk,e1⟩:=m;obtain⟨t,rfl,h⟩:=Qz7 e1.symm;exact⟨k,t,rfl,Zd.mpr hk,h⟩
 refine⟨⟨rfl,rfl,rfl⟩,(Qyn P).toArray,29,b1T P,Qn3 P,?_,?_,by kernel_rfl,by kernel_rfl⟩
 .intro e he;obtain⟨k,t,rfl,_,h0,h1⟩:=key e (by simpa using he);exact⟨⟨k,intKind_is prog w k t,(Ft h0 (by lia)).symm⟩,rfl⟩
 .intro k;constructor
  .intro h;have m:some k∈(Qyn P).map Cl:=by
    rw[Qw8];exact List.mem_map_of_mem (Zd.mp h)
   obtain⟨e,he,e1⟩:=Qv.mp m;refine⟨e,by simpa using he,?_⟩;obtain⟨t,rfl,_⟩:=Qz7 e1;exact intKind_is prog w k t
  .rintro⟨e,he,hk⟩
   obtain⟨k',t,rfl,hs,_⟩:=key e (by simpa using he);have:k'=k:=by
    have hk':Value.isInt k (.int k' t)=true:=hk
    simpa [Value.isInt] using hk'
   rw[<- this];exact hs
theorem Zbb (P:Params):nsIn (KL P) mainGlobals "b1_set"=some (some (.ref 87)):=by kernel_rfl
theorem Zjz (P:Params):(KL P).lookup 87=some (Gj P):=by kernel_rfl
theorem Zbu (P:Params):nsIn (KL P) mainGlobals "b3_exceptions"=some (some (.ref 98)):=by kernel_rfl
theorem Zjq (P:Params):(KL P).lookup 98=some (Wx P):=by kernel_rfl
noncomputable def rvP (s:Stmt):Pos:=stP s
section
variable {W:Qj}{c:Cx}{F:Fs}{kd:Kd}{bnd:List Str}{loc:Loc}{st:Q4}{K:KF}
theorem Qyc {s:Stmt}(hs:s=.Return (some (rvE s)) (rvP s))(h:EX W c (rvE s) loc st λ v=>K (.ret v) loc st):X1 W c s loc st K:=⟨by
 rw[hs];exact Nt h.go⟩
theorem Qbl {s:Stmt}(h:X1 W c s loc st K)(hK:∀loc st,K .next loc st->K .next loc st):XB W c [s] loc st K:=
 Zp K h λ fl loc st q=>by
  cases fl with
  |next=>exact Uq q
  |_=>exact q
noncomputable def cmP (e:Expr):Expr×Pos×Pos:=(nv e [0],(nv e [1]).pos,e.pos)
noncomputable def t1E:Expr:=(cmP (rvE (sN 13 0))).1
theorem Zv8:rvE (sN 13 0)=.Compare t1E [.In] [.Name "b1_set" (cmP (rvE (sN 13 0))).2.1] (cmP (rvE (sN 13 0))).2.2:=by kernel_rfl
theorem Zv3:(Z9 13 "b1_set"==some .globalImplicit&&!(("b1_set":Str)==("__debug__":Str)))=true:=by kernel_rfl
theorem Zv2:sN 13 0=.Return (some (rvE (sN 13 0))) (rvP (sN 13 0)):=by kernel_rfl
theorem Zv5 (x:Str)(q:V->Prop):Gi F0 (Z9 13) t1E [("code",.str x)] [] q=(Rk x).elim False λ c=>q (.int (c:Nat)):=by kernel_rfl
theorem Qhj:fB (stN 13)=[sN 13 0]:=by kernel_rfl
theorem Qcr (H:Vl W F0 (Z9 13) [] c){P:Params}(hK:W.K=KL P){x:Str}{d:Nat}(hx:Rk x=some d)(h:∀loc,K (.ret (.bool (b1 d))) loc []):XB W c (fB (stN 13)) [("code",.str x)] [] K:=by
 rw[Qhj];refine Qbl (Qyc Zv2 ?_) λ J J q=>q;refine Qpe H Zv8 Zv3 (by rw[hK];exact Zbb P) (by rw[hK];exact Zjz P) (Qyd P W.prog W.w) (by decide) (G8 H ?_);rw[Zv5,hx];exact⟨d,rfl,by rw[Qan];exact h _⟩
noncomputable def gtP (e:Expr):Pos×Pos×Expr×Pos:=((nv e [0,0]).pos,(nv e [0]).pos,nv e [1],e.pos)
noncomputable def t3G:Pos×Pos×Expr×Pos:=gtP (wT (sN 15 0))
noncomputable def t3E:Expr:=t3G.2.2.1
theorem Zws:wT (sN 15 0)=.Call (.Attribute (.Name "b3_exceptions" t3G.1) "get" t3G.2.1) [t3E] [] t3G.2.2.2:=by kernel_rfl
theorem Zwt:(Z8 [t3E]&&((t3G.2.1.endLine==t3G.2.2.2.line)&&((Z9 15 "b3_exceptions"==some .globalImplicit)&&!(("b3_exceptions":Str)=="__debug__"))))=true:=by kernel_rfl
theorem Zwd:sN 15 0=.Assign [.Name (wN (sN 15 0)) (Mq (sN 15 0))] (wT (sN 15 0)) (wP (sN 15 0)):=by kernel_rfl
theorem Zwn:wN (sN 15 0)="r":=by kernel_rfl
theorem Zwc:Be (Z9 15) [] (wN (sN 15 0))=true:=by kernel_rfl
theorem Zwh:swW (Z9 15) (wT (sN 15 0)) (wN (sN 15 0)) (Mq (sN 15 0)).line=some false:=by kernel_rfl
theorem Zwl (x:Str)(q:V->Prop):Gi F0 (Z9 15) t3E [("code",.str x)] [] q=(Rk x).elim False λ c=>q (.int (c:Nat)):=by kernel_rfl
theorem Qo1 (x y:Str)(K:KF):rd F0 [] (Z9 15) [] (sN 15 1) [("code",.str x),("r",.str y)] [] K=K (.ret (.str y)) [("code",.str x),("r",.str y)] []:=by kernel_rfl
theorem Qo2 (x:Str)(K:KF):rd F0 [] (Z9 15) [] (sN 15 1) [("code",.str x),("r",.none)] [] K=K .next [("code",.str x),("r",.none)] []:=by kernel_rfl
theorem Zwr (x:Str)(K:KF):rd F0 [] (Z9 15) [] (sN 15 2) [("code",.str x),("r",.none)] [] K=(tooLong (Txt.lower x).length=false/\K (.ret (.str (Txt.lower x))) [("code",.str x),("r",.none)] []):=by kernel_rfl
theorem Qhz:fB (stN 15)=[sN 15 0,sN 15 1,sN 15 2]:=by kernel_rfl
theorem Qcs (H:Vl W F0 (Z9 15) [] c){P:Params}(hK:W.K=KL P){x:Str}{d:Nat}(hx:Rk x=some d)(hd:Wj d=true)(h:∀loc,K (.ret (.str (mk (b3 d)))) loc []):XB W c (fB (stN 15)) [("code",.str x)] [] K:=by
 rw[Qhz];have hmem:=Qsu hd;have hc:=Qf.mp Qsb d hmem;refine Zp (λ fl loc st=>fl=.next/\st=[]/\((loc=[(("code":Str),V.str x),("r",.str (mk (b3 d)))])\/(loc=[(("code":Str),V.str x),("r",.none)]/\d<128))) (M5 H Zwd Zwc Zwh ?_) ?_
 .refine Qtw H Zws Zwt (by rw[hK];exact Zbu P) (by rw[hK];exact Zjq P) rfl (Qyh P W.prog W.w) (by decide) (G8 H ?_);rw[Zwl,hx];refine⟨d,rfl,?_⟩;rw[Zwn];unfold okC at hc;cases q:Hk.find? λ p=>decide (p.1=(d:Int)) with
  |none=>
   rw[q]at hc;exact .inl ⟨(Ki.find d).1 q,rfl,rfl,.inr ⟨rfl,Qc hc⟩⟩
  |some p=>
   rw[q]at hc;have hp:p.2=mk (b3 d):=eq_of_beq hc;obtain⟨u,hu⟩:=(Ki.find d).2 p.2 (by rw[q];rfl);exact .inr ⟨p.2,u,hu,rfl,rfl,.inl (by rw[hp];rfl)⟩
 .rintro fl loc st ⟨rfl,rfl,rfl |⟨rfl,hlt⟩⟩
  .refine Qk (owns:=[]) H ?_;rw[Qo1];exact h _
  .refine Qk (owns:=[]) H ?_;rw[Qo2];show XB W c _ _ _ _;refine Qk (owns:=[]) H ?_;rw[Zwr];have xe:x=mk [d]:=Du hx;have lo:Txt.lower (mk [d])=mk (b3 d):=by
    have m:d∈[34]++List.range' 65 16++List.range' 97 16:=by
     unfold okL at hmem;simp only[List.mem_append,List.mem_filter,List.mem_range'_1,Qx,Zf,or_false]at hmem |-;lia
    exact eq_of_beq (Qf.mp Qdm d m)
   rw[xe,lo];refine⟨?_,h _⟩;unfold tooLong;rw[Qn];have:=Qw7 d;exact Z5 (by have:sizeLine=16777216:=rfl;lia)
end
end
section
open Builtin Builtin.Str StrLaws
theorem Qb5 (l:List Nat)(i j:Nat):strSub (mk l) i j=mk ((l.drop i).take (j-i)):=by
 apply Str.ext';apply Array.toList_inj.mp;rw[strSub_toList,Zk,Zk]
theorem Qps {a b:List Nat}{c:Nat}(h:c∉a):Txt.find (mk (a++c::b)) (mk [c])=a.length:=by
 unfold Txt.find;have g:(mk (a++c::b)).cps.toList[a.length]?=some c:=by rw[Zk];simp
 rcases occ_head (mk (a++c::b)) (mk [c]) 1 (Q2 1) with⟨_,hn⟩ |⟨i,r,e,hA,hn⟩
 .exact absurd ((subAt_one _ c _).mpr g) (hn _)
 .rw[e];have hi:=(subAt_one _ c i).mp hA;rw[Zk]at hi;have:i=a.length:=by
   rcases Nat.lt_trichotomy i a.length with q |q |q
   .rw[Zx q]at hi;exact absurd (Y3 hi) h
   .exact q
   .exact absurd ((subAt_one _ c _).mpr g) (hn _ q)
  rw[this]
theorem P2 {n i:Nat}(_h:i<=n):fromIndex n (i:Int)=i:=by
 unfold fromIndex
 first
 |(rw[if_neg (by lia)];rfl)
 |(simp;omega)
theorem Ee (l:List Nat)(v:Nat):(mk l).cps.getD v 0=l.getD v 0:=by
 simp[mk]
theorem Qpa {u a b:List Nat}{c:Nat}(h:c∉a):Txt.find3 (mk (u++(a++c::b))) (mk [c]) (u.length:Nat)=((u.length+a.length:Nat):Int):=by
 have fr:fromIndex (mk (u++(a++c::b))).length (u.length:Nat)=u.length:=P2 (by rw[Qn];simp);have gk:(u++(a++c::b)).getD (u.length+a.length) 0=c:=by
  rw[Y9,<- Qr,Z2 (by simp)];simp
 rcases find3_spec (mk (u++(a++c::b))) c (u.length:Nat) with⟨_,hn⟩ |⟨k,e,h1,h2,h3,h4⟩
 .refine absurd ?_ (hn (u.length+a.length) (by rw[fr];exact Zq _ _) (by rw[Qn];simp));rw[Ee];exact gk
 .refine e.trans ?_;rw[fr]at h1 h4
  congr 1
  rcases Nat.lt_trichotomy k (u.length+a.length) with q |q |q
  .exfalso;rw[Ee,Y9,Z2 (by assumption),Zx (by lia)]at h3;rw[Q7 (by lia)]at h3;exact h (h3▸List.getElem_mem _)
  .exact q
  .exact absurd (by rw[Ee];exact gk) (h4 (u.length+a.length) (by exact Zq _ _) q)
noncomputable def Vd (c:Nat):List (List Nat)->List Nat
 |[]=>[]
 |[a]=>a
 |a::r=>a++c::Vd c r
theorem Qks (c:Nat):∀ps:List (List Nat),Str.join (mk [c]) (ps.map mk)=mk (Vd c ps)
 |[]=>rfl
 |[a]=>rfl
 |a::b::r=>by
  have ih:=Qks c (b::r);show mk a++mk [c]++Str.join (mk [c]) ((b::r).map mk)=mk (a++c::Vd c (b::r));rw[ih,X6,X6];simp
theorem Qqa {c:Nat}:∀{a b X Y:List Nat},c∉a->c∉b->a++c::X=b++c::Y->a=b/\X=Y
 |[],[],X,Y,_,_,h=>⟨rfl,by simpa using h⟩
 |[],b::bs,X,Y,_,h2,h=>by
  have:c=b:=by simpa using (List.cons.inj h).1
  exact absurd (this▸List.mem_cons_self ..) h2
 |a::as,[],X,Y,h1,_,h=>by
  have:a=c:=by simpa using (List.cons.inj h).1
  exact absurd (this▸List.mem_cons_self ..) h1
 |a::as,b::bs,X,Y,h1,h2,h=>by
  obtain⟨e1,e2⟩:=List.cons.inj h;obtain⟨e3,e4⟩:=Qqa (λ q=>h1 (.tail _ q)) (λ q=>h2 (.tail _ q)) e2;exact⟨by rw[e1,e3],e4⟩
theorem C9 {c:Nat}:∀{ps qs:List (List Nat)},ps≠[]->qs≠[]->(∀p∈ps,c∉p)->(∀p∈qs,c∉p)->Vd c ps=Vd c qs->ps=qs
 |[],_,h,_,_,_,_=>absurd rfl h
 |_,[],_,h,_,_,_=>absurd rfl h
 |[a],[b],_,_,_,_,e=>by rw[show a=b from e]
 |[a],b::b'::r,_,_,h1,_,e=>by
  have e':a=b++c::Vd c (b'::r):=e;exact absurd (by rw[e'];simp) (h1 a (.head _))
 |a::a'::r,[b],_,_,_,h2,e=>by
  have e':a++c::Vd c (a'::r)=b:=e;exact absurd (by rw[<- e'];simp) (h2 b (.head _))
 |a::a'::r,b::b'::r',_,_,h1,h2,e=>by
  have e':a++c::Vd c (a'::r)=b++c::Vd c (b'::r'):=e;obtain⟨e1,e2⟩:=Qqa (h1 a (.head _)) (h2 b (.head _)) e';rw[e1,C9 (by simp) (by simp) (λ p hp=>h1 p (.tail _ hp)) (λ p hp=>h2 p (.tail _ hp)) e2]
theorem Qbj (x y:Str):Txt.split x y≠[]:=by
 unfold Txt.split;split
 .simp
 .split
  .simp
  .rw[partsBetween_eq];intro e;have:=(B9 x y.length (occurrences x y 0 x.length (x.length+1)) 0).1;rw[e]at this;cases this
theorem Mw {c:Nat}{ps:List (List Nat)}(hn:ps≠[])(h:∀p∈ps,c∉p):Txt.split (mk (Vd c ps)) (mk [c])=ps.map mk:=by
 have j:=join_split (mk (Vd c ps)) (mk [c]);have fr:=split_free (mk (Vd c ps)) c;have e:∀l:List Str,(l.map λ x=>x.cps.toList).map mk=l:=by
  intro l;rw[Z3]
  conv=>rhs;rw[<- List.map_id l]
  exact List.map_congr_left λ x J=>Qmb x
 have e2:=e (Txt.split (mk (Vd c ps)) (mk [c]));rw[<- e2]at j;rw[Qks]at j;have e3:=C9 (c:=c) (ps:=(Txt.split (mk (Vd c ps)) (mk [c])).map λ x=>x.cps.toList) (qs:=ps) (by
  intro q;exact Qbj _ _ (List.map_eq_nil_iff.mp q)) hn (by
  intro p hp;obtain⟨x,hx,rfl⟩:=Qv.mp hp;exact fr x hx) h (Dp j)
 rw[<- e2,e3]
noncomputable def Xr:List (List Nat)->List Nat
 |[]=>[]
 |p::ps=>46::46::46::(p++Xr ps)
theorem Nb {l:List Nat}{i:Nat}:At (mk l) Zz (mk l).length i↔i+3<=l.length/\(l.drop i).take 3=[46,46,46]:=by
 unfold At;rw[subAt_eq,Qw4,Qn,Qn,Zk,Zk,Zr];rfl
theorem Qzq {l:List Nat}{i:Nat}(h:At (mk l) Zz (mk l).length i):l[i]?=some 46:=by
 obtain⟨h1,h2⟩:=Nb.mp h;have:((l.drop i).take 3)[0]?=some 46:=by rw[h2];rfl
 rw[List.getElem?_take_of_lt (by decide),List.getElem?_drop]at this;exact this
theorem Qqw {u p r:List Nat}{i:Nat}(h:46∉p)(h1:u.length<=i)(h2:i<u.length+p.length):(u++(p++r))[i]?≠some 46:=λ q=>by
 rw[Z2 h1,Zx (by lia)]at q;exact h (Y3 q)
theorem Qjj:∀(ps:List (List Nat)) (p u:List Nat) (cuts:List Nat) (f:Nat),46∉p->(∀q∈ps,46∉q)->ChainG (mk (u++(p++Xr ps))) Zz (mk (u++(p++Xr ps))).length u.length cuts f->
  (∀k,f<=k->¬At (mk (u++(p++Xr ps))) Zz (mk (u++(p++Xr ps))).length k)->partsFrom (mk (u++(p++Xr ps))) 3 u.length cuts=(p::ps).map mk:=by
 intro ps;induction ps with
 |nil=>
  intro p u cuts f hp _ hG _;cases cuts with
  |nil=>
   show [strSub _ _ _]=[mk p];rw[Qb5,Qn,List.drop_left,Xr,Qs,List.take_of_length_le (by simp)]
  |cons c r=>
   obtain⟨h1,hA,_⟩:=hG;have e:=Qzq hA;have hc:=(Nb.mp hA).1;exact absurd e (Qqw hp h1 (by simp[Xr]at hc;lia))
 |cons q qs ih=>
  intro p u cuts f hp hps hG hn;have hAt:At (mk (u++(p++Xr (q::qs)))) Zz (mk (u++(p++Xr (q::qs)))).length (u.length+p.length):=by
   rw[Nb];constructor
   .simp[Xr];lia
   .rw[<- Qr,<- Q8,List.drop_left];rfl
  cases cuts with
  |nil=>
   have e:f=u.length:=hG;exact absurd hAt (hn _ (by rw[e];exact Zq _ _))
  |cons c r=>
   obtain⟨h1,hA,hno,hG⟩:=hG;have hc:c=u.length+p.length:=by
    have a1:¬c<u.length+p.length:=λ q=>Qqw hp h1 q (Qzq hA);have a2:¬u.length+p.length<c:=λ q=>hno _ (Zq _ _) q hAt;lia
   subst hc;have e1:u++(p++Xr (q::qs))=(u++(p++[46,46,46]))++(q++Xr qs):=by simp[Xr]
   have e2:u.length+p.length+3=(u++(p++[46,46,46])).length:=by simp;lia
   show strSub _ _ _::partsFrom _ 3 (u.length+p.length+3) r=mk p::(q::qs).map mk;rw[Qb5,List.drop_left,Nat.add_sub_cancel_left,List.take_left];have hG:ChainG _ _ _ (u.length+p.length+3) r f:=hG;rw[e2]at hG |-;rw[e1]at hG hn |-;rw[ih q _ r f (hps q (.head _)) (λ x hx=>hps x (.tail _ hx)) hG hn]
theorem Qj1 {p:List Nat}{ps:List (List Nat)}(hp:46∉p)(hps:∀q∈ps,46∉q)(hne:ps≠[]):Txt.contains (mk (p++Xr ps)) Zz=true/\Txt.split (mk (p++Xr ps)) Zz=mk p::ps.map mk:=by
 obtain⟨f,hG,hn⟩:=occ_tight (mk (p++Xr ps)) Zz (by decide);obtain⟨q,qs,rfl⟩:=List.exists_cons_of_ne_nil hne;have hAt:At (mk (p++Xr (q::qs))) Zz (mk (p++Xr (q::qs))).length p.length:=Nb.mpr ⟨by simp[Xr],by rw[List.drop_left];rfl⟩;have hc:=Qjj (q::qs) p [] _ f hp hps hG hn;constructor
 .exact(found_iff _ _).mpr ⟨_,hAt⟩
 .unfold Txt.split;have k1:decide (strKind (mk (p++Xr (q::qs)))<strKind Zz)=false:=Z5 (by rw[Qyy];have:=Qp1 (mk (p++Xr (q::qs)));lia);have k2:decide ((mk (p++Xr (q::qs))).length<Zz.length)=false:=Z5 (by have:=hAt.1;lia);rw[k1,k2,if_neg (by decide)];cases e:occurrences (mk (p++Xr (q::qs))) Zz 0 (mk (p++Xr (q::qs))).length ((mk (p++Xr (q::qs))).length+1) with
  |nil=>
   rw[e]at hG;have ef:f=0:=hG;exact absurd hAt (hn _ (by rw[ef];exact Zy _))
  |cons a r=>
   rw[if_neg (by simp),partsBetween_eq];rw[e]at hc;exact hc
noncomputable def Cv (w l:List Nat):Option (List Nat):=l.rec (cond (w.isPrefixOf []) (some []) none) λ c s r=>cond (w.isPrefixOf (c::s)) (some ((c::s).drop w.length)) r
noncomputable def goN:List (List Nat)->List Nat->Bool
 |[],_=>true
 |w::ws,s=>(Cv w s).elim false (goN ws)
noncomputable def Qak (p:List Nat)(ms:List (List Nat))(q t:List Nat):Bool:=p.isPrefixOf t&&(q.isSuffixOf t&&(decide (p.length+q.length<=t.length)&&goN ms ((t.take (t.length-q.length)).drop p.length)))
theorem Qpt (w:List Nat):∀s:List Nat,(∃m,w <+:s.drop m/\m<=s.length/\(∀k,k<m->¬w <+:s.drop k)/\Cv w s=some (s.drop (m+w.length)))\/((∀k,k<=s.length->¬w <+:s.drop k)/\Cv w s=none):=by
 intro s;induction s with
 |nil=>
  by_cases h:w <+:[]
  .have e:w=[]:=List.prefix_nil.mp h;subst e;exact .inl ⟨0,h,Q2 _,λ k hk=>absurd hk (Nat.not_lt_zero _),rfl⟩
  .refine .inr ⟨λ k J=>by rw[List.drop_nil];exact h,?_⟩;show cond _ _ _=_;rw[Bool.eq_false_iff.mpr λ q=>h (List.isPrefixOf_iff_prefix.mp q)];rfl
 |cons c s ih=>
  by_cases h:w <+:c::s
  .refine .inl ⟨0,h,Zy _,λ k hk=>absurd hk (Nat.not_lt_zero _),?_⟩;show cond _ _ _=_;rw[List.isPrefixOf_iff_prefix.mpr h,Nat.zero_add];rfl
  .have e:Cv w (c::s)=Cv w s:=by
    show cond _ _ _=_;rw[Bool.eq_false_iff.mpr λ q=>h (List.isPrefixOf_iff_prefix.mp q)];rfl
   rw[e]
   rcases ih with⟨m,h1,h2,h3,h4⟩ |⟨h1,h2⟩
   .refine .inl ⟨m+1,h1,Nat.succ_le_succ h2,λ k hk=>?_,?_⟩
    .cases k with
     |zero=>exact h
     |succ k=>exact h3 k (Nat.lt_of_succ_lt_succ hk)
    .rw[h4,Nat.add_right_comm];rfl
   .refine .inr ⟨λ k hk=>?_,h2⟩;cases k with
    |zero=>exact h
    |succ k=>exact h1 k (Nat.le_of_succ_le_succ hk)
theorem Hr (x y:Str)(lo hi:Nat):
  (occurrences x y lo hi 1=[]/\∀i,lo<=i->¬At x y hi i)\/∃i r,occurrences x y lo hi 1=i::r/\lo<=i/\At x y hi i/\∀k,lo<=k->k<i->¬At x y hi k:=by
 rw[occ_eq]
 rcases occ_first x y hi 1 (Q2 1) (List.range' lo (hi+1-lo)) lo (λ i hi=>(List.mem_range'_1.mp hi).1) with⟨h0,hn⟩ |⟨pre,a,post,e,h0,ha,hn⟩
 .exact .inl ⟨by rw[h0],λ i hlo hA=>hn i (List.mem_range'_1.mpr ⟨hlo,by have:=hA.1;lia⟩) hA⟩
 .have hs:=range'_split_from e;refine .inr ⟨a,((forIn (List.range' lo (hi+1-lo)) ((#[]:Array Nat),lo) (occBody x y hi 1)).run.fst.toList).tail,?_,hs.1,ha,λ k hk0 hk=>hn k (hs.2 k hk0 hk)⟩;generalize (forIn (List.range' lo (hi+1-lo)) ((#[]:Array Nat),lo) (occBody x y hi 1)).run.fst=arr at h0;obtain⟨l⟩:=arr;have h1:l[0]?=some a:=by rw[<- h0,Zh]
  cases l with
  |nil=>cases h1
  |cons b t=>cases h1;rfl
theorem Qxb {t w:List Nat}{j k:Nat}(hj:j<=t.length)(hk:k<=j):At (mk t) (mk w) j k↔w <+:(t.take j).drop k:=by
 unfold At;rw[subAt_eq,Qn,Zk,Zk,Zr,List.drop_take,List.prefix_take_iff,List.prefix_iff_eq_take];constructor
 .rintro⟨h1,h2⟩;exact⟨h2.symm,by lia⟩
 .rintro⟨h1,h2⟩;exact⟨by lia,h1.symm⟩
theorem Qpr {t w:List Nat}{i j:Nat}(hi:i<=j)(hj:j<=t.length):(Cv w ((t.take j).drop i)=none/\Gu (mk t) (mk w) i j<0)\/∃m,i<=m/\m<=j/\Cv w ((t.take j).drop i)=some ((t.take j).drop m)/\Gu (mk t) (mk w) i j+w.length=m/\0<=Gu (mk t) (mk w) i j:=by
 have ls:((t.take j).drop i).length=j-i:=by rw[List.length_drop,List.length_take,Nat.min_eq_left hj]
 have e1:fromIndex (mk t).length (i:Int)=i:=P2 (by rw[Qn];lia);have e2:min (fromIndex (mk t).length (j:Int)) (mk t).length=j:=by rw[P2 (by rw[Qn];exact hj),Qn];exact Nat.min_eq_left hj
 unfold Gu;rw[e1,e2];have dd:∀m,((t.take j).drop i).drop m=(t.take j).drop (i+m):=λ m=>List.drop_drop
 rcases Qpt w ((t.take j).drop i) with⟨m,h1,h2,h3,h4⟩ |⟨h1,h2⟩
 .right
  rw[dd]at h1;have hm:i+m<=j:=by lia
  have hA:=(Qxb hj hm).mpr h1;have hb:i+m+w.length<=j:=by have:=hA.1;rw[Qn]at this;exact this
  refine⟨i+(m+w.length),Zq _ _,by lia,by rw[h4,dd],?_⟩
  rcases Hr (mk t) (mk w) i j with⟨_,hn⟩ |⟨a,r,e,hlo,hA2,hno⟩
  .exact absurd hA (hn _ (Zq _ _))
  .have ha:a=i+m:=by
    have a1:¬i+m<a:=λ q=>hno _ (Zq _ _) q hA;have a2:¬a<i+m:=λ q=>by
     have:=(Qxb hj (by have:=hA2.1;lia)).mp hA2;refine h3 (a-i) (by lia) ?_;rw[dd,Nat.add_sub_cancel' hlo];exact this
    lia
   rw[e,ha];exact⟨by push_cast;lia,Qy _⟩
 .refine .inl ⟨h2,?_⟩
  rcases Hr (mk t) (mk w) i j with⟨e,_⟩ |⟨a,r,e,hlo,hA,_⟩
  .rw[e];decide
  .have haj:a<=j:=by have:=hA.1;lia
   have:=(Qxb hj haj).mp hA;refine absurd this ?_;have:=h1 (a-i) (by lia)
   rwa [dd,Nat.add_sub_cancel' hlo]at this
theorem Qpy {t:List Nat}{j:Nat}(hj:j<=t.length):∀(ws:List (List Nat)) (i:Nat),i<=j->Kl (mk t) j (ws.map mk) i=goN ws ((t.take j).drop i):=by
 intro ws;induction ws with
 |nil=>exact λ J J=>rfl
 |cons w ws ih=>
  intro i hi;show cond (decide (Gu (mk t) (mk w) i j<0)) false (Kl (mk t) j (ws.map mk) (Gu (mk t) (mk w) i j+(mk w).length))=(Cv w ((t.take j).drop i)).elim false (goN ws);rw[Qn]
  rcases Qpr (w:=w) hi hj with⟨e,h⟩ |⟨m,h1,h2,e,h3,h4⟩
  .rw[e,Qw h];rfl
  .rw[e,Z5 (Int.not_lt.mpr h4),h3];exact ih m h2
theorem Qze (t p:List Nat):Txt.startswith (mk t) (mk p)=p.isPrefixOf t:=by
 unfold Txt.startswith;rw[Bool.eq_iff_iff,Qa,decide_eq_true_iff,subAt_eq,Qn,Qn,Zk,Zk,Zr,List.isPrefixOf_iff_prefix,List.prefix_iff_eq_take];constructor
 .rintro⟨_,h⟩;exact h.symm
 .intro h;refine⟨?_,h.symm⟩;have:=Zm List.length h;rw[List.length_take]at this;lia
theorem Qg4 (t p:List Nat):Txt.endswith (mk t) (mk p)=p.isSuffixOf t:=by
 unfold Txt.endswith;rw[Bool.eq_iff_iff,Qa,decide_eq_true_iff,subAt_eq,Qn,Qn,Zk,Zk,Zr,List.isSuffixOf_iff_suffix,List.suffix_iff_eq_drop];constructor
 .rintro⟨h1,h⟩
  rw[<- h,List.take_of_length_le (by rw[List.length_drop];lia)]
  congr 1
  rw[List.length_drop];lia
 .intro h;have hl:=Zm List.length h;rw[List.length_drop]at hl;refine⟨by lia,?_⟩;rw[<- h,List.take_of_length_le (Q2 _)]
theorem Qkl (p:List Nat):((((mk p).length:Nat):Int) !=0)=!p.isEmpty:=by
 rw[Qn]
 cases p <;> rfl
theorem Qhv (t:List Nat):([]:List Nat).isSuffixOf t=true:=List.isSuffixOf_iff_suffix.mpr List.nil_suffix
theorem Qko (ws:List (List Nat))(s:List Nat):goN ([]::ws) s=goN ws s:=by
 show(Cv [] s).elim false (goN ws)=_
 cases s <;> rfl
theorem Qpu:∀(ws:List (List Nat)) (s:List Nat),goN (ws++[[]]) s=goN ws s:=by
 intro ws;induction ws with
 |nil=>exact λ s=>Qko [] s
 |cons w ws ih=>
  intro s;show(Cv w s).elim false _=(Cv w s).elim false _;cases Cv w s with
  |none=>rfl
  |some r=>exact ih r
theorem Qg5 {t q:List Nat}{ws:List (List Nat)}{i:Nat}(hi:i<=t.length):Qqt (mk t) i ((ws++[q]).map mk)=(q.isSuffixOf t&&(decide (i+q.length<=t.length)&&goN ws ((t.take (t.length-q.length)).drop i))):=by
 unfold Qqt;have e1:((ws++[q]).map mk).getLastD ""=mk q:=by simp
 have e2:((ws++[q]).map mk).dropLast=ws.map mk:=by simp
 rw[e1,e2,Qkl,Qg4,Qn,Qn];cases q with
 |nil=>
  rw[Qhv,Bool.true_and];show cond (decide (((t.length:Nat):Int)<i)) false (Kl (mk t) (t.length:Nat) _ i)=(decide (i+0<=t.length)&&goN ws ((t.take t.length).drop i));rw[Z5 (by lia),Qw (by exact hi),Bool.true_and,Qpy (Q2 _) _ i hi,Qpu];rfl
 |cons a q=>
  show cond ((a::q).isSuffixOf t) _ false=_;cases h:(a::q).isSuffixOf t with
  |false=>rfl
  |true=>
   have hs:=(List.isSuffixOf_iff_suffix.mp h).length_le;rw[Bool.true_and,Zi];have ej:((t.length:Nat):Int)-((a::q).length:Nat)=((t.length-(a::q).length:Nat):Int):=by lia
   rw[ej];unfold Qyv;by_cases hd:i+(a::q).length<=t.length
   .rw[Z5 (by lia),Qw hd,Bool.true_and,Zo,Qpy (Nat.sub_le _ _) _ i (by lia)]
   .rw[Qw (by lia),Z5 hd];rfl
theorem Qaw {t p q:List Nat}{ws:List (List Nat)}:Qtb (mk t) ((p::(ws++[q])).map mk)=Qak p ws q t:=by
 unfold Qtb Qak;have e1:((p::(ws++[q])).map mk).headD ""=mk p:=rfl;have e2:((p::(ws++[q])).map mk).tail=(ws++[q]).map mk:=rfl;rw[e1,e2,Qkl,Qze,Qn];cases p with
 |nil=>
  have:=Qg5 (t:=t) (q:=q) (ws:=[]::ws) (i:=0) (Zy _);rw[Qko]at this;have e:([]:List Nat).isPrefixOf t=true:=rfl;rw[e,Bool.true_and];exact this
 |cons a p=>
  show cond ((a::p).isPrefixOf t) _ false=_;cases h:(a::p).isPrefixOf t with
  |false=>rfl
  |true=>
   rw[Bool.true_and,Zi];exact Qg5 (List.isPrefixOf_iff_prefix.mp h).length_le
theorem Zje {t p q:List Nat}{ws:List (List Nat)}(hp:46∉p)(hq:46∉q)(hw:∀w∈ws,46∉w):ell (mk (p++Xr (ws++[q]))) (mk t)=Qak p ws q t:=by
 obtain⟨h1,h2⟩:=Qj1 (ps:=ws++[q]) hp (λ x hx=>(List.mem_append.mp hx).elim (hw x) λ hx=>Q3.mp hx▸hq) (by simp);unfold ell;rw[h1,h2];exact Qaw
end
def Ht (vs:List V)(k:V->Prop):Prop:=
 ∃(l:List Nat) (d m:Nat),vs=[.str (mk l),.int (m:Nat),.str (mk [d])]/\b1 d=true/\(∀c∈l,small c)/\l.length<=100/\∀y,Uw d l y->k (.str (mk y))
def Qj2 (vs:List V)(k:V->Prop):Prop:=
 ∃(v:V) (cs:List Nat),vs=[v]/\(v=.str (mk cs)\/v=.list (cs.map λ c=>.str ⟨#[c]⟩))/\(∀c∈cs,b1 c=true\/Wj c=true)/\cs.length<=1000/\k (.str (mk (U3 cs)))
section
open Builtin Builtin.Str
noncomputable def Zj3 (o:Option (Option Value)):Bool:=o.elim false (·.isNone)
theorem Qdi {o:Option (Option Value)}(h:Zj3 o=true):o=some none:=by
 cases o with
 |none=>cases h
 |some o=>
  cases o with
  |none=>rfl
  |some v=>cases h
theorem Zby (P:Params):(b1s.all λ p=>Zj3 (nsIn (KL P) mainGlobals p.1))=true:=by kernel_rfl
theorem Zj9 (P:Params):nsIn (KL P) mainGlobals "isinstance"=some none:=by kernel_rfl
theorem Zbv (P:Params):∃u,nsIn (KL P) mainGlobals "ELLIPSIS_MARKER"=some (some (.str "..." u)):=⟨267,by kernel_rfl⟩
theorem Xe {W:Qj}{P:Params}(hK:W.K=KL P)(room:Nat):R9 W F0 room where
 gl:=λ x t h=>by
  simp only[F0]at h;by_cases e:x="ELLIPSIS_MARKER"
  .subst e;simp at h;subst h;rw[hK];exact Zbv P
  .rw[Qz,show(x==("ELLIPSIS_MARKER":Str))=false by simpa using e]at h;cases h
 bi:=λ x b h=>by
  rw[hK];exact Qdi (Qf.mp (Zby P) _ (Yn h))
 isi:=by rw[hK];exact Zj9 P
 hk:=λ J e=>nomatch e
 sp:=λ f p h=>by cases h
theorem Zjg (P:Params):(KL P).lookup 79=some ⟨.type "function",none,.func (fnOf "Int2AP" "Int2AP" (fA (stN 10)) (fB (stN 10)) (fS (stN 10)) .none .none .none (.str "cpy313.imaplib" 281) none (.ref 78) .none),#[]⟩:=by kernel_rfl
theorem Zjp (P:Params):(KL P).lookup 72=some ⟨.type "function",none,.func (fnOf "_ellipsis_match" "_ellipsis_match" (fA (stN 8)) (fB (stN 8)) (fS (stN 8)) .none .none .none (.str "cpy313.doctest" 265) none (.ref 71) .none),#[]⟩:=by kernel_rfl
theorem Qlv (P:Params):(KL P).lookup 65=some ⟨.type "function",none,.func (fnOf "parse257" "parse257" (fA (stN 5)) (fB (stN 5)) (fS (stN 5)) .none .none .none (.str "cpy313.ftplib" 187) none (.ref 64) .none),#[]⟩:=by kernel_rfl
theorem Zjs (P:Params):(KL P).lookup 97=some ⟨.type "function",none,.func (fnOf "in_table_b1" "in_table_b1" (fA (stN 13)) (fB (stN 13)) (fS (stN 13)) .none .none .none (.str "cpy313.stringprep" 293) none (.ref 96) .none),#[]⟩:=by kernel_rfl
theorem Zjc (P:Params):(KL P).lookup 143=some ⟨.type "function",none,.func (fnOf "map_table_b3" "map_table_b3" (fA (stN 15)) (fB (stN 15)) (fS (stN 15)) .none .none .none (.str "cpy313.stringprep" 293) none (.ref 142) .none),#[]⟩:=by kernel_rfl
theorem Zjl (P:Params):(KL P).lookup 150=some ⟨.type "function",none,.func (fnOf "_law_drawn" "_law_drawn" (fA (stN 17)) (fB (stN 17)) (fS (stN 17)) .none .none .none (.str "law_wr0043_02" 2321) none (.ref 149) .none),#[]⟩:=by kernel_rfl
theorem Zjn (P:Params):(KL P).lookup 169=some ⟨.type "function",none,.func (fnOf "_law_typed" "_law_typed" (fA (stN 20)) (fB (stN 20)) (fS (stN 20)) .none .none .none (.str "law_wr0043_02" 2321) none (.ref 168) .none),#[]⟩:=by kernel_rfl
theorem Zjt (P:Params):(KL P).lookup 174=some ⟨.type "function",none,.func (fnOf "_law_prepared" "_law_prepared" (fA (stN 21)) (fB (stN 21)) (fS (stN 21)) .none .none .none (.str "law_wr0043_02" 2321) none (.ref 173) .none),#[]⟩:=by kernel_rfl
theorem Qlw (P:Params):(KL P).lookup 181=some ⟨.type "function",none,.func (fnOf "_law_named" "_law_named" (fA (stN 22)) (fB (stN 22)) (fS (stN 22)) .none .none .none (.str "law_wr0043_02" 2321) none (.ref 180) .none),#[]⟩:=by kernel_rfl
theorem Zjd (P:Params):(KL P).lookup 186=some ⟨.type "function",none,.func (fnOf "_law_dots" "_law_dots" (fA (stN 23)) (fB (stN 23)) (fS (stN 23)) .none .none .none (.str "law_wr0043_02" 2321) none (.ref 185) .none),#[]⟩:=by kernel_rfl
theorem Zjh (P:Params):(KL P).lookup 201=some ⟨.type "function",none,.func (fnOf "law" "law" (fA (stN 26)) (fB (stN 26)) (fS (stN 26)) .none .none .none (.str "law_wr0043_02" 2321) none (.ref 200) .none),#[]⟩:=by kernel_rfl
theorem Qqp (P:Params):(KL P).lookup 157=some ⟨.type "function",none,.func (fnOf "_law_readings" "_law_readings" (fA (stN 18)) (fB (stN 18)) (fS (stN 18)) .none .none .none (.str "law_wr0043_02" 2321) none (.ref 156) .none),#[]⟩:=by kernel_rfl
theorem Qa4 (P:Params):(KL P).lookup 162=some ⟨.type "function",none,.func (fnOf "_law_row" "_law_row" (fA (stN 19)) (fB (stN 19)) (fS (stN 19)) .none .none .none (.str "law_wr0043_02" 2321) none (.ref 161) .none),#[]⟩:=by kernel_rfl
theorem Qa5 (P:Params):(KL P).lookup 191=some ⟨.type "function",none,.func (fnOf "_law_met" "_law_met" (fA (stN 24)) (fB (stN 24)) (fS (stN 24)) .none .none .none (.str "law_wr0043_02" 2321) none (.ref 190) .none),#[]⟩:=by kernel_rfl
theorem Qpd (P:Params):(KL P).lookup 196=some ⟨.type "function",none,.func (fnOf "_law_fades" "_law_fades" (fA (stN 25)) (fB (stN 25)) (fS (stN 25)) .none .none .none (.str "law_wr0043_02" 2321) none (.ref 195) .none),#[]⟩:=by kernel_rfl
theorem Zmx (P:Params):(KL P).lookup 58=some ⟨.type "function",none,.func (fnOf "parse229" "parse229" (fA (stN 4)) (fB (stN 4)) (fS (stN 4)) .none .none .none (.str "cpy313.ftplib" 187) none (.ref 57) .none),#[]⟩:=by kernel_rfl
section
variable {W:Qj}{c:Cx}{F:Fs}{P:Params}
theorem Qjh {names:List (Str×NameKind)}(h:(names.all λ x=>x.2 !=.cell)=true)(x:Str):names.lookup x≠some .cell:=λ e=>by
 have:=Qf.mp h _ (Yn e);simp at this
theorem Qj8 {i:Nat}{bnd:List Str}{nm:Str}{f:Addr}(FO:R9 W F c.room)(O:Ok W c)(hb:c.bnd=bnd)(he:∃L cd,c.env=envOf nm (fS (stN i)) L f cd)(hcell:((fS (stN i)).names.all λ x=>x.2 !=.cell)=true):Vl W F (Z9 i) bnd c:=by
 obtain⟨L,cd,he⟩:=he;have ek:c.env.kindOf=Z9 i:=by rw[he];rfl
 refine⟨O,FO,λ x hx=>?_,ek,hb⟩;rw[ek]at hx;exact absurd hx (Qjh hcell x)
theorem Aj (hK:W.K=KL P){i:Nat}{f:Addr}{nm:Str}{doc pm cdv:Value}{ps:List Str}{room:Nat}{vs:List V}{k:V->Prop}{d:Nat}
  (hobj:(KL P).lookup f=some ⟨.type "function",none,.func (fnOf nm nm (fA (stN i)) (fB (stN i)) (fS (stN i)) .none .none doc pm none cdv .none),#[]⟩) (hcd:codeIn (KL P) cdv nm=true)
  (hsc:((fS (stN i)).isCoroutine==false&&(fS (stN i)).isGenerator==false&&(fS (stN i)).kind==.function)=true) (hloc:(ps.all λ y=>(fS (stN i)).names.lookup y==some .local)=true) (hcell:((fS (stN i)).names.all λ x=>x.2 !=.cell)=true)
  (hbind:∀(s:Shared) (ws:List Value),ws.length=ps.length->BindsTo s (fnOf nm nm (fA (stN i)) (fB (stN i)) (fS (stN i)) .none .none doc pm none cdv .none) ⟨ws,[]⟩ (ps.zip ws))
  (FO:R9 W F room) (hps:ps.length=vs.length) (hvs:∀v∈vs,deep d v=true\/∃n,v=.ext n)
  (hbody:∀c',Vl W F (Z9 i) [] c'->XB W c' (fB (stN i)) (ps.reverse.zip vs.reverse) [] λ fl J J=>∃v,fl=.ret v/\deep d v=true/\k v)
  (c:Cx) (l:Lay) (loc:Loc) (st:Q4) (s:Shared) (ws:List Value) (Q:Value->Shared->Prop) (E:Value->Shared->Prop) (O:Ok W c) (hr:c.room=room+1) (hR:R c l loc st s) (hv:Y0 l s.heap vs ws)
  (hQ:∀v w s',Keeps s s'->VR l s'.heap v w->k v->Q w s'):wpAny (model W.prog W.w) c.A (call (.ref f) ws) Q E s:=by
 simp only[Qa,Zr]at hsc;refine Qpn (ps:=ps) (vs:=vs) (bnd:=[]) (k:=k) (d:=d) (room:=room) (by rw[hK];exact hobj) (by rw[hK];exact hcd) (λ s ws h=>hbind s ws (by rw[h,hps])) hps (λ y hy=>by
  have:=Qf.mp hloc y hy
  simpa using this) hsc.1.1 hsc.1.2 hsc.2 (λ x hx e=>by
  have:=Qf.mp hcell x hx;simp[e]at this) (λ x hx=>nomatch hx) hvs (λ c' O' hr' hb' he'=>(hbody c' (Qj8 (by rw[hr'];exact FO) O' hb' he' hcell)).go) c l loc st s ws Q E O hr hR hv hQ
theorem Jk {d:Nat}{vs:List V}(h:vs.all (deep d)=true):∀v∈vs,deep d v=true\/∃n,v=.ext n:=λ v hv=>.inl (Qf.mp h v hv)
theorem Bp {ws:List Value}(h:ws.length=1):∃a,ws=[a]:=List.length_eq_one_iff.mp h
theorem Lk {ws:List Value}(h:ws.length=2):∃a b,ws=[a,b]:=by
 obtain⟨a,r,rfl⟩:=List.exists_cons_of_length_eq_add_one h;obtain⟨b,rfl⟩:=List.length_eq_one_iff.mp (Nat.succ.inj h);exact⟨a,b,rfl⟩
theorem Qui {ws:List Value}(h:ws.length=3):∃a b c,ws=[a,b,c]:=by
 obtain⟨a,r,rfl⟩:=List.exists_cons_of_length_eq_add_one h;obtain⟨b,c,rfl⟩:=Lk (Nat.succ.inj h);exact⟨a,b,c,rfl⟩
theorem Qni (hK:W.K=KL P)(room:Nat)(vs:List V)(k:V->Prop)(h:Qom vs k)(c:Cx)(l:Lay)(loc:Loc)(st:Q4)(s:Shared)(ws:List Value)(Q:Value->Shared->Prop)(E:Value->Shared->Prop)(O:Ok W c)(hr:c.room=room+1)(hR:R c l loc st s)(hv:Y0 l s.heap vs ws)
  (hQ:∀v w s',Keeps s s'->VR l s'.heap v w->k v->Q w s'):wpAny (model W.prog W.w) c.A (call (.ref 79) ws) Q E s:=by
 obtain⟨n,rfl,h⟩:=Qd3 h;refine Aj hK (ps:=["num"]) (vs:=[.int n]) (k:=k) (d:=2) (Zjg P) (by kernel_rfl) (by kernel_rfl) (by kernel_rfl) (by kernel_rfl) (λ s ws h=>?_) (Xe hK room) rfl (Jk rfl) (λ c' H=>Qar H h.1 λ loc=>⟨_,rfl,rfl,h.2⟩) c l loc st s ws Q E O hr hR hv hQ;obtain⟨a,rfl⟩:=Bp h;exact Ze (by kernel_rfl)
theorem Qns (hK:W.K=KL P)(room:Nat)(vs:List V)(k:V->Prop)(h:Qbu vs k)(c:Cx)(l:Lay)(loc:Loc)(st:Q4)(s:Shared)(ws:List Value)(Q:Value->Shared->Prop)(E:Value->Shared->Prop)(O:Ok W c)(hr:c.room=room+1)(hR:R c l loc st s)(hv:Y0 l s.heap vs ws)
  (hQ:∀v w s',Keeps s s'->VR l s'.heap v w->k v->Q w s'):wpAny (model W.prog W.w) c.A (call (.ref 72) ws) Q E s:=by
 obtain⟨x,y,rfl,h⟩:=Qd2 h;refine Aj hK (ps:=["want","got"]) (vs:=[.str x,.str y]) (k:=k) (d:=2) (Zjp P) (by kernel_rfl) (by kernel_rfl) (by kernel_rfl) (by kernel_rfl) (λ s ws h=>?_) (Xe hK room) rfl (Jk rfl) (λ c' H=>Qay H h.1 h.2.1 λ loc st=>⟨_,rfl,rfl,h.2.2⟩) c l loc st s ws Q E O hr hR hv hQ;obtain⟨a,b,rfl⟩:=Lk h;exact Ze (by kernel_rfl)
theorem Qbv (hK:W.K=KL P)(room:Nat)(vs:List V)(k:V->Prop)(h:Qkz vs k)(c:Cx)(l:Lay)(loc:Loc)(st:Q4)(s:Shared)(ws:List Value)(Q:Value->Shared->Prop)(E:Value->Shared->Prop)(O:Ok W c)(hr:c.room=room+1)(hR:R c l loc st s)(hv:Y0 l s.heap vs ws)
  (hQ:∀v w s',Keeps s s'->VR l s'.heap v w->k v->Q w s'):wpAny (model W.prog W.w) c.A (call (.ref 65) ws) Q E s:=by
 obtain⟨t,rfl,h1,h2⟩:=h;refine Aj hK (ps:=["resp"]) (vs:=[.str _]) (k:=k) (d:=2) (Qlv P) (by kernel_rfl) (by kernel_rfl) (by kernel_rfl) (by kernel_rfl) (λ s ws h=>?_) (Xe hK room) rfl (Jk rfl) (λ c' H=>Qm6 H h1 λ loc=>⟨_,rfl,rfl,h2⟩) c l loc st s ws Q E O hr hR hv hQ;obtain⟨a,rfl⟩:=Bp h;exact Ze (by kernel_rfl)
theorem Qna (hK:W.K=KL P)(room:Nat)(vs:List V)(k:V->Prop)(h:Qob vs k)(c:Cx)(l:Lay)(loc:Loc)(st:Q4)(s:Shared)(ws:List Value)(Q:Value->Shared->Prop)(E:Value->Shared->Prop)(O:Ok W c)(hr:c.room=room+1)(hR:R c l loc st s)(hv:Y0 l s.heap vs ws)
  (hQ:∀v w s',Keeps s s'->VR l s'.heap v w->k v->Q w s'):wpAny (model W.prog W.w) c.A (call (.ref 97) ws) Q E s:=by
 obtain⟨x,rfl,h⟩:=Qkf h;obtain⟨d,hx,h⟩:=Yp.mp h;refine Aj hK (ps:=["code"]) (vs:=[.str x]) (k:=k) (d:=2) (Zjs P) (by kernel_rfl) (by kernel_rfl) (by kernel_rfl) (by kernel_rfl) (λ s ws h=>?_) (Xe hK room) rfl (Jk rfl) (λ c' H=>Qcr H hK hx λ loc=>⟨_,rfl,rfl,h⟩) c l loc st s ws Q E O hr hR hv hQ;obtain⟨a,rfl⟩:=Bp h;exact Ze (by kernel_rfl)
theorem Qnr (hK:W.K=KL P)(room:Nat)(vs:List V)(k:V->Prop)(h:Qou vs k)(c:Cx)(l:Lay)(loc:Loc)(st:Q4)(s:Shared)(ws:List Value)(Q:Value->Shared->Prop)(E:Value->Shared->Prop)(O:Ok W c)(hr:c.room=room+1)(hR:R c l loc st s)(hv:Y0 l s.heap vs ws)
  (hQ:∀v w s',Keeps s s'->VR l s'.heap v w->k v->Q w s'):wpAny (model W.prog W.w) c.A (call (.ref 143) ws) Q E s:=by
 obtain⟨x,rfl,h⟩:=Qkf h;obtain⟨d,hx,h1,h⟩:=Yp.mp h;refine Aj hK (ps:=["code"]) (vs:=[.str x]) (k:=k) (d:=2) (Zjc P) (by kernel_rfl) (by kernel_rfl) (by kernel_rfl) (by kernel_rfl) (λ s ws h=>?_) (Xe hK room) rfl (Jk rfl) (λ c' H=>Qcs H hK hx h1 λ loc=>⟨_,rfl,rfl,h⟩) c l loc st s ws Q E O hr hR hv hQ;obtain⟨a,rfl⟩:=Bp h;exact Ze (by kernel_rfl)
theorem Qbx (hK:W.K=KL P)(room:Nat)(vs:List V)(k:V->Prop)(h:Ht vs k)(c:Cx)(l:Lay)(loc:Loc)(st:Q4)(s:Shared)(ws:List Value)(Q:Value->Shared->Prop)(E:Value->Shared->Prop)(O:Ok W c)(hr:c.room=room+1)(hR:R c l loc st s)(hv:Y0 l s.heap vs ws)
  (hQ:∀v w s',Keeps s s'->VR l s'.heap v w->k v->Q w s'):wpAny (model W.prog W.w) c.A (call (.ref 169) ws) Q E s:=by
 obtain⟨l0,d,m,rfl,h1,h2,h3,h4⟩:=h;refine Aj hK (ps:=["text","number","hidden"]) (vs:=[.str (mk l0),.int m,.str (mk [d])]) (k:=k) (d:=2) (Zjn P) (by kernel_rfl) (by kernel_rfl) (by kernel_rfl) (by kernel_rfl) (λ s ws h=>?_) (Xe hK room) rfl (Jk rfl) (λ c' H=>Qcx H h1 h2 h3 λ y loc hy=>⟨_,rfl,rfl,h4 y hy⟩) c l loc st s ws Q E O hr hR hv hQ;obtain⟨a,b,d,rfl⟩:=Qui h;exact Ze (by kernel_rfl)
theorem Qbk {β:Type}{M:Str->β->Prop}(f:Str)(q:β)(h:List.lookup f ([]:List (Str×β))=some q):M f q:=nomatch h
theorem Xa {β:Type}{x:Str}{p:β}{r:List (Str×β)}{M:Str->β->Prop}(h0:M x p)(h:∀f q,r.lookup f=some q->M f q)(f:Str)(q:β)(e:((x,p)::r).lookup f=some q):M f q:=by
 rw[Qz]at e;cases b:f==x with
 |true=>rw[b]at e;cases e;rw[eq_of_beq b];exact h0
 |false=>rw[b]at e;exact h f q e
theorem Lc (hK:W.K=KL P)(room:Nat):R9 W F1 (room+1) where
 gl:=(Xe hK room).gl
 bi:=(Xe hK room).bi
 isi:=(Xe hK room).isi
 hk:=λ J e=>nomatch e
 sp:=Xa ⟨79,by rw[hK];kernel_rfl,by rw[hK];kernel_rfl,Qni hK room⟩ <| Xa ⟨72,by rw[hK];kernel_rfl,by rw[hK];kernel_rfl,Qns hK room⟩ <| Xa ⟨65,by rw[hK];kernel_rfl,by rw[hK];kernel_rfl,Qbv hK room⟩ <|
  Xa ⟨97,by rw[hK];kernel_rfl,by rw[hK];kernel_rfl,Qna hK room⟩ <| Xa ⟨143,by rw[hK];kernel_rfl,by rw[hK];kernel_rfl,Qnr hK room⟩ Qbk
theorem Qhb (hK:W.K=KL P)(room:Nat)(vs:List V)(k:V->Prop)(h:Qj2 vs k)(c:Cx)(l:Lay)(loc:Loc)(st:Q4)(s:Shared)(ws:List Value)(Q:Value->Shared->Prop)(E:Value->Shared->Prop)(O:Ok W c)(hr:c.room=room+2)(hR:R c l loc st s)(hv:Y0 l s.heap vs ws)
  (hQ:∀v w s',Keeps s s'->VR l s'.heap v w->k v->Q w s'):wpAny (model W.prog W.w) c.A (call (.ref 174) ws) Q E s:=by
 obtain⟨v,cs,rfl,hv0,h1,h2,h3⟩:=h;refine Aj hK (ps:=["signs"]) (vs:=[v]) (k:=k) (d:=2) (Zjt P) (by kernel_rfl) (by kernel_rfl) (by kernel_rfl) (by kernel_rfl) (λ s ws h=>?_) (Lc hK room) rfl ?_ (λ c' H=>Qsj H hv0 h1 h2 λ loc=>⟨_,rfl,rfl,h3⟩) c l loc st s ws Q E O hr hR hv hQ
 .obtain⟨a,rfl⟩:=Bp h;exact Ze (by kernel_rfl)
 .intro u hu;rw[Q3]at hu;subst hu
  left
  rcases hv0 with rfl |rfl
  .rfl
  .exact Qf.mpr λ v hv=>by obtain⟨c,_,rfl⟩:=Qv.mp hv;rfl
end
section
variable {W:Qj}{c:Cx}{F:Fs}{P:Params}
theorem Eb {i:Nat}{bnd:List Str}{nm:Str}{f:Addr}(FO:R9 W F c.room)(O:Ok W c)(hb:c.bnd=bnd)(he:∃L cd,c.env=envOfC nm (fS (stN i)) L f cd):Vl W F (Z9 i) bnd c:=by
 obtain⟨L,cd,he⟩:=he;have ek:c.env.kindOf=Z9 i:=by rw[he];rfl
 refine⟨O,FO,λ x hx=>?_,ek,hb⟩;rw[ek]at hx;rw[he];exact cellsFrom_some _ _ _ (.inl hx)
theorem Zjr (hK:W.K=KL P){i:Nat}{f:Addr}{nm:Str}{doc pm cdv:Value}{ps:List Str}{room:Nat}{vs:List V}{bnd:List Str}{k:V->Prop}{d:Nat}
  (hobj:(KL P).lookup f=some ⟨.type "function",none,.func (fnOf nm nm (fA (stN i)) (fB (stN i)) (fS (stN i)) .none .none doc pm none cdv .none),#[]⟩) (hcd:codeIn (KL P) cdv nm=true)
  (hsc:((fS (stN i)).isCoroutine==false&&(fS (stN i)).isGenerator==false&&(fS (stN i)).kind==.function)=true) (hloc:(ps.all λ y=>(fS (stN i)).names.lookup y==some .local||(fS (stN i)).names.lookup y==some .cell)=true)
  (hbind:∀(s:Shared) (ws:List Value),ws.length=ps.length->BindsTo s (fnOf nm nm (fA (stN i)) (fB (stN i)) (fS (stN i)) .none .none doc pm none cdv .none) ⟨ws,[]⟩ (ps.zip ws))
  (FO:R9 W F room) (hps:ps.length=vs.length) (hbn:(bnd.all λ x=>((ps.reverse.zip vs.reverse).lookup x).isNone)=true) (hvs:∀v∈vs,deep d v=true\/∃n,v=.ext n)
  (hbody:∀c',Vl W F (Z9 i) bnd c'->XB W c' (fB (stN i)) (ps.reverse.zip vs.reverse) [] λ fl J J=>∃v,fl=.ret v/\deep d v=true/\k v)
  (c:Cx) (l:Lay) (loc:Loc) (st:Q4) (s:Shared) (ws:List Value) (Q:Value->Shared->Prop) (E:Value->Shared->Prop) (O:Ok W c) (hr:c.room=room+1) (hR:R c l loc st s) (hv:Y0 l s.heap vs ws)
  (hQ:∀v w s',Keeps s s'->VR l s'.heap v w->k v->Q w s'):wpAny (model W.prog W.w) c.A (call (.ref f) ws) Q E s:=by
 simp only[Qa,Zr]at hsc;refine Qpc (ps:=ps) (vs:=vs) (bnd:=bnd) (k:=k) (d:=d) (room:=room) (by rw[hK];exact hobj) (by rw[hK];exact hcd) (λ s ws h=>hbind s ws (by rw[h,hps])) hps (λ n y hy=>?_) hsc.1.1 hsc.1.2 hsc.2 (λ x hx=>?_) hvs (λ c' O' hr' hb' he'=>(hbody c' (Eb (by rw[hr'];exact FO) O' hb' he')).go) c l loc st s ws Q E O hr hR hv hQ
 .have:=Qf.mp hloc y hy;simp only[Bool.or_eq_true,Zr]at this;exact this.imp id λ q=>⟨q,cellsFrom_some _ _ _ (.inl q)⟩
 .have:=Qf.mp hbn x hx
  simpa using this
theorem Qx0 (z:Bool)(hK:W.K=KL P){i:Nat}{f:Addr}{nm:Str}{doc pm cdv:Value}{ps:List Str}{room:Nat}{vs:List V}{bnd:List Str}{k:V->Prop}{d:Nat}
  (hobj:(KL P).lookup f=some ⟨.type "function",none,.func (fnOf nm nm (fA (stN i)) (fB (stN i)) (fS (stN i)) .none .none doc pm none cdv .none),#[]⟩) (hcd:codeIn (KL P) cdv nm=true)
  (hsc:((fS (stN i)).isCoroutine==false&&(fS (stN i)).isGenerator==false&&(fS (stN i)).kind==.function)=true) (hloc:(ps.all λ y=>(fS (stN i)).names.lookup y==some .local||(fS (stN i)).names.lookup y==some .cell)=true)
  (hbind:∀(s:Shared) (ws:List Value),ws.length=ps.length->BindsTo s (fnOf nm nm (fA (stN i)) (fB (stN i)) (fS (stN i)) .none .none doc pm none cdv .none) ⟨ws,[]⟩ (ps.zip ws))
  (FO:R9 W F room) (hps:ps.length=vs.length) (hbn:(bnd.all λ x=>((ps.reverse.zip vs.reverse).lookup x).isNone)=true) (hvs:∀v∈vs,deep d v=true\/∃n,v=.ext n)
  (hbody:∀c',Vl W F (Z9 i) bnd c'->c'.dr=z->XB W c' (fB (stN i)) (ps.reverse.zip vs.reverse) [] λ fl J st=>∃v,fl=.ret v/\deep d (drf st v)=true/\k (drf st v))
  (c:Cx) (l:Lay) (loc:Loc) (st:Q4) (s:Shared) (ws:List Value) (Q:Value->Shared->Prop) (E:Value->Shared->Prop) (O:Ok W c) (hr:c.room=room+1) (hR:R c l loc st s) (hv:Y0 l s.heap vs ws)
  (hQ:∀v w s',M7 z s s'->VR l s'.heap v w->k v->Q w s'):wpAny (model W.prog W.w) c.A (call (.ref f) ws) Q E s:=by
 simp only[Qa,Zr]at hsc;refine Cy z (ps:=ps) (vs:=vs) (bnd:=bnd) (k:=k) (d:=d) (room:=room) (by rw[hK];exact hobj) (by rw[hK];exact hcd) (λ s ws h=>hbind s ws (by rw[h,hps])) hps (λ n y hy=>?_) hsc.1.1 hsc.1.2 hsc.2 (λ x hx=>?_) hvs (λ c' O' hr' hb' hz' he'=>(hbody c' (Eb (by rw[hr'];exact FO) O' hb' he') hz').go) c l loc st s ws Q E O hr hR hv hQ
 .have:=Qf.mp hloc y hy;simp only[Bool.or_eq_true,Zr]at this;exact this.imp id λ q=>⟨q,cellsFrom_some _ _ _ (.inl q)⟩
 .have:=Qf.mp hbn x hx
  simpa using this
end
noncomputable def dL (x l r:Str)(k:Int)(mo:Loc):Loc:=("k",.int k)::("text",.str x)::("right",.str r)::("left",.str l)::mo
theorem Zp1 (x:Str)(k:Int)(K:KF):rd F1 [] (Z9 23) [] (sN 23 0) [("k",.int k),("text",.str x)] [] K=
  ((Txt.charAt x 0).elim False λ c=>(⟨#[c]⟩:Str).length+Zz.length<=sizeLine/\(Txt.charAt x (-1)).elim False λ d=>Zz.length+(⟨#[d]⟩:Str).length<=sizeLine/\
   K .next (dL x (⟨#[c]⟩++Zz) (Zz++⟨#[d]⟩) k []) []):=by kernel_rfl
theorem Zp0 (x l r:Str)(k:Int)(K:KF):rd F1 [] (Z9 23) [] (sN 23 1) (dL x l r k []) [] K=
  (x.length<=sizeLine/\(Txt.slice x none (some k)).length+Zz.length<=sizeLine/\x.length<=sizeLine/\(Txt.slice x none (some k)++Zz).length+(Txt.slice x (some k) none).length<=sizeLine/\
   x.length<=sizeLine/\(Txt.slice x none (some k)).length+("......":Str).length<=sizeLine/\x.length<=sizeLine/\(Txt.slice x none (some k)++"......").length+(Txt.slice x (some k) none).length<=sizeLine/\
   x.length<=sizeLine/\Zz.length+(Txt.slice x none (some k)).length<=sizeLine/\(Zz++Txt.slice x none (some k)).length+Zz.length<=sizeLine/\x.length<=sizeLine/\
   (Zz++Txt.slice x none (some k)++Zz).length+(Txt.slice x (some k) none).length<=sizeLine/\(Zz++Txt.slice x none (some k)++Zz++Txt.slice x (some k) none).length+Zz.length<=sizeLine/\
   (Txt.charAt x 0).elim False λ c=>MulOk l (Txt.count x ⟨#[c]⟩)/\(Txt.charAt x (-1)).elim False λ d=>MulOk r (Txt.count x ⟨#[d]⟩)/\
    K .next (dL x l r k [("taken",.list [.str x,.str (Txt.slice x none (some k)++Zz++Txt.slice x (some k) none),.str (Txt.slice x none (some k)++"......"++Txt.slice x (some k) none),.str (Zz++Txt.slice x none (some k)++Zz++Txt.slice x (some k) none++Zz),
     .str (Txt.mul l (Txt.count x ⟨#[c]⟩)),.str (Txt.mul r (Txt.count x ⟨#[d]⟩))])]) []):=by kernel_rfl
theorem Zmo (x l r:Str)(t:V)(k:Int)(K:KF):rd F1 [] (Z9 23) [] (sN 23 2) (dL x l r k [("taken",t)]) [] K=
  (x.length<=sizeLine/\x.length<=sizeLine/\(Txt.slice x none (some (k+1))).length+Zz.length<=sizeLine/\x.length<=sizeLine/\(Txt.slice x none (some (k+1))++Zz).length+(Txt.slice x (some k) none).length<=sizeLine/\
   x.length<=sizeLine/\Zz.length+(Txt.slice x none (some (k+1))).length<=sizeLine/\(Zz++Txt.slice x none (some (k+1))).length+Zz.length<=sizeLine/\x.length<=sizeLine/\
   (Zz++Txt.slice x none (some (k+1))++Zz).length+(Txt.slice x (some k) none).length<=sizeLine/\(Zz++Txt.slice x none (some (k+1))++Zz++Txt.slice x (some k) none).length+Zz.length<=sizeLine/\
   (Txt.charAt x 0).elim False λ c=>MulOk l (Txt.count x ⟨#[c]⟩+1)/\(Txt.charAt x (-1)).elim False λ d=>MulOk r (Txt.count x ⟨#[d]⟩+1)/\
    x.length<=sizeLine/\(Txt.slice x (some 1) none).length+Zz.length<=sizeLine/\x.length<=sizeLine/\Zz.length+(Txt.slice x none (some (-1))).length<=sizeLine/\K .next (dL x l r k [("taken",t),("refused",.list [.str (Txt.slice x (some 1) none),.str (Txt.slice x none (some (k+1))++Zz++Txt.slice x (some k) none),
     .str (Zz++Txt.slice x none (some (k+1))++Zz++Txt.slice x (some k) none++Zz),.str (Txt.mul l (Txt.count x ⟨#[c]⟩+1)),.str (Txt.mul r (Txt.count x ⟨#[d]⟩+1)),.str (Txt.slice x (some 1) none++Zz),.str (Zz++Txt.slice x none (some (-1)))])]) []):=by kernel_rfl
noncomputable def doW (x:Str):List Str->(List V->Prop)->List V->Prop
 |[],k,acc=>k acc
 |w::ws,k,acc=>w.length<=1000/\x.length<=1000/\doW x ws k (acc++[.bool (ell w x)])
theorem Qab {x:Str}(hx:x.length<=1000):∀(ws:List Str) {k:List V->Prop} {acc:List V},(∀w∈ws,w.length<=1000)->k (acc++ws.map λ w=>V.bool (ell w x))->doW x ws k acc:=by
 intro ws;induction ws with
 |nil=>intro k acc _ h;rw[List.map_nil,Qs]at h;exact h
 |cons w ws ih=>exact λ hw h=>⟨hw w (.head _),hx,ih (λ u hu=>hw u (.tail _ hu)) (by rw[Qr];exact h)⟩
theorem Zme (x l r a b c d e f a' b' c' d' e' f' g':Str)(k:Int)(K:KF):rd F1 [] (Z9 23) [] (sN 23 3) (dL x l r k [("taken",.list [.str a,.str b,.str c,.str d,.str e,.str f]),("refused",.list [.str a',.str b',.str c',.str d',.str e',.str f',.str g'])]) [] K=
  (6+7<=sizeLine/\Wr (doW x [a,b,c,d,e,f,a',b',c',d',e',f',g'] (λ ts=>
   K .next (dL x l r k [("taken",.list [.str a,.str b,.str c,.str d,.str e,.str f]),("refused",.list [.str a',.str b',.str c',.str d',.str e',.str f',.str g']),("told",.list ts)]) []) [])):=by kernel_rfl
theorem Zmi (x l r:Str)(t t':V)(a b c d e f a' b' c' d' e' f' g':Bool)(k:Int)(K:KF):rd F1 [] (Z9 23) [] (sN 23 4) (dL x l r k [("taken",t),("refused",t'),("told",.list [.bool a,.bool b,.bool c,.bool d,.bool e,.bool f,.bool a',.bool b',.bool c',.bool d',.bool e',.bool f',.bool g'])]) [] K=
  Wr (K (.ret (.bool ([a==true,b==true,c==true,d==true,e==true,f==true,a'==false,b'==false,c'==false,d'==false,e'==false,f'==false,g'==false].all id)))
   (dL x l r k [("taken",t),("refused",t'),("told",.list [.bool a,.bool b,.bool c,.bool d,.bool e,.bool f,.bool a',.bool b',.bool c',.bool d',.bool e',.bool f',.bool g'])]) []):=by kernel_rfl
theorem Qtd:fB (stN 23)=[sN 23 0,sN 23 1,sN 23 2,sN 23 3,sN 23 4]:=by kernel_rfl
theorem Qy8:∀(L:List (List Nat)) (acc:Array Nat),(L.map List.toArray).foldl (·++·) acc=acc++L.flatten.toArray:=by
 intro L;induction L with
 |nil=>intro acc;simp
 |cons l L ih=>
  intro acc;rw[Qu,List.foldl_cons,ih,List.flatten_cons];simp
theorem Qd9 (l:List Nat)(n:Nat)(h:1<=n)(hl:l≠[]):Txt.mul (mk l) (n:Int)=mk ((List.replicate n l).flatten):=by
 unfold Txt.mul;rw[if_neg (by lia)];by_cases q:n=1
 .subst q;rw[if_pos (by rfl)];simp
 .rw[if_neg]
  .apply Str.ext';have:=Qy8 (List.replicate n l) #[];rw[List.map_replicate]at this;show(List.replicate (n:Int).toNat l.toArray).foldl (·++·) #[]=_;rw[Int.toNat_natCast,this];simp[mk]
  .rw[Qn,Bool.or_eq_true,Zr,Zr]
   rintro(e |e)
   .lia
   .exact hl (Y8.mp e)
noncomputable def Ut:List Nat:=[102,105,102,108,102,105,102]
set_option synthInstance.maxSize 100000 in
set_option synthInstance.maxHeartbeats 0 in
theorem Zx8:∀k:Fin 7,(mk Ut).length<=sizeLine/\(Txt.slice (mk Ut) none (some ((k.val:Nat):Int))).length+Zz.length<=sizeLine/\(mk Ut).length<=sizeLine/\(Txt.slice (mk Ut) none (some ((k.val:Nat):Int))++Zz).length+(Txt.slice (mk Ut) (some ((k.val:Nat):Int)) none).length<=sizeLine/\(mk Ut).length<=sizeLine/\(Txt.slice (mk Ut) none (some ((k.val:Nat):Int))).length+("......":Str).length<=sizeLine/\(mk Ut).length<=sizeLine/\(Txt.slice (mk Ut) none (some ((k.val:Nat):Int))++"......").length+(Txt.slice (mk Ut) (some ((k.val:Nat):Int)) none).length<=sizeLine/\(mk Ut).length<=sizeLine/\Zz.length+(Txt.slice (mk Ut) none (some ((k.val:Nat):Int))).length<=sizeLine/\(Zz++Txt.slice (mk Ut) none (some ((k.val:Nat):Int))).length+Zz.length<=sizeLine/\(mk Ut).length<=sizeLine/\(Zz++Txt.slice (mk Ut) none (some ((k.val:Nat):Int))++Zz).length+(Txt.slice (mk Ut) (some ((k.val:Nat):Int)) none).length<=sizeLine/\(Zz++Txt.slice (mk Ut) none (some ((k.val:Nat):Int))++Zz++Txt.slice (mk Ut) (some ((k.val:Nat):Int)) none).length+Zz.length<=sizeLine/\MulOk (mk [102,46,46,46]) (Txt.count (mk Ut) ⟨#[102]⟩)/\MulOk (mk [46,46,46,102]) (Txt.count (mk Ut) ⟨#[102]⟩)/\True:=by unfold MulOk;decide +kernel
set_option synthInstance.maxSize 100000 in
set_option synthInstance.maxHeartbeats 0 in
theorem Zx7:∀k:Fin 7,(mk Ut).length<=sizeLine/\(mk Ut).length<=sizeLine/\(Txt.slice (mk Ut) none (some (((k.val:Nat):Int)+1))).length+Zz.length<=sizeLine/\(mk Ut).length<=sizeLine/\(Txt.slice (mk Ut) none (some (((k.val:Nat):Int)+1))++Zz).length+(Txt.slice (mk Ut) (some ((k.val:Nat):Int)) none).length<=sizeLine/\(mk Ut).length<=sizeLine/\Zz.length+(Txt.slice (mk Ut) none (some (((k.val:Nat):Int)+1))).length<=sizeLine/\(Zz++Txt.slice (mk Ut) none (some (((k.val:Nat):Int)+1))).length+Zz.length<=sizeLine/\(mk Ut).length<=sizeLine/\(Zz++Txt.slice (mk Ut) none (some (((k.val:Nat):Int)+1))++Zz).length+(Txt.slice (mk Ut) (some ((k.val:Nat):Int)) none).length<=sizeLine/\(Zz++Txt.slice (mk Ut) none (some (((k.val:Nat):Int)+1))++Zz++Txt.slice (mk Ut) (some ((k.val:Nat):Int)) none).length+Zz.length<=sizeLine/\MulOk (mk [102,46,46,46]) (Txt.count (mk Ut) ⟨#[102]⟩+1)/\MulOk (mk [46,46,46,102]) (Txt.count (mk Ut) ⟨#[102]⟩+1)/\(mk Ut).length<=sizeLine/\(Txt.slice (mk Ut) (some 1) none).length+Zz.length<=sizeLine/\(mk Ut).length<=sizeLine/\Zz.length+(Txt.slice (mk Ut) none (some (-1))).length<=sizeLine/\True:=by unfold MulOk;decide +kernel
noncomputable def Qtt (k:Fin 7):List Str:=[(mk Ut),(Txt.slice (mk Ut) none (some ((k.val:Nat):Int))++Zz++Txt.slice (mk Ut) (some ((k.val:Nat):Int)) none),(Txt.slice (mk Ut) none (some ((k.val:Nat):Int))++"......"++Txt.slice (mk Ut) (some ((k.val:Nat):Int)) none),(Zz++Txt.slice (mk Ut) none (some ((k.val:Nat):Int))++Zz++Txt.slice (mk Ut) (some ((k.val:Nat):Int)) none++Zz),(Txt.mul (mk [102,46,46,46]) (Txt.count (mk Ut) ⟨#[102]⟩)),(Txt.mul (mk [46,46,46,102]) (Txt.count (mk Ut) ⟨#[102]⟩)),(Txt.slice (mk Ut) (some 1) none),(Txt.slice (mk Ut) none (some (((k.val:Nat):Int)+1))++Zz++Txt.slice (mk Ut) (some ((k.val:Nat):Int)) none),(Zz++Txt.slice (mk Ut) none (some (((k.val:Nat):Int)+1))++Zz++Txt.slice (mk Ut) (some ((k.val:Nat):Int)) none++Zz),(Txt.mul (mk [102,46,46,46]) (Txt.count (mk Ut) ⟨#[102]⟩+1)),(Txt.mul (mk [46,46,46,102]) (Txt.count (mk Ut) ⟨#[102]⟩+1)),(Txt.slice (mk Ut) (some 1) none++Zz),(Zz++Txt.slice (mk Ut) none (some (-1)))]
theorem Zx6:∀k:Fin 7,(Qtt k).all (λ w=>decide (w.length<=1000))=true/\(Qtt k).map (λ w=>ell w (mk Ut))=[true,true,true,true,true,true,false,false,false,false,false,false,false]:=by decide +kernel
theorem Zma:Txt.charAt (mk Ut) 0=some 102/\Txt.charAt (mk Ut) (-1)=some 102/\(⟨#[102]⟩:Str)++Zz=mk [102,46,46,46]/\Zz++(⟨#[102]⟩:Str)=mk [46,46,46,102]:=by decide +kernel
section
variable {W:Qj}{c:Cx}
theorem Qgx (H:Vl W F1 (Z9 23) [] c){k:Nat}(hk:k<7){K:KF}(hK:∀loc,K (.ret (.bool true)) loc []):
  XB W c (fB (stN 23)) [("k",.int (k:Nat)),("text",.str (mk Ut))] [] K:=by
 obtain⟨c0,c1,l0,r0⟩:=Zma;rw[Qtd];refine Qk (owns:=[]) H ?_;rw[Zp1,c0,c1];refine⟨by show 1+3<=sizeLine;decide,by show 3+1<=sizeLine;decide,?_⟩;rw[l0,r0];show XB W c _ _ _ _;refine Qk (owns:=[]) H ?_;have f:=Zx8 ⟨k,hk⟩;rw[Zp0,c0,c1];refine⟨f.1,f.2.1,f.2.2.1,f.2.2.2.1,f.2.2.2.2.1,f.2.2.2.2.2.1,f.2.2.2.2.2.2.1,f.2.2.2.2.2.2.2.1,f.2.2.2.2.2.2.2.2.1,f.2.2.2.2.2.2.2.2.2.1,f.2.2.2.2.2.2.2.2.2.2.1,f.2.2.2.2.2.2.2.2.2.2.2.1,f.2.2.2.2.2.2.2.2.2.2.2.2.1,f.2.2.2.2.2.2.2.2.2.2.2.2.2.1,f.2.2.2.2.2.2.2.2.2.2.2.2.2.2.1,f.2.2.2.2.2.2.2.2.2.2.2.2.2.2.2.1,?_⟩;refine Qk (owns:=[]) H ?_;have f:=Zx7 ⟨k,hk⟩;rw[Zmo,c0,c1];refine⟨f.1,f.2.1,f.2.2.1,f.2.2.2.1,f.2.2.2.2.1,f.2.2.2.2.2.1,f.2.2.2.2.2.2.1,f.2.2.2.2.2.2.2.1,f.2.2.2.2.2.2.2.2.1,f.2.2.2.2.2.2.2.2.2.1,f.2.2.2.2.2.2.2.2.2.2.1,f.2.2.2.2.2.2.2.2.2.2.2.1,f.2.2.2.2.2.2.2.2.2.2.2.2.1,f.2.2.2.2.2.2.2.2.2.2.2.2.2.1,f.2.2.2.2.2.2.2.2.2.2.2.2.2.2.1,f.2.2.2.2.2.2.2.2.2.2.2.2.2.2.2.1,f.2.2.2.2.2.2.2.2.2.2.2.2.2.2.2.2.1,?_⟩;refine Qk (owns:=[]) H ?_;rw[Zme];obtain⟨f1,f2⟩:=Zx6 ⟨k,hk⟩;refine⟨by decide,⟨Qab (x:=mk Ut) (show 7<=1000 by decide) (Qtt ⟨k,hk⟩) (λ w hw=>Qc (Qf.mp f1 w hw)) ?_⟩⟩;have e:(Qtt ⟨k,hk⟩).map (λ w=>V.bool (ell w (mk Ut)))=([true,true,true,true,true,true,false,false,false,false,false,false,false].map V.bool):=by rw[<- f2,Z3];rfl
 rw[Y7,e];show XB W c [sN 23 4] (dL _ _ _ _ [_,_,("told",.list [.bool true,.bool true,.bool true,.bool true,.bool true,.bool true,.bool false,.bool false,.bool false,.bool false,.bool false,.bool false,.bool false])]) _ _;refine Qk (owns:=[]) H ?_;rw[Zmi];exact⟨hK _⟩
end
def XE (W:Qj)(c:Cx)(t:Sem Flow)(loc:Loc)(st:Q4)(K:KF)(KE:Addr->Str->Prop):Prop:=
 ∀(l:Lay) (s:Shared) (Q:Flow->Shared->Prop) (E:Value->Shared->Prop),RS c l loc st s->
  (∀fl fw loc' st' l' s',Z6 s s'->s.toks<=s'.toks->OW c (λ J=>False) l st s l' st' s'->RS c l' loc' st' s'->FlR l' s'.heap fl fw->K fl loc' st'->Q fw s')->
  (∀C e x u loc' st' l' s1 h',Z6 s s1->s.toks<=s1.toks->OW c (λ J=>False) l st s l' st' s1->RS c l' loc' st' s1->Heap.MadeExcOf s1.heap h' e (.ref C) [.str x u]->KE C x->E (.ref e) {s1 with heap:=h'})->
  wpAny (model W.prog W.w) c.A t Q E s
section
variable {W:Qj}{c:Cx}{loc:Loc}{st:Q4}{K:KF}{KE:Addr->Str->Prop}
theorem Qe1 {t:Sem Flow}(h:XS W c t loc st K):XE W c t loc st K KE:=λ l s Q E hR hQ J=>h l s Q E hR hQ
theorem Qfh {a:Stmt}{r:List Stmt}(h:XE W c (exec a c.env) loc st (Xk (λ loc' st'=>XE W c (execs r c.env) loc' st' K KE) K) KE):XE W c (execs (a::r) c.env) loc st K KE:=λ l s Q E hR hQ hE=>by
 rw[execs_cons];refine Q0 (h l s _ E hR (λ fl fw loc' st' l' s' sm tk ow hR' hf h'=>?_) hE);cases fl with
 |next=>cases hf;exact h' l' s' Q E hR' (λ fl fw loc'' st'' l'' s'' sm2 tk2 ow2 hR2 hf2 h2=>hQ fl fw loc'' st'' l'' s'' (sm.trans sm2) (Q1 tk tk2) (ow.trans ow2) hR2 hf2 h2) λ C e x u loc'' st'' l'' s1 h1 sm2 tk2 ow2 hR2 hm hk=>hE C e x u loc'' st'' l'' s1 h1 (sm.trans sm2) (Q1 tk tk2) (ow.trans ow2) hR2 hm hk
 |brk=>cases hf;exact Q5 (hQ _ _ _ _ _ _ sm tk ow hR' .brk h')
 |cont=>cases hf;exact Q5 (hQ _ _ _ _ _ _ sm tk ow hR' .cont h')
 |ret v=>obtain⟨_,rfl,v⟩:=hf;exact Q5 (hQ _ _ _ _ _ _ sm tk ow hR' (.ret v) h')
theorem Qe2 {t:Expr}{a b:List Stmt}{pos:Pos}(h:Ps W c t loc st λ q=>cond q (XE W c (execs a c.env) loc st K KE) (XE W c (execs b c.env) loc st K KE)):XE W c (exec (.If t a b pos) c.env) loc st K KE:=λ l s Q E hR hQ hE=>by
 refine wpAny_If (h l s _ E hR.r λ q s1 k1 t1 h1=>?_);have go:∀{t:Sem Flow},XE W c t loc st K KE->wpAny (model W.prog W.w) c.A t Q E s1:=λ h=>h l s1 Q E (hR.keeps k1 t1) (λ fl fw loc' st' l' s' sm tk ow hR' hf h'=>
  hQ fl fw loc' st' l' s' ((Z6.ofK k1).trans sm) (Q1 t1 tk) ((OW.keeps k1).trans ow) hR' hf h')
  λ C e x u loc'' st'' l'' s1' h1 sm2 tk2 ow2 hR2 hm hk=>hE C e x u loc'' st'' l'' s1' h1 ((Z6.ofK k1).trans sm2) (Q1 t1 tk2) ((OW.keeps k1).trans ow2) hR2 hm hk
 exact Jo h1 go go
theorem Quj (O:Ok W c){name:Str}{scope:Scope}{L f:Addr}{cd:Value}(he:c.env=envOf name scope L f cd){x nm:Str}{C:Addr}{y:Str}{np ap cpos pos:Pos}
  (hc:nsIn W.K mainGlobals x=some (some (.ref C))) (hq:excIn W.K C [.type "Exception",.type "BaseException",.type "object"] "Exception.__new__"=true)
  (hk:c.env.kindOf x=some .globalImplicit) (hd:(x==("__debug__":Str))=false) (hnd:(nm==("__debug__":Str))=false) (hcd:(nm==("__classdict__":Str))=false) (hl:loc.lookup nm=some (.str y)) (h:KE C y):
  XE W c (execs [.Raise (some (.Call (.Name x np) [.Name nm ap] [] cpos)) none pos] c.env) loc st K KE:=λ l s Q E hR hQ hE=>by
 rw[execs_cons];refine Q0 ?_;obtain⟨m,FrX⟩:=hR.r.fr;obtain⟨g0,_,Fr0,_,K0,T0⟩:=O.ground FrX;have hs:scope.kind=.function:=by have:=O.ek;rw[he]at this;exact this
 have key:wpAny (model W.prog W.w) c.A (spliced (backTo cpos (starEach [.Name nm ap] c.env))) (λ vs s₂=>vs.length<=sizeLine/\(∀b o,g0.get? b=some o->s₂.heap.get? b=some o)/\
   ∀h' e,Heap.MadeExcOf s₂.heap h' e (.ref C) vs->E (.ref e) {s₂ with heap:=h'}) E s:=by
  rw[Y5 rfl];refine spliced_cons (wpAny_Name (J4 O hR.r hl hcd λ w hw=>spliced_nil ⟨by show 1<=sizeLine;decide,Fr0.keep,λ h' e hm=>?_⟩) hnd);obtain⟨u,rfl⟩:=hw;exact hE C e y u loc st l s h' (Z6.refl s) (Q2 _) OW.refl hR hm h
 have eL:c.L=L:=by rw[<- hR.lL,he];rfl
 rw[he]at key |-;rw[he]at hk;exact Raise_own (h₀:=g0) (m:=m) (eL▸Fr0) T0.g (own_of_in K0 (topRead_of T0) hc hq) PySem.F.excBase_Exception O.handled key rfl rfl hs hk hd
end
end
section
open Builtin Builtin.Str Builtin.BaseException
section
variable {prog:Program}{w:World}{A:Around}{E:Value->Shared->Prop}{s:Shared}{K:Frag}{e t0 C:Addr}{oe:Obj}
structure Tj (K:Frag)(h:Heap)(e:Addr)(oe:Obj)(C t0:Addr)(m:Str)(tk:Tok):Prop where
 inK:K.In h
 at_:h.get? e=some oe
 cls:oe.cls=.ref C
 data:∃vs,oe.data=.fields vs/\vs[0]?=some (.ref t0)
 tup:h.TupAt t0 [.str m tk]
theorem Tj.ty {M:Model}{h:Heap}{m:Str}{tk:Tok}(x:Tj K h e oe C t0 m tk):Looks M h (typeOf (.ref e)) (.ref C):=x.cls▸(Looks.ld x.at_).andThen .now
theorem Qq0 {name:Str}{id:String}{Q:Option Value->Shared->Prop}(X:K.In s.heap)(T:Looks (model prog w) s.heap (typeOf (.ref e)) (.ref C))(hs:findIn K (.ref C) name=some (some (.builtin id)))
  (hb:∀self,bindSpecial (.builtin id) self=pure (.builtin id,[self])) (h:wpAny (model prog w) A (call (.builtin id) [.ref e]) (λ v=>Q (some v)) E s):wpAny (model prog w) A (callSpecial? (.ref e) name []) Q E s:=by
 refine Q0 (Q0 (T.here ((looks_findIn X hs).here (Z1 (Q0 ((Looks.of_pure (hb _)).here (Q0 ?_)))))));exact wpAny_mono h (λ J J q=>Q5 q) λ J J q=>q
theorem Qm8 {M:Model}{m:Str}{tk:Tok}{Q:Value×List Value->Shared->Prop}(x:Tj K s.heap e oe C t0 m tk)(hq:Q (.ref t0,[.str m tk]) s):wpAny M A (Builtin.BaseException.bexcArgs (.ref e)) Q E s:=by
 obtain⟨vs,hd,h0⟩:=x.data;obtain⟨ot,k,hto,_,htd⟩:=x.tup;unfold Builtin.BaseException.bexcArgs;exact Q0 (wpAny_field x.at_ hd h0 (Q0 (wpAny_seqItems hto htd (Q5 hq))))
theorem A7 {m:Str}{tk:Tok}{Q:Fin->Shared->Prop}(x:Tj K s.heap e oe C t0 m tk)(hq:Q (.done (.ret (.str m tk))) s):
  wpAny (model prog w) A (Builtin.«BaseException.__str__» ⟨[.ref e],[]⟩) Q E s:=by
 unfold Builtin.«BaseException.__str__»
 repeat (first |with_reducible refine Qm8 x ?_ |wp_step)
 exact hq
theorem Ep {m:Str}{tk:Tok}{Q:Value->Shared->Prop}(x:Tj K s.heap e oe C t0 m tk)(hm:mroIn K C (.type "BaseException")=some true)(hq:Q (.str m tk) s):
  wpAny (model prog w) A (call (.builtin "BaseException.__str__") [.ref e]) Q E s:=by
 refine wpAny_call (codeAny_call_builtin PySem.F.excStr_Exception.str.plain PySem.F.entry_bexc_str (check_slot (i:="BaseException.__str__") (owner:="BaseException") (n:="__str__") (by decide +kernel) (by decide +kernel) (x.ty.andThen (looks_mroIn x.inK hm)) (PySem.F.args_bexc_str _) ?_));exact A7 x hq
theorem Qvq {m:Str}{tk:Tok}{Q:Value->Shared->Prop}(hu:A.units<cLine)(x:Tj K s.heap e oe C t0 m tk)(hs:findIn K (.ref C) "__str__"=some (some (.builtin "BaseException.__str__")))(hm:mroIn K C (.type "BaseException")=some true)(hq:Q (.str m tk) s):
  wpAny (model prog w) A (Builtin.Str.strOf (.ref e)) Q E s:=by
 unfold Builtin.Str.strOf;rw[show isExactStr (.ref e)=false from rfl];refine Q0 (m:=cRoomFor _ _) (wpAny_cRoomFor hu ?_);refine Q0 (m:=callSpecial? (.ref e) (Str.ofString "__str__")) (Qq0 x.inK x.ty hs PySem.F.excStr_Exception.str.bind (Ep x hm ?_));exact Q5 hq
theorem Qza {m:Str}{tk:Tok}{Q:Value->Shared->Prop}(hu:A.units+2<cLine)(x:Tj K s.heap e oe C t0 m tk)(hs:findIn K (.ref C) "__str__"=some (some (.builtin "BaseException.__str__")))(hm:mroIn K C (.type "BaseException")=some true)(hq:Q (.str m tk) s):
  wpAny (model prog w) A (call (.type "str") [.ref e]) Q E s:=
 callType_new PySem.F.called_str (by decide) (PySem.F.typeCall_str_1 _) (PySem.F.newCall_str_1 _) (λ obj=>PySem.F.args_object_init_2 obj _) PySem.F.entry_str_new
  (meets_str_new (S:=λ A' R s'=>A'.units+1<cLine/\Tj K s'.heap e oe C t0 m tk/\R (.ok (.ret (.str m tk))) s')
   λ J J A' J J hq=>Qvq (A:=A'.in1) hq.1 hq.2.1 hs hm hq.2.2)
  ⟨(show A.units+1+1<cLine from hu),x,typeIs_str _ _ _,hq⟩
end
end
section
variable {W:Qj}{name qual:Str}{params:Arguments}{body:List Stmt}{scope:Scope}{dV kV doc pm cdv ct oc:Value}{an od:Option Addr}{osl:Array (Option Value)}{f:Addr}
theorem Qqg {room:Nat}{ps:List Str}{vs:List V}{bnd:List Str}{d:Nat}(hK:W.K.lookup f=some ⟨oc,od,.func (fnOf name qual params body scope dV kV doc pm an cdv ct),osl⟩)(hcd:codeIn W.K cdv qual=true)
  (hbind:∀(s:Shared) (ws:List Value),ws.length=vs.length->BindsTo s (fnOf name qual params body scope dV kV doc pm an cdv ct) ⟨ws,[]⟩ (ps.zip ws)) (hps:ps.length=vs.length) (hloc:∀y∈ps,scope.names.lookup y=some .local)
  (hco:scope.isCoroutine=false) (hgen:scope.isGenerator=false) (hk:scope.kind=.function) (hcell:∀x∈scope.names,x.2≠.cell)
  (hvs:∀v∈vs,deep d v=true\/∃n,v=.ext n)
  (c:Cx) (l:Lay) (loc:Loc) (st:Q4) (s:Shared) (ws:List Value) (Q:Value->Shared->Prop) (E:Value->Shared->Prop) (O:Ok W c) (hr:c.room=room+1) (hR:R c l loc st s) (hv:Y0 l s.heap vs ws) (hbn:∀x∈bnd,∃y t,(ps.zip ws).reverse.lookup x=some (.str y t)/\t≠0/\t<s.toks)
  (hbody:∀(L':Addr) (l':Lay) (h₁:Heap) (n:Nat),Sub s.heap h₁->s.heap.get? L'=none->Ok W (c.fn s.heap L' (envOf qual scope L' f cdv) bnd room l.N)->(∀a,l.N a->l'.N a)->
   RS (c.fn s.heap L' (envOf qual scope L' f cdv) bnd room l.N) l' (ps.reverse.zip vs.reverse) [] {s with heap:=h₁,toks:=s.toks+n }->wpAny (model W.prog W.w) (c.A.deeper (envOf qual scope L' f cdv)) (execs body (envOf qual scope L' f cdv))
    (λ fl s'=>Q (match fl with |.ret v=>v |_=>.none) s') (λ e s'=>wpAny (model W.prog W.w) (c.A.deeper (envOf qual scope L' f cdv)) (leaving (envOf qual scope L' f cdv) e) (λ J s''=>E e s'') (λ e' s''=>E e' s'') s') {s with heap:=h₁,toks:=s.toks+n}):
  wpAny (model W.prog W.w) c.A (call (.ref f) ws) Q E s:=by
 refine wpAny_call ?_;obtain⟨m,FrX⟩:=hR.fr;obtain⟨g0,_,Fr0,B0,K0,T0⟩:=O.ground FrX
 obtain⟨FG,BG,st',_⟩:=groundX (R:=λ r s'=>match r with |.ok (.ret v)=>Q v s' |.ok _=>True |.error e=>E e s') (news:=[]) B0 Fr0 (λ p hp=>nomatch hp) O.frames O.ff O.fk
 have KG:W.K.In s.heap:=K0.keeps Fr0.keep;have TG:Top W.p W.loose W.mean W.mg W.mb s.heap:=T0.keeps Fr0.keep;refine codeAny_call_def (fd:=fnX name qual params body scope [] dV kV doc pm an cdv ct) (body:=body) (binds:=ps.zip ws) (by have:=O.deep;lia) (KG _ _ hK) rfl (T0.nolimit.keeps Fr0.keep) (codeRec_of KG hcd) rfl (hbind s ws hv.length.symm) hcell (λ y hy=>hloc y.1 (List.of_mem_zip hy).1) (λ h₁ hns hk₁=>?_) hco hgen hk;let L':=s.heap.objs.size;let g:=s.heap;have F':Fr g L' h₁ (λ y=>(ps.zip ws).reverse.lookup y):=⟨hns,hk₁,Q2 _⟩;have sg:Sub s.heap g:=λ b o e=>e;have s1:Sub s.heap h₁:=λ b o e=>F'.keep b o (sg b o e);have hgL:g.get? L'=none:=by
  cases q:g.get? L' with
  |none=>rfl
  |some o=>exact absurd (Qg (Qh q) F'.above) (Y6 _)
 have O':Ok W (c.fn g L' (envOf qual scope L' f cdv) bnd room l.N):=
  ⟨BG,by show(c.A.frames.map _)=_;rw[O.frames];rfl,rfl,hk,hk,rfl,rfl,O.inK,O.top,O.handled,O.nob,(by show c.A.units+3+8*room<=1000;have:=O.units;lia),(by show c.A.depth+1+room<recursionLimit;have:=O.deep;lia),O.guards,.inl rfl,λ J q=>nomatch q⟩
 let l':Lay:={N:=λ a=>l.N a\/a=L',σ:=[],x:=l.x};have nL:s.heap.get? L'=none:=by
  cases q:s.heap.get? L' with
  |none=>rfl
  |some o=>rw[sg _ _ q]at hgL;cases hgL
 let l':Lay:={N:=λ a=>l.N a\/a=L',σ:=[],x:=l.x}
 have RS':RS (c.fn g L' (envOf qual scope L' f cdv) bnd room l.N) l' (ps.reverse.zip vs.reverse) [] {s with heap:=h₁,toks:=s.toks+(ps.zip ws).length}:=by
  have hv':Y0 l' h₁ vs.reverse ws.reverse:=(Y0.mapTo (λ v hm w x=>by
   rcases hvs v hm with q |⟨n,rfl⟩
   .exact(VR.deepTo (l:=l.plus (·=L')) (l':=l') (λ a z=>z) d q (x.plus (λ a z=>z▸nL))).sub s1
   .exact x) hv).rev
  have ez:(ps.zip ws).reverse=ps.reverse.zip ws.reverse:=Me ps ws (by rw[hps,hv.length]);have noc:∀(x:Str) (a:Addr),(Cx.fn c g L' (envOf qual scope L' f cdv) bnd room l.N).env.cells.lookup x=some a->False:=λ x a e=>by
   have e':([]:List (Str×Addr)).lookup x=some a:=e;cases e'
  have nos:∀{P:Prop} (n:Nat) (a:Addr),l'.σ[n]?=some a->P:=λ n a e=>by
   have e':([]:List Addr)[n]?=some a:=e;simp at e'
  refine⟨⟨⟨_,.of F'⟩,⟨_,F'.ns,λ y u e=>?_,λ y hy u e=>?_⟩,λ n xs e=>(by simp at e),λ a ha=>?_,Qg hR.tk (Zq _ _),.inr rfl,λ x a e=>(noc x a e).elim,λ n a e=>nos n a e⟩,
   λ a q=>.inl q,λ n a e=>nos n a e,λ x a e=>(noc x a e).elim,rfl,hgL,rfl,λ n m a e J=>nos n a e,λ x y a e J=>(noc x a e).elim,λ x a e=>(noc x a e).elim⟩
  .obtain⟨w,e1,e2⟩:=Rc hv' e;refine⟨w,e2,.inl ⟨?_,?_⟩⟩
   .refine hloc y ?_;have:=Yn e;exact List.mem_reverse.mp (List.of_mem_zip this).1
   .show(ps.zip ws).reverse.lookup y=some w;rw[ez];exact e1
  .obtain⟨z,t,h1,h2,h3⟩:=hbn y hy;exact⟨z,t,h1,h2,Qg h3 (Zq _ _)⟩
  .rcases ha with ha |ha
   .obtain⟨o,ho⟩:=hR.low a ha;exact⟨o,s1 _ _ ho⟩
   .obtain⟨o,_,_,ho,_⟩:=F'.ns;exact⟨o,ha▸ho⟩
 refine wpAny_mono (hbody L' l' h₁ _ s1 nL O' (λ a q=>.inl q) RS') (λ fl s' h=>?_) λ J J h=>h;exact h
end
section
open Builtin Builtin.Str StrLaws
noncomputable def dg (n:Nat):List Nat:=(Nat.toDigits 10 n).map Char.toNat
theorem Eh (n:Nat):Str.ofString (toString ((n:Nat):Int))=mk (dg n):=by
 unfold dg;rw[<- KIN.signs_num,Qmb]
theorem Qgw {n:Nat}:∀c∈dg n,48<=c/\c<=57:=by
 intro c hc;obtain⟨ch,hch,e⟩:=Qv.mp hc;have r:=digit_range (Nat.isDigit_of_mem_toDigits (by decide) (by decide) hch);rw[<- e];exact r
theorem I5 {n:Nat}(h:n<10^10):(dg n).length<=10:=by
 have:=KT.len_num (n:=(n:Int)) (by exact Qy _) (by lia);rw[Eh,Qn]at this;exact this
theorem Qam {n:Nat}(h:n<10^10):PySem.intText? (mk (dg n))=some (n:Int):=by
 rw[<- Eh];exact KIN.num_reads (by exact Qy _) (by lia)
noncomputable def P7:List Nat:=[50,50,57,32,104,41,32]
theorem Zv1:("229":Str)=mk [50,50,57]:=by decide +kernel
theorem Qo0:("(":Str)=mk [40]:=by decide +kernel
theorem Qcc:(")":Str)=mk [41]:=by decide +kernel
def A9 (m:Nat):Prop:=m=124\/m=33\/m=126\/m=122
theorem A9.dg {m:Nat}(hm:A9 m)(n:Nat):m∉dg n:=λ q=>by
 have:=Qgw m q
 rcases hm with rfl |rfl |rfl |rfl <;> lia
theorem A9.ne {m:Nat}(hm:A9 m):m≠41:=by rcases hm with rfl |rfl |rfl |rfl <;> decide
noncomputable def inR (m:Nat)(d:List Nat):List Nat:=Vd m [[],[],[],d,[]]
theorem Es (m:Nat)(d:List Nat):inR m d=m::m::m::(d++[m]):=rfl
noncomputable def Ip (m:Nat)(d:List Nat):List Nat:=P7++40::(inR m d++[41,32,40,41])
noncomputable def Dy (pv:V)(x:Str)(mo:Loc):Loc:=("peer",pv)::("resp",.str x)::mo
theorem Zyl (pv:V)(x:Str)(K:KF):rd F0 [] (Z9 4) [] (sN 4 0) (Dy pv x []) [] K=(x.length<=sizeLine/\cond ((Txt.slice x none (some 3)).cps.toList !=("229":Str).cps.toList) False (K .next (Dy pv x []) [])):=by kernel_rfl
theorem Zyn (pv:V)(x:Str)(K:KF):rd F0 [] (Z9 4) [] (sN 4 1) (Dy pv x []) [] K=K .next (Dy pv x [("left",.int (Txt.find x "("))]) []:=by kernel_rfl
theorem Zyt (pv:V)(x:Str)(a:Int)(K:KF):rd F0 [] (Z9 4) [] (sN 4 2) (Dy pv x [("left",.int a)]) [] K=cond (decide (a<0)) False (K .next (Dy pv x [("left",.int a)]) []):=by kernel_rfl
theorem Zyd (pv:V)(x:Str)(a:Int)(K:KF):rd F0 [] (Z9 4) [] (sN 4 3) (Dy pv x [("left",.int a)]) [] K=K .next (Dy pv x [("left",.int a),("right",.int (Txt.find3 x ")" (a+1)))]) []:=by kernel_rfl
theorem Zyh (pv:V)(x:Str)(a b:Int)(K:KF):rd F0 [] (Z9 4) [] (sN 4 4) (Dy pv x [("left",.int a),("right",.int b)]) [] K=cond (decide (b<0)) False (K .next (Dy pv x [("left",.int a),("right",.int b)]) []):=by kernel_rfl
theorem Zyf (pv:V)(x:Str)(a b:Int)(K:KF):rd F0 [] (Z9 4) [] (sN 4 5) (Dy pv x [("left",.int a),("right",.int b)]) [] K=
  ((Txt.charAt x (a+1)).elim False λ c=>X5 (fitsSsize (a+1)) ((Txt.charAt x (b-1)).elim False λ d=>X5 (fitsSsize (b-1)) (cond ((⟨#[c]⟩:Str).cps.toList !=(⟨#[d]⟩:Str).cps.toList) False (K .next (Dy pv x [("left",.int a),("right",.int b)]) [])))):=by kernel_rfl
theorem Zyg (pv:V)(x:Str)(a b:Int)(K:KF):rd F0 [] (Z9 4) [] (sN 4 6) (Dy pv x [("left",.int a),("right",.int b)]) [] K=
  (x.length<=sizeLine/\(Txt.charAt x (a+1)).elim False λ c=>X5 (fitsSsize (a+1)) (((⟨#[c]⟩:Str).length==0)=false/\(Txt.slice x (some (a+1)) (some b)).length<=sizeLine/\
   (partsBetween (Txt.slice x (some (a+1)) (some b)) (occurrences (Txt.slice x (some (a+1)) (some b)) ⟨#[c]⟩ 0 (Txt.slice x (some (a+1)) (some b)).length ((Txt.slice x (some (a+1)) (some b)).length+1)) (⟨#[c]⟩:Str).length).length<=sizeLine/\
   K .next (Dy pv x [("left",.int a),("right",.int b),("parts",.list ((Txt.split (Txt.slice x (some (a+1)) (some b)) ⟨#[c]⟩).map V.str))]) [])):=by kernel_rfl
theorem Zyp (pv:V)(x:Str)(a b:Int)(ps:List V)(K:KF):rd F0 [] (Z9 4) [] (sN 4 7) (Dy pv x [("left",.int a),("right",.int b),("parts",.list ps)]) [] K=(ps.length<=16777216/\cond (((ps.length:Nat):Int) !=5) False (K .next (Dy pv x [("left",.int a),("right",.int b),("parts",.list ps)]) [])):=by kernel_rfl
theorem Zym (pv:List V)(hv:V)(x:Str)(a b:Int)(ps:List V)(K:KF):rd F0 [] (Z9 4) [] (sN 4 8) (Dy (.tuple (hv::pv)) x [("left",.int a),("right",.int b),("parts",.list ps)]) [] K=
  ((Ge (hv::pv) 0).elim False λ v=>K .next (Dy (.tuple (hv::pv)) x [("left",.int a),("right",.int b),("parts",.list ps),("host",v)]) []):=by kernel_rfl
theorem Zyb (pv hv:V)(x:Str)(a b:Int)(p0 p1 p2 p4:V)(p3:Str)(K:KF):rd F0 [] (Z9 4) [] (sN 4 9) (Dy pv x [("left",.int a),("right",.int b),("parts",.list [p0,p1,p2,.str p3,p4]),("host",hv)]) [] K=
  ((PySem.intText? p3).elim False λ n=>p3.length<=640/\K .next (Dy pv x [("left",.int a),("right",.int b),("parts",.list [p0,p1,p2,.str p3,p4]),("host",hv),("port",.int n)]) []):=by kernel_rfl
theorem Zqv (pv hv:V)(x:Str)(a b n:Int)(ps:List V)(K:KF):rd F0 [] (Z9 4) [] (sN 4 10) (Dy pv x [("left",.int a),("right",.int b),("parts",.list ps),("host",hv),("port",.int n)]) [] K=
  K (.ret (.tuple [hv,.int n])) (Dy pv x [("left",.int a),("right",.int b),("parts",.list ps),("host",hv),("port",.int n)]) []:=by kernel_rfl
theorem Qhi:fB (stN 4)=[sN 4 0,sN 4 1,sN 4 2,sN 4 3,sN 4 4,sN 4 5,sN 4 6,sN 4 7,sN 4 8,sN 4 9,sN 4 10]:=by kernel_rfl
theorem Qhc (hv:V)(pv:List V):Ge (hv::pv) 0=some hv:=by
 unfold Ge;rw[show(0:Int)=((0:Nat):Int) from rfl,StrLaws.seqIndex_nonneg (by exact Qy _) (by simp)];rfl
theorem Qwe (x:Str)(c:Nat):(partsBetween x (occurrences x ⟨#[c]⟩ 0 x.length (x.length+1)) (⟨#[c]⟩:Str).length).length<=x.length+2:=by
 rw[StrLaws.partsBetween_eq,(B9 x _ _ 0).1];have:=StrLaws.occ_length_le x ⟨#[c]⟩ 0 x.length (x.length+1);exact Nat.add_le_add_right ‹_› _
section
variable {W:Qj}{c:Cx}{K:KF}
theorem Qm7 (H:Vl W F0 (Z9 4) [] c){m n:Nat}(hm:A9 m)(hn:n<10^10){hv:V}{pv:List V}(h:∀loc,K (.ret (.tuple [hv,.int n])) loc []):XB W c (fB (stN 4)) (Dy (.tuple (hv::pv)) (mk (Ip m (dg n))) []) [] K:=by
 have dl:=I5 hn;have z16:sizeLine=16777216:=rfl;have n41:41∉inR m (dg n):=by
  rw[Es];simp only[Qx,List.mem_append,Zf,or_false];have:=hm.ne
  rintro(h |h |h |h |h)
  .exact this h.symm
  .exact this h.symm
  .exact this h.symm
  .have:=Qgw 41 h;lia
  .exact this h.symm
 have il:(inR m (dg n)).length=4+(dg n).length:=by rw[Es];simp;lia
 have xl:(mk (Ip m (dg n))).length=16+(dg n).length:=by rw[Qn];simp[Ip,P7,il];lia
 have f1:Txt.find (mk (Ip m (dg n))) "("=7:=by
  unfold Ip;rw[Qo0,Qps (by decide)];rfl
 have e8:Ip m (dg n)=(P7++[40])++(inR m (dg n)++41::[32,40,41]):=by simp[Ip]
 have f2:Txt.find3 (mk (Ip m (dg n))) ")" 8=((8+(inR m (dg n)).length:Nat):Int):=by
  rw[Qcc,e8];exact Qpa (u:=P7++[40]) n41
 have s3:Txt.slice (mk (Ip m (dg n))) none (some 3)=mk [50,50,57]:=Hc (Ip m (dg n)) 3;have c1:Txt.charAt (mk (Ip m (dg n))) 8=some m:=by
  refine Ux (p:=8) ?_;rw[e8,Z2 (by decide)];rfl
 have c2:Txt.charAt (mk (Ip m (dg n))) (((8+(inR m (dg n)).length:Nat):Int)-1)=some m:=by
  have e:((8+(inR m (dg n)).length:Nat):Int)-1=((7+(inR m (dg n)).length:Nat):Int):=by lia
  rw[e];refine Ux ?_;rw[e8,Z2 (by show 8<=_;lia)];show(inR m (dg n)++41::[32,40,41])[7+(inR m (dg n)).length-8]?=some m;have hl:(inR m (dg n)).getLast?=some m:=by rw[Es,show m::m::m::(dg n++[m])=(m::m::m::dg n)++[m] by simp,List.getLast?_append];rfl
  rw[Zx (by lia),<- hl,List.getLast?_eq_getElem?]
  congr 1;lia
 have sl:Txt.slice (mk (Ip m (dg n))) (some 8) (some ((8+(inR m (dg n)).length:Nat):Int))=mk (inR m (dg n)):=by
  have:=Bm (Ip m (dg n)) (a:=8) (b:=8+(inR m (dg n)).length) (by exact Zq _ _);refine this.trans ?_;rw[e8];show mk ((((P7++[40])++(inR m (dg n)++41::[32,40,41])).drop 8).take (8+(inR m (dg n)).length-8))=_;have d8:((P7++[40])++(inR m (dg n)++41::[32,40,41])).drop 8=inR m (dg n)++41::[32,40,41]:=rfl;rw[d8,show 8+(inR m (dg n)).length-8=(inR m (dg n)).length by lia,List.take_left]
 have sp:Txt.split (mk (inR m (dg n))) ⟨#[m]⟩=[mk [],mk [],mk [],mk (dg n),mk []]:=by
  rw[Uz];exact Mw (ps:=[[],[],[],dg n,[]]) (by simp) (by
   intro q hq;simp only[Qx,Zf,or_false]at hq
   rcases hq with rfl |rfl |rfl |rfl |rfl
   .simp
   .simp
   .simp
   .exact hm.dg n
   .simp)
 rw[Qhi];refine Qk (owns:=[]) H ?_;rw[Zyl,s3,Zv1];refine⟨by lia,?_⟩;show cond ((mk [50,50,57]).cps.toList !=(mk [50,50,57]).cps.toList) _ _;rw[bne_self_eq_false];show XB W c _ _ _ _;refine Qk (owns:=[]) H ?_;rw[Zyn,f1];show XB W c _ _ _ _;refine Qk (owns:=[]) H ?_;rw[Zyt];show XB W c _ _ _ _;refine Qk (owns:=[]) H ?_;rw[Zyd,show(7:Int)+1=8 from rfl,f2];show XB W c _ _ _ _;refine Qk (owns:=[]) H ?_;rw[Zyh,Z5 (by lia)];show XB W c _ _ _ _;refine Qk (owns:=[]) H ?_;rw[Zyf,show(7:Int)+1=8 from rfl,c1,c2];refine Zn (by decide) (Zn (J5 (by lia)) ?_);rw[bne_self_eq_false];show XB W c _ _ _ _;refine Qk (owns:=[]) H ?_;rw[Zyg,show(7:Int)+1=8 from rfl,c1,sl];refine⟨by lia,Zn (by decide) ⟨rfl,by rw[Qn];lia,Q1 (Qwe _ _) (by rw[Qn];lia),?_⟩⟩;rw[sp];show XB W c _ _ _ _;refine Qk (owns:=[]) H ?_;rw[Zyp];refine⟨by show 5<=16777216;decide,?_⟩;show XB W c _ _ _ _;refine Qk (owns:=[]) H ?_;rw[Zym,Qhc];show XB W c _ _ _ _;refine Qk (owns:=[]) H ?_;simp only[Qu,List.map_nil];rw[Zyb,Qam hn];refine⟨by rw[Qn];lia,?_⟩;show XB W c _ _ _ _;refine Qk (owns:=[]) H ?_;rw[Zqv];exact h _
end
end
section
open Builtin Builtin.Str
theorem Zqm (x:Str)(q:Bool->Prop):Ot F0 (Z9 5) (wT (sN 5 0)) [("resp",.str x)] [] q=(x.length<=sizeLine/\q ((Txt.slice x none (some 3)).cps.toList !=("257":Str).cps.toList)):=by kernel_rfl
noncomputable def Qsq (s:Stmt):Pos×Pos×Pos×Pos:=((ns (((wB s)[0]?).getD default) 0 [0]).pos,(ns (((wB s)[0]?).getD default) 0 [1]).pos,(ns (((wB s)[0]?).getD default) 0 []).pos,stP (((wB s)[0]?).getD default))
noncomputable abbrev rsS (x:Str)(p:Pos×Pos×Pos×Pos):Stmt:=.Raise (some (.Call (.Name x p.1) [.Name "resp" p.2.1] [] p.2.2.1)) none p.2.2.2
theorem Zqu:sN 5 0=.If (wT (sN 5 0)) [rsS "error_reply" (Qsq (sN 5 0))] [] (wP (sN 5 0)):=by kernel_rfl
theorem Qk1 (P:Params):nsIn (KL P) mainGlobals "error_reply"=some (some (.ref 37)):=by kernel_rfl
theorem Zw8 (P:Params):excIn (KL P) 37 [.type "Exception",.type "BaseException",.type "object"] "Exception.__new__"=true:=by kernel_rfl
section
variable {W:Qj}{c:Cx}{K:KF}{KE:Addr->Str->Prop}{P:Params}
theorem Qff (H:Vl W F0 (Z9 5) [] c){a:Stmt}{t:Expr}{b r:List Stmt}{pos:Pos}{loc:Loc}{st:Q4}(ha:a=.If t b [] pos)
  (h:Ot F0 (Z9 5) t loc st λ q=>cond q (XE W c (execs b c.env) loc st (λ J J J=>False) KE) (XE W c (execs r c.env) loc st K KE)):XE W c (execs (a::r) c.env) loc st K KE:=by
 subst ha;refine Qfh (Qe2 ((Qz8 H h).mono λ q h=>?_));cases q with
 |true=>exact λ l s Q E hR hQ hE=>h l s Q E hR (λ J J J J J J J J J J J z=>z.elim) hE
 |false=>exact Qe1 (E3 h)
theorem Qjk (H:Vl W F0 (Z9 5) [] c)(hK:W.K=KL P){name:Str}{L f:Addr}{cd:Value}(he:c.env=envOf name (fS (stN 5)) L f cd){x:List Nat}(hx:x.length<=903)(hn:x.take 3≠[50,53,55])(h:KE 37 (mk x)):
  XE W c (execs (fB (stN 5)) c.env) [("resp",.str (mk x))] [] K KE:=by
 have kg:∀y,Z9 5 y=some .globalImplicit->c.env.kindOf y=some .globalImplicit:=λ y hy=>by rw[H.kd];exact hy
 rw[Qkg];refine Qff H Zqu ?_;rw[Zqm];refine⟨by rw[Qn,Zv];lia,?_⟩;have e0:((Txt.slice (mk x) none (some 3)).cps.toList !=("257":Str).cps.toList)=true:=by
  rw[show Txt.slice (mk x) none (some (3:Int))=mk (x.take 3) from Hc _ 3,Zk,show("257":Str).cps.toList=[50,53,55] by decide +kernel];exact bne_iff_ne.mpr hn
 rw[e0];exact Quj H.O he (by rw[hK];exact Qk1 P) (by rw[hK];exact Zw8 P) (kg _ (by decide +kernel)) (by decide) (by decide) (by decide) rfl h
end
structure HP where
 np:Pos
 n:Nat
 cp:Pos
 sp:Pos
 rp:Pos
 clp:Pos
 tp:Pos
 rtp:Pos
 hp:Pos
deriving Inhabited
noncomputable def exT:ExceptHandler->Expr |.ExceptHandler t _ _ _=>t.getD default
noncomputable def exB:ExceptHandler->Stmt |.ExceptHandler _ _ b _=>(b[0]?).getD default
noncomputable def exQ:ExceptHandler->Pos |.ExceptHandler _ _ _ p=>p
noncomputable def Zb9 (h:ExceptHandler):HP:=⟨(exT h).pos,kE (ns (exB h) 0 [0]),(ns (exB h) 0 [0]).pos,(ns (exB h) 0 [1,0]).pos,(ns (exB h) 0 [1,1]).pos,(ns (exB h) 0 [1]).pos,(ns (exB h) 0 []).pos,stP (exB h),exQ h⟩
noncomputable abbrev Zj7 (q:HP):Stmt:=.Return (some (.List [.Constant (.str "code") q.n q.cp,.Call (.Name "str" q.sp) [.Name "refusal" q.rp] [] q.clp] q.tp)) q.rtp
noncomputable abbrev hdl (q:HP):ExceptHandler:=.ExceptHandler (some (.Name "error_reply" q.np)) (some "refusal") [Zj7 q] q.hp
noncomputable def Oq (s:Stmt):Pos×Pos×Pos×Pos×Pos:=((ns (((Qh2 s)[0]?).getD default) 0 [0]).pos,(ns (((Qh2 s)[0]?).getD default) 0 [1]).pos,(ns (((Qh2 s)[0]?).getD default) 0 []).pos,stP (((Qh2 s)[0]?).getD default),stP s)
noncomputable def h1P:HP:=Zb9 ((Zwb (sN 22 0))[0]?.getD default)
noncomputable abbrev Qji:List Expr:=[.Name "reply" (Oq (sN 22 0)).2.1]
noncomputable abbrev Er:Expr:=.Call (.Name "parse257" (Oq (sN 22 0)).1) Qji [] (Oq (sN 22 0)).2.2.1
theorem Qke:fB (stN 22)=[.Try [.Return (some Er) (Oq (sN 22 0)).2.2.2.1] [hdl h1P] [] [] (Oq (sN 22 0)).2.2.2.2]:=by kernel_rfl
theorem Zbq (x:Str)(k:List V->Prop):Fu (λ e k=>Gi F0 (Z9 22) e [("reply",.str x)] [] k) Qji k=k [.str x]:=by kernel_rfl
theorem Qrc:Z8 Qji=true:=by kernel_rfl
theorem Qe4 (P:Params):nsIn (KL P) mainGlobals "str"=some none:=by kernel_rfl
theorem Zw9 (P:Params):exmOne (KL P) (.ref 37) (.ref 37)=some true:=by kernel_rfl
theorem Qe5 (P:Params):findIn (KL P) (.ref 37) "__str__"=some (some (.builtin "BaseException.__str__")):=by kernel_rfl
theorem Qe8 (P:Params):mroIn (KL P) 37 (.type "BaseException")=some true:=by kernel_rfl
theorem Qe9 (P:Params):keepIn (KL P) (.ref 65)=true:=by kernel_rfl
section
variable {W:Qj}{P:Params}
theorem Qwr (hK:W.K=KL P){A:Around}{L1:Addr}{h5:Heap}{g':Heap}{x:Str}{u:Tok}{m1:Str->Option Value}{e t C:Addr}{news₂:List (Addr×Obj)}{tk:Nat}{q:HP}{s:Shared}{oP:Pos}{name:Str}{cd:Value}{f:Addr}
  (hC:findIn (KL P) (.ref C) "__str__"=some (some (.builtin "BaseException.__str__"))) (hm:mroIn (KL P) C (.type "BaseException")=some true)
  (F:Fr g' L1 h5 (λ y=>if y="refusal" then some (.ref e) else m1 y)) (N:News g' L1 h5 news₂) (G:Got news₂ e t (.ref C) [.str x u]) (X:W.K.In g') (T:Top W.p W.loose W.mean W.mg W.mb g') (hu:A.units+2<cLine)
  {A1:Around} {Q:Flow->Shared->Prop} {E E':Value->Shared->Prop}
  (hQ:∀(h6:Heap) (tk6:Nat) (T6:Addr),Sub g' h6->g'.get? T6=none->(∃ut,h6.PlainList T6 [Value.str "code" ut,.str x u].toArray)->Q (.ret (.ref T6)) {s with heap:=h6,toks:=tk6}):
  wpAny (model W.prog W.w) A (execs [Zj7 q] (envOf name (fS (stN 22)) L1 f cd)) (λ f' s₄=>wpAny (model W.prog W.w) A1 (do bindName (envOf name (fS (stN 22)) L1 f cd) "refusal" .none;unbindBehindTheSuite (envOf name (fS (stN 22)) L1 f cd) "refusal" oP) (λ J s₅=>Q f' s₅) E s₄) E' {s with heap:=h5,toks:=tk}:=by
 rw[execs_cons];refine Q0 (wpAny_Return_some (List_ ?_));rw[Y5 rfl];refine spliced_cons (wpAny_Constant_str ?_);rw[Y5 rfl];have hks:(envOf name (fS (stN 22)) L1 f cd).kindOf "str"=some .globalImplicit:=by show Z9 22 "str"=_;decide +kernel
 have hkr:(envOf name (fS (stN 22)) L1 f cd).kindOf "refusal"=some .local:=by show Z9 22 "refusal"=_;decide +kernel
 have hkf:(fS (stN 22)).kind=.function:=by decide +kernel
 refine spliced_cons (Call_ (Name_function_global hkf hks (loadGlobal_builtin (T.g.keeps F.keep) (mg_none_of X T.g (by rw[hK];exact Qe4 P)) (T.b.keeps F.keep) ((T.builtins "str" (by decide)).trans (show bootBuiltins "str"=some (.type "str") by kernel_rfl)) (Fx (T:="str") (first:=[]) rfl ?_)) (by decide)) rfl)
 rw[Y5 rfl];refine spliced_cons (wpAny_Name (wpAny_loadName_local hkf hkr F.ns (v:=.ref e) (by simp) (spliced_nil ?_)) (by decide));obtain⟨oe,ot,vs,nt,ie,it,hc,hd,h0,htc,htd⟩:=G;have O:Tj (KL P) h5 e oe C t x u:=⟨by rw[<- hK];exact X.keeps F.keep,(N _ ie).1,hc,⟨vs,hd,h0⟩,⟨ot,nt,(N _ it).1,htc,htd⟩⟩;refine Qza hu O hC hm (spliced_nil ?_);refine wpAny_newList ?_ (by show 2<=sizeLine;decide);refine Q5 ?_;dsimp only;have hT:(h5.push {cls:=.type "list",data:=.seq [Value.str "code" tk,.str x u].toArray}).PlainList h5.objs.size [Value.str "code" tk,.str x u].toArray:=G1 _ _;have hLp:(h5.push {cls:=.type "list",data:=.seq [Value.str "code" tk,.str x u].toArray}).Ns L1 (λ y=>if y="refusal" then some (.ref e) else m1 y):=Qju (Yo _ _) F.ns;refine wpAny_nameGoes hkr hLp (by show((fS (stN 22)).kind==.class||((fS (stN 22)).kind==.module&&L1 !=mainGlobals))=false;rw[hkf];rfl) λ h6 m6 hn6 hs6=>?_;have neL:∀b o,g'.get? b=some o->b≠L1:=λ b o q z=>by
  subst z;exact absurd (Qg (Qh q) F.above) (Y6 _)
 have TL:h5.objs.size≠L1:=λ z=>by
  have:=F.ns.lt;rw[<- z]at this;exact absurd this (Y6 _)
 refine hQ h6 _ h5.objs.size (λ b o q=>(hs6.2 b (neL b o q)).trans (Yo _ _ _ _ (F.keep b o q))) ?_ ⟨tk,hT.at λ o q=>(hs6.2 _ TL).trans q⟩;cases q:g'.get? h5.objs.size with
 |none=>rfl
 |some o=>exact absurd (Qh (F.keep _ _ q)) (Y6 _)
theorem Qq4 (hK:W.K=KL P){x:List Nat}{k:V->Prop}(hx:x.length<=903)(hn:x.take 3≠[50,53,55])(hk:k (.list [.str "code",.str (mk x)])){room:Nat}
  (c:Cx) (l:Lay) (loc:Loc) (st:Q4) (s:Shared) (ws:List Value) (Q:Value->Shared->Prop) (E:Value->Shared->Prop) (O:Ok W c) (hr:c.room=room+2) (hfs:c.outer.filterMap (·.frame)=c.fs) (hfd:KtsDicts c.fs c.h₀)
  (hR:R c l loc st s) (hN:Tch c l) (hv:Y0 l s.heap [.str (mk x)] ws)
  (hQ:∀v w s',G9 True (λ J=>False) (c.L::c.fs) s s'->s.toks<=s'.toks->VR l s'.heap v w->k v->Q w s'):wpAny (model W.prog W.w) c.A (call (.ref 181) ws) Q E s:=by
 refine Z0 ?_;refine Qqg (ps:=["reply"]) (vs:=[.str (mk x)]) (bnd:=[]) (d:=3) (room:=room+1) (by rw[hK];exact Qlw P) (by rw[hK];kernel_rfl) (λ s ws h=>?_) rfl (by decide +kernel) (by kernel_rfl) (by kernel_rfl) (by kernel_rfl) (by decide +kernel) ?_
  c l loc st s ws _ E O hr hR hv (λ x hx=>nomatch hx) λ L1 l1 h1 n1 s1 nL1 O1 lN1 RS1=>?_
 .obtain⟨a,rfl⟩:=Bp h;exact Ze (by kernel_rfl)
 .intro u hu;rw[Q3]at hu;subst hu;exact .inl rfl
 rw[Qke,execs_cons];refine Q0 (wpAny_Try_except ?_);rw[execs_cons];have ek1:(c.fn s.heap L1 (envOf "_law_named" (fS (stN 22)) L1 181 (.ref 180)) [] (room+1) l.N).env.kindOf=Z9 22:=rfl;refine Q0 (wpAny_Return_some (Call_ (Jm (w:=.ref 65) O1 RS1.r (by rw[ek1];decide +kernel) (by decide) (by rw[hK];kernel_rfl) ?_) rfl));refine callWith_of (P:=W.K.In) (by rw[Rp Qrc];rfl) (keeps_K (by rw[hK];exact Qe9 P)) (Rf Qrc ?_);refine Ja (ev:=λ e k=>Gi F0 (Z9 22) e [("reply",.str (mk x))] [] k) (λ e k q=>by
  have:=(Jp F0 40 _ O1 (Xe hK _)).1 e [("reply",.str (mk x))] [] k;rw[ek1]at this;exact this q) Qrc (k:=λ vs=>vs=[.str (mk x)]) (by rw[Zbq]) l1 _ _ _ _ RS1.r λ vs ws1 s1' kk1 tt1 vv1 hvs=>?_
 subst hvs;have RS1:=RS1.keeps kk1 tt1;obtain⟨hz,tz,rfl,kz⟩:=kk1;obtain⟨m1,FX1⟩:=RS1.r.fr;have F1:=FX1.fr rfl;refine⟨O1.inK.keeps (O1.sub FX1),?_⟩;refine Qqg (ps:=["resp"]) (vs:=[.str (mk x)]) (bnd:=[]) (d:=3) (room:=room) (by rw[hK];exact Qlv P) (by rw[hK];kernel_rfl) (λ s ws h=>?_) rfl (by decide +kernel) (by kernel_rfl) (by kernel_rfl) (by kernel_rfl) (by decide +kernel) ?_
  _ l1 _ [] _ ws1 _ _ O1 rfl RS1.r vv1 (λ x hx=>nomatch hx) λ L2 l2 h2 n2 s2 nL2 O2 lN2 RS2=>?_
 .obtain⟨a,rfl⟩:=Bp h;exact Ze (by kernel_rfl)
 .intro u hu;rw[Q3]at hu;subst hu;exact .inl rfl
 have H2:=Qj8 (F:=F0) (i:=5) (Xe hK _) O2 rfl ⟨L2,_,rfl⟩ (by kernel_rfl);refine Qjk (K:=λ J J J=>False) (KE:=λ C' y=>C'=37/\y=mk x) H2 hK rfl hx hn ⟨rfl,rfl⟩ l2 _ _ _ RS2 (λ J J J J J J J J J J J h=>h.elim) λ C' e y u loc' st' l' s3 h' sm tk3 ow RS3 hm hKE=>?_;obtain⟨eC,ex⟩:=hKE;subst eC;subst ex;obtain⟨m3,FX3⟩:=RS3.r.fr;have F3:=FX3.fr rfl;refine leave_raiseS (news:=[]) O2.below hm F3 (λ p hp=>nomatch hp) (λ h4 t R4 J U4=>?_) (by kernel_rfl);have D1:KtsDicts ((c.fenv::c.outer).filterMap (·.frame)) s.heap:=by
  intro b hb;rw[List.filterMap_cons,O.ff,hfs]at hb;obtain⟨mc,Fc⟩:=hR.fr
  rcases Qx.mp hb with rfl |hb
  .obtain⟨o,es,ep,ho,hd,_⟩:=Fc.ns;exact⟨o,es,ep,ho,hd⟩
  .obtain⟨o,es,ep,ho,hd⟩:=hfd b hb;obtain⟨sl,z⟩:=Fc.slot b o ho;exact⟨_,es,ep,z,hd⟩
 refine kts_lookS R4 F1 O1.below U4 D1 λ h5 R5 U5=>?_;have hkf:(fS (stN 22)).kind=.function:=by decide +kernel
 have hrf:(envOf "_law_named" (fS (stN 22)) L1 181 (.ref 180)).kindOf "refusal"=some .local:=by show Z9 22 "refusal"=_;decide +kernel
 have hx1:(envOf "_law_named" (fS (stN 22)) L1 181 (.ref 180)).kindOf "error_reply"=some .globalImplicit:=by show Z9 22 "error_reply"=_;decide +kernel
 obtain⟨hs,tks,dr3,rfl⟩:=sm;have ed:dr3=s.drawn:=ow.dr rfl;subst ed;have hu:((c.A.deeper (envOf "_law_named" (fS (stN 22)) L1 181 (.ref 180))).mark (some (.ref e))).units+2<cLine:=by
  have:=O.units;have e1:((c.A.deeper (envOf "_law_named" (fS (stN 22)) L1 181 (.ref 180))).mark (some (.ref e))).units=c.A.units+3:=rfl;rw[e1];have:1010<=cLine:=by decide
  lia
 have fin:∀(g':Heap) (h6:Heap) (tk6:Nat) (T6:Addr),KtsTurn ((c.fenv::c.outer).filterMap (·.frame)) s.heap g'->Sub g' h6->g'.get? T6=none->(∃ut,h6.PlainList T6 [Value.str "code" ut,.str (mk x) u].toArray)->s.toks<=tk6->Q (.ref T6) {s with heap:=h6,toks:=tk6}:=by
  intro g' h6 tk6 T6 TT sub nT ⟨ut,hT⟩ htk;have fr:(c.fenv::c.outer).filterMap (·.frame)=c.L::c.fs:=by rw[List.filterMap_cons,O.ff,hfs]
  rw[fr]at TT;have up:∀b o,s.heap.get? b=some o->∃o',g'.get? b=some o':=λ b o q=>by
   obtain⟨sl,z⟩:=TT.up q;exact⟨_,z⟩
  refine hQ _ (.ref T6) {s with heap:=h6,toks:=tk6} ⟨⟨h6,tk6,rfl,λ b o n q=>sub b o (TT.other b o q λ z=>n (.inr ⟨trivial,z⟩))⟩,λ J a ha o q=>let ⟨sl,z⟩:=TT.frame a o q ha;⟨sl,sub _ _ z⟩⟩ htk (.list (λ q=>?_) hT (.cons (.str _ _) (.cons (.str _ _) .nil))) hk
  obtain⟨o,ho⟩:=hR.low _ q;obtain⟨o',z⟩:=up _ _ ho;rw[nT]at z;cases z
 have t1:KtsTest W.prog W.w (KL P) W.p W.loose W.mg W.mb "_law_named" (fS (stN 22)) L1 181 (.ref 180) (.ref 37) (.Name "error_reply" h1P.np) true:=test_name (.inl (Qk1 P)) (Zw9 P) hkf hx1 (by decide);have XB':(KL P).In c.base:=by rw[<- hK];exact O.inK
 refine hit_SB R5 F1 O1.below U5 XB' O.top D1 KtsTurn.refl t1 (λ h' g' news₂ tk TT F' N' G' J J X' T' J=>?_) hkf hrf;refine Qwr hK (Qe5 P) (Qe8 P) F' N' G' (by rw[hK];exact X') T' hu (λ h6 tk6 T6 sub nT hT=>?_);exact Q5 λ htk=>fin g' h6 tk6 T6 TT sub nT hT htk
end
def Hn (vs:List V)(k:V->Prop):Prop:=
 ∃x:List Nat,vs=[.str (mk x)]/\x.length<=903/\((∃t,x=50::53::55::t/\k (.str (mk (cond (t.take 2==[32,34]) (un (t.drop 2)) []))))\/(x.take 3≠[50,53,55]/\k (.list [.str "code",.str (mk x)])))
def Qbb (vs:List V)(k:V->Prop):Prop:=
 ∃m n:Nat,vs=[.str (mk (Ip m (dg n))),.tuple [.str "h",.str "p"]]/\A9 m/\n<10^10/\k (.tuple [.str "h",.int n])
section
variable {W:Qj}{c:Cx}{P:Params}
theorem Qe3 {loc:Loc}{st:Q4}{K:KF}{body:List Stmt}{h0:ExceptHandler}{hs:List ExceptHandler}{pos:Pos}(h:XS W c (execs body c.env) loc st K):XS W c (exec (.Try body (h0::hs) [] [] pos) c.env) loc st K:=λ l s Q E hR hQ=>
 wpAny_Try_except (h l s _ _ hR λ fl fw loc' st' l' s' sm tk ow hR' hf h'=>by
  cases fl with
  |next=>cases hf;exact wpAny_execs_nil (hQ _ _ _ _ _ _ sm tk ow hR' .next h')
  |brk=>cases hf;exact hQ _ _ _ _ _ _ sm tk ow hR' .brk h'
  |cont=>cases hf;exact hQ _ _ _ _ _ _ sm tk ow hR' .cont h'
  |ret v=>obtain⟨_,rfl,v⟩:=hf;exact hQ _ _ _ _ _ _ sm tk ow hR' (.ret v) h')
theorem Qs1 (hK:W.K=KL P)(room:Nat)(vs:List V)(k:V->Prop)(h:Qbb vs k)(c:Cx)(l:Lay)(loc:Loc)(st:Q4)(s:Shared)(ws:List Value)(Q:Value->Shared->Prop)(E:Value->Shared->Prop)(O:Ok W c)(hr:c.room=room+1)(hR:R c l loc st s)(hv:Y0 l s.heap vs ws)
  (hQ:∀v w s',Keeps s s'->VR l s'.heap v w->k v->Q w s'):wpAny (model W.prog W.w) c.A (call (.ref 58) ws) Q E s:=by
 obtain⟨m,n,rfl,h1,h2,h3⟩:=h;refine Aj hK (ps:=["resp","peer"]) (vs:=[.str (mk (Ip m (dg n))),.tuple [.str "h",.str "p"]]) (k:=k) (d:=3) (Zmx P) (by kernel_rfl) (by kernel_rfl) (by kernel_rfl) (by kernel_rfl) (λ s ws h=>?_) (Xe hK room) rfl (Jk rfl)
  (λ c' H=>Qm7 H h1 h2 λ loc=>⟨_,rfl,rfl,h3⟩) c l loc st s ws Q E O hr hR hv hQ
 obtain⟨a,b,rfl⟩:=Lk h;exact Ze (by kernel_rfl)
theorem Qrs (x:Str)(K:KF):rd F1 [] (Z9 22) [] (.Return (some Er) (Oq (sN 22 0)).2.2.2.1) [("reply",.str x)] [] K=Qkz [.str x] λ v=>K (.ret v) [("reply",.str x)] []:=by kernel_rfl
theorem Qja (hK:W.K=KL P){vs:List V}{k:V->Prop}(h:Hn vs k)
  (c:Cx) (l:Lay) (loc:Loc) (st:Q4) (s:Shared) (ws:List Value) (Q:Value->Shared->Prop) (E:Value->Shared->Prop) {room:Nat} (O:Ok W c) (hr:c.room=room+2) (hfs:c.outer.filterMap (·.frame)=c.fs) (hfd:KtsDicts c.fs c.h₀)
  (hR:R c l loc st s) (hN:Tch c l) (hv:Y0 l s.heap vs ws)
  (hQ:∀v w s',G9 True (λ J=>False) (c.L::c.fs) s s'->s.toks<=s'.toks->VR l s'.heap v w->k v->Q w s'):wpAny (model W.prog W.w) c.A (call (.ref 181) ws) Q E s:=by
 obtain⟨x,rfl,hx,⟨t,rfl,h⟩ |⟨hn,h⟩⟩:=h
 .refine Z0 ?_;refine Aj hK (ps:=["reply"]) (vs:=[.str (mk (50::53::55::t))]) (k:=k) (d:=3) (room:=room+1) (Qlw P) (by kernel_rfl) (by kernel_rfl) (by kernel_rfl) (by kernel_rfl) (λ s ws h=>?_) (Lc hK room) rfl (Jk rfl) (λ c' H=>?_) c l loc st s ws _ E O hr hR hv
   (λ v w s' k1 v1 h1 tk=>hQ v w s' (G9.ofK k1) tk v1 h1)
  .obtain⟨a,rfl⟩:=Bp h;exact Ze (by kernel_rfl)
  .rw[Qke];refine Zp (Xk (λ loc' st'=>Mine.XB W c' [] loc' st' _) _) ⟨Qe3 ?_⟩ λ J J J q=>q;refine(Qk (owns:=[]) H ?_:Mine.XB W c' [.Return (some Er) (Oq (sN 22 0)).2.2.2.1] _ _ _).go;show rd F1 [] (Z9 22) [] (.Return (some Er) (Oq (sN 22 0)).2.2.2.1) [("reply",.str (mk (50::53::55::t)))] [] _;rw[Qrs];exact⟨t,rfl,by simp at hx;lia,_,rfl,rfl,h⟩
 .exact Qq4 hK hx hn h c l loc st s ws Q E O hr hfs hfd hR hN hv hQ
theorem Qej (P:Params):nsIn (KL P) mainGlobals "_law_named"=some (some (.ref 181)):=by kernel_rfl
theorem Qc4 (P:Params):keepIn (KL P) (.ref 181)=true:=by kernel_rfl
theorem Qpx {loc:Loc}{st:Q4}(hK:W.K=KL P){room:Nat}(O:Ok W c)(hr:c.room=room+2)(hfs:c.outer.filterMap (·.frame)=c.fs)(hfd:KtsDicts c.fs c.h₀)(hL:c.h₀.get? c.L=none){ev:Expr->(V->Prop)->Prop}(hev:∀e k,ev e k->Uv W c e loc st k){fp pos:Pos}{args:List Expr}{k:V->Prop}
  (hk:c.env.kindOf "_law_named"=some .globalImplicit) (hs:Z8 args=true) (h:Fu ev args λ vs=>Hn vs k):Qxl True W c (.Call (.Name "_law_named" fp) args [] pos) loc st k:=by
 intro l s Q E hR hN hQ;refine Call_ (Jm (w:=.ref 181) O hR hk (by decide) (by rw[hK];exact Qej P) ?_) rfl;refine callWith_of (P:=W.K.In) (by rw[Rp hs];rfl) (keeps_K (by rw[hK];exact Qc4 P)) (Rf hs ?_);refine Ja hev hs h l s pos _ E hR λ vs ws s1 k1 t1 v1 h1=>?_;have hR1:=hR.keeps k1 t1;obtain⟨m,Fr1⟩:=hR1.fr;refine⟨O.inK.keeps (O.sub Fr1),?_⟩;exact Qja hK h1 c l loc st s1 ws _ E O hr hfs hfd hR1 (hN trivial) v1 λ v w s' sl tk v' hk'=>hQ v w s' ((G9.ofK k1).trans sl) (Q1 t1 tk) (hR1.slots sl tk (hN trivial) hL) v' hk'
end
end
section
variable {W:Qj}{c:Cx}{l:Lay}{loc:Loc}{st:Q4}{s s':Shared}{X:Addr->Prop}
def Qk2 (x y:Str)(body:Loc->Q4->KF->Prop)(i:Nat)(vs:List V)(loc:Loc)(st:Q4)(K:KF):Prop:=
 vs.rec (motive:=λ J=>Nat->Loc->Q4->Prop) (λ J=>K .next) (λ v J r i loc st=>body (Yx (Yx loc x (.int (i:Nat))) y v) st (Bo (r (i+1)) K)) i loc st
theorem Qc3 {W:Qj}{c:Cx}{loc:Loc}{st:Q4}{K:KF}(O:Ok W c)(hch:∀x,c.env.kindOf x=some .cell->(c.env.cells.lookup x).isSome=true){x y ls:Str}{px py tp lp np cp pos:Pos}{kk:Nat}{body:List Stmt}{xs:List V}(hints:∀(i:Nat) (h:i<xs.length),∃k,xs[i]=.int k)
  (hkx:Jx c.env.kindOf c.bnd x) (hky:Jx c.env.kindOf c.bnd y)
  (hns:Jj (.Call (.Name "enumerate" np) [.Name ls lp] [] cp)=true)
  (hke:c.env.kindOf "enumerate"=some .globalImplicit) (hge:nsIn W.K mainGlobals "enumerate"=some none) (hbe:bootBuiltins "enumerate"=some (.type "enumerate"))
  (hl:loc.lookup ls=some (.list xs)) (hcd:(ls==("__classdict__":Str))=false) (hd:(ls==("__debug__":Str))=false)
  (h:Qk2 x y (λ loc st K=>XS W c (execs body c.env) loc st K) 0 xs loc st K):
  XS W c (exec (.For (.Tuple [.Name x px,.Name y py] kk tp) (.Call (.Name "enumerate" np) [.Name ls lp] [] cp) body [] pos) c.env) loc st K:=λ l s Q E hR hQ=>by
 refine wpAny_For (Call_ (Ji O hR.r hke (by decide) (by decide) hge hbe (Fx (first:=[]) rfl ?_)) rfl) (λ x=>Gx hns)
 rw[Y5 rfl];refine spliced_cons (wpAny_Name (J4 O hR.r hl hcd λ w hw=>spliced_nil ?_) hd);obtain⟨a,items,rfl,nNa,hpl,hvs⟩:=hw.inv;refine call_enumerate_list hpl.isList λ h' he hit hsz hsub=>?_;refine wpAny_pyIter_enum he ?_;have hla:∃o,s.heap.get? a=some o:=let ⟨m,hm⟩:=hpl;⟨_,hm⟩;have nE:s.heap.get? (s.heap.objs.size+1)=none:=by
  cases q:s.heap.get? (s.heap.objs.size+1) with
  |none=>rfl
  |some o=>exact absurd (Qh q) (Nat.not_succ_le_self _ ∘ Nat.le_of_succ_le)
 have nT:s.heap.get? s.heap.objs.size=none:=X4 _;have ei:s.heap.objs.size+1≠s.heap.objs.size:=Nat.succ_ne_self _;have hL2:=Qjl (λ o q=>hsub _ _ q) hpl.isList
 have kp:Keeps s {s with heap:=h'}:=⟨h',s.toks,rfl,hsub⟩
 have t2:s.toks<=({s with heap:=h'}:Shared).toks:=Q2 _
 have st0:∃old,IsEnum ({s with heap:=h'}:Shared).heap (s.heap.objs.size+1) s.heap.objs.size (0:Nat) old:=⟨_,he⟩
 have he2:∃o,({s with heap:=h'}:Shared).heap.get? (s.heap.objs.size+1)=some o:=⟨_,he⟩
 have hit2:({s with heap:=h'}:Shared).heap.IsListIter s.heap.objs.size a 0:=hit
 have hL2:({s with heap:=h'}:Shared).heap.IsList a items.toArray:=hL2
 clear he hit hsub hsz
 generalize s.heap.objs.size+1=e at*;generalize s.heap.objs.size=it at*
 generalize ({s with heap:=h'}:Shared)=s2 at*
 have ne:∀b,s.heap.get? b=none->a≠b:=λ b q z=>by obtain⟨o,ho⟩:=hla;rw[z,q]at ho;cases ho
 have D:=Draws.list (prog:=W.prog) (w:=W.w) (A:=c.A.in1) O.handled it a (ne it nT) items.toArray;have WW:=WalksT.enumerateD D e ei (λ q=>(Qx.mp q).elim ei λ q=>ne e nE (Q3.mp q).symm) (List.mem_cons_self ..);have hlen:items.toArray.size=xs.length:=(Z4 ..).trans hvs.length.symm;have hR0:=hR.r;refine Qqm (γ:=Unit) (g:=()) (X:=λ b=>b=e\/b=it) (Z:=λ J=>False) (n:=xs.length) (λ i l3 loc3 st3 J s3=>((∃old,IsEnum s3.heap e it i old)/\s3.heap.IsListIter it a i/\s3.heap.IsList a items.toArray)/\Qk2 x y (λ loc st K=>XS W c (execs body c.env) loc st K) i (xs.drop i) loc3 st3 K) (λ fl J loc' st' J J=>K fl loc' st') hR kp t2
  (λ b q=>q.elim (λ q=>q▸⟨nE,he2⟩) λ q=>q▸⟨nT,let ⟨o,ho,_⟩:=hit2;⟨o,ho⟩⟩) ⟨⟨st0,hit2,hL2⟩,h⟩ (λ i l3 loc3 st3 J s3 Q Q' E hlt hR3 ow3 iN iA p hq hq'=>?_) (λ l3 loc3 st3 J s3 F E p hF=>?_) λ fl fw loc' st' J l' s' sm tk ow hR' hf h'=>hQ fl fw loc' st' l' s' sm tk ow hR' hf h'
 .refine Z0 (WW.item i s3 _ _ (hlen.symm▸hlt) p.1 λ T vals h4 tk4 hP hT hTup hMid hk4 tk=>hq' _ _ ?_);obtain⟨t0,y0,hy0,rfl⟩:=hP;refine WW.go _ _ _ i T _ _ _ hMid λ h5 hst5 hk5=>?_;have hTup5:h5.IsTuple T #[.int i t0,y0]:=hTup.at λ o q=>hk5 T o (WW.apart i T h4 hMid) q
  have k4:KX (λ b=>b=e\/b=it) s3 {s3 with heap:=h5,toks:=tk4}:=⟨h5,tk4,rfl,λ b o n q=>hk5 b o (λ z=>n (by simpa using z)) (hk4 b o (λ z=>n (by simpa using z)) q)⟩
  obtain⟨hR4,ow4⟩:=hR3.kxX k4 tk iN iA λ b q=>q.elim (λ q=>q▸let ⟨_,o⟩:=hst5.1;⟨_,o⟩) λ q=>q▸let ⟨o,ho,_⟩:=hst5.2.1;⟨o,ho⟩;have sm4:=Z6.of k4
  have tk:s3.toks<=({s3 with heap:=h5,toks:=tk4}:Shared).toks:=tk
  obtain⟨y1,hy1,hv⟩:=hvs.get i _ (Q7 hlt);rw[show items[i]?=some y0 by simpa using hy0]at hy1;cases hy1;have hc3:=p.2;rw[show xs.drop i=xs[i]::xs.drop (i+1) from List.drop_eq_getElem_cons hlt]at hc3;obtain⟨k,hk⟩:=hints i hlt;rw[hk]at hv hc3
  have hst5:(∃old,IsEnum ({s3 with heap:=h5,toks:=tk4}:Shared).heap e it ((i:Int)+1) old)/\({s3 with heap:=h5,toks:=tk4}:Shared).heap.IsListIter it a (i+1)/\({s3 with heap:=h5,toks:=tk4}:Shared).heap.IsList a items.toArray:=hst5
  have hTup5:({s3 with heap:=h5,toks:=tk4}:Shared).heap.IsTuple T #[.int i t0,y0]:=hTup5
  clear k4 hTup hMid hk4 hk5 hT
  show wpAny _ _ _ _ _ {s3 with heap:=h5,toks:=tk4}
  generalize ({s3 with heap:=h5,toks:=tk4}:Shared)=s5 at*
  refine wpAny_assign_Tuple O.handled hTup5 rfl rfl λ h6 hx6=>?_
  have kp6:Keeps s5 {s5 with heap:=h6}:=⟨h6,s5.toks,rfl,λ b o q=>hx6 b o (Zj (Qh q)) q⟩
  have hR6:=hR4.keeps kp6 (Q2 _)
  have tk6:s3.toks<=({s5 with heap:=h6}:Shared).toks:=tk
  show wpAny _ _ _ _ _ {s5 with heap:=h6}
  clear hx6 hTup5
  generalize ({s5 with heap:=h6}:Shared)=s6 at*
  show wpAny (model W.prog W.w) c.A (assignInOrder [assign (.Name x px) c.env,assign (.Name y py) c.env] [.int i t0,y0]) _ _ _;refine Q0 (Z1 (wpAny_assign_Name (hR6.setN O hch hkx (.int i t0) λ s7 sm7 tk7 ow7 hR7=>?_)));refine Q0 (Z1 (wpAny_assign_Name (hR7.setN O hch hky (show VR l3 s7.heap (.int k) y0 from hv) λ s8 sm8 tk8 ow8 hR8=>?_)));refine Q5 (hc3 l3 s8 _ _ hR8 λ fl fw loc' st' l' s' sm tk' ow hR' hf h9=>?_);refine hq fl fw loc' st' () l' s' (sm4.trans ((Z6.ofK kp6).trans (sm7.trans (sm8.trans sm)))) (Q1 tk6 (Q1 tk7 (Q1 tk8 tk'))) ((ow4.mono λ J q=>.inr q).trans (((OW.keeps kp6).trans (ow7.trans (ow8.trans ow))).mono λ J q=>q.elim)) hR' hf ?_;have stN:((∃old,IsEnum s'.heap e it ((i+1:Nat):Int) old)/\s'.heap.IsListIter it a (i+1)/\s'.heap.IsList a items.toArray):=by
   refine WW.frame (i+1) s5.heap _ hst5 λ b hb o' ho'=>?_;have by3:b≠c.env.locals->(∀x,c.env.cells.lookup x≠some b)->(∀n:Nat,l3.σ[n]?≠some b)->s'.heap.get? b=some o':=λ q1 q2 q3=>
    ow.keep b o' (ow8.keep b o' (ow7.keep b o' (Yh kp6 _ _ ho') (λ q=>q) q1 q2 q3) (λ q=>q) q1 q2 q3) (λ q=>q) q1 q2 q3
   have ap:(b=e\/b=it)->s'.heap.get? b=some o':=λ q=>by3 (iA b q).loc (λ x z=>(iA b q).cell x _ z rfl) λ n z=>(iA b q).own n _ z rfl
   rcases Qx.mp hb with q |q
   .exact ap (.inl q)
   .rcases Qx.mp q with q |q
    .exact ap (.inr q)
    .rw[Q3.mp q]at by3 |-;refine by3 (λ q=>nNa (q▸hR0.loN)) (λ x q=>nNa (hR0.clN x a q)) λ n q=>(ow3.new n a q).elim (λ q=>nNa (hR0.owN n a q)) λ q=>?_;obtain⟨o,ho⟩:=hla;rw[Yh kp _ _ ho]at q;cases q
  cases fl with
  |next=>exact⟨stN,h9⟩
  |cont=>exact⟨stN,h9⟩
  |brk=>exact h9
  |ret v=>exact h9
 .refine WW.done s3 _ _ (hlen.symm▸p.1) λ h4 tk4 hk4=>?_;have hc3:=p.2;rw[List.drop_length]at hc3;exact hF h4 tk4 ⟨h4,tk4,rfl,λ b o n q=>hk4 b o (λ z=>n (by simpa using z)) q⟩ hc3
theorem Y0.setAt {l:Lay}{h:Heap}{v:V}{w:Value}(x:VR l h v w){xs:List V}:∀{ws:List Value} (k:Nat),Y0 l h xs ws->Y0 l h (xs.set k v) (ws.set k w):=by
 induction xs with
 |nil=>intro ws k r;cases r;exact .nil
 |cons u xs ih=>
  intro ws k r;obtain⟨w',ws,rfl,a,b⟩:=r.inv;cases k with
  |zero=>exact .cons x b
  |succ k=>exact .cons a (ih k b)
theorem Qux {W:Qj}{c:Cx}{loc:Loc}{st:Q4}{K:KF}(O:Ok W c){o:Str}{op ip pos:Pos}{i e:Expr}(hcd:(o==("__classdict__":Str))=false)(hd:(o==("__debug__":Str))=false){n:Nat}(ho:loc.lookup o=some (.own n))
  (hsw:swapsWith e (some (.Subscript (.Name o op) i ip)) pos.line c.env=pure false)
  (h:Uv W c e loc st λ v=>Uv W c i loc st λ j=>∃p k,j=.int k/\st[n]?=some p/\0<=k/\k<2^63/\k<p.1.length/\K .next loc (st.set n (p.1.set k.toNat v,p.2+1))):
  XS W c (exec (.Assign [.Subscript (.Name o op) i ip] e pos) c.env) loc st K:=λ l s Q E hR hQ=>by
 refine Z0 ?_;refine wpAny_Assign_Subscript ?_ hsw;refine h l s _ E hR.r λ v w s1 k1 t1 v1 h1=>?_;have hR1:=hR.keeps k1 t1;refine wpAny_Name (J4 O hR1.r ho hcd λ wo hwo=>?_) hd;refine h1 l s1 _ E hR1.r λ j wj s2 k2 t2 v2 h2=>?_;have hR2:=hR1.keeps k2 t2;obtain⟨p,k,rfl,ep,h0,hf,hlt,h3⟩:=h2;obtain⟨t,rfl⟩:=v2;obtain⟨a,rfl,ea⟩:=hwo;obtain⟨b,items,eb,hp,hv⟩:=hR2.r.lists n p ep;rw[ea]at eb;cases eb;have hlen:=hv.length;obtain⟨m0,hp0⟩:=hp;refine ki_setAt hp0 h0 hf (by simp only[Z4];lia) ?_;have e':(items.set k.toNat w).toArray=items.toArray.setIfInBounds k.toNat w:=by simp
 have hp':(s2.heap.update a (Obj.mapSeq (·.setIfInBounds k.toNat w))).PlainList a (items.toArray.setIfInBounds k.toNat w):=⟨_,IsL.update (n:=m0) hp0 _⟩;have hs':Heap.SameBut a s2.heap (s2.heap.update a (Obj.mapSeq (·.setIfInBounds k.toNat w))):=Heap.SameBut.update ..;obtain⟨hR3,ow3⟩:=hR2.turn (Z:=λ J=>False) (xs:=p.1.set k.toNat v) (items:=items.set k.toNat w) ea ep hs' (by rw[e'];exact hp') (hv.setAt (v1.sub (Yh k2)) k.toNat);intro tk;exact hQ _ _ _ _ _ _ ((Z6.ofK (Qi k1 k2)).trans ⟨_,s2.toks,_,rfl⟩) tk ((OW.keeps (Qi k1 k2)).trans ow3) hR3 .next h3
end
section
variable {W:Qj}{name qual:Str}{params:Arguments}{body:List Stmt}{scope:Scope}{dV kV doc pm cdv ct oc:Value}{an od:Option Addr}{osl:Array (Option Value)}{f:Addr}
theorem Qy9 {room:Nat}{ps:List Str}{vs:List V}{bnd:List Str}{k:V->Prop}{d:Nat}(hK:W.K.lookup f=some ⟨oc,od,.func (fnOf name qual params body scope dV kV doc pm an cdv ct),osl⟩)(hcd:codeIn W.K cdv qual=true)
  (hbind:∀(s:Shared) (ws:List Value),ws.length=vs.length->BindsTo s (fnOf name qual params body scope dV kV doc pm an cdv ct) ⟨ws,[]⟩ (ps.zip ws)) (hps:ps.length=vs.length) (hloc:∀y∈ps,scope.names.lookup y=some .local)
  (hco:scope.isCoroutine=false) (hgen:scope.isGenerator=false) (hk:scope.kind=.function) (hcell:∀x∈scope.names,x.2≠.cell) (hbn:∀x∈bnd,(ps.reverse.zip vs.reverse).lookup x=none)
  (hvs:∀v∈vs,deep d v=true\/∃n,v=.ext n) (hbody:∀(c':Cx),Ok W c'->c'.room=room->c'.bnd=bnd->(∃L cd,c'.env=envOf qual scope L f cd)->XS W c' (execs body c'.env) (ps.reverse.zip vs.reverse) [] λ fl J st=>∃n p,fl=.ret (.own n)/\st[n]?=some p/\p.1.all (deep d)=true/\k (.list p.1))
  (c:Cx) (l:Lay) (loc:Loc) (st:Q4) (s:Shared) (ws:List Value) (Q:Value->Shared->Prop) (E:Value->Shared->Prop) (O:Ok W c) (hr:c.room=room+1) (hR:R c l loc st s) (hv:Y0 l s.heap vs ws)
  (hQ:∀v w s',Keeps s s'->VR l s'.heap v w->k v->Q w s'):wpAny (model W.prog W.w) c.A (call (.ref f) ws) Q E s:=by
 refine wpAny_call ?_;obtain⟨m,FrX⟩:=hR.fr;obtain⟨g0,_,Fr0,B0,K0,T0⟩:=O.ground FrX;refine code_defG (news:=[]) B0 Fr0 K0 (λ p hp=>nomatch hp) T0 O.frames O.ff O.fk hK hcd (by have:=O.deep;lia) (hbind s ws hv.length.symm) (λ y hy=>hloc y.1 (List.of_mem_zip hy).1) (λ g L' h₁ FG F' N' BG KG TG GS=>?_) hco hgen hk hcell;have sg:Sub s.heap g:=λ b o e=>GS b o e (by simp);have s1:Sub s.heap h₁:=λ b o e=>F'.keep b o (sg b o e);have hgL:g.get? L'=none:=by
  cases q:g.get? L' with
  |none=>rfl
  |some o=>exact absurd (Qg (Qh q) F'.above) (Y6 _)
 have O':Ok W (c.fn g L' (envOf qual scope L' f cdv) bnd room l.N):=
  ⟨BG,by show(c.A.frames.map _)=_;rw[O.frames];rfl,rfl,hk,hk,rfl,rfl,O.inK,O.top,O.handled,O.nob,(by show c.A.units+3+8*room<=1000;have:=O.units;lia),(by show c.A.depth+1+room<recursionLimit;have:=O.deep;lia),O.guards,.inl rfl,λ J q=>nomatch q⟩
 let l':Lay:={N:=λ a=>l.N a\/a=L',σ:=[],x:=l.x};have nL:s.heap.get? L'=none:=by
  cases q:s.heap.get? L' with
  |none=>rfl
  |some o=>rw[sg _ _ q]at hgL;cases hgL
 let l':Lay:={N:=λ a=>l.N a\/a=L',σ:=[],x:=l.x}
 have RS':RS (c.fn g L' (envOf qual scope L' f cdv) bnd room l.N) l' (ps.reverse.zip vs.reverse) [] {s with heap:=h₁,toks:=s.toks+(ps.zip ws).length}:=by
  have hv':Y0 l' h₁ vs.reverse ws.reverse:=(Y0.mapTo (λ v hm w x=>by
   rcases hvs v hm with q |⟨n,rfl⟩
   .exact(VR.deepTo (l:=l.plus (·=L')) (l':=l') (λ a z=>z) d q (x.plus (λ a z=>z▸nL))).sub s1
   .exact x) hv).rev
  have ez:(ps.zip ws).reverse=ps.reverse.zip ws.reverse:=Me ps ws (by rw[hps,hv.length]);have noc:∀(x:Str) (a:Addr),(Cx.fn c g L' (envOf qual scope L' f cdv) bnd room l.N).env.cells.lookup x=some a->False:=λ x a e=>by
   have e':([]:List (Str×Addr)).lookup x=some a:=e;cases e'
  have nos:∀{P:Prop} (n:Nat) (a:Addr),l'.σ[n]?=some a->P:=λ n a e=>by
   have e':([]:List Addr)[n]?=some a:=e;simp at e'
  refine⟨⟨⟨_,.of F'⟩,⟨_,F'.ns,λ y u e=>?_,λ y hy u e=>?_⟩,λ n xs e=>(by simp at e),λ a ha=>?_,Qg hR.tk (Zq _ _),.inr rfl,λ x a e=>(noc x a e).elim,λ n a e=>nos n a e⟩,
   λ a q=>.inl q,λ n a e=>nos n a e,λ x a e=>(noc x a e).elim,rfl,hgL,rfl,λ n m a e J=>nos n a e,λ x y a e J=>(noc x a e).elim,λ x a e=>(noc x a e).elim⟩
  .obtain⟨w,e1,e2⟩:=Rc hv' e;refine⟨w,e2,.inl ⟨?_,?_⟩⟩
   .refine hloc y ?_;have:=Yn e;exact List.mem_reverse.mp (List.of_mem_zip this).1
   .show(ps.zip ws).reverse.lookup y=some w;rw[ez];exact e1
  .rw[hbn y hy]at e;cases e
  .rcases ha with ha |ha
   .obtain⟨o,ho⟩:=hR.low a ha;exact⟨o,s1 _ _ ho⟩
   .obtain⟨o,_,_,ho,_⟩:=F'.ns;exact⟨o,ha▸ho⟩
 refine hbody _ O' rfl rfl ⟨L',cdv,rfl⟩ l' _ _ _ RS' λ fl fw loc' st' l'' s' sm tk ow hR' hf h'=>?_;obtain⟨n,p,rfl,hp,hd,hkv⟩:=h';obtain⟨_,rfl,vw⟩:=hf;obtain⟨m',FX''⟩:=hR'.r.fr;have F'':=FX''.fr rfl;refine leaveK_ (news':=[]) F'' (λ p hp=>nomatch hp) λ J J=>?_;have sub':Sub s.heap s'.heap:=λ b o e=>F''.keep b o (sg b o e);obtain⟨a,rfl,ea⟩:=vw;obtain⟨b,items,eb,hpl,hv2⟩:=hR'.r.lists n p hp;rw[ea]at eb;cases eb;have na:¬l.N a:=λ q=>by
  rcases ow.new n a ea with z |z
  .have z':([]:List Addr)[n]?=some a:=z;simp at z'
  .obtain⟨o,ho⟩:=hR.low a q;rw[s1 _ _ ho]at z;cases z
 obtain⟨h2,t2,d2,rfl⟩:=sm;cases ow.dr rfl;exact hQ (.list p.1) _ _ ⟨h2,t2,rfl,sub'⟩ (VR.list na hpl (Y0.mapTo (λ v hv w x=>x.deepTo (λ a q=>ow.N a (.inl q)) d (Qf.mp hd v hv)) hv2)) hkv
end
section
variable {W:Qj}{c:Cx}{K:KF}
noncomputable def dB:List Stmt:=wB (sN 17 1)
noncomputable def dT:Stmt:=(dB[0]?).getD default
theorem Zmr (xs:List V)(K:KF):rd F0 ["drawn"] (Z9 17) [] (sN 17 0) [("script",.list xs)] [] K=(3<=sizeLine/\K .next [("script",.list xs),("drawn",.own 0)] [([.int 16,.int 101,.int 38],0)]):=by kernel_rfl
noncomputable def Qb7 (s:Stmt):Str×Pos×Expr×Pos:=(exN (ns s 1 [0]),(ns s 1 [0]).pos,ns s 1 [1],(ns s 1 []).pos)
noncomputable def O8 (s:Stmt):Pos×Pos×Pos×Pos×Pos×Pos×Pos×Nat:=((ns s 1 [0]).pos,(ns s 1 [1]).pos,(ns s 1 []).pos,(ns s 0 [0]).pos,(ns s 0 [1]).pos,(ns s 0 []).pos,wP s,kE (ns s 1 []))
theorem Zms:sN 17 1=.For (.Tuple [.Name "place" (O8 (sN 17 1)).1,.Name "number" (O8 (sN 17 1)).2.1] (O8 (sN 17 1)).2.2.2.2.2.2.2 (O8 (sN 17 1)).2.2.1) (.Call (.Name "enumerate" (O8 (sN 17 1)).2.2.2.1) [.Name "script" (O8 (sN 17 1)).2.2.2.2.1] [] (O8 (sN 17 1)).2.2.2.2.2.1) [dT] [] (O8 (sN 17 1)).2.2.2.2.2.2.1:=by kernel_rfl
theorem Zmc:dT=.Assign [.Subscript (.Name "drawn" (Qb7 dT).2.1) (Qb7 dT).2.2.1 (Qb7 dT).2.2.2] (wT dT) (wP dT):=by kernel_rfl
noncomputable def Pu (xs:List V)(i:Nat)(n:Int):Loc:=[("script",.list xs),("drawn",.own 0),("place",.int i),("number",.int n)]
theorem Zx4 (xs:List V)(i:Nat)(n:Int)(a b c:V)(m:Nat)(q:V->Prop):Gi F0 (Z9 17) (wT dT) (Pu xs i n) [([a,b,c],m)] q=
  ((3:Int)≠0/\(Ge [a,b,c] (Int.fmod i 3)).elim False λ v=>X5 (decide (-(2^63)<=Int.fmod (i:Int) 3)) <| X5 (decide (Int.fmod (i:Int) 3<2^63)) <| Ks .Add (drf [([a,b,c],m)] v) (.int n) λ u=>Ks .Mod (drf [([a,b,c],m)] u) (.int 1000000) q):=by kernel_rfl
theorem Zx3 (xs:List V)(i:Nat)(n:Int)(a b c:V)(m:Nat)(q:V->Prop):Gi F0 (Z9 17) (Qb7 dT).2.2.1 (Pu xs i n) [([a,b,c],m)] q=((3:Int)≠0/\q (.int (Int.fmod i 3))):=by kernel_rfl
theorem Zx5 (loc:Loc)(xs d:List V)(m:Nat)(K:KF):rd F0 ["drawn"] (Z9 17) [] (sN 17 2) (("script",.list xs)::("drawn",.own 0)::loc) [(d,m)] K=K (.ret (.own 0)) (("script",.list xs)::("drawn",.own 0)::loc) [(d,m)]:=by kernel_rfl
theorem Qth:fB (stN 17)=[sN 17 0,sN 17 1,sN 17 2]:=by kernel_rfl
theorem Qtg (H:Vl W F0 (Z9 17) [] c){xs:List V}{i:Nat}{n:Int}{a b e m:Nat}(h:∀a b e:Nat,a<1000000->b<1000000->e<1000000->K .next (Pu xs i n) [([.int a,.int b,.int e],m+1)])
  (ha:a<1000000) (hb:b<1000000) (he:e<1000000):XB W c [dT] (Pu xs i n) [([.int a,.int b,.int e],m)] K:=by
 have md:∀x:Int,∃y:Nat,y<1000000/\Int.fmod x 1000000=(y:Int):=λ x=>by
  rw[Int.fmod_eq_emod_of_nonneg _ (by exact Qy _)];exact⟨(x%1000000).toNat,by lia,by lia⟩
 refine Zp (Xk (λ loc' st'=>XB W c [] loc' st' K) K) ⟨?_⟩ λ J J J q=>q;rw[Zmc];refine Qux (n:=0) H.O (by decide) (by decide) rfl rfl ?_;refine(G8 H ?_).go;rw[Zx4];have e3:Int.fmod (i:Int) 3=((i%3:Nat):Int):=by rw[Int.fmod_eq_emod_of_nonneg _ (by exact Qy _)];rfl
 rw[e3];have i3:i%3=0\/i%3=1\/i%3=2:=by lia
 have key:∀j:Nat,j<3->∀(x:Nat),([(.int a:V),.int b,.int e]:List V)[j]?=some (.int (x:Int))->Ge [(.int a:V),.int b,.int e] (j:Int)=some (.int (x:Int)):=λ j hj x hx=>by
  match j,hj with
  | 0,_=>exact hx
  | 1,_=>exact hx
  | 2,_=>exact hx
 have fin:∀j:Nat,j<3->∀x:Nat,([(.int a:V),.int b,.int e]:List V)[j]?=some (.int (x:Int))->(∀y:Nat,y<1000000->K .next (Pu xs i n) [([(.int a:V),.int b,.int e].set j (.int (y:Int)),m+1)])->
   ((3:Int)≠0/\(Ge [(.int a:V),.int b,.int e] (j:Int)).elim False λ v=>X5 (decide (-(2^63)<=(j:Int))) <| X5 (decide ((j:Int)<2^63)) <| Ks .Add (drf [([.int a,.int b,.int e],m)] v) (.int n) λ u=>Ks .Mod (drf [([.int a,.int b,.int e],m)] u) (.int 1000000) λ v=>
    Uv W c (Qb7 dT).2.2.1 (Pu xs i n) [([.int a,.int b,.int e],m)] λ j=>∃(p:List V×Nat) (k:Int),j=.int k/\[([(.int a:V),.int b,.int e],m)][0]?=some p/\0<=k/\k<2^63/\k<p.1.length/\Xk (λ loc' st'=>XB W c [] loc' st' K) K .next (Pu xs i n) ([([(.int a:V),.int b,.int e],m)].set 0 (p.1.set k.toNat v,p.2+1)))\/(j:Int)≠(i%3:Nat):=λ j hj x hx hK=>by
  by_cases q:(j:Int)=(i%3:Nat)
  .left
   have hf1:decide (-(2^63)<=(j:Int))=true:=Qw (by exact Qy _);have hf2:decide ((j:Int)<2^63)=true:=Qw (by lia);refine⟨by decide,?_⟩;rw[key j hj x hx,hf1,hf2];show(1000000:Int)≠0/\_;refine⟨by decide,?_⟩;refine(G8 H ?_).go;rw[Zx3,e3,<- q];obtain⟨y,hy,ey⟩:=md ((x:Int)+n);refine⟨by decide,_,_,rfl,rfl,by exact Qy _,by lia,by show(j:Int)<3;lia,?_⟩;rw[ey];exact Uq (hK y hy)
  .exact .inr q
 have fin':∀j:Nat,j<3->i%3=j->∀x:Nat,([(.int a:V),.int b,.int e]:List V)[j]?=some (.int (x:Int))->(∀y:Nat,y<1000000->K .next (Pu xs i n) [([(.int a:V),.int b,.int e].set j (.int (y:Int)),m+1)])->_:=λ j hj q x hx hK=>(fin j hj x hx hK).resolve_right (by rw[q];exact λ z=>z rfl)
 rcases i3 with q |q |q
 .rw[q];exact fin' 0 (by exact Nat.succ_pos _) q a rfl λ y hy=>h y b e hy hb he
 .rw[q];exact fin' 1 (by exact Nat.le_add_left _ _) q b rfl λ y hy=>h a y e ha hy he
 .rw[q];exact fin' 2 (by exact Zc _) q e rfl λ y hy=>h a b y ha hb hy
end
section
variable {W:Qj}{c:Cx}{K:KF}{P:Params}
def dOk (xs:List V)(loc:Loc):Prop:=loc=([("script",.list xs),("drawn",.own 0)]:Loc)\/∃i n,loc=Pu xs i n
theorem Qtn {xs:List V}{loc:Loc}(h:dOk xs loc)(i:Nat)(n:Int):Yx (Yx loc "place" (.int i)) "number" (.int n)=Pu xs i n:=by
 rcases h with rfl |⟨j,m,rfl⟩ <;> rfl
theorem Qtf (H:Vl W F0 (Z9 17) [] c){xs:List V}(hK:∀loc (a b e:Nat) m,a<1000000->b<1000000->e<1000000->dOk xs loc->K .next loc [([.int a,.int b,.int e],m)]):
  ∀(ns:List Int) (i:Nat) (loc:Loc) (a b e m:Nat),dOk xs loc->a<1000000->b<1000000->e<1000000->Qk2 "place" "number" (λ loc st K=>XS W c (execs [dT] c.env) loc st K) i (ns.map V.int) loc [([.int a,.int b,.int e],m)] K:=by
 intro ns;induction ns with
 |nil=>exact λ i loc a b e m hl ha hb he=>hK loc a b e m ha hb he hl
 |cons n ns ih=>
  intro i loc a b e m hl ha hb he;show XS W c (execs [dT] c.env) (Yx (Yx loc "place" (.int i)) "number" (.int n)) [([.int a,.int b,.int e],m)] _;rw[Qtn hl];exact(Qtg H (K:=Bo (Qk2 "place" "number" (λ loc st K=>XS W c (execs [dT] c.env) loc st K) (i+1) (ns.map V.int) · · K) K) (λ a b e ha hb he=>ih (i+1) _ a b e (m+1) (.inr ⟨_,_,rfl⟩) ha hb he) ha hb he).go
theorem Qau (H:Vl W F0 (Z9 17) [] c)(hge:nsIn W.K mainGlobals "enumerate"=some none){ns:List Int}(h:∀a b e:Nat,a<1000000->b<1000000->e<1000000->∀loc m,K (.ret (.own 0)) loc [([.int a,.int b,.int e],m)]):
  XB W c (fB (stN 17)) [("script",.list (ns.map V.int))] [] K:=by
 rw[Qth];refine Qk (owns:=["drawn"]) H ?_;rw[Zmr];refine⟨by decide,?_⟩;show XB W c _ _ _ K;refine Zp (Xk (λ loc' st'=>XB W c [sN 17 2] loc' st' K) K) ⟨?_⟩ λ J J J q=>q;rw[Zms];have hke:∀x,(Z9 17 x==some .local||Z9 17 x==some .cell)=true->Jx c.env.kindOf c.bnd x:=λ x hx=>by
  rw[H.kd,H.bnd];exact⟨hx,rfl⟩
 refine Qc3 H.O H.ch (λ i h=>⟨_,List.getElem_map ..⟩) (hke _ (by decide +kernel)) (hke _ (by decide +kernel)) rfl (by rw[H.kd];decide +kernel) hge (by kernel_rfl) (xs:=ns.map V.int) rfl (by decide) (by decide) ?_;refine Qtf H (λ loc a b e m ha hb he hl=>?_) ns 0 _ 16 101 38 0 (.inl rfl) (by decide) (by decide) (by decide);show XB W c _ _ _ K;refine Qk (owns:=["drawn"]) H ?_
 rcases hl with rfl |⟨i,n,rfl⟩
 .rw[Zx5];exact h a b e ha hb he _ _
 .unfold Pu;rw[Zx5];exact h a b e ha hb he _ _
theorem Zbw (P:Params):nsIn (KL P) mainGlobals "enumerate"=some none:=by kernel_rfl
theorem Qbw (hK:W.K=KL P)(room:Nat)(vs:List V)(k:V->Prop)(ns:List Int)(hvs:vs=[.list (ns.map V.int)])(h:∀a b c:Nat,a<1000000->b<1000000->c<1000000->k (.list [.int a,.int b,.int c]))(c:Cx)(l:Lay)(loc:Loc)(st:Q4)(s:Shared)(ws:List Value)(Q:Value->Shared->Prop)(E:Value->Shared->Prop)(O:Ok W c)(hr:c.room=room+1)(hR:R c l loc st s)(hv:Y0 l s.heap vs ws)
  (hQ:∀v w s',Keeps s s'->VR l s'.heap v w->k v->Q w s'):wpAny (model W.prog W.w) c.A (call (.ref 150) ws) Q E s:=by
 subst hvs;refine Qy9 (ps:=["script"]) (vs:=[.list (ns.map V.int)]) (bnd:=[]) (k:=k) (d:=3) (room:=room) (by rw[hK];exact Zjl P) (by rw[hK];kernel_rfl) (λ s ws h=>?_) rfl (by decide +kernel) (by kernel_rfl) (by kernel_rfl) (by kernel_rfl) (by decide +kernel) (λ x hx=>nomatch hx) ?_
  (λ c' O' hr' hb' he'=>(Qau (Qj8 (by rw[hr'];exact Xe hK room) O' hb' he' (by kernel_rfl)) (by rw[hK];exact Zbw P) λ a b e ha hb he loc m=>⟨0,_,rfl,rfl,rfl,h a b e ha hb he⟩).go) c l loc st s ws Q E O hr hR hv hQ
 .obtain⟨a,rfl⟩:=Bp h;exact Ze (by kernel_rfl)
 .intro u hu;rw[Q3]at hu;subst hu
  left
  exact Qf.mpr λ v hv=>by obtain⟨c,_,rfl⟩:=Qv.mp hv;rfl
end
end Mine
namespace Mine
section
variable {α ε:Type}[BEq α][BEq ε]
noncomputable def R6 (T:List (ε×ε))(e:ε):ε:=(T.lookup e).getD e
noncomputable def Vc (rt lt:α->ε)(N:List α):List (ε×ε):=N.flatMap λ c=>[(rt c,rt c),(lt c,lt c)]
noncomputable def swT (T:List (ε×ε))(ov nv:ε):List (ε×ε):=T.map λ p=>(p.1,cond (p.2==ov) nv p.2)
noncomputable def Hd (rt lt:α->ε)(T:List (ε×ε))(q:α×α):List (ε×ε):=swT T (R6 T (rt q.1)) (R6 T (lt q.2))
noncomputable def Ms (rt lt:α->ε)(N r:List α):List (ε×ε):=(r.zip r.tail).foldl (Hd rt lt) (Vc rt lt N)
noncomputable def Jv (ch:Nat):Nat->List α->List α
 |_,[]=>[]
 |j,c::N=>cond (ch/2^j%2==1) (c::Jv ch (j+1) N) (Jv ch (j+1) N)
noncomputable def B2 (rt lt:α->ε)(T:List (ε×ε))(fr:List α):Bool:=fr.any λ x=>fr.any λ y=>R6 T (rt x)==R6 T (lt y)
noncomputable def out (r fr:List α):List α:=r.filter λ c=>!fr.contains c
noncomputable def Vr (rt lt:α->ε)(T:List (ε×ε))(N r:List α)(ch:Nat):List (List α):=cond (B2 rt lt T (Jv ch 0 N)) [] [out r (Jv ch 0 N)]
noncomputable def Vb (U r:List α):List α:=U.filter λ c=>r.contains c
noncomputable def Uy (rt lt:α->ε)(N r:List α):List (List α):=(List.range' 1 (2^N.length-1)).flatMap (Vr rt lt (Ms rt lt N r) N r)
noncomputable def fd (rt lt:α->ε)(U:List α):Nat->List α->Bool
 | 0,r=>r.isEmpty
 |n+1,r=>r.isEmpty||(Uy rt lt (Vb U r) r).any (fd rt lt U n)
end
end Mine
namespace Mine
section
variable {ε:Type}[BEq ε]{rt lt:Nat->ε}
theorem Qqu {α:Type}{ch:Nat}{c:α}:∀{N:List α} {j:Nat},c∈Jv ch j N->c∈N:=by
 intro N;induction N with
 |nil=>exact λ h=>h
 |cons a N ih=>
  intro j h;have h:c∈cond (ch/2^j%2==1) (a::Jv ch (j+1) N) (Jv ch (j+1) N):=h;cases q:ch/2^j%2==1 with
  |true=>
   rw[q]at h
   rcases Qx.mp h with h |h
   .exact h▸.head _
   .exact .tail _ (ih h)
  |false=>rw[q]at h;exact .tail _ (ih h)
theorem Qqb {α β:Type}{L:α->β}(ch:Nat)(N:List α):∀j,Jv ch j (N.map L)=(Jv ch j N).map L:=by
 induction N with
 |nil=>exact λ J=>rfl
 |cons a N ih=>
  intro j;show cond (ch/2^j%2==1) (L a::Jv ch (j+1) (N.map L)) (Jv ch (j+1) (N.map L))=(cond (ch/2^j%2==1) (a::Jv ch (j+1) N) (Jv ch (j+1) N)).map L;rw[ih]
  cases ch/2^j%2==1 <;> rfl
theorem Qph:∀n:Fin 4,∀ch:Fin 8,1<=ch.val->ch.val<2^n.val->Jv ch.val 0 (List.range n.val)≠[]:=by decide +kernel
theorem Qt1 {N:List Nat}(h3:N.length<=3){ch:Nat}(h1:1<=ch)(h2:ch<2^N.length):Jv ch 0 N≠[]:=by
 have e:N=(List.range N.length).map λ i=>N.getD i 0:=by
  refine List.ext_getElem (by rw[Q6,List.length_range]) λ i a b=>?_;rw[List.getElem_map,List.getElem_range,Y9,Q7 a];rfl
 have p3:2^N.length<=2^3:=Nat.pow_le_pow_right (by decide) h3;rw[e,Qqb];intro q;exact Qph ⟨N.length,by lia⟩ ⟨ch,Qg h2 p3⟩ h1 h2 (List.map_eq_nil_iff.mp q)
theorem U0 {U r:List Nat}{c:Nat}:c∈Vb U r↔c∈U/\c∈r:=by
 unfold Vb;rw[List.mem_filter,Zd]
theorem Kg (U r:List Nat):(Vb U r).length<=U.length:=List.length_filter_le _ _
theorem Qsk {r fr:List Nat}{c:Nat}(h:c∈r)(hf:c∈fr):(out r fr).length<r.length:=by
 unfold out;refine List.length_filter_lt_length_iff_exists.mpr ⟨c,h,?_⟩;rw[Zd.mpr hf];decide
theorem Qvf {T:List (ε×ε)}{N r:List Nat}{ch:Nat}{w:List Nat}(h:w∈Vr rt lt T N r ch):w=out r (Jv ch 0 N):=by
 unfold Vr at h;cases q:B2 rt lt T (Jv ch 0 N) with
 |true=>rw[q]at h;exact nomatch h
 |false=>rw[q]at h;exact Q3.mp h
theorem C5 (T:List (ε×ε))(N r:List Nat)(ch:Nat):(Vr rt lt T N r ch).length<=1:=by
 unfold Vr
 cases B2 rt lt T (Jv ch 0 N) <;> simp
theorem Vo {U r:List Nat}(hU:U.length<=3){w:List Nat}(h:w∈Uy rt lt (Vb U r) r):w.length<r.length/\∀c∈w,c∈r:=by
 obtain⟨ch,hc,h⟩:=List.mem_flatMap.mp h;rw[List.mem_range'_1]at hc;have e:=Qvf h;subst e;have n0:=Qt1 (N:=Vb U r) (Q1 (Kg U r) hU) hc.1 (by have:=Nat.one_le_two_pow (n:=(Vb U r).length);omega);obtain⟨c,hc'⟩:=List.exists_mem_of_ne_nil _ n0;exact⟨Qsk (U0.mp (Qqu hc')).2 hc',λ c hc=>(List.mem_filter.mp hc).1⟩
theorem Oy {U r:List Nat}(hU:U.length<=3):(Uy rt lt (Vb U r) r).length<=7:=by
 have:∀(l:List Nat) (T:List (ε×ε)) (N:List Nat),(l.flatMap (Vr rt lt T N r)).length<=l.length:=λ l T N=>by
  induction l with
  |nil=>exact Q2 _
  |cons a l ih=>
   rw[List.flatMap_cons,Q8,Qb];have:=C5 (rt:=rt) (lt:=lt) T N r a;lia
 refine Q1 (this _ _ _) ?_;rw[List.length_range'];have:2^(Vb U r).length<=2^3:=Nat.pow_le_pow_right (by decide) (Q1 (Kg U r) hU);have e:(2:Nat)^3=8:=by decide
 lia
theorem Qt7 {U:List Nat}(hU:U.length<=3):∀(n:Nat) (r:List Nat),r.length<=n->fd rt lt U (n+1) r=fd rt lt U n r:=by
 intro n;induction n with
 |zero=>
  intro r h;have:=Y8.mp (Nat.le_zero.mp h);subst this;rfl
 |succ n ih=>
  intro r h;show(r.isEmpty||(Uy rt lt (Vb U r) r).any (fd rt lt U (n+1)))=(r.isEmpty||(Uy rt lt (Vb U r) r).any (fd rt lt U n))
  congr 1
  rw[Bool.eq_iff_iff,List.any_eq_true,List.any_eq_true];have e:∀w∈Uy rt lt (Vb U r) r,fd rt lt U (n+1) w=fd rt lt U n w:=λ w hw=>ih w (by have:=(Vo hU hw).1;lia);exact⟨λ ⟨w,hw,h⟩=>⟨w,hw,(e w hw)▸h⟩,λ ⟨w,hw,h⟩=>⟨w,hw,(e w hw).symm▸h⟩⟩
theorem Qt6 {U:List Nat}(hU:U.length<=3){r:List Nat}(h:r.length<=7)(h0:r≠[]):fd rt lt U 8 r=(Uy rt lt (Vb U r) r).any (fd rt lt U 8):=by
 show(r.isEmpty||(Uy rt lt (Vb U r) r).any (fd rt lt U 7))=_
 rw[show r.isEmpty=false by cases r <;> first |exact absurd rfl h0 |rfl,Bool.false_or]
 rw[Bool.eq_iff_iff,List.any_eq_true,List.any_eq_true];have e:∀w∈Uy rt lt (Vb U r) r,fd rt lt U 8 w=fd rt lt U 7 w:=λ w hw=>Qt7 hU 7 w (by have:=(Vo hU hw).1;lia);exact⟨λ ⟨w,hw,h⟩=>⟨w,hw,(e w hw).symm▸h⟩,λ ⟨w,hw,h⟩=>⟨w,hw,(e w hw)▸h⟩⟩
end
noncomputable def Hf (ws:List (List Nat)):Nat:=(ws.map λ w=>9^w.length).sum
theorem O3 (a b:List (List Nat)):Hf (a++b)=Hf a+Hf b:=by unfold Hf;rw[Zt,List.sum_append]
theorem Qfc (l:List (List Nat))(m:Nat)(h:∀w∈l,w.length<=m):Hf l<=l.length*9^m:=by
 induction l with
 |nil=>exact Zy _
 |cons a l ih=>
  show 9^a.length+Hf l<=(l.length+1)*9^m;have h1:=ih λ w hw=>h w (.tail _ hw);have h2:9^a.length<=9^m:=Nat.pow_le_pow_right (by decide) (h a (.head _));rw[Nat.add_mul,Nat.one_mul];lia
theorem Qub (l:List (List Nat)):l.length<=Hf l:=by
 induction l with
 |nil=>exact Zy _
 |cons a l ih=>
  show l.length+1<=9^a.length+Hf l;have:1<=9^a.length:=Nat.one_le_pow _ _ (by decide);lia
theorem Ah {r:List Nat}{S:List (List Nat)}(h0:r≠[])(hS:S.length<=7)(h:∀w∈S,w.length<r.length)(rr:List (List Nat)):Hf (rr++S)<Hf (rr++[r]):=by
 rw[O3,O3];obtain⟨m,hm⟩:∃m,r.length=m+1:=⟨r.length-1,by have:=List.length_pos_iff.mpr h0;omega⟩;have h1:=Qfc S m λ w hw=>by have:=h w hw;lia
 have h2:S.length*9^m<=7*9^m:=Nat.mul_le_mul_right _ hS;have h3:Hf [r]=9*9^m:=by show 9^r.length+0=_;rw[hm,Nat.pow_succ];lia
 have:1<=9^m:=Nat.one_le_pow _ _ (by decide);lia
end Mine
namespace Mine
open PySem PySem.W PySem.Calls PyProof.Rows
noncomputable def cOk (kd:Kd)(e:Expr)(loc:Loc):Bool:=e.ctorIdx==8&&((Jw e).all λ g=>decide (g.is_async=0))&&Jj ((Jw e).head!.iter)&&Gq (Y4 e)&&Vt kd loc (Y4 e).names
theorem D5 (F:Fs)(ev:EvF)(ts:TsF)(kd:Kd)(elt:Expr)(gens:List Comprehension)(scope:Scope)(pos:Pos)(loc:Loc)(st:Q4)(k:V->Prop):Ac F ev ts kd (.ListComp elt gens scope pos) loc st k=
  Qqe (λ e k=>ev kd e loc st k) kd (λ e loc k=>ev (Uj scope kd) e loc st k) (λ e loc k=>ts (Uj scope kd) e loc st k) loc st elt gens scope k:=by kernel_rfl
theorem Qm0 {F:Fs}{n:Nat}{kd:Kd}{e:Expr}{g:Comprehension}{loc:Loc}{st:Q4}{k:V->Prop}(hc:cOk kd e loc=true)(hg:Jw e=[g])
  (h:(X7 F n).1 kd g.iter loc st λ v=>Xv (drf st v) λ xs=>rdC F n kd e st xs (Fy (Uj (Y4 e) kd) loc) λ acc=>k (.list acc)):(X7 F (n+1)).1 kd e loc st k:=by
 unfold cOk at hc;simp only[Qa]at hc;obtain⟨⟨⟨⟨h0,h1⟩,h2⟩,h3⟩,h4⟩:=hc;obtain⟨elt,gens,scope,pos,rfl⟩:∃a b c d,e=.ListComp a b c d:=Expr.ListComp.elim (motive_1:=λ e=>∃a b c d,e=.ListComp a b c d) e (eq_of_beq h0) λ a b c d=>⟨a,b,c,d,rfl⟩;cases show gens=[g] from hg;show Ac F (X7 F n).1 (X7 F n).2 kd (.ListComp elt [g] scope pos) loc st k;rw[D5];exact Zn h1 (Zn h2 (Zn h3 (Zn h4 h)))
theorem Qjd (t:SetTable)(es:Array (Int×Value))(h:Int)(x:Value):(layNew t es h x).2.1.led=t.led:=by
 unfold layNew;cases t.freeSlot h with
 |none=>rfl
 |some p=>
  obtain⟨slot,d⟩:=p;show((t.put slot).1.orStandIn _).led=t.led;unfold SetTable.orStandIn
  split <;> rfl
theorem Eu (t:SetTable)(es:Array (Int×Value))(n:Nat):(relayAll t es n).2.1.led=t.led/\(t.plain=false->(relayAll t es n).2.1.plain=false):=by
 unfold relayAll;cases q:t.relaid (es.map (·.1)) n with
 |none=>exact⟨rfl,λ J=>rfl⟩
 |some p=>
  obtain⟨t',o⟩:=p;have e:t'.led=t.led/\(t.plain=false->t'.plain=false):=by
   unfold SetTable.relaid SetTable.laid at q;cases z:SetTable.layClean (SetTable.sizeAbove n-1) (es.map (·.1)) with
   |none=>rw[z]at q;cases q
   |some ow=>rw[z]at q;cases q;exact⟨rfl,id⟩
  dsimp only;split
  .exact e
  .exact⟨rfl,λ J=>rfl⟩
section
variable {prog:Program}{w:World}{A:Around}{E:Value->Shared->Prop}{s:Shared}
noncomputable abbrev Qg2 (prog:Program)(w:World)(p:Str×Tok):Int×Value:=((PySem.strKind prog w).hash p.1,.str p.1 p.2)
def Mi (prog:Program)(w:World)(h:Heap)(a:Addr)(led:Bool)(D:List (Str×Tok)):Prop:=
 ∃o es ep t,h.get? a=some o/\o.ExactSet/\o.data=.set es ep t/\t.fits es.size=true/\(t.led=led/\(D≠[]->t.plain=false))/\es.toList.Perm (D.map (Qg2 prog w))/\(D.map (·.1)).Nodup
noncomputable def Ay (D:List (Str×Tok))(k:Str)(t:Tok):List (Str×Tok):=if k∈D.map (·.1) then D else D++[(k,t)]
theorem Qf5 (D:List (Str×Tok))(k:Str)(t:Tok):(Ay D k t).length<=D.length+1:=by
 unfold Ay;split
 .exact Nat.le_succ _
 .rw[Q8];exact Q2 _
theorem Qav {es:Array (Int×Value)}{D:List (Str×Tok)}(h:es.toList.Perm (D.map (Qg2 prog w))):ElemsOf (PySem.strKind prog w) es.toList:=λ e he=>by
 obtain⟨p,_,rfl⟩:=Qv.mp (h.mem_iff.mp he);exact⟨⟨p.1,strKind_is _ _ _ _,rfl⟩,rfl⟩
theorem Qnd {g:Bool->Sem Unit}(hg:∀(b:Bool) (s₁:Shared) (Q':Unit->Shared->Prop),Q' () s₁->wpAny (model prog w) A (g b) Q' E s₁){a:Addr}{o:Obj}{es es1:Array (Int×Value)}{ep:Nat}{t t2:SetTable}{led wd:Bool}{D:List (Str×Tok)}{R:Option Bool->Shared->Prop}
  (ho:s.heap.get? a=some o) (hex:o.ExactSet) (hd:o.data=.set es ep t) (hp1:es1.toList.Perm (D.map (Qg2 prog w))) (hn1:(D.map (·.1)).Nodup) (hs1:es1.size<=sizeLine) (f2:t2.fits es1.size=true) (l2:t2.led=led/\t2.plain=false)
  (h:∀h',Heap.SameBut a s.heap h'->Mi prog w h' a led D->R (some true) {s with heap:=h'}):wpAny (model prog w) A (do
    storeSet a es1 t2
    if (!wd&&t2.tooFull)=true then do
      g (relayAll t2 es1 (SetTable.grown es1.size)).2.2
      storeSet a (relayAll t2 es1 (SetTable.grown es1.size)).1 (relayAll t2 es1 (SetTable.grown es1.size)).2.1
      pure (some true)
     else pure (some true)) R E s:=by
 refine Q0 (wpAny_storeSet_of ho hd ?_ hs1)
 have ho1:(s.heap.update a (Obj.putSet es1 t2)).get? a=some {o with data:=.set es1 (ep+1) t2}:=by
  have:=Heap.get?_update_self (Obj.putSet es1 t2) ho (by rw[putSet_of es1 t2 hd];rfl);rw[putSet_of es1 t2 hd]at this;exact this
 have sb1:=Heap.SameBut.update s.heap a (Obj.putSet es1 t2);refine wpAny_ite_split (λ J=>?_) λ J=>Q5 (h _ sb1 ⟨_,es1,_,t2,ho1,⟨hex.1,hex.2.1,hex.2.2⟩,rfl,f2,⟨l2.1,λ J=>l2.2⟩,hp1,hn1⟩);have hp2:=relayAll_perm t2 es1 (SetTable.grown es1.size);have f3:=relayAll_fits t2 es1 (SetTable.grown es1.size);have l3:=Eu t2 es1 (SetTable.grown es1.size);generalize relayAll t2 es1 (SetTable.grown es1.size)=R at hp2 f3 l3 |-;obtain⟨es2,t3,g2⟩:=R;dsimp only at hp2 f3 l3 |-;have hs2:es2.size=es1.size:=by rw[<- Zg,hp2.length_eq,Zg]
 refine Q0 (hg _ _ _ (Q0 (wpAny_storeSet_of ho1 rfl ?_ (by rw[hs2];exact hs1))))
 have ho2:((s.heap.update a (Obj.putSet es1 t2)).update a (Obj.putSet es2 t3)).get? a=some {o with data:=.set es2 (ep+1+1) t3}:=
  Heap.get?_update_self (Obj.putSet es2 t3) ho1 rfl
 exact Q5 (h _ (sb1.trans (Heap.SameBut.update _ a _)) ⟨_,es2,_,t3,ho2,⟨hex.1,hex.2.1,hex.2.2⟩,rfl,f3,⟨l3.1.trans l2.1,λ J=>l3.2 l2.2⟩,hp2.trans hp1,hn1⟩)
set_option tactic.hygienic true in
theorem Zpd {a:Addr}{D:List (Str×Tok)}{led:Bool}{k:Str}{t:Tok}{Q:Bool->Shared->Prop}(hS:Mi prog w s.heap a led D)(hb:D.length+1<scanBound)
  (h:∀h' b,Heap.SameBut a s.heap h'->Mi prog w h' a led (Ay D k t)->Q b {s with heap:=h',toks:=s.toks+1}):wpAny (model prog w) A (setAdd a (.str k t)) Q E s:=by
 obtain⟨o,es,ep,tb,ho,hex,hd,hf,hl,hp,hn⟩:=hS;have hsz:es.size=D.length:=by rw[<- Zg,hp.length_eq,Q6]
 have hel:=Qav hp;have hkey:(PySem.strKind prog w).is k (.str k t)=true:=strKind_is _ _ _ _;unfold setAdd;refine Z1 (Q0 ((PySem.strKind prog w).pyHash hkey ?_));unfold setAddHashed setAddHashedIn
 refine Z1 (Q0 (wpAny_setState_of (s:={s with toks:=s.toks+1}) ho hd hf ?_))
 dsimp only;rw[byScan_of (knd:=PySem.strKind prog w) rfl (by rw[hsz];exact Nat.lt_of_succ_lt hb) hel,if_pos rfl];unfold setAddByScan
 refine Q0 (Q0 (wpAny_rule (Q0 (wpAny_setScan_of (s:={s with toks:=s.toks+1}) hkey ho hd hf hel ?_))))
 have key:∀p:Str×Tok,(PySem.strKind prog w).is k (Qg2 prog w p).2=decide (k=p.1):=λ p=>(PySem.strKind prog w).is_eq_decide (strKind_is _ _ p.1 p.2) k;cases hr:List.findIdx? (λ e=>(PySem.strKind prog w).is k e.2) es.toList with
 |some j=>
  obtain⟨hj,hpj,_⟩:=List.findIdx?_eq_some_iff_getElem.mp hr;obtain⟨p,hm,hpe⟩:=Qv.mp (hp.mem_iff.mp (List.getElem_mem hj));have hk:k∈D.map (·.1):=by
   have:=key p;rw[hpe,hpj]at this;rw[Qc this.symm];exact Qv.mpr ⟨p,hm,rfl⟩
  dsimp only;refine Q5 (Q5 ?_)
  refine h s.heap _ (Heap.SameBut.refl a s.heap) ⟨o,es,ep,tb,ho,hex,hd,hf,⟨hl.1,λ _=>hl.2 λ q=>by rw[q]at hk;cases hk⟩,?_,?_⟩ <;> unfold Ay <;> rw [if_pos hk] <;> assumption
 |none=>
  have hk:¬k∈D.map (·.1):=λ q=>by
   obtain⟨p,hm,e⟩:=Qv.mp q;have:=List.findIdx?_eq_none_iff.mp hr _ (hp.mem_iff.mpr (List.mem_map_of_mem hm));rw[key p,Qw e.symm]at this;cases this
  dsimp only
  have gw:∀(b:Bool) {s₁:Shared} {Q':Unit->Shared->Prop},Q' () s₁->wpAny (model prog w) A (match b with |true=>rule "set.scan.the-table-gave-way" |false=>pure ()) Q' E s₁:=
   λ b s₁ Q' hq=>by
    cases b
    .exact Q5 hq
    .exact wpAny_rule hq
  have hperm:=layNew_perm tb es ((PySem.strKind prog w).hash k) (.str k t);have hfits:=layNew_fits tb es ((PySem.strKind prog w).hash k) (.str k t);have hled:=Qjd tb es ((PySem.strKind prog w).hash k) (.str k t);generalize layNew tb es ((PySem.strKind prog w).hash k) (.str k t)=L at hperm hfits hled |-;obtain⟨es1,t1,wd,gv⟩:=L;dsimp only at hperm hfits hled |-;rw[Array.toList_push]at hperm;have hp1:es1.toList.Perm ((Ay D k t).map (Qg2 prog w)):=by
   unfold Ay;rw[if_neg hk,Zt];exact hperm.trans (hp.append_right _)
  have hn1:((Ay D k t).map (·.1)).Nodup:=by
   unfold Ay;rw[if_neg hk,Zt,List.nodup_append];refine⟨hn,by simp,λ x hx y hy e=>?_⟩;rw[Qu,List.map_nil,Q3]at hy;rw[e,hy]at hx;exact hk hx
  have hs1:es1.size<=sizeLine:=by
   refine fits_of_scanBound ?_;rw[<- Zg,hp1.length_eq,Q6];exact Nat.lt_of_le_of_lt (Qf5 D k t) hb
  refine Q0 (gw _ ?_);have sn:∀x:Tok,(Value.str k x).scannable=true:=λ _=>rfl
  have hg:∀(b:Bool) (s₁:Shared) (Q':Unit->Shared->Prop),Q' () s₁->wpAny (model prog w) A (match b with |true=>rule "set.scan.the-table-gave-way" |false=>pure ()) Q' E s₁:=λ b _ _ hq=>gw b hq
  refine wpAny_ite_split (λ _=>?_) λ _=>?_
  .rw[hashByValue_scannable 8 (sn t)];refine Q0 (Q5 ?_)
   refine Qnd hg (s:={s with toks:=s.toks+1}) ho hex hd hp1 hn1 hs1 ?_ ?_ λ h' sb hS=>Q5 (h h' true sb hS)
   .split
    .exact hfits
    .exact SetTable.fits_plain_off hfits
   .split
    .rename_i q;exact absurd (show false=true from q) Zu
    .exact⟨hled.trans hl.1,rfl⟩
  .rename_i hpl
   refine Q0 (Q5 ?_)
   exact Qnd hg (s:={s with toks:=s.toks+1}) ho hex hd hp1 hn1 hs1 hfits ⟨hled.trans hl.1,Bool.eq_false_iff.mpr hpl⟩ λ h' sb hS=>Q5 (h h' true sb hS)
end
theorem D0:isSubtype (.type "str") (.type "frozenset")=pure false:=by rw[isSubtype_type];kernel_rfl
noncomputable def Gm (l:List Nat):List Str:=l.foldl (λ D c=>if (⟨#[c]⟩:Str)∈D then D else D++[⟨#[c]⟩]) []
section
variable {prog:Program}{w:World}{A:Around}{E:Value->Shared->Prop}{s:Shared}
theorem Qyr (D:List (Str×Tok))(k:Str)(t:Tok):(Ay D k t).map (·.1)=if k∈D.map (·.1) then D.map (·.1) else D.map (·.1)++[k]:=by
 unfold Ay;by_cases h:k∈D.map (·.1)
 .rw[if_pos h,if_pos h]
 .rw[if_neg h,if_neg h,Zt];rfl
theorem Ch (l:List Nat):(Gm l).length<=l.length:=by
 unfold Gm;have:∀(l:List Nat) (D:List Str),(l.foldl (λ D c=>if (⟨#[c]⟩:Str)∈D then D else D++[⟨#[c]⟩]) D).length<=D.length+l.length:=λ l=>by
  induction l with
  |nil=>exact λ D=>Q2 _
  |cons c l ih=>
   intro D;rw[List.foldl_cons,Qb];refine Q1 (ih _) ?_;split
   .lia
   .rw[Q8,Zw];lia
 have:=this l []
 rwa [Zs,Nat.zero_add]at this
theorem Qx3 (l:List Nat)(i:Nat)(c:Nat)(h:l[i]?=some c):Gm (l.take (i+1))=if (⟨#[c]⟩:Str)∈Gm (l.take i) then Gm (l.take i) else Gm (l.take i)++[⟨#[c]⟩]:=by
 rw[List.take_succ,h];unfold Gm;rw[List.foldl_append];rfl
theorem Zwq {I S:Addr}{fp:List Addr}{x:Str}{led:Bool}{St:Nat->Heap->Prop}{R:Result->Shared->Prop}(Wk:Walks prog w A.in1 I fp [I] x.cps.size (SignAt x) St)(hS:S∉fp)(hI:I∈fp)(hb:x.cps.size+1<scanBound):
  ∀(k i:Nat) (s:Shared) (D:List (Str×Tok)),x.cps.size-i=k->i<=x.cps.size->St i s.heap->Mi prog w s.heap S led D->D.map (·.1)=Gm (x.cps.toList.take i)->
   (∀h' tk D',(∀b o,b≠S->b≠I->s.heap.get? b=some o->h'.get? b=some o)->Mi prog w h' S led D'->D'.map (·.1)=Gm x.cps.toList->R (.ok (.ret .none)) {s with heap:=h',toks:=tk})->
   codeAny (model prog w) A (.builtin "set.update.loop" ⟨[.ref S,.ref I],[]⟩) R s:=by
 intro k;induction k with
 |zero=>
  intro i s D hk hi hst hs hD hR;have hin:i=x.cps.size:=by lia
  subst hin;refine codeAny_builtin PyProof.Rows.F.entry_set_update_loop ?_;rw[Around.under_plainId PyProof.Rows.F.plain_set_update_loop _];show wpAny _ A.in1 (pyNext (.ref I) >>=_) _ _ s;refine Q0 (Wk.done s _ _ hst λ h' tk hk'=>?_);show wpAny _ A.in1 (ret Value.none) _ _ _;obtain⟨o,es,ep,t,ho,r⟩:=hs;have hSI:S∉[I]:=λ q=>hS (Q3.mp q▸hI);refine Q5 (hR h' tk D (λ b o J n e=>hk' b o (λ q=>n (Q3.mp q)) e) ⟨o,es,ep,t,hk' S o hSI ho,r⟩ ?_);rw[hD,<- Zg,List.take_length]
 |succ k ih=>
  intro i s D hk hi hst hs hD hR;have hlt:i<x.cps.size:=by lia
  have hSI:S∉[I]:=λ q=>hS (Q3.mp q▸hI);refine codeAny_builtin PyProof.Rows.F.entry_set_update_loop ?_;rw[Around.under_plainId PyProof.Rows.F.plain_set_update_loop _];show wpAny _ A.in1 (pyNext (.ref I) >>=_) _ _ s;refine Q0 (Wk.item i s _ _ hlt hst λ v h' tk hP hst' hk'=>?_);obtain⟨c,u,hc,rfl⟩:=hP;have hs':Mi prog w h' S led D:=by
   obtain⟨o,es,ep,t,ho,r⟩:=hs;exact⟨o,es,ep,t,hk' S o hSI ho,r⟩
  have dl:D.length<=x.cps.size:=by
   have h1:=Zm List.length hD;rw[Q6]at h1;rw[h1];refine Q1 (Ch _) ?_;rw[List.length_take];lia
  show wpAny _ A.in1 (holding [Value.str ⟨#[c]⟩ u] (setAdd S (.str ⟨#[c]⟩ u)) >>=_) _ _ _
  refine Q0 (Z1 (Zpd (s:={s with heap:=h',toks:=tk}) hs' (by lia) λ h2 J sb hs2=>?_))
  refine Q5 ⟨plainId_quiet PyProof.Rows.F.plain_set_update_loop _,ih (i+1) _ _ (by lia) hlt (Wk.frame _ h' _ hst' λ b hb o e=>?_) hs2 ?_ λ h3 tk3 D' kp hs3 hD3=>?_⟩
  .exact(sb.2 b (λ q=>hS (q▸hb))).trans e
  .rw[Qyr,hD,Qx3 _ i c (by rw[Array.getElem?_toList];exact hc)]
  .exact hR h3 tk3 D' (λ b o n1 n2 e=>kp b o n1 n2 ((sb.2 b n1).trans (hk' b o (λ q=>n2 (Q3.mp q)) e))) hs3 hD3
theorem Qp4 {x:Str}{t:Tok}{Q:Value->Shared->Prop}(h:∀(o:Obj) (St:Nat->Heap->Prop),(∀A:Around,A.handled=none->Walks prog w A s.heap.objs.size [s.heap.objs.size] [s.heap.objs.size] x.cps.size (SignAt x) St)->St 0 (s.heap.push o)->Q (.ref s.heap.objs.size) {s with heap:=s.heap.push o}):
  wpAny (model prog w) A (pyIter (.str x t)) Q E s:=by
 cases ha:x.cps.all (· < 128)
 .exact wpAny_pyIter_wide ha (h _ (λ i h=>h.IsStrIter s.heap.objs.size "str_iterator" x t i) (λ A hA=>Walks.strWide hA _ x t) ⟨_,Qp _ rfl,rfl,rfl⟩)
 .exact wpAny_pyIter_ascii ha (h _ (λ i h=>h.IsStrIter s.heap.objs.size "str_ascii_iterator" x t i) (λ A hA=>Walks.strAscii hA _ x t) ⟨_,Qp _ rfl,rfl,rfl⟩)
theorem Qhg (a:Value){Q₁:Value->Shared->Prop}
  (h:Q₁ (.ref s.heap.objs.size) {s with heap:=s.heap.push {cls:=.type "set",dict:=none,data:=.set #[] 0 (.fresh 0 0 (!w.params.followText "set-order"))}}):
  codeAny (model prog w) A (.call (.builtin "set.__new__") ⟨[.type "set",a],[]⟩) (wants Q₁ E) s:=by
 refine codeAny_of_tree ?_;show wpAny _ A.in1 (do checkBuiltinCall "set.__new__" ⟨[.type "set",a],[]⟩;again (.builtin "set.__new__" ⟨[.type "set",a],[]⟩)) _ _ s;refine Q0 (wpAny_of_eq (PySem.F.newCall_set_1 a) (Q5 ⟨plainId_quiet PySem.F.plain_set_new _,codeAny_builtin PySem.F.entry_set_new ?_⟩));rw[Around.under_plainId PySem.F.plain_set_new _];unfold Builtin.«set.__new__» Builtin.Frozenset.newClass;have hsub:=sub_set_self;obtain⟨hp,g,d,tk,os⟩:=s;dsimp only
 wp_walk
 refine wpAny_askSetting (Q5 ?_);dsimp only;simp only[newObj];refine Q0 (wpAny_alloc (Q5 ?_));exact Q5 h
end
theorem B3:Slot "set_iterator" "__next__" "set_iterator.__next__":=
 .of (owner:="set_iterator") (n:="__next__") (by rw[typeLookup_type,builtinLookup_eq_fast];kernel_rfl) (by decide +kernel) (by decide +kernel) (by decide +kernel)
  (by first |exact .inl (by decide +kernel) |exact .inr (by decide +kernel)) (by rw[isSubtype_type];kernel_rfl)
theorem Ax:entryFor table "set_iterator.__next__"=some Builtin.«set_iterator.__next__»:=entryFor_of_fast (by kernel_rfl)
theorem Iy (a:Value):argsOk "set_iterator.__next__" ⟨[a],[]⟩:=by unfold argsOk;kernel_rfl
theorem Pq:entryFor table "set.__iter__"=some Builtin.«frozenset.__iter__»:=
 entryFor_alias (id':="frozenset.__iter__") (by kernel_rfl) rfl (by decide +kernel) (by kernel_rfl)
theorem Hj {α:Type}:∀(l:List α) (i:Nat) (h:i<l.length),(l[i]::l.eraseIdx i).Perm l
 |a::l,0,_=>.refl _
 |a::l,i+1,h=>by
  have hi:i<l.length:=Nat.lt_of_succ_lt_succ h;show(l[i]::a::l.eraseIdx i).Perm (a::l);exact(List.Perm.swap _ _ _).trans ((Hj l i hi).cons a)
theorem Dw {α:Type}(next:Nat->Nat)(xs:Array α):(pickOrder next xs).toList.Perm xs.toList:=by
 have go:∀(n k:Nat) (l:List α) (out:Array α),l.length<=n->(pickOrder.go next n k l out).toList.Perm (out.toList++l):=λ n=>by
  induction n with
  |zero=>
   intro k l out h;rw[Y8.mp (Nat.le_zero.mp h),Qs];exact List.Perm.refl _
  |succ n ih=>
   intro k l out h;have e:pickOrder.go next (n+1) k l out=Option.rec (motive:=λ J=>Array α) out (λ x=>pickOrder.go next n (k+1) (l.eraseIdx (next k%l.length)) (out.push x)) (l[next k%l.length]?):=by kernel_rfl
   rw[e];cases q:l[next k%l.length]? with
   |none=>
    have:l=[]:=by
     rcases List.eq_nil_or_concat l with e |⟨a,b,e⟩
     .exact e
     .have h0:0<l.length:=by rw[e,List.length_concat];exact Nat.succ_pos _
      rw[Q7 (Za _ h0)]at q;cases q
    rw[this,Qs]
   |some x=>
    obtain⟨hi,hx⟩:=List.getElem?_eq_some_iff.mp q;dsimp only;refine(ih _ _ _ (by rw[List.length_eraseIdx,if_pos hi];lia)).trans ?_;rw[Array.toList_push,Qr];refine List.Perm.append_left _ ?_;have:=Hj l _ hi;rw[hx]at this;exact this
 have:=go xs.size 0 xs.toList #[] (Nat.le_of_eq Zg)
 rwa [show(#[]:Array α).toList++xs.toList=xs.toList from rfl]at this
section
variable {prog:Program}{w:World}{A:Around}{E:Value->Shared->Prop}{s:Shared}
theorem E9 {α:Type}:∀(n:Nat) (l:List α) (s:Shared) (Q:List α->Shared->Prop),l.length=n->(∀l' dr,l'.Perm l->Q l' {s with drawn:=dr})->wpAny (model prog w) A (drawOrder n l) Q E s:=λ n=>by
 induction n with
 |zero=>intro l s Q h hQ;rw[Y8.mp h]at hQ |-;exact Q5 (hQ [] s.drawn (.refl _))
 |succ n ih=>
  intro l s Q h hQ;cases l with
  |nil=>cases h
  |cons a l=>
   refine Q0 λ Γ p hΓ=>?_;have h0:(a::l).length≠0:=Nat.succ_ne_zero _;show Sem.wp _ Γ (.choose .order (a::l).length pure) _ _ p s;rw[Sem.wp_choose];refine⟨h0,?_⟩;have hi:(model prog w).w.draws .order (s.drawn.get .order)%(a::l).length<(a::l).length:=Za _ (Nat.pos_of_ne_zero h0);generalize (model prog w).w.draws .order (s.drawn.get .order)%(a::l).length=i at hi;refine(Q5 (M:=model prog w) (A:=A) ?_) Γ p hΓ;rw[Q7 hi];have hp:=Hj (a::l) i hi;exact Q0 (ih _ _ _ (by rw[List.length_eraseIdx,if_pos hi,h];rfl) λ l' dr hl=>Q5 (hQ _ dr ((hl.cons _).trans hp)))
end
theorem Hl:Slot "set_iterator" "__iter__" "set_iterator.__iter__":=
 .of (owner:="set_iterator") (n:="__iter__") (by rw[typeLookup_type,builtinLookup_eq_fast];kernel_rfl) (by decide +kernel) (by decide +kernel) (by decide +kernel)
  (by first |exact .inl (by decide +kernel) |exact .inr (by decide +kernel)) (by rw[isSubtype_type];kernel_rfl)
theorem Ak:entryFor table "set_iterator.__iter__"=some Builtin.«dict_keyiterator.__iter__»:=
 entryFor_alias (id':="dict_keyiterator.__iter__") (by kernel_rfl) rfl (by decide +kernel) (by kernel_rfl)
theorem Iu (a:Value):argsOk "set_iterator.__iter__" ⟨[a],[]⟩:=by unfold argsOk;kernel_rfl
section
variable {prog:Program}{w:World}{A:Around}{E:Value->Shared->Prop}{s:Shared}
def Rt (h:Heap)(it:Addr)(F:Value)(i:Nat)(a:Addr)(n ep:Nat):Prop:=∃o,h.get? it=some o/\o.cls=.type "set_iterator"/\o.data=.fields #[F,.int i 0,.ref a,.int n 0,.int ep 0]
theorem Rt.typeIs {s:Shared}{it:Addr}{F:Value}{i:Nat}{a:Addr}{n ep:Nat}(x:Rt s.heap it F i a n ep):s.TypeIs (.ref it) "set_iterator":=let ⟨o,ho,hc,_⟩:=x;⟨o,ho,hc⟩
theorem Rt.set {h:Heap}{it:Addr}{F F':Value}{i j:Nat}{a:Addr}{n ep:Nat}(x:Rt h it F i a n ep)(f:Array Value->Array Value)(e:f #[F,.int i 0,.ref a,.int n 0,.int ep 0]=#[F',.int j 0,.ref a,.int n 0,.int ep 0]):
  Rt (h.update it (Obj.mapFields f)) it F' j a n ep:=by
 obtain⟨o,ho,hc,hd⟩:=x;exact⟨_,Heap.get?_update_self _ ho (Obj.isFreed_of_fields (Obj.data_mapFields hd _)),(Obj.cls_mapFields ..).trans hc,by rw[Obj.data_mapFields hd,e]⟩
theorem Ob {h1:Heap}{it:Addr}{Q:Option Value->Shared->Prop}{R:PySem.Fin->Shared->Prop}(hh:A.handled=none)(hQ:∀h',Heap.ExtBut it h1 h'->Q none {s with heap:=h'}):
  wpAny (model prog w) A.in1 (newExc (.type "StopIteration") [] >>=λ e=>(raiseNew e:Sem PySem.Fin)) R (λ e s'=>wpAny (model prog w) A (isInstance e (.type "StopIteration")) (λ b s''=>b=true/\Q none s'') E s') {s with heap:=h1}:=by
 refine Q0 ?_;simp only[newExc,newTuple];refine Q0 (wpAny_newObj_type ?_ (by size_fits))
 refine Q0 (m:=firstArgMember _ _) (wpAny_of_eq (a:=Value.none) (by first |rfl |(simp only[firstArgMember];rfl)) ?_)
 refine wpAny_newObj_type ?_ (by size_fits);unfold raiseNew;refine Q0 (wpAny_handled ?_);rw[show A.in1.handled=none from hh];refine Q0 (Q5 (wpAny_throw ?_));refine wpAny_isInstance (T:="StopIteration") (b:=true) ⟨_,Qp _ rfl,rfl⟩ isSubtype_stop ?_;exact⟨rfl,hQ _ (((Heap.SameBut.refl it h1).extBut.push _).push _)⟩
theorem N1 {it a:Addr}{F:Value}{i n ep:Nat}{o:Obj}{es:Array (Int×Value)}{t:SetTable}{Q:Option Value->Shared->Prop}(hh:A.handled=none)(hit:Rt s.heap it F i a n ep)(ho:s.heap.get? a=some o)(hd:o.data=.set es ep t)(hf:t.fits es.size=true)(hn:es.size=n)
  (h:wpAny (model prog w) A.in1 (if let .int slot _:=F then do
    match <- setNext a slot.toNat i ep with
    |some (x,next)=>
     setField (.ref it) 0 (rawInt next)
     setField (.ref it) 1 (rawInt ((i:Int)+1))
     ret x
    |none=>setField (.ref it) 2 .none;raiseNew (<- newExc (.type "StopIteration") [])
   else do
    let some places <- seqItems? F |unsupported "internal:set_iterator"
    match places[i]? with
    |some (.int place _)=>
     let x <- setNextDrawn a place.toNat ep
     setField (.ref it) 1 (rawInt ((i:Int)+1))
     ret x
    |some _=>unsupported "internal:set_iterator"
    |none=>setField (.ref it) 0 (rawInt 0);setField (.ref it) 2 .none;raiseNew (<- newExc (.type "StopIteration") []))
   (λ fin s'=>∃r,fin=.done (.ret r)/\Q (some r) s') (λ e s'=>wpAny (model prog w) A (isInstance e (.type "StopIteration")) (λ b s''=>b=true/\Q none s'') E s') s):
  wpAny (model prog w) A (pyNext (.ref it)) Q E s:=by
 obtain⟨oi,hoi,hci,hdi⟩:=id hit;unfold pyNext;refine Q0 (wpAny_attempt (wpAny_callSpecial?_slot (name:=Str.ofString "__next__") hit.typeIs B3 (wpAny_call_entry B3 hit.typeIs Ax ?_ (Iy _))));refine Q0 (Q5 ?_);refine Q0 (wpAny_fieldsOf hoi hdi ?_);refine Q0 (wpAny_setEntries_of ho hd hf ?_);rw[if_neg (by rw[hn];simp)];refine wpAny_mono h (λ fin s' x=>?_) λ e s' x=>?_
 .obtain⟨r,rfl,q⟩:=x;exact⟨r,rfl,Q5 q⟩
 .refine Q0 (wpAny_mono x (λ b s'' y=>?_) λ J J z=>z);obtain⟨rfl,q⟩:=y;exact Q5 q
theorem Qkj {it:Addr}{F:Value}{i:Nat}{a:Addr}{n ep:Nat}{Q:Value->Shared->Prop}(hit:Rt s.heap it F i a n ep)(h:Q (.ref it) s):wpAny (model prog w) A (pyIter (.ref it)) Q E s:=by
 refine wpAny_pyIter_slot hit.typeIs Hl (wpAny_call_entry Hl hit.typeIs Ak ?_ (Iu _));show wpAny _ _ (ret (.ref it)) _ _ s;exact Q5 ⟨_,rfl,"set_iterator",_,hit.typeIs,B3.lookup,h⟩
end
section
variable {prog:Program}{w:World}{A:Around}{E:Value->Shared->Prop}{s:Shared}
variable {a:Addr}{o:Obj}{es:Array (Int×Value)}{ep:Nat}{t:SetTable}
theorem Wb {Q:Bool->Shared->Prop}(h:Q (w.params.followText "set-order") s):wpAny (model prog w) A setsByText Q E s:=by
 unfold setsByText;exact Q0 (wpAny_askSetting (Q5 h))
theorem Qvg {Q:Option (Value×Nat)->Shared->Prop}{slot i:Nat}(ho:s.heap.get? a=some o)(hd:o.data=.set es ep t)(hf:t.fits es.size=true)(hb:w.params.followText "set-order"=true)
  (h:Q (((pickOrder (w.params.setOrder a ep) es)[i]?).map λ e=>(e.2,slot)) s):wpAny (model prog w) A (setNext a slot i ep) Q E s:=by
 unfold setNext;refine Q0 (wpAny_setState_of ho hd hf ?_);refine Q0 (Wb ?_);rw[hb,if_pos rfl];refine wpAny_ite_split (λ q=>absurd q (by simp)) λ J=>?_;refine Q0 ?_;unfold setWalk;refine Q0 (wpAny_setState_of ho hd hf ?_);refine Q0 (Wb ?_);rw[hb,if_pos rfl];exact Q0 (wpAny_askSetting (Q5 (Q5 h)))
theorem Qmk {Q:Option (Value×Nat)->Shared->Prop}{slot i:Nat}(ho:s.heap.get? a=some o)(hd:o.data=.set es ep t)(hf:t.fits es.size=true)(hb:w.params.followText "set-order"=false)(hl:t.led=true)(h1:¬es.size>1)
  (h:Q (match es[SetTable.below t.place slot]?,t.place[SetTable.below t.place slot]? with |some (_,x),some j=>some (x,j+1) |_,_=>none) s):wpAny (model prog w) A (setNext a slot i ep) Q E s:=by
 unfold setNext;refine Q0 (wpAny_setState_of ho hd hf ?_);refine Q0 (Wb ?_);rw[hb,if_neg (by decide)];refine wpAny_ite_split (λ q=>?_) λ J=>?_
 .have q:(!t.plain&&decide (es.size>1))=true:=q;rw[Qa,decide_eq_true_eq]at q;exact absurd q.2 h1
 .refine Q0 ?_;show wpAny _ _ (if (!t.led&&!es.isEmpty)=true then unsupported "set:maker-not-led" else pure ()) _ _ _;rw[hl];refine wpAny_ite_split (λ q=>absurd q (by simp)) λ J=>Q5 (Q5 h)
theorem Qjm {Q:Value->Shared->Prop}{j:Nat}{e:Int×Value}(ho:s.heap.get? a=some o)(hd:o.data=.set es ep t)(hf:t.fits es.size=true)(he:es[j]?=some e)
  (h:Q e.2 s):wpAny (model prog w) A (setNextDrawn a j ep) Q E s:=by
 unfold setNextDrawn;refine Q0 (wpAny_setState_of ho hd hf ?_);refine wpAny_ite_split (λ q=>absurd q (by simp)) λ J=>?_;rw[he];exact Q5 h
theorem O4 {I:Addr}{n:Nat}{F:Nat->Value}{L:List Value}(hn:es.size=n)(hd:o.data=.set es ep t)(hf:t.fits es.size=true)(hF:∀i,∃k:Nat,F i=.int (k:Nat) 0)(hIa:I≠a)
  (nx:∀(A:Around) (s:Shared) (i k:Nat) (Q:Option (Value×Nat)->Shared->Prop) (E:Value->Shared->Prop),s.heap.get? a=some o->F i=.int (k:Nat) 0->(∀r,(match L[i]? with |some v=>∃m:Nat,F (i+1)=.int (m:Nat) 0/\r=some (v,m) |none=>r=none)->Q r s)->i<=L.length->wpAny (model prog w) A (setNext a k i ep) Q E s) (hh:A.handled=none):
  Walks prog w A I [I,a] [I] L.length (λ i v=>L[i]?=some v) (λ i h=>Rt h I (F i) i a n ep/\h.get? a=some o) where
 sub:=λ b hb=>by rw[Q3.mp hb];exact .head _
 frame:=λ i h h' ⟨⟨oi,h1,h2⟩,h3⟩ hk=>⟨⟨oi,hk I (.head _) _ h1,h2⟩,hk a (.tail _ (.head _)) _ h3⟩
 item:=λ i s Q E hi ⟨hit,ho⟩ hQ=>by
  obtain⟨k,hk⟩:=hF i;refine N1 hh hit ho hd hf hn ?_;rw[hk];dsimp only;refine Q0 (nx _ s i k _ _ ho hk (λ r hr=>?_) (Nat.le_of_lt hi));rw[Q7 hi]at hr;obtain⟨m,hm,rfl⟩:=hr;obtain⟨oi,hoi,hci,hdi⟩:=id hit;refine Q0 (wpAny_setField hoi hdi (by simp) ?_);have h1:Rt (s.heap.update I (Obj.mapFields (·.setIfInBounds 0 (rawInt m)))) I (F (i+1)) i a n ep:=hit.set _ (by rw[hm];simp[rawInt]);obtain⟨o1,ho1,hc1,hd1⟩:=id h1;refine Q0 (wpAny_setField ho1 hd1 (by simp) ?_);have h2:=h1.set (F':=F (i+1)) (j:=i+1) (·.setIfInBounds 1 (rawInt ((i:Int)+1))) (by simp[rawInt]);have sb:=(Heap.SameBut.update s.heap I (Obj.mapFields (·.setIfInBounds 0 (rawInt m)))).trans (Heap.SameBut.update _ I (Obj.mapFields (·.setIfInBounds 1 (rawInt ((i:Int)+1)))));refine Q5 ⟨_,rfl,hQ _ _ s.toks (Q7 hi) ⟨h2,(sb.2 a (Ne.symm hIa)).trans ho⟩ λ b o nb e=>(sb.2 b (λ q=>nb (Q3.mpr q))).trans e⟩
 done:=λ s Q E ⟨hit,ho⟩ hQ=>by
  obtain⟨k,hk⟩:=hF L.length;refine N1 hh hit ho hd hf hn ?_;rw[hk];dsimp only;refine Q0 (nx _ s L.length k _ _ ho hk (λ r hr=>?_) (Q2 _));rw[Qo (Q2 _)]at hr;subst hr;obtain⟨oi,hoi,hci,hdi⟩:=id hit;refine Q0 (wpAny_setField hoi hdi (by simp) ?_);exact Ob hh λ h' x=>hQ h' s.toks λ b o nb e=>x b o (λ q=>nb (Q3.mpr q)) (((Heap.SameBut.update s.heap I (Obj.mapFields (·.setIfInBounds 2 .none))).2 b (λ q=>nb (Q3.mpr q))).trans e)
 self:=λ i s Q E ⟨hit,_⟩ hq=>Qkj hit hq
end
section
variable {prog:Program}{w:World}{A:Around}{E:Value->Shared->Prop}{s:Shared}
variable {a:Addr}{o:Obj}{es:Array (Int×Value)}{ep:Nat}{t:SetTable}
theorem Ai {tp:Addr}{ot:Obj}{xs:Array Value}{k:Nat}{Q:Option (Array Value)->Shared->Prop}(ho:s.heap.get? tp=some ot)(hd:ot.data=.seq xs k)(h:Q (some xs) s):wpAny (model prog w) A (seqItems? (.ref tp)) Q E s:=by
 unfold seqItems?;refine Q0 (wpAny_load ho ?_);rw[hd];exact Q5 h
theorem Zy1 {h:Heap}{I:Addr}{F:Value}{i n ep:Nat}(x:Rt h I F i a n ep):Rt (h.update I (Obj.mapFields (·.setIfInBounds 0 (rawInt 0)))) I (.int 0 0) i a n ep:=x.set _ (by simp[rawInt])
theorem Qum {I tp:Addr}{n:Nat}{or:List Nat}{ot:Obj}{k:Nat}{L:List Value}(hn:es.size=n)(hd:o.data=.set es ep t)(hf:t.fits es.size=true)(hot:ot.data=.seq (or.map λ (j:Nat)=>rawInt j).toArray k)(hIa:I≠a)(hIt:I≠tp)
  (hL:L.length=or.length) (hv:∀(i j:Nat),or[i]?=some j->∃e,es[j]?=some e/\L[i]?=some e.2) (hh:A.handled=none):
  Walks prog w A I [I,a,tp] [I] L.length (λ i v=>L[i]?=some v) (λ i h=>Rt h I (.ref tp) i a n ep/\h.get? a=some o/\h.get? tp=some ot) where
 sub:=λ b hb=>by rw[Q3.mp hb];exact .head _
 frame:=λ i h h' ⟨⟨oi,h1,h2⟩,h3,h4⟩ hk=>⟨⟨oi,hk I (.head _) _ h1,h2⟩,hk a (.tail _ (.head _)) _ h3,hk tp (.tail _ (.tail _ (.head _))) _ h4⟩
 item:=λ i s Q E hi ⟨hit,ho,hto⟩ hQ=>by
  refine N1 hh hit ho hd hf hn ?_;dsimp only;refine Q0 (Ai hto hot ?_);have ho':i<or.length:=hL▸hi;obtain⟨e,he,hl⟩:=hv i or[i] (Q7 ho');have ep':(or.map λ (j:Nat)=>rawInt j).toArray[i]?=some (rawInt (or[i]:Nat)):=by
   rw[Zh,Z7,Q7 ho'];rfl
  dsimp only;rw[ep'];show wpAny _ _ (setNextDrawn a ((or[i]:Nat):Int).toNat ep >>=_) _ _ s;refine Q0 (Qjm ho hd hf he ?_);obtain⟨oi,hoi,hci,hdi⟩:=id hit;refine Q0 (wpAny_setField hoi hdi (by simp) ?_);have h2:=hit.set (F':=.ref tp) (j:=i+1) (·.setIfInBounds 1 (rawInt ((i:Int)+1))) (by simp[rawInt]);have sb:=Heap.SameBut.update s.heap I (Obj.mapFields (·.setIfInBounds 1 (rawInt ((i:Int)+1))));exact Q5 ⟨_,rfl,hQ _ _ s.toks hl ⟨h2,(sb.2 a (Ne.symm hIa)).trans ho,(sb.2 tp (Ne.symm hIt)).trans hto⟩ λ b o nb e=>(sb.2 b (λ q=>nb (Q3.mpr q))).trans e⟩
 done:=λ s Q E ⟨hit,ho,hto⟩ hQ=>by
  refine N1 hh hit ho hd hf hn ?_;dsimp only;refine Q0 (Ai hto hot ?_);have ep':(or.map λ (j:Nat)=>rawInt j).toArray[L.length]?=none:=by
   rw[Zh,Z7,Qo (by rw[hL];exact Q2 _)];rfl
  dsimp only;rw[ep'];obtain⟨oi,hoi,hci,hdi⟩:=id hit;refine Q0 (wpAny_setField hoi hdi (by simp) ?_);obtain⟨o1,ho1,hc1,hd1⟩:=Zy1 hit;refine Q0 (wpAny_setField ho1 hd1 (by simp) ?_);have sb:=(Heap.SameBut.update s.heap I (Obj.mapFields (·.setIfInBounds 0 (rawInt 0)))).trans (Heap.SameBut.update _ I (Obj.mapFields (·.setIfInBounds 2 .none)));exact Ob hh λ h' x=>hQ h' s.toks λ b o nb e=>x b o (λ q=>nb (Q3.mpr q)) ((sb.2 b (λ q=>nb (Q3.mpr q))).trans e)
 self:=λ i s Q E ⟨hit,_⟩ hq=>Qkj hit hq
theorem Qbg {led:Bool}{D:List (Str×Tok)}{Q:Value->Shared->Prop}(hS:Mi prog w s.heap a led D)(hl:led=!w.params.followText "set-order")(h0:D≠[])(hbd:D.length<scanBound)
  (h:∀(h':Heap) dr (I:Addr) (fp:List Addr) (L:List Value) (St:Nat->Heap->Prop),(∀b o,s.heap.get? b=some o->h'.get? b=some o)->s.heap.get? I=none->L.Perm (D.map λ p=>Value.str p.1 p.2)->(∀A:Around,A.handled=none->Walks prog w A I fp [I] L.length (λ i v=>L[i]?=some v) St)->St 0 h'->(∀b∈fp,b=a\/s.heap.get? b=none)->
   Q (.ref I) {s with heap:=h',drawn:=dr}):wpAny (model prog w) A (pyIter (.ref a)) Q E s:=by
 obtain⟨o,es,ep,t,ho,hex,hd,hf,⟨hle,hpl⟩,hp,hn⟩:=hS;have hT:s.TypeIs (.ref a) "set":=⟨o,ho,hex.1⟩;have hsz:es.size=D.length:=by rw[<- Zg,hp.length_eq,Q6]
 have hpv:(es.toList.map (·.2)).Perm (D.map λ p=>Value.str p.1 p.2):=by
  have:=hp.map (·.2)
  rwa [Z3]at this
 have hpos:0<es.size:=by rw[hsz];exact List.length_pos_iff.mpr h0
 refine wpAny_pyIter_slot hT PySem.F.slot_set_iter (wpAny_call_entry PySem.F.slot_set_iter hT Pq ?_ (PySem.F.args_set_iter_1 _));unfold Builtin.«frozenset.__iter__»;refine Q0 ?_;unfold Builtin.Frozenset.slot0;refine Q0 (Q5 ?_);refine Q5 ?_;unfold Builtin.Frozenset.sizeOf;refine Q0 (Q0 (wpAny_setEntries_of ho hd hf (Q5 ?_)));unfold setDrawn;refine Q0 (Q0 (wpAny_setState_of ho hd hf (Q0 (Wb ?_))));refine Q5 ?_;have ha:a<s.heap.objs.size:=Qh ho;have big:∀b,s.heap.objs.size<=b->s.heap.get? b=none:=λ b hb=>by
  cases q:s.heap.get? b with
  |none=>rfl
  |some o=>exact absurd (Qh q) (Nat.not_lt.mpr hb)
 have fin:∀(h1:Heap) dr (F:Value) (L:List Value) (fp:List Addr) (St:Nat->Heap->Prop),(∀b o,s.heap.get? b=some o->h1.get? b=some o)->s.heap.objs.size<=h1.objs.size->L.Perm (es.toList.map (·.2))->
   (∀A:Around,A.handled=none->Walks prog w A h1.objs.size fp [h1.objs.size] L.length (λ i v=>L[i]?=some v) St)->(∀h2,Rt h2 h1.objs.size F 0 a es.size ep->(∀b o,h1.get? b=some o->h2.get? b=some o)->St 0 h2)->(∀b∈fp,b=a\/s.heap.objs.size<=b)->
   wpAny (model prog w) A.in1 (do ret (<- newFields "set_iterator" [F,rawInt 0,.ref a,rawInt (es.size:Nat),rawInt (<- setEpoch a)])) (λ fin s'=>∃r,fin=.done (.ret r)/\∃T' f,s'.TypeIs r T'/\typeLookup (.type T') "__next__"=pure (some f)/\Q r s') E {s with heap:=h1,drawn:=dr}:=by
  intro h1 dr F L fp St k ge hp' Wk hst hfp;unfold setEpoch
  refine Q0 (Q0 (wpAny_setState_of (s:={s with heap:=h1,drawn:=dr}) (k _ _ ho) hd hf (Q5 ?_)))
  refine Q0 (wpAny_newObj_type ?_ (by size_fits));refine Q5 ⟨_,rfl,"set_iterator",_,⟨_,Qp _ rfl,rfl⟩,B3.lookup,?_⟩;refine h _ dr _ fp L St (λ b o e=>Q9 _ (k b o e)) ?_ (hp'.trans hpv) Wk (hst _ ⟨_,Qp _ rfl,rfl,rfl⟩ λ b o e=>Q9 _ e) λ b hb=>?_
  .exact big _ ge
  .exact(hfp b hb).imp_right (big b)
 refine wpAny_ite_split (λ q=>?_) λ q=>?_
 .refine Q0 (E9 es.size (List.range es.size) s _ List.length_range λ or dr hor=>Q0 (wpAny_newTuple ?_ ?_))
  .have hlt:∀(i j:Nat),or[i]?=some j->j<es.size:=λ i j e=>List.mem_range.mp (hor.mem_iff.mp (Y3 e));refine fin _ dr (.ref s.heap.objs.size) (or.map λ j=>(es.getD j (0,.none)).2) _ _ (λ b o e=>Q9 _ e) (by rw[size_push'];exact Nat.le_succ _) ?_ (λ A hA=>Qum (tp:=s.heap.objs.size) rfl hd hf (ot:={cls:=.type "tuple",data:=.seq (or.map λ (j:Nat)=>rawInt j).toArray}) rfl (by rw[size_push'];exact Nat.ne_of_gt (Nat.lt_succ_of_lt ha)) (by rw[size_push'];exact Nat.ne_of_gt (Zc _)) (Q6 _) (λ i j e=>?_) hA) (λ h2 hit k2=>⟨hit,k2 _ _ (Q9 _ ho),k2 _ _ (Qp _ rfl)⟩) λ b hb=>?_
   .refine(hor.map _).trans (List.Perm.of_eq (List.ext_getElem? λ i=>?_));rw[Z7,Z7];by_cases hi:i<es.size
    .rw[Q7 (by rw[List.length_range];exact hi),List.getElem_range,Array.getElem?_toList,Array.getElem?_eq_getElem hi];show some (es.getD i (0,Value.none)).2=_;rw[Array.getD,dif_pos hi];rfl
    .rw[Qo (by rw[List.length_range];lia),Qo (by rw[Zg];lia)];rfl
   .have hj:=hlt i j e;refine⟨es[j],Array.getElem?_eq_getElem hj,?_⟩;rw[Z7,e];show some (es.getD j (0,Value.none)).2=_;rw[Array.getD,dif_pos hj];rfl
   .rcases Qx.mp hb with rfl |hb
    .rw[size_push'];exact .inr (Nat.le_succ _)
    rcases Qx.mp hb with rfl |hb
    .exact .inl rfl
    .rw[Q3.mp hb];exact .inr (Q2 _)
  .rw[Q6,hor.length_eq,List.length_range,hsz];exact fits_of_scanBound hbd
 .refine Q0 (Q5 ?_);have base:∀b∈[s.heap.objs.size,a],b=a\/s.heap.objs.size<=b:=λ b hb=>by
   rcases Qx.mp hb with rfl |hb
   .exact .inr (Q2 _)
   .exact .inl (Q3.mp hb)
  cases hb:w.params.followText "set-order" with
  |true=>
   refine fin s.heap s.drawn (.int 0 0) ((pickOrder (w.params.setOrder a ep) es).toList.map (·.2)) _ _ (λ b o e=>e) (Q2 _) ((Dw _ _).map _) (λ A hA=>O4 (F:=λ J=>.int 0 0) rfl hd hf (λ i=>⟨0,rfl⟩) (Nat.ne_of_gt ha) (λ A s i k Q E ho hF hQ hi=>Qvg ho hd hf hb (hQ _ ?_)) hA) (λ h2 hit k2=>⟨hit,k2 _ _ ho⟩) base;rw[Z7,Array.getElem?_toList];cases (pickOrder (w.params.setOrder a ep) es)[i]? with
   |none=>rfl
   |some e=>exact⟨k,hF,rfl⟩
  |false=>
   have ht:t.led=true:=by rw[hle,hl,hb];rfl
   have h1:¬es.size>1:=λ z=>q (by
    show(!w.params.followText "set-order"&&(!t.plain&&decide (es.size>1)))=true;rw[hb,hpl h0,Qw z];rfl)
   have e1:es.size=1:=by lia
   have hps:t.place.size=1:=by
    unfold SetTable.fits at hf;rw[Qa,Zr]at hf;rw[hf.1,e1]
   have bl0:SetTable.below t.place 0=0:=by
    unfold SetTable.below;rw[hps];rfl
   have bl1:SetTable.below t.place (t.place.getD 0 0+1)=1:=by
    unfold SetTable.below;rw[hps];show SetTable.below.go t.place _ 1 0 1=1;unfold SetTable.below.go;rw[if_pos (by decide)];have:t.place.getD ((0+1)/2) (t.place.getD 0 0+1)=t.place.getD 0 0:=by
     have z:(0+1)/2<t.place.size:=by rw[hps];decide
     rw[Array.getD,dif_pos z,Array.getD,dif_pos z]
    dsimp only;rw[this,if_pos (Zc _)];rfl
   refine fin s.heap s.drawn (.int 0 0) (es.toList.map (·.2)) _ _ (λ b o e=>e) (Q2 _) (.refl _) (λ A hA=>O4 (F:=λ i=>.int ((if i=0 then 0 else t.place.getD 0 0+1:Nat):Nat) 0) rfl hd hf (λ i=>⟨_,rfl⟩) (Nat.ne_of_gt ha) (λ A s i k Q E ho hF hQ hi=>Qmk ho hd hf hb ht h1 (hQ _ ?_)) hA) (λ h2 hit k2=>⟨hit,k2 _ _ ho⟩) base;have hk:(k:Int)=((if i=0 then 0 else t.place.getD 0 0+1:Nat):Nat):=(Value.int.inj hF).1.symm;have hk:k=(if i=0 then 0 else t.place.getD 0 0+1):=by lia
   rw[Q6,Zg,e1]at hi;rw[Z7,Array.getElem?_toList]
   rcases Nat.le_one_iff_eq_zero_or_eq_one.mp hi with rfl |rfl
   .rw[if_pos rfl]at hk;subst hk;rw[bl0,Array.getElem?_eq_getElem (by rw[e1];decide),Array.getElem?_eq_getElem (by rw[hps];decide)];refine⟨_,rfl,?_⟩;rw[if_neg (by decide),Array.getD,dif_pos (by rw[hps];decide)];rfl
   .rw[if_neg (by decide)]at hk;subst hk;rw[bl1,Array.getElem?_eq_none (Nat.le_of_eq e1)];rfl
end
section
variable {prog:Program}{w:World}{A:Around}{E:Value->Shared->Prop}{s:Shared}
theorem Iq {x:Str}{t:Tok}{Q:Value->Shared->Prop}(hh:A.handled=none)(hb:x.cps.size+1<scanBound)
  (h:∀(h':Heap) (tk:Nat) (D:List (Str×Tok)),(∀b o,s.heap.get? b=some o->h'.get? b=some o)->Mi prog w h' s.heap.objs.size (!w.params.followText "set-order") D->D.map (·.1)=Gm x.cps.toList->Q (.ref s.heap.objs.size) {s with heap:=h',toks:=tk}):
  wpAny (model prog w) A (call (.type "set") [.str x t]) Q E s:=by
 obtain⟨c,tl,hmro⟩:=PySem.F.called_set.mro;have hmade:=PySem.F.called_set.made;have hsub:=PySem.F.called_set.sub;refine wpAny_call (codeAny_of_tree ?_);show wpAny _ _ (callAny (.type "set") _) _ _ _;refine Q5 ⟨Code.quiet_builtin _ (by decide +kernel),codeAny_builtin PySem.F.entry_type_call ?_⟩;rw[Around.under_plain (weight_type_call_type "set" [.str x t] []) rfl];have h1:=PySem.F.called_set.notType;have h2:=PySem.F.called_set.canCreate;have hct:=PySem.F.typeCall_set_1 (.str x t)
 repeat (any_goals (first |assumption |wp_step))
 generalize hled:(!w.params.followText "set-order")=led at h
 refine codeAny_mono (Qhg (.str x t) (E:=E) (Q₁:=λ obj s₁=>obj=.ref s.heap.objs.size/\s₁={s with heap:=s.heap.push {cls:=.type "set",dict:=none,data:=.set #[] 0 (.fresh 0 0 led)}}) ⟨rfl,by rw[hled]⟩) λ r s₁ hr=>?_
 cases r with
 |error e=>exact hr
 |ok fl=>
  cases fl with
  |ret obj=>
   obtain⟨rfl,rfl⟩:=hr;have hS:(s.heap.push {cls:=.type "set",dict:=none,data:=.set #[] 0 (.fresh 0 0 led)}).get? s.heap.objs.size=some {cls:=.type "set",dict:=none,data:=.set #[] 0 (.fresh 0 0 led)}:=Qp _ rfl
   have hT:Shared.TypeIs {s with heap:=s.heap.push {cls:=.type "set",dict:=none,data:=.set #[] 0 (.fresh 0 0 led)}} (.ref s.heap.objs.size) "set":=⟨_,hS,rfl⟩
   have hli:=PySem.F.called_set.init.lookup;have hbi:=PySem.F.called_set.init.bind (.ref s.heap.objs.size)
   repeat (any_goals (first |assumption |wp_step))
   refine codeAny_mono (codeAny_call_builtin (R:=wants (λ r s₂=>r=.none/\∃h' tk D,s₂={s with heap:=h',toks:=tk }/\Mi prog w h' s.heap.objs.size led D/\D.map (·.1)=Gm x.cps.toList/\
     (∀b o,s.heap.get? b=some o->h'.get? b=some o)) E) PySem.F.called_set.init.plain PySem.F.entry_set_init (check_set_init_1 hT ?_)) λ r₂ s₂ hr₂=>?_
   .have hsls:=PySem.F.sub_str_set;have hslf:=D0;have hne:(Value.type "str"==Value.type "dict")=false:=by decide
    unfold Builtin.«set.__init__» noKeywords Builtin.Frozenset.updateFrom;generalize hPI:pyIter=PI
    wp_walk
    subst hPI;refine Qp4 λ o St Wk st=>?_;refine Q0 (wpAny_runValue ?_);have hh3:A.in1.in1.in1.handled=none:=by simp[hh]
    have hsz:(s.heap.push {cls:=.type "set",dict:=none,data:=.set #[] 0 (.fresh 0 0 led)}).objs.size=s.heap.objs.size+1:=Heap.size_push _ _;refine Zwq (led:=led) (Wk _ hh3) (λ q=>?_) (.head _) hb (x.cps.size-0) 0 _ [] (by lia) (Zy _) st ?_ rfl λ h' tk D kp hs' hD=>?_
    .rw[Q3,hsz]at q;exact absurd q (Zj (Zc _))
    .exact⟨_,#[],0,_,Q9 _ hS,⟨rfl,rfl,rfl⟩,rfl,rfl,⟨rfl,λ q=>absurd rfl q⟩,.refl _,List.nodup_nil⟩
    .show wpAny _ _ _ _ _ _;refine Q5 ?_;show wpAny _ _ (ret Value.none) _ _ _;refine Q5 ⟨rfl,h',tk,D,rfl,hs',hD,λ b o e=>?_⟩;have hlt:=Qh e;exact kp b o (Zj hlt) (by rw[hsz];exact Zj (Nat.lt_succ_of_lt hlt)) (Q9 _ (Q9 _ e))
   .cases r₂ with
    |error e=>exact hr₂
    |ok fl₂=>
     cases fl₂ with
     |ret r=>
      obtain⟨rfl,h',tk,D,rfl,hS',hD,hk'⟩:=hr₂
      repeat (any_goals (first |assumption |wp_step))
      exact h _ _ D hk' hS' hD
     |_=>exact hr₂.elim
  |_=>exact hr.elim
end
section
variable {prog:Program}{w:World}{A:Around}{E:Value->Shared->Prop}{s:Shared}
theorem Qpj {r:Addr}{Q:Bool->Shared->Prop}(hT:s.TypeIs (.ref r) "set")(h:Q false s):wpAny (model prog w) A (Builtin.List.listLengthHint (.ref r)) Q E s:=by
 unfold Builtin.List.listLengthHint;refine Q0 (wpAny_specialOf hT PySem.F.slot_set_len.lookup ?_);generalize hid:("set.__len__":String)=id0
 wp_delta
 rw[show splitId id0=some ("set","__len__") from by subst hid;decide +kernel];subst hid;refine Q0 (wpAny_isInstance (T:="set") (b:=true) hT (by rw[isSubtype_type];kernel_rfl) ?_);refine wpAny_ite_split (λ hab=>absurd hab (by decide)) (λ J=>?_);refine wpAny_ite_split (λ J=>?_) (λ hab=>absurd (by decide +kernel) hab);refine Q0 (wpAny_typeOf hT ?_);exact Q5 h
theorem Qqo {a:Addr}{led:Bool}{D:List (Str×Tok)}{Q:List Value->Shared->Prop}(hh:A.handled=none)(hS:Mi prog w s.heap a led D)(hl:led=!w.params.followText "set-order")(h0:D≠[])(hbd:D.length<scanBound)
  (h:∀(h':Heap) tk dr (L:List Value),(∀b o,s.heap.get? b=some o->h'.get? b=some o)->L.Perm (D.map λ p=>Value.str p.1 p.2)->Q L {s with heap:=h',toks:=tk,drawn:=dr}):
  wpAny (model prog w) A (collect (.ref a)) Q E s:=by
 unfold collect;refine Q0 (wpAny_runValue (codeAny_builtin entry_proto_collect' ?_));rw[Around.under_plainId PySem.F.plain_proto_collect _];show wpAny _ A.in1 (newList [] >>=λ l=>again (.builtin "list.__iadd__" ⟨[l,.ref a],[]⟩)) _ _ s;refine Q0 (wpAny_newObj_type ?_);refine Q5 ⟨plainId_quiet PySem.F.plain_list_iadd _,codeAny_builtin entry_list_iadd' ?_⟩;rw[Around.under_plainId PySem.F.plain_list_iadd _];show wpAny _ A.in1 (Builtin.List.listExtendWith (.ref s.heap.objs.size) (.ref a) (.ref s.heap.objs.size)) _ _ _;obtain⟨o,es,ep,t,ho,hex,r⟩:=id hS;have ha:a<s.heap.objs.size:=Qh ho;have hSl:(s.heap.push {cls:=.type "list",data:=.seq ([]:List Value).toArray}).get? s.heap.objs.size=some {cls:=.type "list",data:=.seq #[]}:=Qp _ rfl;have hS1:Mi prog w (s.heap.push {cls:=.type "list",data:=.seq ([]:List Value).toArray}) a led D:=⟨o,es,ep,t,Q9 _ ho,hex,r⟩;unfold Builtin.List.listExtendWith;refine Q0 (wpAny_typeOf (T:="set") ⟨o,Q9 _ ho,hex.1⟩ ?_);have h1:Builtin.List.listSameRef (.ref s.heap.objs.size) (.ref a)=false:=by simp[Builtin.List.listSameRef];exact Nat.ne_of_gt ha
 have h2:(Value.type "set"==Value.type "list")=false:=by decide
 have h3:(Value.type "set"==Value.type "tuple")=false:=by decide
 simp only[h1,h2,h3,Bool.or_false,Bool.false_eq_true,if_false]
 refine Q0 (Qbg (s:={s with heap:=s.heap.push {cls:=.type "list",data:=.seq ([]:List Value).toArray}}) hS1 hl h0 hbd λ h' dr I fp L St k nI hp Wk st hfp=>?_)
 have hT':Shared.TypeIs {s with heap:=h',drawn:=dr} (.ref a) "set":=⟨o,k _ _ (Q9 _ ho),hex.1⟩
 have hS':h'.get? s.heap.objs.size=some {cls:=.type "list",data:=.seq #[]}:=k _ _ hSl;have nS:s.heap.objs.size∉fp:=λ q=>(hfp _ q).elim (λ z=>absurd z (Nat.ne_of_gt ha)) λ z=>by rw[hSl]at z;cases z
 have nSI:s.heap.objs.size≠I:=λ q=>by rw[<- q,hSl]at nI;cases nI
 have kS:∀b o,s.heap.get? b=some o->b≠s.heap.objs.size:=λ b o e q=>absurd (Qh e) (by rw[q];exact Y6 _);have kI:∀b o,s.heap.get? b=some o->b≠I:=λ b o e q=>by
  have:=Q9 {cls:=.type "list",data:=.seq ([]:List Value).toArray} e;rw[q,nI]at this;cases this
 have key:∀(h2:Heap) (c₁:Nat),St 0 h2->(∀b o,s.heap.get? b=some o->h2.get? b=some o)->h2.get? s.heap.objs.size=some {cls:=.type "list",data:=.seq #[] c₁ }->
   codeAny (model prog w) A (.builtin "list.extend.loop" ⟨[.ref s.heap.objs.size,.ref I,.ref s.heap.objs.size],[]⟩) (λ r s'=>∃(h':Heap) (tk:Nat) (acc:Array Value) (c':Nat),r=.ok (.ret (.ref s.heap.objs.size))/\s'={s with heap:=h',toks:=tk,drawn:=dr }/\(∀b o,s.heap.get? b=some o->h'.get? b=some o)/\
    h'.get? s.heap.objs.size=some {cls:=.type "list",dict:=none,data:=.seq acc c',slots:=#[] }/\ItemsOf (λ i v=>L[i]?=some v) acc L.length) {s with heap:=h2,drawn:=dr}:=by
  intro h2 c₁ hst hk hS₁;refine codeAny_extend_loopS (Wk A.in1 (by simpa using hh)).toS (by rw[hp.length_eq,Q6];exact fits_of_scanBound hbd) s.heap.objs.size nS (.ref s.heap.objs.size) L.length 0 _ #[] c₁ rfl (Zy _) hst hS₁ (ItemsOf.nil _) λ s' acc' c' hm hS' hacc=>?_;rw[Moved.eq_with hm];refine⟨s'.heap,s'.toks,acc',c',rfl,rfl,λ b o e=>hm.heap b o (λ hmem=>?_) (hk b o e),hS',hacc⟩
  rcases Qx.mp hmem with e' |hmem
  .exact kS b o e e'
  .exact kI b o e (Q3.mp hmem)
 refine Q0 (Z1 (Qpj hT' ?_))
 have fin:∀{r:Result} {s':Shared},(∃(h':Heap) (tk:Nat) (acc:Array Value) (c':Nat),r=.ok (.ret (.ref s.heap.objs.size))/\s'={s with heap:=h',toks:=tk,drawn:=dr }/\(∀b o,s.heap.get? b=some o->h'.get? b=some o)/\
    h'.get? s.heap.objs.size=some {cls:=.type "list",dict:=none,data:=.seq acc c',slots:=#[] }/\ItemsOf (λ i v=>L[i]?=some v) acc L.length)->match r with
    |.ok (.ret v)=>wpAny (model prog w) A (do match v with
      |.ref a=>do
       let o <- load a
       match o.data with
       |.seq xs _=>pure xs.toList
       |_=>unsupported "internal:collect"
      |_=>unsupported "internal:collect") Q E s'
    |.ok _=>False
    |.error e=>E e s':=by
  rintro r s' ⟨h',tk,acc,c',rfl,rfl,hk,hS',hacc⟩
  show wpAny _ A (load s.heap.objs.size >>=_) _ _ _;refine Q0 (wpAny_load hS' (Q5 (h h' tk dr _ hk ?_)));have:acc.toList=L:=by
   refine List.ext_getElem? λ i=>?_
   rcases Nat.lt_or_ge i L.length with q |q
   .have qa:i<acc.size:=by rw[hacc.1];exact q
    have:=hacc.2 i acc[i] (Array.getElem?_eq_getElem qa);rw[this,Array.getElem?_toList,Array.getElem?_eq_getElem qa]
   .rw[Qo q,Qo (by rw[Zg,hacc.1];exact q)]
  rw[this];exact hp
 have cod:∀{c:Code} {s':Shared},codeAny (model prog w) A c (λ r s'=>∃(h':Heap) (tk:Nat) (acc:Array Value) (c':Nat),r=.ok (.ret (.ref s.heap.objs.size))/\s'={s with heap:=h',toks:=tk,drawn:=dr }/\(∀b o,s.heap.get? b=some o->h'.get? b=some o)/\
    h'.get? s.heap.objs.size=some {cls:=.type "list",dict:=none,data:=.seq acc c',slots:=#[] }/\ItemsOf (λ i v=>L[i]?=some v) acc L.length) s'->codeAny (model prog w) A c _ s':=λ x=>codeAny_mono x λ r s' y=>fin y
 refine wpAny_ite_split (λ J=>?_) (λ J=>Q5 ⟨plainId_quiet PySem.F.plain_extend_loop _,cod (key _ _ st (λ b o e=>k b o (Q9 _ e)) hS')⟩);refine Q0 (wpAny_rule ?_);refine Q0 ?_;show wpAny _ _ (updateSeq s.heap.objs.size (·.push .none) >>=λ J=>updateSeq s.heap.objs.size (·.pop)) _ _ _;refine Q0 (wpAny_updateSeq hS' rfl ?_);have hS₂:=Heap.get?_update_self (Obj.mapSeq (·.push Value.none)) hS' rfl;refine wpAny_updateSeq (hz:=by seq_fits) hS₂ rfl ?_;have hS₃:=Heap.get?_update_self (Obj.mapSeq (·.pop)) hS₂ rfl;refine Q5 ⟨plainId_quiet PySem.F.plain_extend_loop _,cod (key _ _ ?_ (λ b o e=>?_) hS₃)⟩
 .refine(Wk A.in1 (by simpa using hh)).frame 0 _ _ st λ b hb o e=>?_;have hbS:b≠s.heap.objs.size:=λ h=>nS (h▸hb);exact(Heap.get?_update_other _ _ (Ne.symm hbS)).trans ((Heap.get?_update_other _ _ (Ne.symm hbS)).trans e)
 .have hb:=kS b o e;exact(Heap.get?_update_other _ _ (Ne.symm hb)).trans ((Heap.get?_update_other _ _ (Ne.symm hb)).trans (k b o (Q9 _ e)))
end
section
variable {prog:Program}{w:World}{A:Around}{E:Value->Shared->Prop}{s:Shared}
theorem Qwi {L:List Value}{D:List (Str×Tok)}(h:L.Perm (D.map λ p=>Value.str p.1 p.2)):∃ss,StrsAre L ss/\ss.Perm (D.map (·.1)):=by
 have hs:∀v∈L,∃x t,v=Value.str x t:=λ v hv=>by
  obtain⟨p,_,rfl⟩:=Qv.mp (h.mem_iff.mp hv);exact⟨_,_,rfl⟩
 refine⟨_,strsAre_map L hs,?_⟩;have:=h.map strOf
 rwa [Z3]at this
theorem Qj4 {a:Addr}{led:Bool}{D:List (Str×Tok)}{Q:Value->Shared->Prop}(hh:A.handled=none)(hS:Mi prog w s.heap a led D)(hl:led=!w.params.followText "set-order")(h0:D≠[])(hbd:D.length<64)
  (h:∀(h':Heap) tk dr (a':Addr) (vs:List Value) (ss:List Str),(∀b o,s.heap.get? b=some o->h'.get? b=some o)->s.heap.get? a'=none->h'.PlainList a' vs.toArray->StrsAre vs ss->ss.Perm (D.map (·.1))->sortedS ss=true->Q (.ref a') {s with heap:=h',toks:=tk,drawn:=dr}):
  wpAny (model prog w) A (call (.builtin "sorted") [.ref a]) Q E s:=by
 refine Calls.call_function_entry kind_sorted plain_sorted entry_sorted (args_sorted1 _) ?_;unfold Builtin.«sorted»;refine Q0 (m:=checkCount "sorted" 1 1 _) (Q5 ?_);refine Q0 (Qqo (by simpa using hh) hS hl h0 (by unfold scanBound;lia) λ h' tk dr L k hp=>?_);have hlen:L.length<64:=by rw[hp.length_eq,Q6];exact hbd
 obtain⟨ss,hss,hsp⟩:=Qwi hp;refine Q0 (wpAny_newList ?_ (by rw[Zv];lia));have hoL:(h'.push (seqObj "list" L.toArray 0)).get? h'.objs.size=some (seqObj "list" L.toArray 0):=Qp _ rfl;refine Q0 (Z1 (wpAny_call_entry slot_list_sort ⟨_,hoL,rfl⟩ entry_list_sort (list_sort_treeK strKind_oneLt hoL hss.keysOf (λ v₁ v₂ rest e=>keyKind_strs (by rw[<- e];exact hss)) hlen λ st' a1 a2=>⟨_,rfl,?_⟩) (args_list_sort _)));obtain⟨ss',h1,h2,h3⟩:=sorted_out_str hss a1 a2;obtain⟨c,hc⟩:=sortedHeap_at (vs:=L) (out:=(arrOf st').map (·.2)) hoL;have old:∀b o,s.heap.get? b=some o->(sortedHeap (h'.push (seqObj "list" L.toArray 0)) h'.objs.size L ((arrOf st').map (·.2))).get? b=some o:=λ b o e=>by
  have e1:=k b o e;have hb:b≠h'.objs.size:=Zj (Qh e1);exact(sortedHeap_old hb (by rw[size_push'];exact Nat.lt_succ_of_lt (Qh e1))).trans (Q9 _ e1)
 refine Q5 ⟨_,rfl,h _ tk dr h'.objs.size ((arrOf st').map (·.2)).toList ss' old ?_ ⟨c,by rw[Array.toArray_toList];exact hc⟩ h1 (h2.trans hsp) h3⟩;cases q:s.heap.get? h'.objs.size with
 |none=>rfl
 |some o=>exact absurd (Qh (k _ _ q)) (Y6 _)
theorem D7 {x:Str}{t:Tok}{Q:Value->Shared->Prop}(hh:A.handled=none)(h0:x.cps.toList≠[])(hb:x.cps.size<64)
  (h:∀(h':Heap) tk dr (a':Addr) (vs:List Value) (ss:List Str),(∀b o,s.heap.get? b=some o->h'.get? b=some o)->s.heap.get? a'=none->h'.PlainList a' vs.toArray->StrsAre vs ss->ss.Perm (Gm x.cps.toList)->sortedS ss=true->Q (.ref a') {s with heap:=h',toks:=tk,drawn:=dr}):
  wpAny (model prog w) A (call (.type "set") [.str x t]) (λ w1 s1=>wpAny (model prog w) A (call (.builtin "sorted") [w1]) Q E s1) E s:=by
 refine Iq hh (by unfold scanBound;lia) λ h1 tk D k hS hD=>?_;have dl:D.length<=x.cps.size:=by
  have:=Zm List.length hD;rw[Q6]at this;rw[this,<- Zg];exact Ch _
 refine Qj4 (s:={s with heap:=h1,toks:=tk}) hh hS rfl (λ e=>?_) (by lia) λ h2 tk2 dr a' vs ss k2 nA hl hs hp so=>h h2 tk2 dr a' vs ss (λ b o e=>k2 b o (k b o e)) ?_ hl hs (hp.trans (List.Perm.of_eq hD)) so
 .subst e;cases q:x.cps.toList with
  |nil=>exact h0 q
  |cons c l=>
   rw[q]at hD;have:(⟨#[c]⟩:Str)∈Gm (c::l):=by
    have mono:∀(l:List Nat) (D:List Str),(⟨#[c]⟩:Str)∈D->(⟨#[c]⟩:Str)∈l.foldl (λ D c=>if (⟨#[c]⟩:Str)∈D then D else D++[⟨#[c]⟩]) D:=λ l=>by
     induction l with
     |nil=>exact λ D h=>h
     |cons b l ih=>
      intro D h;refine ih _ ?_;show _∈(if (⟨#[b]⟩:Str)∈D then D else D++[⟨#[b]⟩]);split
      .exact h
      .exact List.mem_append_left _ h
    refine mono l _ ?_;show _∈(if (⟨#[c]⟩:Str)∈([]:List Str) then([]:List Str) else []++[⟨#[c]⟩]);rw[if_neg (λ h=>nomatch h)];exact .head _
   rw[<- hD]at this;cases this
 .cases q:s.heap.get? a' with
  |none=>rfl
  |some o=>
   have:=k _ _ q;have nA:h1.get? a'=none:=nA;rw[nA]at this;cases this
end
inductive Np:List (Str×Value)->List (Str×Str)->Prop
 |nil:Np [] []
 |cons (k y:Str) (t:Tok) {kvs g}:Np kvs g->Np ((k,.str y t)::kvs) ((k,y)::g)
noncomputable def sto (g:List (Str×Str))(k y:Str):List (Str×Str):=if g.any (λ p=>p.1=k) then g.map (λ p=>if p.1=k then(p.1,y) else p) else g++[(k,y)]
theorem Np.any {kvs:List (Str×Value)}{g:List (Str×Str)}{k:Str}(h:Np kvs g):kvs.any (λ p=>p.1=k)=g.any (λ p=>p.1=k):=by
 induction h with
 |nil=>rfl
 |cons a y t _ ih=>rw[List.any_cons,List.any_cons,ih]
theorem Np.store {kvs:List (Str×Value)}{g:List (Str×Str)}{k y:Str}{t:Tok}(h:Np kvs g):Np (stored kvs k (.str y t)) (sto g k y):=by
 unfold stored sto;rw[h.any];cases g.any (λ p=>p.1=k) with
 |true=>
  rw[if_pos rfl,if_pos rfl];induction h with
  |nil=>exact .nil
  |cons a z u _ ih=>
   rw[Qu,Qu];by_cases q:a=k
   .rw[if_pos q,if_pos q];exact .cons _ _ _ ih
   .rw[if_neg q,if_neg q];exact .cons _ _ _ ih
 |false=>
  rw[if_neg Zu,if_neg Zu];induction h with
  |nil=>exact .cons _ _ _ .nil
  |cons a z u _ ih=>exact .cons _ _ _ ih
theorem Np.len {kvs:List (Str×Value)}{g:List (Str×Str)}(h:Np kvs g):kvs.length=g.length:=by
 induction h with
 |nil=>rfl
 |cons a y t _ ih=>exact Zm Nat.succ ih
theorem Np.vrs {l:Lay}{h:Heap}{kvs:List (Str×Value)}{g:List (Str×Str)}(x:Np kvs g):∃items,kvs=(g.map (·.1)).zip items/\(g.map (·.1)).length=items.length/\Y0 l h (g.map λ p=>V.str p.2) items:=by
 induction x with
 |nil=>exact⟨[],rfl,rfl,.nil⟩
 |cons a y t _ ih=>
  obtain⟨items,rfl,e,r⟩:=ih;exact⟨.str y t::items,rfl,Zm Nat.succ e,.cons (.str _ _) r⟩
theorem Ru {W:Qj}{h h':Heap}{a:Addr}{kvs:List (Str×Value)}(x:h.DictOf (PySem.strKind W.prog W.w) a kvs)(k:∀o,h.get? a=some o->h'.get? a=some o):h'.DictOf (PySem.strKind W.prog W.w) a kvs:=
 let ⟨o,es,ep,ho,r⟩:=x;⟨o,es,ep,k o ho,r⟩
structure GD (W:Qj)(c:Cx)(n:Nat)(D:Addr)(g:List (Str×Str))(l:Lay)(s:Shared):Prop where
 x:l.x[n]?=some (.ref D)
 N:l.N D
 ap:Apart c l D
 lo:(D==sysModules)=false
 nb:¬c.B D
 at_:∃kvs,Np kvs g/\s.heap.DictOf (PySem.strKind W.prog W.w) D kvs
theorem B6 (W:Qj)(c:Cx)(n:Nat)(D:Addr):Ca c (·=D) (GD W c n D) where
 live:=λ h z=>z▸h.N
 ow:=λ {g l st s X l' st' s'} h z ow=>by
  obtain⟨kvs,hk,hd⟩:=h.at_;have hk':=hd;obtain⟨o,es,ep,ho,_⟩:=hk';refine⟨ow.x _ _ h.x,ow.N _ h.N,⟨h.ap.L,h.ap.h0,h.ap.loc,h.ap.cell,λ m b e q=>?_⟩,h.lo,h.nb,kvs,hk,Ru hd λ o ho=>ow.keep D o ho (z D rfl) (λ q=>h.ap.loc q) (λ x q=>h.ap.cell x D q rfl) (λ m q=>h.ap.own m D q rfl)⟩
  rcases ow.new m b e with e |e
  .exact h.ap.own m b e q
  .rw[q,ho]at e;cases e
 less:=λ {g l s s' i} h z k=>⟨h.x,⟨h.N,λ q=>z q.symm⟩,⟨h.ap.L,h.ap.h0,h.ap.loc,h.ap.cell,h.ap.own⟩,h.lo,h.nb,let ⟨kvs,hk,hd⟩:=h.at_;⟨kvs,hk,Ru hd λ o ho=>k.get (λ q=>z q.symm) ho⟩⟩
section
variable {γ:Type}{W:Qj}{c:Cx}{Z:Addr->Prop}{Γ:γ->Lay->Shared->Prop}{loc:Loc}{st:Q4}{g:γ}{K:Fl->Loc->Q4->γ->Prop}
theorem Qe0 (G:Ca c Z Γ){t:Sem Flow}(h:XS W c t loc st λ fl loc' st'=>K fl loc' st' g):XG W c Z Γ t loc st g K:=λ l s Q E hR hG hQ=>
 h l s Q E hR λ fl fw loc' st' l' s' sm tk ow hR' hf h'=>hQ fl fw loc' st' g l' s' sm tk (ow.mono λ J q=>q.elim) hR' (G.ow hG (λ J J q=>q) ow) hf h'
def Qmw (P:Loc->Q4->γ->Prop)(K:Fl->Loc->Q4->γ->Prop):Fl->Loc->Q4->γ->Prop:=λ fl loc st g=>fl.rec (motive:=λ J=>Prop) (P loc st g) (K .brk loc st g) (K .cont loc st g) λ v=>K (.ret v) loc st g
theorem E5 {a:Stmt}{r:List Stmt}(h:XG W c Z Γ (exec a c.env) loc st g (Qmw (λ loc' st' g'=>XG W c Z Γ (execs r c.env) loc' st' g' K) K)):XG W c Z Γ (execs (a::r) c.env) loc st g K:=λ l s Q E hR hG hQ=>by
 rw[execs_cons];refine Q0 (h l s _ E hR hG λ fl fw loc' st' g' l' s' sm tk ow hR' hG' hf h'=>?_);cases fl with
 |next=>cases hf;exact h' l' s' Q E hR' hG' λ fl fw loc'' st'' g'' l'' s'' sm2 tk2 ow2 hR2 hG2 hf2 h2=>hQ fl fw loc'' st'' g'' l'' s'' (sm.trans sm2) (Q1 tk tk2) (ow.trans ow2) hR2 hG2 hf2 h2
 |brk=>cases hf;exact Q5 (hQ _ _ _ _ _ _ _ sm tk ow hR' hG' .brk h')
 |cont=>cases hf;exact Q5 (hQ _ _ _ _ _ _ _ sm tk ow hR' hG' .cont h')
 |ret v=>obtain⟨w,rfl,v⟩:=hf;exact Q5 (hQ _ _ _ _ _ _ _ sm tk ow hR' hG' (.ret v) h')
theorem Quz (h:K .next loc st g):XG W c Z Γ (execs [] c.env) loc st g K:=λ l s Q E hR hG hQ=>
 wpAny_execs_nil (hQ _ _ _ _ _ _ _ (Z6.refl s) (Q2 _) OW.refl hR hG .next h)
structure XGB (W:Qj)(c:Cx)(Z:Addr->Prop)(Γ:γ->Lay->Shared->Prop)(ss:List Stmt)(loc:Loc)(st:Q4)(g:γ)(K:Fl->Loc->Q4->γ->Prop):Prop where
 go:XG W c Z Γ (execs ss c.env) loc st g K
theorem Ao (G:Ca c Z Γ){F:Fs}{owns:List Str}{kd:Kd}{bnd:List Str}(H:Vl W F kd bnd c){a:Stmt}{r:List Stmt}(h:rd F owns kd bnd a loc st λ fl loc' st'=>Qmw (λ loc' st' g'=>XGB W c Z Γ r loc' st' g' K) K fl loc' st' g):XGB W c Z Γ (a::r) loc st g K:=
 ⟨E5 (Qe0 G ((at_ H h).go.mono λ fl loc' st' q=>by
  cases fl with
  |next=>exact XGB.go q
  |_=>exact q))⟩
end
section
variable {W:Qj}{c:Cx}{loc:Loc}{st:Q4}{n:Nat}{D:Addr}{g:List (Str×Str)}
theorem RS.reval {l:Lay}{s:Shared}(h:RS c l loc st s){x:Str}{u v:V}(hx:loc.lookup x=some u)(hb:c.bnd.contains x=false)(hv:∀w,VR l s.heap u w->VR l s.heap v w):RS c l (Yx loc x v) st s:=by
 refine⟨⟨h.r.fr,?_,h.r.lists,h.r.low,h.r.tk,h.r.loN,h.r.clN,h.r.owN⟩,h.hB,h.own,h.cel,h.lL,h.fr,h.al,h.inj,h.cinj,h.cells⟩;obtain⟨ml,hn,hL,hB⟩:=h.r.names;refine⟨ml,hn,λ y z e=>?_,λ y hy z e=>?_⟩
 .rw[Bh]at e;by_cases q:y=x
  .subst q;rw[if_pos rfl]at e;cases e;obtain⟨w,h1,h2⟩:=hL y u hx;exact⟨w,hv w h1,h2⟩
  .rw[if_neg q]at e;exact hL y z e
 .have ne:y≠x:=λ q=>nomatch (Zd.mpr (q▸hy)).symm.trans hb;rw[Bh,if_neg ne]at e;exact hB y hy z e
noncomputable def Tu (W:Qj)(g:List (Str×Str)):V:=.dict (PySem.strKind W.prog W.w).hash (g.map (·.1)) (g.map λ p=>.str p.2)
theorem GD.vr {l:Lay}{s:Shared}(h:GD W c n D g l s){l':Lay}(hn:¬l'.N D):VR l' s.heap (Tu W g) (.ref D):=by
 obtain⟨kvs,hk,hd⟩:=h.at_;obtain⟨items,rfl,e,r⟩:=hk.vrs (l:=l') (h:=s.heap);exact .dict hn ⟨W.prog,W.w,rfl,h.lo,e,hd⟩ r
theorem RS.frozen {l:Lay}{s:Shared}(h:RS c l loc st s)(hg:GD W c n D g l s){x:Str}(hx:loc.lookup x=some (.ext n))(hb:c.bnd.contains x=false):RS c (l.less D) (Yx loc x (Tu W g)) st s:=by
 have h':=h.done KX.refl (Q2 _) hg.N hg.ap hg.nb;refine h'.reval hx hb λ w hw=>?_;have e:l.x[n]?=some w:=hw;rw[hg.x]at e;cases e;exact hg.vr λ q=>q.2 rfl
end
section
open Sem (wp)
theorem Qk3 {M:Model}{A:Around}{E:Value->Shared->Prop}{env:Env}{s:Shared}{o i:Expr}{pos:Pos}{v:Value}{Q:Unit->Shared->Prop}
  (h:wpAny M A (eval o env) (λ ov s₂=>wpAny M A (eval i env) (λ iv s₃=>wpAny M A (setItem ov iv v) (λ J=>Q ()) E s₃) E s₂) E s):wpAny M A (assign (.Subscript o i pos) env v) Q E s:=by
 rw[assign_Subscript];exact Q0 (Z1 (wpAny_mono h (λ ov s₂ h₂=>Q0 (Z1 (wpAny_mono h₂ (λ iv s₃ h₃=>Q0 (wpAny_standAt (Q0 (Z1 (wpAny_mono h₃ (λ J s₄ h₄=>wpAny_release h₄) λ J J h=>h))))) λ J J h=>h))) λ J J h=>h))
section
variable {W:Qj}{c:Cx}{loc:Loc}{st:Q4}{n:Nat}{D:Addr}{g:List (Str×Str)}{K:Fl->Loc->Q4->List (Str×Str)->Prop}
theorem Qc1 {x:Str}{t:Expr}{a:List Stmt}{pos:Pos}(hx:loc.lookup x=some (.ext n))(hb:c.bnd.contains x=false)
  (h:Ps W c t (Yx loc x (Tu W g)) st λ q=>cond q (XG W c (·=D) (GD W c n D) (execs a c.env) loc st g K) (K .next loc st g)):XG W c (·=D) (GD W c n D) (exec (.If t a [] pos) c.env) loc st g K:=λ l s Q E hR hG hQ=>by
 refine wpAny_If (h (l.less D) s _ E (hR.frozen hG hx hb).r λ q s1 k1 t1 h1=>?_);have hG1:GD W c n D g l s1:=(B6 W c n D).ow hG (λ J J q=>q) (OW.keeps (c:=c) (st:=st) k1);refine Jo h1 (λ h1=>?_) λ h1=>?_
 .exact h1 l s1 Q E (hR.keeps k1 t1) hG1 λ fl fw loc' st' g' l' s' sm tk ow hR' hG' hf h'=>
   hQ fl fw loc' st' g' l' s' ((Z6.ofK k1).trans sm) (Q1 t1 tk) ((OW.keeps k1).trans ow) hR' hG' hf h'
 .exact wpAny_execs_nil (hQ _ _ _ _ _ _ _ (Z6.ofK k1) t1 (OW.keeps k1) (hR.keeps k1 t1) hG1 .next h1)
theorem Qs4 (O:Ok W c){l:Lay}{s:Shared}(hR:RS c l loc st s)(hG:GD W c n D g l s){k y:Str}{t u:Tok}(hz:g.length<=sizeLine){Q:Unit->Shared->Prop}{E:Value->Shared->Prop}
  (hQ:∀s',Z6 s s'->s.toks<=s'.toks->KX (·=D) s s'->OW c (·=D) l st s l st s'->RS c l loc st s'->GD W c n D (sto g k y) l s'->Q () s'):wpAny (model W.prog W.w) c.A (setItem (.ref D) (.str k u) (.str y t)) Q E s:=by
 obtain⟨kvs,hk,hd⟩:=hG.at_;refine wpAny_setItem_pairs (knd:=PySem.strKind W.prog W.w) (k:=k) (strKind_is _ _ _ _) hd (λ h' hd' hs=>?_) (by rw[hk.len];exact hz)
 have kx:KX (·=D) s {s with heap:=h',toks:=s.toks+1}:=⟨h',_,rfl,λ b o q e=>(hs.2 b q).trans e⟩
 have tk:s.toks<=s.toks+1:=Nat.le_succ _;obtain⟨hR',ow⟩:=hR.kx1 kx tk hG.N hG.ap (let ⟨o,_,_,ho,_⟩:=hd';⟨o,ho⟩);exact hQ _ (Z6.of kx) tk kx ow hR' ⟨hG.x,hG.N,hG.ap,hG.lo,hG.nb,_,hk.store,hd'⟩
theorem Qmy (O:Ok W c){l:Lay}{s:Shared}(hR:RS c l loc st s)(hG:GD W c n D g l s){x:Str}{np:Pos}(hx:loc.lookup x=some (.ext n))(hcd:(x==("__classdict__":Str))=false)(hd:(x==("__debug__":Str))=false){Q:Value->Shared->Prop}{E:Value->Shared->Prop}
  (hQ:Q (.ref D) s):wpAny (model W.prog W.w) c.A (eval (.Name x np) c.env) Q E s:=
 wpAny_Name (J4 O hR.r hx hcd λ w hw=>by
  have e:l.x[n]?=some w:=hw;rw[hG.x]at e;cases e;exact hQ) hd
theorem Qwp (O:Ok W c){x:Str}{np ip pos vp:Pos}{i va vb:Expr}(hx:loc.lookup x=some (.ext n))(hcd:(x==("__classdict__":Str))=false)(hd:(x==("__debug__":Str))=false)(hz:g.length<=sizeLine)
  (h:Uv W c (.Subscript va vb vp) loc st λ v=>Uv W c i loc st λ u=>∃y k,v=.str y/\u=.str k/\K .next loc st (sto g k y)):XG W c (·=D) (GD W c n D) (exec (.Assign [.Subscript (.Name x np) i ip] (.Subscript va vb vp) pos) c.env) loc st g K:=λ l s Q E hR hG hQ=>by
 refine wpAny_Assign_Subscript (h l s _ E hR.r λ v w s1 k1 t1 v1 h1=>?_);have gk:∀{s1 s2},GD W c n D g l s1->Keeps s1 s2->GD W c n D g l s2:=λ hG k=>(B6 W c n D).ow hG (λ J J q=>q) (OW.keeps (c:=c) (st:=st) k);have hR1:=hR.keeps k1 t1;refine Qmy O hR1 (gk hG k1) hx hcd hd ?_;refine h1 l s1 _ E hR1.r λ u w2 s2 k2 t2 v2 h2=>?_;obtain⟨y,k,rfl,rfl,h2⟩:=h2;obtain⟨t,rfl⟩:=v1;obtain⟨t',rfl⟩:=v2;refine Qs4 O (hR1.keeps k2 t2) (gk (gk hG k1) k2) hz λ s3 sm3 t3 J ow3 hR3 hG3=>?_;exact hQ _ _ _ _ _ _ _ ((Z6.ofK (Qi k1 k2)).trans sm3) (Q1 t1 (Q1 t2 t3)) ((OW.keeps (Qi k1 k2)).trans ow3) hR3 hG3 .next h2
theorem Qul {E:Value->Shared->Prop}{s:Shared}(O:Ok W c){o1 o2 i1 i2 a b:Expr}{q1 q2 tp vp pos:Pos}{k1 k2:Nat}{Q:Flow->Shared->Prop}
  (hw:swappedStores [.Tuple [.Subscript o1 i1 q1,.Subscript o2 i2 q2] k1 tp] (.Tuple [a,b] k2 vp) c.env=pure none)
  (h:wpAny (model W.prog W.w) c.A (spliced (backTo vp (starEach [a,b] c.env))) (λ ws s1=>∃w1 w2,ws=[w1,w2]/\∀h',Sub s1.heap h'->
   wpAny (model W.prog W.w) c.A (assign (.Subscript o1 i1 q1) c.env w1) (λ J s2=>wpAny (model W.prog W.w) c.A (assign (.Subscript o2 i2 q2) c.env w2) (λ J=>Q .next) E s2) E {s1 with heap:=h'}) E s):
  wpAny (model W.prog W.w) c.A (exec (.Assign [.Tuple [.Subscript o1 i1 q1,.Subscript o2 i2 q2] k1 tp] (.Tuple [a,b] k2 vp) pos) c.env) Q E s:=by
 refine Assign_Tuple (Tuple_ (wpAny_mono h (λ ws s1 h1=>?_) λ J J h=>h)) Ri hw;obtain⟨w1,w2,rfl,h1⟩:=h1;refine wpAny_newTuple ?_ (by show 2<=sizeLine;decide);rw[arm_assign_Tuple];refine Q0 (wpAny_standAt ?_)
 delta unpack
 refine Q0 (Z1 ?_);show wpAny _ _ (unpackItems (.ref s1.heap.objs.size) [w1,w2].toArray.size none) _ _ _;refine wpAny_unpackItems_tuple O.handled (Vx s1.heap [w1,w2].toArray) λ h' he=>?_;refine Q0 (Z1 (wpAny_mono (h1 h' λ b o e=>he b o (Zj (Qh (Q9 _ e))) (Q9 _ e)) (λ J s2 h2=>?_) λ J J h=>h));refine Q0 (Z1 (wpAny_mono h2 (λ J s2 h2=>Q5 h2) λ J J h=>h))
theorem Qzh (O:Ok W c){x:Str}{n1 n2 q1 q2 tp vp pos:Pos}{k1 k2:Nat}{i1 i2 a b:Expr}(hx:loc.lookup x=some (.ext n))(hcd:(x==("__classdict__":Str))=false)(hd:(x==("__debug__":Str))=false)(hz:g.length+1<=sizeLine)
  (hw:swappedStores [.Tuple [.Subscript (.Name x n1) i1 q1,.Subscript (.Name x n2) i2 q2] k1 tp] (.Tuple [a,b] k2 vp) c.env=pure none)
  (h:Ab W c [a,b] loc st λ vs=>∃y1 y2,vs=[.str y1,.str y2]/\Uv W c i1 loc st λ u1=>∃k1,u1=.str k1/\Uv W c i2 loc st λ u2=>∃k2,u2=.str k2/\K .next loc st (sto (sto g k1 y1) k2 y2)):
  XG W c (·=D) (GD W c n D) (exec (.Assign [.Tuple [.Subscript (.Name x n1) i1 q1,.Subscript (.Name x n2) i2 q2] k1 tp] (.Tuple [a,b] k2 vp) pos) c.env) loc st g K:=λ l s Q E hR hG hQ=>by
 have gk:∀{g s1 s2},GD W c n D g l s1->Keeps s1 s2->GD W c n D g l s2:=λ hG k=>(B6 W c n D).ow hG (λ J J q=>q) (OW.keeps (c:=c) (st:=st) k);refine Qul O hw (h l s _ _ E hR.r λ vs ws s1 kk1 t1 v1 h1=>?_);obtain⟨y1,y2,rfl,h1⟩:=h1;obtain⟨w1,ws,rfl,x1,v1⟩:=v1.inv;obtain⟨w2,ws,rfl,x2,v1⟩:=v1.inv;cases v1;obtain⟨t1',rfl⟩:=x1;obtain⟨t2',rfl⟩:=x2;refine⟨_,_,rfl,λ h' sub=>?_⟩
 have k3:Keeps s {s1 with heap:=h'}:=Qi kk1 ⟨h',s1.toks,rfl,sub⟩
 have hR3:=hR.keeps k3 t1;refine Qk3 (Qmy O hR3 (gk hG k3) hx hcd hd ?_)
 refine h1 l {s1 with heap:=h'} _ E hR3.r λ u1 w1 s4 k4 t4 v4 h4=>?_
 obtain⟨p1,rfl,h4⟩:=h4;obtain⟨_,rfl⟩:=v4;refine Qs4 O (hR3.keeps k4 t4) (gk (gk hG k3) k4) (Nat.le_of_succ_le hz) λ s5 sm5 t5 J ow5 hR5 hG5=>?_;refine Qk3 (Qmy O hR5 hG5 hx hcd hd ?_);refine h4 l s5 _ E hR5.r λ u2 w2 s6 k6 t6 v6 h6=>?_;obtain⟨p2,rfl,h6⟩:=h6;obtain⟨_,rfl⟩:=v6;have lz:(sto g p1 y1).length<=sizeLine:=by
  refine Q1 ?_ hz;unfold sto;split
  .rw[Q6];exact Nat.le_succ _
  .rw[Q8];exact Q2 _
 refine Qs4 O (hR5.keeps k6 t6) (gk hG5 k6) lz λ s7 sm7 t7 J ow7 hR7 hG7=>?_;exact hQ _ _ _ _ _ _ _ ((Z6.ofK (Qi k3 k4)).trans (sm5.trans ((Z6.ofK k6).trans sm7))) (Q1 t1 (Q1 t4 (Q1 t5 (Q1 t6 t7)))) ((OW.keeps (Qi k3 k4)).trans (ow5.trans ((OW.keeps k6).trans ow7))) hR7 hG7 .next h6
end
end
section
variable {W:Qj}{c:Cx}{loc:Loc}{st:Q4}
noncomputable def Lay.morex (l:Lay)(ys:List Value):Lay:={l with x:=l.x++ys}
theorem Qre {l:Lay}{ys:List Value}(n:Nat)(w:Value)(e:l.x[n]?=some w):(l.morex ys).x[n]?=some w:=by
 have hn:n<l.x.length:=by
  rcases Nat.lt_or_ge n l.x.length with q |q
  .exact q
  .rw[Qo q]at e;cases e
 exact(Zx hn).trans e
theorem VR.morex {l:Lay}{h:Heap}{v:V}{w:Value}(ys:List Value)(x:VR l h v w):VR (l.morex ys) h v w:=
 VR.to (l:=l) (l':=l.morex ys) (h:=h) (h':=h) (λ J J e=>e) Qre (λ J n J=>⟨n,λ J e=>e⟩) x
theorem Y0.morex {l:Lay}{h:Heap}{v:List V}{w:List Value}(ys:List Value)(x:Y0 l h v w):Y0 (l.morex ys) h v w:=
 Y0.to (l:=l) (l':=l.morex ys) (h:=h) (h':=h) (λ J J e=>e) Qre (λ J n J=>⟨n,λ J e=>e⟩) x
theorem RS.morex {l:Lay}{s:Shared}(h:RS c l loc st s)(ys:List Value):RS c (l.morex ys) loc st s/\OW c (λ J=>False) l st s (l.morex ys) st s:=
 ⟨⟨⟨h.r.fr,let ⟨ml,hn,hL,hB⟩:=h.r.names;⟨ml,hn,λ y v e=>let ⟨w,h1,h2⟩:=hL y v e;⟨w,h1.morex ys,h2⟩,hB⟩,λ n xs e=>let ⟨a,items,h1,h2,h3⟩:=h.r.lists n xs e;⟨a,items,h1,h2,h3.morex ys⟩,h.r.low,h.r.tk,h.r.loN,h.r.clN,h.r.owN⟩,
  h.hB,h.own,h.cel,h.lL,h.fr,h.al,h.inj,h.cinj,h.cells⟩,
  ⟨λ J J e=>e,Qre,λ J q=>q,λ J q=>.inl q,λ J J e=>.inl e,λ J o e=>⟨o,e⟩,λ J J e J J J J=>e,λ J p e=>⟨p,e,Q2 _⟩,λ J J J J J J J J J e=>e,λ J=>rfl⟩⟩
def Qwk (W:Qj)(c:Cx)(es:List Expr)(loc:Loc)(st:Q4)(k:Nat->List V->Q4->Prop):Prop:=
 ∀(l:Lay) (s:Shared) (pos:Pos) (Q:List Value->Shared->Prop) (E:Value->Shared->Prop),RS c l loc st s->
  (∀n D vs ws st' l' s',Z6 s s'->s.toks<=s'.toks->OW c (λ J=>False) l st s l' st' s'->RS c l' loc st' s'->Y0 l' s'.heap vs ws->GD W c n D [] l' s'->s.heap.get? D=none->k n vs st'->Q ws s')->wpAny (model W.prog W.w) c.A (spliced (backTo pos (starEach es c.env))) Q E s
theorem Qx1 {e:Expr}{r:List Expr}{k:Nat->List V->Q4->Prop}(hs:Z8 (e::r)=true)
  (h:Fa W c e loc st λ v st'=>Qwk W c r loc st' λ n vs st''=>k n (v::vs) st''):Qwk W c (e::r) loc st k:=λ l s pos Q E hR hQ=>by
 rw[Y5 hs];refine spliced_cons (h l s _ E hR λ v w st1 l1 s1 sm1 t1 ow1 hR1 v1 h1=>?_);refine h1 l1 s1 pos _ E hR1 λ n D vs ws st2 l2 s2 sm2 t2 ow2 hR2 v2 hG nD h2=>?_;refine hQ n D (v::vs) (w::ws) st2 l2 s2 (sm1.trans sm2) (Q1 t1 t2) (ow1.trans ow2) hR2 (.cons (v1.ow hR1.r ow2) v2) hG ?_ h2;cases q:s.heap.get? D with
 |none=>rfl
 |some o=>obtain⟨o',e⟩:=ow1.ex D o q;rw[nD]at e;cases e
theorem P5 (O:Ok W c){r:List Expr}{dp:Pos}{k:Nat->List V->Q4->Prop}(hs:Z8 (.Dict [] [] dp::r)=true)
  (h:∀n,Pa W c r loc st λ vs st'=>k n (.ext n::vs) st'):Qwk W c (.Dict [] [] dp::r) loc st k:=λ l s pos Q E hR hQ=>by
 rw[Y5 hs];have nD:=X4 s.heap
 have kp:Keeps s {s with heap:=s.heap.push {cls:=.type "dict",data:=.dict #[]}}:=⟨_,_,rfl,Yo _ _⟩
 obtain⟨hR1,ow1⟩:=hR.plus (a:=s.heap.objs.size) kp (Q2 _) nD ⟨_,Qp _ rfl⟩;obtain⟨hR2,ow2⟩:=hR1.morex [.ref s.heap.objs.size];obtain⟨m,FrX⟩:=hR.r.fr;obtain⟨g0,_,Fr0,B0,K0,T0⟩:=O.ground FrX;have ap:Apart c l s.heap.objs.size:=Apart.fresh hR.r nD
 have hG:GD W c l.x.length s.heap.objs.size [] ((l.plus (·=s.heap.objs.size)).morex [.ref s.heap.objs.size]) {s with heap:=s.heap.push {cls:=.type "dict",data:=.dict #[]}}:=
  ⟨by show(l.x++[_])[l.x.length]?=_;rw[Z2 (Q2 _),Nat.sub_self];rfl,.inr rfl,⟨ap.L,ap.h0,ap.loc,ap.cell,ap.own⟩,Fr0.notModules (modules_low T0.nolimit),
   λ q=>(let ⟨o,ho⟩:=hR.r.low _ (hR.hB _ q);nomatch nD.symm.trans ho),[],.nil,Heap.DictOf.new s.heap⟩
 refine spliced_cons (wpAny_Dict_empty (h l.x.length _ _ pos _ E hR2 λ vs ws st2 l2 s2 sm2 t2 ow3 hR3 v2 h2=>?_));have hG3:=(B6 W c _ _).ow hG (λ J J q=>q) ow3;exact hQ _ _ (.ext l.x.length::vs) (.ref s.heap.objs.size::ws) st2 l2 s2 ((Z6.ofK kp).trans sm2) t2 (ow1.trans (ow2.trans ow3)) hR3 (.cons (show VR _ _ (.ext _) _ from hG3.x) v2) hG3 nD h2
theorem Qxo (O:Ok W c)(hch:∀x,c.env.kindOf x=some .cell->(c.env.cells.lookup x).isSome=true){K:KF}{ts vs:List Expr}{k1 k2:Nat}{tp vp pos:Pos}{names:List Str}{x:Str}{a:Stmt}{r:List Stmt}
  (ht:Gs ts=some names) (hw:swappedStores [.Tuple ts k1 tp] (.Tuple vs k2 vp) c.env=pure none) (hb:c.bnd.contains x=false)
  (h:Qwk W c vs loc st λ n xs st'=>xs.length<=sizeLine/\W0 c.env.kindOf c.bnd names xs loc λ loc'=>∀D,XG W c (·=D) (GD W c n D) (exec a c.env) loc' st' [] λ fl loc2 st2 g=>fl=.next/\loc2.lookup x=some (.ext n)/\XS W c (execs r c.env) (Yx loc2 x (Tu W g)) st2 K):
  XS W c (execs (.Assign [.Tuple ts k1 tp] (.Tuple vs k2 vp) pos::a::r) c.env) loc st K:=λ l s Q E hR hQ=>by
 rw[execs_cons];refine Q0 (Assign_Tuple ?_ Ri hw);refine Tuple_ (h l s _ _ E hR λ n D xs ws st1 l1 s1 sm1 t1 ow1 hR1 v1 hG1 nD h1=>wpAny_newTuple ?_ (by rw[<- v1.length];exact h1.1))
 have kp:Keeps s1 {s1 with heap:=s1.heap.push {cls:=.type "tuple",data:=.seq ws.toArray}}:=⟨_,_,rfl,Yo _ _⟩
 obtain⟨e1,e2⟩:=Mz (env:=c.env) ht;rw[arm_assign_Tuple];refine Q0 (wpAny_standAt ?_)
 delta unpack
 rw[e1,e2,show names.length=ws.toArray.size from(Lu h1.2).trans v1.length];refine Q0 (Z1 (wpAny_unpackItems_tuple O.handled (Vx _ _) λ h' he=>?_))
 have kp2:Keeps {s1 with heap:=s1.heap.push {cls:=.type "tuple",data:=.seq ws.toArray}} {s1 with heap:=h'}:=⟨h',s1.toks,rfl,λ b o e=>he b o (Zj (Qh e)) e⟩
 have k3:=Qi kp kp2;have hR3:=hR1.keeps k3 (Q2 _);refine Mv O hch ts names xs ws ht hR3 (v1.sub (Yh k3)) h1.2 λ loc' s4 sm4 t4 ow4 hR4 h4=>?_;show wpAny _ _ (execs (a::r) c.env) _ _ _;rw[execs_cons];have owA:=ow1.trans ((OW.keeps k3).trans ow4);have hG4:GD W c n D [] l1 s4:=(B6 W c n D).ow hG1 (λ J J q=>q) ((OW.keeps k3).trans ow4);refine Q0 (h4 D l1 s4 _ E hR4 hG4 λ fl fw loc2 st2 g l2 s5 sm5 t5 ow5 hR5 hG5 hf h5=>?_);obtain⟨rfl,hx,h5⟩:=h5;cases hf;refine h5 (l2.less D) s5 Q E (hR5.frozen hG5 hx hb) λ fl fw loc3 st3 l3 s6 sm6 t6 ow6 hR6 hf6 h6=>?_;have y:OW c (·=D) l st s l2 st2 s5:=(owA.mono λ J q=>q.elim).trans ow5;have ne:∀b,(∃o,s.heap.get? b=some o)->b≠D:=λ b ⟨o,e⟩ q=>by rw[q,nD]at e;cases e
 have z:OW c (λ J=>False) l st s (l2.less D) st2 s5:=⟨y.σ,y.x,λ b q=>⟨y.N b q,ne b (hR.r.low b q)⟩,λ b q=>y.Nup b q.1,y.new,y.ex,λ b o e J=>y.keep b o e (ne b ⟨o,e⟩),y.le,y.eq,y.dr⟩;exact hQ _ _ _ _ _ _ (sm1.trans ((Z6.ofK k3).trans (sm4.trans (sm5.trans sm6)))) (Q1 t1 (Q1 t4 (Q1 t5 t6))) (z.trans ow6) hR6 hf6 h6
end
section
variable {γ:Type}{W:Qj}{c:Cx}{Z:Addr->Prop}{Γ:γ->Lay->Shared->Prop}{F:Fs}{owns:List Str}{kd:Kd}{bnd:List Str}{loc:Loc}{st:Q4}{g:γ}{K:Fl->Loc->Q4->γ->Prop}
structure XTG (W:Qj)(c:Cx)(Z:Addr->Prop)(Γ:γ->Lay->Shared->Prop)(x:Str)(body:List Stmt)(own:Option (Nat×Nat))(vs:List V)(loc:Loc)(st:Q4)(g:γ)(K:Fl->Loc->Q4->γ->Prop):Prop where
 go:Mo x (λ loc st g K=>XG W c Z Γ (execs body c.env) loc st g K) own vs loc st g K
theorem Qxe {x:Str}{body:List Stmt}{own:Option (Nat×Nat)}(h:K .next loc st g):XTG W c Z Γ x body own [] loc st g K:=⟨h⟩
theorem XG.mono {t:Sem Flow}{K K':Fl->Loc->Q4->γ->Prop}(h:XG W c Z Γ t loc st g K)(m:∀fl loc st g,K fl loc st g->K' fl loc st g):XG W c Z Γ t loc st g K':=λ l s Q E hR hG hQ=>
 h l s Q E hR hG λ fl fw loc' st' g' l' s' a b d e f i j=>hQ fl fw loc' st' g' l' s' a b d e f i (m _ _ _ _ j)
theorem Ie {x:Str}{body:List Stmt}{own:Option (Nat×Nat)}{v:V}{vs:List V}(h:XGB W c Z Γ body (Yx loc x v) st g (Qmf (λ loc' st' g'=>okV st' own/\XTG W c Z Γ x body own vs loc' st' g' K) K)):XTG W c Z Γ x body own (v::vs) loc st g K:=
 ⟨h.go.mono λ fl loc' st' g' q=>by
  cases fl with
  |next=>exact⟨q.1,q.2.go⟩
  |cont=>exact⟨q.1,q.2.go⟩
  |brk=>exact q
  |ret u=>exact q⟩
theorem Qwq (G:Ca c Z Γ)(H:Vl W F kd bnd c){s:Stmt}(hs:s=.For (.Name (wN s) (Mq s)) (wT s) (wB s) [] (wP s))(hns:Jj (wT s)=true)(hk:Be kd bnd (wN s)=true)
  (h:Gi F kd (wT s) loc st λ v=>Us st v λ xs own=>XTG W c Z Γ (wN s) (wB s) own xs loc st g K):XG W c Z Γ (exec s c.env) loc st g K:=by
 rw[hs];have hk':Jx c.env.kindOf c.bnd (wN s):=by rw[H.kd,H.bnd];exact Xm hk
 exact Quw G H.O H.ch hns hk' ((G8 H h).go.mono λ v h=>Bd h λ xs own h=>h.go)
end
theorem Qbz {l:Lay}{h:Heap}{vs:List Value}{ss:List Str}(x:StrsAre vs ss):Y0 l h (ss.map V.str) vs:=by
 induction x with
 |nil=>exact .nil
 |cons y t _ ih=>exact .cons (.str _ _) ih
section
variable {W:Qj}{c:Cx}{loc:Loc}{st:Q4}
theorem RS.drawn {l:Lay}{s:Shared}(h:RS c l loc st s){h':Heap}{tk:Tok}(d:Drawn)(sub:Sub s.heap h')(t:s.toks<=tk)(hd:c.dr=true):RS c l loc st {s with heap:=h',toks:=tk,drawn:=d }/\OW c (λ J=>False) l st s l st {s with heap:=h',toks:=tk,drawn:=d}:=by
 have k:Keeps s {s with heap:=h',toks:=tk}:=⟨h',tk,rfl,sub⟩
 have h1:=h.keeps k t;exact⟨⟨⟨h1.r.fr,h1.r.names,h1.r.lists,h1.r.low,h1.r.tk,h1.r.loN,h1.r.clN,h1.r.owN⟩,h1.hB,h1.own,h1.cel,h1.lL,h1.fr,h1.al,h1.inj,h1.cinj,h1.cells⟩,
  ⟨λ J J e=>e,λ J J e=>e,λ J q=>q,λ J q=>.inl q,λ J J e=>.inl e,λ a o e=>⟨o,sub a o e⟩,λ a o e J J J J=>sub a o e,λ J p e=>⟨p,e,Q2 _⟩,λ J J J J J J J J o e=>sub _ o e,λ q=>nomatch q.symm.trans hd⟩⟩
theorem P6 (O:Ok W c)(hd:c.dr=true){x:Str}{p1 p2 p3 p4 p5:Pos}{t:Str}{k:V->Q4->Prop}(n1:nsIn W.K mainGlobals "sorted"=some none)(n2:nsIn W.K mainGlobals "set"=some none)
  (k1:c.env.kindOf "sorted"=some .globalImplicit) (k2:c.env.kindOf "set"=some .globalImplicit) (hcd:(x==("__classdict__":Str))=false) (hdb:(x==("__debug__":Str))=false) (hx:loc.lookup x=some (.str t)) (h0:t.cps.toList≠[]) (hb:t.cps.size<64)
  (h:∀ss:List Str,ss.Perm (Gm t.cps.toList)->sortedS ss=true->k (.list (ss.map V.str)) st):Fa W c (.Call (.Name "sorted" p1) [.Call (.Name "set" p2) [.Name x p3] [] p4] [] p5) loc st k:=λ l s Q E hR hQ=>by
 refine Z0 (Call_ (Ji (w:=.builtin "sorted") O hR.r k1 (by decide) (by decide) n1 (by kernel_rfl) (Uk (id:="sorted") (first:=[]) rfl ?_)) rfl)
 rw[Y5 rfl]
 refine spliced_cons (Call_ (Ji (w:=.type "set") O hR.r k2 (by decide) (by decide) n2 (by kernel_rfl) (Fx (T:="set") (first:=[]) rfl ?_)) rfl)
 rw[Y5 rfl];refine spliced_cons (wpAny_Name (J4 O hR.r hx hcd λ w hw=>spliced_nil ?_) hdb);obtain⟨u,rfl⟩:=hw;refine wpAny_mono (D7 (x:=t) (t:=u) (Q:=λ v s'=>s.toks<=s'.toks->Q v s') O.handled h0 hb λ h' tk d a' vs ss sub nA hl hs hp so htk=>?_) (λ w1 s1 h1=>spliced_nil h1) λ J J h=>h;obtain⟨hR',ow⟩:=hR.drawn (h':=h') (tk:=tk) d sub htk hd;exact hQ _ _ st l _ ⟨h',tk,d,rfl⟩ htk ow hR' (.list (λ q=>(let ⟨o,ho⟩:=hR.r.low _ q;nomatch nA.symm.trans ho)) hl (Qbz hs)) (h ss hp so)
theorem Qtx (O:Ok W c){a b:Expr}{op:Operator}{pos:Pos}{k:V->Q4->Prop}(h:Fa W c a loc st λ v st'=>Uv W c b loc st' λ u=>Ks op (drf st' v) (drf st' u) λ z=>k z st'):Fa W c (.BinOp a op b pos) loc st k:=λ l s Q E hR hQ=>
 wpAny_BinOp (h l s _ E hR λ v w st1 l1 s1 sm1 t1 ow1 hR1 v1 h1=>h1 l1 s1 _ E hR1.r λ u w2 s2 k2 t2 v2 h2=>
  have hR2:=hR1.keeps k2 t2
  (Pn O.handled hR2.r.low (hR2.r.drf (v1.sub (Yh k2))) (hR2.r.drf v2) h2).use λ z w s3 k3 t3 v3 h3=>hQ z w st1 l1 s3 (sm1.trans (Z6.ofK (Qi k2 k3))) (Q1 t1 (Q1 t2 t3)) (ow1.trans (OW.keeps (Qi k2 k3))) (hR2.keeps k3 t3) v3 h3)
theorem Qyj {a hi:Expr}{sp pos:Pos}{k:V->Q4->Prop}(h:Fa W c a loc st λ v st'=>Uv W c hi loc st' λ u=>Qbp (drf st' v) .none (drf st' u) .none λ z=>k z st'):Fa W c (.Subscript a (.Slice none (some hi) none sp) pos) loc st k:=λ l s Q E hR hQ=>by
 refine(Subscript_ (h l s _ E hR λ v w st1 l1 s1 sm1 t1 ow1 hR1 v1 h1=>?_));refine wpAny_Slice (Q5 (h1 l1 s1 _ E hR1.r λ u w2 s2 k2 t2 v2 h2=>Q5 ?_));have hR2:=hR1.keeps k2 t2;exact Z0 (D9 hR2.r.low (hR2.r.drf (v1.sub (Yh k2))) (.of .none) (hR2.r.drf v2) (.of .none) h2 _ E λ z w s5 k5 v5 h5 tk=>
  hQ z w st1 l1 s5 (sm1.trans (Z6.ofK (Qi k2 k5))) (Q1 t1 (Q1 t2 tk)) (ow1.trans (OW.keeps (Qi k2 k5))) (hR1.keeps (Qi k2 k5) (Q1 t2 tk)) v5 h5)
theorem Af (O:Ok W c)(hch:∀x,c.env.kindOf x=some .cell->(c.env.cells.lookup x).isSome=true){K:KF}{x:Str}{px pos:Pos}{value:Expr}(hs:swapsWith value (some (.Name x px)) pos.line c.env=pure false)(hk:Jx c.env.kindOf c.bnd x)
  (h:Fa W c value loc st λ v st'=>K .next (Yx loc x v) st'):XS W c (exec (.Assign [.Name x px] value pos) c.env) loc st K:=λ l s Q E hR hQ=>by
 refine wpAny_Assign_Name (h l s _ E hR λ v w st1 l1 s1 sm1 t1 ow1 hR1 v1 h1=>?_) hs;exact hR1.setN O hch hk v1 λ s' sm tk ow hR'=>hQ _ _ _ _ _ _ (sm1.trans sm) (Q1 t1 tk) (ow1.trans ow) hR' .next h1
end
theorem Lb {F:Fs}{n:Nat}{kd:Kd}{e:Expr}{g:Comprehension}{gs:List Comprehension}{loc:Loc}{st:Q4}{k:V->Prop}(hc:cOk kd e loc=true)(hg:Jw e=g::gs)
  (h:(X7 F n).1 kd g.iter loc st λ v=>Xv (drf st v) λ xs=>Wr (V3 (Uj (Y4 e) kd) (λ e' loc k=>(X7 F n).2 (Uj (Y4 e) kd) e' loc st k) (cGo (Uj (Y4 e) kd) (λ loc k=>(X7 F n).1 (Uj (Y4 e) kd) (Fb e) loc st k) (λ e' loc k=>(X7 F n).1 (Uj (Y4 e) kd) e' loc st k) (λ e' loc k=>(X7 F n).2 (Uj (Y4 e) kd) e' loc st k) st gs) g xs (Fy (Uj (Y4 e) kd) loc) [] λ acc=>k (.list acc))):(X7 F (n+1)).1 kd e loc st k:=by
 unfold cOk at hc;simp only[Qa]at hc;obtain⟨⟨⟨⟨h0,h1⟩,h2⟩,h3⟩,h4⟩:=hc;obtain⟨elt,gens,scope,pos,rfl⟩:∃a b c d,e=.ListComp a b c d:=Expr.ListComp.elim (motive_1:=λ e=>∃a b c d,e=.ListComp a b c d) e (eq_of_beq h0) λ a b c d=>⟨a,b,c,d,rfl⟩;cases show gens=g::gs from hg;show Ac F (X7 F n).1 (X7 F n).2 kd (.ListComp elt (g::gs) scope pos) loc st k;rw[D5];exact Zn h1 (Zn h2 (Zn h3 (Zn h4 h)))
theorem Vy {ν:Type}{kd:Kd}{ts:Expr->Loc->(Bool->Prop)->Prop}{inner:Loc->List V->(List V->Prop)->Prop}{g:Comprehension}{loc:Loc}(val:ν->V)(f:ν->List V){M:Nat}{xs:List ν}{k:List V->Prop}:
  ∀{acc:List V},(∀v∈xs,∀(acc':List V) (k':List V->Prop),acc'.length+(f v).length<=M->k' (acc'++f v)->
   Vn kd g.target (val v) loc λ loc'=>Bu ts g.ifs loc' λ b=>cond b (inner loc' acc' k') (k' acc'))->acc.length+(xs.flatMap f).length<=M->k (acc++xs.flatMap f)->V3 kd ts inner g (xs.map val) loc acc k:=by
 induction xs with
 |nil=>intro acc _ _ h;rw[List.flatMap_nil,Qs]at h;exact h
 |cons v vs ih=>
  intro acc hb hl h;rw[List.flatMap_cons,Q8]at hl;rw[List.flatMap_cons,<- Qr]at h;exact hb v (.head _) acc (λ acc'=>V3 kd ts inner g (vs.map val) loc acc' k) (by lia) (ih (λ u hu a k' hl hk=>hb u (.tail _ hu) a k' hl hk) (by rw[Q8];lia) h)
def Gk (loc0 loc:Loc):Prop:=∀y u,loc0.lookup y=some u->loc.lookup y=some u
theorem Gk.set {loc0 loc:Loc}(h:Gk loc0 loc)(x:Str)(v:V):Gk (Yx loc0 x v) (Yx loc x v):=λ y u e=>by
 rw[Bh]at e |-;by_cases q:y=x
 .rw[if_pos q]at e |-;exact e
 .rw[if_neg q]at e |-;exact h y u e
theorem Gk.new {loc:Loc}{x:Str}(v:V)(h:loc.lookup x=none):Gk loc (Yx loc x v):=λ y u e=>by
 rw[Bh,if_neg (λ q=>by rw[q,h]at e;cases e)];exact e
theorem Gk.trans {a b c:Loc}(h:Gk a b)(h':Gk b c):Gk a c:=λ y u e=>h' y u (h y u e)
theorem Gk.refl (a:Loc):Gk a a:=λ J J e=>e
section
variable {W:Qj}{c:Cx}{loc0 loc:Loc}{st:Q4}
theorem RS.fewer {l:Lay}{s:Shared}(h:RS c l loc st s)(hb:c.bnd=[])(hs:Gk loc0 loc):RS c l loc0 st s:=
 ⟨h.r.fewer hb hs,h.hB,h.own,h.cel,h.lL,h.fr,h.al,h.inj,h.cinj,h.cells⟩
theorem XB.fewer {ss:List Stmt}{K:KF}(h:XB W c ss loc0 st K)(hb:c.bnd=[])(hs:Gk loc0 loc):XB W c ss loc st K:=⟨λ l s Q E hR hQ=>h.go l s Q E (hR.fewer hb hs) hQ⟩
theorem XGB.fewer {γ:Type}{Z:Addr->Prop}{Γ:γ->Lay->Shared->Prop}{g:γ}{ss:List Stmt}{K:Fl->Loc->Q4->γ->Prop}(h:XGB W c Z Γ ss loc0 st g K)(hb:c.bnd=[])(hs:Gk loc0 loc):XGB W c Z Γ ss loc st g K:=⟨λ l s Q E hR hG hQ=>h.go l s Q E (hR.fewer hb hs) hG hQ⟩
theorem Quq {ν:Type}{x:Str}{body:List Stmt}{base:Loc}{K:KF}(hb:c.bnd=[])(val:ν->V)(f:ν->Bool)(hx:base.lookup x=none)(vs:List ν)
  (hbody:∀v∈vs,XB W c body (Yx base x (val v)) st λ fl loc' st'=>st'=st/\cond (f v) (fl=.ret (.bool true)) (fl=.next/\Gk (Yx base x (val v)) loc'))
  (hK:cond (vs.any f) (∀loc,K (.ret (.bool true)) loc st) (∀loc,Gk base loc->K .next loc st)):∀loc,Gk base loc->XT W c x body none (vs.map val) loc st K:=by
 induction vs with
 |nil=>exact λ loc hs=>Fo (hK loc hs)
 |cons v vs ih=>
  intro loc hs;refine Ba (((hbody v (.head _)).fewer hb (hs.set x (val v))).mono λ fl loc' st' h=>?_);obtain⟨rfl,h⟩:=h;rw[List.any_cons]at hK;cases q:f v with
  |true=>
   rw[q]at h hK;cases show fl=.ret (.bool true) from h;exact hK loc'
  |false=>
   rw[q]at h hK;have h2:fl=.next/\Gk (Yx base x (val v)) loc':=h;obtain⟨e2,h3⟩:=h2;subst e2;exact⟨trivial,ih (λ u hu=>hbody u (.tail _ hu)) hK loc' ((Gk.new (val v) hx).trans h3)⟩
theorem Qz9 {F:Fs}{kd:Kd}{bnd:List Str}{K:KF}(H:Vl W F kd bnd c){s:Stmt}(hs:s=.For (.Name (wN s) (Mq s)) (wT s) (wB s) [] (wP s))(hns:Jj (wT s)=true)(hk:Be kd bnd (wN s)=true){vs:List V}
  (hE:∀k:V->Prop,k (.list vs)->Gi F kd (wT s) loc st k) (h:XT W c (wN s) (wB s) none vs loc st K):X1 W c s loc st K:=T9 H hs hns hk (hE _ h)
end
noncomputable def Pr (H:Str->Int):Fs:=⟨F1.sp,F1.gl,some H⟩
noncomputable def mL (x y a b c:Str)(mo:Loc):Loc:=("line",.str y)::("pattern",.str x)::("names",.list [.str a,.str b,.str c])::mo
noncomputable def oL (i j k:Int)(t:List V)(mo:Loc):Loc:=("often",.list [.int i,.int j,.int k])::("tops",.list t)::mo
noncomputable def szE:Expr:=wT (sN 24 3)
noncomputable abbrev szK:Kd:=Uj (Y4 szE) (Z9 24)
@[irreducible] noncomputable def gN (n:Nat):Comprehension:=(Jw szE)[n]?.getD default
theorem Zuw (x y a b c:Str)(K:KF):rd F1 [] (Z9 24) [] (sN 24 1) (mL x y a b c []) [] K=Wr (K .next (mL x y a b c [("often",.list [.int (Txt.count x a),.int (Txt.count x b),.int (Txt.count x c)])]) []):=by kernel_rfl
theorem Zuk (x y a b c:Str)(i j k:Int)(K:KF):rd F1 [] (Z9 24) [] (sN 24 2) (mL x y a b c [("often",.list [.int i,.int j,.int k])]) [] K=
  Wr (cond (decide (0<i)) (cond (decide (0<j)) (cond (decide (0<k)) (K .next (mL x y a b c (oL i j k [.int 6,.int 6,.int 6] [])) []) (K .next (mL x y a b c (oL i j k [.int 6,.int 6,.int 2] [])) []))
   (cond (decide (0<k)) (K .next (mL x y a b c (oL i j k [.int 6,.int 2,.int 6] [])) []) (K .next (mL x y a b c (oL i j k [.int 6,.int 2,.int 2] [])) [])))
   (cond (decide (0<j)) (cond (decide (0<k)) (K .next (mL x y a b c (oL i j k [.int 2,.int 6,.int 6] [])) []) (K .next (mL x y a b c (oL i j k [.int 2,.int 6,.int 2] [])) []))
   (cond (decide (0<k)) (K .next (mL x y a b c (oL i j k [.int 2,.int 2,.int 6] [])) []) (K .next (mL x y a b c (oL i j k [.int 2,.int 2,.int 2] [])) [])))):=by kernel_rfl
theorem Zux (x y a b c:Str)(i j k:Int)(t:List V)(K:KF):rd F1 [] (Z9 24) [] (sN 24 4) (mL x y a b c (oL i j k t [])) [] K=K (.ret (.bool false)) (mL x y a b c (oL i j k t [])) []:=by kernel_rfl
theorem Zz1:sN 24 3=.For (.Name (wN (sN 24 3)) (Mq (sN 24 3))) (wT (sN 24 3)) (wB (sN 24 3)) [] (wP (sN 24 3)):=by kernel_rfl
theorem Zz0:wN (sN 24 3)="sizes":=by kernel_rfl
theorem Qdv:Jw szE=[gN 0,gN 1,gN 2]:=by kernel_rfl
theorem Zql (x y a b c:Str)(i j k:Int)(t:List V):cOk (Z9 24) szE (mL x y a b c (oL i j k t []))=true:=by kernel_rfl
theorem Qdw (x y a b c:Str)(i j k:Int)(t:List V):Fy szK (mL x y a b c (oL i j k t []))=oL i j k t []:=by kernel_rfl
theorem Zqr (x y a b c:Str)(i j k t1 t2 t3:Int)(q:V->Prop):(X7 F1 39).1 (Z9 24) ((gN 0).iter) (mL x y a b c (oL i j k [.int t1,.int t2,.int t3] [])) [] q=q (.range 1 t1 1):=by kernel_rfl
theorem Zqs (i j k x t1 t2 t3:Int)(q:V->Prop):(X7 F1 39).1 szK (gN 1).iter (("x",.int x)::oL i j k [.int t1,.int t2,.int t3] []) [] q=q (.range 1 t2 1):=by kernel_rfl
theorem Zqc (i j k x y t1 t2 t3:Int)(q:V->Prop):(X7 F1 39).1 szK (gN 2).iter (("y",.int y)::("x",.int x)::oL i j k [.int t1,.int t2,.int t3] []) [] q=q (.range 1 t3 1):=by kernel_rfl
theorem Zqo (L:Loc)(v:V)(q:Loc->Prop)(i j k:Int)(t:List V):Vn szK (gN 0).target v (oL i j k t []) q=q (("x",v)::oL i j k t []):=by kernel_rfl
theorem Zqe (v w:V)(q:Loc->Prop)(i j k:Int)(t:List V):Vn szK (gN 1).target v (("x",w)::oL i j k t []) q=q (("y",v)::("x",w)::oL i j k t []):=by kernel_rfl
theorem Zqi (v w u:V)(q:Loc->Prop)(i j k:Int)(t:List V):Vn szK (gN 2).target v (("y",w)::("x",u)::oL i j k t []) q=q (("z",v)::("y",w)::("x",u)::oL i j k t []):=by kernel_rfl
theorem Qmp:(gN 0).ifs=[]/\(gN 1).ifs=[]:=by constructor <;> kernel_rfl
theorem Qdu:decide ((gN 1).is_async=0)=true/\decide ((gN 2).is_async=0)=true/\Jj (gN 1).iter=true/\Jj (gN 2).iter=true:=by refine⟨?_,?_,?_,?_⟩ <;> kernel_rfl
theorem Zqn (i j k x y z:Int)(t:List V)(q:Bool->Prop):Bu (λ e' loc k=>(X7 F1 39).2 szK e' loc [] k) (gN 2).ifs (("z",.int z)::("y",.int y)::("x",.int x)::oL i j k t []) q=(IntMulOk x i/\IntMulOk y j/\IntMulOk z k/\cond (decide (x*i+y*j+z*k<8)) (q true) (q false)):=by kernel_rfl
theorem Zqa (i j k x y z:Int)(t:List V)(q:V->Prop):(X7 F1 39).1 szK (Fb szE) (("z",.int z)::("y",.int y)::("x",.int x)::oL i j k t []) [] q=q (.tuple [.int x,.int y,.int z]):=by kernel_rfl
noncomputable def stB:Stmt:=Vu 24 3 0
noncomputable def Oh (p q r:Int)(mo:Loc):Loc:=("sizes",.tuple [.int p,.int q,.int r])::mo
theorem Zz2:wB (sN 24 3)=[stB]:=by kernel_rfl
theorem Zvu:stB=.For (.Name (wN stB) (Mq stB)) (wT stB) (wB stB) [] (wP stB):=by kernel_rfl
theorem Qo6:wN stB="start":=by kernel_rfl
theorem Zvy (x y a b c:Str)(i j k p q r:Int)(t:List V)(Q:V->Prop):Gi F1 (Z9 24) (wT stB) (mL x y a b c (oL i j k t (Oh p q r []))) [] Q=Wr (IntMulOk p i/\IntMulOk q j/\IntMulOk r k/\Q (.range 0 (8 - [p*i,q*j,r*k].sum) 1)):=by kernel_rfl
noncomputable def tN (k:Nat):Stmt:=((wB stB)[k]?).getD default
theorem Zvb:wB stB=[tN 0,tN 1,tN 2]:=by kernel_rfl
noncomputable def szL (p q r s:Int)(mo:Loc):Loc:=Oh p q r (("start",.int s)::mo)
noncomputable def imL (m:Int)(d:V)(mo:Loc):Loc:=("images",d)::("place",.int m)::mo
noncomputable def t0.ts:List Expr:=chE (ns (tN 0) 1 [])
noncomputable def t0.k1:Nat:=kE (ns (tN 0) 1 [])
noncomputable def t0.tp:Pos:=(ns (tN 0) 1 []).pos
noncomputable def t0.dp:Pos:=(ns (tN 0) 0 [0]).pos
noncomputable def t0.r:Expr:=ns (tN 0) 0 [1]
noncomputable def t0.k2:Nat:=kE (ns (tN 0) 0 [])
noncomputable def t0.vp:Pos:=(ns (tN 0) 0 []).pos
noncomputable def t0.pos:Pos:=wP (tN 0)
theorem Zvz:tN 0=.Assign [.Tuple t0.ts t0.k1 t0.tp] (.Tuple [.Dict [] [] t0.dp,t0.r] t0.k2 t0.vp) t0.pos:=by kernel_rfl
theorem Zv9:swS (Z9 24) t0.ts [.Dict [] [] t0.dp,t0.r]=some none:=by kernel_rfl
theorem Zvq:Gs t0.ts=some [("images":Str),"place"]:=by kernel_rfl
theorem Qo4:Z8 [.Dict [] [] t0.dp,t0.r]=true/\Z8 [t0.r]=true:=by constructor <;> kernel_rfl
theorem Zvj (x y a b c:Str)(i j k p q r s:Int)(t:List V)(Q:V->Prop):Gi F1 (Z9 24) t0.r (mL x y a b c (oL i j k t (szL p q r s []))) [] Q=Q (.int s):=by kernel_rfl
theorem Zv7:tN 1=.For (.Name (wN (tN 1)) (Mq (tN 1))) (wT (tN 1)) (wB (tN 1)) [] (wP (tN 1)):=by kernel_rfl
theorem Zv4:wN (tN 1)="sign":=by kernel_rfl
noncomputable def uN (k:Nat):Stmt:=((wB (tN 1))[k]?).getD default
theorem Qo3:wB (tN 1)=[uN 0,uN 1,uN 2]:=by kernel_rfl
noncomputable def Pe (x y a b c:Str)(i j k:Int)(tv:List V)(p q r s m:Int)(d:V)(mo:Loc):Loc:=mL x y a b c (oL i j k tv (szL p q r s (imL m d mo)))
theorem Zv6 (x y a b c:Str)(i j k p q r s m:Int)(t:List V)(n:Nat)(Q:List V->Option (Nat×Nat)->Prop):Gi F1 (Z9 24) (wT (tN 1)) (mL x y a b c (oL i j k t (szL p q r s (imL m (.ext n) [])))) [] (λ v=>Us [] v Q)=Q (x.cps.toList.map λ c=>V.str ⟨#[c]⟩) none:=by kernel_rfl
theorem u_0 (x y a b c t:Str)(i j k:Int)(tv:List V)(p q r s m:Int)(n:Nat)(K:KF):rd F1 [] (Z9 24) [] (uN 0) (Pe x y a b c i j k tv p q r s m (.ext n) [("sign",.str t)]) [] K=
  (t∈[a,b,c]/\[a,b,c].length<=1000/\Qqz [.int p,.int q,.int r] ([a,b,c].idxOf t:Nat) λ v=>K .next (Pe x y a b c i j k tv p q r s m (.ext n) [("sign",.str t),("size",v)]) []):=by kernel_rfl
theorem u_2 (x y a b c t:Str)(i j k:Int)(tv:List V)(p q r s m z:Int)(n:Nat)(K:KF):rd F1 [] (Z9 24) [] (uN 2) (Pe x y a b c i j k tv p q r s m (.ext n) [("sign",.str t),("size",.int z)]) [] K=K .next (Pe x y a b c i j k tv p q r s (m+z) (.ext n) [("sign",.str t),("size",.int z)]) []:=by kernel_rfl
noncomputable def u1s:Stmt:=((wB (uN 1))[0]?).getD default
noncomputable def u1.np:Pos:=(ns u1s 1 [0]).pos
noncomputable def u1.i:Expr:=ns u1s 1 [1]
noncomputable def u1.ip:Pos:=(ns u1s 1 []).pos
noncomputable def u1.va:Expr:=ns u1s 0 [0]
noncomputable def u1.vb:Expr:=ns u1s 0 [1]
noncomputable def u1.vp:Pos:=(ns u1s 0 []).pos
noncomputable def u1.pos:Pos:=wP u1s
theorem u_1:uN 1=.If (wT (uN 1)) [.Assign [.Subscript (.Name "images" u1.np) u1.i u1.ip] (.Subscript u1.va u1.vb u1.vp) u1.pos] [] (wP (uN 1)):=by kernel_rfl
theorem Zwj (x y a b c t:Str)(i j k:Int)(tv:List V)(p q r s m z:Int)(H:Str->Int)(ks:List Str)(vs:List V)(Q:Bool->Prop):Ot (Pr H) (Z9 24) (wT (uN 1)) (Pe x y a b c i j k tv p q r s m (.dict H ks vs) [("sign",.str t),("size",.int z)]) [] Q=(some H=some H/\Q (!ks.any λ x=>x==t)):=by kernel_rfl
theorem Zwz (x y a b c t:Str)(i j k:Int)(tv:List V)(p q r s m z:Int)(n:Nat)(Q:V->Prop):Gi F1 (Z9 24) (.Subscript u1.va u1.vb u1.vp) (Pe x y a b c i j k tv p q r s m (.ext n) [("sign",.str t),("size",.int z)]) [] Q=(y.length<=sizeLine/\Q (.str (Txt.slice y (some m) (some (m+z))))):=by kernel_rfl
theorem Zwx (x y a b c t:Str)(i j k:Int)(tv:List V)(p q r s m z:Int)(n:Nat)(Q:V->Prop):Gi F1 (Z9 24) u1.i (Pe x y a b c i j k tv p q r s m (.ext n) [("sign",.str t),("size",.int z)]) [] Q=Q (.str t):=by kernel_rfl
noncomputable def Zxz (e:Expr):Expr:=nv e [1,0,1,1]
noncomputable def lcM:Expr:=Zxz (wT (tN 2))
theorem Zwi (x y a b c:Str)(i j k:Int)(tv:List V)(p q r s m:Int)(H:Str->Int)(ks:List Str)(vs:List V)(K:KF):rd (Pr H) [] (Z9 24) [] (tN 2) (Pe x y a b c i j k tv p q r s m (.dict H ks vs) []) [] K=
  rdC (Pr H) 34 (Z9 24) lcM [] (x.cps.toList.map λ c=>.str ⟨#[c]⟩) [("images",.dict H ks vs)] λ acc=>m1V .join (.str "") [.list acc] λ v=>Ks .Add (.str "...") (drf [] v) λ w=>Ks .Add (drf [] w) (.str "...") λ z=>Qbu [z,.str y] λ o=>Oz o λ u=>
   cond u (K (.ret (.bool true)) (Pe x y a b c i j k tv p q r s m (.dict H ks vs) []) []) (K .next (Pe x y a b c i j k tv p q r s m (.dict H ks vs) []) []):=by kernel_rfl
theorem Zwe (t:Str)(H:Str->Int)(ks:List Str)(vs acc:List V)(Q:List V->Prop):rdI (Pr H) 34 (Z9 24) lcM [] (.str t) [("images",.dict H ks vs)] acc Q=
  (some H=some H/\((ks.zip vs).lookup t).elim False λ v=>X5 (decide (acc.length<16777216)) (Q (acc++[v]))):=by kernel_rfl
theorem Zwo:(Jw lcM).length=1:=by kernel_rfl
section
open Builtin Builtin.Str
theorem Qgk {x:List Nat}(hx:46∉x)(t:List Nat):ell (Zz++mk x++Zz) (mk t)=(Cv x t).isSome:=by
 have e:Zz++mk x++Zz=mk ([]++Xr ([x]++[[]])):=by rw[Qw4,X6,X6];simp[Xr]
 rw[e,Zje (ws:=[x]) (p:=[]) (q:=[]) (by simp) (by simp) (λ w hw=>by rw[Q3]at hw;exact hw▸hx)];show(([]:List Nat).isPrefixOf t&&(([]:List Nat).isSuffixOf t&&(decide (0+0<=t.length)&&goN [x] ((t.take (t.length-0)).drop 0))))=_
 have e1:([]:List Nat).isPrefixOf t=true:=by cases t <;> rfl
 have e2:([]:List Nat).isSuffixOf t=true:=by unfold List.isSuffixOf;rw[List.reverse_nil];cases t.reverse <;> rfl
 rw[e1,e2,Nat.sub_zero,List.take_length,List.drop_zero,Qw (Zy _),Bool.true_and,Bool.true_and,Bool.true_and];show(Cv x t).elim false (goN [])=_
 cases Cv x t <;> rfl
noncomputable def Bc (z:Nat->Nat)(line:List Nat):List Nat->Nat->List (Nat×List Nat)->List (Nat×List Nat)
 |[],_,G=>G
 |c::r,m,G=>Bc z line r (m+z c) (cond (G.any λ q=>q.1==c) G (G++[(c,(line.drop m).take (z c))]))
noncomputable def lk (G:List (Nat×List Nat))(c:Nat):List Nat:=(G.lookup c).getD []
noncomputable def Hq (z:Nat->Nat)(line p:List Nat)(s:Nat):Bool:=(Cv (p.flatMap (lk (Bc z line p s []))) line).isSome
noncomputable def gV (G:List (Nat×List Nat)):List (Str×Str):=G.map λ q=>(mk [q.1],mk q.2)
theorem mk1 {a b:Nat}:(mk [a]==mk [b])=(a==b):=by
 rw[Bool.eq_iff_iff,Zr,Zr];exact⟨λ h=>by have:=Zm (λ s:Str=>s.cps.toList) h;simpa [mk] using this,λ h=>by rw[h]⟩
theorem Qpp (G:List (Nat×List Nat))(c:Nat):((gV G).map (·.1)).any (·==⟨#[c]⟩)=G.any λ q=>q.1==c:=by
 rw[Uz];unfold gV;rw[Z3,List.any_map]
 congr 1
 funext q
 exact mk1
theorem Qro {G:List (Nat×List Nat)}{c:Nat}(l:List Nat)(h:(G.any λ q=>q.1==c)=false):sto (gV G) ⟨#[c]⟩ (mk l)=gV (G++[(c,l)]):=by
 have e:(gV G).any (λ p=>p.1=⟨#[c]⟩)=false:=by
  have:=Qpp G c;rw[h,List.any_map]at this;rw[<- this]
  congr 1
 unfold sto;rw[e,if_neg Zu,Uz];unfold gV;rw[Zt];rfl
theorem Qdo {G:List (Nat×List Nat)}{c:Nat}{l:List Nat}(h:G.lookup c=some l):(((gV G).map (·.1)).zip ((gV G).map λ p=>V.str p.2)).lookup ⟨#[c]⟩=some (.str (mk l)):=by
 rw[Uz];induction G with
 |nil=>cases h
 |cons q G ih=>
  show List.lookup (mk [c]) ((mk [q.1],V.str (mk q.2))::(((gV G).map (·.1)).zip ((gV G).map λ p=>V.str p.2)))=_;rw[Qz,mk1];rw[Qz]at h;cases e:c==q.1 with
  |true=>rw[e]at h;cases h;rfl
  |false=>rw[e]at h;exact ih h
theorem Qmt {G:List (Nat×List Nat)}{c:Nat}{l:List Nat}(H:List (Nat×List Nat))(h:G.lookup c=some l):(G++H).lookup c=some l:=by
 induction G with
 |nil=>cases h
 |cons q G ih=>
  rw[Yq,Qz];rw[Qz]at h;cases e:c==q.1 with
  |true=>rw[e]at h;exact h
  |false=>rw[e]at h;exact ih h
theorem Dd (G:List (Nat×List Nat))(c:Nat):(G.lookup c).isSome=G.any λ q=>q.1==c:=by
 induction G with
 |nil=>rfl
 |cons q G ih=>
  rw[Qz,List.any_cons,<- ih];cases e:c==q.1 with
  |true=>rw[show(q.1==c)=true by rw[<- eq_of_beq e];exact Qt _];rfl
  |false=>rw[show(q.1==c)=false from Ql.mpr λ z=>by rw[z,Qt]at e;cases e];rfl
theorem Qjc {z:Nat->Nat}{line:List Nat}{c:Nat}{l:List Nat}(p:List Nat):∀(m:Nat) (G:List (Nat×List Nat)),G.lookup c=some l->(Bc z line p m G).lookup c=some l:=by
 induction p with
 |nil=>exact λ J J h=>h
 |cons k p ih=>
  intro m G h;refine ih _ _ ?_;cases G.any λ q=>q.1==k with
  |true=>exact h
  |false=>exact Qmt _ h
theorem Qp9 {z:Nat->Nat}{line:List Nat}(p:List Nat):∀(m:Nat) (G:List (Nat×List Nat)),∀c∈p,∃l,(Bc z line p m G).lookup c=some l:=by
 induction p with
 |nil=>exact λ J J c h=>nomatch h
 |cons k p ih=>
  intro m G c hc
  rcases Qx.mp hc with rfl |hc
  .have:∃l,(cond (G.any λ q=>q.1==c) G (G++[(c,(line.drop m).take (z c))])).lookup c=some l:=by
    have e:=Dd G c;cases q:G.any λ q=>q.1==c with
    |true=>rw[q]at e;exact Option.isSome_iff_exists.mp e
    |false=>
     refine Option.isSome_iff_exists.mp ?_;rw[Dd];show(G++_).any _=true;rw[List.any_append];simp
   obtain⟨l,h⟩:=this;exact⟨l,Qjc p _ _ h⟩
  .exact ih _ _ c hc
theorem Qy4 {z:Nat->Nat}{line:List Nat}(p:List Nat):∀(m:Nat) (G:List (Nat×List Nat)),(∀q∈G,(∀x∈q.2,x∈line)/\q.2.length<=line.length)->∀q∈Bc z line p m G,(∀x∈q.2,x∈line)/\q.2.length<=line.length:=by
 induction p with
 |nil=>exact λ J J h=>h
 |cons k p ih=>
  intro m G h;refine ih _ _ ?_;cases G.any λ q=>q.1==k with
  |true=>exact h
  |false=>
   intro q hq
   rcases List.mem_append.mp hq with hq |hq
   .exact h q hq
   .rw[Q3]at hq;subst hq;exact⟨λ x hx=>List.mem_of_mem_drop (List.mem_of_mem_take hx),by rw[List.length_take,List.length_drop];lia⟩
theorem Qmd {G:List (Nat×List Nat)}{c:Nat}{l:List Nat}(h:G.lookup c=some l):(c,l)∈G:=by
 induction G with
 |nil=>cases h
 |cons q G ih=>
  rw[Qz]at h;cases e:c==q.1 with
  |true=>rw[e]at h;cases h;rw[eq_of_beq e];exact .head _
  |false=>rw[e]at h;exact .tail _ (ih h)
theorem S5 {xs:List V}{j:Nat}{v:V}(h:xs[j]?=some v):Ge xs (j:Int)=some v:=by
 have hj:j<xs.length:=by
  rcases Nat.lt_or_ge j xs.length with q |q
  .exact q
  .rw[Qo q]at h;cases h
 unfold Ge;rw[StrLaws.seqIndex_nonneg (by exact Qy _) (by simpa using hj)];exact h
theorem Kf {xs:List V}{j:Nat}{v:V}{k:V->Prop}(h:xs[j]?=some v)(hj:j<1000)(hk:k v):Qqz xs (j:Int) k:=by
 have a:decide (-(2^63)<=(j:Int))=true:=Qw (Int.le_trans (by decide:-(2^63)<=(0:Int)) (Qy j));have b:decide ((j:Int)<2^63)=true:=Qw (Int.lt_trans (Int.ofNat_lt.mpr hj) (by decide:((1000:Nat):Int)<2^63));refine Yp.mpr ⟨v,S5 h,?_⟩;rw[a,b];exact hk
theorem Gk.app (a b:Loc):Gk a (a++b):=λ y u e=>by
 induction a with
 |nil=>cases e
 |cons q a ih=>
  rw[Yq,Qz];rw[Qz]at e;cases h:y==q.1 with
  |true=>rw[h]at e;exact e
  |false=>rw[h]at e;exact ih e
section
variable {γ:Type}{W:Qj}{c:Cx}{Z:Addr->Prop}{Γ:γ->Lay->Shared->Prop}{loc:Loc}{st:Q4}{g:γ}{K:Fl->Loc->Q4->γ->Prop}
theorem Dj {a:Stmt}{r:List Stmt}(h:XG W c Z Γ (exec a c.env) loc st g (Qmw (λ loc' st' g'=>XGB W c Z Γ r loc' st' g' K) K)):XGB W c Z Γ (a::r) loc st g K:=
 ⟨E5 (h.mono λ fl loc' st' g' q=>by
  cases fl with
  |next=>exact XGB.go q
  |_=>exact q)⟩
theorem Qk0 (h:K .next loc st g):XGB W c Z Γ [] loc st g K:=⟨Quz h⟩
end
theorem Vl.hash {W:Qj}{c:Cx}{kd:Kd}{bnd:List Str}(H:Vl W F1 kd bnd c):Vl W (Pr (PySem.strKind W.prog W.w).hash) kd bnd c:=
 ⟨H.O,⟨H.FO.gl,H.FO.bi,H.FO.isi,λ J e=>Option.some.inj e,H.FO.sp⟩,H.ch,H.kd,H.bnd⟩
section
variable {W:Qj}{c:Cx}{n:Nat}{D:Addr}{z:Nat->Nat}{line:List Nat}{x a b d:Str}{i j l:Int}{tv:List V}{P Q R:Nat}{s:Int}
theorem Qj5 (H:Vl W F1 (Z9 24) [] c){K:Fl->Loc->Q4->List (Str×Str)->Prop}(hl:line.length<=1000)(p:List Nat)
  (hz:∀k∈p,(⟨#[k]⟩:Str)∈[a,b,d]/\[P,Q,R][[a,b,d].idxOf (⟨#[k]⟩:Str)]?=some (z k)):∀(m:Nat) (G:List (Nat×List Nat)) (loc:Loc),G.length+p.length<=1000->Gk (Pe x (mk line) a b d i j l tv P Q R s m (.ext n) []) loc->
  (∀(m':Nat) loc',Gk (Pe x (mk line) a b d i j l tv P Q R s m' (.ext n) []) loc'->K .next loc' [] (gV (Bc z line p m G)))->
  XTG W c (·=D) (GD W c n D) "sign" (wB (tN 1)) none (p.map λ c=>V.str ⟨#[c]⟩) loc [] (gV G) K:=by
 have hb:c.bnd=[]:=H.bnd;induction p with
 |nil=>exact λ m G loc J hs hK=>Qxe (hK m loc hs)
 |cons k p ih=>
  intro m G loc hG hs hK;obtain⟨h1,h2⟩:=hz k (.head _);refine Ie (XGB.fewer (loc0:=Pe x (mk line) a b d i j l tv P Q R s m (.ext n) [("sign",.str ⟨#[k]⟩)]) ?_ hb (hs.set "sign" (.str ⟨#[k]⟩)));rw[Qo3];refine Ao (owns:=[]) (B6 W c n D) H ?_;rw[u_0];have hj:[a,b,d].idxOf (⟨#[k]⟩:Str)<1000:=Nat.lt_trans (List.idxOf_lt_length_of_mem h1) (by show 3<1000;decide);have h3:[V.int (P:Nat),V.int (Q:Nat),V.int (R:Nat)][[a,b,d].idxOf (⟨#[k]⟩:Str)]?=some (V.int (z k:Nat)):=by
   have:([P,Q,R].map λ q:Nat=>V.int (q:Nat))[[a,b,d].idxOf (⟨#[k]⟩:Str)]?=some (V.int (z k:Nat)):=by rw[Z7,h2];rfl
   exact this
  refine⟨h1,by show 3<=1000;decide,Kf h3 hj ?_⟩;show XGB W c _ _ _ _ _ _ _;refine Dj ?_;rw[u_1];refine Qc1 (x:="images") rfl (by rw[hb];rfl) (Qz8 H.hash ?_);show Ot (Pr _) (Z9 24) (wT (uN 1)) (Pe x (mk line) a b d i j l tv P Q R s m (Tu W (gV G)) [("sign",.str ⟨#[k]⟩),("size",.int (z k:Nat))]) [] _;unfold Tu;rw[Zwj,Qpp];refine⟨rfl,?_⟩;have last:∀G',G'.length+p.length<=1000->(Bc z line p (m+z k) G'=Bc z line (k::p) m G)->XGB W c (·=D) (GD W c n D) [uN 2] (Pe x (mk line) a b d i j l tv P Q R s m (.ext n) [("sign",.str ⟨#[k]⟩),("size",.int (z k:Nat))]) [] (gV G')
    (Qmf (λ loc' st' g'=>okV st' none/\XTG W c (·=D) (GD W c n D) "sign" [uN 0,uN 1,uN 2] none (p.map λ c=>V.str ⟨#[c]⟩) loc' st' g' K) K):=λ G' hG' e=>by
   refine Ao (owns:=[]) (B6 W c n D) H ?_;rw[u_2];refine Qk0 ⟨trivial,?_⟩;rw[<- Qo3];refine ih (λ k hk=>hz k (.tail _ hk)) (m+z k) G' _ hG' ?_ (λ m' loc' hs'=>by rw[e];exact hK m' loc' hs');exact Gk.app (Pe x (mk line) a b d i j l tv P Q R s ((m+z k:Nat):Int) (.ext n) []) [("sign",.str ⟨#[k]⟩),("size",.int (z k:Nat))]
  rw[Qb]at hG;cases q:G.any λ q=>q.1==k with
  |true=>exact last G (by lia) (by show _=Bc z line p (m+z k) (cond (G.any λ q=>q.1==k) G _);rw[q];rfl)
  |false=>
   show XG W c _ _ _ _ _ _ _;refine E5 ((Qwp H.O (x:="images") rfl (by decide) (by decide) (by unfold gV;rw[Q6,Zv];lia) (G8 H ?_).go));rw[Zwz];refine⟨by rw[Qn,Zv];lia,(G8 H ?_).go⟩;rw[Zwx];have e:Txt.slice (mk line) (some (m:Int)) (some ((m:Int)+(z k:Nat)))=mk ((line.drop m).take (z k)):=by
    have:=Bm line (a:=m) (b:=m+z k) (Zq _ _);rw[Nat.add_sub_cancel_left]at this;exact this
   refine⟨_,_,rfl,rfl,?_⟩;rw[e,Qro _ q];refine Quz ?_;exact last (G++[(k,(line.drop m).take (z k))]) (by rw[Q8,Zw];lia) (by show _=Bc z line p (m+z k) (cond (G.any λ q=>q.1==k) G _);rw[q];rfl)
end
theorem Zvx (x y a b c:Str)(i j k:Int)(tv:List V)(p q r s m:Int)(u:V):Yx (Yx (mL x y a b c (oL i j k tv (szL p q r s []))) "images" u) "place" (.int m)=Pe x y a b c i j k tv p q r s m u []:=by kernel_rfl
theorem Zvo (x y a b c:Str)(i j k:Int)(tv:List V)(p q r s m:Int)(u v:V):Yx (Pe x y a b c i j k tv p q r s m u []) "images" v=Pe x y a b c i j k tv p q r s m v []:=by kernel_rfl
theorem Zve (x y a b c:Str)(i j k:Int)(tv:List V)(p q r s m:Int)(u:V):(Pe x y a b c i j k tv p q r s m u []).lookup ("images":Str)=some u:=by kernel_rfl
theorem Zy0 (x y a b c:Str)(i j k:Int)(tv:List V)(p q r s m:Int)(u:V):Pe x y a b c i j k tv p q r s m u []=mL x y a b c (oL i j k tv (szL p q r s []))++imL m u []:=by kernel_rfl
noncomputable def lkV (G:List (Nat×List Nat))(v:V):Option V:=vstr' v λ t=>some (.str (mk (lk G (t.cps.toList.headD 0))))
where vstr' (v:V) (k:Str->Option V):Option V:=match v with
 |.str t=>k t
 |_=>none
theorem Qdg (G:List (Nat×List Nat))(p:List Nat):(p.map λ c=>V.str ⟨#[c]⟩).filterMap (lkV G)=((p.map (lk G)).map mk).map V.str:=by
 induction p with
 |nil=>rfl
 |cons c p ih=>
  rw[Qu,List.filterMap_cons_some (show lkV G (.str ⟨#[c]⟩)=some (.str (mk (lk G c))) from rfl),ih];rfl
theorem Qlz {G:List (Nat×List Nat)}{c:Nat}{l:List Nat}(h:G.lookup c=some l):lk G c=l:=by unfold lk;rw[h];rfl
theorem Aa {kd:Kd}{bnd:List Str}{x y:Str}{u v:V}{loc:Loc}{k:Loc->Prop}(h1:Be kd bnd x=true)(h2:Be kd bnd y=true)(h:k (Yx (Yx loc x u) y v)):W0 kd bnd [x,y] [u,v] loc k:=Zn h1 (Zn h2 h)
theorem Qt3 {l:List (List Nat)}{B:Nat}(h:∀y∈l,y.length<=B):l.flatten.length<=l.length*B:=by
 induction l with
 |nil=>exact Zy _
 |cons y l ih=>
  rw[List.flatten_cons,Q8,Qb,Nat.add_mul,Nat.one_mul,Nat.add_comm];exact Nat.add_le_add (ih λ y hy=>h y (.tail _ hy)) (h y (.head _))
section
variable {W:Qj}{c:Cx}{z:Nat->Nat}{line p:List Nat}{a b d:Str}{i j l:Int}{tv:List V}{P Q R s:Nat}
theorem Qzo (H:Vl W F1 (Z9 24) [] c)(hl:line.length<=7)(hp:p.length<=7)(h46:46∉line)(hz:∀k∈p,(⟨#[k]⟩:Str)∈[a,b,d]/\[P,Q,R][[a,b,d].idxOf (⟨#[k]⟩:Str)]?=some (z k)):
  XB W c (wB stB) (mL (mk p) (mk line) a b d (oL i j l tv (szL P Q R s []))) [] λ fl loc' st'=>st'=[]/\cond (Hq z line p s) (fl=.ret (.bool true)) (fl=.next/\Gk (mL (mk p) (mk line) a b d (oL i j l tv (szL P Q R s []))) loc'):=by
 have z16:sizeLine=16777216:=rfl;rw[Zvb];refine⟨?_⟩;rw[Zvz];refine Qxo H.O H.ch (x:="images") Zvq (No H.O.ek (by rw[H.kd];exact Zv9)) (by rw[H.bnd];rfl) ?_;refine P5 H.O Qo4.1 λ n=>Cu Qo4.2 (Fa.of (G8 H ?_).go);rw[Zvj];refine P4 ⟨by show 2<=sizeLine;decide,?_⟩;rw[H.kd,H.bnd];refine Aa (by decide +kernel) (by decide +kernel) λ D=>?_;rw[Zvx];refine Qwq (B6 W c n D) H Zv7 (by decide +kernel) (by decide +kernel) ?_;unfold Pe;rw[Zv6,Zk,Zv4];refine Qj5 H (by lia) p hz s [] _ (by show 0+_<=_;lia) (Gk.refl _) λ m' loc' hs=>⟨rfl,hs "images" (.ext n) (Zve ..),?_⟩;have hs':=hs.set "images" (Tu W (gV (Bc z line p s [])));rw[Zvo]at hs';refine(XB.fewer ?_ H.bnd hs').go;refine Qk (owns:=[]) H.hash ?_;unfold Tu;rw[Zwi,Zk];have vals:=Qy4 (z:=z) (line:=line) p s [] (λ q hq=>nomatch hq);have all:=Qp9 (z:=z) (line:=line) p s [];have lkp:∀k∈p,(lk (Bc z line p s []) k).length<=7/\46∉lk (Bc z line p s []) k:=λ k hk=>by
  obtain⟨w,hw⟩:=all k hk;obtain⟨v1,v2⟩:=vals _ (Qmd hw);rw[Qlz hw];exact⟨Q1 v2 hl,λ q=>h46 (v1 46 q)⟩
 have look:∀k∈p,(((gV (Bc z line p s [])).map (·.1)).zip ((gV (Bc z line p s [])).map λ p=>V.str p.2)).lookup ⟨#[k]⟩=some (.str (mk (lk (Bc z line p s []) k))):=λ k hk=>by
  obtain⟨w,hw⟩:=all k hk;rw[Qdo hw,Qlz hw]
 have hm:Hq z line p s=(Cv (p.map (lk (Bc z line p s []))).flatten line).isSome:=by
  unfold Hq;rw[List.flatMap_def]
 rw[hm];generalize Bc z line p s []=G at*;refine Gz (lkV G) Zwo ?_ ?_
 .intro u hu acc k' ha hk;obtain⟨k,hk0,rfl⟩:=Qv.mp hu;rw[Zwe,look k hk0];rw[Q6]at ha;exact⟨rfl,Zn (Qw (by lia)) hk⟩
 .rw[Qdg];have fl:(p.map (lk G)).flatten.length<=49:=by
   have:=Qt3 (l:=p.map (lk G)) (B:=7) (λ y hy=>by obtain⟨k,hk,rfl⟩:=Qv.mp hy;exact(lkp k hk).1);rw[Q6]at this;lia
  have f46:46∉(p.map (lk G)).flatten:=λ q=>by
   obtain⟨y,hy,h⟩:=List.mem_flatten.mp q;obtain⟨k,hk,rfl⟩:=Qv.mp hy;exact(lkp k hk).2 h
  refine Yp.mpr ⟨(p.map (lk G)).map mk,Xo _,Nx (B:=7) ?_ ?_,?_⟩
  .intro y hy;obtain⟨w,hw,rfl⟩:=Qv.mp hy;obtain⟨k,hk,rfl⟩:=Qv.mp hw;rw[Qn];exact(lkp k hk).1
  .simp only[Q6];lia
  .rw[Qkr];generalize (p.map (lk G)).flatten=w at fl f46;show(Zz:Str).length+(mk w).length<=sizeLine/\(Zz++mk w).length+Zz.length<=sizeLine/\(Zz++mk w++Zz).length<=1000/\(mk line).length<=1000/\cond (ell (Zz++mk w++Zz) (mk line)) _ _;have e1:(Zz:Str).length=3:=by decide
   have e2:∀x y:Str,(x++y).length=x.length+y.length:=λ x y=>PySem.Str.length_append x y;refine⟨by rw[e1,Qn];lia,by rw[e2,e1,Qn];lia,by rw[e2,e2,e1,Qn];lia,by rw[Qn];lia,?_⟩;rw[Qgk f46];cases (Cv w line).isSome with
   |true=>exact⟨rfl,rfl⟩
   |false=>
    refine Uq ⟨rfl,rfl,?_⟩;rw[Zy0];exact Gk.app _ _
end
noncomputable def rg (T:Nat):List Nat:=List.range' 1 (T-1)
structure isT (T:Nat):Prop where
 h:T=6\/T=2
theorem Zb3 (q:List V->Prop):Xv (drf [] (.range 1 ((6:Nat):Int) 1)) q=q ((rg 6).map λ n:Nat=>V.int n):=by kernel_rfl
theorem Zb4 (q:List V->Prop):Xv (drf [] (.range 1 ((2:Nat):Int) 1)) q=q ((rg 2).map λ n:Nat=>V.int n):=by kernel_rfl
theorem Qrg {T:Nat}(h:isT T)(q:List V->Prop):Xv (drf [] (.range 1 (T:Int) 1)) q=q ((rg T).map λ n:Nat=>V.int n):=by
 have h:T=6\/T=2:=h.h;cases h with
 |inl h=>subst h;exact Zb3 q
 |inr h=>subst h;exact Zb4 q
noncomputable def O9 (t:Nat×Nat×Nat):V:=.tuple [.int t.1,.int t.2.1,.int t.2.2]
noncomputable def S1 (x y o1 o2 o3:Nat)(z:Nat):List (Nat×Nat×Nat):=cond (decide (x*o1+y*o2+z*o3<8)) [(x,y,z)] []
noncomputable def S2 (T3 x o1 o2 o3:Nat)(y:Nat):List (Nat×Nat×Nat):=(rg T3).flatMap (S1 x y o1 o2 o3)
noncomputable def S3 (T2 T3 o1 o2 o3:Nat)(x:Nat):List (Nat×Nat×Nat):=(rg T2).flatMap (S2 T3 x o1 o2 o3)
noncomputable def S4 (T1 T2 T3 o1 o2 o3:Nat):List (Nat×Nat×Nat):=(rg T1).flatMap (S3 T2 T3 o1 o2 o3)
theorem Ls {α β:Type}(l:List α)(f:α->List β)(B:Nat)(h:∀x∈l,(f x).length<=B):(l.flatMap f).length<=l.length*B:=by
 induction l with
 |nil=>exact Zy _
 |cons y l ih=>
  rw[List.flatMap_cons,Q8,Qb,Nat.add_mul,Nat.one_mul,Nat.add_comm];exact Nat.add_le_add (ih λ y hy=>h y (.tail _ hy)) (h y (.head _))
theorem Hs {T:Nat}(h:isT T):(rg T).length<=5/\∀x∈rg T,1<=x/\x<=5:=by rcases h with⟨rfl |rfl⟩ <;> decide
theorem Qi2 (x y o1 o2 o3 z:Nat):(S1 x y o1 o2 o3 z).length<=1:=by unfold S1;cases decide (x*o1+y*o2+z*o3<8) <;> first |exact Q2 _ |exact Zy _
theorem Qi1 {T3:Nat}(h:isT T3)(x o1 o2 o3 y:Nat):(S2 T3 x o1 o2 o3 y).length<=5:=by
 have:=Ls (rg T3) (S1 x y o1 o2 o3) 1 λ z J=>Qi2 ..;have:=(Hs h).1;unfold S2;lia
theorem Qi0 {T2 T3:Nat}(h2:isT T2)(h3:isT T3)(o1 o2 o3 x:Nat):(S3 T2 T3 o1 o2 o3 x).length<=25:=by
 have:=Ls (rg T2) (S2 T3 x o1 o2 o3) 5 λ y J=>Qi1 h3 ..;have:=(Hs h2).1;unfold S3;lia
theorem Qao {T1 T2 T3:Nat}(h1:isT T1)(h2:isT T2)(h3:isT T3)(o1 o2 o3:Nat):(S4 T1 T2 T3 o1 o2 o3).length<=125:=by
 have:=Ls (rg T1) (S3 T2 T3 o1 o2 o3) 25 λ y J=>Qi0 h2 h3 ..;have:=(Hs h1).1;unfold S4;lia
theorem Gr {α β γ:Type}(l:List α)(f:α->List β)(g:β->γ):l.flatMap (λ x=>(f x).map g)=(l.flatMap f).map g:=by
 rw[List.map_flatMap]
theorem Pd {kd:Kd}{el:Loc->(V->Prop)->Prop}{ev:Expr->Loc->(V->Prop)->Prop}{ts:Expr->Loc->(Bool->Prop)->Prop}{st:Q4}{g:Comprehension}{gs:List Comprehension}{loc:Loc}{acc:List V}{k:List V->Prop}(h1:decide (g.is_async=0)=true)(h2:Jj g.iter=true)
  (h:ev g.iter loc λ v=>Xv (drf st v) λ xs=>V3 kd ts (cGo kd el ev ts st gs) g xs loc acc k):cGo kd el ev ts st (g::gs) loc acc k:=Zn h1 (Zn h2 h)
theorem Iz {kd:Kd}{el:Loc->(V->Prop)->Prop}{ev:Expr->Loc->(V->Prop)->Prop}{ts:Expr->Loc->(Bool->Prop)->Prop}{st:Q4}{loc:Loc}{acc:List V}{k:List V->Prop}
  (h:el loc λ v=>X5 (decide (acc.length<16777216)) (k (acc++[v]))):cGo kd el ev ts st [] loc acc k:=h
theorem H6 {ts:Expr->Loc->(Bool->Prop)->Prop}{loc:Loc}{q:Bool->Prop}:Bu ts [] loc q=q true:=rfl
theorem Rv {x o:Nat}(h:x<=5):IntMulOk (x:Int) (o:Int):=by
 have:x=0\/x=1\/x=2\/x=3\/x=4\/x=5:=by lia
 rcases this with rfl |rfl |rfl |rfl |rfl |rfl <;> exact IntMulOk.of_left (by decide)
theorem Qv0 {x y a b c:Str}{T1 T2 T3 o1 o2 o3:Nat}(h1:isT T1)(h2:isT T2)(h3:isT T3){k:V->Prop}(hk:k (.list ((S4 T1 T2 T3 o1 o2 o3).map O9))):
  Gi F1 (Z9 24) (wT (sN 24 3)) (mL x y a b c (oL o1 o2 o3 [.int (T1:Nat),.int (T2:Nat),.int (T3:Nat)] [])) [] k:=by
 show(X7 F1 (39+1)).1 (Z9 24) szE _ [] k;have hc:=Zql x y a b c o1 o2 o3 [.int (T1:Nat),.int (T2:Nat),.int (T3:Nat)];generalize hL:mL x y a b c (oL o1 o2 o3 [.int (T1:Nat),.int (T2:Nat),.int (T3:Nat)] [])=L at hc |-;refine Lb (F:=F1) (n:=39) (kd:=Z9 24) (e:=szE) (g:=gN 0) (gs:=[gN 1,gN 2]) (st:=[]) hc Qdv ?_;subst hL;rw[Zqr];rw[@Qrg T1 h1,Qdw];refine⟨?_⟩;refine Vy (λ n:Nat=>V.int n) (λ u=>(S3 T2 T3 o1 o2 o3 u).map O9) (M:=1000) (λ u hu acc k1 hM hk1=>?_) ?_ ?_
 .rw[Zqo [],Qmp.1];rw[H6,Zi];refine Pd (g:=gN 1) (gs:=[gN 2]) Qdu.1 Qdu.2.2.1 ?_;show(X7 F1 39).1 szK (gN 1).iter ((("x":Str),V.int (u:Nat))::oL o1 o2 o3 [.int (T1:Nat),.int (T2:Nat),.int (T3:Nat)] []) [] _;rw[Zqs,@Qrg T2 h2];refine Vy (λ n:Nat=>V.int n) (λ v=>(S2 T3 u o1 o2 o3 v).map O9) (M:=1000) (λ v hv acc k2 hM2 hk2=>?_) ?_ ?_
  .rw[Zqe,Qmp.2];rw[H6,Zi];refine Pd (g:=gN 2) (gs:=[]) Qdu.2.1 Qdu.2.2.2 ?_;show(X7 F1 39).1 szK (gN 2).iter ((("y":Str),V.int (v:Nat))::(("x":Str),V.int (u:Nat))::oL o1 o2 o3 [.int (T1:Nat),.int (T2:Nat),.int (T3:Nat)] []) [] _;rw[Zqc,@Qrg T3 h3];refine Vy (λ n:Nat=>V.int n) (λ w=>(S1 u v o1 o2 o3 w).map O9) (M:=1000) (λ w hw acc k3 hM3 hk3=>?_) ?_ ?_
   .rw[Zqi,Zqn];refine⟨Rv ((Hs h1).2 u hu).2,Rv ((Hs h2).2 v hv).2,Rv ((Hs h3).2 w hw).2,?_⟩;have e:decide ((u:Int)*(o1:Int)+(v:Int)*(o2:Int)+(w:Int)*(o3:Int)<8)=decide (u*o1+v*o2+w*o3<8):=by
     have:(u:Int)*(o1:Int)+(v:Int)*(o2:Int)+(w:Int)*(o3:Int)=((u*o1+v*o2+w*o3:Nat):Int):=by simp
     rw[this];exact decide_eq_decide.mpr ⟨λ h=>by lia,λ h=>by lia⟩
    rw[e];unfold S1 at hk3;cases q:decide (u*o1+v*o2+w*o3<8) with
    |true=>
     rw[q]at hk3;rw[Zi,Zi];refine Iz ?_;show(X7 F1 39).1 szK (Fb szE) ((("z":Str),V.int (w:Nat))::(("y":Str),V.int (v:Nat))::(("x":Str),V.int (u:Nat))::oL o1 o2 o3 [.int (T1:Nat),.int (T2:Nat),.int (T3:Nat)] []) [] _;rw[Zqa];have hM3:acc.length+((S1 u v o1 o2 o3 w).map O9).length<=1000:=hM3;exact Zn (Qw (by lia)) hk3
    |false=>
     rw[q]at hk3;rw[Zo,Zo];rw[<- Qs acc];exact hk3
   .rw[Gr];exact hM2
   .rw[Gr];exact hk2
  .rw[Gr];exact hM
  .rw[Gr];exact hk1
 .rw[Gr,Q6];have:=Qao h1 h2 h3 o1 o2 o3;unfold S4 at this;simp only[Zs];lia
 .rw[Gr];exact hk
theorem one_inj {a b:Nat}(h:(⟨#[a]⟩:Str)=⟨#[b]⟩):a=b:=by
 have:=Zm (λ s:Str=>s.cps.toList) h
 simpa using this
theorem Qx4 (p:List Nat):(Gm p).Nodup/\∀s,s∈Gm p↔∃c∈p,s=⟨#[c]⟩:=by
 have:∀(p:List Nat) (D:List Str),D.Nodup->(p.foldl (λ D c=>if (⟨#[c]⟩:Str)∈D then D else D++[⟨#[c]⟩]) D).Nodup/\
   ∀s,s∈p.foldl (λ D c=>if (⟨#[c]⟩:Str)∈D then D else D++[⟨#[c]⟩]) D↔s∈D\/∃c∈p,s=⟨#[c]⟩:=λ p=>by
  induction p with
  |nil=>exact λ D hD=>⟨hD,λ s=>⟨.inl,λ h=>h.elim id λ ⟨c,hc,_⟩=>nomatch hc⟩⟩
  |cons c p ih=>
   intro D hD;rw[List.foldl_cons];by_cases q:(⟨#[c]⟩:Str)∈D
   .rw[if_pos q];refine⟨(ih D hD).1,λ s=>((ih D hD).2 s).trans ⟨λ h=>h.imp id λ ⟨k,hk,e⟩=>⟨k,.tail _ hk,e⟩,λ h=>h.elim .inl λ ⟨k,hk,e⟩=>?_⟩⟩
    rcases Qx.mp hk with rfl |hk
    .exact .inl (e▸q)
    .exact .inr ⟨k,hk,e⟩
   .rw[if_neg q];have hD':(D++[(⟨#[c]⟩:Str)]).Nodup:=List.nodup_append.mpr ⟨hD,by simp,λ a ha b hb e=>by
     rw[Q3]at hb;exact q (hb▸e▸ha)⟩
    refine⟨(ih _ hD').1,λ s=>((ih _ hD').2 s).trans ⟨λ h=>?_,λ h=>?_⟩⟩
    .rcases h with h |⟨k,hk,e⟩
     .rcases List.mem_append.mp h with h |h
      .exact .inl h
      .exact .inr ⟨c,.head _,Q3.mp h⟩
     .exact .inr ⟨k,.tail _ hk,e⟩
    .rcases h with h |⟨k,hk,e⟩
     .exact .inl (List.mem_append_left _ h)
     .rcases Qx.mp hk with rfl |hk
      .exact .inl (List.mem_append_right _ (Q3.mpr e))
      .exact .inr ⟨k,hk,e⟩
 obtain⟨h1,h2⟩:=this p [] List.nodup_nil;exact⟨h1,λ s=>(h2 s).trans ⟨λ h=>h.elim (λ h=>nomatch h) id,.inr⟩⟩
theorem S0:∀(M:List Nat) (a:Nat),risingS ⟨#[a]⟩ (M.map λ c=>(⟨#[c]⟩:Str))=true->(∀b∈M,a<=b)/\M.Pairwise (·<=·):=by
 intro M;induction M with
 |nil=>exact λ a J=>⟨λ b hb=>(nomatch hb),.nil⟩
 |cons b M ih=>
  intro a h;rw[Qu]at h;have h:(!(decide (b<a)||(b==a&&false))&&risingS ⟨#[b]⟩ (M.map λ c=>(⟨#[c]⟩:Str)))=true:=h;rw[Bool.and_false,Bool.or_false,Qa,Bool.not_eq_true',decide_eq_false_iff_not]at h;obtain⟨h1,h2⟩:=ih b h.2;refine⟨λ c hc=>?_,.cons h1 h2⟩
  rcases Qx.mp hc with rfl |hc
  .exact Nat.not_lt.mp h.1
  .exact Q1 (Nat.not_lt.mp h.1) (h1 c hc)
theorem Qwo {M:List Nat}(h:sortedS (M.map λ c=>(⟨#[c]⟩:Str))=true):M.Pairwise (·<=·):=by
 cases M with
 |nil=>exact .nil
 |cons a M=>exact .cons (S0 M a h).1 (S0 M a h).2
theorem An:∀{M N:List Nat},M.Pairwise (· < ·)->N.Pairwise (· < ·)->(∀c,c∈M↔c∈N)->M=N:=by
 intro M;induction M with
 |nil=>
  intro N _ _ h;cases N with
  |nil=>rfl
  |cons b N=>exact nomatch (h b).mpr (.head _)
 |cons a M ih=>
  intro N hM hN h;cases N with
  |nil=>exact nomatch (h a).mp (.head _)
  |cons b N=>
   obtain⟨m1,m2⟩:=List.pairwise_cons.mp hM;obtain⟨n1,n2⟩:=List.pairwise_cons.mp hN;have e:a=b:=by
    rcases Qx.mp ((h a).mp (.head _)) with e |e
    .exact e
    .rcases Qx.mp ((h b).mpr (.head _)) with e' |e'
     .exact e'.symm
     .exact absurd (Nat.lt_trans (n1 a e) (m1 b e')) (Y6 _)
   subst e;rw[ih m2 n2 λ c=>⟨λ hc=>?_,λ hc=>?_⟩]
   .rcases Qx.mp ((h c).mp (.tail _ hc)) with e |e
    .exact absurd (m1 c hc) (e▸Y6 _)
    .exact e
   .rcases Qx.mp ((h c).mpr (.tail _ hc)) with e |e
    .exact absurd (n1 c hc) (e▸Y6 _)
    .exact e
theorem Ar {p N:List Nat}{ss:List Str}(hp:ss.Perm (Gm p))(hs:sortedS ss=true)(hN:N.Pairwise (· < ·))(hm:∀c,c∈N↔c∈p):ss=N.map λ c=>⟨#[c]⟩:=by
 obtain⟨d1,d2⟩:=Qx4 p;have mem:∀s,s∈ss↔∃c∈p,s=(⟨#[c]⟩:Str):=λ s=>hp.mem_iff.trans (d2 s);have e:(ss.map λ s=>s.cps.toList.headD 0).map (λ c=>(⟨#[c]⟩:Str))=ss:=by
  rw[Z3];refine(List.map_congr_left λ s h=>?_).trans (List.map_id _);obtain⟨c,_,rfl⟩:=(mem s).mp h;rfl
 have e2:(ss.map λ s=>s.cps.toList.headD 0)=N:=by
  refine An ?_ hN λ c=>?_
  .have h1:=Qwo (M:=ss.map λ s=>s.cps.toList.headD 0) (by rw[e];exact hs);have h2:(ss.map λ s=>s.cps.toList.headD 0).Nodup:=by
    have:((ss.map λ s=>s.cps.toList.headD 0).map (λ c=>(⟨#[c]⟩:Str))).Nodup:=by rw[e];exact hp.nodup_iff.mpr d1
    exact List.Pairwise.of_map _ (λ a b h e=>h (by rw[e])) this
   exact(List.pairwise_and_iff.mpr ⟨h1,h2⟩).imp λ h=>Nat.lt_of_le_of_ne h.1 h.2
  .rw[hm];constructor
   .intro h;obtain⟨s,hs,rfl⟩:=Qv.mp h;obtain⟨c,hc,rfl⟩:=(mem s).mp hs;exact hc
   .intro h;exact Qv.mpr ⟨⟨#[c]⟩,(mem _).mpr ⟨c,h,rfl⟩,rfl⟩
 rw[<- e2,e]
theorem Le (p:List Nat)(c:Nat):Txt.count (mk p) ⟨#[c]⟩=(p.count c:Nat):=by
 rw[count_cnt,Zk];induction p with
 |nil=>rfl
 |cons k p ih=>
  rw[cnt_cons,ih,List.count_cons];by_cases q:k=c
  .rw[if_pos q,if_pos (Zr.mpr q)];lia
  .rw[if_neg q,if_neg (λ e=>q (Zr.mp e))];lia
noncomputable def gL (n:Int)(x:Str)(mo:Loc):Loc:=("count",.int n)::("heard",.str x)::mo
theorem Zyk (n:Int)(K:KF):rd F1 [] (Z9 18) [] (sN 18 0) [("count",.int n)] [] K=(MulOk "\"" n/\(Txt.mul "\"" n).length+("z":Str).length<=sizeLine/\K .next (gL n (Txt.mul "\"" n++"z") []) []):=by kernel_rfl
theorem Zyq:sN 18 1=.For (.Name (wN (sN 18 1)) (Mq (sN 18 1))) (wT (sN 18 1)) (wB (sN 18 1)) [] (wP (sN 18 1)):=by kernel_rfl
theorem Zy8:wN (sN 18 1)="told":=by kernel_rfl
theorem Zq6:wB (sN 18 1)=[Vu 18 1 0,Vu 18 1 1]:=by kernel_rfl
theorem Zy9 (n:Int)(x:Str)(q:List V->Option (Nat×Nat)->Prop):Gi F1 (Z9 18) (wT (sN 18 1)) (gL n x []) [] (λ v=>Us [] v q)=q [.int 0,.int 1,.int 2] none:=by kernel_rfl
theorem Zyj (n t:Int)(x:Str)(K:KF):rd F1 [] (Z9 18) [] (Vu 18 1 0) (gL n x [("told",.int t)]) [] K=(("257 \"":Str).length+x.length<=sizeLine/\Qkz [.str ("257 \""++x)] λ v=>K .next (Yx (gL n x [("told",.int t)]) "heard" v) []):=by kernel_rfl
noncomputable def noZ (t:List Nat):Bool:=(Txt.slice (mk t) (some (-1)) none).cps.toList !=("z":Str).cps.toList
theorem Zyz (n t:Int)(l:List Nat)(K:KF):rd F1 [] (Z9 18) [] (Vu 18 1 1) (gL n (mk l) [("told",.int t)]) [] K=((mk l).length<=sizeLine/\cond (noZ l) (K (.ret (.int t)) (gL n (mk l) [("told",.int t)]) []) (K .next (gL n (mk l) [("told",.int t)]) [])):=by kernel_rfl
theorem Zyx (n t:Int)(x:Str)(K:KF):rd F1 [] (Z9 18) [] (sN 18 2) (gL n x [("told",.int t)]) [] K=K (.ret (.int 3)) (gL n x [("told",.int t)]) []:=by kernel_rfl
theorem Qhl:fB (stN 18)=[sN 18 0,sN 18 1,sN 18 2]:=by kernel_rfl
theorem Qzc:∀(n:Nat) (l:List Nat),l.length<=n->(un l).length<=l.length:=λ n=>by
 induction n with
 |zero=>intro l h;rw[Y8.mp (Nat.le_zero.mp h)];exact Q2 _
 |succ n ih=>
  intro l h
  match l,h with
  |[],_=>exact Q2 _
  |c::r,h=>
   by_cases hc:c=34
   .subst hc
    match r,h with
    |[],_=>rw[Qud];exact Zy _
    |e::q,h=>
     by_cases he:e=34
     .subst he;rw[Quf,Qb,Qb,Qb];have:=ih q (by simp at h;lia);lia
     .rw[Quh e q he];exact Zy _
   .rw[Qcz c r hc,Qb,Qb];have:=ih r (by simp at h;lia);lia
noncomputable def Qct (t:List Nat):Nat:=cond (noZ (un t)) 0 (cond (noZ (un (un t))) 1 (cond (noZ (un (un (un t)))) 2 3))
noncomputable def Fh (n:Nat):Nat:=Qct (List.replicate n 34++[122])
theorem Qst:∀n:Fin 16,Txt.mul "\"" ((n.val:Nat):Int)++"z"=mk (List.replicate n.val 34++[122])/\(Txt.mul "\"" ((n.val:Nat):Int)).length=n.val:=by decide +kernel
theorem Qsd:∀n:Fin 16,MulOk "\"" ((n.val:Nat):Int):=by unfold MulOk;decide +kernel
def Qby (vs:List V)(k:V->Prop):Prop:=∃n:Nat,vs=[.int (n:Nat)]/\n<16/\k (.int (Fh n:Nat))
section
variable {W:Qj}{c:Cx}{P:Params}
theorem Ey (H:Vl W F1 (Z9 18) [] c){n:Int}{l:List Nat}{mo:Loc}{t:Int}(hmo:mo=[]\/∃v,mo=[(("told":Str),v)])(hl:l.length<=20){K:KF}(h1:noZ (un l)=true->∀loc,K (.ret (.int t)) loc [])(h2:noZ (un l)=false->K .next (gL n (mk (un l)) [("told",.int t)]) []):
  XB W c (wB (sN 18 1)) (Yx (gL n (mk l) mo) "told" (.int t)) [] K:=by
 have e:Yx (gL n (mk l) mo) "told" (.int t)=gL n (mk l) [("told",.int t)]:=by
  rcases hmo with rfl |⟨v,rfl⟩ <;> rfl
 have ul:=Qzc _ l (Q2 _);rw[e,Zq6];refine Qk (owns:=[]) H ?_;have e5:("257 \"":Str)=mk [50,53,55,32,34]:=by decide +kernel
 rw[Zyj,e5,X6];refine⟨by rw[Qn,Qn,Zv];show 5+_<=_;lia,32::34::l,rfl,by rw[Qb,Qb];lia,?_⟩;show XB W c _ (gL n (mk (un l)) [("told",.int t)]) [] _;refine Qk (owns:=[]) H ?_;rw[Zyz];refine⟨by rw[Qn,Zv];lia,?_⟩;cases q:noZ (un l) with
 |true=>exact h1 q _
 |false=>exact Uq (h2 q)
theorem Qs8 (H:Vl W F1 (Z9 18) [] c){n:Nat}(hn:n<16){K:KF}(h:∀loc,K (.ret (.int (Fh n:Nat))) loc []):XB W c (fB (stN 18)) [("count",.int (n:Nat))] [] K:=by
 obtain⟨m1,m2⟩:=Qst ⟨n,hn⟩;have m1:Txt.mul "\"" (n:Int)++"z"=mk (List.replicate n 34++[122]):=m1;have m2:(Txt.mul "\"" (n:Int)).length=n:=m2;have hl:(List.replicate n 34++[122]).length<=20:=by rw[Q8,List.length_replicate];show n+1<=20;lia
 have h:∀loc,K (.ret (.int (Qct (List.replicate n 34++[122]):Nat))) loc []:=h;rw[Qhl];refine Qk (owns:=[]) H ?_;rw[Zyk,m1,m2];generalize List.replicate n 34++[122]=l at hl h;have u1:=Qzc _ l (Q2 _);have u2:=Qzc _ (un l) (Q2 _);refine⟨Qsd ⟨n,hn⟩,by rw[Zv];show n+1<=_;lia,?_⟩;show XB W c _ _ _ _;refine Zp (Xk (λ loc' st'=>XB W c [sN 18 2] loc' st' K) K) (T9 H Zyq (by decide +kernel) (by decide +kernel) ?_) λ J J J q=>q;rw[Zy9,Zy8];unfold Qct at h;refine Ba (Ey H (.inl rfl) hl (λ q loc=>?_) λ q1=>⟨trivial,Ba (Ey H (.inr ⟨_,rfl⟩) (by lia) (λ q loc=>?_) λ q2=>⟨trivial,Ba (Ey H (.inr ⟨_,rfl⟩) (by lia) (λ q loc=>?_) λ q3=>⟨trivial,Fo ?_⟩)⟩)⟩)
 .rw[q]at h;exact h loc
 .rw[q1,q]at h;exact h loc
 .rw[q1,q2,q]at h;exact h loc
 .rw[q1,q2,q3]at h;show XB W c _ _ _ _;refine Qk (owns:=[]) H ?_;rw[Zyx];exact h _
theorem Qhu (hK:W.K=KL P)(room:Nat)(vs:List V)(k:V->Prop)(h:Qby vs k)(c:Cx)(l:Lay)(loc:Loc)(st:Q4)(s:Shared)(ws:List Value)(Q:Value->Shared->Prop)(E:Value->Shared->Prop)(O:Ok W c)(hr:c.room=room+2)(hR:R c l loc st s)(hv:Y0 l s.heap vs ws)
  (hQ:∀v w s',Keeps s s'->VR l s'.heap v w->k v->Q w s'):wpAny (model W.prog W.w) c.A (call (.ref 157) ws) Q E s:=by
 obtain⟨n,rfl,h1,h2⟩:=h;refine Aj hK (ps:=["count"]) (vs:=[.int n]) (k:=k) (d:=2) (Qqp P) (by kernel_rfl) (by kernel_rfl) (by kernel_rfl) (by kernel_rfl) (λ s ws h=>?_) (Lc hK room) rfl (Jk rfl) (λ c' H=>Qs8 H h1 λ loc=>⟨_,rfl,rfl,h2⟩) c l loc st s ws Q E O hr hR hv hQ;obtain⟨a,rfl⟩:=Bp h;exact Ze (by kernel_rfl)
end
noncomputable def rL (n:Int)(x:Str)(t p:Int)(mo:Loc):Loc:=("text",.str x)::("shape",.int n)::("rest",.int t)::("row",.own 0)::("pieces",.own 1)::("place",.int p)::mo
noncomputable def Qq1:List Str:=["row","pieces"]
theorem Zy5 (n:Int)(x:Str)(K:KF):rd F0 Qq1 (Z9 19) [] (sN 19 0) [("text",.str x),("shape",.int n)] [] K=
  ((2:Int)≠0/\Builtin.divisionGoesByPylong n 2=false/\(2:Int)≠0/\Builtin.divisionGoesByPylong n 2=false/\(2:Int)≠0/\K .next (rL n x (Int.fdiv n 2) (Int.fmod (Int.fdiv n 2) 2) []) [([],0),([],0)]):=by kernel_rfl
noncomputable def ifQ (s:Stmt):Expr×List Stmt×Pos:=(wT s,wB s,wP s)
noncomputable def Zq7 (s:Stmt):Expr×Pos:=(ns s 0 [],stP s)
noncomputable def rwL:Expr:=(Zq7 (((ifQ (sN 19 1)).2.1[0]?).getD default)).1
noncomputable def rwP:Pos:=(Zq7 (((ifQ (sN 19 1)).2.1[0]?).getD default)).2
theorem Zy4:sN 19 1=.If (ifQ (sN 19 1)).1 [.Return (some rwL) rwP] [] (ifQ (sN 19 1)).2.2:=by kernel_rfl
theorem Qoo (n t p:Int)(x:Str)(st:Q4)(q:Bool->Prop):Ot F0 (Z9 19) (ifQ (sN 19 1)).1 (rL n x t p []) st q=((2:Int)≠0/\q (Int.fmod n 2==1)):=by kernel_rfl
noncomputable def rwG:Comprehension:=(Jw rwL).head!
theorem Zq5 (n t p:Int)(x:Str):cOk (Z9 19) rwL (rL n x t p [])=true:=by kernel_rfl
theorem Zq3:Jw rwL=[rwG]:=by kernel_rfl
theorem Zq1 (n t p:Int)(x:Str):Fy (Uj (Y4 rwL) (Z9 19)) (rL n x t p [])=([("rest",.int t)]:Loc):=by kernel_rfl
theorem Zq0 (n t p:Int)(x:Str)(st:Q4)(q:V->Prop):(X7 F0 39).1 (Z9 19) rwG.iter (rL n x t p []) st q=((5:Int)≠0/\q (.range 0 (3+Int.fmod t 5) 1)):=by kernel_rfl
theorem Qp5 (m:Int)(st:Q4)(q:List V->Prop):Xv (drf st (.range 0 m 1)) q=X5 (Builtin.Range.small 0 m 1) (X5 (decide (0<=Builtin.Range.rangeSize 0 m 1)) (q (Xi 0 1 (Builtin.Range.rangeSize 0 m 1).toNat))):=by kernel_rfl
theorem Zq2 (t k:Int)(st:Q4)(acc:List V)(q:List V->Prop):rdI F0 39 (Z9 19) rwL st (.int k) [("rest",.int t)] acc q=
  ((5:Int)≠0/\Builtin.divisionGoesByPylong t 5=false/\0<=k/\((Builtin.Int.intBits 3:Nat):Int)*k<=2^27/\(3:Int)^k.toNat≠0/\Builtin.divisionGoesByPylong (Int.fdiv t 5) (3^k.toNat)=false/\(3:Int)≠0/\X5 (decide (acc.length<16777216)) (q (acc++[.int (Int.fmod (Int.fdiv (Int.fdiv t 5) (3^k.toNat)) 3)]))):=by kernel_rfl
theorem Zq4:(Jw rwL).length=1:=by kernel_rfl
theorem Qoi:sN 19 2=.For (.Name (wN (sN 19 2)) (Mq (sN 19 2))) (wT (sN 19 2)) (wB (sN 19 2)) [] (wP (sN 19 2)):=by kernel_rfl
theorem Qor:wN (sN 19 2)="k":=by kernel_rfl
theorem Qoe:wB (sN 19 2)=[Vu 19 2 0,Vu 19 2 1]:=by kernel_rfl
theorem Qoa (n t p:Int)(x:Str)(st:Q4)(q:List V->Option (Nat×Nat)->Prop):Gi F0 (Z9 19) (wT (sN 19 2)) (rL n x t p []) st (λ v=>Us st v q)=q [.int 0,.int 1,.int 2,.int 3,.int 4,.int 5,.int 6] none:=by kernel_rfl
noncomputable def rK (n:Int)(x:Str)(t p k:Int)(mo:Loc):Loc:=rL n x t p (("k",.int k)::mo)
theorem Qos (n t p k:Int)(x:Str)(st:Q4)(mo:Loc)(K:KF)(h:mo=[]\/∃y,mo=[(("piece":Str),V.str y)]):rd F0 Qq1 (Z9 19) [] (Vu 19 2 0) (rK n x t p k mo) st K=
  (0<=k+1/\((Builtin.Int.intBits 2:Nat):Int)*(k+1)<=2^27/\(2:Int)^(k+1).toNat≠0/\Builtin.divisionGoesByPylong t (2^(k+1).toNat)=false/\(2:Int)≠0/\x.length<=sizeLine/\
   K .next (rK n x t p k [("piece",.str (Txt.slice x (some p) (some (p+1+Int.fmod (Int.fdiv t (2^(k+1).toNat)) 2))))]) st):=by
 rcases h with rfl |⟨y,rfl⟩ <;> kernel_rfl
section
variable (n t p k:Int)(x y:Str)(rs ps:List V)(i j:Nat)(K:KF)
def Qky (ps':List V)(j':Nat):Prop:=(Jr ps').elim False λ zs=>y∈zs/\zs.length<=1000/\rs.length<16777216/\y.length<=16777216/\K .next (rK n x t (p+(y.length:Nat)) k [("piece",.str y)]) [(rs++[.int (zs.idxOf y:Nat)],i+1),(ps',j')]
def Ev:Prop:=(Jr ps).elim False λ zs=>cond (!zs.any (·==y)) (ps.length<16777216/\Qky n t p k x y rs i K (ps++[.str y]) (j+1)) (Qky n t p k x y rs i K ps j)
theorem Qoc:rd F0 Qq1 (Z9 19) [] (Vu 19 2 1) (rK n x t p k [("piece",.str y)]) [(rs,i),(ps,j)] K=
  cond (y.cps.toList !=("":Str).cps.toList) ((Jr ps).elim False λ zs=>cond (zs.any (·==y)) (Ev n t p k x y rs ps i j K) (ps.length<=16777216/\cond (decide (((ps.length:Nat):Int)<3)) (Ev n t p k x y rs ps i j K) (K .next (rK n x t p k [("piece",.str y)]) [(rs,i),(ps,j)])))
   (K .next (rK n x t p k [("piece",.str y)]) [(rs,i),(ps,j)]):=by kernel_rfl
theorem Zy3 (mo:Loc):rd F0 Qq1 (Z9 19) [] (sN 19 3) (rL n x t p mo) [(rs,i),(ps,j)] K=K (.ret (.own 0)) (rL n x t p mo) [(rs,i),(ps,j)]:=by kernel_rfl
end
theorem Qht:fB (stN 19)=[sN 19 0,sN 19 1,sN 19 2,sN 19 3]:=by kernel_rfl
noncomputable def nI (k:Nat):V:=.int (k:Nat)
theorem Xf (d n:Nat):Int.fmod (d:Int) (n:Int)=((d%n:Nat):Int):=by rw[Int.fmod_eq_emod_of_nonneg _ (by exact Qy _)];rfl
theorem Gb (d n:Nat):Int.fdiv (d:Int) (n:Int)=((d/n:Nat):Int):=by rw[Int.fdiv_eq_ediv_of_nonneg _ (Qy _)];rfl
theorem Qj6:∀n:Fin 8,Builtin.Range.small 0 (n.val:Nat) 1=true/\0<=Builtin.Range.rangeSize 0 (n.val:Nat) 1/\(Builtin.Range.rangeSize 0 (n.val:Nat) 1).toNat=n.val:=by decide +kernel
theorem Qm2:∀k:Fin 8,((Builtin.Int.intBits 3:Nat):Int)*((k.val:Nat):Int)<=2^27/\(3:Int)^(((k.val:Nat):Int)).toNat=((3^k.val:Nat):Int)/\3^k.val<2^30/\3^k.val≠0/\((Builtin.Int.intBits 2:Nat):Int)*(((k.val:Nat):Int)+1)<=2^27/\(2:Int)^(((k.val:Nat):Int)+1).toNat=((2^(k.val+1):Nat):Int)/\2^(k.val+1)<2^30/\2^(k.val+1)≠0:=by decide +kernel
structure Qzx (l:List Nat):Prop where
 lt:∀v∈l,v<3
 ge:1<=l.length
 le:l.length<=7
def Qne (vs:List V)(k:V->Prop):Prop:=∃(n:Nat) (w:List Nat),vs=[.int (n:Nat),.str (mk w)]/\2<=w.length/\w.length<=100/\∀l,Qzx l->k (.list (l.map nI))
noncomputable def rwF (t:Nat):V->Option V
 |.int k=>some (nI (t/5/3^k.toNat%3))
 |_=>none
section
variable {W:Qj}{c:Cx}{P:Params}{K:KF}
theorem Qol (H:Vl W F0 (Z9 19) [] c){n:Nat}{x:Str}{t p:Nat}{st:Q4}{r:List Stmt}(h1:∀l,Qzx l->∀loc,K (.ret (.list (l.map nI))) loc st)(h2:XB W c r (rL n x t p []) st K):XB W c (sN 19 1::r) (rL n x t p []) st K:=by
 refine Zp (Xk (λ loc' st'=>XB W c r loc' st' K) K) ⟨?_⟩ λ J J J q=>q;rw[Zy4];refine Quk ((Qz8 H ?_).mono λ q hq=>hq);rw[Qoo];refine⟨by decide,?_⟩;cases Int.fmod (n:Int) 2==1 with
 |false=>exact(Uq h2).go
 |true=>
  refine XB.go (c:=c) (ss:=[.Return (some rwL) rwP]) ⟨E4 (Nt ((G8 H (k:=λ v=>∃l,Qzx l/\v=.list (l.map nI)) (Qm0 (n:=39) (Zq5 _ _ _ _) Zq3 ?_)).go.mono λ v hv=>?_))⟩
  .rw[Zq0];have et:(3:Int)+Int.fmod (t:Int) 5=((3+t%5:Nat):Int):=by rw[show Int.fmod (t:Int) 5=((t%5:Nat):Int) from Xf t 5];rfl
   have ht:3+t%5<8:=by have:=Za t (show 0<5 by decide);lia
   obtain⟨s1,s2,s3⟩:=Qj6 ⟨3+t%5,ht⟩;refine⟨by decide,?_⟩;rw[et,Qp5,show Builtin.Range.small 0 (((3+t%5:Nat)):Int) 1=true from s1,show decide (0<=Builtin.Range.rangeSize 0 (((3+t%5:Nat)):Int) 1)=true from Qw s2,show(Builtin.Range.rangeSize 0 (((3+t%5:Nat)):Int) 1).toNat=3+t%5 from s3];refine Zn rfl (Zn rfl ?_);rw[Zq1];refine Gz (rwF t) Zq4 (λ v hv acc k' hl hk=>?_) ?_
   .obtain⟨i,hi,rfl⟩:=Qv.mp hv;have hi:=List.mem_range.mp hi;have e:(0+((i:Nat):Int)*1)=((i:Nat):Int):=by lia
    obtain⟨p1,p2,p3,p4,_⟩:=Qm2 ⟨i,by lia⟩;have p2:(3:Int)^(((i:Nat):Int)).toNat=((3^i:Nat):Int):=p2;rw[e,Zq2,p2];have e5:Int.fdiv (t:Int) 5=((t/5:Nat):Int):=Gb t 5;have e3:Int.fmod ((t/5/3^i:Nat):Int) 3=((t/5/3^i%3:Nat):Int):=Xf _ 3;rw[e5,Gb,e3];have p3:3^i<2^30:=p3;refine⟨by decide,pyl _ (by decide),Qy _,p1,λ z=>p4 (Int.ofNat.inj z),pyl _ (by rw[Int.natAbs_natCast];exact p3),by decide,Zn (Qw ?_) ?_⟩
    .rw[Xi,Q6,List.length_range]at hl;lia
    .rw[e]at hk;exact hk
   .refine⟨(List.range (3+t%5)).map λ i=>t/5/3^i%3,⟨λ v hv=>?_,?_,?_⟩,?_⟩
    .obtain⟨i,_,rfl⟩:=Qv.mp hv;exact Za _ (by decide)
    .rw[Q6,List.length_range];lia
    .rw[Q6,List.length_range];lia
    .rw[Xi,List.filterMap_map,Z3];refine Zm V.list ?_;have:(rwF t ∘ λ i:Nat=>V.int (0+(i:Int)*1))=λ i:Nat=>some (nI (t/5/3^i%3)):=by
      funext i
      show some (nI (t/5/3^(0+(i:Int)*1).toNat%3))=_;rw[show(0+(i:Int)*1).toNat=i by lia]
     rw[this];exact List.filterMap_eq_map' (f:=λ i:Nat=>nI (t/5/3^i%3))▸rfl
  .obtain⟨l,hl,rfl⟩:=hv;exact h1 l hl _
structure Qxt (k:Nat)(l:List Nat)(zs:List Str):Prop where
 lt:∀v∈l,v<zs.length
 le:zs.length<=3
 lk:l.length<=k
 zl:zs.length<=l.length
theorem Qxt.put {k:Nat}{l:List Nat}{zs zs':List Str}{y:Str}(h:Qxt k l zs)(hy:y∈zs')(hl:zs.length<=zs'.length)(h3:zs'.length<=3)(h1:zs'.length<=zs.length+1):Qxt (k+1) (l++[zs'.idxOf y]) zs' where
 lt:=λ v hv=>by
  rcases List.mem_append.mp hv with hv |hv
  .exact Qg (h.lt v hv) hl
  .rw[Q3.mp hv];exact List.idxOf_lt_length_iff.mpr hy
 le:=h3
 lk:=by rw[Q8];exact Nat.succ_le_succ h.lk
 zl:=by rw[Q8];exact Q1 h1 (Nat.succ_le_succ h.zl)
theorem Qhh (H:Vl W F0 (Z9 19) [] c){n t:Nat}{w:List Nat}(hw:w.length<=100){k p i j:Nat}(hk:k<7){l:List Nat}{zs:List Str}(hi:Qxt k l zs){mo:Loc}(hmo:mo=[]\/∃k y,mo=[(("k":Str),V.int k),("piece",V.str y)])
  (h:∀l' zs' p' i' j' y,Qxt (k+1) l' zs'->(l=[]->p<w.length->l'≠[])->(l≠[]->l'≠[])->K .next (rL n (mk w) t (p':Nat) [("k",.int (k:Nat)),("piece",.str y)]) [(l'.map nI,i'),(zs'.map V.str,j')]):
  XB W c (wB (sN 19 2)) (Yx (rL n (mk w) t p mo) "k" (.int (k:Nat))) [(l.map nI,i),(zs.map V.str,j)] K:=by
 obtain⟨m2,hm2,e⟩:∃m2,(m2=[]\/∃y,m2=[(("piece":Str),V.str y)])/\Yx (rL n (mk w) t p mo) "k" (.int (k:Nat))=rK n (mk w) t p (k:Nat) m2:=by
  rcases hmo with rfl |⟨k0,y,rfl⟩
  .exact⟨[],.inl rfl,rfl⟩
  .exact⟨[("piece",.str y)],.inr ⟨y,rfl⟩,rfl⟩
 obtain⟨_,_,_,_,q1,q2,q3,q4⟩:=Qm2 ⟨k,by lia⟩;have q2:(2:Int)^(((k:Nat):Int)+1).toNat=((2^(k+1):Nat):Int):=q2;rw[e,Qoe];refine Qk (owns:=Qq1) H ?_;rw[Qos _ _ _ _ _ _ _ _ hm2,q2];have eb:Int.fmod (Int.fdiv (t:Int) ((2^(k+1):Nat):Int)) 2=((t/2^(k+1)%2:Nat):Int):=by rw[Gb];exact Xf _ 2
 have es:(p:Int)+1+((t/2^(k+1)%2:Nat):Int)=((p+1+t/2^(k+1)%2:Nat):Int):=rfl;have q3:2^(k+1)<2^30:=q3;rw[eb,es,Bm w (by lia)];refine⟨by lia,q1,λ z=>q4 (Int.ofNat.inj z),pyl _ (by rw[Int.natAbs_natCast];exact q3),by decide,by rw[Qn,Zv];lia,?_⟩;have ylen:((w.drop p).take (p+1+t/2^(k+1)%2-p)).length<=100:=by rw[List.length_take,List.length_drop];lia
 have yne:p<w.length->(w.drop p).take (p+1+t/2^(k+1)%2-p)≠[]:=λ hp e=>by
  have:=Zm List.length e;rw[List.length_take,List.length_drop,Zs]at this;lia
 generalize (w.drop p).take (p+1+t/2^(k+1)%2-p)=y at ylen yne;show XB W c _ _ _ _;refine Qk (owns:=Qq1) H ?_;rw[Qoc];have same:(l=[]->p<w.length->l≠[])->Xk (λ loc' st'=>XB W c [] loc' st' K) K .next (rK n (mk w) t p (k:Nat) [("piece",.str (mk y))]) [(l.map nI,i),(zs.map V.str,j)]:=λ hz=>
  Uq (h l zs p i j (mk y) ⟨hi.lt,hi.le,Nat.le_succ_of_le hi.lk,hi.zl⟩ hz id)
 have put:∀(zs':List Str) (j':Nat),mk y∈zs'->zs.length<=zs'.length->zs'.length<=3->zs'.length<=zs.length+1->Qky n t p (k:Nat) (mk w) (mk y) (l.map nI) i (Xk (λ loc' st'=>XB W c [] loc' st' K) K) (zs'.map V.str) j':=λ zs' j' hy hl h3 h1=>by
  unfold Qky;rw[Xo];refine⟨hy,by lia,by rw[Q6];have:=hi.lk;lia,by rw[Qn];lia,Uq ?_⟩;have:=h (l++[zs'.idxOf (mk y)]) zs' (p+(mk y).length) (i+1) j' (mk y) (hi.put hy hl h3 h1) (λ J J e=>by simp at e) (λ J e=>by simp at e);rw[Zt]at this;exact this
 have app:(mk y∈zs\/zs.length<3)->Ev n t p (k:Nat) (mk w) (mk y) (l.map nI) (zs.map V.str) i j (Xk (λ loc' st'=>XB W c [] loc' st' K) K):=λ hz=>by
  unfold Ev;rw[Xo];show cond (!zs.any (·==mk y)) _ _;cases q:zs.any (·==mk y) with
  |true=>
   obtain⟨z,hz,e⟩:=List.any_eq_true.mp q;exact put zs j (eq_of_beq e▸hz) (Q2 _) hi.le (Nat.le_succ _)
  |false=>
   have hn:mk y∉zs:=λ hm=>by
    have z:(zs.any λ x=>x==mk y)=true:=List.any_eq_true.mpr ⟨_,hm,Qt _⟩;rw[q]at z;cases z
   have h3:=hz.resolve_left hn;refine⟨by rw[Q6];lia,?_⟩;have:=put (zs++[mk y]) (j+1) (List.mem_append_right _ (.head _)) (by rw[Q8];exact Zq _ _) (by rw[Q8];exact h3) (by rw[Q8];exact Q2 _);rw[Zt]at this;exact this
 rw[show("":Str).cps.toList=[] by decide +kernel,Zk,Xo];cases y with
 |nil=>exact same λ J hp=>absurd rfl (yne hp)
 |cons a y=>
  show cond (zs.any (·==mk (a::y))) _ _;cases q:zs.any (·==mk (a::y)) with
  |true=>
   obtain⟨z,hz,e⟩:=List.any_eq_true.mp q;exact app (.inl (eq_of_beq e▸hz))
  |false=>
   refine⟨by rw[Q6];have:=hi.le;lia,?_⟩;rw[Q6];by_cases h3:zs.length<3
   .rw[Qw (by lia)];exact app (.inr h3)
   .rw[Z5 (by lia)];exact same λ e J=>by
     have:=hi.zl;rw[e,Zs]at this;lia
theorem Qhd (H:Vl W F0 (Z9 19) [] c){n t:Nat}{w:List Nat}(hw:w.length<=100)(h:∀l' zs' p' i' j' mo,Qxt 7 l' zs'->l'≠[]->K .next (rL n (mk w) t (p':Nat) mo) [(l'.map nI,i'),(zs'.map V.str,j')]):
  ∀(m k:Nat) (l:List Nat) (zs:List Str) (p i j:Nat) (mo:Loc),k+m=7->Qxt k l zs->(l=[]->m=7/\p<w.length)->(mo=[]\/∃k y,mo=[(("k":Str),V.int k),("piece",V.str y)])->(m=0->mo≠[])->XT W c "k" (wB (sN 19 2)) none ((List.range' k m).map nI) (rL n (mk w) t p mo) [(l.map nI,i),(zs.map V.str,j)] K:=by
 intro m;induction m with
 |zero=>
  intro k l zs p i j mo hk hi hl hmo _;have e:k=7:=hk;subst e;exact Fo (h l zs p i j mo hi λ e=>absurd (hl e).1 (by decide))
 |succ m ih=>
  intro k l zs p i j mo hk hi hl hmo _;rw[List.range'_succ,Qu];refine Ba (Qhh H hw (by lia) hi hmo λ l' zs' p' i' j' y hi' h1 h2=>⟨trivial,?_⟩);refine ih (k+1) l' zs' p' i' j' _ (by lia) hi' (λ e=>?_) (.inr ⟨_,_,rfl⟩) λ J=>List.cons_ne_nil _ _;by_cases q:l=[]
  .exact absurd e (h1 q (hl q).2)
  .exact absurd e (h2 q)
theorem Qs7 (H:Vl W F0 (Z9 19) [] c){n:Nat}{w:List Nat}(h2:2<=w.length)(hw:w.length<=100)(h:∀l,Qzx l->∀loc st v,drf st v=.list (l.map nI)->K (.ret v) loc st):XB W c (fB (stN 19)) [("text",.str (mk w)),("shape",.int (n:Nat))] [] K:=by
 rw[Qht];refine Qk (owns:=Qq1) H ?_;have e1:Int.fdiv (n:Int) 2=((n/2:Nat):Int):=Gb n 2;have e2:Int.fmod ((n/2:Nat):Int) 2=((n/2%2:Nat):Int):=Xf _ 2;rw[Zy5,e1,e2];refine⟨by decide,pyl _ (by decide),by decide,pyl _ (by decide),by decide,?_⟩;show XB W c _ _ _ _;refine Qol H (λ l hl loc=>h l hl _ _ _ rfl) ?_;refine Zp (Xk (λ loc' st'=>XB W c [sN 19 3] loc' st' K) K) (T9 H Qoi (by decide +kernel) (by decide +kernel) ?_) λ J J J q=>q;rw[Qoa,Qor];refine Qhd H hw (λ l' zs' p' i' j' mo hi hn=>?_) 7 0 [] [] (n/2%2) 0 0 [] rfl ⟨λ J h=>(nomatch h),Zy _,Zy _,Zy _⟩ (λ J=>⟨rfl,by lia⟩) (.inl rfl) λ e=>nomatch e;show XB W c _ _ _ _;refine Qk (owns:=Qq1) H ?_;rw[Zy3];exact h l' ⟨λ v hv=>Qg (hi.lt v hv) hi.le,List.length_pos_iff.mpr hn,hi.lk⟩ _ _ _ rfl
theorem Qd8 (l:List Nat):deep 2 (.list (l.map nI))=true:=Qf.mpr λ v hv=>by obtain⟨c,_,rfl⟩:=Qv.mp hv;rfl
theorem Qs0 (hK:W.K=KL P)(room:Nat)(vs:List V)(k:V->Prop)(h:Qne vs k)(c:Cx)(l:Lay)(loc:Loc)(st:Q4)(s:Shared)(ws:List Value)(Q:Value->Shared->Prop)(E:Value->Shared->Prop)(O:Ok W c)(hr:c.room=room+1)(hR:R c l loc st s)(hv:Y0 l s.heap vs ws)
  (hQ:∀v w s',Keeps s s'->VR l s'.heap v w->k v->Q w s'):wpAny (model W.prog W.w) c.A (call (.ref 162) ws) Q E s:=by
 obtain⟨n,w,rfl,h1,h2,h3⟩:=h;refine Qx0 false hK (ps:=["shape","text"]) (vs:=[.int n,.str (mk w)]) (bnd:=[]) (k:=k) (d:=2) (Qa4 P) (by kernel_rfl) (by kernel_rfl) (by kernel_rfl) (λ s ws h=>?_) (Xe hK room) rfl rfl (Jk rfl)
  (λ c' H J=>Qs7 H h1 h2 λ l hl loc st v e=>⟨v,rfl,by rw[e];exact Qd8 l,by rw[e];exact h3 l hl⟩) c l loc st s ws Q E O hr hR hv λ v w s' ⟨h',t,d,e,sb,q⟩=>hQ v w s' ⟨h',t,by rw[e,q rfl],sb⟩
 obtain⟨a,b,rfl⟩:=Lk h;exact Ze (by kernel_rfl)
end
noncomputable def nP.p1:Pos:=(nv (wT (sN 24 0)) [0,0,0]).pos
noncomputable def nP.p2:Pos:=(nv (wT (sN 24 0)) [0,0,1,0]).pos
noncomputable def nP.p3:Pos:=(nv (wT (sN 24 0)) [0,0,1,1]).pos
noncomputable def nP.p4:Pos:=(nv (wT (sN 24 0)) [0,0,1]).pos
noncomputable def nP.p5:Pos:=(nv (wT (sN 24 0)) [0,0]).pos
noncomputable def nP.l:Expr:=nv (wT (sN 24 0)) [0,1]
noncomputable def nP.bp:Pos:=(nv (wT (sN 24 0)) [0]).pos
noncomputable def nP.hi:Expr:=nv (wT (sN 24 0)) [1,0]
noncomputable def nP.sp:Pos:=(nv (wT (sN 24 0)) [1]).pos
noncomputable def nP.ip:Pos:=(wT (sN 24 0)).pos
theorem Zqt:sN 24 0=.Assign [.Name "names" (Mq (sN 24 0))] (.Subscript (.BinOp (.Call (.Name "sorted" nP.p1) [.Call (.Name "set" nP.p2) [.Name "pattern" nP.p3] [] nP.p4] [] nP.p5) .Add nP.l nP.bp) (.Slice none (some nP.hi) none nP.sp) nP.ip) (wP (sN 24 0)):=by kernel_rfl
theorem Zu9 (loc:Loc)(q:V->Prop):Gi F1 (Z9 24) nP.l loc [] q=q (.list [.str "x",.str "y"]):=by kernel_rfl
theorem Zuq (loc:Loc)(q:V->Prop):Gi F1 (Z9 24) nP.hi loc [] q=q (.int 3):=by kernel_rfl
theorem Zuz (x y a b c:Str):Yx [("line",.str y),("pattern",.str x)] "names" (.list [.str a,.str b,.str c])=mL x y a b c []:=by kernel_rfl
theorem Zu8 (x y:Str):List.lookup ("pattern":Str) [(("line":Str),V.str y),("pattern",.str x)]=some (.str x):=by kernel_rfl
theorem Zqw (a b c:V):Fd [a,b,c] none (some 3)=[a,b,c]:=by kernel_rfl
theorem Zqk (a b c d:V):Fd [a,b,c,d] none (some 3)=[a,b,c]:=by kernel_rfl
theorem Zqx (a b c d e:V):Fd [a,b,c,d,e] none (some 3)=[a,b,c]:=by kernel_rfl
theorem Qdy:fB (stN 24)=[sN 24 0,sN 24 1,sN 24 2,sN 24 3,sN 24 4]:=by kernel_rfl
theorem Zvw (x y a b c:Str)(i j k:Int)(t:List V)(p q r:Int):Yx (mL x y a b c (oL i j k t [])) "sizes" (.tuple [.int p,.int q,.int r])=mL x y a b c (oL i j k t (Oh p q r [])):=by kernel_rfl
theorem Zvk (x y a b c:Str)(i j k:Int)(t:List V):(mL x y a b c (oL i j k t [])).lookup ("sizes":Str)=none:=by kernel_rfl
theorem Zvp (x y a b c:Str)(i j k:Int)(t:List V)(p q r s:Int):Yx (mL x y a b c (oL i j k t (Oh p q r []))) "start" (.int s)=mL x y a b c (oL i j k t (szL p q r s [])):=by kernel_rfl
theorem Zvm (x y a b c:Str)(i j k:Int)(t:List V)(p q r:Int):(mL x y a b c (oL i j k t (Oh p q r []))).lookup ("start":Str)=none:=by kernel_rfl
noncomputable def Tg (n:Nat):Nat:=cond (decide (0<n)) 6 2
theorem Wm (n:Nat):isT (Tg n):=⟨by unfold Tg;cases decide (0<n) <;> simp⟩
theorem Zz3 (x y a b c:Str)(i j k:Nat)(K:KF)(h:K .next (mL x y a b c (oL i j k [.int (Tg i:Nat),.int (Tg j:Nat),.int (Tg k:Nat)] [])) []):rd F1 [] (Z9 24) [] (sN 24 2) (mL x y a b c [("often",.list [.int (i:Nat),.int (j:Nat),.int (k:Nat)])]) [] K:=by
 have e:∀n:Nat,decide (0<(n:Int))=decide (0<n):=λ n=>decide_eq_decide.mpr Int.natCast_pos;rw[Zuk,e,e,e];unfold Tg at h;refine⟨?_⟩;generalize decide (0<i)=b1 at h |-;generalize decide (0<j)=b2 at h |-;generalize decide (0<k)=b3 at h |-
 cases b1 <;> cases b2 <;> cases b3 <;> exact h
noncomputable def zF (n1 n2 n3:Nat)(t:Nat×Nat×Nat)(c:Nat):Nat:=if c=n1 then t.1 else if c=n2 then t.2.1 else t.2.2
noncomputable def tot (o1 o2 o3:Nat)(t:Nat×Nat×Nat):Nat:=t.1*o1+t.2.1*o2+t.2.2*o3
noncomputable def Qvc (n1 n2 n3:Nat)(line p:List Nat)(t:Nat×Nat×Nat):Bool:=(List.range (8-tot (p.count n1) (p.count n2) (p.count n3) t)).any (Hq (zF n1 n2 n3 t) line p)
noncomputable def Dg (n1 n2 n3:Nat)(line p:List Nat):Bool:=(S4 (Tg (p.count n1)) (Tg (p.count n2)) (Tg (p.count n3)) (p.count n1) (p.count n2) (p.count n3)).any (Qvc n1 n2 n3 line p)
theorem Qae {T1 T2 T3 o1 o2 o3:Nat}(h1:isT T1)(h2:isT T2)(h3:isT T3){t:Nat×Nat×Nat}(h:t∈S4 T1 T2 T3 o1 o2 o3):t.1<=5/\t.2.1<=5/\t.2.2<=5/\tot o1 o2 o3 t<8:=by
 obtain⟨u,hu,h⟩:=List.mem_flatMap.mp h;obtain⟨v,hv,h⟩:=List.mem_flatMap.mp h;obtain⟨w,hw,h⟩:=List.mem_flatMap.mp h;unfold S1 at h;cases q:decide (u*o1+v*o2+w*o3<8) with
 |true=>
  rw[q]at h;have h:=Q3.mp h;subst h;exact⟨((Hs h1).2 u hu).2,((Hs h2).2 v hv).2,((Hs h3).2 w hw).2,Qc q⟩
 |false=>rw[q]at h;exact nomatch h
theorem Zb7 {n1 n2 n3:Nat}(h12:n1≠n2)(h13:n1≠n3)(h23:n2≠n3)(t:Nat×Nat×Nat){k:Nat}(hk:k=n1\/k=n2\/k=n3):
  (⟨#[k]⟩:Str)∈([⟨#[n1]⟩,⟨#[n2]⟩,⟨#[n3]⟩]:List Str)/\[t.1,t.2.1,t.2.2][([⟨#[n1]⟩,⟨#[n2]⟩,⟨#[n3]⟩]:List Str).idxOf (⟨#[k]⟩:Str)]?=some (zF n1 n2 n3 t k):=by
 have ne:∀{a b:Nat},a≠b->((⟨#[a]⟩:Str)==⟨#[b]⟩)=false:=λ h=>Ql.mpr λ e=>h (one_inj e);have eq:∀{a:Nat},((⟨#[a]⟩:Str)==⟨#[a]⟩)=true:=Qt _;unfold zF
 rcases hk with rfl |rfl |rfl
 .refine⟨by simp,?_⟩;rw[List.idxOf_cons,eq,if_pos rfl];rfl
 .refine⟨by simp,?_⟩;rw[List.idxOf_cons,ne h12,List.idxOf_cons,eq,if_neg (λ e=>h12 e.symm),if_pos rfl];rfl
 .refine⟨by simp,?_⟩;rw[List.idxOf_cons,ne h13,List.idxOf_cons,ne h23,List.idxOf_cons,eq,if_neg (λ e=>h13 e.symm),if_neg (λ e=>h23 e.symm)];rfl
theorem Zy6:∀n:Fin 9,Builtin.Range.small 0 (n.val:Nat) 1=true/\0<=Builtin.Range.rangeSize 0 (n.val:Nat) 1/\(Builtin.Range.rangeSize 0 (n.val:Nat) 1).toNat=n.val:=by decide +kernel
theorem Qy0 (m:Int)(Q:List V->Option (Nat×Nat)->Prop):Us [] (.range 0 m 1) Q=X5 (Builtin.Range.small 0 m 1) (X5 (decide (0<=Builtin.Range.rangeSize 0 m 1)) (Q (Xi 0 1 (Builtin.Range.rangeSize 0 m 1).toNat) none)):=by kernel_rfl
theorem Qv7 (n:Nat):Xi 0 1 n=(List.range n).map λ i:Nat=>V.int (i:Nat):=by
 unfold Xi;refine List.map_congr_left λ i J=>?_;rw[Int.mul_one,Int.zero_add]
theorem Qjt {n:Nat}(hn:n<9){Q:List V->Option (Nat×Nat)->Prop}(h:Q ((List.range n).map λ i:Nat=>V.int (i:Nat)) none):Us [] (.range 0 (n:Int) 1) Q:=by
 have b:=Zy6 ⟨n,hn⟩;have s1:Builtin.Range.small 0 (n:Int) 1=true:=b.1;have s2:0<=Builtin.Range.rangeSize 0 (n:Int) 1:=b.2.1;have s3:(Builtin.Range.rangeSize 0 (n:Int) 1).toNat=n:=b.2.2;rw[Qy0,s1,Qw s2,s3,Qv7];exact Zn rfl (Zn rfl h)
section
variable {W:Qj}{c:Cx}
theorem Qv1 (H:Vl W F1 (Z9 24) [] c){line p:List Nat}{n1 n2 n3:Nat}{T:List V}(h12:n1≠n2)(h13:n1≠n3)(h23:n2≠n3)(hl:line.length<=7)(hp:p.length<=7)(h46:46∉line)(hk:∀k∈p,k=n1\/k=n2\/k=n3){t:Nat×Nat×Nat}
  (ht:t.1<=5/\t.2.1<=5/\t.2.2<=5/\tot (p.count n1) (p.count n2) (p.count n3) t<8):
  XB W c (wB (sN 24 3)) (mL (mk p) (mk line) ⟨#[n1]⟩ ⟨#[n2]⟩ ⟨#[n3]⟩ (oL (p.count n1:Nat) (p.count n2:Nat) (p.count n3:Nat) T (Oh t.1 t.2.1 t.2.2 []))) [] λ fl loc' st'=>st'=[]/\cond (Qvc n1 n2 n3 line p t) (fl=.ret (.bool true))
   (fl=.next/\Gk (mL (mk p) (mk line) ⟨#[n1]⟩ ⟨#[n2]⟩ ⟨#[n3]⟩ (oL (p.count n1:Nat) (p.count n2:Nat) (p.count n3:Nat) T (Oh t.1 t.2.1 t.2.2 []))) loc'):=by
 have hb:c.bnd=[]:=H.bnd;obtain⟨t1,t2,t3,t8⟩:=ht;rw[Zz2];refine Zp (Xk (λ loc' st'=>XB W c [] loc' st' _) _) (T9 H Zvu (by decide +kernel) (by decide +kernel) ?_) λ J J J q=>q;rw[Zvy];refine⟨Rv t1,Rv t2,Rv t3,?_⟩;have e8:(8:Int) - [((t.1:Nat):Int)*((p.count n1:Nat):Int),((t.2.1:Nat):Int)*((p.count n2:Nat):Int),((t.2.2:Nat):Int)*((p.count n3:Nat):Int)].sum=((8-tot (p.count n1) (p.count n2) (p.count n3) t:Nat):Int):=by
  rw[Int.ofNat_sub (Nat.le_of_lt t8)];unfold tot;simp;lia
 rw[e8];refine Qjt (by lia) ?_;refine Quq (base:=mL (mk p) (mk line) ⟨#[n1]⟩ ⟨#[n2]⟩ ⟨#[n3]⟩ (oL (p.count n1:Nat) (p.count n2:Nat) (p.count n3:Nat) T (Oh t.1 t.2.1 t.2.2 []))) hb (λ i:Nat=>V.int (i:Nat)) (Hq (zF n1 n2 n3 t) line p) (by rw[Qo6];exact Zvm ..) _ (λ v hv=>?_) ?_ _ (Gk.refl _)
 .rw[Qo6,Zvp];exact Qzo H hl hp h46 λ k hk'=>Zb7 h12 h13 h23 t (hk k hk')
 .show cond (Qvc n1 n2 n3 line p t) _ _;cases Qvc n1 n2 n3 line p t with
  |true=>exact λ loc=>⟨rfl,rfl⟩
  |false=>exact λ loc hs=>Uq ⟨rfl,rfl,hs⟩
theorem Qvn (H:Vl W F1 (Z9 24) [] c){line p:List Nat}{n1 n2 n3:Nat}(h12:n1≠n2)(h13:n1≠n3)(h23:n2≠n3)(hl:line.length<=7)(hp:p.length<=7)(h46:46∉line)(hk:∀k∈p,k=n1\/k=n2\/k=n3){K:KF}(hK:∀loc,K (.ret (.bool (Dg n1 n2 n3 line p))) loc []):
  XB W c [sN 24 1,sN 24 2,sN 24 3,sN 24 4] (mL (mk p) (mk line) ⟨#[n1]⟩ ⟨#[n2]⟩ ⟨#[n3]⟩ []) [] K:=by
 have hb:c.bnd=[]:=H.bnd;refine Qk (owns:=[]) H ?_;rw[Zuw,Le,Le,Le];refine⟨?_⟩;show XB W c _ _ _ _;refine Qk (owns:=[]) H (Zz3 _ _ _ _ _ _ _ _ _ ?_);show XB W c _ _ _ _;have hE:=@Qv0 (mk p) (mk line) ⟨#[n1]⟩ ⟨#[n2]⟩ ⟨#[n3]⟩ (Tg (p.count n1)) (Tg (p.count n2)) (Tg (p.count n3)) (p.count n1) (p.count n2) (p.count n3) (Wm (p.count n1)) (Wm (p.count n2)) (Wm (p.count n3));refine Zp (Xk (λ loc' st'=>XB W c [sN 24 4] loc' st' K) K) (Qz9 H Zz1 (by decide +kernel) (by decide +kernel) @hE ?_) λ J J J q=>q;show XT W c _ _ none ((S4 _ _ _ _ _ _).map O9) _ _ _;rw[Zz0];refine Quq (base:=mL (mk p) (mk line) ⟨#[n1]⟩ ⟨#[n2]⟩ ⟨#[n3]⟩ (oL (p.count n1:Nat) (p.count n2:Nat) (p.count n3:Nat) [.int (Tg (p.count n1):Nat),.int (Tg (p.count n2):Nat),.int (Tg (p.count n3):Nat)] [])) hb O9 (Qvc n1 n2 n3 line p) (Zvk ..) _ (λ t ht=>?_) ?_ _ (Gk.refl _)
 .unfold O9;rw[Zvw];exact Qv1 H h12 h13 h23 hl hp h46 hk (Qae (Wm _) (Wm _) (Wm _) ht)
 .show cond (Dg n1 n2 n3 line p) _ _;cases q:Dg n1 n2 n3 line p with
  |true=>rw[q]at hK;exact λ loc=>hK loc
  |false=>
   rw[q]at hK;refine λ loc hs=>XB.fewer ?_ hb hs;refine Qk (owns:=[]) H ?_;rw[Zux];exact hK _
end
end
end Mine
namespace Mine
inductive K3 where
 |x
 |y
 |z
 deriving DecidableEq
inductive E6 where
 |rx
 |lx
 |ry
 |ly
 |rz
 |lz
 deriving DecidableEq
noncomputable def eqK (a b:K3):Bool:=a.rec (b.rec true false false) (b.rec false true false) (b.rec false false true)
noncomputable def eqE (a b:E6):Bool:=a.rec (b.rec true false false false false false) (b.rec false true false false false false) (b.rec false false true false false false)
 (b.rec false false false true false false) (b.rec false false false false true false) (b.rec false false false false false true)
noncomputable def Ko (c:K3):E6:=c.rec .rx .ry .rz
noncomputable def L3 (c:K3):E6:=c.rec .lx .ly .lz
inductive T6 where
 |mk (a b c d e f:E6)
noncomputable def atT (T:T6)(e:E6):E6:=T.rec λ a b c d i f=>e.rec a b c d i f
noncomputable def fE {α:Sort 1}(e:E6)(k:E6->α):α:=e.rec (k .rx) (k .lx) (k .ry) (k .ly) (k .rz) (k .lz)
noncomputable def Ae (v ov nv:E6):E6:=cond (eqE v ov) nv v
noncomputable def swK {α:Sort 1}(T:T6)(ov nv:E6)(k:T6->α):α:=T.rec λ a b c d e f=>
 fE (Ae a ov nv) λ a=>fE (Ae b ov nv) λ b=>fE (Ae c ov nv) λ c=>fE (Ae d ov nv) λ d=>fE (Ae e ov nv) λ e=>fE (Ae f ov nv) λ f=>k (.mk a b c d e f)
noncomputable def T0:T6:=.mk .rx .lx .ry .ly .rz .lz
noncomputable def tiK {α:Sort 1}(r:List K3):K3->T6->(T6->α)->α:=r.rec (λ J T k=>k T) λ b J ih a T k=>fE (atT T (Ko a)) λ ov=>fE (atT T (L3 b)) λ nv=>swK T ov nv λ T=>ih b T k
noncomputable def Ib {β:Type}(l:List β)(f:β->Bool):Bool:=l.rec false λ a J ih=>cond (f a) true ih
noncomputable def Qti (T:T6)(F:List K3):Bool:=Ib F λ a=>Ib F λ b=>eqE (atT T (Ko a)) (atT T (L3 b))
noncomputable def Ln (r:List K3)(c:K3):Bool:=Ib r (eqK c)
noncomputable def Qci (b0 b1 b2:Bool):List (List K3):=
 cond b0 (cond b1 (cond b2 [[.x],[.y],[.x,.y],[.z],[.x,.z],[.y,.z],[.x,.y,.z]] [[.x],[.y],[.x,.y]]) (cond b2 [[.x],[.z],[.x,.z]] [[.x]]))
  (cond b1 (cond b2 [[.y],[.z],[.y,.z]] [[.y]]) (cond b2 [[.z]] []))
noncomputable def ouK {α:Sort 1}(r F:List K3):(List K3->α)->α:=r.rec (λ k=>k []) λ c J ih k=>cond (Ln F c) (ih k) (ih λ s=>k (c::s))
noncomputable def fdK (n:Nat):List K3->Bool:=n.rec (λ r=>r.rec true λ J J J=>false) λ J ih r=>r.rec true λ a s J=>
 tiK s a T0 λ T=>Ib (Qci (Ln (a::s) .x) (Ln (a::s) .y) (Ln (a::s) .z)) λ F=>cond (Qti T F) false (ouK (a::s) F ih)
end Mine
namespace Mine
noncomputable def f8 {α:Sort 1}(n:Nat)(k:Nat->α):α:=n.rec (k 0) λ n J=>n.rec (k 1) λ n J=>n.rec (k 2) λ n J=>n.rec (k 3) λ n J=>n.rec (k 4) λ n J=>n.rec (k 5) λ n J=>n.rec (k 6) λ n J=>n.rec (k 7) λ n J=>k (n+8)
noncomputable def fL {α:Sort 1}(t:List K3):(List K3->α)->α:=t.rec (λ k=>k []) λ c J ih k=>c.rec (ih λ s=>k (.x::s)) (ih λ s=>k (.y::s)) (ih λ s=>k (.z::s))
noncomputable def liK:List K3:=[.x,.y,.x,.z,.x,.y,.x]
noncomputable def slK (m n:Nat):List K3:=(liK.drop m).take n
noncomputable def cnK (c:K3)(w:List K3):Nat:=w.rec 0 λ a J ih=>cond (eqK a c) (Nat.succ ih) ih
noncomputable def On (w:List K3):List K3->Bool:=w.rec (λ J=>true) λ a J ih t=>t.rec false λ b s J=>cond (eqK a b) (ih s) false
noncomputable def Qt9 (w t:List K3):Bool:=t.rec (On w []) λ c s ih=>cond (On w (c::s)) true ih
noncomputable def apK (a b:List K3):List K3:=a.rec b λ c J ih=>c::ih
inductive G3 where
 |mk (a b c:Option (List K3))
noncomputable def gtG (G:G3)(c:K3):Option (List K3):=G.rec λ a b d=>c.rec a b d
noncomputable def stG (G:G3)(c:K3)(v:List K3):G3:=G.rec λ a b d=>c.rec (.mk (some v) b d) (.mk a (some v) d) (.mk a b (some v))
noncomputable def imK {α:Sort 1}(z:K3->Nat)(r:List K3):Nat->G3->(G3->α)->α:=r.rec (λ J G k=>k G) λ c J ih m G k=>
 f8 (m+z c) λ m'=>(gtG G c).rec (fL (slK m (z c)) λ v=>ih m' (stG G c v) k) λ J=>ih m' G k
noncomputable def whK (G:G3)(r:List K3):List K3:=r.rec [] λ c J ih=>(gtG G c).rec ih λ v=>apK v ih
noncomputable def onK (z:K3->Nat)(r:List K3)(s:Nat):Bool:=imK z r s (.mk none none none) λ G=>fL (whK G r) λ w=>Qt9 w liK
noncomputable def zK (x y z:Nat)(c:K3):Nat:=c.rec x y z
noncomputable def Qvs (r:List K3):Bool:=f8 (cnK .x r) λ o1=>f8 (cnK .y r) λ o2=>f8 (cnK .z r) λ o3=>
 Ib (S4 (Tg o1) (Tg o2) (Tg o3) o1 o2 o3) λ t=>f8 t.1 λ x=>f8 t.2.1 λ y=>f8 t.2.2 λ z=>Ib (List.range (8-(x*o1+y*o2+z*o3))) λ s=>f8 s λ s=>onK (zK x y z) r s
end Mine
namespace Mine
noncomputable def okK (w:List K3):Bool:=w.rec true λ J J J=>cond (Qvs w) (fdK 8 w) (cond (fdK 8 w) false true)
noncomputable def M3 (n:Nat):List K3->Bool:=n.rec okK λ J ih w=>cond (okK w) (cond (ih (.x::w)) (cond (ih (.y::w)) (ih (.z::w)) false) false) false
theorem Zwf:M3 6 [.x]=true:=by decide +kernel
theorem Zwg:M3 6 [.y]=true:=by decide +kernel
theorem Zwp:M3 6 [.z]=true:=by decide +kernel
theorem Qcl:M3 7 []=true:=by
 show cond true (cond (M3 6 [.x]) (cond (M3 6 [.y]) (M3 6 [.z]) false) false) false=true;rw[Zwf,Zwg,Zwp];rfl
theorem Qad (n:Nat):∀w,M3 n w=true->∀v:List K3,v.length<=n->okK (v++w)=true:=by
 induction n with
 |zero=>
  intro w h v hv;rw[Y8.mp (Nat.le_zero.mp hv)];exact h
 |succ n ih=>
  intro w h v hv;have h:cond (okK w) (cond (M3 n (.x::w)) (cond (M3 n (.y::w)) (M3 n (.z::w)) false) false) false=true:=h;cases h0:okK w with
  |false=>rw[h0]at h;cases h
  |true=>
   cases hx:M3 n (.x::w) with
   |false=>rw[h0,hx]at h;cases h
   |true=>
    cases hy:M3 n (.y::w) with
    |false=>rw[h0,hx,hy]at h;cases h
    |true=>
     rw[h0,hx,hy]at h
     rcases List.eq_nil_or_concat v with rfl |⟨u,c,rfl⟩
     .exact h0
     .rw[List.concat_eq_append,Q8,Zw]at hv;rw[List.concat_eq_append,Qr];cases c with
      |x=>exact ih _ hx u (by lia)
      |y=>exact ih _ hy u (by lia)
      |z=>exact ih _ h u (by lia)
theorem Qd5 (w:List K3)(h:w.length<=7):okK w=true:=by
 have:=Qad 7 [] Qcl w h
 rwa [Qs]at this
end Mine
namespace Mine
theorem ff {P:Prop}(h:false=true):P:=(Zu h).elim
theorem Qaz {a b:K3}:eqK a b=true->a=b:=by
 cases a <;> cases b <;> first |exact λ J=>rfl |exact ff
theorem Qaj {a b:E6}:eqE a b=true->a=b:=by
 cases a <;> cases b <;> first |exact λ J=>rfl |exact ff
theorem Kn {a b:K3}:eqK a b=true↔a=b:=⟨Qaz,λ h=>by rw[h];cases b <;> rfl⟩
theorem Qty {a b:E6}:eqE a b=true↔a=b:=⟨Qaj,λ h=>by rw[h];cases b <;> rfl⟩
theorem Zpq (a b:K3):eqK a b=(a==b):=Bool.eq_iff_iff.mpr (Kn.trans Zr.symm)
theorem Zxn (a b:E6):eqE a b=(a==b):=Bool.eq_iff_iff.mpr (Qty.trans Zr.symm)
theorem Qbf (v ov nv:E6):Ae v ov nv=cond (v==ov) nv v:=Zm (cond · nv v) (Zxn v ov)
theorem Mm {α:Sort 1}(e:E6)(k:E6->α):fE e k=k e:=by cases e <;> rfl
noncomputable def sw6:T6->E6->E6->T6
 |.mk a b c d e f,ov,nv=>.mk (Ae a ov nv) (Ae b ov nv) (Ae c ov nv) (Ae d ov nv) (Ae e ov nv) (Ae f ov nv)
theorem Qca {α:Sort 1}(T:T6)(ov nv:E6)(k:T6->α):swK T ov nv k=k (sw6 T ov nv):=by
 cases T with
 |mk a b c d e f=>
  show(fE (Ae a ov nv) λ a=>fE (Ae b ov nv) λ b=>fE (Ae c ov nv) λ c=>fE (Ae d ov nv) λ d=>fE (Ae e ov nv) λ e=>fE (Ae f ov nv) λ f=>k (.mk a b c d e f))=_;rw[Mm,Mm,Mm,Mm,Mm,Mm];rfl
theorem Qf1 (T:T6)(ov nv e:E6):atT (sw6 T ov nv) e=Ae (atT T e) ov nv:=by cases T;cases e <;> rfl
theorem Qln (e:E6):atT T0 e=e:=by cases e <;> rfl
noncomputable def Oj (N:List K3)(T:T6):List (E6×E6):=N.flatMap λ c=>[(Ko c,atT T (Ko c)),(L3 c,atT T (L3 c))]
theorem Qur (N:List K3):Vc Ko L3 N=Oj N T0:=by
 unfold Vc Oj
 congr 1
 funext c
 rw[Qln,Qln]
theorem Qhk (N:List K3)(T:T6)(ov nv:E6):swT (Oj N T) ov nv=Oj N (sw6 T ov nv):=by
 unfold swT Oj;rw[List.map_flatMap]
 congr 1
 funext c
 rw[Qf1,Qf1,Qbf,Qbf];rfl
theorem Qkt {l:List (E6×E6)}{g:E6->E6}(h:∀q∈l,q.2=g q.1){e:E6}(he:e∈l.map (·.1)):R6 l e=g e:=by
 unfold R6;induction l with
 |nil=>exact nomatch he
 |cons q l ih=>
  rw[Qz];cases b:e==q.1 with
  |true=>rw[eq_of_beq b];exact h q (.head _)
  |false=>
   rcases Qx.mp he with he |he
   .rw[he,Qt]at b;cases b
   .exact ih (λ q hq=>h q (.tail _ hq)) he
theorem Qk8 {N:List K3}{T:T6}:∀q∈Oj N T,q.2=atT T q.1:=λ q hq=>by
 obtain⟨c,_,h⟩:=List.mem_flatMap.mp hq
 rcases Qx.mp h with rfl |h
 .rfl
 .rw[Q3.mp h]
theorem Nz {N:List K3}{c:K3}(h:c∈N)(T:T6):R6 (Oj N T) (Ko c)=atT T (Ko c)/\R6 (Oj N T) (L3 c)=atT T (L3 c):=
 ⟨Qkt Qk8 (Qv.mpr ⟨(Ko c,atT T (Ko c)),List.mem_flatMap.mpr ⟨c,h,.head _⟩,rfl⟩),Qkt Qk8 (Qv.mpr ⟨(L3 c,atT T (L3 c)),List.mem_flatMap.mpr ⟨c,h,.tail _ (.head _)⟩,rfl⟩)⟩
theorem Qcd {N:List K3}:∀(r:List K3) (a:K3) (T:T6),a∈N->(∀c∈r,c∈N)->∃T',(∀k:T6->Bool,tiK r a T k=k T')/\((a::r).zip r).foldl (Hd Ko L3) (Oj N T)=Oj N T':=by
 intro r;induction r with
 |nil=>exact λ a T J J=>⟨T,λ J=>rfl,rfl⟩
 |cons b r ih=>
  intro a T ha hr;have hb:=hr b (.head _);obtain⟨T',h1,h2⟩:=ih b (sw6 T (atT T (Ko a)) (atT T (L3 b))) hb λ c hc=>hr c (.tail _ hc);refine⟨T',λ k=>?_,?_⟩
  .show(fE (atT T (Ko a)) λ ov=>fE (atT T (L3 b)) λ nv=>swK T ov nv λ T=>tiK r b T k)=_;rw[Mm,Mm,Qca];exact h1 k
  .rw[List.zip_cons_cons,List.foldl_cons];have e:Hd Ko L3 (Oj N T) (a,b)=Oj N (sw6 T (atT T (Ko a)) (atT T (L3 b))):=by
    unfold Hd;rw[(Nz ha T).1,(Nz hb T).2,Qhk]
   rw[e];exact h2
theorem Fk {β:Type}(l:List β)(f:β->Bool):Ib l f=l.any f:=by
 induction l with
 |nil=>rfl
 |cons a l ih=>
  show cond (f a) true (Ib l f)=(f a||l.any f)
  rw[ih];cases f a <;> rfl
theorem R1 {β:Type}{l:List β}{f g:β->Bool}(h:∀a∈l,f a=g a):l.any f=l.any g:=by
 induction l with
 |nil=>rfl
 |cons a l ih=>rw[List.any_cons,List.any_cons,h a (.head _),ih λ b hb=>h b (.tail _ hb)]
theorem Nk (r:List K3)(c:K3):Ln r c=r.contains c:=by
 unfold Ln;rw[Fk,List.contains_eq_any_beq];exact R1 λ a J=>Zpq c a
theorem Qah {N F:List K3}(h:∀c∈F,c∈N)(T:T6):Qti T F=B2 Ko L3 (Oj N T) F:=by
 unfold Qti B2;rw[Fk];refine R1 λ a ha=>?_;rw[Fk];refine R1 λ b hb=>?_;rw[(Nz (h a ha) T).1,(Nz (h b hb) T).2];exact Zxn _ _
theorem Qsw (r F:List K3)(k:List K3->Bool):ouK r F k=k (out r F):=by
 induction r generalizing k with
 |nil=>rfl
 |cons c r ih=>
  show cond (Ln F c) (ouK r F k) (ouK r F λ s=>k (c::s))=k (List.filter (λ c=>!F.contains c) (c::r));rw[Nk,List.filter_cons,ih,ih]
  cases F.contains c <;> rfl
theorem Qk9 (r:List K3):(List.range' 1 (2^(Vb [.x,.y,.z] r).length-1)).map (λ ch=>Jv ch 0 (Vb [.x,.y,.z] r))=Qci (Ln r .x) (Ln r .y) (Ln r .z):=by
 rw[Nk,Nk,Nk];unfold Vb;rw[List.filter_cons,List.filter_cons,List.filter_cons,List.filter_nil]
 cases r.contains .x <;> cases r.contains .y <;> cases r.contains .z <;> rfl
theorem Qa7 (n:Nat):∀r:List K3,fdK n r=fd Ko L3 [.x,.y,.z] n r:=by
 induction n with
 |zero=>intro r;cases r <;> rfl
 |succ n ih=>
  intro r;cases r with
  |nil=>rfl
  |cons a s=>
   show(tiK s a T0 λ T=>Ib (Qci (Ln (a::s) .x) (Ln (a::s) .y) (Ln (a::s) .z)) λ F=>cond (Qti T F) false (ouK (a::s) F (fdK n)))=
    (false||(Uy Ko L3 (Vb [.x,.y,.z] (a::s)) (a::s)).any (fd Ko L3 [.x,.y,.z] n))
   have all:∀c:K3,c∈[K3.x,.y,.z]:=λ c=>by cases c <;> simp
   have hin:∀c∈a::s,c∈Vb [.x,.y,.z] (a::s):=λ c hc=>by
    unfold Vb;exact List.mem_filter.mpr ⟨all c,Zd.mpr hc⟩
   obtain⟨T',h1,h2⟩:=Qcd (N:=Vb [.x,.y,.z] (a::s)) s a T0 (hin a (.head _)) λ c hc=>hin c (.tail _ hc);rw[h1,Fk,Bool.false_or];unfold Uy;rw[List.any_flatMap];have e:(List.range' 1 (2^(Vb [.x,.y,.z] (a::s)).length-1)).any (λ ch=>(Vr Ko L3 (Ms Ko L3 (Vb [.x,.y,.z] (a::s)) (a::s)) (Vb [.x,.y,.z] (a::s)) (a::s) ch).any (fd Ko L3 [.x,.y,.z] n))=
     ((List.range' 1 (2^(Vb [.x,.y,.z] (a::s)).length-1)).map (λ ch=>Jv ch 0 (Vb [.x,.y,.z] (a::s)))).any λ F=>cond (B2 Ko L3 (Oj (Vb [.x,.y,.z] (a::s)) T') F) false (fd Ko L3 [.x,.y,.z] n (out (a::s) F)):=by
    rw[List.any_map];refine R1 λ ch J=>?_;have e1:Ms Ko L3 (Vb [.x,.y,.z] (a::s)) (a::s)=Oj (Vb [.x,.y,.z] (a::s)) T':=by
     unfold Ms;rw[Qur];exact h2
    unfold Vr;rw[e1];show _=cond (B2 Ko L3 (Oj (Vb [.x,.y,.z] (a::s)) T') (Jv ch 0 (Vb [.x,.y,.z] (a::s)))) false (fd Ko L3 [.x,.y,.z] n (out (a::s) (Jv ch 0 (Vb [.x,.y,.z] (a::s)))));cases B2 Ko L3 (Oj (Vb [.x,.y,.z] (a::s)) T') (Jv ch 0 (Vb [.x,.y,.z] (a::s))) with
    |true=>rfl
    |false=>exact Bool.or_false _
   rw[e,Qk9];refine R1 λ F hF=>?_;have hFN:∀c∈F,c∈Vb [.x,.y,.z] (a::s):=λ c hc=>by
    rw[<- Qk9]at hF;obtain⟨ch,_,e⟩:=Qv.mp hF;rw[<- e]at hc;exact Qqu hc
   rw[Qah hFN T',Qsw,ih]
end Mine
namespace Mine
structure Zxo {α β ε δ:Type}[BEq α][BEq β][BEq ε][BEq δ](rt lt:α->ε)(rt' lt':β->δ)(L:α->β)(M:ε->δ):Prop where
 l:∀a b,(L a==L b)=(a==b)
 m:∀a b,(M a==M b)=(a==b)
 r:∀a,rt' (L a)=M (rt a)
 f:∀a,lt' (L a)=M (lt a)
section
variable {α β ε δ:Type}[BEq α][BEq β][BEq ε][BEq δ]{rt lt:α->ε}{rt' lt':β->δ}{L:α->β}{M:ε->δ}
noncomputable def mm (M:ε->δ)(q:ε×ε):δ×δ:=(M q.1,M q.2)
theorem Qw5 (h:∀a b,(L a==L b)=(a==b))(l:List α)(c:α):(l.map L).contains (L c)=l.contains c:=by
 induction l with
 |nil=>rfl
 |cons a l ih=>rw[Qu,List.contains_cons,List.contains_cons,h,ih]
theorem Qw2 (l:List α)(p:β->Bool)(q:α->Bool)(h:∀a,p (L a)=q a):(l.map L).filter p=(l.filter q).map L:=by
 induction l with
 |nil=>rfl
 |cons a l ih=>rw[Qu,List.filter_cons,List.filter_cons,h,ih];cases q a <;> rfl
theorem Qdc (h:∀a b,(L a==L b)=(a==b))(U r:List α):Vb (U.map L) (r.map L)=(Vb U r).map L:=Qw2 _ _ _ λ a=>Qw5 h r a
theorem Qd0 (h:∀a b,(L a==L b)=(a==b))(r F:List α):out (r.map L) (F.map L)=(out r F).map L:=Qw2 _ _ _ λ a=>by rw[Qw5 h]
theorem Nj (h:∀a b,(M a==M b)=(a==b))(T:List (ε×ε))(e:ε):R6 (T.map (mm M)) (M e)=M (R6 T e):=by
 unfold R6;induction T with
 |nil=>rfl
 |cons q T ih=>
  rw[Qu,Qz,Qz]
  show(match M e==M q.1 with |true=>some (M q.2) |false=>_).getD _=_
  rw[h];cases e==q.1 with
  |true=>rfl
  |false=>exact ih
theorem Qhw (h:∀a b,(M a==M b)=(a==b))(T:List (ε×ε))(ov nv:ε):swT (T.map (mm M)) (M ov) (M nv)=(swT T ov nv).map (mm M):=by
 unfold swT;rw[Z3,Z3];refine List.map_congr_left λ q J=>?_;show(M q.1,cond (M q.2==M ov) (M nv) (M q.2))=(M q.1,M (cond (q.2==ov) nv q.2));rw[h]
 cases q.2==ov <;> rfl
variable (H:Zxo rt lt rt' lt' L M)
include H
theorem Qua (N:List α):Vc rt' lt' (N.map L)=(Vc rt lt N).map (mm M):=by
 unfold Vc;rw[List.flatMap_map,List.map_flatMap]
 congr 1
 funext c
 show [(rt' (L c),rt' (L c)),(lt' (L c),lt' (L c))]=[(M (rt c),M (rt c)),(M (lt c),M (lt c))];rw[H.r,H.f]
theorem Quc (l:List (α×α)):∀T:List (ε×ε),(l.map λ q=>(L q.1,L q.2)).foldl (Hd rt' lt') (T.map (mm M))=(l.foldl (Hd rt lt) T).map (mm M):=by
 induction l with
 |nil=>exact λ J=>rfl
 |cons q l ih=>
  intro T;rw[Qu,List.foldl_cons,List.foldl_cons,<- ih]
  congr 1
  unfold Hd;rw[H.r,H.f,Nj H.m,Nj H.m,Qhw H.m]
theorem Qus (N r:List α):Ms rt' lt' (N.map L) (r.map L)=(Ms rt lt N r).map (mm M):=by
 unfold Ms;rw[<- Quc H,<- Qua H]
 congr 1
 rw[<- List.map_tail,List.zip_map];rfl
theorem Qyp (T:List (ε×ε))(F:List α):B2 rt' lt' (T.map (mm M)) (F.map L)=B2 rt lt T F:=by
 unfold B2;rw[List.any_map]
 congr 1
 funext x
 show(F.map L).any _=_;rw[List.any_map]
 congr 1
 funext y
 show(R6 (T.map (mm M)) (rt' (L x))==R6 (T.map (mm M)) (lt' (L y)))=_;rw[H.r,H.f,Nj H.m,Nj H.m,H.m]
theorem Qvh (T:List (ε×ε))(N r:List α)(ch:Nat):Vr rt' lt' (T.map (mm M)) (N.map L) (r.map L) ch=(Vr rt lt T N r ch).map (List.map L):=by
 unfold Vr;rw[Qqb,Qyp H,Qd0 H.l]
 cases B2 rt lt T (Jv ch 0 N) <;> rfl
theorem Qwa (N r:List α):Uy rt' lt' (N.map L) (r.map L)=(Uy rt lt N r).map (List.map L):=by
 unfold Uy;rw[List.map_flatMap,Q6]
 congr 1
 funext ch
 rw[Qus H,Qvh H]
theorem Qa6 (U:List α)(n:Nat):∀r:List α,fd rt' lt' (U.map L) n (r.map L)=fd rt lt U n r:=by
 induction n with
 |zero=>intro r;cases r <;> rfl
 |succ n ih=>
  intro r;show((r.map L).isEmpty||(Uy rt' lt' (Vb (U.map L) (r.map L)) (r.map L)).any (fd rt' lt' (U.map L) n))=(r.isEmpty||(Uy rt lt (Vb U r) r).any (fd rt lt U n));rw[Qdc H.l,Qwa H,List.any_map,List.isEmpty_map]
  congr 2
  funext w
  exact ih w
end
end Mine
namespace Mine
noncomputable def jK (c:K3):Nat:=K3.casesOn c 102 105 108
noncomputable def LN:List Nat:=[102,105,102,108,102,105,102]
noncomputable def leK (n1 n2 n3:Nat)(c:K3):Nat:=K3.casesOn c n1 n2 n3
theorem Qf6:LN=liK.map jK:=rfl
theorem Qrp (a b:K3):(jK a==jK b)=eqK a b:=by cases a <;> cases b <;> rfl
theorem Mp {α:Sort 1}(n:Nat)(k:Nat->α):f8 n k=k n:=by
 match n with
 | 0=>rfl
 | 1=>rfl
 | 2=>rfl
 | 3=>rfl
 | 4=>rfl
 | 5=>rfl
 | 6=>rfl
 | 7=>rfl
 |n+8=>rfl
theorem Qlu {α:Sort 1}(t:List K3):∀k:List K3->α,fL t k=k t:=by
 induction t with
 |nil=>exact λ J=>rfl
 |cons c t ih=>intro k;cases c <;> exact ih _
theorem Qkb (w:List K3):∀t,(w.map jK).isPrefixOf (t.map jK)=On w t:=by
 induction w with
 |nil=>intro t;cases t <;> rfl
 |cons a w ih=>
  intro t;cases t with
  |nil=>rfl
  |cons b t=>
   show(jK a==jK b&&(w.map jK).isPrefixOf (t.map jK))=cond (eqK a b) (On w t) false
   rw[Qrp,ih];cases eqK a b <;> rfl
theorem Qt8 (w t:List K3):(Cv (w.map jK) (t.map jK)).isSome=Qt9 w t:=by
 induction t with
 |nil=>
  show(cond ((w.map jK).isPrefixOf (List.map jK [])) (some []) none:Option (List Nat)).isSome=On w []
  rw[Qkb];cases On w [] <;> rfl
 |cons c t ih=>
  show(cond ((w.map jK).isPrefixOf ((c::t).map jK)) (some _) (Cv (w.map jK) (t.map jK)):Option (List Nat)).isSome=cond (On w (c::t)) true (Qt9 w t);rw[Qkb];cases On w (c::t)
  .exact ih
  .rfl
theorem Qs2 (m n:Nat):(LN.drop m).take n=(slK m n).map jK:=by
 rw[Qf6];unfold slK;rw[List.map_take,List.map_drop]
theorem Qaa (a b:List K3):apK a b=a++b:=by
 induction a with
 |nil=>rfl
 |cons c a ih=>exact Zm (c::·) ih
theorem Qra (G:G3)(c d:K3)(v:List K3):gtG (stG G c v) d=cond (eqK d c) (some v) (gtG G d):=by
 cases G;cases c <;> cases d <;> rfl
section
variable {n1 n2 n3:Nat}
def GR (L:K3->Nat)(G:List (Nat×List Nat))(G':G3):Prop:=∀c,G.lookup (L c)=(gtG G' c).map (List.map jK)
theorem Qrd {L:K3->Nat}(hL:∀a b,L a=L b->a=b){zR:Nat->Nat}{z:K3->Nat}(hz:∀c,zR (L c)=z c)(r:List K3):∀(m:Nat) (G:List (Nat×List Nat)) (G':G3),GR L G G'->∃G2,(∀k:G3->Bool,imK z r m G' k=k G2)/\GR L (Bc zR LN (r.map L) m G) G2:=by
 induction r with
 |nil=>exact λ m G G' h=>⟨G',λ J=>rfl,h⟩
 |cons c r ih=>
  intro m G G' h;have hc:=h c;have e:=Dd G (L c);have step:Bc zR LN ((c::r).map L) m G=Bc zR LN (r.map L) (m+z c) (cond (G.any λ q=>q.1==L c) G (G++[(L c,(slK m (z c)).map jK)])):=by
   show Bc zR LN (r.map L) (m+zR (L c)) (cond (G.any λ q=>q.1==L c) G (G++[(L c,(LN.drop m).take (zR (L c)))]))=_;rw[hz,Qs2]
  rw[step];have st:∀k:G3->Bool,imK z (c::r) m G' k=Option.rec (motive:=λ J=>Bool) (imK z r (m+z c) (stG G' c (slK m (z c))) k) (λ J=>imK z r (m+z c) G' k) (gtG G' c):=λ k=>by
   refine(Mp (m+z c) λ m'=>Option.rec (motive:=λ J=>Bool) (fL (slK m (z c)) λ v=>imK z r m' (stG G' c v) k) (λ J=>imK z r m' G' k) (gtG G' c)).trans ?_;rw[Qlu]
  cases g:gtG G' c with
  |some v=>
   rw[hc,g]at e;rw[<- e];obtain⟨G2,h1,h2⟩:=ih (m+z c) G G' h;refine⟨G2,λ k=>?_,h2⟩;rw[st,g];exact h1 k
  |none=>
   rw[hc,g]at e;rw[<- e];have hG:GR L (G++[(L c,(slK m (z c)).map jK)]) (stG G' c (slK m (z c))):=λ d=>by
    rw[Qra,List.lookup_append];cases q:eqK d c with
    |true=>
     have q:=Kn.mp q;subst q;rw[hc,g];show(none:Option (List Nat)).or (List.lookup (L d) [(L d,_)])=_;rw[Qz,Qt];rfl
    |false=>
     rw[h d];have:(L d==L c)=false:=Ql.mpr λ e=>by rw[Kn.mpr (hL _ _ e)]at q;cases q
     rw[Qz,this]
     cases gtG G' d <;> rfl
   obtain⟨G2,h1,h2⟩:=ih (m+z c) _ _ hG;refine⟨G2,λ k=>?_,h2⟩;rw[st,g];exact h1 k
theorem Qc6 {L:K3->Nat}{G:List (Nat×List Nat)}{G':G3}(h:GR L G G')(r:List K3):(r.map L).flatMap (lk G)=(whK G' r).map jK:=by
 induction r with
 |nil=>rfl
 |cons c r ih=>
  rw[Qu,List.flatMap_cons,ih];have st:whK G' (c::r)=Option.rec (motive:=λ J=>List K3) (whK G' r) (λ v=>apK v (whK G' r)) (gtG G' c):=rfl;unfold lk;rw[h c,st];cases gtG G' c with
  |none=>rfl
  |some v=>show v.map jK++_=(apK v (whK G' r)).map jK;rw[Qaa,Zt]
theorem Qsy {L:K3->Nat}(hL:∀a b,L a=L b->a=b){zR:Nat->Nat}{z:K3->Nat}(hz:∀c,zR (L c)=z c)(r:List K3)(s:Nat):Hq zR LN (r.map L) s=onK z r s:=by
 obtain⟨G2,h1,h2⟩:=Qrd hL hz r s [] (.mk none none none) λ c=>by cases c <;> rfl
 unfold Hq;rw[Qc6 h2 r,Qf6,Qt8];show _=imK z r s (.mk none none none) λ G=>fL (whK G r) λ w=>Qt9 w liK;rw[h1,Qlu]
theorem M0 {L:K3->Nat}(hL:∀a b,L a=L b->a=b)(c:K3)(r:List K3):(r.map L).count (L c)=cnK c r:=by
 induction r with
 |nil=>rfl
 |cons a r ih=>
  rw[Qu,List.count_cons,ih];show _=cond (eqK a c) (Nat.succ (cnK c r)) (cnK c r);by_cases q:a=c
  .rw[q,Qt,Kn.mpr rfl];rfl
  .rw[Ql.mpr λ e=>q (hL _ _ e)];cases e:eqK a c with
   |true=>exact absurd (Kn.mp e) q
   |false=>rfl
theorem Qdk (h12:n1≠n2)(h13:n1≠n3)(h23:n2≠n3)(r:List K3):Dg n1 n2 n3 LN (r.map (leK n1 n2 n3))=Qvs r:=by
 have hL:∀a b,leK n1 n2 n3 a=leK n1 n2 n3 b->a=b:=λ a b e=>by
  cases a <;> cases b <;> first |rfl |exact absurd e h12 |exact absurd e h13 |exact absurd e h23 |exact absurd e.symm h12 |exact absurd e.symm h13 |exact absurd e.symm h23
 unfold Dg Qvs;rw[Mp,Mp,Mp,Fk];rw[show(r.map (leK n1 n2 n3)).count n1=cnK .x r from M0 hL .x r,show(r.map (leK n1 n2 n3)).count n2=cnK .y r from M0 hL .y r,show(r.map (leK n1 n2 n3)).count n3=cnK .z r from M0 hL .z r];refine R1 λ t J=>?_;unfold Qvc;rw[Mp,Mp,Mp,Fk];rw[show(r.map (leK n1 n2 n3)).count n1=cnK .x r from M0 hL .x r,show(r.map (leK n1 n2 n3)).count n2=cnK .y r from M0 hL .y r,show(r.map (leK n1 n2 n3)).count n3=cnK .z r from M0 hL .z r];refine R1 λ s J=>?_;rw[Mp];refine Qsy hL (λ c=>?_) r s;unfold zF;cases c with
 |x=>exact if_pos rfl
 |y=>exact(if_neg λ e=>h12 (Eq.symm e)).trans (if_pos rfl)
 |z=>exact(if_neg λ e=>h13 (Eq.symm e)).trans (if_neg λ e=>h23 (Eq.symm e))
end
end Mine
namespace Mine
open PySem PySem.W PySem.Calls PyProof.Rows
section
open Builtin Builtin.Str
noncomputable def Et (line p:List Nat):List Nat->Bool
 |[a]=>Dg a 120 121 line p
 |[a,b]=>Dg a b 120 line p
 |[a,b,d]=>Dg a b d line p
 |_=>false
theorem Io (P:Params):nsIn (KL P) mainGlobals "sorted"=some none:=by kernel_rfl
theorem Qnh (P:Params):nsIn (KL P) mainGlobals "set"=some none:=by kernel_rfl
structure Qf7 (p N:List Nat):Prop where
 up:N.Pairwise (· < ·)
 mem:∀c,c∈N↔c∈p
 ne:N≠[]
 le:N.length<=3
 lt:∀c∈N,c<120
section
variable {W:Qj}{c:Cx}{P:Params}
theorem Qdx (H:Vl W F1 (Z9 24) [] c)(hK:W.K=KL P)(hd:c.dr=true){line p N:List Nat}(hN:Qf7 p N)(hl:line.length<=7)(hp:p.length<=7)(h46:46∉line){K:KF}(hk:∀loc,K (.ret (.bool (Et line p N))) loc []):
  XB W c (fB (stN 24)) [("line",.str (mk line)),("pattern",.str (mk p))] [] K:=by
 have p0:p≠[]:=λ e=>by
  obtain⟨a,ha⟩:=List.exists_mem_of_ne_nil N hN.ne;exact nomatch e▸(hN.mem a).mp ha
 have sw:swapsWith (wT (sN 24 0)) (some (.Name "names" (Mq (sN 24 0)))) (wP (sN 24 0)).line c.env=pure false:=by
  have e:=Zqt;have:wT (sN 24 0)=.Subscript (.BinOp (.Call (.Name "sorted" nP.p1) [.Call (.Name "set" nP.p2) [.Name "pattern" nP.p3] [] nP.p4] [] nP.p5) .Add nP.l nP.bp) (.Slice none (some nP.hi) none nP.sp) nP.ip:=by kernel_rfl
  rw[this];rfl
 rw[Qdy]
 have first:X1 W c (sN 24 0) [("line",.str (mk line)),("pattern",.str (mk p))] [] λ fl loc st=>fl=.next/\st=[]/\XB W c [sN 24 1,sN 24 2,sN 24 3,sN 24 4] loc [] K:=⟨by
  rw[Zqt];refine Af H.O H.ch rfl (by rw[H.kd,H.bnd];exact Xm (by decide +kernel)) ?_;refine Qyj (Qtx H.O (P6 H.O hd (by rw[hK];exact Io P) (by rw[hK];exact Qnh P) (by rw[H.kd];decide +kernel) (by rw[H.kd];decide +kernel) (by decide) (by decide) (Zu8 _ _) (by rw[Zk];exact p0) (by show(mk p).length<64;rw[Qn];lia) λ ss hp' hs=>(G8 H ?_).go));rw[Zk]at hp';have es:=Ar hp' hs hN.up hN.mem;subst es;rw[Zu9];have hin:∀k∈p,k∈N:=λ k hk=>(hN.mem k).mpr hk;have up:=hN.up;have le:=hN.le;have lt:=hN.lt;have ne:=hN.ne;have fin:∀(n1 n2 n3:Nat) (L:List V),L.length<=5->Fd L none (some 3)=[.str ⟨#[n1]⟩,.str ⟨#[n2]⟩,.str ⟨#[n3]⟩]->n1≠n2->n1≠n3->n2≠n3->(∀k∈p,k=n1\/k=n2\/k=n3)->Et line p N=Dg n1 n2 n3 line p->
    L.length<=sizeLine/\Uv W c nP.hi [("line",.str (mk line)),("pattern",.str (mk p))] [] λ u=>Qbp (.list L) .none (drf [] u) .none λ z=>Fl.next=Fl.next/\([]:Q4)=[]/\XB W c [sN 24 1,sN 24 2,sN 24 3,sN 24 4] (Yx [("line",.str (mk line)),("pattern",.str (mk p))] "names" z) [] K:=by
   intro n1 n2 n3 L hL hpick h12 h13 h23 hin e;refine⟨by rw[Zv];lia,(G8 H ?_).go⟩;rw[Zuq];show L.length<=sizeLine/\(Fl.next=Fl.next/\([]:Q4)=[]/\XB W c _ (Yx _ "names" (.list (Fd L none (some 3)))) [] K);rw[hpick,Zuz];exact⟨by rw[Zv];lia,rfl,rfl,Qvn H h12 h13 h23 hl hp h46 hin λ loc=>by rw[<- e];exact hk loc⟩
  match N,up,le,lt,ne,hin,fin with
  |[a],up,le,lt,ne,hin,fin=>
   have ha:=lt a (.head _);exact fin a 120 121 [.str ⟨#[a]⟩,.str "x",.str "y"] (by simp) (Zqw ..) (by lia) (by lia) (by decide) (λ k hk=>.inl (Q3.mp (hin k hk))) rfl
  |[a,b],up,le,lt,ne,hin,fin=>
   have hb:=lt b (.tail _ (.head _));have hab:a<b:=(List.pairwise_cons.mp up).1 b (.head _);exact fin a b 120 [.str ⟨#[a]⟩,.str ⟨#[b]⟩,.str "x",.str "y"] (by simp) (Zqk ..) (by lia) (by lia) (by lia) (λ k hk=>by have:=hin k hk;simp at this;exact this.imp id .inl) rfl
  |[a,b,d],up,le,lt,ne,hin,fin=>
   obtain⟨u1,u2⟩:=List.pairwise_cons.mp up;have hab:=u1 b (.head _);have had:=u1 d (.tail _ (.head _));have hbd:=(List.pairwise_cons.mp u2).1 d (.head _);exact fin a b d [.str ⟨#[a]⟩,.str ⟨#[b]⟩,.str ⟨#[d]⟩,.str "x",.str "y"] (by simp) (Zqx ..) (by lia) (by lia) (by lia) (λ k hk=>by have:=hin k hk;simpa using this) rfl
  |[],up,le,lt,ne,hin,fin=>exact absurd rfl ne
  |_::_::_::_::_,up,le,lt,ne,hin,fin=>exact absurd le (by simp)⟩
 exact Zp _ first λ fl loc st h=>by obtain⟨rfl,rfl,h⟩:=h;exact h
end
end
theorem Np.mk {l:Lay}{h:Heap}{g:List (Str×Str)}:∀{items:List Value},Y0 l h (g.map λ p=>V.str p.2) items->Np ((g.map (·.1)).zip items) g:=by
 induction g with
 |nil=>intro items r;cases r;exact .nil
 |cons p g ih=>
  intro items r;obtain⟨w,ws,rfl,a,b⟩:=r.inv;obtain⟨t,rfl⟩:=a;exact .cons _ _ _ (ih b)
theorem Np.get {kvs:List (Str×Value)}{g:List (Str×Str)}(h:Np kvs g):∀{i:Nat} {k:Str} {x:Value},kvs[i]?=some (k,x)->∃y t,g[i]?=some (k,y)/\x=.str y t:=by
 induction h with
 |nil=>intro i k x e;cases e
 |cons a y t _ ih=>
  intro i k x e;cases i with
  |zero=>cases e;exact⟨_,_,rfl,rfl⟩
  |succ i=>exact ih e
theorem Np.keys {kvs:List (Str×Value)}{g:List (Str×Str)}(h:Np kvs g):kvs.map (·.1)=g.map (·.1):=by
 induction h with
 |nil=>rfl
 |cons a y t _ ih=>rw[Qu,Qu,ih]
theorem Np.look {kvs:List (Str×Value)}{g:List (Str×Str)}(h:Np kvs g){k y:Str}(e:g.lookup k=some y):∃t,kvs.lookup k=some (.str y t):=by
 induction h with
 |nil=>cases e
 |cons a z t _ ih=>
  rw[Qz]at e |-;cases q:k==a with
  |true=>rw[q]at e;cases e;exact⟨_,rfl⟩
  |false=>rw[q]at e;exact ih e
theorem Ec {W:Qj}{k:Str}{v:Value}(h:(PySem.strKind W.prog W.w).is k v=true):∃t,v=.str k t:=by
 have f:=kdl_flat_str h;cases v with
 |str y t=>
  have:(y==k)=true:=h;exact⟨t,by rw[eq_of_beq this]⟩
 |_=>cases h
theorem En {α:Type}{g:List (Str×α)}(hn:(g.map (·.1)).Nodup):∀{i:Nat} {k:Str} {y:α},g[i]?=some (k,y)->g.lookup k=some y:=by
 induction g with
 |nil=>intro i k y e;cases e
 |cons p g ih=>
  intro i k y e;obtain⟨h1,h2⟩:=List.nodup_cons.mp hn;rw[Qz];cases i with
  |zero=>cases e;rw[Qt]
  |succ i=>
   have hm:k∈g.map (·.1):=Qv.mpr ⟨(k,y),Y3 e,rfl⟩;have:(k==p.1)=false:=Ql.mpr λ q=>by subst q;exact h1 hm
   rw[this];exact ih h2 e
theorem A5 {g:List (Str×Str)}(hn:(g.map (·.1)).Nodup)(f:Str->Str){FK:Value->Str->Prop}{FV:Value->Value->Prop}(hk:∀v k,FK v k->∃t,v=Value.str k t)(hv:∀v y,FV v y->∀(i:Nat) (k:Str) (t:Tok) (x:Str),v=Value.str k t->g[i]?=some (k,x)->∃u,y=Value.str (f x) u):
  ∀{l:List Value} {kvs:List (Str×Value)},StoredAll FK FV l kvs->(∀(j:Nat) (v:Value),l[j]?=some v->∃(k x:Str) (t:Tok),g[j]?=some (k,x)/\v=Value.str k t)->Np kvs ((g.take l.length).map λ p=>(p.1,f p.2)):=by
 intro l kvs h;induction h with
 |nil=>intro _;exact .nil
 | @snoc l kvs v k y hl hfk hfv ih=>
  intro hP;have ih:=ih λ j u e=>hP j u ((Zx (List.getElem?_eq_some_iff.mp e).1).trans e);obtain⟨k',x,t,e1,e2⟩:=hP l.length v (by simp);obtain⟨t',e3⟩:=hk v k hfk;rw[e2]at e3;cases e3;obtain⟨u,rfl⟩:=hv v y hfv l.length k t x e2 e1;have et:g.take (l++[v]).length=g.take l.length++[(k,x)]:=by rw[Q8,Zw,List.take_add_one,e1];rfl
  rw[et,Zt];have hnew:(((g.take l.length).map λ p=>(p.1,f p.2)).any λ p=>decide (p.1=k))=false:=by
   rw[List.any_eq_false];intro p hp q;obtain⟨r,hr,rfl⟩:=Qv.mp hp;have q:r.1=k:=Qc q;obtain⟨i,hi,hir⟩:=List.getElem_of_mem hr;have hi':i<l.length:=by rw[List.length_take]at hi;lia
   have e4:g[i]?=some r:=by
    have:=Q7 hi;rw[hir,List.getElem?_take,if_pos hi']at this;exact this
   have a1:(g.map (·.1))[i]?=some k:=by rw[Z7,e4,<- q];rfl
   have a2:(g.map (·.1))[l.length]?=some k:=by rw[Z7,e1];rfl
   obtain⟨h1,e5⟩:=List.getElem?_eq_some_iff.mp a1;obtain⟨h2,e6⟩:=List.getElem?_eq_some_iff.mp a2;exact List.pairwise_iff_getElem.mp hn i l.length h1 h2 hi' (e5.trans e6.symm)
  have st:=ih.store (k:=k) (y:=f x) (t:=u);unfold sto at st;rw[hnew,if_neg Zu]at st;exact st
noncomputable def Qb3 (g:List (Str×Str))(ov nv:Str):List (Str×Str):=g.map λ p=>(p.1,cond (p.2==ov) nv p.2)
section
variable {W:Qj}{c:Cx}{loc:Loc}{st:Q4}
theorem Ed {l:Lay}{s s4:Shared}{scope:Scope}{env:Env}{y:Str}{v:V}{p:Pos}{Q E:Value->Shared->Prop}(hR:R c l loc st s)(hfr:Vt c.env.kindOf loc scope.names=true)(hcell:scope.names.all (λ y=>y.2 !=.cell)=true)
  (e1:env.scope.kind=.function) (e2:env.kindOf=Uj scope c.env.kindOf) (e3:env.cells=M2 c.env.cells scope.names []) (k1:Uj scope c.env.kindOf y=some .cell) (yd:(y==("__debug__":Str))=false) (e:loc.lookup y=some v) (sub:Sub s.heap s4.heap) (hq:∀w,VR l s.heap v w->Q w s4):wpAny (model W.prog W.w) c.A (eval (.Name y p) env) Q E s4:=by
 obtain⟨w,a,hv,ha,ob,ho,hd⟩:=cell_in hR hfr (Dt hcell (.inl k1)) e;exact wpAny_Name (wpAny_loadName_cell e1 (e2▸k1) (e3▸ha) ⟨ob,sub _ _ ho,hd⟩ (hq w hv)) yd
theorem Qgy (un:c.A.units<=1000){l:Lay}{s s3:Shared}{env:Env}{d o nw x:Str}{p1 p2 p3 p4 p5 p6 p7 p8 p9 p10:Pos}{g:List (Str×Str)}{ov nv k0 y:Str}{t:Tok}{Q E:Value->Shared->Prop}
  (nd:∀(p:Pos) (s4:Shared) (Q:Value->Shared->Prop),Keeps s3 s4->(∀w,VR l s.heap (Tu W g) w->Q w s4)->wpAny (model W.prog W.w) c.A (eval (.Name d p) env) Q E s4)
  (nx:∀(p:Pos) (s4:Shared) (Q:Value->Shared->Prop),Keeps s3 s4->Q (.str k0 t) s4->wpAny (model W.prog W.w) c.A (eval (.Name x p) env) Q E s4)
  (no:∀(p:Pos) (s4:Shared) (Q:Value->Shared->Prop),Keeps s3 s4->(∀w,VR l s.heap (.str ov) w->Q w s4)->wpAny (model W.prog W.w) c.A (eval (.Name o p) env) Q E s4)
  (nn:∀(p:Pos) (s4:Shared) (Q:Value->Shared->Prop),Keeps s3 s4->(∀w,VR l s.heap (.str nv) w->Q w s4)->wpAny (model W.prog W.w) c.A (eval (.Name nw p) env) Q E s4)
  (nodup:(g.map (·.1)).Nodup) {i:Nat} (eg:g[i]?=some (k0,y)) (sub:Sub s.heap s3.heap)
  (hq:∀z tz s5,Keeps s3 s5->z=cond (y==ov) nv y->Q (.str z tz) s5):
  wpAny (model W.prog W.w) c.A (eval (.IfExp (.Compare (.Subscript (.Name d p1) (.Name x p2) p3) [.Eq] [.Name o p4] p5) (.Name nw p6) (.Subscript (.Name d p7) (.Name x p8) p9) p10) env) Q E s3:=by
 have sx:∀(va sl p:Pos) (s4:Shared) (Q':Value->Shared->Prop),Keeps s3 s4->(∀u s5,Keeps s4 s5->Q' (.str y u) s5)->wpAny (model W.prog W.w) c.A (eval (.Subscript (.Name d va) (.Name x sl) p) env) Q' E s4:=λ va sl p s4 Q' k hq=>by
  refine Subscript_ (nd va s4 _ k λ w hw=>nx sl s4 _ k ?_);obtain⟨a0,items,rfl,nN,hD,rD⟩:=hw.invD;have DO:=hD.of (W:=W) rfl;have kv:=Np.mk rD;generalize (g.map (·.1)).zip items=kvs at DO kv;obtain⟨t',el⟩:=kv.look (En nodup eg);have ⟨ops,hop⟩:=Ur (.Name x sl) (.ref a0) (.str k0 t);have D4:=Ru (W:=W) (h':=s4.heap) DO λ J e=>Yh k _ _ (sub _ _ e);exact tail_any D4.typeIs slot_dict_getitem.lookup (wpAny_getItem_of (k:=k0) (strKind_is _ _ _ _) D4.mapOf (by rw[By];exact el) (hq _ _ (Xw _ _))) hop
 refine wpAny_IfExp (wpAny_isTrue_Compare1 (sx _ _ _ s3 _ (Yw _) λ u s4 k4=>?_) rfl);refine no _ s4 _ k4 λ w hw=>?_;refine G5 (op:=.Eq) (l:=l) (a:=.str y) (b:=.str ov) (k:=λ b=>b=(y==ov)) un (VD.of (.str _ _)) (VD.of (let ⟨t,e⟩:=hw;e▸.str _ t)) rfl _ _ λ b s5 k5 hb=>wpAny_truthy_bool ?_;subst hb;have k45:=Qi k4 k5;cases q:y==ov with
 |true=>rw[if_pos rfl];exact nn _ s5 _ k45 λ w ⟨t,e⟩=>e▸hq _ _ _ k45 (by rw[q];rfl)
 |false=>rw[if_neg Zu];exact sx _ _ _ s5 _ k45 λ u s6 k6=>hq _ _ _ (Qi k45 k6) (by rw[q];rfl)
theorem Qx6 (O:Ok W c){d x:Str}{p0 px pd pos:Pos}{scope:Scope}{g:List (Str×Str)}{f:Str->Str}{VE:Expr}{l:Lay}{s:Shared}{Q E:Value->Shared->Prop}(hR:R c l loc st s)(hsc:Gq scope=true)(hfr:Vt c.env.kindOf loc scope.names=true)(hxk:Uj scope c.env.kindOf x=some .local)
  (kd:Uj scope c.env.kindOf d=some .cell) (dd:(d==("__debug__":Str))=false) (xd:(x==("__debug__":Str))=false) (ld:loc.lookup d=some (Tu W g)) (hkd:c.env.kindOf d=some .cell) (hz:g.length<=sizeLine)
  (val:∀(env:Env) (k0 y:Str) (t:Tok) (m3:Str->Option Value) (s3:Shared) (Q E:Value->Shared->Prop) (i:Nat),env.scope.kind=.function->env.kindOf=Uj scope c.env.kindOf->env.cells=M2 c.env.cells scope.names []->(g.map (·.1)).Nodup->g[i]?=some (k0,y)->Sub s.heap s3.heap->s3.heap.Ns env.locals m3->m3 x=some (.str k0 t)->
   (∀z tz s5,Keeps s3 s5->z=f y->Q (.str z tz) s5)->wpAny (model W.prog W.w) c.A (eval VE env) Q E s3)
  (hQ:∀w s',Keeps s s'->s.toks<=s'.toks->VR l s'.heap (Tu W (g.map λ p=>(p.1,f p.2))) w->Q w s'):
  wpAny (model W.prog W.w) c.A (eval (.DictComp (.Name x p0) VE [⟨.Name x px,.Name d pd,[],0⟩] scope pos) c.env) Q E s:=by
 obtain⟨hk,hcell,hloc⟩:=W1 hsc;have ck:∀C,(compEnvC scope (M2 c.env.cells scope.names []) C c.env).kindOf=Uj scope c.env.kindOf:=λ C=>Rb (c:=c) (C:=C) O.ek;obtain⟨wd,ad,vd,cd,hcd⟩:=cell_out hR hfr (Dt hcell (.inl kd)) ld;obtain⟨a0,items,rfl,nN,hD,rD⟩:=vd.invD;have lo0:(a0==sysModules)=false:=let ⟨_,_,_,n,_⟩:=hD;n;have DO:=hD.of (W:=W) rfl;have kv:=Np.mk rD;generalize (g.map (·.1)).zip items=kvs at DO kv;have nodup:(g.map (·.1)).Nodup:=by rw[<- kv.keys];exact let ⟨_,_,_,_,_,_,_,_,n⟩:=DO;n
 obtain⟨ep,DA⟩:=DO.dictAt;have lenk:kvs.length<=sizeLine:=by rw[kv.len];exact hz
 have a0s:a0<s.heap.objs.size:=let ⟨_,_,_,ho,_⟩:=DO;Qh ho;have loS:sysModules<s.heap.objs.size:=by
  obtain⟨m,FrX⟩:=hR.fr;obtain⟨g0,_,Fr0,B0,K0,T0⟩:=O.ground FrX;have h1:=modules_low T0.nolimit;have h2:=Nat.lt_of_le_of_lt Fr0.above Fr0.ns.lt;lia
 refine Z0 ?_;rw[arm_eval_DictComp];refine wpAny_comprehension_free (use:=none) rfl (λ J=>rfl) (Pp (Pg hR hfr)) hk hloc (wpAny_Name (wpAny_loadName_cell O.ek hkd cd hcd ?_) dd)
 clear hcd cd dd hkd ld kd hfr
 generalize M2 c.env.cells scope.names []=cl at*;refine wpAny_pyIter_dict lo0 DA ?_;have Wk:=Walks.dictKeys (prog:=W.prog) (w:=W.w) (knd:=PySem.strKind W.prog W.w) (A:=c.A) O.handled s.heap.objs.size a0 (Zj a0s) kvs ep;have Sk:(s.heap.push {cls:=.type "dict_keyiterator",data:=.fields #[.ref a0,.int 0 0,.int kvs.length 0,.int ep 0]}).IsKeyIter s.heap.objs.size a0 0 kvs.length ep/\Heap.DictAt (PySem.strKind W.prog W.w) (s.heap.push {cls:=.type "dict_keyiterator",data:=.fields #[.ref a0,.int 0 0,.int kvs.length 0,.int ep 0]}) a0 kvs ep:=
  ⟨⟨_,Qp _ rfl,rfl,rfl⟩,DA.keep λ J J e=>Q9 _ e⟩
 refine wpAny_newObj_type (wpAny_newFunctionEnv (λ y hy=>by simpa using Qf.mp hcell y hy) (by intro y hy;simp at hy) (λ h₁ hns₁ hsb₁=>?_) hk);dsimp only at hns₁ hsb₁ |-;generalize hI:s.heap.push {cls:=.type "dict_keyiterator",data:=.fields #[.ref a0,.int 0 0,.int kvs.length 0,.int ep 0] }=HI at hns₁ hsb₁ Sk |-;have hn0:(HI.push {cls:=.type "dict",dict:=none,data:=.dict #[]}).DictOf (PySem.strKind W.prog W.w) HI.objs.size []:=Heap.DictOf.new _;generalize hH2:HI.push {cls:=.type "dict",dict:=none,data:=.dict #[] }=H2 at hns₁ hsb₁ hn0 |-;have sI:HI.objs.size=s.heap.objs.size+1:=by rw[<- hI,Heap.size_push]
 have sC:H2.objs.size=s.heap.objs.size+1+1:=by rw[<- hH2,Heap.size_push,sI]
 have lt:∀b o,s.heap.get? b=some o->b<s.heap.objs.size:=λ J J=>Qh;have old1:∀b o,HI.get? b=some o->h₁.get? b=some o:=λ b o e=>hsb₁.extBut b o (λ q=>by have:=Qh e;lia) (Q9 _ (hH2▸Q9 _ e));have old:Sub s.heap h₁:=λ b o e=>old1 b o (hI▸Q9 _ e);have hDC:HI.objs.size≠H2.objs.size:=by lia
 have hacc:h₁.DictOf (PySem.strKind W.prog W.w) HI.objs.size []:=Ru hn0 λ o e=>hsb₁.extBut _ _ hDC (Q9 _ e);have hst:=Wk.frame 0 _ _ Sk λ b J o e=>old1 b o e;have ce:∃ce,compEnvC scope cl H2.objs.size c.env=ce/\ce.scope.kind=.function/\ce.kindOf=Uj scope c.env.kindOf/\ce.cells=cl/\ce.locals=H2.objs.size:=⟨_,rfl,hk,ck _,rfl,rfl⟩;obtain⟨ce,e0,ce1,ce2,ce3,ce4⟩:=ce;have hns₁:h₁.Ns ce.locals λ J=>none:=ce4▸hns₁
 have hs3:({s with heap:=h₁,toks:=s.toks+([]:List (Str×Value)).length}:Shared).heap=h₁:=rfl
 show codeAny _ _ (.compStart _ 0 _ _ (compEnvC scope cl H2.objs.size c.env)) _ _;rw[e0]
 clear e0 hI hH2 hsb₁ Sk hn0 ck hcell hloc old1
 generalize s.heap.objs.size=I at*;generalize HI.objs.size=B at*;generalize H2.objs.size=C at*;subst ce4;have keepS:∀{h3:Heap},(∀b o,b≠ce.locals->b∉[I]->b≠B->h₁.get? b=some o->h3.get? b=some o)->Sub s.heap h3:=λ hkeep b o e=>by
  have hb:=lt b o e;exact hkeep b o (by lia) (λ q=>by rw[Q3]at q;lia) (by lia) (old b o e)
 have loop:codeAny (model W.prog W.w) c.A (.compLoop (.DictComp (.Name x p0) VE [⟨.Name x px,.Name d pd,[],0⟩] scope pos) 0 (.ref I) (.ref B) ce) (compPost (model W.prog W.w) c.A E none (λ v s'=>s.toks<=s'.toks->Q v s') (.ref B) ce.locals) {s with heap:=h₁,toks:=s.toks+([]:List (Str×Value)).length}:=by
  refine codeAny_compLoop_walkD (hsz:=lenk) (knd:=PySem.strKind W.prog W.w) (cenv:=ce) Wk (λ J=>true) (λ v k=>∃t,v=.str k t) (λ v y=>∀(i:Nat) (k:Str) (t:Tok) (x:Str),v=.str k t->g[i]?=some (k,x)->∃u,y=.str (f x) u)
   (by rw[ce2];exact hxk) (by rw[ce1];rfl) hDC (λ q=>?_) (λ q=>?_) hst hacc hns₁ (λ i v s3 m3 J J J J=>Q5 ⟨rfl,Yw _⟩) (λ i v s3 m3 hP J hns hm J=>?_) (λ i v s3 m3 hP J hns hm hkeep=>?_) ?_
  .simp only[Qx,Zf,or_false]at q;lia
  .simp only[Qx,Zf,or_false]at q;lia
  .obtain⟨k0,xv,e1,hs⟩:=hP;exact wpAny_Name (wpAny_loadName_local ce1 (by rw[ce2];exact hxk) hns hm ⟨⟨k0,hs,Ec hs⟩,Yw _⟩) xd
  .obtain⟨k0,xv,e1,hs⟩:=hP;obtain⟨t,rfl⟩:=Ec hs;obtain⟨y,u,e2,rfl⟩:=kv.get e1;refine val ce k0 y t m3 s3 _ _ i ce1 ce2 ce3 nodup e2 (keepS hkeep) hns hm λ z tz s5 k5 hz=>⟨λ i' k' t' x' ek eg=>?_,k5⟩;cases ek;have e4:=En nodup e2;rw[En nodup eg]at e4;cases e4;exact⟨_,by rw[hz]⟩
  .intro h' tk m' kvs' vs hns' hDO hlen hP hSA hkeep;have sub:Sub s.heap h':=keepS hkeep;have eg:g.take vs.length=g:=by rw[hlen,kv.len];exact List.take_length
   rw[List.filter_eq_self.mpr (λ J J=>rfl)]at hSA;have kv':=A5 nodup f (λ v k h=>h) (λ v y h i k t x e1 e2=>h i k t x e1 e2) hSA λ j v e=>by
    obtain⟨k0,xv,e1,hs⟩:=hP j v e;obtain⟨t,rfl⟩:=Ec hs;obtain⟨y,u,e2,_⟩:=kv.get e1;exact⟨k0,y,t,e2,rfl⟩
   rw[eg]at kv';refine⟨m',hns',λ h'' hs'' htk=>?_⟩;have DO'':h''.DictOf (PySem.strKind W.prog W.w) B kvs':=Ru hDO λ o e=>hs''.extBut _ _ hDC e;obtain⟨items',rfl,el,r⟩:=kv'.vrs (l:=l) (h:=h'');refine hQ (.ref B) _ ⟨h'',tk,rfl,λ b o e=>hs''.extBut b o (λ q=>by have:=lt b o e;lia) (sub b o e)⟩ htk (.dict (λ q=>?_) ⟨W.prog,W.w,rfl,Ql.mpr λ q=>(by lia),el,DO''⟩ r);obtain⟨o,ho⟩:=hR.low _ q;have:=lt _ _ ho;lia
 exact codeAny_compStart_dict loop (Wk.self 0 _ _ _ hst loop)
theorem Qg1 (O:Ok W c){d o nw x:Str}{p0 p1 p2 p3 p4 p5 p6 p7 p8 p9 p10 px pd pos:Pos}{scope:Scope}{g:List (Str×Str)}{ov nv:Str}{k:V->Prop}(hsc:Gq scope=true)(hfr:Vt c.env.kindOf loc scope.names=true)(hxk:Uj scope c.env.kindOf x=some .local)
  (kk:∀y,y=d\/y=o\/y=nw->Uj scope c.env.kindOf y=some .cell/\c.env.kindOf y=some .cell/\(y==("__debug__":Str))=false) (xd:(x==("__debug__":Str))=false) (ld:loc.lookup d=some (Tu W g)) (lo:loc.lookup o=some (.str ov)) (ln:loc.lookup nw=some (.str nv)) (hz:g.length<=sizeLine) (h:k (Tu W (Qb3 g ov nv))):
  Uv W c (.DictComp (.Name x p0) (.IfExp (.Compare (.Subscript (.Name d p1) (.Name x p2) p3) [.Eq] [.Name o p4] p5) (.Name nw p6) (.Subscript (.Name d p7) (.Name x p8) p9) p10) [⟨.Name x px,.Name d pd,[],0⟩] scope pos) loc st k:=λ l s Q E hR hQ=>
 Qx6 O hR hsc hfr hxk (kk d (.inl rfl)).1 (kk d (.inl rfl)).2.2 xd ld (kk d (.inl rfl)).2.1 hz
  (λ env k0 y t m3 s3 Q E i e1 e2 e3 nodup eg sub hns hm=>Qgy (Q1 (Zq _ _) O.units)
   (λ p s4 Q k=>Ed hR hfr (W1 hsc).2.1 e1 e2 e3 (kk d (.inl rfl)).1 (kk d (.inl rfl)).2.2 ld λ b o e=>Yh k _ _ (sub _ _ e))
   (λ p s4 Q k hq=>wpAny_Name (wpAny_loadName_local e1 (e2▸hxk) (Qju (Yh k) hns) hm hq) xd)
   (λ p s4 Q k=>Ed hR hfr (W1 hsc).2.1 e1 e2 e3 (kk o (.inr (.inl rfl))).1 (kk o (.inr (.inl rfl))).2.2 lo λ b o e=>Yh k _ _ (sub _ _ e))
   (λ p s4 Q k=>Ed hR hfr (W1 hsc).2.1 e1 e2 e3 (kk nw (.inr (.inr rfl))).1 (kk nw (.inr (.inr rfl))).2.2 ln λ b o e=>Yh k _ _ (sub _ _ e)) nodup eg sub)
  λ w s' k t v=>hQ _ w s' k t v h
end
section
variable {W:Qj}{c:Cx}{loc:Loc}{st:Q4}{K:KF}
theorem A6 {prog:Program}{w:World}{A:Around}{E:Value->Shared->Prop}{s:Shared}{a:Addr}{items:Array Value}{y:Value}{Q:Value->Shared->Prop}(hl:s.heap.PlainList a items)(hy:items[items.size-1]?=some y)(hz:items.size<=sizeLine)
  (hQ:∀h',h'.PlainList a (items.eraseIdxIfInBounds (items.size-1))->Heap.SameBut a s.heap h'->Q y {s with heap:=h'}):wpAny (model prog w) A (call (.builtin "list.pop") [.ref a]) Q E s:=by
 obtain⟨n,ho⟩:=hl;exact call_meets PySem.F.slot_list_pop ⟨_,ho,rfl⟩ PySem.F.entry_list_pop (PySem.F.args_list_pop_1 _) (PySem.MeetsSeq.list_pop_last a items n y hy hz) ⟨ho,hQ _ ⟨_,IsL.update (n:=n) ho _⟩ (Heap.SameBut.update ..)⟩
theorem Fa.pop0 (O:Ok W c){o:Str}{op apos pos:Pos}{k:V->Q4->Prop}(hl:(apos.endLine==pos.line)=true)(hcd:(o==("__classdict__":Str))=false)(hd:(o==("__debug__":Str))=false){n:Nat}(ho:loc.lookup o=some (.own n))
  {r:List V} {y:V} {m:Nat} (ep:st[n]?=some (r++[y],m)) (hz:r.length<16777216) (h:k y (st.set n (r,m+1))):Fa W c (.Call (.Attribute (.Name o op) "pop" apos) [] [] pos) loc st k:=λ l s Q E hR hQ=>by
 refine Z0 ?_;refine wpAny_Call_method_lateS rfl (by rw[Bn (show Z8 []=true from rfl)];rfl) hl ?_;refine wpAny_Name (J4 O hR.r ho hcd λ w hw=>?_) hd;obtain⟨a,rfl,ea⟩:=hw;obtain⟨p0,its0,ep0,n0,hp0⟩:=hR.live ea;refine⟨"list","list.pop",F.plainAttrs_list,F.slot_list_pop,F.type_list_pop,⟨_,hp0,rfl⟩,(λ b q=>by cases q;exact⟨_,hp0,rfl⟩),?_⟩;refine Uk rfl ?_;rw[Pl];refine spliced_nil ?_;obtain⟨b,items,eb,hp,hv⟩:=hR.r.lists n _ ep;rw[ea]at eb;cases eb;have hlen:=hv.length;rw[Q8]at hlen;have hsz:items.toArray.size-1=r.length:=by rw[Z4,<- hlen];rfl
 obtain⟨wy,hwy,vy⟩:=hv.get r.length y (by rw[Z2 (Q2 _),Nat.sub_self];rfl);refine A6 hp (y:=wy) (by rw[hsz,Zh];exact hwy) (by rw[Z4,<- hlen,Zv];exact hz) λ h' hp' hs'=>?_;rw[hsz]at hp';have e':(items.eraseIdx r.length).toArray=items.toArray.eraseIdxIfInBounds r.length:=by simp
 have er:(r++[y]).eraseIdx r.length=r:=by rw[List.eraseIdx_append_of_length_le (Q2 _),Nat.sub_self];simp
 have hv2:=hv.erase r.length;rw[er]at hv2;obtain⟨hR2,ow2⟩:=hR.turn (Z:=λ J=>False) (xs:=r) (items:=items.eraseIdx r.length) ea ep hs' (by rw[e'];exact hp') hv2;intro tk;exact hQ _ _ _ _ _ ⟨h',s.toks,_,rfl⟩ tk ow2 hR2 (vy.ow hR.r ow2) h
end
section
variable {W:Qj}{c:Cx}{F:Fs}{kd:Kd}{bnd:List Str}{loc:Loc}{st:Q4}{K:KF}
theorem Qyl (H:Vl W F kd bnd c)(hb:c.bnd=[]){s:Stmt}(hs:s=.While (wT s) (wB s) [] (wP s))(loc0:Loc)(I:Nat->Q4->Prop)(n:Nat)(h0:I n st)(hl:Gk loc0 loc)
  (hI:∀n st,I n st->Ot F kd (wT s) loc0 st λ q=>cond q (XB W c (wB s) loc0 st (Bo (λ loc' st'=>Gk loc0 loc'/\∃m,m<n/\I m st') K)) (∀loc,Gk loc0 loc->K .next loc st)):X1 W c s loc st K:=⟨by
 rw[hs];refine E7 (λ n loc st=>Gk loc0 loc/\I n st) n ⟨hl,h0⟩ λ n loc st ⟨hS,h⟩ l s Q E hR hQ=>(Qz8 H (hI n st h)) l s Q E (hR.fewer hb hS) λ q s' k t hq=>hQ q s' k t ?_;cases q with
 |true=>exact((XB.fewer hq hb hS).mono λ fl loc' st' h=>by
   cases fl with
   |next=>obtain⟨a,m,b,c⟩:=h;exact⟨m,b,a,c⟩
   |cont=>obtain⟨a,m,b,c⟩:=h;exact⟨m,b,a,c⟩
   |_=>exact h).go
 |false=>exact hq loc hS⟩
theorem Qu9 {γ ν:Type}{x:Str}{body:List Stmt}(hb:c.bnd=[])(val:ν->V)(base:γ->Loc)(I:List ν->γ->Q4->Prop)
  (hbody:∀v vs g st,I (v::vs) g st->XB W c body (Yx (base g) x (val v)) st (Bo (λ loc' st'=>∃g',Gk (base g') loc'/\I vs g' st') K))
  (hK:∀loc g st,Gk (base g) loc->I [] g st->K .next loc st) (vs:List ν):∀loc g st,Gk (base g) loc->I vs g st->XT W c x body none (vs.map val) loc st K:=by
 induction vs with
 |nil=>exact λ loc g st hs h=>Fo (hK loc g st hs h)
 |cons v vs ih=>
  intro loc g st hs h;refine Ba (((hbody v vs g st h).fewer hb (hs.set x (val v))).mono λ fl loc' st' h=>?_);cases fl with
  |next=>obtain⟨g',a,b⟩:=h;exact⟨trivial,ih loc' g' st' a b⟩
  |cont=>obtain⟨g',a,b⟩:=h;exact⟨trivial,ih loc' g' st' a b⟩
  |_=>exact h
end
noncomputable def faL (p:Str)(mo:Loc):Loc:=("pattern",.str p)::("waiting",.own 0)::mo
noncomputable def roL (p r:Str)(mo:Loc):Loc:=faL p (("row",.str r)::mo)
noncomputable def Gh (p r:Str)(ns:List V)(d:V)(mo:Loc):Loc:=roL p r (("names",.list ns)::("tied",d)::mo)
theorem Zmu (p:Str)(K:KF):rd F1 ["waiting"] (Z9 25) [] (sN 25 0) [("pattern",.str p)] [] K=([V.str p].length<=sizeLine/\K .next (faL p []) [([.str p],0)]):=by kernel_rfl
theorem Zmv (p:Str)(x:List V)(j:Nat)(K:Bool->Prop):Ot F1 (Z9 25) (wT (sN 25 1)) (faL p []) [(x,j)] K=((x=[]/\x.all (deep 5)=true/\K false)\/(x.length≠([]:List V).length/\K true)):=by kernel_rfl
theorem Zmy (p:Str)(x:List V)(j:Nat)(K:KF):rd F1 ["waiting"] (Z9 25) [] (sN 25 2) (faL p []) [(x,j)] K=K (.ret (.bool false)) (faL p []) [(x,j)]:=by kernel_rfl
theorem Qtq:fB (stN 25)=[sN 25 0,sN 25 1,sN 25 2]:=by kernel_rfl
theorem Zmw:sN 25 1=.While (wT (sN 25 1)) (wB (sN 25 1)) [] (wP (sN 25 1)):=by kernel_rfl
noncomputable def gS (k:Nat):Stmt:=((wB (sN 25 1))[k]?).getD default
theorem Zja:wB (sN 25 1)=[gS 0,gS 1,gS 2,gS 3,gS 4,gS 5]:=by kernel_rfl
noncomputable def Zqj (s:Stmt):Pos×Pos×Pos×Pos×Pos:=((ns s 1 []).pos,(ns s 0 [0,0]).pos,(ns s 0 [0]).pos,(ns s 0 []).pos,wP s)
noncomputable def g0:Pos×Pos×Pos×Pos×Pos:=Zqj (gS 0)
theorem Zm4:gS 0=.Assign [.Name "row" g0.1] (.Call (.Attribute (.Name "waiting" g0.2.1) "pop" g0.2.2.1) [] [] g0.2.2.2.1) g0.2.2.2.2:=by kernel_rfl
theorem Zm3:swW (Z9 25) (.Call (.Attribute (.Name "waiting" g0.2.1) "pop" g0.2.2.1) [] [] g0.2.2.2.1) "row" g0.1.line=some false:=by kernel_rfl
theorem Zm5 (p r:Str):Yx (faL p []) "row" (.str r)=roL p r []:=by kernel_rfl
theorem Zm2 (p r:Str)(x:List V)(j:Nat)(K:KF):rd F1 ["waiting"] (Z9 25) [] (gS 1) (roL p r []) [(x,j)] K=cond (r=="") (K (.ret (.bool true)) (roL p r []) [(x,j)]) (K .next (roL p r []) [(x,j)]):=by kernel_rfl
noncomputable def g2.ts:List Expr:=chE (ns (gS 2) 1 [])
noncomputable def g2.k1:Nat:=kE (ns (gS 2) 1 [])
noncomputable def g2.tp:Pos:=(ns (gS 2) 1 []).pos
noncomputable def g2.dp:Pos:=(ns (gS 2) 0 [1]).pos
noncomputable def g2.r:Expr:=ns (gS 2) 0 [0]
noncomputable def g2.k2:Nat:=kE (ns (gS 2) 0 [])
noncomputable def g2.vp:Pos:=(ns (gS 2) 0 []).pos
noncomputable def g2.pos:Pos:=wP (gS 2)
theorem Zbo:gS 2=.Assign [.Tuple g2.ts g2.k1 g2.tp] (.Tuple [g2.r,.Dict [] [] g2.dp] g2.k2 g2.vp) g2.pos:=by kernel_rfl
theorem Zbi:swS (Z9 25) g2.ts [g2.r,.Dict [] [] g2.dp]=some none:=by kernel_rfl
theorem Zbe:Gs g2.ts=some [("names":Str),"tied"]:=by kernel_rfl
theorem Zju:Z8 [g2.r,.Dict [] [] g2.dp]=true/\Z8 [.Dict [] [] g2.dp]=true:=by constructor <;> kernel_rfl
noncomputable def Zvi (e:Expr):Pos×Pos×Pos×Pos×Pos:=((nv e [0]).pos,(nv e [1,0]).pos,(nv e [1,1]).pos,(nv e [1]).pos,e.pos)
noncomputable def g2s:Pos×Pos×Pos×Pos×Pos:=Zvi g2.r
theorem Zm0:g2.r=.Call (.Name "sorted" g2s.1) [.Call (.Name "set" g2s.2.1) [.Name "row" g2s.2.2.1] [] g2s.2.2.2.1] [] g2s.2.2.2.2:=by kernel_rfl
theorem Zba (p r:Str):(roL p r []).lookup ("row":Str)=some (.str r):=by kernel_rfl
theorem Zm1 (p r:Str)(ns:List V)(d:V):Yx (Yx (roL p r []) "names" (.list ns)) "tied" d=Gh p r ns d []:=by kernel_rfl
theorem Zjm (p r:Str)(ns:List V)(d:V)(mo:Loc):(Gh p r ns d mo).lookup ("tied":Str)=some d:=by kernel_rfl
theorem Zmz (p r:Str)(ns:List V)(d v:V):Yx (Gh p r ns d []) "tied" v=Gh p r ns v []:=by kernel_rfl
theorem Zbl:gS 3=.For (.Name (wN (gS 3)) (Mq (gS 3))) (wT (gS 3)) (wB (gS 3)) [] (wP (gS 3)):=by kernel_rfl
theorem Zjk:wN (gS 3)="name":=by kernel_rfl
theorem Zbn (p r:Str)(ns:List V)(d:V)(st:Q4)(K:V->Prop):Gi F1 (Z9 25) (wT (gS 3)) (Gh p r ns d []) st K=K (.list ns):=by kernel_rfl
noncomputable def g3s:Stmt:=((wB (gS 3))[0]?).getD default
noncomputable def g3.n1:Pos:=(ns g3s 1 [0,0]).pos
noncomputable def g3.i1:Expr:=ns g3s 1 [0,1]
noncomputable def g3.q1:Pos:=(ns g3s 1 [0]).pos
noncomputable def g3.n2:Pos:=(ns g3s 1 [1,0]).pos
noncomputable def g3.i2:Expr:=ns g3s 1 [1,1]
noncomputable def g3.q2:Pos:=(ns g3s 1 [1]).pos
noncomputable def g3.k1:Nat:=kE (ns g3s 1 [])
noncomputable def g3.tp:Pos:=(ns g3s 1 []).pos
noncomputable def g3.a:Expr:=ns g3s 0 [0]
noncomputable def g3.b:Expr:=ns g3s 0 [1]
noncomputable def g3.k2:Nat:=kE (ns g3s 0 [])
noncomputable def g3.vp:Pos:=(ns g3s 0 []).pos
noncomputable def g3.pos:Pos:=wP g3s
theorem Zjv:wB (gS 3)=[.Assign [.Tuple [.Subscript (.Name "tied" g3.n1) g3.i1 g3.q1,.Subscript (.Name "tied" g3.n2) g3.i2 g3.q2] g3.k1 g3.tp] (.Tuple [g3.a,g3.b] g3.k2 g3.vp) g3.pos]:=by kernel_rfl
theorem Zbt:swS (Z9 25) [.Subscript (.Name "tied" g3.n1) g3.i1 g3.q1,.Subscript (.Name "tied" g3.n2) g3.i2 g3.q2] [g3.a,g3.b]=some none:=by kernel_rfl
theorem Qlk:Z8 [g3.a,g3.b]=true/\Z8 [g3.b]=true:=by constructor <;> kernel_rfl
theorem Zbc (p r:Str)(ns:List V)(d:V)(y:Str)(st:Q4)(K:V->Prop):Gi F1 (Z9 25) g3.a (Gh p r ns d [("name",.str y)]) st K=(y.length+(">":Str).length<=sizeLine/\K (.str (y++">"))):=by kernel_rfl
theorem Zjw (p r:Str)(ns:List V)(d:V)(y:Str)(st:Q4)(K:V->Prop):Gi F1 (Z9 25) g3.b (Gh p r ns d [("name",.str y)]) st K=((">":Str).length+y.length<=sizeLine/\K (.str (">"++y))):=by kernel_rfl
theorem Zbr (p r:Str)(ns:List V)(d:V)(y:Str)(st:Q4)(K:V->Prop):Gi F1 (Z9 25) g3.i1 (Gh p r ns d [("name",.str y)]) st K=(y.length+(">":Str).length<=sizeLine/\K (.str (y++">"))):=by kernel_rfl
theorem Zbs (p r:Str)(ns:List V)(d:V)(y:Str)(st:Q4)(K:V->Prop):Gi F1 (Z9 25) g3.i2 (Gh p r ns d [("name",.str y)]) st K=((">":Str).length+y.length<=sizeLine/\K (.str (">"++y))):=by kernel_rfl
theorem Zbh:gS 4=.For (.Name (wN (gS 4)) (Mq (gS 4))) (wT (gS 4)) (wB (gS 4)) [] (wP (gS 4)):=by kernel_rfl
theorem Zjx:wN (gS 4)="k":=by kernel_rfl
theorem Zbf (p r:Str)(ns:List V)(d:V)(st:Q4)(K:V->Prop):Gi F1 (Z9 25) (wT (gS 4)) (Gh p r ns d []) st K=(r.length<=16777216/\K (.range 1 (r.length:Nat) 1)):=by kernel_rfl
noncomputable def hS (k:Nat):Stmt:=((wB (gS 4))[k]?).getD default
theorem Zbd:wB (gS 4)=[hS 0,hS 1]:=by kernel_rfl
theorem h_0 (p r:Str)(ns:List V)(H:Str->Int)(ks:List Str)(vs:List V)(k:Int)(x:List V)(j:Nat)(K:KF):rd (Pr H) ["waiting"] (Z9 25) [] (hS 0) (Gh p r ns (.dict H ks vs) [("k",.int k)]) [(x,j)] K=
  (Txt.charAt r (k-1)).elim False λ c=>X5 (fitsSsize (k-1)) ((⟨#[c]⟩:Str).length+(">":Str).length<=sizeLine/\some H=some H/\(List.lookup ((⟨#[c]⟩:Str)++">") (ks.zip vs)).elim False λ v=>
   (Txt.charAt r k).elim False λ c=>X5 (fitsSsize k) ((">":Str).length+(⟨#[c]⟩:Str).length<=sizeLine/\some H=some H/\(List.lookup ((">":Str)++⟨#[c]⟩) (ks.zip vs)).elim False λ u=>
    K .next (Gh p r ns (.dict H ks vs) [("k",.int k),("old",v),("new",u)]) [(x,j)])):=by kernel_rfl
noncomputable def dPe:Expr:=wT (hS 1)
noncomputable def dP.p0:Pos:=(nv dPe [0]).pos
noncomputable def dP.p1:Pos:=(nv dPe [1,0,0,0]).pos
noncomputable def dP.p2:Pos:=(nv dPe [1,0,0,1]).pos
noncomputable def dP.p3:Pos:=(nv dPe [1,0,0]).pos
noncomputable def dP.p4:Pos:=(nv dPe [1,0,1]).pos
noncomputable def dP.p5:Pos:=(nv dPe [1,0]).pos
noncomputable def dP.p6:Pos:=(nv dPe [1,1]).pos
noncomputable def dP.p7:Pos:=(nv dPe [1,2,0]).pos
noncomputable def dP.p8:Pos:=(nv dPe [1,2,1]).pos
noncomputable def dP.p9:Pos:=(nv dPe [1,2]).pos
noncomputable def dP.p10:Pos:=(nv dPe [1]).pos
noncomputable def dP.px:Pos:=(nv dPe [2]).pos
noncomputable def dP.pd:Pos:=(nv dPe [3]).pos
noncomputable def dP.pos:Pos:=dPe.pos
noncomputable def dP.scope:Scope:=Qap dPe
theorem h_1:hS 1=.Assign [.Name (wN (hS 1)) (Mq (hS 1))] (wT (hS 1)) (wP (hS 1)):=by kernel_rfl
theorem Qrr:wN (hS 1)="tied":=by kernel_rfl
theorem Zj6:wT (hS 1)=.DictComp (.Name "end" dP.p0) (.IfExp (.Compare (.Subscript (.Name "tied" dP.p1) (.Name "end" dP.p2) dP.p3) [.Eq] [.Name "old" dP.p4] dP.p5) (.Name "new" dP.p6) (.Subscript (.Name "tied" dP.p7) (.Name "end" dP.p8) dP.p9) dP.p10) [⟨.Name "end" dP.px,.Name "tied" dP.pd,[],0⟩] dP.scope dP.pos:=by kernel_rfl
theorem Zx9 {env:Env}{a v:Expr}{g:List Comprehension}{s:Scope}{p px:Pos}{t:Str}{line:Nat}(hk:env.scope.kind=.function)(h:env.kindOf t=some .cell):swapsWith (.DictComp a v g s p) (some (.Name t px)) line env=pure false:=by
 delta swapsWith;dsimp only;rw[Qxk hk,h];rfl
theorem Zbj:Gq dP.scope=true:=by kernel_rfl
theorem Zbk (p r:Str)(ns:List V)(d:V)(k:Int)(v u:V):Vt (Z9 25) (Gh p r ns d [("k",.int k),("old",v),("new",u)]) dP.scope.names=true:=by kernel_rfl
theorem Zbz:Uj dP.scope (Z9 25) "end"=some .local:=by kernel_rfl
theorem Zj5:∀y:Str,y="tied"\/y="old"\/y="new"->Uj dP.scope (Z9 25) y=some .cell/\Z9 25 y=some .cell/\(y==("__debug__":Str))=false:=by
 rintro y (rfl |rfl |rfl) <;> (refine⟨?_,?_,?_⟩ <;> kernel_rfl)
theorem Zbx (p r:Str)(ns:List V)(d:V)(k:Int)(v u:V):(Gh p r ns d [("k",.int k),("old",v),("new",u)]).lookup ("tied":Str)=some d/\(Gh p r ns d [("k",.int k),("old",v),("new",u)]).lookup ("old":Str)=some v/\(Gh p r ns d [("k",.int k),("old",v),("new",u)]).lookup ("new":Str)=some u:=by
 refine⟨?_,?_,?_⟩ <;> kernel_rfl
theorem h_L (p r:Str)(ns:List V)(d e:V)(k:Int)(v u:V):Yx (Gh p r ns d [("k",.int k),("old",v),("new",u)]) "tied" e=Gh p r ns e [("k",.int k),("old",v),("new",u)]:=by kernel_rfl
theorem k_L (p r:Str)(ns:List V)(d:V)(k:Int):Yx (Gh p r ns d []) "k" (.int k)=Gh p r ns d [("k",.int k)]:=by kernel_rfl
theorem Zjf (p r:Str)(ns:List V)(d:V)(mo:Loc):Gh p r ns d mo=Gh p r ns d []++mo:=by kernel_rfl
theorem Zbp:gS 5=.For (.Name (wN (gS 5)) (Mq (gS 5))) (wT (gS 5)) (wB (gS 5)) [] (wP (gS 5)):=by kernel_rfl
theorem Zjj:wN (gS 5)="choice":=by kernel_rfl
theorem Zbm (p r:Str)(ns:List V)(d:V)(st:Q4)(K:V->Prop):Gi F1 (Z9 25) (wT (gS 5)) (Gh p r ns d []) st K=
  (ns.length<=16777216/\0<=(ns.length:Int)/\(Builtin.Int.intBits 2:Int)*(ns.length:Int)<=2^27/\K (.range 1 (2^Int.toNat (ns.length:Int)) 1)):=by kernel_rfl
noncomputable def kS (k:Nat):Stmt:=((wB (gS 5))[k]?).getD default
theorem Zbg:wB (gS 5)=[kS 0,kS 1]:=by kernel_rfl
theorem c_L (p r:Str)(ns:List V)(d:V)(k:Int):Yx (Gh p r ns d []) "choice" (.int k)=Gh p r ns d [("choice",.int k)]:=by kernel_rfl
theorem Zui:kS 0=.Assign [.Name (wN (kS 0)) (Mq (kS 0))] (wT (kS 0)) (wP (kS 0)):=by kernel_rfl
theorem Zzo:wN (kS 0)="free":=by kernel_rfl
theorem Zua:swW (Z9 25) (wT (kS 0)) (wN (kS 0)) (Mq (kS 0)).line=some false:=by kernel_rfl
noncomputable def frE:Expr:=wT (kS 0)
@[irreducible] noncomputable def fG:Comprehension:=(Jw frE)[0]?.getD default
theorem Qt0:Jw frE=[fG]:=by unfold fG;kernel_rfl
noncomputable abbrev frK:Kd:=Uj (Y4 frE) (Z9 25)
theorem Zjb (p r:Str)(ns:List V)(d:V)(k:Int):cOk (Z9 25) frE (Gh p r ns d [("choice",.int k)])=true:=by kernel_rfl
noncomputable def frL (ns:List V)(k:Int):Loc:=[("names",.list ns),("choice",.int k)]
noncomputable def frJ (ns:List V)(k j:Int):Loc:=("k",.int j)::frL ns k
theorem Qa2 (p r:Str)(ns:List V)(d:V)(k:Int):Fy frK (Gh p r ns d [("choice",.int k)])=frL ns k:=by kernel_rfl
theorem Zm7 (p r:Str)(ns:List V)(d:V)(k:Int)(st:Q4)(q:V->Prop):(X7 F1 39).1 (Z9 25) fG.iter (Gh p r ns d [("choice",.int k)]) st q=(ns.length<=16777216/\q (.range 0 (ns.length:Nat) 1)):=by unfold fG;kernel_rfl
theorem Zm9 (ns:List V)(k:Int)(v:V)(q:Loc->Prop):Vn frK fG.target v (frL ns k) q=q (("k",v)::frL ns k):=by unfold fG;kernel_rfl
theorem Zm6 (ns:List V)(k j:Int)(st:Q4)(q:Bool->Prop):Bu (λ e' loc k=>(X7 F1 39).2 frK e' loc st k) fG.ifs (frJ ns k j) q=(0<=j/\(Builtin.Int.intBits 2:Int)*j<=2^27/\(2:Int)^j.toNat≠0/\Builtin.divisionGoesByPylong k (2^j.toNat)=false/\(2:Int)≠0/\cond (Int.fmod (Int.fdiv k (2^j.toNat)) 2==1) (q true) (q false)):=by unfold fG;kernel_rfl
theorem Zm8 (ns:List V)(k j:Int)(st:Q4)(q:V->Prop):(X7 F1 39).1 frK (Fb frE) (frJ ns k j) st q=Qqz ns j q:=by kernel_rfl
theorem Zus:kS 1=.If (wT (kS 1)) (wB (kS 1)) [] (wP (kS 1)):=by kernel_rfl
noncomputable def Zp4 (e:Expr):Expr:=nv e [0]
noncomputable def clE:Expr:=Zp4 (wT (kS 1))
noncomputable abbrev clK:Kd:=Uj (Y4 clE) (Z9 25)
@[irreducible] noncomputable def cG (n:Nat):Comprehension:=(Jw clE)[n]?.getD default
theorem Qts:Jw clE=[cG 0,cG 1]:=by unfold cG;kernel_rfl
noncomputable def cfL (p r:Str)(ns:List V)(d:V)(k:Int)(fr:List V):Loc:=Gh p r ns d [("choice",.int k),("free",.list fr)]
theorem Zp8 (p r:Str)(ns:List V)(d:V)(k:Int)(fr:List V):Yx (Gh p r ns d [("choice",.int k)]) "free" (.list fr)=cfL p r ns d k fr:=by kernel_rfl
theorem Zxw (p r:Str)(ns:List V)(d:V)(k:Int)(fr:List V):cOk (Z9 25) clE (cfL p r ns d k fr)=true:=by kernel_rfl
noncomputable def clL (d:V)(fr:List V):Loc:=[("tied",d),("free",.list fr)]
theorem Qaf (p r:Str)(ns:List V)(d:V)(k:Int)(fr:List V):Fy clK (cfL p r ns d k fr)=clL d fr:=by kernel_rfl
theorem Zxy (H:Str->Int)(p r:Str)(ns:List V)(d:V)(k:Int)(fr:List V)(st:Q4)(q:V->Prop):(X7 (Pr H) 38).1 (Z9 25) (cG 0).iter (cfL p r ns d k fr) st q=q (.list fr):=by unfold cG;kernel_rfl
theorem Zxb (d:V)(fr:List V)(v:V)(q:Loc->Prop):Vn clK (cG 0).target v (clL d fr) q=q (("x",v)::clL d fr):=by unfold cG;kernel_rfl
theorem Zxk:(cG 0).ifs=[]:=by unfold cG;kernel_rfl
theorem Zxm:decide ((cG 1).is_async=0)=true/\Jj (cG 1).iter=true:=by unfold cG;constructor <;> kernel_rfl
theorem Zxv (H:Str->Int)(d:V)(fr:List V)(v:V)(st:Q4)(q:V->Prop):(X7 (Pr H) 38).1 clK (cG 1).iter (("x",v)::clL d fr) st q=q (.list fr):=by unfold cG;kernel_rfl
theorem Zxu (d:V)(fr:List V)(v w:V)(q:Loc->Prop):Vn clK (cG 1).target v (("x",w)::clL d fr) q=q (("y",v)::("x",w)::clL d fr):=by unfold cG;kernel_rfl
theorem Zxx (H:Str->Int)(ks:List Str)(vs fr:List V)(x y:Str)(st:Q4)(q:Bool->Prop):Bu (λ e' loc k=>(X7 (Pr H) 38).2 clK e' loc st k) (cG 1).ifs (("y",.str y)::("x",.str x)::clL (.dict H ks vs) fr) q=
  (x.length+(">":Str).length<=sizeLine/\some H=some H/\(List.lookup (x++">") (ks.zip vs)).elim False λ u=>(">":Str).length+y.length<=sizeLine/\some H=some H/\(List.lookup (">"++y) (ks.zip vs)).elim False λ v=>I6 (Pr H) .Eq (drf st u) (drf st v) λ t=>cond t (q true) (q false)):=by unfold cG;kernel_rfl
theorem Zp7 (H:Str->Int)(d:V)(fr:List V)(v w:V)(st:Q4)(q:V->Prop):(X7 (Pr H) 38).1 clK (Fb clE) (("y",v)::("x",w)::clL d fr) st q=q w:=by kernel_rfl
theorem Zp6 (H:Str->Int)(p r:Str)(ns:List V)(d:V)(k:Int)(fr:List V)(st:Q4)(q:Bool->Prop):Ot (Pr H) (Z9 25) (wT (kS 1)) (cfL p r ns d k fr) st q=(X7 (Pr H) 39).1 (Z9 25) clE (cfL p r ns d k fr) st λ v=>I6 (Pr H) .Eq (drf st v) (.list []) q:=by kernel_rfl
noncomputable def aS:Stmt:=((wB (kS 1))[0]?).getD default
theorem Zur:wB (kS 1)=[aS]:=by kernel_rfl
noncomputable def Zxr (s:Stmt):Expr:=ns s 0 [1,1]
noncomputable def arE:Expr:=Zxr aS
theorem Zpw:(Jw arE).length=1:=by kernel_rfl
theorem Zpx (p r:Str)(ns fr:List V)(d:V)(ch:Int)(x:List V)(j:Nat)(K:KF):rd F1 ["waiting"] (Z9 25) [] aS (cfL p r ns d ch fr) [(x,j)] K=
  rdC F1 38 (Z9 25) arE [(x,j)] (r.cps.toList.map λ c=>.str ⟨#[c]⟩) [("free",.list fr)] λ acc=>m1V .join (.str "") [drf [(x,j)] (.list acc)] λ v=>x.length<16777216/\K .next (cfL p r ns d ch fr) [(x++[v],j+1)]:=by kernel_rfl
theorem Zpk (t:Str)(fr acc:List V)(st:Q4)(q:List V->Prop):rdI F1 38 (Z9 25) arE st (.str t) [("free",.list fr)] acc q=(Jr fr).elim False λ ss=>cond (!ss.any (·==t)) (X5 (decide (acc.length<16777216)) (q (acc++[.str t]))) (q acc):=by kernel_rfl
section
open Builtin Builtin.Str
noncomputable def Xb (c:Nat):List Nat:=[c,62]
noncomputable def Xg (c:Nat):List Nat:=[62,c]
noncomputable abbrev Ke:=List (List Nat×List Nat)
noncomputable def tV (T:Ke):List (Str×Str):=T.map λ q=>(mk q.1,mk q.2)
theorem N0 {T:Ke}{e v:List Nat}(h:T.lookup e=some v):(((tV T).map (·.1)).zip ((tV T).map λ p=>V.str p.2)).lookup (mk e)=some (.str (mk v)):=by
 induction T with
 |nil=>cases h
 |cons q T ih=>
  show List.lookup (mk e) ((mk q.1,V.str (mk q.2))::(((tV T).map (·.1)).zip ((tV T).map λ p=>V.str p.2)))=_;rw[Qz,Lf];rw[Qz]at h;cases g:e==q.1 with
  |true=>rw[g]at h;cases h;rfl
  |false=>rw[g]at h;exact ih h
theorem Qhq (T:Ke)(ov nv:List Nat):Qb3 (tV T) (mk ov) (mk nv)=tV (swT T ov nv):=by
 unfold Qb3 tV swT;rw[Z3,Z3];refine List.map_congr_left λ q J=>?_;show(mk q.1,cond (mk q.2==mk ov) (mk nv) (mk q.2))=(mk q.1,mk (cond (q.2==ov) nv q.2));rw[Lf]
 cases q.2==ov <;> rfl
theorem Qb1 {T:Ke}{e v:List Nat}(h:∀q∈T,q.1≠e):sto (tV T) (mk e) (mk v)=tV (T++[(e,v)]):=by
 have:(tV T).any (λ p=>p.1=mk e)=false:=by
  rw[List.any_eq_false];intro p hp q;obtain⟨t,ht,rfl⟩:=Qv.mp hp;exact h t ht (Dp (Qc q))
 unfold sto;rw[this,if_neg Zu];unfold tV;rw[Zt];rfl
theorem Qwl (N:List Nat)(k:Nat):Vc Xb Xg (N++[k])=Vc Xb Xg N++[(Xb k,Xb k)]++[(Xg k,Xg k)]:=by
 unfold Vc;simp
theorem Ox {N:List Nat}{q:List Nat×List Nat}(h:q∈Vc Xb Xg N):∃c∈N,q=(Xb c,Xb c)\/q=(Xg c,Xg c):=by
 obtain⟨c,hc,h⟩:=List.mem_flatMap.mp h;simp at h;exact⟨c,hc,h⟩
theorem Ow (N:List Nat):(Vc Xb Xg N).length=2*N.length:=by
 unfold Vc;induction N with
 |nil=>rfl
 |cons c N ih=>rw[List.flatMap_cons,Q8,ih];simp only[Qb,Zs];lia
theorem Zu6 (p r:Str)(ns:List V)(d v:V):Yx (Gh p r ns d []) "name" v=Gh p r ns d [("name",v)]:=by kernel_rfl
theorem Qpk:(">":Str)=mk [62]:=by decide +kernel
theorem Qbc (c:Nat):(⟨#[c]⟩:Str)++">"=mk (Xb c):=by rw[Qpk,Uz,X6];rfl
theorem Qmg (c:Nat):(">":Str)++⟨#[c]⟩=mk (Xg c):=by rw[Qpk,Uz,X6];rfl
theorem W6 (c:Nat):(⟨#[c]⟩:Str).length+(">":Str).length<=sizeLine/\(">":Str).length+(⟨#[c]⟩:Str).length<=sizeLine:=by
 rw[Qpk,Uz,Qn,Qn,Zv];simp
section
variable {W:Qj}{c:Cx}{n:Nat}{D:Addr}{p r:Str}{ns:List V}{st:Q4}
theorem Qjp (H:Vl W F1 (Z9 25) [] c){K:Fl->Loc->Q4->List (Str×Str)->Prop}:∀(N M:List Nat) (loc:Loc),(M++N).Nodup->62∉M++N->(M++N).length<=100->Gk (Gh p r ns (.ext n) []) loc->
  (∀loc',Gk (Gh p r ns (.ext n) []) loc'->K .next loc' st (tV (Vc Xb Xg (M++N))))->
  XTG W c (·=D) (GD W c n D) "name" (wB (gS 3)) none (N.map λ c=>V.str ⟨#[c]⟩) loc st (tV (Vc Xb Xg M)) K:=by
 have hb:c.bnd=[]:=H.bnd;intro N;induction N with
 |nil=>intro M loc _ _ _ hs hK;rw[Qs]at hK;exact Qxe (hK loc hs)
 |cons k N ih=>
  intro M loc hn h62 hl hs hK;have e:M++k::N=(M++[k])++N:=by simp
  rw[e]at hn h62 hl hK;refine Ie (XGB.fewer (loc0:=Gh p r ns (.ext n) [("name",.str ⟨#[k]⟩)]) ?_ hb (by rw[<- Zu6];exact hs.set "name" (.str ⟨#[k]⟩)));have km:k∉M:=λ q=>by
   have:=(List.nodup_append.mp hn).1;exact(List.nodup_append.mp this).2.2 k q k (by simp) rfl
  have k62:k≠62:=λ q=>h62 (by simp[q]);have m62:62∉M:=λ q=>h62 (by simp[q]);have f1:∀q∈Vc Xb Xg M,q.1≠Xb k:=λ q hq=>by
   obtain⟨c,hc,h |h⟩:=Ox hq
   .rw[h];intro z;simp[Xb]at z;exact km (z▸hc)
   .rw[h];intro z;simp[Xg,Xb]at z;exact k62 z.1.symm
  have f2:∀q∈Vc Xb Xg M++[(Xb k,Xb k)],q.1≠Xg k:=λ q hq=>by
   rcases List.mem_append.mp hq with hq |hq
   .obtain⟨c,hc,h |h⟩:=Ox hq
    .rw[h];intro z;simp[Xg,Xb]at z;exact m62 (z.1▸hc)
    .rw[h];intro z;simp[Xg]at z;exact km (z▸hc)
   .rw[Q3.mp hq];intro z;simp[Xg,Xb]at z;exact k62 z.1
  have es:sto (sto (tV (Vc Xb Xg M)) (mk (Xb k)) (mk (Xb k))) (mk (Xg k)) (mk (Xg k))=tV (Vc Xb Xg (M++[k])):=by
   rw[Qb1 f1,Qb1 f2,Qwl]
  rw[Zjv];refine Dj (Qzh H.O (x:="tied") (Zjm ..) (by decide) (by decide) ?_ (No H.O.ek (by rw[H.kd];exact Zbt)) ?_)
  .unfold tV;rw[Q6,Ow,Zv];rw[Q8,Q8]at hl;lia
  .refine Kt Qlk.1 (G8 H ?_).go;rw[Zbc];refine⟨(W6 k).1,Kt Qlk.2 (G8 H ?_).go⟩;rw[Zjw];refine⟨(W6 k).2,Nw ⟨_,_,rfl,(G8 H ?_).go⟩⟩;rw[Zbr];refine⟨(W6 k).1,_,rfl,(G8 H ?_).go⟩;rw[Zbs];refine⟨(W6 k).2,_,rfl,?_⟩;rw[Qbc,Qmg,es];refine Qk0 ⟨trivial,?_⟩;rw[<- Zjv];exact ih (M++[k]) _ hn h62 hl (by rw[Zjf p r ns (.ext n) [("name",.str ⟨#[k]⟩)]];exact Gk.app _ _) hK
end
theorem El {T:Ke}{e:List Nat}(h:e∈T.map (·.1)):T.lookup e=some (R6 T e):=by
 unfold R6;induction T with
 |nil=>exact nomatch h
 |cons q T ih=>
  rw[Qz];cases g:e==q.1 with
  |true=>rfl
  |false=>
   rcases Qx.mp h with h |h
   .rw[h]at g;exact absurd g (by rw[Qt];exact Bool.noConfusion)
   .exact ih h
theorem Ov (T:Ke)(ov nv:List Nat):(swT T ov nv).map (·.1)=T.map (·.1):=by
 unfold swT;rw[Z3];rfl
theorem Lw {N:List Nat}{k:Nat}(h:k∈N):Xb k∈(Vc Xb Xg N).map (·.1)/\Xg k∈(Vc Xb Xg N).map (·.1):=by
 unfold Vc;exact⟨Qv.mpr ⟨(Xb k,Xb k),List.mem_flatMap.mpr ⟨k,h,.head _⟩,rfl⟩,Qv.mpr ⟨(Xg k,Xg k),List.mem_flatMap.mpr ⟨k,h,.tail _ (.head _)⟩,rfl⟩⟩
theorem Zy7:∀n:Fin 9,Builtin.Range.small 1 (n.val:Nat) 1=true/\0<=Builtin.Range.rangeSize 1 (n.val:Nat) 1/\(Builtin.Range.rangeSize 1 (n.val:Nat) 1).toNat=n.val-1:=by decide +kernel
theorem Qvo (st:Q4)(m:Int)(Q:List V->Option (Nat×Nat)->Prop):Us st (.range 1 m 1) Q=X5 (Builtin.Range.small 1 m 1) (X5 (decide (0<=Builtin.Range.rangeSize 1 m 1)) (Q (Xi 1 1 (Builtin.Range.rangeSize 1 m 1).toNat) none)):=by kernel_rfl
theorem Qj7 (n:Nat):Xi 1 1 n=(List.range' 1 n).map λ i:Nat=>V.int (i:Nat):=by
 unfold Xi;rw[List.range'_eq_map_range,Z3];refine List.map_congr_left λ i J=>?_;show V.int _=V.int _
 congr 1
 lia
noncomputable def nbs (r:List Nat):List (Nat×Nat×Nat):=(List.range' 1 (r.length-1)).zip (r.zip r.tail)
theorem Em (r:List Nat):(r.zip r.tail).length=r.length-1:=by rw[List.length_zip,List.length_tail];lia
theorem Zqz (r:List Nat):(nbs r).map (λ q=>V.int (q.1:Nat))=(List.range' 1 (r.length-1)).map λ i:Nat=>V.int (i:Nat):=by
 have:(nbs r).map (·.1)=List.range' 1 (r.length-1):=List.map_fst_zip (by rw[Em,List.length_range'];exact Q2 _);rw[<- this,Z3];rfl
theorem Zqq (r:List Nat):(nbs r).map (·.2)=r.zip r.tail:=List.map_snd_zip (by rw[Em,List.length_range'];exact Q2 _)
theorem Qsz {r:List Nat}{q:Nat×Nat×Nat}(h:q∈nbs r):1<=q.1/\r[q.1-1]?=some q.2.1/\r[q.1]?=some q.2.2:=by
 obtain⟨i,hi,rfl⟩:=List.getElem_of_mem h;unfold nbs at hi |-;rw[List.length_zip,Em,List.length_range']at hi;rw[List.getElem_zip,List.getElem_range',List.getElem_zip];dsimp only;refine⟨by lia,?_,?_⟩
 .rw[show 1+1*i-1=i by lia];exact Q7 _
 .rw[List.getElem_tail,show 1+1*i=i+1 by lia];exact Q7 _
section
variable {W:Qj}{c:Cx}{p:Str}{ns:List V}{x:List V}{j:Nat}{r N:List Nat}
theorem Qds (H:Vl W F1 (Z9 25) [] c){K:KF}(hr:r.length<=7)(hN:∀c∈r,c∈N)(hN3:N.length<=3)(Tf:Ke)(hK:∀loc,Gk (Gh p (mk r) ns (Tu W (tV Tf)) []) loc->K .next loc [(x,j)])
  (hT:(r.zip r.tail).foldl (Hd Xb Xg) (Vc Xb Xg N)=Tf):
  XT W c "k" (wB (gS 4)) none ((List.range' 1 (r.length-1)).map λ i:Nat=>V.int (i:Nat)) (Gh p (mk r) ns (Tu W (tV (Vc Xb Xg N))) []) [(x,j)] K:=by
 have hb:c.bnd=[]:=H.bnd;rw[<- Zqz];refine Qu9 hb (λ q:Nat×Nat×Nat=>V.int (q.1:Nat)) (λ T:Ke=>Gh p (mk r) ns (Tu W (tV T)) [])
  (λ vs T st=>st=[(x,j)]/\(vs.map (·.2)).foldl (Hd Xb Xg) T=Tf/\T.map (·.1)=(Vc Xb Xg N).map (·.1)/\∀q∈vs,1<=q.1/\r[q.1-1]?=some q.2.1/\r[q.1]?=some q.2.2)
  (λ q vs T st hI=>?_) (λ loc T st hs hI=>?_) (nbs r) _ (Vc Xb Xg N) [(x,j)] (Gk.refl _) ⟨rfl,by rw[Zqq];exact hT,rfl,λ q=>Qsz⟩
 .obtain⟨rfl,hf,hk,hq⟩:=hI;obtain⟨q1,q2,q3⟩:=hq q (.head _);have ha:=Y3 q2;have hb':=Y3 q3;have la:=El (T:=T) (e:=Xb q.2.1) (by rw[hk];exact(Lw (hN _ ha)).1);have lb:=El (T:=T) (e:=Xg q.2.2) (by rw[hk];exact(Lw (hN _ hb')).2);have lt:q.1<r.length:=by
   rcases Nat.lt_or_ge q.1 r.length with h |h
   .exact h
   .rw[Qo h]at q3;cases q3
  rw[k_L,Zbd];refine Qk (owns:=["waiting"]) H.hash ?_;unfold Tu;rw[h_0];have e1:((q.1:Nat):Int)-1=((q.1-1:Nat):Int):=by lia
  rw[e1];refine Yp.mpr ⟨q.2.1,Ux q2,Zn (J5 (by lia)) ⟨(W6 _).1,rfl,?_⟩⟩;rw[Qbc];refine Yp.mpr ⟨_,N0 la,Yp.mpr ⟨q.2.2,Ux q3,Zn (J5 (by lia)) ⟨(W6 _).2,rfl,?_⟩⟩⟩;rw[Qmg];refine Yp.mpr ⟨_,N0 lb,?_⟩;show XB W c [hS 1] (Gh p (mk r) ns (Tu W (tV T)) [("k",.int (q.1:Nat)),("old",.str (mk (R6 T (Xb q.2.1)))),("new",.str (mk (R6 T (Xg q.2.2))))]) [(x,j)] _;have hl:=Zbx p (mk r) ns (Tu W (tV T)) (q.1:Nat) (.str (mk (R6 T (Xb q.2.1)))) (.str (mk (R6 T (Xg q.2.2))));have hfr:=Zbk p (mk r) ns (Tu W (tV T)) (q.1:Nat) (.str (mk (R6 T (Xb q.2.1)))) (.str (mk (R6 T (Xg q.2.2))));have hL:=h_L p (mk r) ns (Tu W (tV T)) (Tu W (tV (Hd Xb Xg T q.2))) (q.1:Nat) (.str (mk (R6 T (Xb q.2.1)))) (.str (mk (R6 T (Xg q.2.2))));have hB:=Zjf p (mk r) ns (Tu W (tV (Hd Xb Xg T q.2))) [("k",.int (q.1:Nat)),("old",.str (mk (R6 T (Xb q.2.1)))),("new",.str (mk (R6 T (Xg q.2.2))))];generalize Gh p (mk r) ns (Tu W (tV T)) [("k",.int (q.1:Nat)),("old",.str (mk (R6 T (Xb q.2.1)))),("new",.str (mk (R6 T (Xg q.2.2))))]=loc1 at hl hfr hL |-;refine Zp (Xk (λ loc' st'=>XB W c [] loc' st' _) _) ⟨?_⟩ λ J J J q=>q;rw[h_1];refine Nn H.O H.ch (by rw[Zj6,Qrr];exact Zx9 H.O.ek (by rw[H.kd];exact(Zj5 "tied" (.inl rfl)).2.1)) (by rw[H.kd,H.bnd,Qrr];exact Xm (by decide +kernel)) ?_;rw[Zj6];have tl:(tV T).length<=sizeLine:=by
   have:=Zm List.length hk;rw[Q6,Q6,Ow]at this;unfold tV;rw[Q6,this,Zv];lia
  refine Qg1 H.O Zbj (by rw[H.kd];exact hfr) (by rw[H.kd];exact Zbz) (by rw[H.kd];exact Zj5) (by decide) hl.1 hl.2.1 hl.2.2 tl ?_;rw[Qhq];refine Uq ?_;rw[Qrr];have hL:Yx loc1 "tied" (Tu W (tV (swT T (R6 T (Xb q.2.1)) (R6 T (Xg q.2.2)))))=_:=hL;rw[hL,hB];exact⟨Hd Xb Xg T q.2,Gk.app _ _,rfl,hf,by unfold Hd;rw[Ov];exact hk,λ q' h=>hq q' (.tail _ h)⟩
 .obtain⟨rfl,hf,_,_⟩:=hI;have hf:T=Tf:=hf;subst hf;exact hK loc hs
end
noncomputable def sg (c:Nat):V:=.str ⟨#[c]⟩
theorem Qka (st:Q4)(xs:List V)(q:List V->Prop):Xv (drf st (.list xs)) q=q xs:=by kernel_rfl
theorem Zb2 (st:Q4)(q:List V->Prop):Xv (drf st (.range 0 ((0:Nat):Int) 1)) q=q ((List.range 0).map λ n:Nat=>V.int n):=by kernel_rfl
theorem Zb1 (st:Q4)(q:List V->Prop):Xv (drf st (.range 0 ((1:Nat):Int) 1)) q=q ((List.range 1).map λ n:Nat=>V.int n):=by kernel_rfl
theorem Zb0 (st:Q4)(q:List V->Prop):Xv (drf st (.range 0 ((2:Nat):Int) 1)) q=q ((List.range 2).map λ n:Nat=>V.int n):=by kernel_rfl
theorem Zuo (st:Q4)(q:List V->Prop):Xv (drf st (.range 0 ((3:Nat):Int) 1)) q=q ((List.range 3).map λ n:Nat=>V.int n):=by kernel_rfl
theorem Zue (st:Q4){n:Nat}(hn:n<=3)(q:List V->Prop):Xv (drf st (.range 0 (n:Int) 1)) q=q ((List.range n).map λ n:Nat=>V.int n):=by
 have:n=0\/n=1\/n=2\/n=3:=by lia
 exact this.elim (λ e=>e▸Zb2 st q) λ h=>h.elim (λ e=>e▸Zb1 st q) λ h=>h.elim (λ e=>e▸Zb0 st q) λ e=>e▸Zuo st q
theorem Qgt:∀ch:Fin 8,∀j:Fin 3,(Builtin.Int.intBits 2:Int)*((j.val:Nat):Int)<=2^27/\(2:Int)^((j.val:Nat):Int).toNat≠0/\Builtin.divisionGoesByPylong ((ch.val:Nat):Int) (2^((j.val:Nat):Int).toNat)=false/\
  (Int.fmod (Int.fdiv ((ch.val:Nat):Int) (2^((j.val:Nat):Int).toNat)) 2==1)=(ch.val/2^j.val%2==1):=by decide +kernel
noncomputable def frI (N:List Nat)(ch i:Nat):List Nat:=cond (ch/2^i%2==1) (N[i]?).toList []
theorem Qa3 (ch:Nat)(N:List Nat):∀j,(List.range N.length).flatMap (λ i=>cond (ch/2^(j+i)%2==1) (N[i]?).toList [])=Jv ch j N:=by
 induction N with
 |nil=>exact λ J=>rfl
 |cons a N ih=>
  intro j;rw[Qb,List.range_succ_eq_map,List.flatMap_cons,List.flatMap_map];have e:(λ i=>cond (ch/2^(j+(i+1))%2==1) ((a::N)[i+1]?).toList [])=λ i=>cond (ch/2^((j+1)+i)%2==1) (N[i]?).toList []:=by
   funext i
   rw[show j+(i+1)=j+1+i by lia];rfl
  show cond (ch/2^(j+0)%2==1) [a] []++(List.range N.length).flatMap (λ i=>cond (ch/2^(j+(i+1))%2==1) ((a::N)[i+1]?).toList [])=Jv ch j (a::N);rw[e,ih,Nat.add_zero];show _=cond (ch/2^j%2==1) (a::Jv ch (j+1) N) (Jv ch (j+1) N)
  cases ch/2^j%2==1 <;> rfl
theorem Qw1 (ch:Nat)(N:List Nat):(List.range N.length).flatMap (frI N ch)=Jv ch 0 N:=by
 rw[<- Qa3]
 congr 1
 funext i
 rw[Nat.zero_add];rfl
theorem P3 (ch:Nat)(N:List Nat):∀j,(Jv ch j N).Sublist N:=by
 induction N with
 |nil=>exact λ J=>.slnil
 |cons a N ih=>
  intro j;show(cond (ch/2^j%2==1) (a::Jv ch (j+1) N) (Jv ch (j+1) N)).Sublist _;cases ch/2^j%2==1 with
  |true=>exact(ih _).cons_cons a
  |false=>exact(ih _).cons a
theorem Qpg {p r:Str}{N:List Nat}{d:V}{ch:Nat}{st:Q4}(hN:N.length<=3)(hc:ch<8){k:V->Prop}(hk:k (.list ((Jv ch 0 N).map sg))):
  Gi F1 (Z9 25) frE (Gh p r (N.map sg) d [("choice",.int (ch:Nat))]) st k:=by
 show(X7 F1 (39+1)).1 (Z9 25) frE _ st k;have hcO:=Zjb p r (N.map sg) d (ch:Nat);have hi:=Zm7 p r (N.map sg) d (ch:Nat) st;have hl:=Qa2 p r (N.map sg) d (ch:Nat);generalize Gh p r (N.map sg) d [("choice",.int (ch:Nat))]=L at hcO hi hl |-;refine Lb (F:=F1) (n:=39) (kd:=Z9 25) (e:=frE) (g:=fG) (gs:=[]) (st:=st) hcO Qt0 ?_;have e:(N.map sg).length=N.length:=Q6 _;rw[hi,e,Zue st hN,hl];refine⟨by lia,⟨?_⟩⟩;refine Vy (λ j:Nat=>V.int j) (λ j=>(frI N ch j).map sg) (M:=1000) (λ j hj acc k1 hM hk1=>?_) ?_ ?_
 .have hj:j<N.length:=List.mem_range.mp hj;rw[Zm9];show Bu (λ e' loc k=>(X7 F1 39).2 frK e' loc st k) fG.ifs (frJ (N.map sg) (ch:Nat) (j:Nat)) _;rw[Zm6];obtain⟨f1,f2,f3,f4⟩:=Qgt ⟨ch,hc⟩ ⟨j,by lia⟩;refine⟨Qy j,f1,f2,f3,by decide,?_⟩;have f4:(Int.fmod (Int.fdiv (ch:Int) (2^(j:Int).toNat)) 2==1)=(ch/2^j%2==1):=f4;rw[f4];unfold frI at hk1 hM;cases q:ch/2^j%2==1 with
  |true=>
   rw[q]at hk1 hM;rw[Zi,Zi];refine Iz ?_;show(X7 F1 39).1 frK (Fb frE) (frJ (N.map sg) (ch:Nat) (j:Nat)) st _;rw[Zm8];have hg:(N.map sg)[j]?=some (sg N[j]):=by rw[Z7,Q7 hj];rfl
   have ht:(N[j]?).toList.map sg=[sg N[j]]:=by rw[Q7 hj];rfl
   rw[Zi,ht]at hk1;refine Kf hg (by lia) (Zn (Qw ?_) hk1);have:=Q1 (Zq acc.length _) hM;lia
  |false=>
   rw[q]at hk1;rw[Zo,Zo];rw[Zo,List.map_nil,Qs]at hk1;exact hk1
 .rw[Gr,Qw1,Q6,Zs];have:=(P3 ch N 0).length_le;lia
 .rw[Gr,Qw1];exact hk
noncomputable def clS (T:Ke)(fr:List Nat)(x:Nat):List Nat:=fr.flatMap λ y=>cond (R6 T (Xb x)==R6 T (Xg y)) [x] []
theorem Qta (T:Ke)(fr:List Nat)(x:Nat):(clS T fr x).length<=fr.length:=by
 have:=Ls fr (λ y=>cond (R6 T (Xb x)==R6 T (Xg y)) [x] []) 1 λ y J=>by cases R6 T (Xb x)==R6 T (Xg y) <;> simp
 unfold clS;lia
theorem Qqf {α β:Type}(l:List α)(f:α->List β)(g:α->Bool)(h:∀x∈l,(f x).isEmpty=!g x):(l.flatMap f).isEmpty=!l.any g:=by
 induction l with
 |nil=>rfl
 |cons a l ih=>
  have e:(f a++l.flatMap f).isEmpty=((f a).isEmpty&&(l.flatMap f).isEmpty):=by cases f a <;> rfl
  rw[List.flatMap_cons,List.any_cons,e,h a (.head _),ih λ x hx=>h x (.tail _ hx),Bool.not_or]
theorem Qtr (T:Ke)(fr:List Nat):(fr.flatMap (clS T fr)).isEmpty=!B2 Xb Xg T fr:=by
 refine Qqf fr _ _ λ x J=>Qqf fr _ _ λ y J=>?_
 cases R6 T (Xb x)==R6 T (Xg y) <;> rfl
theorem Qtl (H:Str->Int)(st:Q4)(a b:Str)(k:Bool->Prop):I6 (Pr H) .Eq (drf st (.str a)) (drf st (.str b)) k=k (a==b):=by kernel_rfl
theorem Qtc (H:Str->Int)(st:Q4)(xs:List V)(k:Bool->Prop):I6 (Pr H) .Eq (drf st (.list xs)) (.list []) k=((xs=[]/\xs.all (deep 5)=true/\k true)\/(xs.length≠([]:List V).length/\k false)):=by kernel_rfl
theorem Qgm {H:Str->Int}{st:Q4}{xs:List V}{k:Bool->Prop}(h:k xs.isEmpty):I6 (Pr H) .Eq (drf st (.list xs)) (.list []) k:=by
 rw[Qtc];cases xs with
 |nil=>exact .inl ⟨rfl,rfl,h⟩
 |cons v vs=>exact .inr ⟨by simp,h⟩
theorem Qxq {H:Str->Int}{p r:Str}{ns:List V}{ch:Int}{T:Ke}{ks:List Str}{vs:List V}{fr:List Nat}{st:Q4}(hT:∀c∈fr,(ks.zip vs).lookup (mk (Xb c))=some (.str (mk (R6 T (Xb c))))/\(ks.zip vs).lookup (mk (Xg c))=some (.str (mk (R6 T (Xg c)))))(h3:fr.length<=3){q:Bool->Prop}(hq:q (!B2 Xb Xg T fr)):
  Ot (Pr H) (Z9 25) (wT (kS 1)) (cfL p r ns (.dict H ks vs) ch (fr.map sg)) st q:=by
 rw[Zp6];have hc:=Zxw p r ns (.dict H ks vs) ch (fr.map sg);have hi:=Zxy H p r ns (.dict H ks vs) ch (fr.map sg) st;have hl:=Qaf p r ns (.dict H ks vs) ch (fr.map sg);generalize cfL p r ns (.dict H ks vs) ch (fr.map sg)=L at hc hi hl |-;refine Lb (F:=Pr H) (n:=38) (kd:=Z9 25) (e:=clE) (g:=cG 0) (gs:=[cG 1]) (st:=st) hc Qts ?_;rw[hi,Qka,hl];refine⟨?_⟩;refine Vy sg (λ x=>(clS T fr x).map sg) (M:=1000) (λ x hx acc k1 hM hk1=>?_) ?_ ?_
 .rw[Zxb,Zxk,H6,Zi];refine Pd (g:=cG 1) (gs:=[]) Zxm.1 Zxm.2 ?_;show(X7 (Pr H) 38).1 clK (cG 1).iter (("x",sg x)::clL (.dict H ks vs) (fr.map sg)) st _;rw[Zxv,Qka];refine Vy sg (λ y=>(cond (R6 T (Xb x)==R6 T (Xg y)) [x] []).map sg) (M:=1000) (λ y hy acc k2 hM2 hk2=>?_) ?_ ?_
  .rw[Zxu];show Bu (λ e' loc k=>(X7 (Pr H) 38).2 clK e' loc st k) (cG 1).ifs (("y",.str ⟨#[y]⟩)::("x",.str ⟨#[x]⟩)::clL (.dict H ks vs) (fr.map sg)) _;rw[Zxx,Qbc,Qmg];refine⟨(W6 _).1,rfl,Yp.mpr ⟨_,(hT x hx).1,(W6 _).2,rfl,Yp.mpr ⟨_,(hT y hy).2,?_⟩⟩⟩;rw[Qtl,Lf];revert hk2 hM2;generalize (R6 T (Xb x)==R6 T (Xg y))=b;intro hM2 hk2;cases b with
   |true=>
    rw[Zi,Zi];refine Iz ?_;show(X7 (Pr H) 38).1 clK (Fb clE) (("y",sg y)::("x",sg x)::clL (.dict H ks vs) (fr.map sg)) st _;rw[Zp7];have hM2:acc.length+1<=1000:=hM2;exact Zn (Qw (by lia)) hk2
   |false=>
    rw[Zo,Zo];rw[Zo,List.map_nil,Qs]at hk2;exact hk2
  .rw[Gr];exact hM
  .rw[Gr];exact hk1
 .rw[Gr,Q6,Zs];have:=Ls fr (clS T fr) fr.length λ x J=>Qta T fr x;have:fr.length*fr.length<=3*3:=Nat.mul_le_mul h3 h3;lia
 .rw[Gr,Y7];refine Qgm ?_;rw[List.isEmpty_map,Qtr];exact hq
noncomputable def Qvz (fr:List Nat)(v:V):Option V:=vstr'' v λ t=>cond (!(fr.map λ c=>(⟨#[c]⟩:Str)).any (·==t)) (some (.str t)) none
where vstr'' (v:V) (k:Str->Option V):Option V:=match v with
 |.str t=>k t
 |_=>none
theorem Qn9 (fr:List Nat)(c:Nat):(fr.map λ c=>(⟨#[c]⟩:Str)).any (·==⟨#[c]⟩)=fr.contains c:=by
 induction fr with
 |nil=>rfl
 |cons a fr ih=>
  rw[Qu,List.any_cons,ih,List.contains_cons];have:((⟨#[a]⟩:Str)==⟨#[c]⟩)=(c==a):=by rw[Uz,Uz,mk1,Bool.beq_comm]
  rw[this]
theorem Qm9 (fr r:List Nat):(r.map λ c=>V.str ⟨#[c]⟩).filterMap (Qvz fr)=((out r fr).map λ c=>mk [c]).map V.str:=by
 induction r with
 |nil=>rfl
 |cons c r ih=>
  rw[Qu];unfold out at ih |-;have e:Qvz fr (.str ⟨#[c]⟩)=cond (!fr.contains c) (some (.str ⟨#[c]⟩)) none:=by
   show cond (!(fr.map λ c=>(⟨#[c]⟩:Str)).any (·==⟨#[c]⟩)) _ _=_;rw[Qn9]
  rw[List.filter_cons];cases g:fr.contains c with
  |true=>
   rw[g]at e;rw[List.filterMap_cons_none (show Qvz fr (.str ⟨#[c]⟩)=none from e),ih];rfl
  |false=>
   rw[g]at e;rw[List.filterMap_cons_some (show Qvz fr (.str ⟨#[c]⟩)=some (.str ⟨#[c]⟩) from e),ih];rfl
theorem Qhy (fr:List Nat):Jr (fr.map sg)=some (fr.map λ c=>(⟨#[c]⟩:Str)):=by
 have:=Xo (fr.map λ c=>(⟨#[c]⟩:Str));rw[Z3]at this;exact this
theorem Qd1 (r fr:List Nat):(out r fr).length<=r.length:=List.length_filter_le _ _
theorem Qxm {p:Str}{r:List Nat}{ns:List V}{d:V}{ch:Int}{fr:List Nat}{x:List V}{j:Nat}{K:KF}(hr:r.length<=7)(hx:x.length<16777216)
  (hk:K .next (cfL p (mk r) ns d ch (fr.map sg)) [(x++[.str (mk (out r fr))],j+1)]):rd F1 ["waiting"] (Z9 25) [] aS (cfL p (mk r) ns d ch (fr.map sg)) [(x,j)] K:=by
 rw[Zpx,Zk];refine Gz (Qvz fr) Zpw (λ v hv acc k' ha hk'=>?_) ?_
 .obtain⟨c,hc,rfl⟩:=Qv.mp hv;rw[Zpk];refine Yp.mpr ⟨_,Qhy fr,?_⟩;have e:Qvz fr (.str ⟨#[c]⟩)=cond (!(fr.map λ c=>(⟨#[c]⟩:Str)).any (·==⟨#[c]⟩)) (some (.str ⟨#[c]⟩)) none:=rfl;rw[e]at hk';rw[Q6]at ha;cases g:(!(fr.map λ c=>(⟨#[c]⟩:Str)).any (·==⟨#[c]⟩)) with
  |true=>rw[g]at hk';exact Zn (Qw (by lia)) hk'
  |false=>
   rw[g]at hk';rw[Zo,Option.toList_none,Qs]at hk';exact hk'
 .rw[Qm9];refine Yp.mpr ⟨_,Xo _,Nx (B:=1) (λ y hy=>?_) ?_,?_⟩
  .obtain⟨c,_,rfl⟩:=Qv.mp hy;rw[Qn];exact Q2 1
  .rw[Q6];have:=Qd1 r fr;lia
  .have e:(out r fr).map (λ c=>mk [c])=((out r fr).map λ c=>[c]).map mk:=by rw[Z3];rfl
   have f:((out r fr).map λ c=>[c]).flatten=out r fr:=by
    induction out r fr with
    |nil=>rfl
    |cons a l ih=>rw[Qu,List.flatten_cons,ih];rfl
   rw[e,Qkr,f];exact⟨hx,hk⟩
noncomputable def ss (ws:List (List Nat)):List V:=ws.map λ w=>V.str (mk w)
theorem Qj0 (a b:List (List Nat)):ss (a++b)=ss a++ss b:=Zt
theorem Zp9 (p r:Str)(ns:List V)(d:V)(k:Int)(fr:List V):cfL p r ns d k fr=Gh p r ns d []++(((("choice":Str),V.int k)::("free",.list fr)::[]:Loc)):=by kernel_rfl
section
variable {W:Qj}{c:Cx}{p:Str}{r N:List Nat}{T:Ke}
theorem Qz1 (H:Vl W F1 (Z9 25) [] c)(hr:r.length<=7)(hN:N.length<=3)(hT:∀c∈N,Xb c∈T.map (·.1)/\Xg c∈T.map (·.1)){ch:Nat}(hc:ch<8){ws:List (List Nat)}{j:Nat}(hw:ws.length<16777216){K:KF}
  (hK:∀j',K .next (cfL p (mk r) (N.map sg) (Tu W (tV T)) (ch:Nat) ((Jv ch 0 N).map sg)) [(ss (ws++Vr Xb Xg T N r ch),j')]):
  XB W c (wB (gS 5)) (Gh p (mk r) (N.map sg) (Tu W (tV T)) [("choice",.int (ch:Nat))]) [(ss ws,j)] K:=by
 rw[Zbg];have cl:=Zp8 p (mk r) (N.map sg) (Tu W (tV T)) (ch:Nat) ((Jv ch 0 N).map sg);refine Zp (Xk (λ loc' st'=>XB W c [kS 1] loc' st' K) K) (M5 H Zui (by rw[Zzo];decide +kernel) Zua (G8 H (Qpg (k:=λ v=>Xk (λ loc' st'=>XB W c [kS 1] loc' st' K) K .next (Yx (Gh p (mk r) (N.map sg) (Tu W (tV T)) [("choice",.int (ch:Nat))]) (wN (kS 0)) v) [(ss ws,j)]) hN hc ?_))) λ J J J q=>q;rw[Zzo,cl];show XB W c [kS 1] _ _ K;have hf3:(Jv ch 0 N).length<=3:=Q1 (P3 ch N 0).length_le hN;have hT':∀c∈Jv ch 0 N,Xb c∈T.map (·.1)/\Xg c∈T.map (·.1):=λ c hc=>hT c ((P3 ch N 0).subset hc);have en:Vr Xb Xg T N r ch=cond (B2 Xb Xg T (Jv ch 0 N)) [] [out r (Jv ch 0 N)]:=rfl;rw[en]at hK;generalize Jv ch 0 N=fr at hf3 hT' hK |-;refine Zp (Xk (λ loc' st'=>XB W c [] loc' st' K) K) ⟨?_⟩ λ J J J q=>q;rw[Zus];have test:=@Qxq (PySem.strKind W.prog W.w).hash p (mk r) (N.map sg) (ch:Nat) T ((tV T).map (·.1)) ((tV T).map λ p=>.str p.2) fr [(ss ws,j)] (λ c hc=>⟨N0 (El (hT' c hc).1),N0 (El (hT' c hc).2)⟩) hf3
  (λ q=>cond q (XS W c (execs (wB (kS 1)) c.env) (cfL p (mk r) (N.map sg) (Tu W (tV T)) (ch:Nat) (fr.map sg)) [(ss ws,j)] (Xk (λ loc' st'=>XB W c [] loc' st' K) K)) (XS W c (execs [] c.env) (cfL p (mk r) (N.map sg) (Tu W (tV T)) (ch:Nat) (fr.map sg)) [(ss ws,j)] (Xk (λ loc' st'=>XB W c [] loc' st' K) K)))
 refine Quk (Qz8 H.hash (test ?_));generalize B2 Xb Xg T fr=b at hK |-;cases b with
 |true=>
  have hK:=hK j;rw[Zi,Qs]at hK;exact E3 (Uq hK)
 |false=>
  have hK:=hK (j+1);rw[Zo,Qj0]at hK;rw[Zur];show XS W c (execs [aS] c.env) _ _ _;refine(Qk (owns:=["waiting"]) H (Qxm hr (by unfold ss;rw[Q6];exact hw) ?_)).go;exact Uq (Uq hK)
theorem I9 (H:Vl W F1 (Z9 25) [] c)(hr:r.length<=7)(hN:N.length<=3)(hT:∀c∈N,Xb c∈T.map (·.1)/\Xg c∈T.map (·.1)){ws:List (List Nat)}{j:Nat}(vs:List Nat)(hv:∀ch∈vs,ch<8)(hw:(ws++vs.flatMap (Vr Xb Xg T N r)).length<16777216){K:KF}
  (hK:∀loc j',Gk (Gh p (mk r) (N.map sg) (Tu W (tV T)) []) loc->K .next loc [(ss (ws++vs.flatMap (Vr Xb Xg T N r)),j')]):
  ∀loc,Gk (Gh p (mk r) (N.map sg) (Tu W (tV T)) []) loc->XT W c "choice" (wB (gS 5)) none (vs.map λ i:Nat=>V.int (i:Nat)) loc [(ss ws,j)] K:=λ loc hl=>by
 refine Qu9 H.bnd (λ i:Nat=>V.int (i:Nat)) (λ J:Unit=>Gh p (mk r) (N.map sg) (Tu W (tV T)) [])
  (λ us J st=>∃ws' j',st=[(ss ws',j')]/\ws'++us.flatMap (Vr Xb Xg T N r)=ws++vs.flatMap (Vr Xb Xg T N r)/\∀ch∈us,ch<8)
  (λ ch us J st hI=>?_) (λ loc J st hs hI=>?_) vs loc () [(ss ws,j)] hl ⟨ws,j,rfl,rfl,hv⟩
 .obtain⟨ws',j',rfl,e,hu⟩:=hI;rw[c_L];have len:ws'.length<16777216:=by rw[<- e,Q8]at hw;lia
  refine Qz1 H hr hN hT (hu ch (.head _)) len λ j''=>?_;rw[Zp9];rw[List.flatMap_cons,<- Qr]at e;exact⟨(),Gk.app _ _,_,j'',rfl,e,λ c hc=>hu c (.tail _ hc)⟩
 .obtain⟨ws',j',rfl,e,hu⟩:=hI;rw[List.flatMap_nil,Qs]at e;subst e;exact hK loc j' hs
end
theorem Qp3 (st:Q4)(xs:List V)(Q:List V->Option (Nat×Nat)->Prop):Us st (.list xs) Q=Q xs none:=by kernel_rfl
theorem Qwn (l:List (Nat×Nat)):∀T:Ke,(l.foldl (Hd Xb Xg) T).map (·.1)=T.map (·.1):=by
 induction l with
 |nil=>exact λ J=>rfl
 |cons q l ih=>intro T;rw[List.foldl_cons,ih];exact Ov ..
theorem Qq8 {st:Q4}{n:Nat}(hn:n<9)(Q:List V->Option (Nat×Nat)->Prop):Us st (.range 1 (n:Int) 1) Q=Q ((List.range' 1 (n-1)).map λ i:Nat=>V.int (i:Nat)) none:=by
 have b:=Zy7 ⟨n,hn⟩;have s1:Builtin.Range.small 1 (n:Int) 1=true:=b.1;have s2:0<=Builtin.Range.rangeSize 1 (n:Int) 1:=b.2.1;have s3:(Builtin.Range.rangeSize 1 (n:Int) 1).toNat=n-1:=b.2.2;rw[Qvo,s1,Qw s2,s3,Qj7];rfl
section
variable {W:Qj}{c:Cx}{P:Params}{p:Str}{r N:List Nat}{x:List V}{j:Nat}{K:KF}
theorem Qv6 (H:Vl W F1 (Z9 25) [] c)(hr:r.length<=7)(hN:N.length<=3)(hm:∀c,c∈N↔c∈r){ws:List (List Nat)}(hw:ws.length<10000000)
  (hK:∀loc j',Gk (Gh p (mk r) (N.map sg) (Tu W (tV (Ms Xb Xg N r))) []) loc->K .next loc [(ss (ws++Uy Xb Xg N r),j')]):
  ∀loc,Gk (Gh p (mk r) (N.map sg) (Tu W (tV (Vc Xb Xg N))) []) loc->XB W c [gS 4,gS 5] loc [(ss ws,j)] K:=λ loc hl=>by
 refine XB.fewer ?_ H.bnd hl;refine Zp (Xk (λ loc' st'=>XB W c [gS 5] loc' st' K) K) (T9 H Zbh (by decide +kernel) (by rw[Zjx];decide +kernel) ?_) λ J J J q=>q;rw[Zbf,Qn];refine⟨by lia,?_⟩;have r9:r.length<9:=by lia
 rw[Qq8 r9];rw[Zjx];refine Qds H hr (λ c hc=>(hm c).mpr hc) hN (Ms Xb Xg N r) (λ loc hl=>?_) rfl;show XB W c [gS 5] _ _ K;refine XB.fewer ?_ H.bnd hl;refine Zp (Xk (λ loc' st'=>XB W c [] loc' st' K) K) (T9 H Zbp (by decide +kernel) (by rw[Zjj];decide +kernel) ?_) λ J J J q=>q;have e:(N.map sg).length=N.length:=Q6 _;rw[Zbm,e];have pw:2^N.length<=2^3:=Nat.pow_le_pow_right (by decide) hN;have p8:(2:Nat)^3=8:=by decide
 have e2:(2:Int)^Int.toNat (N.length:Int)=((2^N.length:Nat):Int):=by rw[Int.toNat_natCast];simp
 have ib:(Builtin.Int.intBits 2:Int)<=1000:=by decide +kernel
 have ib0:(0:Int)<=(Builtin.Int.intBits 2:Int):=by decide +kernel
 refine⟨by lia,Qy _,?_,?_⟩
 .have h1:(Builtin.Int.intBits 2:Int)*(N.length:Int)<=1000*3:=Int.mul_le_mul ib (by lia) (Qy _) (by decide);exact Int.le_trans h1 (by decide)
 .rw[e2];have n9:2^N.length<9:=by lia
  rw[Qq8 n9];rw[Zjj];refine I9 H hr hN (λ c hc=>?_) _ (λ ch hc=>?_) ?_ (λ loc j' hl=>Uq (hK loc j' hl)) _ (Gk.refl _)
  .rw[show(Ms Xb Xg N r).map (·.1)=(Vc Xb Xg N).map (·.1) from Qwn _ _];exact Lw hc
  .rw[List.mem_range'_1]at hc;lia
  .rw[Q8];have:=Ls (List.range' 1 (2^N.length-1)) (Vr Xb Xg (Ms Xb Xg N r) N r) 1 λ ch J=>C5 ..;rw[List.length_range']at this;lia
theorem Qba (H:Vl W F1 (Z9 25) [] c)(hK:W.K=KL P)(hd:c.dr=true)(hr:r.length<=7)(h0:r≠[])(hN:N.length<=3)(hm:∀c,c∈N↔c∈r)(hu:N.Pairwise (· < ·))(h62:62∉N){ws:List (List Nat)}(hw:ws.length<10000000)
  (hk:∀loc j',Gk (Gh p (mk r) (N.map sg) (Tu W (tV (Ms Xb Xg N r))) []) loc->K .next loc [(ss (ws++Uy Xb Xg N r),j')]):
  XB W c [gS 2,gS 3,gS 4,gS 5] (roL p (mk r) []) [(ss ws,j)] K:=⟨by
 rw[Zbo];refine Qxo H.O H.ch (x:="tied") Zbe (No H.O.ek (by rw[H.kd];exact Zbi)) (by rw[H.bnd];rfl) ?_;refine Qx1 Zju.1 ?_;have sorted:Fa W c g2.r (roL p (mk r) []) [(ss ws,j)] λ v st'=>st'=[(ss ws,j)]/\v=.list (N.map sg):=by
  rw[Zm0];refine P6 H.O hd (by rw[hK];exact Io P) (by rw[hK];exact Qnh P) (by rw[H.kd];decide +kernel) (by rw[H.kd];decide +kernel) (by decide) (by decide) (Zba _ _) (by rw[Zk];exact h0) (by show(mk r).length<64;rw[Qn];lia) λ ss hp' hs=>⟨rfl,?_⟩;rw[Zk]at hp';rw[Ar hp' hs hu hm,Z3];rfl
 refine sorted.mono λ v st' h=>?_;obtain⟨rfl,rfl⟩:=h;refine P5 H.O Zju.2 λ n=>P4 ⟨by show 2<=sizeLine;decide,?_⟩;rw[H.kd,H.bnd];refine Aa (by decide +kernel) (by decide +kernel) λ D=>?_;rw[Zm1];refine Qwq (B6 W c n D) H Zbl (by decide +kernel) (by rw[Zjk];decide +kernel) ?_;rw[Zbn,Qp3,Zjk];refine Qjp (p:=p) (r:=mk r) (ns:=N.map sg) H N [] _ ?_ (by rw[Y7];exact h62) (by rw[Y7];lia) (Gk.refl _) λ loc' hs=>⟨rfl,hs "tied" (.ext n) (Zjm ..),?_⟩
 .rw[Y7];exact hu.imp λ h=>Zj h
 .have hs':=hs.set "tied" (Tu W (tV (Vc Xb Xg N)));rw[Zmz]at hs';exact(Qv6 H hr hN hm hw hk _ hs').go⟩
end
noncomputable def Ih (U r:List Nat):Bool:=fd Xb Xg U 8 r
structure wI (U:List Nat)(b:Bool)(n:Nat)(st:Q4):Prop where
 h:∃ws j,st=[(ss ws,j)]/\Hf ws<=n/\n<=9^7/\(∀w∈ws,w.length<=7/\∀c∈w,c∈U)/\ws.any (Ih U)=b
theorem Zmj (p r:Str)(ns:List V)(d:V):Gh p r ns d []=faL p []++(((("row":Str),V.str r)::("names",.list ns)::("tied",d)::[]:Loc)):=by kernel_rfl
section
variable {W:Qj}{c:Cx}{P:Params}{p:Str}{U:List Nat}{K:KF}
theorem Qbr (H:Vl W F1 (Z9 25) [] c)(hK:W.K=KL P)(hd:c.dr=true)(hU:U.Pairwise (· < ·))(hU3:U.length<=3)(h62:62∉U){b:Bool}{n:Nat}{rr:List (List Nat)}{r:List Nat}{j:Nat}
  (hn:Hf (rr++[r])<=n) (hn9:n<=9^7) (hw:∀w∈rr++[r],w.length<=7/\∀c∈w,c∈U) (hb:(rr++[r]).any (Ih U)=b) (hk:b=true->∀loc st,K (.ret (.bool true)) loc st):
  XB W c (wB (sN 25 1)) (faL p []) [(ss (rr++[r]),j)] (Bo (λ loc' st'=>Gk (faL p []) loc'/\∃m,m<n/\wI U b m st') K):=by
 obtain⟨hr,hrU⟩:=hw r (by simp);have len:rr.length+1<=9^7:=by
  have:=Qub (rr++[r]);rw[Q8,Zw]at this;lia
 have p97:(9:Nat)^7=4782969:=by decide
 rw[Zja];refine Zp (Xk (λ loc' st'=>XB W c [gS 1,gS 2,gS 3,gS 4,gS 5] loc' st' _) _) ⟨?_⟩ λ J J J q=>q;rw[Zm4];refine Af H.O H.ch (Ek (t:="row") (px:=g0.1) H.O.ek (by rw[H.kd];exact Zm3)) (by rw[H.kd,H.bnd];exact Xm (by decide +kernel))
  (Fa.pop0 H.O (by kernel_rfl) (by decide) (by decide) (n:=0) (r:=ss rr) (y:=.str (mk r)) (m:=j) rfl (by rw[Qj0];rfl) (by unfold ss;rw[Q6];lia) ?_)
 rw[Zm5];show XB W c _ (roL p (mk r) []) [(ss rr,j+1)] _;refine Qk (owns:=["waiting"]) H ?_;have e0:("":Str)=mk []:=by decide +kernel
 rw[Zm2,e0,Lf];rw[List.any_append,List.any_cons,List.any_nil,Bool.or_false]at hb;cases r with
 |nil=>
  have hb':b=true:=by rw[<- hb];show(rr.any (Ih U)||fd Xb Xg U 8 [])=true;rw[show fd Xb Xg U 8 []=true from rfl,Bool.or_true]
  exact hk hb' _ _
 |cons a l=>
  have h0:a::l≠[]:=by simp
  generalize a::l=r at*;have rb:(r==[])=false:=Ql.mpr h0;rw[rb];show XB W c [gS 2,gS 3,gS 4,gS 5] (roL p (mk r) []) [(ss rr,j+1)] _;have hm:∀c,c∈Vb U r↔c∈r:=λ c=>U0.trans ⟨λ h=>h.2,λ h=>⟨hrU c h,h⟩⟩;refine Qba H hK hd hr h0 (Q1 (Kg U r) hU3) hm (List.Pairwise.filter _ hU) (λ h=>h62 (U0.mp h).1) (ws:=rr) (by lia) λ loc j' hs=>?_;refine⟨λ y u e=>hs y u (by rw[Zmj];exact Gk.app _ _ y u e),Hf (rr++Uy Xb Xg (Vb U r) r),?_,⟨_,j',rfl,Q2 _,?_,λ w hw'=>?_,?_⟩⟩
  .exact Qg (Ah h0 (Oy hU3) (λ w hw=>(Vo hU3 hw).1) rr) hn
  .exact Nat.le_of_lt (Qg (Ah h0 (Oy hU3) (λ w hw=>(Vo hU3 hw).1) rr) (Q1 hn hn9))
  .rcases List.mem_append.mp hw' with h |h
   .exact hw w (List.mem_append_left _ h)
   .obtain⟨a1,a2⟩:=Vo hU3 h;exact⟨by lia,λ c hc=>hrU c (a2 c hc)⟩
  .rw[List.any_append,<- hb];show(rr.any (Ih U)||(Uy Xb Xg (Vb U r) r).any (fd Xb Xg U 8))=(rr.any (Ih U)||fd Xb Xg U 8 r);rw[Qt6 hU3 hr h0]
theorem Qyz (H:Vl W F1 (Z9 25) [] c)(hK:W.K=KL P)(hd:c.dr=true)(hU:U.Pairwise (· < ·))(hU3:U.length<=3)(h62:62∉U){w:List Nat}(hw:w.length<=7)(hwU:∀c∈w,c∈U)(hk:∀loc st,K (.ret (.bool (Ih U w))) loc st):
  XB W c (fB (stN 25)) [("pattern",.str (mk w))] [] K:=by
 rw[Qtq];refine Qk (owns:=["waiting"]) H ?_;rw[Zmu];refine⟨by show 1<=sizeLine;decide,?_⟩;show XB W c [sN 25 1,sN 25 2] (faL (mk w) []) [(ss [w],0)] K;have p97:(9:Nat)^w.length<=9^7:=Nat.pow_le_pow_right (by decide) hw;have kk:Ih U w=true->∀loc st,K (.ret (.bool true)) loc st:=λ e loc st=>e▸hk loc st;refine Zp (Xk (λ loc' st'=>XB W c [sN 25 2] loc' st' K) K) (Qyl H H.bnd Zmw (faL (mk w) []) (wI U (Ih U w)) (9^w.length) ⟨[w],0,rfl,Q2 _,p97,λ v hv=>?_,?_⟩ (Gk.refl _) λ n st hI=>?_) λ J J J q=>q
 .rw[Q3.mp hv];exact⟨hw,hwU⟩
 .rw[List.any_cons,List.any_nil,Bool.or_false]
 .obtain⟨ws,j,rfl,hn,hn9,hws,hb⟩:=hI.h;rw[Zmv]
  rcases List.eq_nil_or_concat ws with rfl |⟨rr,r,rfl⟩
  .refine .inl ⟨rfl,rfl,?_⟩;rw[Zo];intro loc hs;show XB W c [sN 25 2] loc _ K;refine XB.fewer ?_ H.bnd hs;refine Qk (owns:=["waiting"]) H ?_;rw[Zmy];have hb:false=Ih U w:=hb;have:=hk (faL (mk w) []) [(ss [],j)];rw[<- hb]at this;exact this
  .rw[List.concat_eq_append]at*;refine .inr ⟨by rw[Qj0];simp[ss],?_⟩;rw[Zi];exact Qbr H hK hd hU hU3 h62 hn hn9 hws hb λ e loc st=>kk e loc st
end
end
end Mine
namespace Mine
noncomputable def Qqd (n1 n2 n3:Nat)(e:E6):List Nat:=E6.casesOn e (Xb n1) (Xg n1) (Xb n2) (Xg n2) (Xb n3) (Xg n3)
theorem Qtu {n1 n2 n3:Nat}(h0:62<n1)(h12:n1<n2)(h23:n2<n3)(a b:E6)(h:Qqd n1 n2 n3 a=Qqd n1 n2 n3 b):a=b:=by
 have h:(Qqd n1 n2 n3 a).headD 0=(Qqd n1 n2 n3 b).headD 0/\(Qqd n1 n2 n3 a).getLastD 0=(Qqd n1 n2 n3 b).getLastD 0:=by rw[h];exact⟨rfl,rfl⟩
 cases a <;> cases b <;> first |rfl |(exfalso;obtain⟨h1,h2⟩:=h;simp[Qqd,Xb,Xg]at h1 h2;lia)
theorem Zq8 {n1 n2 n3:Nat}(h0:62<n1)(h12:n1<n2)(h23:n2<n3):Zxo Ko L3 Xb Xg (leK n1 n2 n3) (Qqd n1 n2 n3) where
 l a b:=by
  cases e:a==b with
  |true=>rw[eq_of_beq e];exact Qt _
  |false=>
   refine Ql.mpr λ h=>?_
   have:a=b:=by cases a <;> cases b <;> first |rfl |(exfalso;simp[leK]at h;lia)
   rw[this,Qt]at e;cases e
 m a b:=by
  cases e:a==b with
  |true=>rw[eq_of_beq e];exact Qt _
  |false=>
   refine Ql.mpr λ h=>?_;rw[Qtu h0 h12 h23 a b h,Qt]at e;cases e
 r a:=by cases a <;> rfl
 f a:=by cases a <;> rfl
theorem Zq9 {n1 n2 n3:Nat}(p:List Nat)(h:∀c∈p,c=n1\/c=n2\/c=n3):∃w:List K3,w.map (leK n1 n2 n3)=p:=by
 induction p with
 |nil=>exact⟨[],rfl⟩
 |cons c p ih=>
  obtain⟨w,rfl⟩:=ih λ c hc=>h c (.tail _ hc)
  rcases h c (.head _) with rfl |rfl |rfl
  .exact⟨.x::w,rfl⟩
  .exact⟨.y::w,rfl⟩
  .exact⟨.z::w,rfl⟩
theorem Qsm {w:List K3}(h0:w≠[])(h:w.length<=7):Qvs w=fdK 8 w:=by
 have:=Qd5 w h;cases w with
 |nil=>exact absurd rfl h0
 |cons a w=>
  have:cond (Qvs (a::w)) (fdK 8 (a::w)) (cond (fdK 8 (a::w)) false true)=true:=this
  cases h1:Qvs (a::w) <;> cases h2:fdK 8 (a::w) <;> rw [h1,h2]at this <;> first |rfl |cases this
theorem Qmm {n1 n2 n3:Nat}(h0:62<n1)(h12:n1<n2)(h23:n2<n3){p:List Nat}(hp:∀c∈p,c=n1\/c=n2\/c=n3)(p0:p≠[])(p7:p.length<=7):Dg n1 n2 n3 LN p=Ih [n1,n2,n3] p:=by
 obtain⟨w,rfl⟩:=Zq9 p hp;rw[Q6]at p7;have w0:w≠[]:=λ e=>p0 (by rw[e];rfl);rw[Qdk (Zj h12) (Zj (Nat.lt_trans h12 h23)) (Zj h23),Qsm w0 p7,Qa7];exact(Qa6 (Zq8 h0 h12 h23) [.x,.y,.z] 8 w).symm
theorem Qp2 {U U' r:List Nat}(hU:U.Pairwise (· < ·))(hU':U'.Pairwise (· < ·))(h:∀c∈r,c∈U/\c∈U'):Vb U r=Vb U' r:=
 An (hU.filter _) (hU'.filter _) λ c=>⟨λ q=>U0.mpr ⟨(h c (U0.mp q).2).2,(U0.mp q).2⟩,λ q=>U0.mpr ⟨(h c (U0.mp q).2).1,(U0.mp q).2⟩⟩
theorem Qt5 {U U':List Nat}(hU3:U.length<=3)(hU:U.Pairwise (· < ·))(hU':U'.Pairwise (· < ·))(n:Nat):∀r:List Nat,(∀c∈r,c∈U/\c∈U')->fd Xb Xg U n r=fd Xb Xg U' n r:=by
 induction n with
 |zero=>exact λ J J=>rfl
 |succ n ih=>
  intro r h;show(r.isEmpty||(Uy Xb Xg (Vb U r) r).any (fd Xb Xg U n))=(r.isEmpty||(Uy Xb Xg (Vb U' r) r).any (fd Xb Xg U' n));rw[<- Qp2 hU hU' h]
  congr 1
  exact R1 λ w hw=>ih w λ c hc=>h c ((Vo hU3 hw).2 c hc)
theorem Qvl {U p:List Nat}(hU:U.Pairwise (· < ·))(hU3:U.length<=3)(hl:∀c∈U,62<c/\c<120)(hp:∀c∈p,c∈U)(p0:p≠[])(p7:p.length<=7):Et LN p (Vb U p)=Ih U p:=by
 have hN:(Vb U p).Pairwise (· < ·):=hU.filter _;have hm:∀c,c∈Vb U p↔c∈p:=λ c=>U0.trans ⟨λ h=>h.2,λ h=>⟨hp c h,h⟩⟩;have h3:(Vb U p).length<=3:=Q1 (Kg U p) hU3;have h62:∀c∈Vb U p,62<c/\c<120:=λ c hc=>hl c (U0.mp hc).1;have fin:∀n1 n2 n3:Nat,62<n1->n1<n2->n2<n3->(∀c∈Vb U p,c=n1\/c=n2\/c=n3)->Dg n1 n2 n3 LN p=Ih U p:=λ n1 n2 n3 a b d h=>by
  rw[Qmm a b d (λ c hc=>h c ((hm c).mpr hc)) p0 p7];refine(Qt5 hU3 hU ?_ 8 p λ c hc=>⟨hp c hc,?_⟩).symm
  .refine .cons (λ x hx=>?_) (.cons (λ x hx=>?_) (.cons (λ x hx=>nomatch hx) .nil))
   .rcases Qx.mp hx with rfl |hx
    .exact b
    .rw[Q3.mp hx];exact Nat.lt_trans b d
   .rw[Q3.mp hx];exact d
  .rcases h c ((hm c).mpr hc) with rfl |rfl |rfl
   .exact .head _
   .exact .tail _ (.head _)
   .exact .tail _ (.tail _ (.head _))
 generalize Vb U p=N at*
 match N,hN,h3,h62,fin with
 |[],_,_,_,_=>
  obtain⟨a,ha⟩:=List.exists_mem_of_ne_nil p p0;exact nomatch (hm a).mpr ha
 |[a],_,_,h62,fin=>
  have ha:=h62 a (.head _);exact fin a 120 121 ha.1 ha.2 (by decide) λ c hc=>.inl (Q3.mp hc)
 |[a,b],hN,_,h62,fin=>
  have ha:=h62 a (.head _);have hb:=h62 b (.tail _ (.head _));exact fin a b 120 ha.1 ((List.pairwise_cons.mp hN).1 b (.head _)) hb.2 λ c hc=>by simp at hc;exact hc.imp id .inl
 |[a,b,d],hN,_,h62,fin=>
  have ha:=h62 a (.head _);obtain⟨u1,u2⟩:=List.pairwise_cons.mp hN;exact fin a b d ha.1 (u1 b (.head _)) ((List.pairwise_cons.mp u2).1 d (.head _)) λ c hc=>by simpa using hc
 |_::_::_::_::_,_,h3,_,_=>exact absurd h3 (by simp)
end Mine
namespace Mine
open PySem PySem.W PySem.Calls PyProof.Rows
section
open Builtin Builtin.Str
def Qj3 (vs:List V)(k:V->Prop):Prop:=∃m:Nat,vs=[.str (mk Ut),.int (m:Nat)]/\m<7/\k (.bool true)
def Qhp (vs:List V)(k:V->Prop):Prop:=
 ∃ns:List Int,vs=[.list (ns.map V.int)]/\∀a b c:Nat,a<1000000->b<1000000->c<1000000->k (.list [.int a,.int b,.int c])
noncomputable def F2:Fs:=⟨("_law_drawn",Qhp)::("_law_readings",Qby)::("_law_row",Qne)::("_law_typed",Ht)::("_law_prepared",Qj2)::("_law_dots",Qj3)::("parse229",Qbb)::F1.sp,F1.gl,none⟩
section
variable {W:Qj}{P:Params}
theorem Qhm (hK:W.K=KL P)(room:Nat)(vs:List V)(k:V->Prop)(h:Qj3 vs k)(c:Cx)(l:Lay)(loc:Loc)(st:Q4)(s:Shared)(ws:List Value)(Q:Value->Shared->Prop)(E:Value->Shared->Prop)(O:Ok W c)(hr:c.room=room+2)(hR:R c l loc st s)(hv:Y0 l s.heap vs ws)
  (hQ:∀v w s',Keeps s s'->VR l s'.heap v w->k v->Q w s'):wpAny (model W.prog W.w) c.A (call (.ref 186) ws) Q E s:=by
 obtain⟨m,rfl,h1,h2⟩:=h;refine Zjr hK (ps:=["text","k"]) (vs:=[.str (mk Ut),.int m]) (bnd:=[]) (k:=k) (d:=2) (Zjd P) (by kernel_rfl) (by kernel_rfl) (by kernel_rfl) (λ s ws h=>?_) (Lc hK room) rfl rfl (Jk rfl)
  (λ c' H=>Qgx H h1 λ loc=>⟨_,rfl,rfl,h2⟩) c l loc st s ws Q E O hr hR hv hQ
 obtain⟨a,b,rfl⟩:=Lk h;exact Ze (by kernel_rfl)
theorem Qgn (hK:W.K=KL P)(room:Nat){p line N:List Nat}(hN:Qf7 p N)(hl:line.length<=7)(hp:p.length<=7)(h46:46∉line)(c:Cx)(l:Lay)(loc:Loc)(st:Q4)(s:Shared)(ws:List Value)(Q:Value->Shared->Prop)(E:Value->Shared->Prop)(O:Ok W c)(hr:c.room=room+2)(hR:R c l loc st s)(hv:Y0 l s.heap [.str (mk p),.str (mk line)] ws)
  (hQ:∀w s',M7 true s s'->VR l s'.heap (.bool (Et line p N)) w->Q w s'):wpAny (model W.prog W.w) c.A (call (.ref 191) ws) Q E s:=by
 refine Qx0 true hK (ps:=["pattern","line"]) (vs:=[.str (mk p),.str (mk line)]) (bnd:=[]) (k:=λ v=>v=.bool (Et line p N)) (d:=2) (Qa5 P) (by kernel_rfl) (by kernel_rfl) (by kernel_rfl) (λ s ws h=>?_) (Lc hK room) rfl rfl (Jk rfl)
  (λ c' H hd=>Qdx H hK hd hN hl hp h46 λ loc=>⟨_,rfl,rfl,rfl⟩) c l loc st s ws Q E O hr hR hv λ v w s' kd vr e=>hQ w s' kd (e▸vr)
 obtain⟨a,b,rfl⟩:=Lk h;exact Ze (by kernel_rfl)
theorem Qxj (hK:W.K=KL P)(room:Nat){U p:List Nat}(hU:U.Pairwise (· < ·))(hU3:U.length<=3)(h62:62∉U)(hp:p.length<=7)(hpU:∀c∈p,c∈U)(c:Cx)(l:Lay)(loc:Loc)(st:Q4)(s:Shared)(ws:List Value)(Q:Value->Shared->Prop)(E:Value->Shared->Prop)(O:Ok W c)(hr:c.room=room+2)(hR:R c l loc st s)(hv:Y0 l s.heap [.str (mk p)] ws)
  (hQ:∀w s',M7 true s s'->VR l s'.heap (.bool (Ih U p)) w->Q w s'):wpAny (model W.prog W.w) c.A (call (.ref 196) ws) Q E s:=by
 refine Qx0 true hK (ps:=["pattern"]) (vs:=[.str (mk p)]) (bnd:=[]) (k:=λ v=>v=.bool (Ih U p)) (d:=2) (Qpd P) (by kernel_rfl) (by kernel_rfl) (by kernel_rfl) (λ s ws h=>?_) (Lc hK room) rfl rfl (Jk rfl)
  (λ c' H hd=>Qyz H hK hd hU hU3 h62 hp hpU λ loc st=>⟨_,rfl,rfl,rfl⟩) c l loc st s ws Q E O hr hR hv λ v w s' kd vr e=>hQ w s' kd (e▸vr)
 obtain⟨a,rfl⟩:=Bp h;exact Ze (by kernel_rfl)
theorem Qa1 (hK:W.K=KL P):R9 W F2 3 where
 gl:=(Xe hK 3).gl
 bi:=(Xe hK 3).bi
 isi:=(Xe hK 3).isi
 hk:=λ J e=>nomatch e
 sp:=Xa ⟨150,by rw[hK];kernel_rfl,by rw[hK];kernel_rfl,λ vs k ⟨ns,e,h⟩=>Qbw hK 2 vs k ns e h⟩ <|
  Xa ⟨157,by rw[hK];kernel_rfl,by rw[hK];kernel_rfl,Qhu hK 1⟩ <|
  Xa ⟨162,by rw[hK];kernel_rfl,by rw[hK];kernel_rfl,Qs0 hK 2⟩ <|
  Xa ⟨169,by rw[hK];kernel_rfl,by rw[hK];kernel_rfl,Qbx hK 2⟩ <|
  Xa ⟨174,by rw[hK];kernel_rfl,by rw[hK];kernel_rfl,Qhb hK 1⟩ <|
  Xa ⟨186,by rw[hK];kernel_rfl,by rw[hK];kernel_rfl,Qhm hK 1⟩ <|
  Xa ⟨58,by rw[hK];kernel_rfl,by rw[hK];kernel_rfl,Qs1 hK 2⟩ <|
  Xa ⟨79,by rw[hK];kernel_rfl,by rw[hK];kernel_rfl,Qni hK 2⟩ <|
  Xa ⟨72,by rw[hK];kernel_rfl,by rw[hK];kernel_rfl,Qns hK 2⟩ <|
  Xa ⟨65,by rw[hK];kernel_rfl,by rw[hK];kernel_rfl,Qbv hK 2⟩ <|
  Xa ⟨97,by rw[hK];kernel_rfl,by rw[hK];kernel_rfl,Qna hK 2⟩ <|
  Xa ⟨143,by rw[hK];kernel_rfl,by rw[hK];kernel_rfl,Qnr hK 2⟩ Qbk
end
noncomputable abbrev kL:Kd:=Z9 26
def L0 (j:Nat)(loc:Loc)(st:Q4)(K:KF):Prop:=rd F2 [] kL [] (sN 26 j) loc st K
abbrev Tz (W:Qj)(c:Cx):Prop:=Vl W F2 kL [] c
noncomputable def la0 (sv:V)(s p d:Nat)(mo:Loc):Loc:=("script",sv)::("shape",.int s)::("pick",.int p)::("dress",.int d)::mo
noncomputable def la1 (sv:V)(s p d:Nat)(ln:Str)(mo:Loc):Loc:=la0 sv s p d (("line",.str ln)::mo)
noncomputable def la2 (sv:V)(s p d:Nat)(ln:Str)(fs:List V)(mo:Loc):Loc:=la1 sv s p d ln (("figures",.list fs)::mo)
noncomputable def la3 (sv:V)(s p d:Nat)(ln:Str)(fs rw:List V)(mo:Loc):Loc:=la2 sv s p d ln fs (("row",.list rw)::mo)
noncomputable def la4 (sv:V)(s p d:Nat)(ln:Str)(fs rw:List V)(hd:Str)(mo:Loc):Loc:=la3 sv s p d ln fs rw (("hidden",.str hd)::mo)
noncomputable def la5 (sv:V)(s p d:Nat)(ln:Str)(fs rw:List V)(hd nm:Str)(mo:Loc):Loc:=la4 sv s p d ln fs rw hd (("name",.str nm)::mo)
noncomputable def la6 (sv:V)(s p d:Nat)(ln:Str)(fs rw:List V)(hd nm rp:Str)(mo:Loc):Loc:=la5 sv s p d ln fs rw hd nm (("reply",.str rp)::mo)
noncomputable def Ig (sv:V)(s p d:Nat)(ln:Str)(fs rw:List V)(hd nm rp:Str)(rs:List V)(mo:Loc):Loc:=la6 sv s p d ln fs rw hd nm rp (("replies",.list rs)::mo)
structure LB where
 sv:V
 s:Nat
 p:Nat
 d:Nat
 ln:Str
 fs:List V
 rw:List V
 hd:Str
 nm:Str
 rp:Str
 rs:List V
 ma:Str
noncomputable def lb (b:LB)(n:Int)(mo:Loc):Loc:=Ig b.sv b.s b.p b.d b.ln b.fs b.rw b.hd b.nm b.rp b.rs (("mark",.str b.ma)::("port",.int n)::mo)
noncomputable def lfg (b:LB)(n:Int)(f:V)(mo:Loc):Loc:=lb b n (("figure",f)::mo)
noncomputable def lh (b:LB)(n:Int)(f h:V)(mo:Loc):Loc:=lfg b n f (("heard",h)::mo)
noncomputable def lo (b:LB)(n:Int)(f h:V)(w:Array UInt8)(mo:Loc):Loc:=lh b n f h (("word",.bytes w)::mo)
variable (sv:V)(s p d:Nat)(ln:Str)(fs rw:List V)(hd nm rp:Str)(rs:List V)(b:LB)(n m:Int)(f h:V)(w:Array UInt8)(pt:Str)(K:KF)
theorem Zul (xs:List V):L0 0 [("script",.list xs)] [] K=(∃ns:List Int,[V.list xs]=[.list (ns.map V.int)]/\∀a b c:Nat,a<1000000->b<1000000->c<1000000->K .next (la0 (.list xs) a b c []) []):=by kernel_rfl
noncomputable def joA (e:Expr):Expr:=nv e [1]
noncomputable def lc1:Expr:=joA (wT (sN 26 1))
theorem Zun:L0 1 (la0 sv s p d []) [] K=rdC F2 38 kL lc1 [] [.int 1,.int 2,.int 3,.int 4,.int 5,.int 6,.int 7] [("dress",.int d)] λ acc=>m1V .join (.str "") [drf [] (.list acc)] λ v=>K .next (Yx (la0 sv s p d []) "line" v) []:=by kernel_rfl
theorem Zzg (k:Int)(acc:List V)(q:List V->Prop):rdI F2 38 kL lc1 [] (.int k) [("dress",.int d)] acc q=((2:Int)≠0/\IntMulOk 8 (Int.fmod d 2)/\∃n:Nat,[V.int (k+8*Int.fmod d 2)]=[.int (n:Nat)]/\n<16/\
  (Txt.charAt "filx" (Fh n:Nat)).elim False λ c=>X5 (fitsSsize (Fh n:Nat)) (X5 (decide (acc.length<16777216)) (q (acc++[.str ⟨#[c]⟩])))):=by kernel_rfl
theorem Zzf:(Jw lc1).length=1:=by kernel_rfl
theorem Zut:L0 2 (la1 sv s p d ln []) [] K=((5:Int)≠0/\(5:Int)≠0/\Builtin.divisionGoesByPylong p 5=false/\(5:Int)≠0/\(25:Int)≠0/\Builtin.divisionGoesByPylong p 25=false/\(5:Int)≠0/\
  K .next (la2 sv s p d ln [.int (1+Int.fmod p 5),.int (6+Int.fmod (Int.fdiv p 5) 5),.int (11+Int.fmod (Int.fdiv p 25) 5)] []) []):=by kernel_rfl
noncomputable def lc3:Expr:=wT (sN 26 3)
theorem Zzm:(Jw lc3).length=1:=by kernel_rfl
noncomputable def pfL (p:Nat)(fs:List V):Loc:=[("pick",.int p),("figures",.list fs)]
noncomputable def it3:Expr:=(Jw lc3).head!.iter
theorem Zzp:L0 3 (la2 sv s p d ln fs []) [] K=Gi F2 kL it3 (la2 sv s p d ln fs []) [] λ v=>Xv (drf [] v) λ xs=>rdC F2 40 kL lc3 [] xs (pfL p fs) λ acc=>K .next (la3 sv s p d ln fs acc []) []:=by kernel_rfl
theorem Zzu (q:V->Prop):Gi F2 kL it3 (la2 sv s p d ln fs []) [] q=(∃(n:Nat) (w:List Nat),[V.int s,.str "fiflfif"]=[.int (n:Nat),.str (mk w)]/\2<=w.length/\w.length<=100/\∀l,Qzx l->q (.list (l.map nI))):=by kernel_rfl
theorem Zzb (k:Int)(acc:List V)(q:List V->Prop):rdI F2 40 kL lc3 [] (.int k) (pfL p fs) acc q=((125:Int)≠0/\Builtin.divisionGoesByPylong p 125=false/\(3:Int)≠0/\Qqz fs (Int.fmod (k+Int.fdiv p 125) 3) λ v=>X5 (decide (acc.length<16777216)) (q (acc++[v]))):=by kernel_rfl
noncomputable def Qf0:List V:=b1L.map λ n=>.int (n:Nat)
theorem Zud:L0 4 (la3 sv s p d ln fs rw []) [] K=
  (Builtin.Range.small 65024 65040 1=true/\0<=Builtin.Range.rangeSize 65024 65040 1/\(Builtin.Range.rangeSize 65024 65040 1).toNat<=2^24/\11+16<=sizeLine/\(27:Int)≠0/\
   (Ge Qf0 (Int.fmod d 27)).elim False λ v=>X5 (decide (-(2^63)<=Int.fmod (d:Int) 27)) <| X5 (decide (Int.fmod (d:Int) 27<2^63)) <| b1V .chr [drf [] v] λ u=>K .next (la3 sv s p d ln fs rw [("hidden",u)]) []):=by kernel_rfl
variable (sv:V)(s p d:Nat)(ln:Str)(fs rw:List V)(hd nm rp:Str)(rs:List V)(b:LB)(n m:Int)(f h:V)(w:Array UInt8)(pt:Str)(K:KF)
noncomputable def bL1 (e:Expr):Expr:=nv e [0]
noncomputable def lc5:Expr:=joA (joA (bL1 (bL1 (bL1 (wT (sN 26 5))))))
theorem Zuh:L0 5 (la4 sv s p d ln fs rw hd []) [] K=rdC F2 34 kL lc5 [] rw [] λ acc=>m1V .join (.str "") [drf [] (.list acc)] λ v=>Ht [drf [] v,.int d,.str hd] λ a=>Ks .Add (drf [] a) (.str "\"") λ e=>Ks .Add (drf [] e) (.str hd) λ e2=>
  ((16:Int)≠0/\Builtin.divisionGoesByPylong d 16=false/\Ht [.str "fiflfif",.int (Int.fdiv d 16),.str hd] λ g=>Ks .Add (drf [] e2) (drf [] g) λ u=>K .next (Yx (la4 sv s p d ln fs rw hd []) "name" u) []):=by kernel_rfl
theorem Zzv (k:Int)(acc:List V)(q:List V->Prop):rdI F2 34 kL lc5 [] (.int k) [] acc q=(0<=97+k/\97+k<=1114111/\X5 (decide (acc.length<16777216)) (q (acc++[.str ⟨#[(97+k).toNat]⟩]))):=by kernel_rfl
theorem Zzy:(Jw lc5).length=1:=by kernel_rfl
theorem Zuf:L0 6 (la5 sv s p d ln fs rw hd nm []) [] K=(nm.length+(nm.length+1)*("\"\"":Str).length<=16777216/\("257 \"":Str).length+(Txt.replace nm "\"" "\"\"").length<=sizeLine/\("257 \""++Txt.replace nm "\"" "\"\"").length+("\"":Str).length<=sizeLine/\
  K .next (la6 sv s p d ln fs rw hd nm ("257 \""++Txt.replace nm "\"" "\"\""++"\"") []) []):=by kernel_rfl
noncomputable def cdF (d:Nat):Int:=100+Int.fmod (158+Int.fmod (d:Int) 899) 900
theorem Zug:L0 7 (la6 sv s p d ln fs rw hd nm rp []) [] K=((4:Int)≠0/\Qqz [.str "",.str "h",.str "p\"",.str " h p"] (Int.fmod d 4) λ v=>Ks .Add (.str rp) (drf [] v) λ x=>
  (rp.length<=sizeLine/\rp.length<=sizeLine/\("257-":Str).length+(Txt.slice rp (some 4) none).length<=sizeLine/\rp.length<=sizeLine/\("257  ":Str).length+(Txt.slice rp (some 5) none).length<=sizeLine/\(899:Int)≠0/\(900:Int)≠0/\(cdF d).natAbs.log2<1920/\rp.length<=sizeLine/\
   (Str.ofString (toString (cdF d))).length+(Txt.slice rp (some 3) none).length<=sizeLine/\
   K .next (Ig sv s p d ln fs rw hd nm rp [x,.str (Txt.slice rp none (some (-1))),.str ("257-"++Txt.slice rp (some 4) none),.str ("257  "++Txt.slice rp (some 5) none),.str (Str.ofString (toString (cdF d))++Txt.slice rp (some 3) none)] []) [])):=by kernel_rfl
theorem Zzr:L0 10 (Ig sv s p d ln fs rw hd nm rp rs []) [] K=((4:Int)≠0/\(Txt.charAt "|!~z" (Int.fmod d 4)).elim False λ c=>X5 (fitsSsize (Int.fmod d 4)) (K .next (lb ⟨sv,s,p,d,ln,fs,rw,hd,nm,rp,rs,⟨#[c]⟩⟩ 0 []) [])):=by kernel_rfl
theorem Qrw:sN 26 11=.For (.Name (wN (sN 26 11)) (Mq (sN 26 11))) (wT (sN 26 11)) (wB (sN 26 11)) [] (wP (sN 26 11)):=by kernel_rfl
theorem Qrx:wN (sN 26 11)="figure":=by kernel_rfl
theorem Qrk (q:V->Prop):Gi F2 kL (wT (sN 26 11)) (lb b n []) [] q=q (.list b.rw):=by kernel_rfl
theorem Qp0 (k:Int):rds F2 [] kL [] (wB (sN 26 11)) (lfg b n (.int k) []) [] K=(IntMulOk 16 n/\K .next (lfg b (16*n+k) (.int k) []) []):=by kernel_rfl
theorem Qry (u:V):Yx (lb b n []) "figure" u=lfg b n u []:=by kernel_rfl
theorem Qrv (u:V):Yx (lfg b n f []) "figure" u=lfg b n u []:=by kernel_rfl
theorem Zzs:L0 12 (lfg b n f []) [] K=(MulOk b.ma 3/\("229 h) (":Str).length+(Txt.mul b.ma 3).length<=sizeLine/\n.natAbs.log2<1920/\("229 h) ("++Txt.mul b.ma 3).length+(Str.ofString (toString n)).length<=sizeLine/\
  ("229 h) ("++Txt.mul b.ma 3++Str.ofString (toString n)).length+b.ma.length<=sizeLine/\("229 h) ("++Txt.mul b.ma 3++Str.ofString (toString n)++b.ma).length+(") ()":Str).length<=sizeLine/\
  Qbb [.str ("229 h) ("++Txt.mul b.ma 3++Str.ofString (toString n)++b.ma++") ()"),.tuple [.str "h",.str "p"]] λ v=>K .next (Yx (lfg b n f []) "heard" v) []):=by kernel_rfl
noncomputable def orP (s:Stmt):List Expr×List Stmt×Pos×Pos:=(chE (wT s),wB s,(wT s).pos,wP s)
noncomputable def cmQ (e:Expr):Expr×Expr×Pos:=(nv e [0],nv e [1],e.pos)
noncomputable def i13:List Expr×List Stmt×Pos×Pos:=orP (sN 26 13)
noncomputable def o13 (j:Nat):Expr:=(i13.1[j]?).getD default
theorem Zzc:sN 26 13=.If (.BoolOp .Or [.Compare (cmQ (o13 0)).1 [.NotEq] [(cmQ (o13 0)).2.1] (cmQ (o13 0)).2.2,o13 1] i13.2.2.1) i13.2.1 [] i13.2.2.2:=by kernel_rfl
theorem Qrj:behindInMarks .NotEq (cmQ (o13 0)).2.1=false:=by kernel_rfl
theorem Qrq (q:V->Prop):Gi F2 kL (cmQ (o13 0)).1 (lh b n f h []) [] q=q h:=by kernel_rfl
theorem Qr9 (q:V->Prop):Gi F2 kL (cmQ (o13 0)).2.1 (lh b n f h []) [] q=q (.tuple [.str "h",.int n]):=by kernel_rfl
theorem Qrz (q:Bool->Prop):Ot F2 kL (o13 1) (lh b n f (.tuple [.str "h",.int m]) []) [] q=q false:=by kernel_rfl
theorem Zzl:L0 14 (lh b n f (.tuple [.str "h",.int m]) []) [] K=(m.natAbs<16^7/\K .next (lo b n f (.tuple [.str "h",.int m]) (apD 7 m.natAbs).toArray []) []):=by kernel_rfl
noncomputable def i15:List Expr×List Stmt×Pos×Pos:=orP (sN 26 15)
noncomputable def o15 (j:Nat):Expr:=(i15.1[j]?).getD default
noncomputable def mlQ (e:Expr):Expr×Pos×Nat×Pos×Pos:=(nv e [0,0],(nv e [0]).pos,kE (nv e [1]),(nv e [1]).pos,e.pos)
noncomputable def Id:Expr×Pos×Nat×Pos×Pos:=mlQ (cmQ (o15 0)).2.1
theorem Zzn:sN 26 15=.If (.BoolOp .Or [.Compare (cmQ (o15 0)).1 [.NotEq] [.BinOp (.List [Id.1] Id.2.1) .Mult (.Constant (.int 2) Id.2.2.1 Id.2.2.2.1) Id.2.2.2.2] (cmQ (o15 0)).2.2,o15 1] i15.2.2.1) i15.2.1 [] i15.2.2.2:=by kernel_rfl
theorem Qr8:(Z8 [Id.1]&&!behindInMarks .NotEq (.BinOp (.List [Id.1] Id.2.1) .Mult (.Constant (.int 2) Id.2.2.1 Id.2.2.2.1) Id.2.2.2.2))=true:=by kernel_rfl
theorem Qr5 (q:V->Prop):Gi F2 kL (cmQ (o15 0)).1 (lo b n f h w []) [] q=((-n).natAbs<16^7/\q (.list [.bytes w,.bytes (apD 7 (-n).natAbs).toArray])):=by kernel_rfl
noncomputable def Qdh:Expr:=joA Id.1
theorem Qr4 (q:V->Prop):Gi F2 kL Id.1 (lo b n f h w []) [] q=rdC F2 38 kL Qdh [] b.rw [] λ acc=>b1V .bytes [.list acc] q:=by kernel_rfl
theorem Qr6 (k:Int)(acc:List V)(q:List V->Prop):rdI F2 38 kL Qdh [] (.int k) [] acc q=X5 (decide (acc.length<16777216)) (q (acc++[.int (65+k)])):=by kernel_rfl
theorem Qr7:(Jw Qdh).length=1:=by kernel_rfl
theorem Qr3 (q:Bool->Prop):Ot F2 kL (o15 1) (lo b n f h w []) [] q=q false:=by kernel_rfl
noncomputable def Qsl:Expr:=joA (wT (sN 26 16))
theorem Zzt:L0 16 (lo b n f h w []) [] K=rdC F2 38 kL Qsl [] (w.toList.map λ c=>.int ((c.toNat:Nat):Int)) [] λ acc=>Qj2 [drf [] (.list acc)] λ v=>K .next (Yx (lo b n f h w []) "pattern" v) []:=by kernel_rfl
theorem Qr1 (k:Int)(acc:List V)(q:List V->Prop):rdI F2 38 kL Qsl [] (.int k) [] acc q=(0<=k/\k<=1114111/\X5 (decide (acc.length<16777216)) (q (acc++[.str ⟨#[k.toNat]⟩]))):=by kernel_rfl
theorem Qr2:(Jw Qsl).length=1:=by kernel_rfl
theorem Zzd:L0 17 (lo b n f h w [("pattern",.str pt)]) [] K=(∃(v:V) (cs:List Nat),[V.str b.nm]=[v]/\(v=.str (mk cs)\/v=.list (cs.map λ c=>.str ⟨#[c]⟩))/\(∀c∈cs,b1 c=true\/Wj c=true)/\cs.length<=1000/\(("\"":Str).length==0)=false/\(mk (U3 cs)).length<=sizeLine/\
   (partsBetween (mk (U3 cs)) (occurrences (mk (U3 cs)) "\"" 0 (mk (U3 cs)).length ((mk (U3 cs)).length+1)) ("\"":Str).length).length<=sizeLine/\
   (((Txt.split (mk (U3 cs)) "\"").map V.str=[.str pt,.str b.ln]/\((Txt.split (mk (U3 cs)) "\"").map V.str).all (deep 5)=true/\K .next (lo b n f h w [("pattern",.str pt)]) [])\/(((Txt.split (mk (U3 cs)) "\"").map V.str).length≠[V.str pt,.str b.ln].length/\K (.ret (.bool false)) (lo b n f h w [("pattern",.str pt)]) []))):=by kernel_rfl
theorem Qn4:∀j:Fin 27,b1 (b1L.getD j.val 0)=true/\b1L.getD j.val 0<=1114111:=by decide
theorem Ny (c:Nat):∀l:List Nat,(StrLaws.dbl c l).length<=2*l.length
 |[]=>Q2 _
 |a::r=>by
  have:=Ny c r;unfold StrLaws.dbl
  split <;> simp <;> lia
theorem Qv8 (l:List Nat):Txt.replace (mk l) "\"" "\"\""=mk (StrLaws.dbl 34 l):=by
 have:=StrLaws.replace_double (mk l) 34;rw[Zk]at this;have e1:("\"":Str)=⟨#[34]⟩:=by decide +kernel
 have e2:("\"\"":Str)=⟨#[34,34]⟩:=by decide +kernel
 rw[e1,e2,<- this,Qmb]
theorem Oi (x y:Str):(partsBetween x (occurrences x y 0 x.length (x.length+1)) y.length).length<=x.length+2:=by
 rw[StrLaws.partsBetween_eq,(B9 x y.length _ 0).1];have:=StrLaws.occ_length_le x y 0 x.length (x.length+1);exact Nat.add_le_add_right ‹_› _
noncomputable def Rx:List (List Nat):=[[],[104],[112,34],[32,104,32,112]]
theorem Lv:∀j:Fin 4,(Rx.getD j.val []).head?≠some 34/\(Rx.getD j.val []).length<=4:=by decide
theorem Quo:∀j:Nat,j<4->([V.str "",.str "h",.str "p\"",.str " h p"]:List V)[j]?=some (.str (mk (Rx.getD j []))):=by
 have e0:("":Str)=mk []:=by decide +kernel
 have e1:("h":Str)=mk [104]:=by decide +kernel
 have e2:("p\"":Str)=mk [112,34]:=by decide +kernel
 have e3:(" h p":Str)=mk [32,104,32,112]:=by decide +kernel
 intro j hj;rw[e0,e1,e2,e3]
 match j,hj with
 | 0,_=>rfl
 | 1,_=>rfl
 | 2,_=>rfl
 | 3,_=>rfl
theorem Zv0:("257 \"":Str)=mk [50,53,55,32,34]:=by decide +kernel
theorem Qlq:("fiflfif":Str)=mk LN:=by decide +kernel
theorem Qmn:∀x∈LN,small x:=by unfold small;decide
theorem Qyq (l:List Nat):(l.map λ c=>[c]).flatten=l:=by
 induction l with
 |nil=>rfl
 |cons a l ih=>rw[Qu,List.flatten_cons,ih];rfl
theorem Qkc {l:List Nat}(hl:l.length<=100){k:V->Prop}(h:k (.str (mk l))):m1V .join (.str "") [.list (l.map λ c=>V.str (mk [c]))] k:=by
 have e:(l.map λ c=>V.str (mk [c]))=((l.map λ c=>[c]).map mk).map V.str:=by rw[Z3,Z3];rfl
 rw[e];refine Yp.mpr ⟨_,Xo _,Nx (B:=1) (λ y hy=>?_) ?_,?_⟩
 .obtain⟨c,hc,rfl⟩:=Qv.mp hy;obtain⟨d,_,rfl⟩:=Qv.mp hc;rw[Qn];exact Q2 1
 .rw[Q6,Q6];lia
 .rw[Qkr,Qyq];exact h
noncomputable def lnF (d:Nat):V->Option V
 |.int k=>some (.str (mk [[102,105,108,120].getD (Fh (k.toNat+8*(d%2))) 0]))
 |_=>none
theorem Qh7:∀e:Fin 2,([1,2,3,4,5,6,7].map λ k=>[102,105,108,120].getD (Fh (k+8*e.val)) 0)=LN:=by decide +kernel
theorem Qh6:∀e:Fin 2,∀k:Fin 8,1<=k.val->Fh (k.val+8*e.val)<4:=by decide +kernel
theorem Qsn (d:Nat):([.int 1,.int 2,.int 3,.int 4,.int 5,.int 6,.int 7]:List V).filterMap (lnF d)=LN.map λ c=>V.str (mk [c]):=by
 rw[<- Qh7 ⟨d%2,Za _ (by decide)⟩,Z3];rfl
theorem Zmk:("filx":Str)=mk [102,105,108,120]:=by decide +kernel
theorem Qmv:∀e:Fin 2,IntMulOk 8 ((e.val:Nat):Int):=by unfold IntMulOk;decide +kernel
section
variable {W:Qj}{c:Cx}{K:KF}{sv:V}{s p d:Nat}{r:List Stmt}
theorem Zva (H:Tz W c){ns:List Int}(h:∀s p d:Nat,XB W c r (la0 (.list (ns.map V.int)) s p d []) [] K):XB W c (sN 26 0::r) [("script",.list (ns.map V.int))] [] K:=by
 refine Qk (owns:=[]) H ?_;show L0 0 _ _ _;rw[Zul];exact⟨ns,rfl,λ a b e J J J=>h a b e⟩
theorem Zvr (H:Tz W c)(h:XB W c r (la1 sv s p d (mk LN) []) [] K):XB W c (sN 26 1::r) (la0 sv s p d []) [] K:=by
 refine Qk (owns:=[]) H ?_;show L0 1 _ _ _;rw[Zun];refine Gz (lnF d) Zzf (λ v hv acc k' ha hk=>?_) ?_
 .have key:∀k:Nat,1<=k->k<8->v=.int (k:Nat)->rdI F2 38 kL lc1 [] v [("dress",.int d)] acc k':=λ k h1 h8 e=>by
   subst e;have t4:Fh (k+8*(d%2))<4:=Qh6 ⟨d%2,Za _ (by decide)⟩ ⟨k,h8⟩ h1;have m2:d%2<2:=Za _ (by decide);rw[Zzg,show Int.fmod (d:Int) 2=((d%2:Nat):Int) from Xf d 2];refine⟨by decide,Qmv ⟨d%2,m2⟩,k+8*(d%2),rfl,by lia,?_⟩;rw[Zmk];have hk:k' (acc++[.str (mk [[102,105,108,120].getD (Fh (k+8*(d%2))) 0])]):=hk;generalize Fh (k+8*(d%2))=t at t4 hk |-;refine Yp.mpr ⟨_,Ux (c:=[102,105,108,120].getD t 0) ?_,Zn (J5 ⟨by lia,by lia⟩) (Zn (Qw (by simp at ha;lia)) hk)⟩;rw[Y9,Q7 (show t < [102,105,108,120].length from t4)];rfl
  simp only[Qx,Zf,or_false]at hv
  rcases hv with rfl |rfl |rfl |rfl |rfl |rfl |rfl
  .exact key 1 (by decide) (by decide) rfl
  .exact key 2 (by decide) (by decide) rfl
  .exact key 3 (by decide) (by decide) rfl
  .exact key 4 (by decide) (by decide) rfl
  .exact key 5 (by decide) (by decide) rfl
  .exact key 6 (by decide) (by decide) rfl
  .exact key 7 (by decide) (by decide) rfl
 .rw[Qsn];exact Qkc (by decide) h
structure Qnx (F:List Nat):Prop where
 h:∃a b e,F=[a,b,e]/\1<=a/\a<=5/\6<=b/\b<=10/\11<=e/\e<=15
variable {ln:Str}
theorem Zvs (H:Tz W c)(h:∀F,Qnx F->XB W c r (la2 sv s p d ln (F.map nI) []) [] K):XB W c (sN 26 2::r) (la1 sv s p d ln []) [] K:=by
 refine Qk (owns:=[]) H ?_;show L0 2 _ _ _;rw[Zut];have e1:Int.fmod (p:Int) 5=((p%5:Nat):Int):=Xf p 5;have e2:Int.fdiv (p:Int) 5=((p/5:Nat):Int):=Gb p 5;have e3:Int.fdiv (p:Int) 25=((p/25:Nat):Int):=Gb p 25;rw[e1,e2,e3,show Int.fmod ((p/5:Nat):Int) 5=((p/5%5:Nat):Int) from Xf _ 5,show Int.fmod ((p/25:Nat):Int) 5=((p/25%5:Nat):Int) from Xf _ 5];refine⟨by decide,by decide,pyl _ (by decide),by decide,by decide,pyl _ (by decide),by decide,?_⟩;have m1:=Za p (show 0<5 by decide);have m2:=Za (p/5) (show 0<5 by decide);have m3:=Za (p/25) (show 0<5 by decide);exact h [1+p%5,6+p/5%5,11+p/25%5] ⟨_,_,_,rfl,by lia,by lia,by lia,by lia,by lia,by lia⟩
structure Zxe (F R:List Nat):Prop where
 mem:∀v∈R,v∈F
 ge:1<=R.length
 le:R.length<=7
noncomputable def roF (F:List Nat)(p:Nat):V->Option V
 |.int k=>some (nI (F.getD ((k.toNat+p/125)%3) 0))
 |_=>none
theorem Zvc (H:Tz W c){F:List Nat}(hF:Qnx F)(h:∀R,Zxe F R->XB W c r (la3 sv s p d ln (F.map nI) (R.map nI) []) [] K):XB W c (sN 26 3::r) (la2 sv s p d ln (F.map nI) []) [] K:=by
 refine Qk (owns:=[]) H ?_;show L0 3 _ _ _;have F3:F.length=3:=by obtain⟨a,b,e,rfl,_⟩:=hF.h;rfl
 rw[Zzp,Zzu];refine⟨s,LN,by rw[Qlq],by decide,by decide,λ l hl=>?_⟩;have e0:∀(xs:List V) (k:List V->Prop),Xv (drf [] (.list xs)) k=k xs:=λ J J=>rfl;rw[e0];refine Gz (roF F p) Zzm (λ v hv acc k' ha hk=>?_) ?_
 .obtain⟨k,hk0,rfl⟩:=Qv.mp hv;show rdI F2 40 kL lc3 [] (.int (k:Nat)) _ _ _;rw[Zzb,show Int.fdiv (p:Int) 125=((p/125:Nat):Int) from Gb p 125,show((k:Nat):Int)+((p/125:Nat):Int)=((k+p/125:Nat):Int) from rfl,show Int.fmod ((k+p/125:Nat):Int) 3=(((k+p/125)%3:Nat):Int) from Xf _ 3];have m3:=Za (k+p/125) (show 0<3 by decide);have hk:k' (acc++[nI (F.getD ((k+p/125)%3) 0)]):=hk;have l7:=hl.le;refine⟨by decide,pyl _ (by decide),by decide,Kf (v:=nI (F.getD ((k+p/125)%3) 0)) ?_ (by lia) (Zn (Qw (by rw[Q6]at ha;lia)) hk)⟩;rw[Z7,Y9,Q7 (show(k+p/125)%3<F.length by rw[F3];exact m3)];rfl
 .have e:(l.map nI).filterMap (roF F p)=(l.map λ k=>F.getD ((k+p/125)%3) 0).map nI:=by
   rw[List.filterMap_map,Z3];exact List.filterMap_eq_map' (f:=λ k=>nI (F.getD ((k+p/125)%3) 0))▸rfl
  rw[e];refine h _ ⟨λ v hv=>?_,by rw[Q6];exact hl.ge,by rw[Q6];exact hl.le⟩;obtain⟨k,_,rfl⟩:=Qv.mp hv;have m3:=Za (k+p/125) (show 0<3 by decide);rw[Y9,Q7 (show(k+p/125)%3<F.length by rw[F3];exact m3)];exact List.getElem_mem _
variable {fs rw:List V}
theorem Zvl (H:Tz W c)(h:∀hc,b1 hc=true->XB W c r (la4 sv s p d ln fs rw (mk [hc]) []) [] K):XB W c (sN 26 4::r) (la3 sv s p d ln fs rw []) [] K:=by
 refine Qk (owns:=[]) H ?_;show L0 4 _ _ _;rw[Zud];have e:Int.fmod (d:Int) 27=((d%27:Nat):Int):=Xf d 27;obtain⟨h1,h2⟩:=Qn4 ⟨d%27,Za _ (by decide)⟩;have hg:Qf0[d%27]?=some (.int ((b1L.getD (d%27) 0:Nat):Int)):=by
  unfold Qf0;rw[Z7,Y9,Q7 (show d%27<b1L.length from Za _ (by decide))];rfl
 rw[e,S5 hg];have hf1:decide (-(2^63)<=((d%27:Nat):Int))=true:=Qw (by exact Qy _);have hf2:decide (((d%27:Nat):Int)<2^63)=true:=Qw (by lia);refine⟨by decide,by decide,by decide,by decide,by decide,?_⟩;rw[hf1,hf2];show 0<=((b1L.getD (d%27) 0:Nat):Int)/\((b1L.getD (d%27) 0:Nat):Int)<=1114111/\_;have h2':b1L.getD (d%27) 0<=1114111:=h2;exact⟨by exact Qy _,by lia,h _ h1⟩
end
noncomputable def C8 (R:List Nat):List Nat:=R.map (97+·)
def fig (R:List Nat):Prop:=∀f∈R,1<=f/\f<=15
theorem Qnx.fig {F R:List Nat}(h:Qnx F)(hR:Zxe F R):fig R:=λ f hf=>by
 obtain⟨a,b,e,rfl,_⟩:=h.h;have:=hR.mem f hf;simp only[Qx,Zf,or_false]at this;lia
theorem C7 {R:List Nat}(h:fig R):∀x∈C8 R,small x:=λ x hx=>by
 obtain⟨f,hf,rfl⟩:=Qv.mp hx;have:=h f hf;unfold small;lia
noncomputable def Uc (l:List Nat):Nat:=l.foldl (λ a x=>16*a+x) 0
theorem Dm (l:List Nat)(x:Nat):Uc (l++[x])=16*Uc l+x:=by simp[Uc]
theorem Km (n:Nat):∀l:List Nat,l.length<=n->fig l->Uc l<16^n:=by
 induction n with
 |zero=>intro l h _;rw[Y8.mp (Nat.le_zero.mp h)];decide
 |succ n ih=>
  intro l h hf
  rcases List.eq_nil_or_concat l with rfl |⟨l,x,rfl⟩
  .exact Nat.pow_pos (by decide)
  .rw[List.concat_eq_append]at*;rw[Q8,Zw]at h;rw[Dm,Nat.pow_succ];have h1:=ih l (by lia) λ f hq=>hf f (List.mem_append_left _ hq);have h2:=hf x (by simp);lia
theorem Qf3 (f:Nat):apD f 0=[]:=by cases f <;> rfl
theorem Qwj (n:Nat):∀l:List Nat,l.length<=n->fig l->apD n (Uc l)=l.map Wv:=by
 induction n with
 |zero=>intro l h _;rw[Y8.mp (Nat.le_zero.mp h)];rfl
 |succ n ih=>
  intro l h hf
  rcases List.eq_nil_or_concat l with rfl |⟨l,x,rfl⟩
  .exact Qf3 _
  .rw[List.concat_eq_append]at*;rw[Q8,Zw]at h;have h2:=hf x (by simp);rw[Dm];show(if 16*Uc l+x=0 then [] else apD n ((16*Uc l+x)/16)++[Wv ((16*Uc l+x)%16)])=_;rw[if_neg (by lia),show(16*Uc l+x)/16=Uc l by lia,show(16*Uc l+x)%16=x by lia,ih l (by lia) λ f hq=>hf f (List.mem_append_left _ hq),Zt];rfl
theorem Qf2:∀f:Fin 16,1<=f.val->Ij (65+((f.val:Nat):Int))=Wv f.val/\(Wv f.val).toNat=65+f.val/\U3 [65+f.val]=[97+f.val]/\Wj (65+f.val)=true/\(97+((f.val:Nat):Int)).toNat=97+f.val:=by decide +kernel
theorem Qzz {R:List Nat}(h:fig R):∀f∈R,Ij (65+(f:Int))=Wv f/\(Wv f).toNat=65+f/\U3 [65+f]=[97+f]/\Wj (65+f)=true/\(97+(f:Int)).toNat=97+f:=λ f hf=>by
 have:=h f hf;exact Qf2 ⟨f,by lia⟩ this.1
theorem Qm1 {R:List Nat}(h:fig R):U3 (R.map (65+·))=C8 R:=by
 unfold C8;induction R with
 |nil=>rfl
 |cons f R ih=>
  rw[Qu,Qu,show(65+f)::R.map (65+·)=[65+f]++R.map (65+·) from rfl,Dk,(Qzz h f (.head _)).2.2.1,ih λ f hf=>h f (.tail _ hf)];rfl
noncomputable def l5F:V->Option V
 |.int k=>some (.str (mk [(97+k).toNat]))
 |_=>none
theorem Qrb (R:List Nat)(h:fig R):(R.map nI).filterMap l5F=(C8 R).map λ c=>V.str (mk [c]):=by
 unfold C8;induction R with
 |nil=>rfl
 |cons f R ih=>
  rw[Qu,List.filterMap_cons_some (show l5F (nI f)=some (.str (mk [(97+(f:Int)).toNat])) from rfl),ih λ f hf=>h f (.tail _ hf),(Qzz h f (.head _)).2.2.2.2];rfl
section
variable {W:Qj}{c:Cx}{K:KF}{sv:V}{s p d:Nat}{r:List Stmt}{ln:Str}{fs:List V}
theorem Zvn (H:Tz W c){R:List Nat}{hc:Nat}(hR:fig R)(l7:R.length<=7)(hh:b1 hc=true)
  (h:∀y1 y2,Uw hc (C8 R) y1->Uw hc LN y2->XB W c r (la5 sv s p d ln fs (R.map nI) (mk [hc]) (mk (y1++34::hc::y2)) []) [] K):XB W c (sN 26 5::r) (la4 sv s p d ln fs (R.map nI) (mk [hc]) []) [] K:=by
 have ll:(C8 R).length=R.length:=Q6 _;refine Qk (owns:=[]) H ?_;show L0 5 _ _ _;rw[Zuh];refine Gz l5F Zzy (λ v hv acc k' ha hk=>?_) ?_
 .obtain⟨f,hf,rfl⟩:=Qv.mp hv;have:=hR f hf;show rdI F2 34 kL lc5 [] (.int (f:Nat)) [] acc k';rw[Zzv];have hk:k' (acc++[.str (mk [(97+(f:Int)).toNat])]):=hk;rw[Q6]at ha;exact⟨by lia,by lia,Zn (Qw (by lia)) hk⟩
 .rw[Qrb R hR];refine Qkc (by lia) ?_;show Ht [.str (mk (C8 R)),.int (d:Nat),.str (mk [hc])] _;refine⟨C8 R,hc,d,rfl,hh,C7 hR,by lia,λ y1 hy1=>?_⟩;have l1:y1.length<=15:=Q1 hy1.2.2 (by lia);show(mk y1).length+("\"":Str).length<=sizeLine/\_;rw[W2,X6];refine⟨by rw[Qn,Qn,Zv];show _+1<=_;lia,?_⟩;show(mk (y1++[34])).length+(mk [hc]).length<=sizeLine/\_;rw[X6];refine⟨by rw[Qn,Qn,Q8,Zv];show _+1+1<=_;lia,?_⟩;rw[show Int.fdiv (d:Int) 16=((d/16:Nat):Int) from Gb d 16];refine⟨by decide,pyl _ (by decide),LN,hc,d/16,by rw[Qlq],hh,Qmn,by decide,λ y2 hy2=>?_⟩;have l2:y2.length<=15:=hy2.2.2;show(mk (y1++[34]++[hc])).length+(mk y2).length<=sizeLine/\_;rw[X6];refine⟨by rw[Qn,Qn,Q8,Q8,Zv];show _+1+1+_<=_;lia,?_⟩;have:=h y1 y2 hy1 hy2;rw[show y1++[34]++[hc]++y2=y1++34::hc::y2 by simp];exact this
noncomputable def rpN (nm:List Nat):List Nat:=[50,53,55,32,34]++StrLaws.dbl 34 nm++[34]
variable {rw:List V}{hd:Str}
theorem Zvt (H:Tz W c){nm:List Nat}(hl:nm.length<=400)(h:XB W c r (la6 sv s p d ln fs rw hd (mk nm) (mk (rpN nm)) []) [] K):XB W c (sN 26 6::r) (la5 sv s p d ln fs rw hd (mk nm) []) [] K:=by
 refine Qk (owns:=[]) H ?_;show L0 6 _ _ _;rw[Zuf,Qv8,Zv0,W2,show("\"\"":Str)=mk [34,34] by decide +kernel,X6,X6];have dl:=Ny 34 nm;have nl:nm.length*2<=800:=by lia
 simp only[Qn,Zv];exact⟨by simp;lia,by simp;lia,by simp;lia,h⟩
noncomputable def It (d:Nat):Nat:=100+(158+d%899)%900
theorem Zxh (d:Nat):cdF d=((It d:Nat):Int):=by
 unfold cdF It;have e1:Int.fmod (d:Int) 899=((d%899:Nat):Int):=Xf d 899;have e2:Int.fmod ((158+d%899:Nat):Int) 900=(((158+d%899)%900:Nat):Int):=Xf (158+d%899) 900;rw[e1,show(158:Int)+((d%899:Nat):Int)=((158+d%899:Nat):Int) from rfl,e2];rfl
noncomputable def Bl (nm:List Nat)(d:Nat):List (List Nat):=
 [rpN nm++Rx.getD (d%4) [],[50,53,55,32,34]++StrLaws.dbl 34 nm,[50,53,55,45,34]++StrLaws.dbl 34 nm++[34],[50,53,55,32,32]++StrLaws.dbl 34 nm++[34],dg (It d)++[32,34]++StrLaws.dbl 34 nm++[34]]
theorem Pf (d:Nat):It d<1000:=by unfold It;lia
theorem Zvd (H:Tz W c){nm:List Nat}(hl:nm.length<=400)(h:XB W c r (Ig sv s p d ln fs rw hd (mk nm) (mk (rpN nm)) ((Bl nm d).map λ l=>.str (mk l)) []) [] K):XB W c (sN 26 7::r) (la6 sv s p d ln fs rw hd (mk nm) (mk (rpN nm)) []) [] K:=by
 refine Qk (owns:=[]) H ?_;show L0 7 _ _ _;have dl:=Ny 34 nm;have rl:(rpN nm).length=(StrLaws.dbl 34 nm).length+6:=by unfold rpN;simp only[Q8,Qb,Zs];lia
 have dgl:(dg (It d)).length<=10:=I5 (Nat.lt_trans (Pf d) (by decide));obtain⟨h1,h2⟩:=Lv ⟨d%4,Za _ (by decide)⟩;have h3:=Quo (d%4) (Za _ (by decide));have h2':(Rx.getD (d%4) []).length<=4:=h2;rw[Zug,Zxh,Eh,show Int.fmod (d:Int) 4=((d%4:Nat):Int) from Xf d 4];refine⟨by decide,Kf h3 (by have:=Za d (show 0<4 by decide);lia) ?_⟩;show(mk (rpN nm)).length+(mk (Rx.getD (d%4) [])).length<=sizeLine/\_;have e4:("257-":Str)=mk [50,53,55,45]:=by decide +kernel
 have e5:("257  ":Str)=mk [50,53,55,32,32]:=by decide +kernel
 have d3:(rpN nm).drop 3=[32,34]++StrLaws.dbl 34 nm++[34]:=rfl;have d4:(rpN nm).drop 4=[34]++StrLaws.dbl 34 nm++[34]:=rfl;have d5:(rpN nm).drop 5=StrLaws.dbl 34 nm++[34]:=rfl;have d1:(rpN nm).take ((rpN nm).length-1)=[50,53,55,32,34]++StrLaws.dbl 34 nm:=by
  unfold rpN;rw[Q8,Zw,Nat.add_sub_cancel,List.take_append_of_le_length (Q2 _),List.take_length]
 rw[X6,Qbm,show(some (4:Int))=some ((4:Nat):Int) from rfl,show(some (5:Int))=some ((5:Nat):Int) from rfl,show(some (3:Int))=some ((3:Nat):Int) from rfl,D8,D8,D8,d1,d3,d4,d5,e4,e5,X6,X6,X6];simp only[Qn,Zv];have lg:((It d:Nat):Int).natAbs.log2<1920:=by
  show(It d).log2<1920;by_cases h0:It d=0
  .rw[h0];decide
  .exact Nat.lt_trans ((Nat.log2_lt (k:=10) h0).mpr (Nat.lt_trans (Pf d) (by decide))) (by decide)
 refine⟨by lia,by lia,by lia,?_,by lia,?_,by decide,by decide,lg,by lia,?_,?_⟩
 .simp only[Q8,Qb,Zs];lia
 .simp only[Q8,Qb,Zs];lia
 .simp only[Q8,Qb,Zs];lia
 .have e:(Bl nm d).map (λ l=>V.str (mk l))=[V.str (mk (rpN nm++Rx.getD (d%4) [])),.str (mk ([50,53,55,32,34]++StrLaws.dbl 34 nm)),.str (mk ([50,53,55,45]++([34]++StrLaws.dbl 34 nm++[34]))),.str (mk ([50,53,55,32,32]++(StrLaws.dbl 34 nm++[34]))),.str (mk (dg (It d)++([32,34]++StrLaws.dbl 34 nm++[34])))]:=by
   unfold Bl;simp only[Qu,List.map_nil,Qr,Yq,Y7]
  rw[e]at h;exact h
end
noncomputable def lcC (e:Expr):Expr:=nv e [0]
noncomputable def lc9:Expr:=lcC (wT (sN 26 9))
theorem Zum (sv:V)(s p d:Nat)(ln:Str)(fs rw:List V)(hd nm rp:Str)(rs:List V)(K:KF):L0 9 (Ig sv s p d ln fs rw hd nm rp rs []) [] K=
  rdC F2 38 kL lc9 [] (nm.cps.toList.map sg) [("hidden",.str hd)] λ acc=>(acc=[]/\acc.all (deep 5)=true/\K .next (Ig sv s p d ln fs rw hd nm rp rs []) [])\/(acc.length≠([]:List V).length/\K (.ret (.bool false)) (Ig sv s p d ln fs rw hd nm rp rs []) []):=by kernel_rfl
theorem Zz6 (h:Str)(c:Nat)(acc:List V)(q:List V->Prop):rdI F2 38 kL lc9 [] (sg c) [("hidden",.str h)] acc q=cond (!(b1 c==(⟨#[c]⟩==h))) (X5 (decide (acc.length<16777216)) (q (acc++[sg c]))) (q acc):=by kernel_rfl
theorem Zz7:(Jw lc9).length=1:=by kernel_rfl
noncomputable def Qdz (d:Nat):Nat:=[124,33,126,122].getD (d%4) 0
theorem Qdq (d:Nat):A9 (Qdz d):=by
 have:∀j:Fin 4,A9 ([124,33,126,122].getD j.val 0):=by unfold A9;decide
 exact this ⟨d%4,Za _ (by decide)⟩
theorem Qh9:("|!~z":Str)=mk [124,33,126,122]:=by decide +kernel
theorem Qmu (m:Nat):MulOk (mk [m]) 3:=by
 unfold MulOk;rw[Qn];show _/\(_->_->¬((1:Nat):Int) > _)/\(_->_->tooLong (1*Int.toNat 3)=false);exact⟨by decide,λ J J=>by decide,λ J J=>by decide⟩
section
variable {W:Qj}{c:Cx}{K:KF}{sv:V}{s p d:Nat}{r:List Stmt}{ln:Str}{fs rw rs:List V}{rp:Str}
theorem Zvf (H:Tz W c){hc:Nat}{nm:List Nat}(hg:∀x∈nm,b1 x=(x==hc))(h:XB W c r (Ig sv s p d ln fs rw (mk [hc]) (mk nm) rp rs []) [] K):XB W c (sN 26 9::r) (Ig sv s p d ln fs rw (mk [hc]) (mk nm) rp rs []) [] K:=by
 refine Qk (owns:=[]) H ?_;show L0 9 _ _ _;rw[Zum];refine Gz (λ J=>none) Zz7 (λ v hv acc k' hl hk=>?_) ?_
 .obtain⟨x,hx,rfl⟩:=Qv.mp hv;rw[Zz6];rw[Zk]at hx;have e:((⟨#[x]⟩:Str)==mk [hc])=(x==hc):=by
   rw[Uz,Lf];simp
  rw[e,hg x hx,Qt]
  simpa using hk
 .left
  have e:∀l:List V,l.filterMap (λ J=>(none:Option V))=[]:=λ l=>by induction l <;> simp_all
  rw[e];exact⟨rfl,rfl,h⟩
variable {hd nm:Str}
theorem Qow (H:Tz W c)(h:XB W c r (lb ⟨sv,s,p,d,ln,fs,rw,hd,nm,rp,rs,mk [Qdz d]⟩ 0 []) [] K):XB W c (sN 26 10::r) (Ig sv s p d ln fs rw hd nm rp rs []) [] K:=by
 refine Qk (owns:=[]) H ?_;show L0 10 _ _ _;have m4:=Za d (show 0<4 by decide);rw[Zzr,Qh9,show Int.fmod (d:Int) 4=((d%4:Nat):Int) from Xf d 4];refine⟨by decide,Yp.mpr ⟨Qdz d,Ux ?_,Zn (J5 ⟨by lia,by lia⟩) h⟩⟩;unfold Qdz;rw[Y9,Q7 (show d%4 < [124,33,126,122].length from m4)];rfl
variable {b:LB}
theorem Qjq (H:Tz W c):∀(R:List Nat) (n:Nat) (f:V),fig R->n<16^7->(∀f',K .next (lfg b (R.foldl (λ a x=>16*a+x) n:Nat) f' []) [])->(∀k,k<R.length->(R.take k).foldl (λ a x=>16*a+x) n<16^7)->
  XT W c "figure" (wB (sN 26 11)) none (R.map nI) (lfg b (n:Nat) f []) [] K:=by
 intro R;induction R with
 |nil=>exact λ n f J J h J=>Fo (h f)
 |cons a R ih=>
  intro n f hf hn h hb;refine Ba ?_;rw[Qrv];refine Qn6 (owns:=[]) H ?_;show rds F2 [] kL [] (wB (sN 26 11)) (lfg b (n:Nat) (.int (a:Nat)) []) [] _;rw[Qp0];refine⟨IntMulOk.of_left (by decide),?_⟩;have e:16*((n:Nat):Int)+((a:Nat):Int)=((16*n+a:Nat):Int):=by lia
  rw[e];refine⟨trivial,?_⟩;cases R with
  |nil=>exact Fo (h _)
  |cons a2 R=>exact ih _ _ (λ f hq=>hf f (.tail _ hq)) (hb 1 (by simp)) h λ k hk=>hb (k+1) (by simp at hk |-;lia)
theorem Qq3 {R:List Nat}(h:fig R)(l7:R.length<=7):∀k,k<R.length->(R.take k).foldl (λ a x=>16*a+x) 0<16^7:=λ k J=>
 Km 7 (R.take k) (by rw[List.length_take];lia) λ f hq=>h f (List.mem_of_mem_take hq)
theorem Qok (H:Tz W c){R:List Nat}(hR:fig R)(l7:R.length<=7)(h0:R≠[])(hrw:b.rw=R.map nI)(h:∀f,XB W c r (lfg b (Uc R:Nat) f []) [] K):XB W c (sN 26 11::r) (lb b 0 []) [] K:=by
 refine Zp (Xk (λ loc' st'=>XB W c r loc' st' K) K) (T9 H Qrw (by decide +kernel) (by decide +kernel) ?_) λ J J J q=>q;rw[Qrk,hrw];have e0:∀(xs:List V) (k:List V->Option (Nat×Nat)->Prop),Us [] (.list xs) k=k xs none:=λ J J=>rfl;rw[e0,Qrx];obtain⟨a,R',rfl⟩:=List.exists_cons_of_ne_nil h0;refine Ba ?_;rw[Qry];refine Qn6 (owns:=[]) H ?_;show rds F2 [] kL [] (wB (sN 26 11)) (lfg b 0 (.int (a:Nat)) []) [] _;rw[Qp0];refine⟨IntMulOk.of_left (by decide),trivial,?_⟩;have e:16*(0:Int)+((a:Nat):Int)=((16*0+a:Nat):Int):=by lia
 rw[e];cases R' with
 |nil=>exact Fo (h _)
 |cons a2 R'=>exact Qjq H (a2::R') _ _ (λ f hq=>hR f (.tail _ hq)) (Qq3 hR l7 1 (by simp)) h λ k hk=>Qq3 hR l7 (k+1) (by simp at hk |-;lia)
theorem Qox (H:Tz W c){n m:Nat}(hn:n<16^7)(hm:A9 m)(hma:b.ma=mk [m]){f:V}(h:XB W c r (lh b (n:Nat) f (.tuple [.str "h",.int (n:Nat)]) []) [] K):XB W c (sN 26 12::r) (lfg b (n:Nat) f []) [] K:=by
 refine Qk (owns:=[]) H ?_;show L0 12 _ _ _;have dl:(dg n).length<=10:=I5 (Nat.lt_trans hn (by decide));have e1:("229 h) (":Str)=mk [50,50,57,32,104,41,32,40]:=by decide +kernel
 have e2:(") ()":Str)=mk [41,32,40,41]:=by decide +kernel
 have e3:Txt.mul (mk [m]) 3=mk [m,m,m]:=Qd9 [m] 3 (by decide) (by simp);rw[Zzs,hma,e1,e2,e3,Eh];simp only[X6,Qn,Q8,Qb,Zs,Zv];have lg:((n:Nat):Int).natAbs.log2<1920:=by
  show n.log2<1920;by_cases h0:n=0
  .rw[h0];decide
  .exact Nat.lt_trans ((Nat.log2_lt (k:=28) h0).mpr hn) (by decide)
 refine⟨Qmu m,by lia,lg,by lia,by lia,by lia,m,n,?_,hm,Nat.lt_trans hn (by decide),h⟩;have e:[50,50,57,32,104,41,32,40]++[m,m,m]++dg n++[m]++[41,32,40,41]=Ip m (dg n):=by simp[Ip,Es,P7]
 rw[e]
theorem Qoz (H:Tz W c){R:List Nat}(hR:fig R)(l7:R.length<=7){n:Int}{f:V}(h:XB W c r (lo b n f (.tuple [.str "h",.int (Uc R:Nat)]) (R.map Wv).toArray []) [] K):XB W c (sN 26 14::r) (lh b n f (.tuple [.str "h",.int (Uc R:Nat)]) []) [] K:=by
 refine Qk (owns:=[]) H ?_;show L0 14 _ _ _;rw[Zzl];refine⟨Km 7 R l7 hR,?_⟩;have e:((Uc R:Nat):Int).natAbs=Uc R:=rfl;rw[e,Qwj 7 R l7 hR];exact h
theorem Qvd {l:Lay}{s:Shared}{xs:List V}{a b:Value}{Q:Value->Shared->Prop}{E:Value->Shared->Prop}(hu:c.A.units<=1000)(hd:xs.all (deep 5)=true)(ha:VR l s.heap (.tuple xs) a)(hb:VR l s.heap (.tuple xs) b)(hQ:Q (.bool false) s):wpAny (model W.prog W.w) c.A (compareOp .NotEq a b) Q E s:=by
 obtain⟨x,i1,rfl,_,h1,r1⟩:=ha.invT;obtain⟨y,i2,rfl,_,h2,r2⟩:=hb.invT;have hu0:c.A.units<cLine:=Nat.lt_of_le_of_lt hu (by decide);have hu5:c.A.units+1+5<cLine:=Nat.lt_of_le_of_lt (Nat.add_le_add_right hu 6) (by decide);have es:(i1.toArray.size==i2.toArray.size)=true:=Zr.mpr (r1.length.symm.trans r2.length);refine PySem.SeqAt.RcNeAt.tuples (e:=λ J=>true) h1 h2 hu0 (Hz hd hu5 r1 r2) _ _ E Q ?_;rw[Wy,es];exact hQ
theorem Qoj (H:Tz W c){n:Nat}{f:V}(h:XB W c r (lh b (n:Nat) f (.tuple [.str "h",.int (n:Nat)]) []) [] K):XB W c (sN 26 13::r) (lh b (n:Nat) f (.tuple [.str "h",.int (n:Nat)]) []) [] K:=by
 have un:c.A.units<=1000:=by have:=H.O.units;lia
 refine Zp (Xk (λ loc' st'=>XB W c r loc' st' K) K) ⟨?_⟩ λ J J J q=>q;rw[Zzc];refine Quk λ l s Q E hR hQ=>?_;refine isTrue_or (Z0 (wpAny_isTrue_Compare1 (P8 (k:=λ v u=>v=.tuple [.str "h",.int (n:Nat)]/\u=.tuple [.str "h",.int (n:Nat)]) (G8 H (by rw[Qrq];exact(G8 H (by rw[Qr9];exact⟨rfl,rfl⟩)).go)).go hR
   λ v w u w' s2 k2 t2 hR2 v1 v2 e=>by
    obtain⟨rfl,rfl⟩:=e;refine Qvd un rfl v1 v2 (wpAny_truthy_bool λ tk=>?_);have hR3:=hR.keeps k2 t2;exact isTrue_or (Qz8 H (k:=λ b=>b=false) (by rw[Qrz]) l s2 _ E hR3 λ q s4 k4 t4 hq=>by
     subst hq;exact isTrue_or_nil (hQ false s4 (Qi k2 k4) (Q1 t2 t4) (Uq h).go)))
   Qrj))
end
section
variable {W:Qj}{c:Cx}{loc:Loc}{st:Q4}{K:KF}
theorem Qvt {prog:Program}{wl:World}{A:Around}{E:Value->Shared->Prop}{s:Shared}{l:Addr}{y:Value}{u:Tok}{Q:Value->Shared->Prop}(hl:s.heap.IsList l [y].toArray)
  (h:Q (.ref s.heap.objs.size) {s with heap:=s.heap.push {cls:=.type "list",data:=.seq [y,y].toArray}}):wpAny (model prog wl) A (binaryOp .Mult (.ref l) (.int 2 u)) Q E s:=by
 obtain⟨⟨cls,d,data,sl⟩,ho,hcl,k,hd⟩:=id hl;simp only at hcl hd;subst hcl hd;exact wpAny_binaryOp_repeat_ref (T:="list") (U:="int") (by decide) ⟨_,ho,rfl⟩ (λ s'=>typeIs_int s' 2 u) noFill_list_mul PySem.F.fills_int_mul PySem.F.slot_int_rmul repeat_list PySem.F.slot_int_index.lookup
  (call_meets PySem.F.slot_int_rmul (typeIs_int s 2 u) PySem.F.entry_int_rmul (PySem.F.args_int_rmul_2 _ _) (lm_int_rmul_list_any 2 u l [y].toArray k d sl)
   ⟨ho,rfl,⟨_,ho,rfl⟩,call_meets PySem.F.slot_list_mul ⟨_,ho,rfl⟩ PySem.F.entry_list_mul (PySem.F.args_list_mul_2 _ _)
    (lm_list_mul_any l [y].toArray k d sl 2 u (by decide) (by show ¬1*2 > _;decide) (by show ¬Builtin.List.listTooLong (1*2)=true;decide)) ⟨ho,h⟩⟩)
theorem Qtk {e:Expr}{lp cp pos:Pos}{cn:Nat}{k:V->Prop}(hs:Z8 [e]=true)(h:Uv W c e loc st λ v=>k (.list [v,v])):Uv W c (.BinOp (.List [e] lp) .Mult (.Constant (.int 2) cn cp) pos) loc st k:=λ l s Q E hR hQ=>by
 refine Z0 (wpAny_BinOp ((Qtz (k:=λ v=>∃u,v=.list [u]/\k (.list [u,u])) hs (Qpi hs ⟨h.mono λ v hv=>Nw ⟨by show 1<=sizeLine;decide,v,rfl,hv⟩⟩)).go l s _ E hR λ v w s1 k1 t1 v1 h1=>?_));obtain⟨u,rfl,hk⟩:=h1;obtain⟨a,items,rfl,na,hp,hv⟩:=v1.inv;obtain⟨w1,r,rfl,vw,rn⟩:=hv.inv;have rn:r=[]:=rn;subst rn;refine wpAny_Constant_int (Qvt (y:=w1) ?_ ?_)
 .exact hp.isList
 have kp:Keeps s1 {s1 with heap:=s1.heap.push {cls:=.type "list",data:=.seq [w1,w1].toArray},toks:=s1.toks+1}:=⟨_,_,rfl,Yo _ _⟩
 intro tk;have hR1:=hR.keeps k1 t1;exact hQ _ _ _ (Qi k1 kp) tk (.list (items:=[w1,w1]) (Vk hR1.low) (G1 _ _) (Y0.sub (Yo _ _) (.cons vw (.cons vw .nil)))) hk
end
theorem Qgp {xs:List V}{k:Bool->Prop}(h:xs.all (deep 5)=true)(hk:k false):Qgg .NotEq (.list xs) (.list xs) k:=by
 show(xs=xs/\xs.all (deep 5)=true/\k false)\/(xs.length≠xs.length/\k true);exact .inl ⟨rfl,h,hk⟩
theorem Qzj (ns:List Int):Rh (ns.map V.int)=some ns:=by
 induction ns with
 |nil=>rfl
 |cons n ns ih=>
  show(Rh (ns.map V.int)).map (n::·)=_;rw[ih];rfl
noncomputable def Zqf:V->Option V
 |.int k=>some (.int (65+k))
 |_=>none
noncomputable def Zxg:V->Option V
 |.int k=>some (.str ⟨#[k.toNat]⟩)
 |_=>none
section
variable {W:Qj}{c:Cx}{P:Params}{K:KF}{b:LB}{r:List Stmt}
theorem Qoq (H:Tz W c){R:List Nat}(hR:fig R)(l7:R.length<=7)(hrw:b.rw=R.map nI){f h:V}
  (hk:XB W c r (lo b (Uc R:Nat) f h (R.map Wv).toArray []) [] K):XB W c (sN 26 15::r) (lo b (Uc R:Nat) f h (R.map Wv).toArray []) [] K:=by
 have hn:=Qr8;simp only[Qa,Bool.not_eq_true']at hn;have un:c.A.units<=1000:=by have:=H.O.units;lia
 have n7:=Km 7 R l7 hR;have en:(-((Uc R:Nat):Int)).natAbs=Uc R:=by rw[Int.natAbs_neg];rfl
 refine Zp (Xk (λ loc' st'=>XB W c r loc' st' K) K) ⟨?_⟩ λ J J J q=>q;rw[Zzn];refine Quk λ l s Q E hR' hQ=>?_;have right:Uv W c (.BinOp (.List [Id.1] Id.2.1) .Mult (.Constant (.int 2) Id.2.2.1 Id.2.2.2.1) Id.2.2.2.2) (lo b (Uc R:Nat) f h (R.map Wv).toArray []) [] λ u=>u=.list [.bytes (R.map Wv).toArray,.bytes (R.map Wv).toArray]:=by
  refine Qtk hn.1 ((G8 H ?_).go);rw[Qr4,hrw];refine Gz Zqf Qr7 (λ v hv acc k' hl hk'=>?_) ?_
  .obtain⟨z,hz,rfl⟩:=Qv.mp hv;show rdI F2 38 kL Qdh [] (.int (z:Nat)) [] acc k';rw[Qr6];exact Zn (Qw (by rw[Q6]at hl;lia)) hk'
  .have e:(R.map nI).filterMap Zqf=(R.map λ z:Nat=>(65+(z:Int))).map V.int:=by
    rw[List.filterMap_map,Z3];exact List.filterMap_eq_map' (f:=λ z:Nat=>V.int (65+(z:Int)))▸rfl
   rw[e];show(Rh _).elim False _;rw[Qzj];refine⟨λ n hn=>?_,by rw[Q6,Q6,Zv];lia,?_⟩
   .obtain⟨z,hz,rfl⟩:=Qv.mp hn;have:=hR z hz;lia
   .rw[Z3];show V.list [.bytes _,.bytes _]=_;have:R.map (Ij ∘ λ z:Nat=>(65+(z:Int)))=R.map Wv:=List.map_congr_left λ z hz=>(Qzz hR z hz).1;rw[this]
 refine isTrue_or (Z0 (wpAny_isTrue_Compare1 (P8 (k:=λ v u=>v=.list [.bytes (R.map Wv).toArray,.bytes (R.map Wv).toArray]/\u=.list [.bytes (R.map Wv).toArray,.bytes (R.map Wv).toArray]) (G8 H (by
  rw[Qr5,en];refine⟨n7,?_⟩;rw[Qwj 7 R l7 hR];exact right.mono λ u hu=>⟨rfl,hu⟩)).go hR' λ v w u w' s2 k2 t2 hR2 v1 v2 e=>by
   obtain⟨rfl,rfl⟩:=e;exact G5 (a:=.list [.bytes (R.map Wv).toArray,.bytes (R.map Wv).toArray]) (b:=.list [.bytes (R.map Wv).toArray,.bytes (R.map Wv).toArray]) (k:=λ b=>b=false) un (VD.of v1) (VD.of v2) (Qgp rfl rfl) _ _ λ q s3 k3 hq=>wpAny_truthy_bool λ tk=>by
    subst hq;have hR3:=hR'.keeps (Qi k2 k3) tk;exact isTrue_or (Qz8 H (k:=λ b=>b=false) (by rw[Qr3]) l s3 _ E hR3 λ q s4 k4 t4 hq=>by
     subst hq;exact isTrue_or_nil (hQ false s4 (Qi (Qi k2 k3) k4) (Q1 tk t4) (Uq hk).go))) hn.2))
theorem Qo9 (H:Tz W c){R:List Nat}(hR:fig R)(l7:R.length<=7){n:Int}{f h:V}
  (hk:XB W c r (lo b n f h (R.map Wv).toArray [("pattern",.str (mk (C8 R)))]) [] K):XB W c (sN 26 16::r) (lo b n f h (R.map Wv).toArray []) [] K:=by
 refine Qk (owns:=[]) H ?_;show L0 16 _ _ _;rw[Zzt];have e0:(R.map Wv).toArray.toList.map (λ c:UInt8=>V.int ((c.toNat:Nat):Int))=R.map λ f=>V.int ((65+f:Nat):Int):=by
  show(R.map Wv).map _=_;rw[Z3];exact List.map_congr_left λ z hz=>by show V.int (((Wv z).toNat:Nat):Int)=_;rw[(Qzz hR z hz).2.1]
 rw[e0];refine Gz Zxg Qr2 (λ v hv acc k' hl hk'=>?_) ?_
 .obtain⟨u,hu,rfl⟩:=Qv.mp hv;have:=hR u hu;rw[Qr1];refine⟨Qy _,by lia,Zn (Qw ?_) hk'⟩;rw[Q6]at hl;lia
 .have e:(R.map λ f=>V.int ((65+f:Nat):Int)).filterMap Zxg=(R.map (65+·)).map λ c=>V.str ⟨#[c]⟩:=by
   rw[List.filterMap_map,Z3];exact List.filterMap_eq_map' (f:=λ f:Nat=>V.str ⟨#[65+f]⟩)▸rfl
  rw[e];refine⟨_,R.map (65+·),rfl,.inr rfl,λ c hc=>?_,by rw[Q6];lia,?_⟩
  .obtain⟨f,hf,rfl⟩:=Qv.mp hc;exact .inr (Qzz hR f hf).2.2.2.1
  .rw[Qm1 hR];exact hk
theorem Qo8 (H:Tz W c){R nm:List Nat}(hR:fig R)(l7:R.length<=7)(hp:U3 nm=Vd 34 [C8 R,LN])(hok:∀x∈nm,b1 x=true\/Wj x=true)(hl:nm.length<=800)(hnm:b.nm=mk nm)(hln:b.ln=mk LN){n:Int}{f h:V}{w:Array UInt8}
  (hk:XB W c r (lo b n f h w [("pattern",.str (mk (C8 R)))]) [] K):XB W c (sN 26 17::r) (lo b n f h w [("pattern",.str (mk (C8 R)))]) [] K:=by
 have ll:(C8 R).length=R.length:=Q6 _;refine Qk (owns:=[]) H ?_;show L0 17 _ _ _;rw[Zzd,hnm,hln];refine⟨_,nm,rfl,.inl rfl,hok,by lia,?_⟩;rw[hp,W2];have hlen:(mk (Vd 34 [C8 R,LN])).length<=1000:=by rw[Qn];show(C8 R++34::LN).length<=1000;rw[Q8,ll];show _+(7+1)<=1000;lia
 have ps:=Oi (mk (Vd 34 [C8 R,LN])) (mk [34]);have sp:=Mw (c:=34) (ps:=[C8 R,LN]) (by simp) (by
  intro p hp;simp only[Qx,Zf,or_false]at hp
  rcases hp with rfl |rfl
  .intro q;have:=(C7 hR 34 q).1;lia
  .decide)
 rw[sp];exact⟨by rw[Qn];rfl,by rw[Zv];lia,by rw[Zv];lia,.inl ⟨rfl,rfl,hk⟩⟩
end
section
variable {W:Qj}{c:Cx}{loc:Loc}{st:Q4}{K:KF}
theorem Qyu (O:Ok W c)(h0:c.h₀.get? c.L=none){el:Loc->(V->Prop)->Prop}{ev:Expr->Loc->(V->Prop)->Prop}{ts:Expr->Loc->(Bool->Prop)->Prop}{elt:Expr}{g:Comprehension}{gs:List Comprehension}{scope:Scope}{pos:Pos}{k:V->Prop}
  (hel:∀C,Ok W (c.comp scope C)->∀loc k,el loc k->Qxl True W (c.comp scope C) elt loc st k) (hev:∀C,Ok W (c.comp scope C)->∀e loc k,ev e loc k->Uv W (c.comp scope C) e loc st k) (hts:∀C,Ok W (c.comp scope C)->∀e loc k,ts e loc k->Ps W (c.comp scope C) e loc st k)
  (hal:(g::gs).all (λ g=>decide (g.is_async=0))=true) (hns:Jj g.iter=true) (hsc:Gq scope=true) (hfr:Vt c.env.kindOf loc scope.names=true)
  (h:Uv W c g.iter loc st λ v=>Xv (drf st v) λ xs=>Wr (V3 (Uj scope c.env.kindOf) ts (cGo (Uj scope c.env.kindOf) el ev ts st gs) g xs (Fy (Uj scope c.env.kindOf) loc) [] λ acc=>k (.list acc))):Qxl True W c (.ListComp elt (g::gs) scope pos) loc st k:=by
 intro l s Q E hR hN hQ;refine Z0 ?_;rw[eval_ListComp];refine Lo True O hel hev hts hal hns hsc hfr h hR hN λ acc' D C s5 k5 t5 hC ⟨m,hn⟩ hv h5=>⟨m,hn,λ h' hs tk=>?_⟩
 have kx:KX (·=C) s5 {s5 with heap:=h'}:=⟨h',s5.toks,rfl,λ b ob n e=>(hs.2 b n).trans e⟩
 have ne:∀a∈c.L::c.fs,a≠C:=λ a ha q=>by
  obtain⟨o,ho⟩:=hR.low a (hN trivial a ha).1;rw[q,hC]at ho;cases ho
 have sl:G9 True (λ J=>False) (c.L::c.fs) s {s5 with heap:=h'}:=(k5.mono λ J q=>q.elim).trans (G9.of (X:=λ b=>False\/b=C) (kx.mono λ J q=>.inr q) λ J a ha q=>q.elim id (ne a ha)) |>.drop hC
 exact hQ (.list acc') (.ref D) _ sl tk (hR.slots sl tk (hN trivial) h0) (hv.same hs (Or.inr rfl)).minus h5
theorem RS.slots (O:Ok W c)(hfs:c.fs=[]){l:Lay}{s s':Shared}(hR:RS c l loc st s)(k:G9 True (λ J=>False) (c.L::c.fs) s s')(t:s.toks<=s'.toks):RS c l loc st s'/\OW c (λ J=>False) l st s l st s'/\Z6 s s':=by
 have tl:Tch c l:=hR.tch O;have kN:∀b o,b≠c.L->s.heap.get? b=some o->s'.heap.get? b=some o:=λ b o n e=>k.get id (by rw[hfs,Q3];exact n) e;have exN:∀b o,s.heap.get? b=some o->∃o',s'.heap.get? b=some o':=λ b o e=>by
  by_cases q:b=c.L
  .subst q;obtain⟨sl,z⟩:=k.sl trivial _ (.head _) o e;exact⟨_,z⟩
  .exact⟨o,kN b o q e⟩
 refine⟨⟨hR.r.slots k t tl hR.fr,hR.hB,hR.own,hR.cel,hR.lL,hR.fr,hR.al,hR.inj,hR.cinj,λ x a e=>?_⟩,⟨λ J J e=>e,λ J J e=>e,λ J q=>q,λ b q=>.inl q,λ J J e=>.inl e,exN,
  λ b o e J h2 J J=>kN b o (λ q=>h2 (q.trans hR.lL.symm)) e,λ J p e=>⟨p,e,Q2 _⟩,λ n b J J eb J J J o ho=>kN b o ((tl c.L (.head _)).2 n b eb) ho,λ J=>by obtain⟨h',tk',rfl,_⟩:=k.kx;rfl⟩,Z6.of k.kx⟩
 obtain⟨v,o,ho,hd⟩:=hR.cells x a e;by_cases q:a=c.L
 .subst q;obtain⟨sl,z⟩:=k.sl trivial _ (.head _) o ho;exact⟨v,_,z,hd⟩
 .exact⟨v,o,kN a o q ho,hd⟩
end
structure Qzw (W:Qj)(P:Params)(c:Cx):Prop where
 H:Tz W c
 hK:W.K=KL P
 room:c.room=3
 out:c.outer=[]
 fs:c.fs=[]
 dr:c.dr=true
noncomputable def cmI (s:Stmt):Expr×Expr×Pos×List Stmt×Pos:=(nv (wT s) [0],nv (wT s) [1],(wT s).pos,wB s,wP s)
noncomputable def c8:Expr×Expr×Pos×List Stmt×Pos:=cmI (sN 26 8)
noncomputable def Vv (e:Expr):Pos×Pos×List Expr:=((nv e [0]).pos,e.pos,(chE e).tail)
noncomputable def Qpm (e:Expr):Pos×Expr×Pos:=((nv e [1]).pos,nv e [2],e.pos)
noncomputable def it8:Expr:=(Qpm c8.1).2.1
theorem Zup:sN 26 8=.If (.Compare (.ListComp (.Call (.Name "_law_named" (Vv (Fb c8.1)).1) (Vv (Fb c8.1)).2.2 [] (Vv (Fb c8.1)).2.1) [⟨.Name "one" (Qpm c8.1).1,it8,[],0⟩] (Y4 c8.1) (Qpm c8.1).2.2) [.NotEq] [c8.2.1] c8.2.2.1) c8.2.2.2.1 [] c8.2.2.2.2:=by kernel_rfl
theorem Zz8:(Z8 (Vv (Fb c8.1)).2.2&&(Jj it8&&(Gq (Y4 c8.1)&&!behindInMarks .NotEq c8.2.1)))=true:=by kernel_rfl
theorem Zzq:Uj (Y4 c8.1) kL "_law_named"=some .globalImplicit:=by kernel_rfl
section
variable (sv:V)(s p d:Nat)(ln:Str)(fs rw:List V)(hd nm rp:Str)(rs:List V)
theorem Zzj:Vt kL (Ig sv s p d ln fs rw hd nm rp rs []) (Y4 c8.1).names=true:=by kernel_rfl
theorem Zzx:Fy (Uj (Y4 c8.1) kL) (Ig sv s p d ln fs rw hd nm rp rs [])=[]:=by kernel_rfl
theorem Zzk (v:V)(k:Loc->Prop):Vn (Uj (Y4 c8.1) kL) (.Name "one" (Qpm c8.1).1) v [] k=k [("one",v)]:=by kernel_rfl
theorem Zzw (t:Str)(q:List V->Prop):Fu (λ e k=>Gi F2 (Uj (Y4 c8.1) kL) e [("one",.str t)] [] k) (Vv (Fb c8.1)).2.2 q=q [.str t]:=by kernel_rfl
theorem Zzz (q:V->Prop):Gi F2 kL it8 (Ig sv s p d ln fs rw hd nm rp rs []) [] q=q (.list rs):=by kernel_rfl
theorem Zz9 (a b e f g:Str)(q:V->Prop):Gi F2 kL c8.2.1 (Ig sv s p d ln fs rw hd nm rp [.str a,.str b,.str e,.str f,.str g] []) [] q=q (.list [.str nm,.str nm,.str "",.str "",.list [.str "code",.str g]]):=by kernel_rfl
end
noncomputable def nmF (x:List Nat):V:=cond (x.take 3==[50,53,55]) (.str (mk (cond ((x.drop 3).take 2==[32,34]) (un ((x.drop 3).drop 2)) []))) (.list [.str "code",.str (mk x)])
noncomputable def nmV:V->Option V
 |.str t=>some (nmF t.cps.toList)
 |_=>none
theorem Zqd {x:List Nat}(h:x.length<=903){k:V->Prop}(hk:k (nmF x)):Hn [.str (mk x)] k:=by
 refine⟨x,rfl,h,?_⟩;unfold nmF at hk;cases q:x.take 3==[50,53,55]with
 |true=>
  rw[q]at hk;have e:=List.take_append_drop 3 x;rw[eq_of_beq q]at e;exact .inl ⟨x.drop 3,e.symm,hk⟩
 |false=>
  rw[q]at hk;exact .inr ⟨λ e=>(by rw[e,Qt]at q;cases q),hk⟩
theorem Zxd:∀e:Fin 899,((dg (100+(158+e.val)%900)).take 3==[50,53,55])=false/\(dg (100+(158+e.val)%900)).length=3:=by decide +kernel
theorem Qbs (nm:List Nat)(d:Nat):(Bl nm d).map nmF=[.str (mk nm),.str (mk nm),.str (mk []),.str (mk []),.list [.str "code",.str (mk (dg (It d)++[32,34]++StrLaws.dbl 34 nm++[34]))]]:=by
 obtain⟨h1,h2⟩:=Lv ⟨d%4,Za _ (by decide)⟩;have h1:(Rx.getD (d%4) []).head?≠some 34:=h1;obtain⟨g1,g2⟩:=Zxd ⟨d%899,Za _ (by decide)⟩;have g1:((dg (It d)).take 3==[50,53,55])=false:=g1;have g2:(dg (It d)).length=3:=g2;have u0:un (34::Rx.getD (d%4) [])=[]:=by
  generalize Rx.getD (d%4) []=t at h1;cases t with
  |nil=>exact Qud
  |cons e q=>exact Quh e q λ z=>h1 (by rw[z];rfl)
 have r0:nmF (rpN nm++Rx.getD (d%4) [])=.str (mk nm):=by
  show V.str (mk (un (StrLaws.dbl 34 nm++[34]++Rx.getD (d%4) [])))=_;rw[Qr,List.singleton_append,Qut,u0,Qs]
 have r1:nmF ([50,53,55,32,34]++StrLaws.dbl 34 nm)=.str (mk nm):=by
  show V.str (mk (un (StrLaws.dbl 34 nm)))=_;have:=Qut nm [];rw[Qs]at this;rw[this,show un []=[] by rw[un],Qs]
 have r4:nmF (dg (It d)++[32,34]++StrLaws.dbl 34 nm++[34])=.list [.str "code",.str (mk (dg (It d)++[32,34]++StrLaws.dbl 34 nm++[34]))]:=by
  unfold nmF;have e:(dg (It d)++[32,34]++StrLaws.dbl 34 nm++[34]).take 3=(dg (It d)).take 3:=by
   rw[Qr,Qr,List.take_append_of_le_length (by rw[g2];exact Q2 3)]
  rw[e,g1];rfl
 unfold Bl;rw[Qu,Qu,Qu,Qu,Qu,List.map_nil,r0,r1,r4];rfl
theorem Qhn {nm:List Nat}(hl:nm.length<=400)(d:Nat):∀x∈Bl nm d,x.length<=903:=by
 have dl:=Ny 34 nm;obtain⟨h1,h2⟩:=Lv ⟨d%4,Za _ (by decide)⟩;have h2:(Rx.getD (d%4) []).length<=4:=h2;have dgl:(dg (It d)).length<=10:=I5 (Nat.lt_trans (Pf d) (by decide));intro x hx;unfold Bl at hx;simp only[Qx,Zf,or_false]at hx
 rcases hx with rfl |rfl |rfl |rfl |rfl <;> (try unfold rpN) <;> simp only [Q8,Qb,Zs] <;> lia
section
variable {W:Qj}{c:Cx}{P:Params}{K:KF}{sv:V}{s p d:Nat}{r:List Stmt}{ln:Str}{fs rw:List V}{hd:Str}
theorem Zvh (A:Qzw W P c){nm:List Nat}(hl:nm.length<=400){rp:Str}(h:XB W c r (Ig sv s p d ln fs rw hd (mk nm) rp ((Bl nm d).map λ l=>.str (mk l)) []) [] K):XB W c (sN 26 8::r) (Ig sv s p d ln fs rw hd (mk nm) rp ((Bl nm d).map λ l=>.str (mk l)) []) [] K:=by
 have hk:=Zz8;simp only[Qa,Bool.not_eq_true']at hk;obtain⟨n1,n2,n3,n4⟩:=hk;have H:=A.H;have un:c.A.units<=1000:=by have:=H.O.units;lia
 have ck:∀C,(c.comp (Y4 c8.1) C).env.kindOf=Uj (Y4 c8.1) kL:=λ C=>by rw[Rb H.O.ek,H.kd]
 have e0:("":Str)=mk []:=by decide +kernel
 have lf:=Zzj sv s p d ln fs rw hd (mk nm) rp ((Bl nm d).map λ l=>.str (mk l));have lc:=Zzx sv s p d ln fs rw hd (mk nm) rp ((Bl nm d).map λ l=>.str (mk l));have li:=Zzz sv s p d ln fs rw hd (mk nm) rp ((Bl nm d).map λ l=>.str (mk l));have lr:∀q:V->Prop,Gi F2 kL c8.2.1 (Ig sv s p d ln fs rw hd (mk nm) rp ((Bl nm d).map λ l=>.str (mk l)) []) [] q=q (.list ((Bl nm d).map nmF)):=λ q=>by
  rw[Qbs,<- e0];exact Zz9 sv s p d ln fs rw hd (mk nm) rp _ _ _ _ _ q
 generalize Ig sv s p d ln fs rw hd (mk nm) rp ((Bl nm d).map λ l=>.str (mk l)) []=loc at h lf lc li lr |-;refine Zp (Xk (λ loc' st'=>XB W c r loc' st' K) K) ⟨λ l s0 Q E hR hQ=>?_⟩ λ J J J q=>q;rw[Zup];refine wpAny_If (wpAny_isTrue_Compare1 ?_ n4);have hL:=hR.fr;refine Qyu (el:=λ loc k=>Fu (λ e k=>Gi F2 (Uj (Y4 c8.1) kL) e loc [] k) (Vv (Fb c8.1)).2.2 λ vs=>Hn vs k) (ev:=λ J J J=>False) (ts:=λ e loc k=>Ot F2 (Uj (Y4 c8.1) kL) e loc [] k) (k:=λ v=>v=.list ((Bl nm d).map nmF)) H.O hL
  (λ C O' loc k hk=>?_) (λ J J J J J q=>q.elim) (λ C O' e loc k hk=>?_) rfl n2 n3 (by rw[H.kd];exact lf) ?_ l s0 _ _ hR.r (λ J=>hR.tch H.O) λ v wv s2 sl2 t2 J v2 h2=>?_
 .refine Qpx A.hK O' (room:=1) A.room (by show c.outer.filterMap (·.frame)=c.fs;rw[A.out,A.fs];rfl) (by show KtsDicts c.fs _;rw[A.fs];exact λ b hb=>nomatch hb) hL (ev:=λ e k=>Gi F2 (Uj (Y4 c8.1) kL) e loc [] k) (λ e k q=>?_) (by rw[ck];exact Zzq) n1 hk;have:=(Jp F2 40 (c.comp (Y4 c8.1) C) O' H.FO).1 e loc [] k;rw[ck]at this;exact this q
 .have:=(Jp F2 40 (c.comp (Y4 c8.1) C) O' H.FO).2 e loc [] k;rw[ck]at this;exact this hk
 .refine(G8 H ?_).go;rw[li,H.kd];have e1:∀(xs:List V) (k:List V->Prop),Xv (drf [] (.list xs)) k=k xs:=λ J J=>rfl;rw[e1,lc];have fm:((Bl nm d).map λ l=>V.str (mk l)).filterMap nmV=(Bl nm d).map nmF:=by
   rw[List.filterMap_map];exact List.filterMap_eq_map' (f:=nmF)▸rfl
  refine⟨Ph nmV (λ v hv acc' k' hl' hk'=>?_) (by rw[Y7,fm])⟩;obtain⟨t,ht,rfl⟩:=Qv.mp hv;show Vn _ (.Name "one" (Qpm c8.1).1) _ _ _;rw[Zzk];show cond true _ (k' acc');rw[Zi];show Fu (λ e k=>Gi F2 (Uj (Y4 c8.1) kL) e _ [] k) (Vv (Fb c8.1)).2.2 (λ vs=>Hn vs _);rw[Zzw];refine Zqd (Qhn hl d t ht) (Zn (Qw ?_) hk');have:((Bl nm d).map λ l=>V.str (mk l)).length=5:=rfl;simp only[Zs,Nat.zero_add]at hl';lia
 subst h2;obtain⟨hR2,ow2,sm2⟩:=hR.slots H.O A.fs sl2 t2;refine(G8 H (k:=λ u=>u=.list ((Bl nm d).map nmF)) ?_).go l s2 _ _ hR2.r λ u wu s3 k3 t3 v3 h3=>?_
 .rw[lr]
 subst h3;have hR3:=hR2.keeps k3 t3;refine Z0 (G5 (a:=.list ((Bl nm d).map nmF)) (b:=.list ((Bl nm d).map nmF)) (k:=λ b=>b=false) un (VD.of (v2.sub (Yh k3))) (VD.of v3) (Qgp (by rw[Qbs];rfl) rfl) _ _ λ b s4 k4 hb tk=>wpAny_truthy_bool ?_);subst hb;rw[if_neg Zu];exact wpAny_execs_nil (hQ _ _ _ _ _ _ (sm2.trans ((Z6.ofK k3).trans (Z6.ofK k4))) (Q1 t2 (Q1 t3 tk)) (ow2.trans ((OW.keeps k3).trans (OW.keeps k4))) (hR3.keeps k4 tk) .next h)
end
noncomputable def reP (s:Stmt):Expr×Expr×Expr×Pos×Pos×Pos:=(ns s 0 [0,0],ns s 0 [0,1],ns s 0 [1],(ns s 0 [0]).pos,(ns s 0 []).pos,stP s)
noncomputable def r18:Expr×Expr×Expr×Pos×Pos×Pos:=reP (sN 26 18)
noncomputable def m18:Expr:=r18.1
noncomputable def f18:Expr:=r18.2.1
noncomputable def d18:Expr:=r18.2.2.1
theorem Zzh:sN 26 18=.Return (some (.BoolOp .And [.Compare (.Call (.Name "_law_met" (Vv m18).1) (Vv m18).2.2 [] (Vv m18).2.1) [.Eq] [.Call (.Name "_law_fades" (Vv f18).1) (Vv f18).2.2 [] (Vv f18).2.1] r18.2.2.2.1,d18] r18.2.2.2.2.1)) r18.2.2.2.2.2:=by kernel_rfl
theorem Qr0:behindInMarks .Eq (.Call (.Name "_law_fades" (Vv f18).1) (Vv f18).2.2 [] (Vv f18).2.1)=false:=by kernel_rfl
theorem Qsa:(Z8 (Vv m18).2.2&&(Z8 (Vv f18).2.2&&((kL "_law_met"==some .globalImplicit)&&(kL "_law_fades"==some .globalImplicit))))=true:=by kernel_rfl
section
variable (b:LB)(n:Int)(f h:V)(w:Array UInt8)(pt:Str)
theorem Qsi (q:List V->Prop):Fu (λ e k=>Gi F2 kL e (lo b n f h w [("pattern",.str pt)]) [] k) (Vv m18).2.2 q=q [.str pt,.str b.ln]:=by kernel_rfl
theorem Qse (q:List V->Prop):Fu (λ e k=>Gi F2 kL e (lo b n f h w [("pattern",.str pt)]) [] k) (Vv f18).2.2 q=q [.str pt]:=by kernel_rfl
theorem Qso (q:V->Prop):Gi F2 kL d18 (lo b n f h w [("pattern",.str pt)]) [] q=((7:Int)≠0/\Qj3 [.str b.ln,.int (Int.fmod (b.d:Int) 7)] q):=by kernel_rfl
end
theorem Qe7 (P:Params):nsIn (KL P) mainGlobals "_law_met"=some (some (.ref 191)):=by kernel_rfl
theorem Qft (P:Params):nsIn (KL P) mainGlobals "_law_fades"=some (some (.ref 196)):=by kernel_rfl
theorem Zze (P:Params):keepIn (KL P) (.ref 191)=true:=by kernel_rfl
theorem Qdr (P:Params):keepIn (KL P) (.ref 196)=true:=by kernel_rfl
section
variable {W:Qj}{c:Cx}{P:Params}{K:KF}
theorem Cb (A:Qzw W P c){fn:Str}{a:Addr}{fp pos:Pos}{args:List Expr}{loc:Loc}{vs:List V}{u:V}{k:V->Q4->Prop}(hk:c.env.kindOf fn=some .globalImplicit)(hd:(fn==("__debug__":Str))=false)(x1:nsIn W.K mainGlobals fn=some (some (.ref a)))(x2:keepIn W.K (.ref a)=true)(hs:Z8 args=true)
  (hv:Fu (λ e k=>Gi F2 kL e loc [] k) args λ us=>us=vs)
  (hc:∀(l:Lay) (s:Shared) (ws:List Value) (Q:Value->Shared->Prop) (E:Value->Shared->Prop),R c l loc [] s->Y0 l s.heap vs ws->(∀w s',M7 true s s'->VR l s'.heap u w->Q w s')->wpAny (model W.prog W.w) c.A (call (.ref a) ws) Q E s)
  (h:k u []):Fa W c (.Call (.Name fn fp) args [] pos) loc [] k:=λ l s Q E hR hQ=>by
 refine Call_ (Jm (w:=.ref a) A.H.O hR.r hk hd x1 ?_) rfl;refine callWith_of (P:=W.K.In) (by rw[Rp hs];rfl) (keeps_K x2) (Rf hs ?_);refine Ja (ev:=λ e k=>Gi F2 kL e loc [] k) (λ e k q=>(G8 A.H q).go) hs hv l s pos _ E hR.r λ us ws s1 k1 t1 v1 h1=>?_;subst h1;have hR1:=hR.keeps k1 t1;obtain⟨m,Fr1⟩:=hR1.r.fr;refine⟨A.H.O.inK.keeps (A.H.O.sub Fr1),?_⟩;refine Z0 (hc l s1 ws _ E hR1.r v1 λ w s' kd vw tk=>?_);obtain⟨h',tk',dr,rfl,sub,_⟩:=kd;obtain⟨hR2,ow2⟩:=hR1.drawn (h':=h') (tk:=tk') dr sub tk A.dr;exact hQ u w [] l _ ((Z6.ofK k1).trans ⟨h',tk',dr,rfl⟩) (Q1 t1 tk) ((OW.keeps k1).trans ow2) hR2 vw h
theorem Qo7 (A:Qzw W P c){b:LB}{U p:List Nat}(hU:U.Pairwise (· < ·))(hU3:U.length<=3)(hl:∀c∈U,62<c/\c<120)(hp:∀c∈p,c∈U)(p0:p≠[])(p7:p.length<=7)(hln:b.ln=mk LN){n:Int}{f h:V}{w:Array UInt8}
  (hK:∀loc st,K (.ret (.bool true)) loc st):XB W c [sN 26 18] (lo b n f h w [("pattern",.str (mk p))]) [] K:=by
 have hk:=Qsa;simp only[Qa,Zr]at hk;obtain⟨n1,n2,k1,k2⟩:=hk;have un:c.A.units<=1000:=by have:=A.H.O.units;lia
 have ne:Vb U p≠[]:=λ e=>by
  obtain⟨a,ha⟩:=List.exists_mem_of_ne_nil p p0;have:a∈Vb U p:=U0.mpr ⟨hp a ha,ha⟩;rw[e]at this;cases this
 have hN:Qf7 p (Vb U p):=⟨hU.filter _,λ c=>U0.trans ⟨λ h=>h.2,λ h=>⟨hp c h,h⟩⟩,ne,Q1 (Kg U p) hU3,λ c hc=>(hl c (U0.mp hc).1).2⟩;have mf:=Qvl hU hU3 hl hp p0 p7;have lm:=Qsi b n f h w (mk p);have lf:=Qse b n f h w (mk p);have ld:=Qso b n f h w (mk p);rw[hln]at lm ld;generalize lo b n f h w [("pattern",.str (mk p))]=loc at lm lf ld |-;refine Zp (Xk (λ loc' st'=>XB W c [] loc' st' K) K) ⟨λ l s Q E hR hQ=>?_⟩ λ J J J q=>q;rw[Zzh];refine wpAny_Return_some (wpAny_And2 (wpAny_Compare1 ?_ Qr0));refine Cb A (vs:=[.str (mk p),.str (mk LN)]) (u:=.bool (Et LN p (Vb U p))) (k:=λ v st=>v=.bool (Et LN p (Vb U p))/\st=[]) (by rw[A.H.kd];exact k1) (by decide) (by rw[A.hK];exact Qe7 P) (by rw[A.hK];exact Zze P) n1 (by rw[lm])
  (λ l s ws Q E hR hv hq=>Qgn A.hK 1 hN (by decide) p7 (by decide) c l loc [] s ws Q E A.H.O A.room hR hv hq) ⟨rfl,rfl⟩ l s _ E hR λ v1 w1 st1 l1 s1 sm1 t1 ow1 hR1 vr1 h1=>?_
 obtain⟨rfl,rfl⟩:=h1;refine Cb A (vs:=[.str (mk p)]) (u:=.bool (Ih U p)) (k:=λ v st=>v=.bool (Ih U p)/\st=[]) (by rw[A.H.kd];exact k2) (by decide) (by rw[A.hK];exact Qft P) (by rw[A.hK];exact Qdr P) n2 (by rw[lf])
  (λ l s ws Q E hR hv hq=>Qxj A.hK 1 hU hU3 (λ q=>Y6 _ (hl 62 q).1) p7 hp c l loc [] s ws Q E A.H.O A.room hR hv hq) ⟨rfl,rfl⟩ l1 s1 _ E hR1 λ v2 w2 st2 l2 s2 sm2 t2 ow2 hR2 vr2 h2=>?_
 obtain⟨rfl,rfl⟩:=h2;refine Z0 (G5 (l:=l2) (op:=.Eq) (a:=.bool (Et LN p (Vb U p))) (b:=.bool (Ih U p)) (k:=λ b=>b=true) un (VD.of (vr1.ow hR1.r ow2)) (VD.of vr2) (show(Et LN p (Vb U p)==Ih U p)=true by rw[mf,Qt]) _ _ λ b' s3 k3 hb tk=>wpAny_truthy_bool ?_);subst hb;rw[if_pos rfl];have hR3:=hR2.keeps k3 tk;refine(G8 A.H (k:=λ v=>v=.bool true) ?_).go l2 s3 _ E hR3.r λ v w4 s4 k4 t4 v4 h4=>?_
 .rw[ld,show Int.fmod (b.d:Int) 7=((b.d%7:Nat):Int) from Xf b.d 7];exact⟨by decide,b.d%7,rfl,Za _ (by decide),rfl⟩
 subst h4;have hR4:=hR3.keeps k4 t4;exact hQ (.ret (.bool true)) _ loc [] l2 s4 (sm1.trans (sm2.trans ((Z6.ofK k3).trans (Z6.ofK k4)))) (Q1 t1 (Q1 t2 (Q1 tk t4))) (ow1.trans (ow2.trans ((OW.keeps k3).trans (OW.keeps k4)))) hR4 (.ret v4) (hK loc [])
end
theorem Qmi:fB (stN 26)=[sN 26 0,sN 26 1,sN 26 2,sN 26 3,sN 26 4,sN 26 5,sN 26 6,sN 26 7,sN 26 8,sN 26 9,sN 26 10,sN 26 11,sN 26 12,sN 26 13,sN 26 14,sN 26 15,sN 26 16,sN 26 17,sN 26 18]:=by kernel_rfl
def Nm:Prop:=∀(W:Qj) (P:Params) (c:Cx) (ns:List Int) (K:KF),Qzw W P c->(∀loc st,K (.ret (.bool true)) loc st)->XB W c (fB (stN 26)) [("script",.list (ns.map V.int))] [] K
theorem Qmr:Nm:=by
 intro W P c ns K A hK;have H:=A.H;rw[Qmi];refine Zva H λ s p d=>Zvr H (Zvs H λ F hF=>Zvc H hF λ R hR=>Zvl H λ hc hh=>?_);have hf:=hF.fig hR;have l7:=hR.le;have R0:R≠[]:=λ e=>by have:=hR.ge;rw[e]at this;exact absurd this (by decide)
 have ll:(C8 R).length=R.length:=Q6 _;refine Zvn H hf l7 hh λ y1 y2 hy1 hy2=>?_;have l1:y1.length<=15:=Q1 hy1.2.2 (by lia);have l2:y2.length<=15:=hy2.2.2;have e34:b1 34=(34==hc):=Cn hh (by decide);have nml:(y1++34::hc::y2).length<=100:=by rw[Q8,Qb,Qb];lia
 have ind:∀(q:Nat->Prop),(∀x∈y1,q x)->q 34->q hc->(∀x∈y2,q x)->∀x∈y1++34::hc::y2,q x:=λ q a b e f x hx=>by
  rcases List.mem_append.mp hx with h |h
  .exact a x h
  .rcases Qx.mp h with rfl |h
   .exact b
   .rcases Qx.mp h with rfl |h
    .exact e
    .exact f x h
 have g1:∀x∈y1++34::hc::y2,b1 x=(x==hc):=ind _ (λ x hx=>(hy1.2.1 x hx).1) e34 (by rw[hh,Qt]) λ x hx=>(hy2.2.1 x hx).1;have g2:∀x∈y1++34::hc::y2,b1 x=true\/Wj x=true:=ind _ (λ x hx=>(hy1.2.1 x hx).2.2) (.inr rfl) (.inl hh) λ x hx=>(hy2.2.1 x hx).2.2;have g3:U3 (y1++34::hc::y2)=Vd 34 [C8 R,LN]:=by
  rw[Dk,Wp,Wp,hh,hy1.1,hy2.1,show cond (b1 34) [] (b3 34)=[34] by decide +kernel];rfl
 generalize y1++34::hc::y2=nm at nml g1 g2 g3 |-;refine Zvt H (by lia) (Zvd H (by lia) (Zvh A (by lia) (Zvf H g1 (Qow H (Qok H hf l7 R0 rfl λ f=>?_)))));refine Qox H (Km 7 R l7 hf) (Qdq d) rfl (Qoj H (Qoz H hf l7 (Qoq H hf l7 rfl (Qo9 H hf l7 (Qo8 H hf l7 g3 g2 (by lia) rfl rfl ?_)))));obtain⟨a,b,e,rfl,a1,a2,b1,b2,e1,e2⟩:=hF.h;refine Qo7 A (U:=[97+a,97+b,97+e]) ?_ (Q2 3) (λ x hx=>?_) (λ x hx=>?_) (λ q=>R0 (List.map_eq_nil_iff.mp q)) (ll▸l7) rfl hK
 .refine .cons (λ x hx=>?_) (.cons (λ x hx=>?_) (.cons (λ x hx=>nomatch hx) .nil))
  .simp only[Qx,Zf,or_false]at hx;lia
  .simp only[Qx,Zf,or_false]at hx;lia
 .simp only[Qx,Zf,or_false]at hx;lia
 .obtain⟨f,hf',rfl⟩:=Qv.mp hx;have:=hR.mem f hf';simp only[Qx,Zf,or_false]at this |-;lia
theorem Qd7 (P:Params):nsIn (KL P) cStatics sharingNotToldKey=some none:=by kernel_rfl
theorem Zj8 (P:Params):nsIn (KL P) mainGlobals "law"=some (some (.ref 201)):=by kernel_rfl
theorem Qy3 {R:WRecords}{P:Params}{h:Heap}(xs:List WData):∀{vs:List Value},WellAll P h vs xs->WShape.hasItems R xs .int=true->∃ns:List Int,∀l:Lay,Y0 l h (ns.map V.int) vs:=by
 induction xs with
 |nil=>intro vs w _;cases w;exact⟨[],λ J=>.nil⟩
 |cons x xs ih=>
  intro vs w e;have e:=Qe.mp e;cases w with
  |cons a b=>
   obtain⟨ns,hn⟩:=ih b e.2;cases a with
   |int i t=>exact⟨i::ns,λ l=>.cons (.int i t) (hn l)⟩
   |_=>exact(Zu e.1).elim
theorem Qmh:∀w:World,(λ os=>((staticsOk (importedModules pw.main.body) (boot_heap w.params) (H1 w.params)&&namesBound pw (H1 w.params)&&gensDone ⟨H1 w.params,#[],boot_drawn,2400,os⟩&&laidKept (boot_heap w.params) (H1 w.params)),
    openSeen qv W3 (importedModules pw.main.body) (λ s=>xlAt qv [] s&&recOk [] s) true ⟨H1 w.params,#[],boot_drawn,2400,os⟩,(HK.obs ⟨H1 w.params,#[],boot_drawn,2400,os⟩,(⟨H1 w.params,#[],boot_drawn,2400,os⟩:Shared).toks)))=λ J=>(true,openGood qv W3,(HK.val w,2400)):=by
 intro w
 funext os
 have h:=congrFun (Qdp w) os;simp only[Prod.mk.injEq]at h |-;exact⟨h.1,h.2.1,h.2.2,trivial⟩
theorem Qdf:LeftO pw qv W3 (λ s=>xlAt qv [] s&&recOk [] s) (λ s=>(HK.obs s,s.toks)) (λ w=>(HK.val w,2400)) 1000000:=
 LeftO.of_pieces Qsv Qs3 (λ w os=>whole_run w os) (by decide) Qmh
theorem Qpl {W:Qj}{P:Params}(hK:W.K=KL P){s:Shared}{v:Value}{ns:List Int}{Q:Value->Shared->Prop}{E:Value->Shared->Prop}(LR:Nm)(X:(KL P).In s.heap)(T:Top W.p W.loose W.mean W.mg W.mb s.heap)(tk:0<s.toks)
  (hv:∀N:Addr->Prop,(∀a,N a->s.heap.get? a=none)->VR ⟨N,[],[]⟩ s.heap (.list (ns.map V.int)) v)
  (hQ:∀s',M7 true s s'->Q (.bool true) s'):wpAny (model W.prog W.w) callerA (call (.ref 201) [v]) Q E s:=by
 refine wpAny_call ?_;obtain⟨mc,hmc,_⟩:=T.nodigits;have NB:NoneBooked s.heap:=⟨mc,hmc,ns_none_of X hmc (Qd7 P)⟩;have hcd:codeIn (KL P) (.ref 200) "law"=true:=by kernel_rfl
 have hk:(fS (stN 26)).kind=.function:=by kernel_rfl
 have hkind:∀x∈[("script":Str)],(fS (stN 26)).names.lookup x=some .local:=λ x hx=>by
  rw[Q3]at hx;subst hx
  kernel_rfl
 have dc:callerA.depth=301:=rfl;have uc:callerA.units=4:=rfl;refine codeAny_call_function (by rw[dc];decide) (X _ _ (Zjh P)) rfl (by kernel_rfl) (by kernel_rfl) rfl (codeRec_of X hcd) ((Ze (by kernel_rfl):BindsTo s (fnOf "law" "law" (fA (stN 26)) (fB (stN 26)) (fS (stN 26)) .none .none .none (.str "law_wr0043_02" 2321) none (.ref 200) .none) ⟨[v],[]⟩ [(("script":Str),v)]) _ _ _ _ ?_);refine Z0 (wpAny_newFunctionEnv_cells hk (λ x hx=>by
  rw[Q3]at hx;subst hx;exact .inl (hkind _ (.head _))) λ env' he s' x tk'=>?_)
 subst he;refine⟨(T.nolimit).keeps x.toInCall.keep,codeAny_func ?_⟩;obtain⟨h₁,tk2,rfl⟩:=x.toInCall.same;have big:∀a,s.heap.objs.size<=a->s.heap.get? a=none:=λ a ha=>by
  cases q:s.heap.get? a with
  |none=>rfl
  |some o=>exact absurd (Qh q) (Nat.not_lt.mpr ha)
 have s1:Sub s.heap h₁:=x.toInCall.keep;have nsL:h₁.Ns s.heap.objs.size _:=x.toInCall.ns;have F':Fr s.heap s.heap.objs.size h₁ _:=⟨nsL,s1,Q2 _⟩;have cellE:∀(y:Str) (a:Addr),(cellsFrom (s.heap.objs.size+1) (fS (stN 26)).names []).lookup y=some a->s.heap.get? a=none/\h₁.IsCell a _:=λ y a e=>
  ⟨big a (Nat.le_of_lt (x.above y a (Yn e))),x.cell y a e⟩
 let c:Cx:={A:=callerA.deeper (envOfC "law" (fS (stN 26)) s.heap.objs.size 201 (.ref 200)),A₀:=callerA,base:=s.heap,h₀:=s.heap,L:=s.heap.objs.size,fenv:=envOfC "law" (fS (stN 26)) s.heap.objs.size 201 (.ref 200),env:=envOfC "law" (fS (stN 26)) s.heap.objs.size 201 (.ref 200),outer:=[],bnd:=[],room:=3,B:=λ J=>False,dr:=true};have O':Ok W c:=⟨below_caller _,rfl,rfl,hk,hk,rfl,rfl,by rw[hK];exact X,T,rfl,NB,(by show callerA.units+3+8*3<=1000;rw[uc];decide),(by show callerA.depth+1+3<recursionLimit;rw[dc];decide),rfl,.inl rfl,λ J q=>nomatch q⟩;have A:Qzw W P c:=⟨Eb (Qa1 hK) O' rfl ⟨_,_,rfl⟩,hK,rfl,rfl,rfl,rfl⟩;let X':Addr->Prop:=λ a=>a=s.heap.objs.size\/∃y,(cellsFrom (s.heap.objs.size+1) (fS (stN 26)).names []).lookup y=some a;have hX:∀a,X' a->s.heap.get? a=none:=λ a q=>q.elim (λ q=>q▸X4 _) λ ⟨y,e⟩=>(cellE y a e).1;let l':Lay:={N:=X',σ:=[],x:=[]};have nos:∀{P:Prop} (n:Nat) (a:Addr),l'.σ[n]?=some a->P:=λ n a e=>by
  have e':([]:List Addr)[n]?=some a:=e;simp at e'
 have vv:VR l' h₁ (.list (ns.map V.int)) v:=(hv X' hX).sub s1
 have RS':RS c l' [("script",.list (ns.map V.int))] [] {s with heap:=h₁,toks:=tk2}:=by
  refine⟨⟨⟨_,.of F'⟩,⟨_,nsL,λ y u e=>?_,λ y hy u e=>?_⟩,λ n xs e=>(by simp at e),λ a ha=>?_,Qg tk tk',.inl rfl,λ y a e=>.inr ⟨y,e⟩,λ n a e=>nos n a e⟩,
   λ a q=>q.elim,λ n a e=>nos n a e,λ y a e=>(cellE y a e).1,rfl,X4 _,rfl,λ n m a e J=>nos n a e,λ y z a e e'=>Oo x.apart e e',λ y a e=>⟨_,(cellE y a e).2⟩⟩
  .have hy:y="script"/\u=.list (ns.map V.int):=by
    have:=Yn e;rw[Q3]at this;exact Prod.mk.inj this
   obtain⟨rfl,rfl⟩:=hy;refine⟨v,vv,.inl ⟨hkind _ (.head _),?_⟩⟩;exact Qz5 (kd:=(envOfC "law" (fS (stN 26)) s.heap.objs.size 201 (.ref 200)).kindOf) (hkind _ (.head _)) [("script",v)] _
  .exact nomatch hy
  .rcases ha with ha |⟨y,ha⟩
   .obtain⟨o,_,_,ho,_⟩:=nsL;exact⟨o,ha▸ho⟩
   .obtain⟨o,ho,_⟩:=(cellE y a ha).2;exact⟨o,ho⟩
 refine(LR W P c ns (λ fl J J=>fl=.ret (.bool true)) A λ J J=>rfl).go l' _ _ _ RS' λ fl fw loc' st' l'' s' sm tk3 ow hR' hf h'=>?_;subst h';obtain⟨_,rfl,vw⟩:=hf;cases vw;obtain⟨m',FX''⟩:=hR'.r.fr;have sub':Sub s.heap s'.heap:=(FX''.fr rfl).keep;obtain⟨h2,t2,dr,rfl⟩:=sm;exact hQ _ ⟨h2,t2,dr,rfl,sub',λ q=>nomatch q⟩
end
theorem Qms:OpenLaw.wellSaid PySem.Challenge.rw_wr0043_02=true:=by kernel_rfl
noncomputable def fPo (s:Stmt):Pos:=if h:s.ctorIdx=0 then Stmt.FunctionDef.elim s h λ J J J J J J J J J p=>p else default
noncomputable def Qqr:DefRec:=⟨"law",fA (stN 26),fB (stN 26),fS (stN 26),fPo (stN 26)⟩
def opR:OpenRow:=PySem.Challenge.rw_wr0043_02.row
theorem Qdn:defOf qv opR.name=some (Qqr,[]):=by kernel_rfl
theorem Qdd:opR.prog.theDef opR.name=some (Qqr.params,Qqr.body,Qqr.scope):=by kernel_rfl
theorem Qss:kwWritten? Qqr.params.kwonlyargs Qqr.params.kw_defaults=some []:=by kernel_rfl
theorem Qsc:(!opR.writes||opR.records.isEmpty)=true:=by kernel_rfl
theorem Qdt:(chainsOk qv&&opensWell opR.prog&&(frees opR.toRowW&&opR.within.isEmpty))=true:=by kernel_rfl
theorem Qme:opR.prog.bare:=⟨rfl,rfl,rfl,rfl,rfl,by kernel_rfl⟩
theorem Qma (xs:List WData):opR.toRowW.claim.post [WData.list xs] (.bool true) [WData.list xs]=true:=by kernel_rfl
theorem Qmo:opR.toRowW.args=[.list .int]:=by kernel_rfl
theorem Qmc (LR:Nm):WalkX qv W3 (XL qv []) (λ s=>(HK.obs s,s.toks)) (λ w=>(HK.val w,2400)) opR.toRowW Qqr [] λ f vs=>PySem.call f vs:=by
 intro w s₀ s₁ mg mb G Y a o pm cd doc dV kV ho hd hcr hD hmg hgens args vals as L hpre hlay hrd hwell hsys;have Y1:HK.obs s₀=HK.val w:=(Prod.mk.inj Y).1;have Y2:s₀.toks=2400:=(Prod.mk.inj Y).2;have X0:(KL w.params).In s₀.heap:=Hook.of HK w s₀ Y1;have X:(KL w.params).In s₁.heap:=λ b o h=>L.keeps b o (X0 b o h);have tk:0<s₁.toks:=by
  obtain⟨ord,_,hl⟩:=L.laid;have e:s₀.toks<=s₁.toks:=(layAllW_grows _ _ _ hl).toks;exact Qg (by rw[Y2];decide) e
 have ha:a=201:=by
  have h1:=mg_of X G.T.g (Zj8 w.params);rw[show mg ("law":Str)=some (.ref a) from hmg]at h1;exact Value.ref.inj (Option.some.inj h1)
 subst ha;obtain⟨p1,_⟩:=pre_splitW hpre;rw[Qmo]at p1;obtain⟨d,r,rfl,p2,p3⟩:=hasAllW_cons p1;have er:r=[]:=by cases r with
  |nil=>rfl
  |cons _ _=>cases p3
 subst er;cases hwell with
 |cons wl wn=>
  cases wn with
  |nil=>
   cases wl with
   | @list ad vs xs hl wl=>
    obtain⟨ns,hns⟩:=Qy3 (R:=opR.records) xs wl ((Bool.or_false _).symm.trans (show(WShape.hasItems opR.records xs .int||false)=true from p2));refine Qpl (W:=⟨pw,w,KL w.params,qv,looseW qv W3,ExcName.means s₀.heap,mg,mb⟩) (P:=w.params) (ns:=ns) rfl LR X G.T tk (λ N hN=>?_) λ s' kp=>?_
    .exact .list (λ q=>by have:=hN _ q;rw[hl]at this;cases this) ⟨0,hl⟩ (hns _)
    .obtain⟨h',t',dr,rfl,sub,_⟩:=kp;exact⟨.inl ⟨.bool true,.bool true,[],rfl,λ J=>rfl,.bool true,Qma xs,λ J=>⟨.nil,λ a ha=>nomatch ha⟩⟩,.of_keep sub,rfl,.of_eq hgens⟩
   |_=>cases p2
theorem Qva (LR:Nm):PySem.Challenge.rw_wr0043_02.Holds:=by
 refine holds_law Qms λ said=>?_;exact holds_openX (r:=opR) (q:=qv) (loose:=W3) (Xt:=λ s=>xlAt qv [] s&&recOk [] s) (XP:=XL qv []) (Yf:=λ s=>(HK.obs s,s.toks)) (Ya:=λ w=>(HK.val w,2400)) (N:=1000000) (d:=Qqr) (kwd:=[]) Qdf (λ s e=>xl_of s (Qe.mp e).1) XL.keeps Qdn Qdd Qss (λ s e=>recFacts_of (Qe.mp e).2) Qsc said Qdt Qme (by w_witness2) (Qmc LR)
theorem wr0043_02:PySem.Challenge.rw_wr0043_02.Holds:=Qva Qmr
end Mine
theorem PySem.Challenge.cw_wr0043_02_holds : PySem.Challenge.rw_wr0043_02.Holds :=
 Mine.wr0043_02
