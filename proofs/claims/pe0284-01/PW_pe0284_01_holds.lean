import PyProof.Rows.All
import Wide.All
import OpenK.AllK
import Wide.FinOn
import PySem.Challenge.RW_pe0284_01
set_option Elab.async false
set_option linter.all false
set_option genSizeOf false
set_option genInjectivity false
set_option genCtorIdx false
set_option bootstrap.genMatcherCode false
set_option maxRecDepth 100000
set_option maxHeartbeats 0
noncomputable section
open PySem PySem.W
set_option genInjectivity true
namespace Mine
def lt3:∀j,j < 3->j=0\/j=1\/j=2:=by decide
def lt4:∀j,j < 4->j=0\/j=1\/j=2\/j=3:=by decide
def lt7:∀j,j < 7->j=0\/j=1\/j=2\/j=3\/j=4\/j=5\/j=6:=by decide
def QB(x:Nat):(2*x+1) / 2=x:=Nat.mul_add_div (by decide) x 1
theorem UQ:∀{x:Int},x > 0->∃k:Nat,x=Int.ofNat (k+1)
 | .ofNat (k+1),_=>⟨k,rfl⟩
 | .ofNat 0,h=>absurd h (Int.lt_irrefl 0)
 | .negSucc k,h=>absurd h (Int.not_lt.mpr (Int.le_of_lt (Int.negSucc_lt_zero k)))
def zr{D:Type}{x:D}{P:Prop}(h:none=some x):P:=by cases h
def u0{D:Type}{f g:Nat->D}{n:Nat}(h:(List.range n).map f=(List.range n).map g)(k:Nat)(hk:k < n):f k=g k:=List.map_inj_left.mp h k (List.mem_range.mpr hk)
def wq{A a B b n:Nat}(h:A+a+(B+b)<=n):A<=n/\a<=n/\B<=n/\b<=n:=
 have h1:=Nat.le_trans (Nat.le_add_right _ _) h
 have h2:=Nat.le_trans (Nat.le_add_left _ _) h
 ⟨Nat.le_trans (Nat.le_add_right _ _) h1,Nat.le_trans (Nat.le_add_left _ _) h1,Nat.le_trans (Nat.le_add_right _ _) h2,Nat.le_trans (Nat.le_add_left _ _) h2⟩
def zu{a b:Nat}(h:a<=b)(hb:Nat.ble b 1000=true):a<=1000:=Nat.le_trans h (Nat.le_of_ble_eq_true hb)
noncomputable def nth{D:Type}:List D->Nat->Option D
 |[],_=>none
 |x::_,0=>some x
 | _::l,n+1=>nth l n
noncomputable def upd{D:Type}:List D->Nat->D->List D
 |[],_,_=>[]
 | _::l,0,y=>y::l
 |x::l,n+1,y=>x::upd l n y
inductive LV where
 |n (x:Nat)|v (x:Value)|o (x:Obj)|a (x:Array Value)|c (x:Code)|i (x:Int)|s (x:Str)|b (x:Bool)|w (x:List (Code × Pos))|ov (x:Option Value)|lv (x:List Value)
abbrev Lg:=List (LV × LV)
def Lg.Ok(l:Lg):Prop:=∀p∈l,p.1=p.2
abbrev zb:=List (Addr × Obj)
abbrev zk:=List (Nat × GenState)
structure Ch where
 tok:Nat->Tok
 obj:Nat->Obj
noncomputable def Ch.of(n:Nat):Ch:=⟨λ_=>n,λ_=>⟨.none,none,.plain,#[]⟩⟩
structure ExtOut where
 res:Result
 posts:List Obj
 news:List Obj
 lg:Lg
 pc:Lg
structure Ext where
 m:Nat
 k:Nat->Nat
 mg:Bool
 f:Nat->Code->List (Code × Pos)->List (Addr × Obj)->zk->List Addr->Ch->Option ExtOut
structure Cfg where
 den:Code->Sem Fin
 prog:Program
 params:Params
 base:Nat->Option (Addr × Obj)
 W:List (Code × Pos)
 n:Nat
 tail:List (Addr × Obj)
structure Out where
 T:zb
 a:Nat
 i:Nat
 G:zk
 b:Nat
 lg:Lg
 pc:Lg
 cur:Sem Fin
 code:Code
 pos:Pos
 fs:List Frame
noncomputable def putObjs(T:zb):List Nat->List Obj->Option zb
 | _,[]=>some T
 |j::js,o::r=>match Nat.beq (j % 2) 1 with
  |true=>match nth T (j / 2) with
   |some (x,_)=>putObjs (upd T (j / 2) (x,o)) js r
   |none=>none
  |false=>none
 |[],_::_=>none
noncomputable def norm(m:Nat):List Nat->List Nat
 |[]=>[]
 |j::js=>(match Nat.beq (j % 2) 0 with
  |true=>j
  |false=>2*(m - 1 - j / 2)+1)::norm m js
noncomputable def notIn(j:Nat):List Nat->Bool
 |[]=>true
 |i::l=>match Nat.beq i j with
  |true=>false
  |false=>notIn j l
noncomputable def distinct:List Nat->Bool
 |[]=>true
 |j::l=>match notIn j l with
  |true=>distinct l
  |false=>false
noncomputable def cut:Nat->List Nat->Option (List Nat × List Nat)
 |0,l=>some ([],l)
 |n+1,j::l=>match cut n l with
  |some (a,b)=>some (j::a,b)
  |none=>none
 | _+1,[]=>none
noncomputable def notFreed:List Obj->Bool
 |[]=>true
 |o::l=>match o.isFreed with
  |false=>notFreed l
  |true=>false
noncomputable def newObjs(T:zb):List Addr->List Obj->Option zb
 |[],[]=>some T
 |x::xs,o::r=>newObjs ((x,o)::T) xs r
 | _,_=>none
noncomputable def adrs(D:Nat->Addr)(a:Nat):Nat->List Addr
 |0=>[]
 |k+1=>D a::adrs D (a+1) k
noncomputable def hdOf(fs:List Frame):Option Value:=(marksOver fs (none,none)).1
noncomputable def hdOk(fs:List Frame):Bool:=match marksOver fs (none,none) with
 |(none,none)=>true
 | _=>false
def look(C:Cfg)(m:Nat)(T:zb)(j:Nat):Option (Addr × Obj):=match Nat.beq (j % 2) 0 with
 |true=>C.base (j / 2)
 |false=>nth T (m - 1 - j / 2)
def look1(C:Cfg)(T:zb)(j:Nat):Option (Addr × Obj):=match Nat.beq (j % 2) 0 with
 |true=>C.base (j / 2)
 |false=>nth T (j / 2)
noncomputable def looks(C:Cfg)(T:zb):List Nat->Option zb
 |[]=>some []
 |j::js=>match look1 C T j with
  |some x=>match x.2.isFreed with
   |false=>match looks C T js with
    |some xs=>some (x::xs)
    |none=>none
   |true=>none
  |none=>none
noncomputable def takeG:Bool->zk->Option (zk × zk)
 |false,G=>some ([],G)
 |true,g::G=>some ([g],G)
 |true,[]=>none
abbrev xE:=List Nat->zb->Nat->Nat->zk->Nat->Lg->Lg->Sem Fin->Code->Pos->List Frame->Option Out
section
variable (C:Cfg) (X:List Ext) (D:Nat->Addr) (Z:Nat->Ch) (O:Nat->Nat) (ih:xE) (tp:List Nat) (T:zb) (a i:Nat) (G:zk) (b:Nat) (lg pc:Lg)
noncomputable def stF(r:Except Value Flow)(fs:List Frame):Option Out:=match fs with
 | .ret k _ _ _ c p _::rest=>ih tp T a i G b lg pc (k r) c p rest
 | _=>none
noncomputable def stL(x:Addr)(k:Obj->Sem Fin)(code:Code)(pos:Pos)(fs:List Frame)(z:Option (Addr × Obj)):Option Out:=match z with
 |some z=>match z.2.isFreed with
  |false=>ih tp T a i G b ((.n x,.n z.1)::lg) pc (k z.2) code pos fs
  |true=>none
 |none=>none
def stU(x:Addr)(f:Obj->Obj)(k:Unit->Sem Fin)(code:Code)(pos:Pos)(fs:List Frame)(j:Nat)(z:Option (Addr × Obj)):Option Out:=match z with
 |some z=>match z.2.isFreed with
  |false=>match (f z.2).isFreed with
   |false=>ih tp (upd T j (z.1,f z.2)) a i G b ((.n x,.n z.1)::lg) pc (k ()) code pos fs
   |true=>none
  |true=>none
 |none=>none
def stE(E:Ext)(d:Nat)(c:Code)(k:Result->Sem Fin)(code:Code)(pos:Pos)(fs:List Frame)(js:List Nat)(G':zk)(r:Option ExtOut):Option Out:=match r with
 |some r=>match putObjs T js r.posts with
  |some T'=>match notFreed r.news with
   |true=>match newObjs T' (adrs D a (E.k d)) r.news with
    |some T''=>ih tp T'' (a+E.k d) (i+1) G' b (r.lg++lg) (r.pc++pc) (k r.res) code pos fs
    |none=>none
   |false=>none
  |none=>none
 |none=>none
def stX(E:Ext)(d:Nat)(c:Code)(h:Option Value)(k:Result->Sem Fin)(code:Code)(pos:Pos)(fs:List Frame)(js:List Nat):Option Out:=match distinct js with
 |true=>match h with
  |none=>match hdOk fs with
   |true=>match looks C T js with
    |some objs=>match takeG E.mg G with
     |some z=>stE D ih tp T a i b lg pc E d c k code pos fs js z.2 (E.f d c ((code,pos)::(fs.map Frame.where_++C.W)) objs z.1 (adrs D a (E.k d)) (Z i))
     |none=>none
    |none=>none
   |false=>none
  |some _=>none
 |false=>none
def stC(c:Code)(h:Option Value)(k:Result->Sem Fin)(code:Code)(pos:Pos)(fs:List Frame)(e:Nat)(tp:List Nat):Option Out:=match tp with
 |[]=>none
 |d::tp=>match nth X e with
  |none=>none
  |some E=>match cut E.m tp with
   |none=>none
   |some z=>stX C D Z ih z.2 T a i G b lg pc E d c h k code pos fs (norm (C.n+a) z.1)
def st1(cur:Sem Fin)(code:Code)(pos:Pos)(fs:List Frame):Option Out:=
 match cur with
 | .pure fin=>match fin with
  | .again c=>match c.quiet with
   |true=>ih tp T a i G b lg pc (C.den c) c pos fs
   |false=>none
  | .done f=>stF ih tp T a i G b lg pc (.ok f) fs
 | .raise e=>stF ih tp T a i G b lg pc (.error e) fs
 | .rule _ k=>ih tp T a i G b lg pc (k ()) code pos fs
 | .at p k=>ih tp T a i G b lg pc (k ()) code p fs
 | .point _ k=>ih tp T a i G b lg pc (k ()) code pos fs
 | .ask k=>ih tp T a i G b lg pc (k ⟨C.prog,C.params⟩) code pos fs
 | .fresh k=>ih tp T a (i+1) G b lg pc (k ((Z i).tok 0)) code pos fs
 | .load x _ k=>match tp with
  |j::tp=>stL ih tp T a i G b lg pc x k code pos fs (look C (C.n+a) T j)
  |[]=>none
 | .update x _ f k=>match tp with
  |j::tp=>stU ih tp T a i G b lg pc x f k code pos fs (C.n+a - 1 - j) (nth T (C.n+a - 1 - j))
  |[]=>none
 | .alloc o k=>match o.isFreed with
  |false=>ih tp ((D a,o)::T) (a+1) i G b lg pc (k (D a)) code pos fs
  |true=>none
 | .handled own k=>match own with
  |false=>ih tp T a i G b lg pc (k (hdOf fs)) code pos fs
  |true=>none
 | .stack k=>ih tp T a i G b lg pc (k ((code,pos)::(fs.map Frame.where_++C.W))) code pos fs
 | .call c h g l k=>match tp with
  |j::tp=>match j with
   |0=>ih tp T a i G b lg pc (C.den c) c pos (.ret k h g l code pos []::fs)
   |e+1=>stC C X D Z ih T a i G b lg pc c h k code pos fs e tp
  |[]=>none
 | .newGen c k=>ih tp T a i ((O b,.fresh c)::G) (b+1) lg pc (k (O b)) code pos fs
 | _=>none
end
@[irreducible] noncomputable def exec (C:Cfg) (X:List Ext) (D:Nat->Addr) (Z:Nat->Ch) (O:Nat->Nat) (n:Nat):xE:=
 @Nat.rec (λ_=>xE) (λ_ T a i G b lg pc cur code pos fs=>some ⟨T,a,i,G,b,lg,pc,cur,code,pos,fs⟩) (λ_ ih=>st1 C X D Z O ih) n
def execM(C:Cfg)(X:List Ext)(D:Nat->Addr)(Z:Nat->Ch)(O:Nat->Nat)(n:Nat):xE:=
 @Nat.rec (λ_=>xE) (λ_ T a i G b lg pc cur code pos fs=>some ⟨T,a,i,G,b,lg,pc,cur,code,pos,fs⟩) (λ_ ih=>st1 C X D Z O ih) n
def vy{C:Cfg}{X:List Ext}{D:Nat->Addr}{Z:Nat->Ch}{O:Nat->Nat}{n:Nat}:exec C X D Z O n=execM C X D Z O n:=by unfold exec;rfl
section
variable {C:Cfg} {X:List Ext} {D:Nat->Addr} {Z:Nat->Ch} {O:Nat->Nat}
theorem w4:exec C X D Z O 0=λ_ T a i G b lg pc cur code pos fs=>some ⟨T,a,i,G,b,lg,pc,cur,code,pos,fs⟩:=by unfold exec;rfl
theorem w5{n:Nat}:exec C X D Z O (n+1)=st1 C X D Z O (exec C X D Z O n):=by unfold exec;rfl
end
end Mine
end
noncomputable section
set_option genInjectivity true
namespace Mine
def cps{P:Prop}(h:∀G:Prop,(P->G)->G):P:=h P id
end Mine
end
noncomputable section
open PyProof.Rows PySem PySem.W
namespace Mine
theorem zx{D:Type}:∀{l:List D} {j:Nat} {x:D},nth l j=some x->x∈l
 |[],_,_,h=>by cases h
 |y::l,0,x,h=>by cases h;exact .head _
 |y::l,j+1,x,h=>.tail _ (zx (l:=l) h)
theorem xX{D:Type}:∀{l:List D} {j:Nat} {y x:D},x∈upd l j y->x=y\/x∈l
 |[],_,_,_,h=>by cases h
 |z::l,0,y,x,h=>by
  exact(List.mem_cons.mp (show x∈y::l from h)).imp id (λh=>.tail _ h)
 |z::l,j+1,y,x,h=>by
  rcases List.mem_cons.mp (show x∈z::upd l j y from h) with h|h
  ·exact .inr (h▸.head _)
  ·exact(xX h).imp id (λh=>.tail _ h)
theorem yJ{D:Type}(q:D->Nat):∀{l:List D} {j:Nat} {x y:D},nth l j=some x->q y=q x->(upd l j y).map q=l.map q
 |[],_,_,_,h,_=>by cases h
 |z::l,0,x,y,h,e=>by
  cases h
  show q y::l.map q=q z::l.map q
  rw[e]
 |z::l,j+1,x,y,h,e=>by
  show q z::(upd l j y).map q=q z::l.map q
  rw[yJ q (l:=l) h e]
theorem ye{D:Type}(q:D->Nat):∀{l:List D} {j:Nat} {x y z:D},nth l j=some x->q y=q x->(l.map q).Nodup->z∈upd l j y->z=y\/(z∈l/\q z≠q x)
 |[],_,_,_,_,h,_,_,_=>by cases h
 |w::l,0,x,y,z,h,e,nd,hz=>by
  cases h
  rcases List.mem_cons.mp (show z∈y::l from hz) with hz|hz
  ·exact .inl hz
  ·refine .inr ⟨.tail _ hz,λe'=>?_⟩
   simp only[List.map_cons,List.nodup_cons] at nd
   exact nd.1 (e'▸List.mem_map_of_mem hz)
 |w::l,j+1,x,y,z,h,e,nd,hz=>by
  simp only[List.map_cons,List.nodup_cons] at nd
  rcases List.mem_cons.mp (show z∈w::upd l j y from hz) with hz|hz
  ·subst hz
   refine .inr ⟨.head _,λe'=>nd.1 (e'▸List.mem_map_of_mem (zx h))⟩
  ·exact(ye q (l:=l) h e nd.2 hz).imp id λ⟨a,b⟩=>⟨.tail _ a,b⟩
def Sfx(lg pc:Lg)(o:Option Out):Prop:=∀out,o=some out->lg <:+ out.lg/\pc <:+ out.pc
theorem Sfx.none{lg pc:Lg}:Sfx lg pc .none:=λ_ h=>nomatch h
def Sfx.up{lg pc lg' pc':Lg}{o:Option Out}(h:Sfx lg' pc' o)(h1:lg <:+ lg')(h2:pc <:+ pc'):Sfx lg pc o:=λout e=>⟨h1.trans (h out e).1,h2.trans (h out e).2⟩
def IhSf(ih:xE):Prop:=∀tp T a i G b lg pc cur code pos fs,Sfx lg pc (ih tp T a i G b lg pc cur code pos fs)
def IhSf.at{ih:xE}(H:IhSf ih){tp T a i G b lg pc cur code pos fs}:Sfx lg pc (ih tp T a i G b lg pc cur code pos fs):=H _ _ _ _ _ _ _ _ _ _ _ _
section
variable {C:Cfg} {X:List Ext} {D:Nat->Addr} {Z:Nat->Ch} {O:Nat->Nat} {ih:xE} (H:IhSf ih) {tp:List Nat} {T:zb} {a i:Nat} {G:zk} {b:Nat} {lg pc:Lg} {code:Code} {pos:Pos} {fs:List Frame}
include H
theorem Y4{r:Except Value Flow}:Sfx lg pc (stF ih tp T a i G b lg pc r fs):=by
 cases fs with
 |nil=>exact .none
 |cons f fs=>cases f with
  |ret=>exact H.at
  |gen=>exact .none
theorem UD{x k}(z):Sfx lg pc (stL ih tp T a i G b lg pc x k code pos fs z):=by
 cases z with
 |none=>exact .none
 |some z=>
  unfold stL
  dsimp only
  cases z.2.isFreed with
  |true=>exact .none
  |false=>exact H.at.up (List.suffix_cons _ _) List.suffix_rfl
theorem UC{x f k j}(z):Sfx lg pc (stU ih tp T a i G b lg pc x f k code pos fs j z):=by
 cases z with
 |none=>exact .none
 |some z=>
  unfold stU
  dsimp only
  cases z.2.isFreed with
  |true=>exact .none
  |false=>cases (f z.2).isFreed with
   |true=>exact .none
   |false=>exact H.at.up (List.suffix_cons _ _) List.suffix_rfl
theorem UE{E d c k js G'}(r):Sfx lg pc (stE D ih tp T a i b lg pc E d c k code pos fs js G' r):=by
 cases r with
 |none=>exact .none
 |some r=>
  unfold stE
  dsimp only
  cases putObjs T js r.posts with
  |none=>exact .none
  |some T'=>cases notFreed r.news with
   |false=>exact .none
   |true=>
    dsimp only
    cases newObjs T' (adrs D a (E.k d)) r.news with
    |none=>exact .none
    |some T''=>exact H.at.up (List.suffix_append _ _) (List.suffix_append _ _)
theorem UB{E d c h k js}:Sfx lg pc (stX C D Z ih tp T a i G b lg pc E d c h k code pos fs js):=by
 unfold stX
 cases distinct js with
 |false=>exact .none
 |true=>cases h with
  |some _=>exact .none
  |none=>cases hdOk fs with
   |false=>exact .none
   |true=>
    dsimp only
    cases looks C T js with
    |none=>exact .none
    |some objs=>cases takeG E.mg G with
     |none=>exact .none
     |some z=>exact UE H _
theorem UF{c h k e}:Sfx lg pc (stC C X D Z ih T a i G b lg pc c h k code pos fs e tp):=by
 cases tp with
 |nil=>exact .none
 |cons d tp=>
  unfold stC
  dsimp only
  cases nth X e with
  |none=>exact .none
  |some E=>
   dsimp only
   cases cut E.m tp with
   |none=>exact .none
   |some z=>exact UB H
theorem Y5:IhSf (st1 C X D Z O ih):=λtp T a i G b lg pc cur code pos fs=>by
 cases cur with
 |pure fin=>cases fin with
  |again c=>
   show Sfx lg pc (match c.quiet with|true=>_|false=>_)
   cases c.quiet with
   |true=>exact H.at
   |false=>exact .none
  |done f=>exact Y4 H
 |raise e=>exact Y4 H
 |rule t k=>exact H.at
 |«at» p k=>exact H.at
 |point l k=>exact H.at
 |ask k=>exact H.at
 |fresh k=>exact H.at
 |load x p k=>cases tp with
  |nil=>exact .none
  |cons j tp=>exact UD H _
 |update x p f k=>cases tp with
  |nil=>exact .none
  |cons j tp=>exact UC H _
 |alloc o k=>
  show Sfx lg pc (match o.isFreed with|false=>_|true=>_)
  cases o.isFreed with
  |true=>exact .none
  |false=>exact H.at
 |handled own k=>cases own with
  |true=>exact .none
  |false=>exact H.at
 |stack k=>exact H.at
 |call c h g l k=>cases tp with
  |nil=>exact .none
  |cons j tp=>cases j with
   |zero=>exact H.at
   |succ e=>exact UF H
 |newGen c k=>exact H.at
 | _=>exact .none
end
def Vo{C:Cfg}{X:List Ext}{D:Nat->Addr}{Z:Nat->Ch}{O:Nat->Nat}(n:Nat):IhSf (exec C X D Z O n):=by
 induction n with
 |zero=>
  rw[w4]
  intro tp T a i G b lg pc cur code pos fs out h
  cases h
  exact⟨List.suffix_rfl,List.suffix_rfl⟩
 |succ n ih=>rw[w5];exact Y5 ih
def wM{b:Bool}{G gs G':zk}(h:takeG b G=some (gs,G')):∀p∈G',p∈G:=by
 unfold takeG at h
 (split at h)<;>simp only[Option.some.injEq,Prod.mk.injEq,reduceCtorEq] at h
 ·exact λp hp=>h.2▸hp
 ·exact λp hp=>.tail _ (h.2▸hp)
def y1{b:Bool}{G gs G':zk}(h:takeG b G=some (gs,G')):∀p∈gs,p∈G:=by
 unfold takeG at h
 (split at h)<;>simp only[Option.some.injEq,Prod.mk.injEq,reduceCtorEq] at h
 ·intro p hp;rw[<-h.1] at hp;cases hp
 ·intro p hp
  rw[<-h.1] at hp
  rcases List.mem_cons.mp hp with rfl|hp
  ·exact .head _
  ·cases hp
structure Rel (C:Cfg) (T:zb) (G:zk) (s:Shared):Prop where
 slots:∀p∈T,p.2.isFreed=false->s.heap.get? p.1=some p.2
 bound:∀p∈T,p.1 < s.heap.objs.size
 nodup:(T.map (·.1)).Nodup
 base:∀L p,C.base L=some p->s.heap.get? p.1=some p.2
 apart:∀p∈T,∀L q,C.base L=some q->q.1≠p.1
 gslots:∀p∈G,s.gens[p.1]?=some p.2
 gnodup:(G.map (·.1)).Nodup
 bare:AllBare s.gens
def Sh(C:Cfg)(a:Nat)(T:zb):Prop:=∃E,T=E++C.tail/\E.length=C.n+a
structure Kp (T:zb) (G:zk) (s s':Shared):Prop where
 heap:∀x o,s.heap.get? x=some o->(∀p∈T,p.1≠x)->s'.heap.get? x=some o
 gens:∀g st,s.gens[g]?=some st->(∀p∈G,p.1≠g)->s'.gens[g]?=some st
 os:s'.os=s.os
 size:s.heap.objs.size<=s'.heap.objs.size
def Kp.refl(T G s):Kp T G s s:=⟨λ_ _ h _=>h,λ_ _ h _=>h,rfl,Nat.le_refl _⟩
structure Under (C:Cfg) (F:List Frame):Prop where
 wh:F.map Frame.where_=C.W
 hd:topHandled F=none
 past:topHandled.go true F=none
theorem Under.hdOf{C:Cfg}{F:List Frame}(U:Under C F)(fs:List Frame):topHandled (fs++F)=Mine.hdOf fs:=by
 rw[topHandled_append,U.hd,U.past];rfl
structure Cfg.Ok (C:Cfg) (w:World):Prop where
 den:C.den=denote table
 par:C.params=w.params
 pos:0 < C.n
def ExtOk(C:Cfg)(w:World)(F:List Frame)(E:Ext):Prop:=
 ∀(s:Shared) (a:Nat) (T:zb) (G:zk) (code:Code) (pos:Pos) (fs:List Frame) (c:Code) (g:Bool) (l:List Value) (k:Result->Sem Fin) (objs:zb) (d:Nat) (js:List Nat) (gs G':zk),
  Rel C T G s->takeG E.mg G=some (gs,G')->Sh C a T->js.length=E.m->distinct js=true->hdOk fs=true->looks C T js=some objs->(∀j∈js,j % 2=1->j / 2 < C.n+a)->
  ∃(xs:List Addr) (t:Ch),xs.length=E.k d/\(∀y∈xs,s.heap.objs.size<=y)/\∀r,E.f d c ((code,pos)::(fs.map Frame.where_++C.W)) objs gs xs t=some r->Lg.Ok r.lg->Lg.Ok r.pc->
   notFreed r.news=true->∀T' T'',putObjs T js r.posts=some T'->newObjs T' xs r.news=some T''->
   ∃s',Comes (model C.prog w) s ⟨.call c none g l k,code,pos,fs++F⟩ s' ⟨k r.res,code,pos,fs++F⟩/\Rel C T'' G' s'/\Kp T G s s'
def Kp.trans_sub{T T':zb}{G G':zk}{s s₁ s':Shared}(h:Kp T G s s₁)(h':Kp T' G' s₁ s')
  (hT:∀x o,s.heap.get? x=some o->(∀p∈T,p.1≠x)->∀p∈T',p.1≠x) (hG:∀g st,s.gens[g]?=some st->(∀p∈G,p.1≠g)->∀p∈G',p.1≠g):Kp T G s s':=
 ⟨λx o e q=>h'.heap x o (h.heap x o e q) (hT x o e q),λg st e q=>h'.gens g st (h.gens g st e q) (hG g st e q),h'.os.trans h.os,Nat.le_trans h.size h'.size⟩
def Rel.lt{C:Cfg}{T G s}(R:Rel C T G s){p}(hp:p∈T):p.1 < s.heap.objs.size:=R.bound p hp
def Rel.alloc{C:Cfg}{T G s}(R:Rel C T G s){o:Obj}(ho:o.isFreed=false):Rel C ((s.heap.objs.size,o)::T) G { s with heap:=s.heap.push o } where
 slots p hp hf:=by
  rcases List.mem_cons.mp hp with rfl|hp
  ·exact Heap.get?_push_size _ ho
  ·exact Heap.get?_push_of_some _ (R.slots p hp hf)
 bound p hp:=by
  show p.1 < (s.heap.push o).objs.size
  rw[Heap.size_push]
  rcases List.mem_cons.mp hp with rfl|hp
  ·exact Nat.lt_succ_self _
  ·exact Nat.lt_succ_of_lt (R.bound p hp)
 nodup:=by
  simp only[List.map_cons,List.nodup_cons]
  refine⟨λh=>?_,R.nodup⟩
  obtain⟨p,hp,e⟩:=List.mem_map.mp h
  exact absurd (R.lt hp) (by rw[show p.1=s.heap.objs.size from e];exact Nat.lt_irrefl _)
 base L p h:=Heap.get?_push_of_some _ (R.base L p h)
 apart p hp L q hq:=by
  rcases List.mem_cons.mp hp with rfl|hp
  ·exact Nat.ne_of_lt (Heap.lt_size (R.base L q hq))
  ·exact R.apart p hp L q hq
 gslots:=R.gslots
 gnodup:=R.gnodup
 bare:=R.bare
def Kp.alloc{T G s}(o:Obj):Kp T G s { s with heap:=s.heap.push o }:=
 ⟨λ_ _ h _=>Heap.get?_push_of_some _ h,λ_ _ h _=>h,rfl,by simp⟩
theorem Rel.update{C:Cfg}{T G s}(R:Rel C T G s){j x o}{f:Obj->Obj}(hj:nth T j=some (x,o))(ho:o.isFreed=false)(hf:(f o).isFreed=false) :
  Rel C (upd T j (x,f o)) G { s with heap:=s.heap.update x f } where
 slots p hp hfr:=by
  rcases ye (·.1) (y:=(x,f o)) hj rfl R.nodup hp with rfl|⟨hp,hne⟩
  ·exact Heap.get?_update_self f (R.slots _ (zx hj) ho) hf
  ·show (s.heap.update x f).get? p.1=_
   rw[Heap.get?_update_other _ _ (Ne.symm hne)];exact R.slots p hp hfr
 bound p hp:=by
  show p.1 < (s.heap.update x f).objs.size
  rw[Heap.size_update]
  rcases xX hp with e|hp
  ·rw[e];exact R.bound (x,o) (zx hj)
  ·exact R.bound p hp
 nodup:=by rw[yJ (·.1) (y:=(x,f o)) hj rfl];exact R.nodup
 base L p h:=by
  show (s.heap.update x f).get? p.1=_
  rw[Heap.get?_update_other _ _ (Ne.symm (R.apart _ (zx hj) L p h))];exact R.base L p h
 apart p hp L q hq:=by
  rcases xX hp with e|hp
  ·rw[e];exact R.apart (x,o) (zx hj) L q hq
  ·exact R.apart p hp L q hq
 gslots:=R.gslots
 gnodup:=R.gnodup
 bare:=R.bare
theorem Kp.update{T G s}{j x o}{f:Obj->Obj}(hj:nth T j=some (x,o)):Kp T G s { s with heap:=s.heap.update x f }:=
 ⟨λy o' h q=>by
  show (s.heap.update x f).get? y=_
  rw[Heap.get?_update_other _ _ (q _ (zx hj))];exact h,λ_ _ h _=>h,rfl,by simp⟩
def xh{T:zb}{j x o y}(hj:nth T j=some (x,o)){z:Nat}(h:∀p∈T,p.1≠z):∀p∈upd T j (x,y),p.1≠z:=λp hp=>by
 rcases xX hp with e|hp
 ·rw[e];exact h (x,o) (zx hj)
 ·exact h p hp
def AllBare.set{a:Array GenState}(h:AllBare a)(g:Nat){x:GenState}(hx:x.bare=true):AllBare (a.setIfInBounds g x):=λy hy=>by
 rcases Array.mem_or_eq_of_mem_setIfInBounds hy with hy|rfl
 ·exact h y hy
 ·exact hx
theorem Rel.setGen{C:Cfg}{T G s}(R:Rel C T G s){j g o}{x:GenState}(hj:nth G j=some (g,o))(hx:x.bare=true):Rel C T (upd G j (g,x)) (s.setGen g x) where
 slots:=R.slots
 bound:=R.bound
 nodup:=R.nodup
 base:=R.base
 apart:=R.apart
 gslots p hp:=by
  have hlt:=R.gslots _ (zx hj)
  show (s.gens.setIfInBounds g x)[p.1]?=_
  rcases ye (·.1) (y:=(g,x)) hj rfl R.gnodup hp with rfl|⟨hp,hne⟩
  ·rw[Array.getElem?_setIfInBounds_self]
   have:g < s.gens.size:=(Array.getElem?_eq_some_iff.mp hlt).1
   simp[this]
  ·rw[Array.getElem?_setIfInBounds_ne (Ne.symm hne)];exact R.gslots p hp
 gnodup:=by rw[yJ (·.1) (y:=(g,x)) hj rfl];exact R.gnodup
 bare:=AllBare.set R.bare g hx
theorem Kp.setGen{T G s}{j g o}{x:GenState}(hj:nth G j=some (g,o)):Kp T G s (s.setGen g x):=
 ⟨λ_ _ h _=>h,λy st h q=>by
  show (s.gens.setIfInBounds g x)[y]?=_
  rw[Array.getElem?_setIfInBounds_ne (q _ (zx hj))];exact h,rfl,Nat.le_refl _⟩
def Rel.newGen{C:Cfg}{T G s}(R:Rel C T G s)(c:Code):Rel C T ((s.gens.size,.fresh c)::G) { s with gens:=s.gens.push (.fresh c) } where
 slots:=R.slots
 bound:=R.bound
 nodup:=R.nodup
 base:=R.base
 apart:=R.apart
 gslots p hp:=by
  rcases List.mem_cons.mp hp with rfl|hp
  ·simp
  ·have h:=R.gslots p hp
   have:p.1 < s.gens.size:=(Array.getElem?_eq_some_iff.mp h).1
   rw[Array.getElem?_push]
   rw[if_neg (Nat.ne_of_lt this)];exact h
 gnodup:=by
  simp only[List.map_cons,List.nodup_cons]
  refine⟨λh=>?_,R.gnodup⟩
  obtain⟨p,hp,e⟩:=List.mem_map.mp h
  have:p.1 < s.gens.size:=(Array.getElem?_eq_some_iff.mp (R.gslots p hp)).1
  exact absurd this (by rw[show p.1=s.gens.size from e];exact Nat.lt_irrefl _)
 bare:=R.bare.push rfl
def Kp.newGen{T G s}(c:Code):Kp T G s { s with gens:=s.gens.push (.fresh c) }:=
 ⟨λ_ _ h _=>h,λy st h _=>by
  have:y < s.gens.size:=(Array.getElem?_eq_some_iff.mp h).1
  show (s.gens.push _)[y]?=_
  rw[Array.getElem?_push,if_neg (Nat.ne_of_lt this)];exact h,rfl,Nat.le_refl _⟩
def XF{C:Cfg}{T G s}{m j:Nat}{p:Addr × Obj}(R:Rel C T G s)(h:look C m T j=some p)(hf:p.2.isFreed=false):s.heap.get? p.1=some p.2:=by
 unfold look at h
 split at h
 ·exact R.base _ _ h
 ·exact R.slots _ (zx h) hf
noncomputable def At{β:Type}(f:Nat->β)(n:Nat)(x:β):Nat->β:=λj=>if j=n then x else f j
def At.self{β:Type}(f:Nat->β)(n:Nat)(x:β):At f n x n=x:=by simp[At]
def At.lt{β:Type}(f:Nat->β){n:Nat}(x:β){j:Nat}(h:j < n):At f n x j=f j:=by simp[At,Nat.ne_of_lt h]
noncomputable def Ats(f:Nat->Addr)(n:Nat)(xs:List Addr):Nat->Addr:=λj=>if j < n then f j else xs.getD (j - n) (f j)
def Ats.lt(f:Nat->Addr){n:Nat}(xs:List Addr){j:Nat}(h:j < n):Ats f n xs j=f j:=by simp[Ats,h]
theorem Z2:∀(xs:List Addr) (D:Nat->Addr) (a:Nat),(∀j,j < xs.length->D (a+j)=xs.getD j 0)->adrs D a xs.length=xs
 |[],_,_,_=>rfl
 |x::xs,D,a,h=>by
  show D a::adrs D (a+1) xs.length=_
  rw[Z2 xs D (a+1) (λj hj=>by
   have:=h (j+1) (by simpa using hj)
   rw[show a+1+j=a+(j+1) by lia,this];rfl)]
  have h0:=h 0 (by simp)
  rw[Nat.add_zero] at h0
  rw[h0];rfl
theorem x4{D:Type}:∀(l:List D) (j:Nat) (y:D),(upd l j y).length=l.length
 |[],_,_=>rfl
 | _::_,0,_=>rfl
 | _::l,j+1,y=>congrArg (·+1) (x4 l j y)
theorem x5{D:Type}:∀(l r:List D) (j:Nat) (y:D),j < l.length->upd (l++r) j y=upd l j y++r
 |[],_,_,_,h=>by simp at h
 | _::_,_,0,_,_=>rfl
 |x::l,r,j+1,y,h=>by
  exact congrArg (x::·) (x5 l r j y (Nat.lt_of_succ_lt_succ h))
theorem Sh.upd{C:Cfg}{a:Nat}{T:zb}(h:Sh C a T){j:Nat}(hj:j < C.n+a)(y):Sh C a (Mine.upd T j y):=by
 obtain⟨E,rfl,e⟩:=h
 exact⟨Mine.upd E j y,x5 _ _ _ _ (by lia),by rw[x4,e]⟩
def Sh.cons{C:Cfg}{a:Nat}{T:zb}(h:Sh C a T)(y):Sh C (a+1) (y::T):=by
 obtain⟨E,rfl,e⟩:=h
 exact⟨y::E,rfl,by simp only[List.length_cons];lia⟩
theorem Sh.put{C:Cfg}{a:Nat}:∀{js:List Nat} {os:List Obj} {T T':zb},(∀j∈js,j % 2=1->j / 2 < C.n+a)->Sh C a T->putObjs T js os=some T'->Sh C a T'
 |[],[],_,_,_,h,e=>by cases e;exact h
 | _::_,[],_,_,_,h,e=>by cases e;exact h
 |[],_::_,_,_,_,_,e=>by cases e
 |j::js,o::os,T,T',hj,h,e=>by
  have e:(match Nat.beq (j % 2) 1 with|true=>(match nth T (j / 2) with|some (x,_)=>putObjs (Mine.upd T (j / 2) (x,o)) js os|none=>none)|false=>none)=some T':=e
  split at e
  ·rename_i hb
   have h1:j % 2=1:=Nat.eq_of_beq_eq_true hb
   (repeat' split at e)<;>first
    |(cases e;done)
    |exact Sh.put (λi hi=>hj i (.tail _ hi)) (h.upd (hj j (.head _) h1) _) e
  ·cases e
theorem Zx{m:Nat}(h0:0 < m):∀{js:List Nat},∀j∈norm m js,j % 2=1->j / 2 < m
 |[],_,h,_=>by simp[norm] at h
 |i::js,j,h,h1=>by
  simp only[norm,List.mem_cons] at h
  rcases h with h|h
  ·split at h
   ·rename_i hb
    rw[h,Nat.eq_of_beq_eq_true hb] at h1
    cases h1
   ·rw[h,QB]
    exact Nat.lt_of_le_of_lt (Nat.sub_le _ _) (Nat.sub_lt h0 Nat.one_pos)
  ·exact Zx h0 j h h1
theorem xL(m:Nat):∀(js:List Nat),(norm m js).length=js.length
 |[]=>rfl
 | _::js=>by simp only[norm,List.length_cons,xL m js]
theorem Sh.new{C:Cfg}:∀{xs:List Addr} {os:List Obj} {a:Nat} {T T':zb},Sh C a T->newObjs T xs os=some T'->Sh C (a+xs.length) T'
 |[],[],_,_,_,h,e=>by cases e;exact h
 |[],_::_,_,_,_,_,e=>by cases e
 | _::_,[],_,_,_,_,e=>by cases e
 |x::xs,o::os,a,T,T',h,e=>by
  have:=Sh.new (xs:=xs) (os:=os) (h.cons (x,o)) e
  rw[List.length_cons,show a+(xs.length+1)=a+1+xs.length by lia];exact this
def Old(T T':zb)(n:Nat):Prop:=∀p∈T',p.1 < n->∃q∈T,q.1=p.1
def Old.keys{T T':zb}{n:Nat}(h:∀x,(∀p∈T,p.1≠x)->∀p∈T',p.1≠x):Old T T' n:=λp hp _=>Classical.byContradiction λk=>h p.1 (λq hq e=>k ⟨q,hq,e⟩) p hp rfl
theorem Old.trans{T T₁ T':zb}{n n₁:Nat}(h:Old T T₁ n)(h':Old T₁ T' n₁)(hn:n<=n₁):Old T T' n:=λp hp hl=>by
 obtain⟨q,hq,e⟩:=h' p hp (Nat.lt_of_lt_of_le hl hn)
 obtain⟨r,hr,e'⟩:=h q hq (e▸hl)
 exact⟨r,hr,e'.trans e⟩
def Old.ne{T T':zb}{s:Shared}(h:Old T T' s.heap.objs.size):∀x o,s.heap.get? x=some o->(∀p∈T,p.1≠x)->∀p∈T',p.1≠x:=λx o hx q p hp e=>by
 obtain⟨r,hr,e'⟩:=h p hp (e▸Heap.lt_size hx)
 exact q r hr (e'.trans e)
inductive Goes (C:Cfg) (w:World) (F:List Frame) (D:Nat->Addr) (a:Nat) (T:zb) (G:zk) (s:Shared) (th:Thread) (out:Out):Prop
 |mk (s':Shared) (c:Comes (model C.prog w) s th s' ⟨out.cur,out.code,out.pos,out.fs++F⟩) (r:Rel C out.T out.G s') (q:Sh C out.a out.T) (k:Kp T G s s')
  (f:∀j,a<=j->j < out.a->s.heap.objs.size<=D j) (ol:Old T out.T s.heap.objs.size)
theorem Goes.step{C:Cfg}{w F D a a₁ T G s th out T₁ G₁ s₁ th₁}(h:Goes C w F D a₁ T₁ G₁ s₁ th₁ out)
  (st:(model C.prog w).step s th=.go s₁ th₁) (k:Kp T G s s₁)
  (hT:Old T T₁ s.heap.objs.size) (hG:∀g st,s.gens[g]?=some st->(∀p∈G,p.1≠g)->∀p∈G₁,p.1≠g)
  (hα:∀j,a<=j->j < a₁->s.heap.objs.size<=D j):Goes C w F D a T G s th out:=
 let ⟨s',c,r,q,k',f,ol⟩:=h;⟨s',.step st c,r,q,k.trans_sub k' hT.ne hG,λj h1 h2=>if h3:j < a₁ then hα j h1 h3 else Nat.le_trans k.size (f j (Nat.le_of_not_lt h3) h2),hT.trans ol k.size⟩
def Zy{D:Nat->Addr}{a n:Nat}:∀j,a<=j->j < a->n<=D j:=λ_ h1 h2=>absurd (Nat.lt_of_le_of_lt h1 h2) (Nat.lt_irrefl _)
theorem xM:∀{xs:List Addr} {os:List Obj} {T T':zb},newObjs T xs os=some T'->∀p∈T',p∈T\/p.1∈xs
 |[],[],T,T',h,p,hp=>by cases h;exact .inl hp
 |x::xs,o::os,T,T',h,p,hp=>by
  rcases xM (xs:=xs) (os:=os) h p hp with h|h
  ·rcases List.mem_cons.mp h with rfl|h
   ·exact .inr (.head _)
   ·exact .inl h
  ·exact .inr (.tail _ h)
 |[],_::_,_,_,h,_,_=>by cases h
 | _::_,[],_,_,h,_,_=>by cases h
theorem xb:∀{js:List Nat} {ps:List Obj} {T T':zb},putObjs T js ps=some T'->∀{x:Nat},(∀p∈T,p.1≠x)->∀p∈T',p.1≠x
 |[],[],T,T',h,x,q,p,hp=>by cases h;exact q p hp
 | _::_,[],T,T',h,x,q,p,hp=>by cases h;exact q p hp
 |[],_::_,_,_,h,_,_,_,_=>by cases h
 |j::js,o::ps,T,T',h,x,q,p,hp=>by
  have h:(match Nat.beq (j % 2) 1 with|true=>(match nth T (j / 2) with|some (x,_)=>putObjs (Mine.upd T (j / 2) (x,o)) js ps|none=>none)|false=>none)=some T':=h
  split at h
  ·cases hj:nth T (j / 2) with
   |none=>rw[hj] at h;cases h
   |some y=>
    obtain⟨y,o'⟩:=y
    rw[hj] at h
    dsimp only at h
    exact xb h (xh hj q) p hp
  ·cases h
section
variable {C:Cfg} {X:List Ext} {w:World} {F:List Frame}
theorem wx:∀{n:Nat} {l a b:List Nat},cut n l=some (a,b)->a.length=n
 |0,_,_,_,h=>by simp only[cut,Option.some.injEq,Prod.mk.injEq] at h;rw[<-h.1];rfl
 |n+1,[],_,_,h=>by simp[cut] at h
 |n+1,j::l,a,b,h=>by
  unfold cut at h
  cases hc:cut n l with
  |none=>rw[hc] at h;cases h
  |some z=>
   obtain⟨x,y⟩:=z
   rw[hc] at h
   simp only[Option.some.injEq,Prod.mk.injEq] at h
   rw[<-h.1,List.length_cons,wx hc]
end
abbrev FnO:=(Nat->Addr)->(Nat->Ch)->(Nat->Nat)->Option Out
inductive Snd (C:Cfg) (w:World) (F:List Frame) (f:FnO) (a i b:Nat) (T:zb) (G:zk) (th:Thread) (s:Shared) (D0:Nat->Addr) (τ0:Nat->Ch) (O0:Nat->Nat) (N:Nat):Prop
 |mk (D:Nat->Addr) (Z:Nat->Ch) (O:Nat->Nat) (h1:∀j,j < a->D j=D0 j) (h2:∀j,j < i->Z j=τ0 j) (h3:∀j,j < b->O j=O0 j) (h4:∀j,N<=D j)
  (h:∀out,f D Z O=some out->Lg.Ok out.lg->Lg.Ok out.pc->Goes C w F D a T G s th out)
structure Good (C:Cfg) (w:World) (F:List Frame) (I:(Nat->Addr)->(Nat->Ch)->(Nat->Nat)->xE):Prop where
 lg:∀D Z O,IhSf (I D Z O)
 go:∀tp T a i G b lg pc cur code pos fs s D0 τ0 O0 N,Rel C T G s->Sh C a T->N<=s.heap.objs.size->(∀j,N<=D0 j)->
  Snd C w F (λD Z O=>I D Z O tp T a i G b lg pc cur code pos fs) a i b T G ⟨cur,code,pos,fs++F⟩ s D0 τ0 O0 N
def Lg.Ok.sub{l l':Lg}(h:Lg.Ok l')(e:l <:+ l'):Lg.Ok l:=λp hp=>h p (e.subset hp)
section
variable {C:Cfg} {w:World} {F:List Frame} {I:(Nat->Addr)->(Nat->Ch)->(Nat->Nat)->xE} {tp:List Nat} {T T₁:zb} {a i:Nat} {G G₁:zk} {b:Nat} {lg pc:Lg} {cur:Sem Fin} {code:Code} {pos:Pos} {fs:List Frame} {th:Thread}
 {s s₁:Shared} {D0:Nat->Addr} {τ0:Nat->Ch} {O0:Nat->Nat} {N:Nat}
theorem Snd.no(hα:∀j,N<=D0 j):Snd C w F (λ_ _ _=>none) a i b T G th s D0 τ0 O0 N:=⟨D0,τ0,O0,λ_ _=>rfl,λ_ _=>rfl,λ_ _=>rfl,hα,λ_ h=>nomatch h⟩
theorem V4{x y:Nat}{l:Lg}(h:Lg.Ok ((.n x,.n y)::l)):x=y:=LV.n.inj (h _ (.head _))
variable (Gd:Good C w F I) (hN:N<=s.heap.objs.size) (hα:∀j,N<=D0 j)
include Gd hN hα
theorem Good.goX(R₁:Rel C T₁ G₁ s₁)(S₁:Sh C a T₁)(k:Kp T G s s₁)(hT:Old T T₁ s.heap.objs.size)(hG:∀g st,s.gens[g]?=some st->(∀p∈G,p.1≠g)->∀p∈G₁,p.1≠g)
  (hs:Lg.Ok lg->(model C.prog w).step s th=.go s₁ ⟨cur,code,pos,fs++F⟩):Snd C w F (λD Z O=>I D Z O tp T₁ a i G₁ b lg pc cur code pos fs) a i b T G th s D0 τ0 O0 N:=by
 obtain⟨D,Z,O,h1,h2,h3,h4,h⟩:=Gd.go tp T₁ a i G₁ b lg pc cur code pos fs s₁ D0 τ0 O0 N R₁ S₁ (Nat.le_trans hN k.size) hα
 exact⟨D,Z,O,h1,h2,h3,h4,λout e l lp=>(h out e l lp).step (hs (l.sub (Gd.lg _ _ _ _ _ _ _ _ _ _ _ _ _ _ _ out e).1)) k hT hG Zy⟩
variable (R:Rel C T G s) (S:Sh C a T)
include R S
theorem Good.go1(hs:Lg.Ok lg->(model C.prog w).step s th=.go s ⟨cur,code,pos,fs++F⟩):Snd C w F (λD Z O=>I D Z O tp T a i G b lg pc cur code pos fs) a i b T G th s D0 τ0 O0 N:=
 Gd.goX hN hα R S (.refl ..) (.keys λ_ q=>q) (λ_ _ _ q=>q) hs
theorem snF{r:Except Value Flow}(h:th=⟨leafOf r,code,pos,fs++F⟩):Snd C w F (λD Z O=>stF (I D Z O) tp T a i G b lg pc r fs) a i b T G th s D0 τ0 O0 N:=by
 subst h
 cases fs with
 |nil=>exact .no hα
 |cons f fs=>cases f with
  |gen=>exact .no hα
  |ret=>exact Gd.go1 hN hα R S λ_=>step_leaf_ret _ _ _ _ _ r ..
theorem snL{x:Addr}{p:Option Value}{k:Obj->Sem Fin}(j:Nat):Snd C w F (λD Z O=>stL (I D Z O) tp T a i G b lg pc x k code pos fs (look C (C.n+a) T j)) a i b T G ⟨.load x p k,code,pos,fs++F⟩ s D0 τ0 O0 N:=by
 cases hj:look C (C.n+a) T j with
 |none=>exact .no hα
 |some z=>
  unfold stL
  dsimp only
  cases ho:z.2.isFreed with
  |true=>exact .no hα
  |false=>exact Gd.go1 hN hα R S λhl=>by rw[V4 hl];exact step_load _ _ _ _ _ _ _ (XF R hj ho)
theorem snU(hn:0 < C.n){x:Addr}{p:Option Value}{f:Obj->Obj}{k:Unit->Sem Fin}{j:Nat}(hj':j < C.n+a):Snd C w F (λD Z O=>stU (I D Z O) tp T a i G b lg pc x f k code pos fs j (nth T j)) a i b T G ⟨.update x p f k,code,pos,fs++F⟩ s D0 τ0 O0 N:=by
 cases hj:nth T j with
 |none=>exact .no hα
 |some z=>
  unfold stU
  dsimp only
  cases ho:z.2.isFreed with
  |true=>exact .no hα
  |false=>cases hf:(f z.2).isFreed with
   |true=>exact .no hα
   |false=>
    dsimp only
    exact Gd.goX hN hα (R.update hj ho hf) (S.upd hj' _) (.update hj) (.keys λ_ q=>xh hj q) (λ_ _ _ q=>q) λhl=>by rw[V4 hl];exact step_update _ _ _ _ _ _ _ _ (by rw[R.slots _ (zx hj) ho];rfl)
theorem WB{k:Tok->Sem Fin}:Snd C w F (λD Z O=>I D Z O tp T a (i+1) G b lg pc (k ((Z i).tok 0)) code pos fs) a i b T G ⟨.fresh k,code,pos,fs++F⟩ s D0 τ0 O0 N:=by
 obtain⟨D,Z,O,h1,h2,h3,h4,h⟩:=Gd.go tp T a (i+1) G b lg pc (k s.toks) code pos fs { s with toks:=s.toks+1 } D0 (At τ0 i (.of s.toks)) O0 N ⟨R.slots,R.bound,R.nodup,R.base,R.apart,R.gslots,R.gnodup,R.bare⟩ S hN hα
 refine⟨D,Z,O,h1,λj hj=>by rw[h2 j (Nat.lt_succ_of_lt hj),At.lt _ _ hj],h3,h4,λout e l lp=>?_⟩
 rw[h2 i (Nat.lt_succ_self _),At.self] at e
 exact(h out e l lp).step (step_fresh ..) ⟨λ_ _ h _=>h,λ_ _ h _=>h,rfl,Nat.le_refl _⟩ (.keys λ_ q=>q) (λ_ _ _ q=>q) Zy
theorem WC{o:Obj}{k:Addr->Sem Fin}(hf:o.isFreed=false):Snd C w F (λD Z O=>I D Z O tp ((D a,o)::T) (a+1) i G b lg pc (k (D a)) code pos fs) a i b T G ⟨.alloc o k,code,pos,fs++F⟩ s D0 τ0 O0 N:=by
 obtain⟨D,Z,O,h1,h2,h3,h4,h⟩:=Gd.go tp ((s.heap.objs.size,o)::T) (a+1) i G b lg pc (k s.heap.objs.size) code pos fs { s with heap:=s.heap.push o } (At D0 a s.heap.objs.size) τ0 O0 N (R.alloc hf) (S.cons _)
  (by show N<=(s.heap.push o).objs.size;rw[Heap.size_push];exact Nat.le_succ_of_le hN) (λj=>by unfold At;split<;>first|exact hN|exact hα j)
 have ea:D a=s.heap.objs.size:=by rw[h1 a (Nat.lt_succ_self _),At.self]
 refine⟨D,Z,O,λj hj=>by rw[h1 j (Nat.lt_succ_of_lt hj),At.lt _ _ hj],h2,h3,h4,λout e l lp=>?_⟩
 rw[ea] at e
 refine(h out e l lp).step (step_alloc ..) (.alloc o) (λp hp hl=>?_) (λ_ _ _ q=>q) (λj h1' h2'=>by rw[Nat.le_antisymm (Nat.le_of_lt_succ h2') h1',ea];exact Nat.le_refl _)
 rcases List.mem_cons.mp hp with rfl|hp
 ·exact absurd hl (Nat.lt_irrefl _)
 ·exact⟨p,hp,rfl⟩
theorem SO{c:Code}{k:Nat->Sem Fin}:Snd C w F (λD Z O=>I D Z O tp T a i ((O b,.fresh c)::G) (b+1) lg pc (k (O b)) code pos fs) a i b T G ⟨.newGen c k,code,pos,fs++F⟩ s D0 τ0 O0 N:=by
 obtain⟨D,Z,O,h1,h2,h3,h4,h⟩:=Gd.go tp T a i ((s.gens.size,.fresh c)::G) (b+1) lg pc (k s.gens.size) code pos fs { s with gens:=s.gens.push (.fresh c) } D0 τ0 (At O0 b s.gens.size) N (R.newGen c) S hN hα
 refine⟨D,Z,O,h1,h2,λj hj=>by rw[h3 j (Nat.lt_succ_of_lt hj),At.lt _ _ hj],h4,λout e l lp=>?_⟩
 rw[h3 b (Nat.lt_succ_self _),At.self] at e
 refine(h out e l lp).step (step_newGen ..) (.newGen c) (.keys λ_ q=>q) (λg st hx q p hp=>?_) Zy
 rcases List.mem_cons.mp hp with rfl|hp
 ·exact Nat.ne_of_gt (Array.getElem?_eq_some_iff.mp hx).1
 ·exact q p hp
end
def Se{D0:Nat->Addr}{N a:Nat}{xs:List Addr}(hα:∀j,N<=D0 j)(hx:∀y∈xs,N<=y)(j:Nat):N<=Ats D0 a xs j:=by
 unfold Ats
 split
 ·exact hα j
 ·rw[List.getD_eq_getElem?_getD]
  cases hz:xs[j - a]? with
  |none=>exact hα j
  |some y=>exact hx y (List.mem_of_getElem? hz)
def VT{D0:Nat->Addr}{a:Nat}{xs:List Addr}{j:Nat}(h1:a<=j)(h2:j < a+xs.length):Ats D0 a xs j∈xs:=by
 unfold Ats
 rw[if_neg (Nat.not_lt.mpr h1)]
 have h3:j - a < xs.length:=Nat.sub_lt_left_of_lt_add h1 h2
 rw[List.getD_eq_getElem?_getD,List.getElem?_eq_getElem h3]
 exact List.getElem_mem _
def Z3{D0 D:Nat->Addr}{a:Nat}{xs:List Addr}(h:∀j,j < a+xs.length->D j=Ats D0 a xs j):adrs D a xs.length=xs:=
 Z2 xs D a λj hj=>by
  rw[h _ (by lia)]
  unfold Ats
  rw[if_neg (by lia),Nat.add_sub_cancel_left,List.getD_eq_getElem?_getD,List.getD_eq_getElem?_getD,List.getElem?_eq_getElem hj];rfl
inductive Laid1 (T:zb) (js:List Nat) (xs:List Addr):Option ExtOut->zb->ExtOut->Prop
 |mk (r:ExtOut) (T' T'':zb) (hp:putObjs T js r.posts=some T') (hf:notFreed r.news=true) (hn:newObjs T' xs r.news=some T'') (hl:Lg.Ok r.lg) (hc:Lg.Ok r.pc):Laid1 T js xs (some r) T'' r
def Zq{D:Nat->Addr}{ih:xE}(H:IhSf ih){tp:List Nat}{T:zb}{a i b:Nat}{lg pc:Lg}{E:Ext}{d:Nat}{c:Code}{k:Result->Sem Fin}{code:Code}{pos:Pos}{fs:List Frame}{js:List Nat}{G:zk}{xs:List Addr}{out:Out}
  (hx:adrs D a (E.k d)=xs) (z:Option ExtOut) (e:stE D ih tp T a i b lg pc E d c k code pos fs js G z=some out) (l:Lg.Ok out.lg) (lp:Lg.Ok out.pc) :
  ∃T'' r,Laid1 T js xs z T'' r/\ih tp T'' (a+E.k d) (i+1) G b (r.lg++lg) (r.pc++pc) (k r.res) code pos fs=some out:=by
 subst hx
 cases z with
 |none=>cases e
 |some r=>
  unfold stE at e
  dsimp only at e
  cases hp:putObjs T js r.posts with
  |none=>rw[hp] at e;cases e
  |some T'=>
   rw[hp] at e
   dsimp only at e
   cases hf:notFreed r.news with
   |false=>rw[hf] at e;cases e
   |true=>
    rw[hf] at e
    dsimp only at e
    cases hn:newObjs T' (adrs D a (E.k d)) r.news with
    |none=>rw[hn] at e;cases e
    |some T''=>
     rw[hn] at e
     have q:=H _ _ _ _ _ _ _ _ _ _ _ _ out e
     exact⟨T'',r,⟨r,T',T'',hp,hf,hn,λp hq=>l p (q.1.subset (List.mem_append_left _ hq)),λp hq=>lp p (q.2.subset (List.mem_append_left _ hq))⟩,e⟩
def Laid1.eq{T:zb}{js:List Nat}{xs:List Addr}{z:Option ExtOut}{T₁ T₂:zb}{r₁ r₂:ExtOut}(h:Laid1 T js xs z T₁ r₁)(h':Laid1 T js xs z T₂ r₂):T₁=T₂/\r₁=r₂:=by
 cases h with
 |mk r T' T'' hp hf hn=>
  cases h' with
  |mk r₂ U U' hp' _ hn'=>
   rw[hp] at hp'
   cases hp'
   exact⟨Option.some.inj (hn.symm.trans hn'),rfl⟩
def Laid1.old{T:zb}{js:List Nat}{xs:List Addr}{z:Option ExtOut}{T'':zb}{r:ExtOut}{n:Nat}(h:Laid1 T js xs z T'' r)(hx:∀y∈xs,n<=y):Old T T'' n:=λp hp' hl=>by
 cases h with
 |mk r T' T'' hp hf hn=>
  rcases xM hn p hp' with hp'|hp'
  ·exact(Old.keys (n:=n) λx q=>xb hp q) p hp' hl
  ·exact absurd hl (Nat.not_lt.mpr (hx _ hp'))
section
variable {C:Cfg} {w:World} {F:List Frame} {I:(Nat->Addr)->(Nat->Ch)->(Nat->Nat)->xE} {tp:List Nat} {T:zb} {a i:Nat} {G:zk} {b:Nat} {lg pc:Lg} {code:Code} {pos:Pos} {fs:List Frame}
 {s:Shared} {D0:Nat->Addr} {τ0:Nat->Ch} {O0:Nat->Nat} {N:Nat} (Gd:Good C w F I) (hN:N<=s.heap.objs.size) (hα:∀j,N<=D0 j) (R:Rel C T G s) (S:Sh C a T)
include Gd hN hα R S
theorem snX{E:Ext}(HX:ExtOk C w F E)(hn:0 < C.n){d:Nat}{c:Code}{h:Option Value}{g:Bool}{lv:List Value}{k:Result->Sem Fin}{js:List Nat}(hlen:js.length=E.m)(hjs:∀j∈js,j % 2=1->j / 2 < C.n+a) :
  Snd C w F (λD Z O=>stX C D Z (I D Z O) tp T a i G b lg pc E d c h k code pos fs js) a i b T G ⟨.call c h g lv k,code,pos,fs++F⟩ s D0 τ0 O0 N:=by
 unfold stX
 cases hd:distinct js with
 |false=>exact .no hα
 |true=>cases h with
  |some _=>exact .no hα
  |none=>cases hh:hdOk fs with
   |false=>exact .no hα
   |true=>
    dsimp only
    cases ho:looks C T js with
    |none=>exact .no hα
    |some objs=>cases hg:takeG E.mg G with
     |none=>exact .no hα
     |some zg=>
      dsimp only
      obtain⟨gs,G'⟩:=zg
      refine cps λGo hGo=>?_
      obtain⟨xs,t,hx,hfresh,H⟩:=HX s a T G code pos fs c g lv k objs d js gs G' R hg S hlen hd hh ho hjs
      have hle:=Se (a:=a) hα λy hy=>Nat.le_trans hN (hfresh y hy)
      by_cases hq:∃T'' r,Laid1 T js xs (E.f d c ((code,pos)::(fs.map Frame.where_++C.W)) objs gs xs t) T'' r
      ·obtain⟨T'',r,hL⟩:=hq
       generalize hr:E.f d c ((code,pos)::(fs.map Frame.where_++C.W)) objs gs xs t=z at hL
       have hLa:=hL
       cases hL with
       |mk r T' T'' hp hf hnw hl hlp=>
        obtain⟨s₁,c₁,R₁,k₁⟩:=H r hr hl hlp hf T' T'' hp hnw
        obtain⟨D,Z,O,h1,h2,h3,h4,h⟩:=Gd.go tp T'' (a+E.k d) (i+1) G' b (r.lg++lg) (r.pc++pc) (k r.res) code pos fs s₁ (Ats D0 a xs) (At τ0 i t) O0 N R₁ (hx▸Sh.new (Sh.put hjs S hp) hnw) (Nat.le_trans hN k₁.size) hle
        have hxa:adrs D a (E.k d)=xs:=by rw[<-hx];exact Z3 λj hj=>h1 j (hx▸hj)
        refine hGo ⟨D,Z,O,λj hj=>by rw[h1 j (Nat.lt_of_lt_of_le hj (Nat.le_add_right _ _)),Ats.lt _ _ hj],λj hj=>by rw[h2 j (Nat.lt_succ_of_lt hj),At.lt _ _ hj],h3,h4,λout e l lp=>?_⟩
        rw[h2 i (Nat.lt_succ_self _),At.self,hxa,hr] at e
        obtain⟨U,r',hU,e'⟩:=Zq (Gd.lg _ _ _) hxa _ e l lp
        obtain⟨rfl,rfl⟩:=hLa.eq hU
        obtain⟨s',c₂,R₂,S₂,k₂,f₂,ol₂⟩:=h out e' l lp
        have ol:=hLa.old hfresh
        refine⟨s',.trans c₁ c₂,R₂,S₂,k₁.trans_sub k₂ ol.ne (λ_ _ _ q p hp=>q p (wM hg p hp)),λj hj1 hj2=>?_,ol.trans ol₂ k₁.size⟩
        by_cases hj3:j < a+E.k d
        ·rw[h1 j hj3]
         exact hfresh _ (VT hj1 (hx▸hj3))
        ·exact Nat.le_trans k₁.size (f₂ j (Nat.le_of_not_lt hj3) hj2)
      ·refine hGo ⟨Ats D0 a xs,At τ0 i t,O0,λj hj=>Ats.lt _ _ hj,λj hj=>At.lt _ _ hj,λ_ _=>rfl,hle,λout e l lp=>?_⟩
       have hxa:adrs (Ats D0 a xs) a (E.k d)=xs:=by rw[<-hx];exact Z3 λ_ _=>rfl
       rw[At.self,hxa] at e
       obtain⟨U,r',hU,_⟩:=Zq (Gd.lg _ _ _) hxa _ e l lp
       exact absurd ⟨U,r',hU⟩ hq
theorem snC{X:List Ext}(HX:∀e E,nth X e=some E->ExtOk C w F E)(hn:0 < C.n){c:Code}{h:Option Value}{g:Bool}{lv:List Value}{k:Result->Sem Fin}{e:Nat} :
  Snd C w F (λD Z O=>stC C X D Z (I D Z O) T a i G b lg pc c h k code pos fs e tp) a i b T G ⟨.call c h g lv k,code,pos,fs++F⟩ s D0 τ0 O0 N:=by
 cases tp with
 |nil=>exact .no hα
 |cons d tp=>
  unfold stC
  dsimp only
  cases hE:nth X e with
  |none=>exact .no hα
  |some E=>
   dsimp only
   cases hc:cut E.m tp with
   |none=>exact .no hα
   |some z=>exact snX Gd hN hα R S (HX e E hE) hn ((xL _ _).trans (wx hc)) (Zx (Nat.lt_of_lt_of_le hn (Nat.le_add_right _ _)))
end
def XT{C:Cfg}{X:List Ext}{w:World}{F:List Frame}(dc:C.Ok w)(U:Under C F)(HX:∀e E,nth X e=some E->ExtOk C w F E){I:(Nat->Addr)->(Nat->Ch)->(Nat->Nat)->xE}(Gd:Good C w F I) :
  Good C w F (λD Z O=>st1 C X D Z O (I D Z O)) where
 lg D Z O:=Y5 (Gd.lg D Z O)
 go tp T a i G b lg pc cur code pos fs s D0 τ0 O0 N R S hN hα:=by
  have hden:∀c,(model C.prog w).den c=C.den c:=λc=>by rw[dc.den];rfl
  cases cur with
  |pure fin=>cases fin with
   |again c=>
    show Snd C w F (λD Z O=>match c.quiet with|true=>_|false=>_) a i b T G _ s D0 τ0 O0 N
    cases hq:c.quiet with
    |true=>exact Gd.go1 hN hα R S λ_=>by rw[<-hden];exact step_again _ _ _ _ _ _ hq
    |false=>exact .no hα
   |done f=>exact snF Gd hN hα R S rfl
  |raise e=>exact snF Gd hN hα R S (r:=.error e) rfl
  |rule t k=>exact Gd.go1 hN hα R S λ_=>step_rule ..
  |«at» p k=>exact Gd.go1 hN hα R S λ_=>step_at ..
  |point l k=>exact Gd.go1 hN hα R S λ_=>step_point ..
  |ask k=>exact Gd.go1 hN hα R S λ_=>by rw[dc.par];exact step_ask ..
  |fresh k=>exact WB Gd hN hα R S
  |load x p k=>cases tp with
   |nil=>exact .no hα
   |cons j tp=>exact snL Gd hN hα R S j
  |update x p f k=>cases tp with
   |nil=>exact .no hα
   |cons j tp=>exact snU Gd hN hα R S dc.pos (Nat.lt_of_le_of_lt (Nat.sub_le _ j) (Nat.sub_lt (Nat.add_pos_left dc.pos a) Nat.one_pos))
  |alloc o k=>
   show Snd C w F (λD Z O=>match o.isFreed with|false=>_|true=>_) a i b T G _ s D0 τ0 O0 N
   cases hf:o.isFreed with
   |true=>exact .no hα
   |false=>exact WC Gd hN hα R S hf
  |handled own k=>cases own with
   |true=>exact .no hα
   |false=>exact Gd.go1 hN hα R S λ_=>by rw[step_handled];simp only[Bool.false_eq_true,if_false];rw[U.hdOf]
  |stack k=>exact Gd.go1 hN hα R S λ_=>by rw[step_stack,List.map_append,U.wh]
  |call c h g l k=>cases tp with
   |nil=>exact .no hα
   |cons j tp=>cases j with
    |zero=>exact Gd.go1 hN hα R S λ_=>by rw[<-hden];exact step_call ..
    |succ e=>exact snC Gd hN hα R S HX dc.pos
  |newGen c k=>exact SO Gd hN hα R S
  | _=>exact .no hα
def good{C:Cfg}{X:List Ext}{w:World}{F:List Frame}(dc:C.Ok w)(U:Under C F)(HX:∀e E,nth X e=some E->ExtOk C w F E)(n:Nat):Good C w F (λD Z O=>exec C X D Z O n):=by
 induction n with
 |zero=>
  refine⟨λD Z O=>Vo 0,λtp T a i G b lg pc cur code pos fs s D0 τ0 O0 N R S hN hα=>?_⟩
  refine⟨D0,τ0,O0,λ_ _=>rfl,λ_ _=>rfl,λ_ _=>rfl,hα,λout h _ _=>?_⟩
  rw[w4] at h
  cases h
  exact⟨s,.refl _ _,R,S,.refl ..,Zy,.keys λ_ q=>q⟩
 |succ n ih=>
  have e:(λD Z O=>exec C X D Z O (n+1))=λD Z O=>st1 C X D Z O (exec C X D Z O n):=funext λ_=>funext λ_=>funext λ_=>w5
  rw[e]
  exact XT dc U HX ih
def Y7{C:Cfg}{X:List Ext}{w:World}{F:List Frame}(dc:C.Ok w)(U:Under C F)(HX:∀e E,nth X e=some E->ExtOk C w F E)(n:Nat)(tp:List Nat)(T:zb)(G:zk)(cur:Sem Fin)(code:Code)(pos:Pos)(fs:List Frame)(s:Shared)(N:Nat)
  (hN:N<=s.heap.objs.size) (R:Rel C T G s) (S:Sh C 0 T):∃D Z O,(∀j,N<=D j)/\∀out,exec C X D Z O n tp T 0 0 G 0 [] [] cur code pos fs=some out->Lg.Ok out.lg->Lg.Ok out.pc->Goes C w F D 0 T G s ⟨cur,code,pos,fs++F⟩ out:=by
 obtain⟨D,Z,O,_,_,_,h4,h⟩:=(good dc U HX n).go tp T 0 0 G 0 [] [] cur code pos fs s (λ_=>N) (λ_=>.of 0) (λ_=>0) N R S hN (λ_=>Nat.le_refl _)
 exact⟨D,Z,O,h4,h⟩
noncomputable def aroundOf(wh:List (Code × Pos)):Around:={ handled:=none,depth:=frameCount wh,frames:=none,guards:=none,units:=unitsOf wh }
def xD{M:Model}{Γ:Ctx}{p:Pos}{t:Sem Fin}{fs:List Frame}{s s':Shared}{e:End}(h:Runs M Γ p t fs s e s'):s.heap.objs.size<=s'.heap.objs.size:=by
 induction h<;>(try simp only[Shared.setGen,Heap.size_push,Heap.size_update] at *)<;>lia
def wH{M:Model}{c:Code}{R:Result->Shared->Prop}{s:Shared}{code:Code}{pos:Pos}{F:List Frame}(hd:topHandled F=none)
  (h:codeAny M (aroundOf ((code,pos)::F.map Frame.where_)) c R s) :
  ∃r s₁,R r s₁/\s.heap.objs.size<=s₁.heap.objs.size/\∀(g:Bool) (l:List Value) (k:Result->Sem Fin),Comes M s ⟨.call c none g l k,code,pos,F⟩ s₁ ⟨k r,code,pos,F⟩:=by
 have hf:=Ctx.fits_of code F
 obtain⟨r,s₁,hr,hR⟩:=h ((Ctx.of code F).enter c none pos) pos rfl ⟨hd,Nat.le_refl _,(λl hl=>by cases hl),(λl hl=>by cases hl),Nat.le_refl _⟩
 refine⟨r,s₁,hR,xD hr,λg l k=>?_⟩
 obtain⟨t',c',p',pre',hc₁,hx⟩:=(runs_reach hr _ (hf.enter c k none g l pos [])).comes
 obtain⟨rfl,rfl⟩:=hx
 exact .step (step_call ..) (.trans hc₁ (.step (step_leaf_ret ..) (.refl _ _)))
structure Eff (s s':Shared) (objs:zb) (gs:zk) (posts:List Obj) (xs:List Addr) (news:List Obj):Prop where
 heap:∀x o,s.heap.get? x=some o->(∀p∈objs.take posts.length,p.1≠x)->s'.heap.get? x=some o
 posts:∀p∈(objs.map (·.1)).zip posts,p.2.isFreed=false->s'.heap.get? p.1=some p.2
 news:∀p∈xs.zip news,s'.heap.get? p.1=some p.2
 nodup:xs.Nodup
 gens:∀g st,s.gens[g]?=some st->(∀p∈gs,p.1≠g)->s'.gens[g]?=some st
 bare:AllBare s.gens->AllBare s'.gens
 os:s'.os=s.os
def LeafOk(w:World)(tl:zb)(E:Ext):Prop:=
 ∀(prog:Program) (s:Shared) (d:Nat) (c:Code) (wh:List (Code × Pos)) (objs:zb) (gs:zk),objs.length=E.m->(∀p∈objs,s.heap.get? p.1=some p.2)->(∀p∈gs,s.gens[p.1]?=some p.2)->(∀p∈tl,p.2.isFreed=false->s.heap.get? p.1=some p.2)->
  ∃(xs:List Addr) (t:Ch),xs.length=E.k d/\(∀y∈xs,s.heap.objs.size<=y)/\∀r,E.f d c wh objs gs xs t=some r->Lg.Ok r.lg->Lg.Ok r.pc->
   ∃s',codeAny (model prog w) (aroundOf wh) c (λres s₁=>res=r.res/\s₁=s') s/\Eff s s' objs gs r.posts xs r.news
def zS{C:Cfg}{T:zb}{j:Nat}{js:List Nat}{objs:zb}(h:looks C T (j::js)=some objs):∃x xs,look1 C T j=some x/\x.2.isFreed=false/\looks C T js=some xs/\objs=x::xs:=by
 unfold looks at h
 cases h1:look1 C T j with
 |none=>rw[h1] at h;cases h
 |some x=>
  rw[h1] at h
  dsimp only at h
  cases hf:x.2.isFreed with
  |true=>rw[hf] at h;cases h
  |false=>
   rw[hf] at h
   dsimp only at h
   cases h2:looks C T js with
   |none=>rw[h2] at h;cases h
   |some xs=>
    rw[h2] at h
    simp only[Option.some.injEq] at h
    exact⟨x,xs,rfl,hf,rfl,h.symm⟩
theorem xw{C:Cfg}{T G s}(R:Rel C T G s):∀{js:List Nat} {objs:zb},looks C T js=some objs->∀p∈objs,s.heap.get? p.1=some p.2
 |[],objs,h,p,hp=>by simp only[looks,Option.some.injEq] at h;subst h;cases hp
 |j::js,objs,h,p,hp=>by
  obtain⟨x,xs,h1,hf,h2,rfl⟩:=zS h
  rcases List.mem_cons.mp hp with rfl|hp
  ·unfold look1 at h1
   split at h1
   ·exact R.base _ _ h1
   ·exact R.slots _ (zx h1) hf
  ·exact xw R h2 p hp
theorem z4{C:Cfg}{T}:∀{js:List Nat} {objs:zb},looks C T js=some objs->objs.length=js.length
 |[],objs,h=>by simp only[looks,Option.some.injEq] at h;subst h;rfl
 |j::js,objs,h=>by
  obtain⟨x,xs,h1,hf,h2,rfl⟩:=zS h
  rw[List.length_cons,List.length_cons,z4 h2]
theorem yO:∀{xs:List Addr} {os:List Obj} {T T':zb},newObjs T xs os=some T'->T'=(xs.zip os).reverse++T/\xs.length=os.length
 |[],[],T,T',h=>by cases h;exact⟨rfl,rfl⟩
 |x::xs,o::os,T,T',h=>by
  obtain⟨e,l⟩:=yO (xs:=xs) (os:=os) h
  exact⟨by rw[e];simp,by simp[l]⟩
 |[],_::_,_,_,h=>by cases h
 | _::_,[],_,_,h=>by cases h
theorem ul{j:Nat}:∀{l:List Nat},notIn j l=true->j∉l
 |[],_,h=>by cases h
 |i::l,hn,h=>by
  unfold notIn at hn
  split at hn
  ·cases hn
  ·rename_i hb
   rcases List.mem_cons.mp h with rfl|h
   ·simp at hb
   ·exact ul hn h
theorem zD:∀{l:List Nat},distinct l=true->l.Nodup
 |[],_=>List.nodup_nil
 |j::l,h=>by
  unfold distinct at h
  split at h
  ·rename_i hn
   exact List.nodup_cons.mpr ⟨ul hn,zD h⟩
  ·cases h
theorem wi{D:Type}:∀{l:List D} {i j:Nat} {y:D},i≠j->nth (upd l i y) j=nth l j
 |[],_,_,_,_=>rfl
 | _::_,0,0,_,h=>absurd rfl h
 | _::_,0,_+1,_,_=>rfl
 | _::_,_+1,0,_,_=>rfl
 | _::l,i+1,j+1,y,h=>wi (l:=l) (λe=>h (by rw[e]))
def YF{C:Cfg}{T:zb}{i j:Nat}{y}(hi:i % 2=1)(h:i≠j):look1 C (upd T (i / 2) y) j=look1 C T j:=by
 unfold look1
 split
 ·rfl
 ·rename_i hb
  have:j % 2≠0:=λe=>by rw[e] at hb;cases hb
  exact wi (by lia)
theorem xu{C:Cfg}{T:zb}{i:Nat}{y}(hi:i % 2=1):∀{js:List Nat},i∉js->looks C (upd T (i / 2) y) js=looks C T js
 |[],_=>rfl
 |j::js,h=>by
  unfold looks
  rw[YF hi (λe=>h (e▸.head _)),xu hi (λq=>h (.tail _ q))]
theorem yP{C:Cfg}:∀{js:List Nat} {ps:List Obj} {T T':zb} {objs:zb},putObjs T js ps=some T'->looks C T js=some objs->js.Nodup->(T.map (·.1)).Nodup->
  (T'.map (·.1)=T.map (·.1))/\∀p∈T',p∈(objs.map (·.1)).zip ps\/(p∈T/\∀q∈objs.take ps.length,q.1≠p.1)
 |[],[],T,T',objs,h,_,_,_=>by
  cases h
  exact⟨rfl,λp hp=>.inr ⟨hp,λq hq=>by simp at hq⟩⟩
 | _::_,[],T,T',objs,h,_,_,_=>by
  cases h
  exact⟨rfl,λp hp=>.inr ⟨hp,λq hq=>by simp at hq⟩⟩
 |[],_::_,_,_,_,h,_,_,_=>by cases h
 |j::js,o::ps,T,T',objs,h,hl,hj,nd=>by
  have h:(match Nat.beq (j % 2) 1 with|true=>(match nth T (j / 2) with|some (x,_)=>putObjs (Mine.upd T (j / 2) (x,o)) js ps|none=>none)|false=>none)=some T':=h
  split at h
  ·rename_i hb
   have h1:j % 2=1:=Nat.eq_of_beq_eq_true hb
   cases hn:nth T (j / 2) with
   |none=>rw[hn] at h;cases h
   |some y=>
    obtain⟨y,o'⟩:=y
    rw[hn] at h
    dsimp only at h
    have h3:look1 C T j=some (y,o'):=by
     unfold look1
     have:Nat.beq (j % 2) 0=false:=by rw[h1];rfl
     rw[this];exact hn
    obtain⟨x,xs,e1,hf,h2,rfl⟩:=zS hl
    rw[h3] at e1
    cases e1
    have hj':=List.nodup_cons.mp hj
    have ek:(upd T (j / 2) (y,o)).map (·.1)=T.map (·.1):=yJ (·.1) (y:=(y,o)) hn rfl
    obtain⟨e,H⟩:=yP (C:=C) (objs:=xs) h (by rw[xu h1 hj'.1];exact h2) hj'.2 (by rw[ek];exact nd)
    refine⟨e.trans ek,λp hp=>?_⟩
    rcases H p hp with hp|⟨hp,hq⟩
    ·exact .inl (by rw[List.map_cons,List.zip_cons_cons];exact .tail _ hp)
    ·rcases ye (·.1) (y:=(y,o)) hn rfl nd hp with rfl|⟨hp,hne⟩
     ·exact .inl (by rw[List.map_cons,List.zip_cons_cons];exact .head _)
     ·refine .inr ⟨hp,λq hq'=>?_⟩
      rw[List.length_cons,List.take_succ_cons] at hq'
      rcases List.mem_cons.mp hq' with rfl|hq'
      ·exact Ne.symm hne
      ·exact hq q hq'
  ·cases h
theorem xK{C:Cfg}:∀{js:List Nat} {ps:List Obj} {T T':zb} {objs:zb},looks C T js=some objs->js.Nodup->putObjs T js ps=some T'->∀q∈objs.take ps.length,∃p∈T,p.1=q.1
 |[],_,T,T',objs,hl,_,_=>by
  simp only[looks,Option.some.injEq] at hl
  subst hl
  intro q hq
  simp at hq
 | _::_,[],_,_,_,_,_,_=>by intro q hq;simp at hq
 |j::js,o::ps,T,T',objs,hl,hd,hp=>by
  have hp:(match Nat.beq (j % 2) 1 with|true=>(match nth T (j / 2) with|some (x,_)=>putObjs (Mine.upd T (j / 2) (x,o)) js ps|none=>none)|false=>none)=some T':=hp
  split at hp
  ·rename_i hb
   have h1:j % 2=1:=Nat.eq_of_beq_eq_true hb
   cases hnn:nth T (j / 2) with
   |none=>rw[hnn] at hp;cases hp
   |some y=>
    obtain⟨y,o'⟩:=y
    rw[hnn] at hp
    dsimp only at hp
    have h3:look1 C T j=some (y,o'):=by
     unfold look1
     have:Nat.beq (j % 2) 0=false:=by rw[h1];rfl
     rw[this];exact hnn
    obtain⟨x,xs',e1,hf,h2,rfl⟩:=zS hl
    rw[h3] at e1
    cases e1
    intro q hq
    rw[List.length_cons,List.take_succ_cons] at hq
    rcases List.mem_cons.mp hq with rfl|hq
    ·exact⟨_,zx hnn,rfl⟩
    ·have hj':=List.nodup_cons.mp hd
     have ek:(upd T (j / 2) (y,o)).map (·.1)=T.map (·.1):=yJ (·.1) (y:=(y,o)) hnn rfl
     have key:∀{T₁:zb} {x:Nat},(∃p∈T₁,p.1=x)↔x∈T₁.map (·.1):=λ{T₁ x}=>by simp
     rw[key,<-ek,<-key]
     exact xK (by rw[xu h1 hj'.1];exact h2) hj'.2 hp q hq
  ·cases hp
def v0{b:Bool}{G gs G':zk}(h:takeG b G=some (gs,G'))(nd:(G.map (·.1)).Nodup):∀p∈G',∀q∈gs,q.1≠p.1:=by
 unfold takeG at h
 (split at h)<;>simp only[Option.some.injEq,Prod.mk.injEq,reduceCtorEq] at h
 ·intro p _ q hq;rw[<-h.1] at hq;cases hq
 ·intro p hp q hq e
  rw[<-h.1] at hq
  rw[<-h.2] at hp
  rcases List.mem_cons.mp hq with rfl|hq
  ·exact(List.nodup_cons.mp nd).1 (List.mem_map.mpr ⟨p,hp,e.symm⟩)
  ·cases hq
def vZ{b:Bool}{G gs G':zk}(h:takeG b G=some (gs,G'))(nd:(G.map (·.1)).Nodup):(G'.map (·.1)).Nodup:=by
 unfold takeG at h
 (split at h)<;>simp only[Option.some.injEq,Prod.mk.injEq,reduceCtorEq] at h
 ·exact h.2▸nd
 ·exact h.2▸(List.nodup_cons.mp nd).2
def Rel.after{C:Cfg}{T G s s'}(R:Rel C T G s){js:List Nat}{objs:zb}{posts news:List Obj}{xs:List Addr}{T' T'':zb}(hl:looks C T js=some objs)(hd:js.Nodup)
  (hp:putObjs T js posts=some T') (hn:newObjs T' xs news=some T'') (hx:∀y∈xs,s.heap.objs.size<=y) {gs G':zk} {mg:Bool} (hg:takeG mg G=some (gs,G')) (E:Eff s s' objs gs posts xs news) (hsz:s.heap.objs.size<=s'.heap.objs.size):Rel C T'' G' s'/\Kp T G s s':=by
 obtain⟨e,H⟩:=yP hp hl hd R.nodup
 obtain⟨rfl,hlen⟩:=yO hn
 have own:=xK hl hd hp
 refine⟨⟨λp hpm hfr=>?_,λp hpm=>?_,?_,λL p h=>?_,λp hpm L q hq=>?_,λp hpm=>E.gens _ _ (R.gslots p (wM hg p hpm)) (v0 hg R.gnodup p hpm),vZ hg R.gnodup,E.bare R.bare⟩,⟨λx o hx' hT=>?_,λg st h hne=>E.gens _ _ h λp hp=>hne p (y1 hg p hp),E.os,hsz⟩⟩
 ·rcases List.mem_append.mp hpm with hpm|hpm
  ·exact E.news p (List.mem_reverse.mp hpm)
  ·rcases H p hpm with h|⟨h,hne⟩
   ·exact E.posts p h hfr
   ·exact E.heap _ _ (R.slots p h hfr) hne
 ·rcases List.mem_append.mp hpm with hpm|hpm
  ·exact Heap.lt_size (E.news p (List.mem_reverse.mp hpm))
  ·have:p.1∈T.map (·.1):=by rw[<-e];exact List.mem_map_of_mem hpm
   obtain⟨r,hr,er⟩:=List.mem_map.mp this
   rw[<-er];exact Nat.lt_of_lt_of_le (R.bound r hr) hsz
 ·rw[List.map_append,List.nodup_append]
  refine⟨?_,by rw[e];exact R.nodup,?_⟩
  ·rw[List.map_reverse]
   refine(List.reverse_perm _).nodup_iff.mpr ?_
   rw[List.map_fst_zip (by lia)];exact E.nodup
  ·intro a ha b hb hab
   subst hab
   rw[e] at hb
   obtain⟨p,hp1,hp2⟩:=List.mem_map.mp ha
   have h1:p.1∈xs:=(List.of_mem_zip (List.mem_reverse.mp hp1)).1
   obtain⟨q,hq1,hq2⟩:=List.mem_map.mp hb
   have h3:=R.lt hq1
   have h4:=hx _ h1
   rw[hp2] at h4;rw[hq2] at h3;exact absurd h3 (Nat.not_lt.mpr h4)
 ·refine E.heap _ _ (R.base L p h) λq hq=>?_
  obtain⟨r,hr,er⟩:=own q hq
  rw[<-er];exact Ne.symm (R.apart r hr L p h)
 ·rcases List.mem_append.mp hpm with hpm|hpm
  ·have h1:p.1∈xs:=(List.of_mem_zip (List.mem_reverse.mp hpm)).1
   have h2:=Heap.lt_size (R.base L q hq)
   exact Nat.ne_of_lt (Nat.lt_of_lt_of_le h2 (hx _ h1))
  ·have:p.1∈T.map (·.1):=by rw[<-e];exact List.mem_map_of_mem hpm
   obtain⟨r,hr,er⟩:=List.mem_map.mp this
   rw[<-er];exact R.apart r hr L q hq
 ·refine E.heap _ _ hx' λq hq=>?_
  obtain⟨r,hr,er⟩:=own q hq
  rw[<-er];exact hT r hr
def ExtOk.leaf{C:Cfg}{w:World}{F:List Frame}{E:Ext}(U:Under C F)(h:LeafOk w C.tail E):ExtOk C w F E:=by
 intro s a T G code pos fs c g l k objs d js gs G' R hg S hm hd hh hl _
 obtain⟨xs,t,hx,hf,H⟩:=h C.prog s d c ((code,pos)::(fs.map Frame.where_++C.W)) objs gs ((z4 hl).trans hm) (xw R hl) (λp hp=>R.gslots p (y1 hg p hp)) (λp hp hf=>by
  obtain⟨Ex,hEx,_⟩:=S
  exact R.slots p (by rw[hEx];exact List.mem_append_right _ hp) hf)
 refine⟨xs,t,hx,hf,λr hr lo po nf T' T'' hp hn=>?_⟩
 obtain⟨s',hc,E'⟩:=H r hr lo po
 have hw:(code,pos)::(fs.map Frame.where_++C.W)=(code,pos)::(fs++F).map Frame.where_:=by rw[List.map_append,U.wh]
 rw[hw] at hc
 have ht:topHandled (fs++F)=none:=by
  rw[U.hdOf]
  unfold hdOk at hh
  unfold hdOf
  generalize marksOver fs (none,none)=z at hh
  obtain⟨x,y⟩:=z
  cases x<;>cases y<;>first|rfl|cases hh
 obtain⟨res,s₁,⟨e1,e2⟩,hsz,hcm⟩:=wH ht hc
 subst e1 e2
 exact⟨s₁,hcm g l k,R.after hl (zD hd) hp hn hf hg E' hsz⟩
structure Exp where
 cur:Sem Fin
 code:Code
 pos:Pos
 fs:List Frame
 T:zb
 G:zk
 pc:Lg
noncomputable def picks(m:Nat)(T:zb):List Nat->Option zb
 |[]=>some []
 |j::js=>match Nat.blt j m with
  |true=>match nth T j with
   |some x=>match picks m T js with
    |some xs=>some (x::xs)
    |none=>none
   |none=>none
  |false=>none
abbrev Q7:=Option (List LV × (Sem Fin × Code × Pos × List Frame) × Option zb × zk × Lg × Nat) × Bool
def lhs(n:Nat)(sel:List Nat)(E:Option Out):Q7:=match E with
 |some o=>(some (o.lg.map (·.1),(o.cur,o.code,o.pos,o.fs),picks (n+o.a) o.T sel,o.G,o.pc,o.a),true)
 |none=>(none,true)
noncomputable def rhs(a:Nat)(x:Exp)(E:Option Out):Q7:=match E with
 |some o=>(some (o.lg.map (·.2),(x.cur,x.code,x.pos,x.fs),some x.T,x.G,x.pc,a),true)
 |none=>(none,false)
theorem Lg.ok_of:∀{l:Lg},l.map (·.1)=l.map (·.2)->Lg.Ok l
 |[],_,p,h=>by cases h
 |q::l,e,p,h=>by
  simp only[List.map_cons,List.cons.injEq] at e
  rcases List.mem_cons.mp h with rfl|h
  ·exact e.1
  ·exact Lg.ok_of e.2 p h
def W5{n a:Nat}{sel:List Nat}{x:Exp}{E:Option Out}(h:lhs n sel E=rhs a x E) :
  ∃o,E=some o/\Lg.Ok o.lg/\o.cur=x.cur/\o.code=x.code/\o.pos=x.pos/\o.fs=x.fs/\picks (n+o.a) o.T sel=some x.T/\o.G=x.G/\o.pc=x.pc/\o.a=a:=by
 cases E with
 |none=>exact absurd (congrArg Prod.snd h) (by simp[lhs,rhs])
 |some o=>
  simp only[lhs,rhs,Prod.mk.injEq,Option.some.injEq,and_true] at h
  obtain⟨h1,⟨h2,h3,h4,h5⟩,h6,h7,h8,h9⟩:=h
  exact⟨o,rfl,Lg.ok_of h1,h2,h3,h4,h5,h6,h7,h8,h9⟩
theorem yo{m:Nat}{T:zb}:∀{sel:List Nat} {P:zb},picks m T sel=some P->∀p∈P,∃j∈sel,j < m/\nth T j=some p
 |[],P,h,p,hp=>by simp only[picks,Option.some.injEq] at h;subst h;cases hp
 |j::js,P,h,p,hp=>by
  unfold picks at h
  split at h
  ·rename_i hb
   split at h
   ·rename_i x hx
    split at h
    ·rename_i xs hxs
     simp only[Option.some.injEq] at h
     subst h
     rcases List.mem_cons.mp hp with rfl|hp
     ·refine⟨j,.head _,?_,hx⟩
      have:Nat.ble (j+1) m=true:=hb
      exact Nat.le_of_ble_eq_true this
     ·obtain⟨i,hi,h1,h2⟩:=yo hxs p hp
      exact⟨i,.tail _ hi,h1,h2⟩
    ·cases h
   ·cases h
  ·cases h
theorem zY{D:Type}:∀{l:List D} {j:Nat} {x:D},nth l j=some x->l[j]?=some x
 |[],_,_,h=>by cases h
 |y::l,0,x,h=>h
 |y::l,j+1,x,h=>zY (l:=l) h
def Zv{T:zb}(nd:(T.map (·.1)).Nodup){i j:Nat}{p q:Addr × Obj}(hi:nth T i=some p)(hj:nth T j=some q)(h:p.1=q.1):i=j:=by
 have h1:(T.map (·.1))[i]?=some p.1:=by simp[zY hi]
 have h2:(T.map (·.1))[j]?=some q.1:=by simp[zY hj]
 have hl:i < (T.map (·.1)).length:=by
  rcases Nat.lt_or_ge i (T.map (·.1)).length with hl|hl
  ·exact hl
  ·rw[List.getElem?_eq_none hl] at h1;cases h1
 exact(List.getElem?_inj hl nd).mp (by rw[h1,h2,h])
theorem xJ{m:Nat}{T:zb}(nd:(T.map (·.1)).Nodup):∀{sel:List Nat} {P:zb},picks m T sel=some P->sel.Nodup->(P.map (·.1)).Nodup
 |[],P,h,_=>by simp only[picks,Option.some.injEq] at h;subst h;exact List.nodup_nil
 |j::js,P,h,hs=>by
  have h0:=h
  unfold picks at h
  split at h
  ·split at h
   ·rename_i x hx
    split at h
    ·rename_i xs hxs
     simp only[Option.some.injEq] at h
     subst h
     have hs':=List.nodup_cons.mp hs
     refine List.nodup_cons.mpr ⟨λhm=>?_,xJ nd hxs hs'.2⟩
     obtain⟨p,hp,e⟩:=List.mem_map.mp hm
     obtain⟨i,hi,_,hn⟩:=yo hxs p hp
     exact hs'.1 (Zv nd hn hx e▸hi)
    ·cases h
   ·cases h
  ·cases h
def Rel.sub{C:Cfg}{T T' G G' s}(R:Rel C T G s)(h:∀p∈T',p∈T)(nd:(T'.map (·.1)).Nodup)(hG:∀p∈G',p∈G)(nG:(G'.map (·.1)).Nodup):Rel C T' G' s:=
 ⟨λp hp=>R.slots p (h p hp),λp hp=>R.bound p (h p hp),nd,R.base,λp hp=>R.apart p (h p hp),λp hp=>R.gslots p (hG p hp),nG,R.bare⟩
section
variable {C:Cfg} {X:List Ext} {w:World} {F:List Frame}
theorem QG(dc:C.Ok w)(U:Under C F)(HX:∀e E,nth X e=some E->ExtOk C w F E){n na:Nat}{tp:List Nat}{T:zb}{G:zk}{cur:Sem Fin}{code:Code}{pos:Pos}{fs:List Frame}{s:Shared}
  (x:(Nat->Addr)->(Nat->Ch)->(Nat->Nat)->Exp) (sel:List Nat)
  (h:∀D Z O,lhs C.n sel (exec C X D Z O n tp (T++C.tail) 0 0 G 0 [] [] cur code pos fs)=rhs na (x D Z O) (exec C X D Z O n tp (T++C.tail) 0 0 G 0 [] [] cur code pos fs))
  (hsel:distinct sel=true) (hT:T.length=C.n) (hpc:∀D Z O,Lg.Ok (x D Z O).pc) (R:Rel C (T++C.tail) G s) :
  ∃D Z O s',Comes (model C.prog w) s ⟨cur,code,pos,fs++F⟩ s' ⟨(x D Z O).cur,(x D Z O).code,(x D Z O).pos,(x D Z O).fs++F⟩/\Rel C ((x D Z O).T++C.tail) (x D Z O).G s'/\
   Kp (T++C.tail) G s s'/\(∀j,j < na->s.heap.objs.size<=D j)/\Old (T++C.tail) ((x D Z O).T++C.tail) s.heap.objs.size:=by
 refine cps λGo hGo=>?_
 obtain⟨D,Z,O,_,H⟩:=Y7 dc U HX n tp (T++C.tail) G cur code pos fs s 0 (Nat.zero_le _) R ⟨T,rfl,by rw[hT];rfl⟩
 obtain⟨o,e,hl,h1,h2,h3,h4,h5,h6,h7,h8⟩:=W5 (h D Z O)
 obtain⟨s',c,R',S',K,f,ol⟩:=H o e hl (by rw[h7];exact hpc D Z O)
 obtain⟨E,hE,hlen⟩:=S'
 have hnd:=R'.nodup
 have sb:∀p∈(x D Z O).T++C.tail,p∈o.T:=λp hp=>by
  rcases List.mem_append.mp hp with hp|hp
  ·obtain⟨j,_,_,hn⟩:=yo h5 p hp
   exact zx hn
  ·rw[hE];exact List.mem_append_right _ hp
 refine hGo ⟨D,Z,O,s',by rw[h1,h2,h3,h4] at c;exact c,?_,K,λj hj=>f j (Nat.zero_le _) (by rw[h8];exact hj),λp hp hl=>ol p (sb p hp) hl⟩
 rw[<-h6]
 have inE:∀{j p},j < C.n+o.a->nth o.T j=some p->p∈E:=λ{j p} hj hn=>by
  have:=zY hn
  rw[hE,List.getElem?_append_left (by lia)] at this
  exact List.mem_of_getElem? this
 refine R'.sub (λp hp=>?_) ?_ (λ_ hp=>hp) R'.gnodup
 ·rcases List.mem_append.mp hp with hp|hp
  ·obtain⟨j,_,_,hn⟩:=yo h5 p hp
   exact zx hn
  ·rw[hE];exact List.mem_append_right _ hp
 ·rw[List.map_append,List.nodup_append]
  refine⟨xJ hnd h5 (zD hsel),?_,λa ha b hb hab=>?_⟩
  ·rw[hE,List.map_append] at hnd;exact(List.nodup_append.mp hnd).2.1
  ·subst hab
   obtain⟨p,hp,rfl⟩:=List.mem_map.mp ha
   obtain⟨j,_,hj,hn⟩:=yo h5 p hp
   rw[hE,List.map_append] at hnd
   exact(List.nodup_append.mp hnd).2.2 _ (List.mem_map_of_mem (inE hj hn)) _ hb rfl
end
structure UOut where
 res:Result
 posts:List Obj
 news:List Obj
noncomputable def mkE(m:Nat)(k:Nat->Nat){Y:Type}(pre:Nat->Code->List (Code × Pos)->zb->Option Y)(lg pc:Y->Lg)(out:Y->List Addr->Ch->UOut):Ext:=
 ⟨m,k,false,λd c wh objs _ xs t=>(pre d c wh objs).map λy=>⟨(out y xs t).res,(out y xs t).posts,(out y xs t).news,lg y,pc y⟩⟩
noncomputable def freshA(n k:Nat):List Addr:=(List.range k).map (n+·)
def yc(n k:Nat):(freshA n k).length=k:=(List.length_map _).trans List.length_range
def yq{n k:Nat}{z:Addr}(h:z∈freshA n k):n<=z:=(List.mem_map.mp h).elim λ_ p=>p.2▸Nat.le_add_right _ _
noncomputable def Cfg.at(C:Cfg)(wh:List (Code × Pos))(m:Nat):Cfg:={ C with W:=wh,n:=m }
def Rel.cfg{C C':Cfg}{T G s}(h:C'.base=C.base)(R:Rel C T G s):Rel C' T G s:=
 ⟨R.slots,R.bound,R.nodup,λL p e=>R.base L p (h▸e),λp hp L q e=>R.apart p hp L q (h▸e),R.gslots,R.gnodup,R.bare⟩
theorem yQ{C:Cfg}{T:zb}:∀{js:List Nat} {objs:zb},looks C T js=some objs->(∀j∈js,j % 2=1)->∀p∈objs,∃j∈js,nth T (j / 2)=some p
 |[],objs,h,_,p,hp=>by simp only[looks,Option.some.injEq] at h;subst h;cases hp
 |j::js,objs,h,ho,p,hp=>by
  obtain⟨x,xs,h1,hf,h2,rfl⟩:=zS h
  rcases List.mem_cons.mp hp with rfl|hp
  ·refine⟨j,.head _,?_⟩
   unfold look1 at h1
   rw[show Nat.beq (j % 2) 0=false by rw[ho j (.head _)];rfl] at h1
   exact h1
  ·obtain⟨i,hi,e⟩:=yQ h2 (λj hj=>ho j (.tail _ hj)) p hp
   exact⟨i,.tail _ hi,e⟩
theorem xO{C:Cfg}{T:zb}(nd:(T.map (·.1)).Nodup):∀{js:List Nat} {objs:zb},looks C T js=some objs->(∀j∈js,j % 2=1)->js.Nodup->(objs.map (·.1)).Nodup
 |[],objs,h,_,_=>by simp only[looks,Option.some.injEq] at h;subst h;exact List.nodup_nil
 |j::js,objs,h,ho,hj=>by
  obtain⟨x,xs,h1,hf,h2,rfl⟩:=zS h
  have hj':=List.nodup_cons.mp hj
  refine List.nodup_cons.mpr ⟨λhm=>?_,xO nd h2 (λj hj=>ho j (.tail _ hj)) hj'.2⟩
  obtain⟨p,hp,e⟩:=List.mem_map.mp hm
  obtain⟨i,hi,hn⟩:=yQ h2 (λj hj=>ho j (.tail _ hj)) p hp
  unfold look1 at h1
  rw[show Nat.beq (j % 2) 0=false by rw[ho j (.head _)];rfl] at h1
  have h3:nth T (j / 2)=some x:=h1
  have:=Zv nd hn h3 e
  have o1:=ho i (.tail _ hi)
  have o2:=ho j (.head _)
  exact hj'.1 ((show j=i by lia)▸hi)
theorem xH:∀{js:List Nat} {ps:List Obj} {T T':zb},putObjs T js ps=some T'->js.length=ps.length->∀j∈js,j % 2=1
 |[],_,_,_,_,_,_,h=>by cases h
 | _::_,[],_,_,_,h,_,_=>by simp at h
 |j::js,o::ps,T,T',h,hl,i,hi=>by
  have h:(match Nat.beq (j % 2) 1 with|true=>(match nth T (j / 2) with|some (x,_)=>putObjs (Mine.upd T (j / 2) (x,o)) js ps|none=>none)|false=>none)=some T':=h
  split at h
  ·rename_i hb
   (repeat' split at h)<;>first
    |(cases h;done)
    |(rcases List.mem_cons.mp hi with rfl|hi
      ·exact Nat.eq_of_beq_eq_true hb
      ·exact xH h (by simpa using hl) i hi)
  ·cases h
inductive UsE (C:Cfg) (w:World) (c:Code) (pos:Pos) (F:List Frame) (objs:zb) (s:Shared) (j:Nat) (o:List Addr->Ch->UOut):Prop
 |mk (xs:List Addr) (t:Ch) (hx:xs.length=j) (hf:∀z∈xs,s.heap.objs.size<=z) (s':Shared) (code':Code) (pos':Pos) (hc:Comes (model C.prog w) s ⟨C.den c,c,pos,F⟩ s' ⟨leafOf (o xs t).res,code',pos',F⟩)
  (hr:Rel C (xs.zip (o xs t).news++((objs.map (·.1)).zip (o xs t).posts++C.tail)) [] s') (hn:xs.length=(o xs t).news.length) (hk:Kp (objs++C.tail) [] s s'):UsE C w c pos F objs s j o
def ExtOk.user{C:Cfg}{w:World}{F:List Frame}(U:Under C F)(hden:C.den=denote table)(tl:∀p∈C.tail,p.2.isFreed=false){m:Nat}{k:Nat->Nat}{Y:Type}{pre:Nat->Code->List (Code × Pos)->zb->Option Y}{lg pc:Y->Lg}{out:Y->List Addr->Ch->UOut}
  (odd:∀d c wh objs y xs t,pre d c wh objs=some y->(out y xs t).posts.length=m)
  (H:∀d c wh objs y,objs.length=m->pre d c wh objs=some y->Lg.Ok (lg y)->Lg.Ok (pc y)->∀s pos F',Under (C.at wh m) F'->Rel (C.at wh m) (objs++C.tail) [] s->
   UsE (C.at wh m) w c pos F' objs s (k d) (out y)) :
  ExtOk C w F (mkE m k pre lg pc out):=by
 intro s a T G code pos fs c g l k' objs d js gs G' R hg S hm hd hh hl hlt
 refine cps λGo hGo=>?_
 have hG:gs=[]/\G=G':=by simpa [mkE,takeG,eq_comm] using hg
 obtain⟨rfl,rfl⟩:=hG
 by_cases hq:∃y,pre d c ((code,pos)::(fs.map Frame.where_++C.W)) objs=some y/\Lg.Ok (lg y)/\Lg.Ok (pc y)/\∀j∈js,j % 2=1
 ·obtain⟨y,hy,lo,po,ho⟩:=hq
  have hlen:objs.length=m:=(z4 hl).trans hm
  have inT:∀p∈objs,∃j∈js,nth T (j / 2)=some p:=yQ hl ho
  obtain⟨Ex,hEx,hEl⟩:=id S
  have inE:∀p∈objs,p∈Ex:=λp hp=>by
   obtain⟨j,hj,hn⟩:=inT p hp
   have h1:=zY hn
   rw[hEx,List.getElem?_append_left (by rw[hEl];exact hlt j hj (ho j hj))] at h1
   exact List.mem_of_getElem? h1
  have hnd:=R.nodup
  rw[hEx,List.map_append] at hnd
  have R':Rel (C.at ((code,pos)::(fs.map Frame.where_++C.W)) m) (objs++C.tail) [] s:=by
   refine Rel.cfg (C:=C) rfl (R.sub (T':=objs++C.tail) (G':=[]) (λp hp=>?_) ?_ (λp hp=>by cases hp) List.nodup_nil)
   ·rcases List.mem_append.mp hp with hp|hp
    ·rw[hEx];exact List.mem_append_left _ (inE p hp)
    ·rw[hEx];exact List.mem_append_right _ hp
   ·rw[List.map_append,List.nodup_append]
    refine⟨xO R.nodup hl ho (zD hd),(List.nodup_append.mp hnd).2.1,λx hx z hz=>?_⟩
    obtain⟨p,hp,rfl⟩:=List.mem_map.mp hx
    exact(List.nodup_append.mp hnd).2.2 _ (List.mem_map_of_mem (inE p hp)) _ hz
  have U':Under (C.at ((code,pos)::(fs.map Frame.where_++C.W)) m) (.ret k' none g l code pos []::(fs++F)):=by
   have hz:marksOver fs (none,none)=(none,none):=by
    unfold hdOk at hh
    generalize marksOver fs (none,none)=z at hh
    obtain⟨x,y⟩:=z
    cases x<;>cases y<;>first|rfl|cases hh
   have h1:topHandled (fs++F)=none:=by rw[topHandled_append,U.hd,U.past,hz]
   have h2:topHandled.go true (fs++F)=none:=by rw[past_append,U.hd,U.past,hz]
   exact⟨by simp only[List.map_cons,List.map_append,U.wh];rfl,h1,h2⟩
  obtain⟨xs,t,hx,hf,s',code',pos',hc,R₂,hn₂,K⟩:=H d c _ objs y hlen hy lo po s pos _ U' R'
  refine hGo ⟨xs,t,hx,hf,λr hr _ _ nf T' T'' hp hn=>?_⟩
  obtain⟨y',hy',rfl⟩:=Option.map_eq_some_iff.mp hr
  obtain rfl:y=y':=Option.some.inj (hy.symm.trans hy')
  refine⟨s',.step (step_call ..) (.trans (by have h3:Comes (model C.prog w) s ⟨C.den c,c,pos,_⟩ s' _:=hc;rw[hden] at h3;exact h3) (.step (step_leaf_ret ..) (.refl _ _))),?_⟩
  have hpl:(out y xs t).posts.length=m:=odd _ _ _ _ _ _ _ hy
  obtain⟨e,Hm⟩:=yP hp hl (zD hd) R.nodup
  obtain⟨rfl,hlen'⟩:=yO hn
  have htk:objs.take (out y xs t).posts.length=objs:=by rw[hpl,<-hlen,List.take_length]
  rw[htk] at Hm
  have nd2:=R₂.nodup
  rw[List.map_append,List.map_fst_zip (by lia)] at nd2
  have keep:∀x o,s.heap.get? x=some o->(∀p∈objs,p.1≠x)->s'.heap.get? x=some o:=λx o hx' hne=>by
   by_cases ht:∃p∈C.tail,p.1=x
   ·obtain⟨p,hp,rfl⟩:=ht
    have hpf:=tl p hp
    have h1:=R'.slots p (List.mem_append_right _ hp) hpf
    rw[h1] at hx'
    cases hx'
    exact R₂.slots p (List.mem_append_right _ (List.mem_append_right _ hp)) hpf
   ·refine K.heap x o hx' λp hp=>?_
    rcases List.mem_append.mp hp with hp|hp
    ·exact hne p hp
    ·exact λe=>ht ⟨p,hp,e⟩
  have objT:∀p∈objs,p∈T:=λp hp=>by obtain⟨j,_,hn⟩:=inT p hp;exact zx hn
  refine⟨⟨λp hpm hfr=>?_,λp hpm=>?_,?_,λL p h=>?_,λp hpm L q hq=>?_,λp hpm=>?_,R.gnodup,R₂.bare⟩,⟨λx o hx' hT=>?_,λg st hg _=>K.gens g st hg (λp hp=>by cases hp),K.os,K.size⟩⟩
  ·rcases List.mem_append.mp hpm with hpm|hpm
   ·exact R₂.slots p (List.mem_append_left _ (List.mem_reverse.mp hpm)) hfr
   ·rcases Hm p hpm with h|⟨h,hne⟩
    ·exact R₂.slots p (List.mem_append_right _ (List.mem_append_left _ h)) hfr
    ·exact keep _ _ (R.slots p h hfr) hne
  ·rcases List.mem_append.mp hpm with hpm|hpm
   ·exact R₂.bound p (List.mem_append_left _ (List.mem_reverse.mp hpm))
   ·rcases Hm p hpm with h|⟨h,hne⟩
    ·exact R₂.bound p (List.mem_append_right _ (List.mem_append_left _ h))
    ·exact Nat.lt_of_lt_of_le (R.bound p h) K.size
  ·rw[List.map_append,List.nodup_append]
   refine⟨?_,by rw[e];exact R.nodup,?_⟩
   ·rw[List.map_reverse]
    refine(List.reverse_perm _).nodup_iff.mpr ?_
    rw[List.map_fst_zip (by lia)];exact(List.nodup_append.mp nd2).1
   ·intro a ha b hb hab
    subst hab
    rw[e] at hb
    obtain⟨p,hp1,hp2⟩:=List.mem_map.mp ha
    have h1:p.1∈xs:=(List.of_mem_zip (List.mem_reverse.mp hp1)).1
    obtain⟨q,hq1,hq2⟩:=List.mem_map.mp hb
    have h3:=R.lt hq1
    have h4:=hf _ h1
    rw[hp2] at h4;rw[hq2] at h3;exact absurd h3 (Nat.not_lt.mpr h4)
  ·exact R₂.base L p h
  ·rcases List.mem_append.mp hpm with hpm|hpm
   ·exact R₂.apart p (List.mem_append_left _ (List.mem_reverse.mp hpm)) L q hq
   ·have:p.1∈T.map (·.1):=by rw[<-e];exact List.mem_map_of_mem hpm
    obtain⟨r,hr,er⟩:=List.mem_map.mp this
    rw[<-er];exact R.apart r hr L q hq
  ·exact K.gens _ _ (R.gslots p hpm) (λp hp=>by cases hp)
  ·exact keep x o hx' λp hp=>hT p (objT p hp)
 ·refine hGo ⟨freshA s.heap.objs.size (k d),.of 0,yc _ _,λ_=>yq,λr hr lo po nf T' T'' hp hn=>?_⟩
  obtain⟨y,hy,rfl⟩:=Option.map_eq_some_iff.mp hr
  exact absurd ⟨y,hy,lo,po,xH hp (by rw[hm];exact(odd _ _ _ _ _ _ _ hy).symm)⟩ hq
end Mine
end
noncomputable section
open PySem PySem.W
namespace Mine
structure TopV where
 av:Nat->Addr
 tk:Nat->Tok
 se:Nat->Array (Int × Value)
 sp:Nat->Nat
 st:Nat->SetTable
 de:Array DictEntry
 dp:Nat
noncomputable def progP:Program:=PySem.Challenge.pw_pe0284_01
def sAt(l:List Stmt)(i:Nat):Stmt:=match nth l i with
 |some s=>s
 |none=>.Pass ⟨0,0,0,0⟩
def topS(i:Nat):Stmt:=sAt progP.main.body i
noncomputable def ex0:Expr:=.Constant .none 0 ⟨0,0,0,0⟩
noncomputable def ar0:Arguments:=⟨[],[],none,[],[],none,[]⟩
def stP:Stmt->List Stmt × List Stmt × Arguments × Scope × Expr × Expr × Str
 | .ClassDef _ _ _ b _ _ _ _ _ _ _=>(b,[],ar0,progP.main.scope,ex0,ex0,⟨#[]⟩)
 | .FunctionDef n a b _ _ _ sc _ _ _=>(b,[],a,sc,ex0,ex0,n)
 | .If e b o _=>(b,o,ar0,progP.main.scope,e,ex0,⟨#[]⟩)
 | .For t i b o _=>(b,o,ar0,progP.main.scope,t,i,⟨#[]⟩)
 | .Return (some e) _=>([],[],ar0,progP.main.scope,e,ex0,⟨#[]⟩)
 | .Assign _ e _=>([],[],ar0,progP.main.scope,e,ex0,⟨#[]⟩)
 | _=>([],[],ar0,progP.main.scope,ex0,ex0,⟨#[]⟩)
def exP:Expr->Expr × Expr × Scope × List (Option Expr) × List Expr × List Comprehension × Pos × Const
 | .BinOp l _ r _=>(l,r,progP.main.scope,[],[],[],default,.none)
 | .Compare l _ _ _=>(l,ex0,progP.main.scope,[],[],[],default,.none)
 | .BoolOp _ [l,r] _=>(l,r,progP.main.scope,[],[],[],default,.none)
 | .ListComp t g s q=>(t,ex0,s,[],[],g,q,.none)
 | .Dict ks vs _=>(ex0,ex0,progP.main.scope,ks,vs,[],default,.none)
 | .Call f as _ _=>(f,ex0,progP.main.scope,[],as,[],default,.none)
 | .Constant c _ _=>(ex0,ex0,progP.main.scope,[],[],[],default,c)
 | _=>(ex0,ex0,progP.main.scope,[],[],[],default,.none)
def exA(e:Expr):Expr:=((exP e).2.2.2.2.1[0]?).getD ex0
def inS(i j:Nat):Stmt:=sAt (stP (topS i)).1 j
def fnArgs(s:Stmt):Arguments:=(stP s).2.2.1
def fnBody(s:Stmt):List Stmt:=(stP s).1
def fnScope(s:Stmt):Scope:=(stP s).2.2.2.1
def fnName(s:Stmt):Str:=(stP s).2.2.2.2.2.2
def fnD(s:Stmt)(q:Str)(clos:List (Str × Addr))(dflt pyM code ct:Value):FuncData:=
 { name:=fnName s,qualname:=q,params:=fnArgs s,body:=.stmts (fnBody s),scope:=fnScope s,globals:=3,closure:=clos,defaults:=dflt,kwdefaults:=.none,doc:=.none,pyModule:=pyM,annotations:=none,code:=code,closureTuple:=ct,builtins:=0 }
noncomputable def o_0(P:Params)(V:TopV):Obj:=PySem.W.boot_o_0 P
noncomputable def o_2(P:Params)(V:TopV):Obj:=PySem.W.boot_o_2 P
noncomputable def o_3(P:Params)(V:TopV):Obj:=⟨.type "dict", none,.dict #[⟨PyData.keyHash P ⟨#[95,95,110,97,109,101,95,95]⟩,.str ⟨#[95,95,110,97,109,101,95,95]⟩ 165,.str ⟨#[108,97,119,95,112,101,48,50,56,52,95,48,49]⟩ (V.tk 2758)⟩,⟨PyData.keyHash P ⟨#[95,95,100,111,99,95,95]⟩,.str ⟨#[95,95,100,111,99,95,95]⟩ 166,.none⟩,⟨PyData.keyHash P ⟨#[95,95,112,97,99,107,97,103,101,95,95]⟩,.str ⟨#[95,95,112,97,99,107,97,103,101,95,95]⟩ 167,.none⟩,⟨PyData.keyHash P ⟨#[95,95,108,111,97,100,101,114,95,95]⟩,.str ⟨#[95,95,108,111,97,100,101,114,95,95]⟩ 168,.builtin "__main__.__loader__#opaque"⟩,⟨PyData.keyHash P ⟨#[95,95,115,112,101,99,95,95]⟩,.str ⟨#[95,95,115,112,101,99,95,95]⟩ 169,.none⟩,⟨PyData.keyHash P ⟨#[95,95,97,110,110,111,116,97,116,105,111,110,115,95,95]⟩,.str ⟨#[95,95,97,110,110,111,116,97,116,105,111,110,115,95,95]⟩ 170,.ref 6⟩,⟨PyData.keyHash P ⟨#[95,95,98,117,105,108,116,105,110,115,95,95]⟩,.str ⟨#[95,95,98,117,105,108,116,105,110,115,95,95]⟩ 171,.ref 4⟩,⟨PyData.keyHash P ⟨#[95,95,102,105,108,101,95,95]⟩,.str ⟨#[95,95,102,105,108,101,95,95]⟩ 173,.str ⟨#[47,99,108,97,105,109,47,99,117,116,46,112,121]⟩ 172⟩,⟨PyData.keyHash P ⟨#[95,95,99,97,99,104,101,100,95,95]⟩,.str ⟨#[95,95,99,97,99,104,101,100,95,95]⟩ 174,.none⟩,⟨PyData.keyHash P ⟨#[95,119,97,108,108]⟩,.str ⟨#[95,119,97,108,108]⟩ (V.tk 193),.ref (V.av 21)⟩,⟨PyData.keyHash P ⟨#[98,49,95,115,101,116]⟩,.str ⟨#[98,49,95,115,101,116]⟩ (V.tk 255),.ref (V.av 29)⟩,⟨PyData.keyHash P ⟨#[105,110,95,116,97,98,108,101,95,98,49]⟩,.str ⟨#[105,110,95,116,97,98,108,101,95,98,49]⟩ (V.tk 262),.ref (V.av 39)⟩,⟨PyData.keyHash P ⟨#[98,51,95,101,120,99,101,112,116,105,111,110,115]⟩,.str ⟨#[98,51,95,101,120,99,101,112,116,105,111,110,115]⟩ (V.tk 2213),.ref (V.av 40)⟩,⟨PyData.keyHash P ⟨#[109,97,112,95,116,97,98,108,101,95,98,51]⟩,.str ⟨#[109,97,112,95,116,97,98,108,101,95,98,51]⟩ (V.tk 2221),.ref (V.av 85)⟩,⟨PyData.keyHash P ⟨#[105,110,95,116,97,98,108,101,95,99,49,49]⟩,.str ⟨#[105,110,95,116,97,98,108,101,95,99,49,49]⟩ (V.tk 2228),.ref (V.av 92)⟩,⟨PyData.keyHash P ⟨#[105,110,95,116,97,98,108,101,95,99,52]⟩,.str ⟨#[105,110,95,116,97,98,108,101,95,99,52]⟩ (V.tk 2236),.ref (V.av 99)⟩,⟨PyData.keyHash P ⟨#[99,54,95,115,101,116]⟩,.str ⟨#[99,54,95,115,101,116]⟩ (V.tk 2250),.ref (V.av 101)⟩,⟨PyData.keyHash P ⟨#[105,110,95,116,97,98,108,101,95,99,54]⟩,.str ⟨#[105,110,95,116,97,98,108,101,95,99,54]⟩ (V.tk 2257),.ref (V.av 111)⟩,⟨PyData.keyHash P ⟨#[99,55,95,115,101,116]⟩,.str ⟨#[99,55,95,115,101,116]⟩ (V.tk 2285),.ref (V.av 113)⟩,⟨PyData.keyHash P ⟨#[105,110,95,116,97,98,108,101,95,99,55]⟩,.str ⟨#[105,110,95,116,97,98,108,101,95,99,55]⟩ (V.tk 2292),.ref (V.av 123)⟩,⟨PyData.keyHash P ⟨#[99,56,95,115,101,116]⟩,.str ⟨#[99,56,95,115,101,116]⟩ (V.tk 2333),.ref (V.av 137)⟩,⟨PyData.keyHash P ⟨#[105,110,95,116,97,98,108,101,95,99,56]⟩,.str ⟨#[105,110,95,116,97,98,108,101,95,99,56]⟩ (V.tk 2340),.ref (V.av 147)⟩,⟨PyData.keyHash P ⟨#[99,57,95,115,101,116]⟩,.str ⟨#[99,57,95,115,101,116]⟩ (V.tk 2540),.ref (V.av 155)⟩,⟨PyData.keyHash P ⟨#[105,110,95,116,97,98,108,101,95,99,57]⟩,.str ⟨#[105,110,95,116,97,98,108,101,95,99,57]⟩ (V.tk 2547),.ref (V.av 165)⟩,⟨PyData.keyHash P ⟨#[78,76]⟩,.str ⟨#[78,76]⟩ (V.tk 2551),.str ⟨#[10]⟩ (V.tk 2550)⟩,⟨PyData.keyHash P ⟨#[69,77,80,84,89,83,84,82,73,78,71]⟩,.str ⟨#[69,77,80,84,89,83,84,82,73,78,71]⟩ (V.tk 2553),.str ⟨#[]⟩ (V.tk 2552)⟩,⟨PyData.keyHash P ⟨#[95,86,97,108,117,101,70,111,114,109,97,116,116,101,114]⟩,.str ⟨#[95,86,97,108,117,101,70,111,114,109,97,116,116,101,114]⟩ (V.tk 2661),.ref (V.av 238)⟩,⟨PyData.keyHash P ⟨#[95,65,99,99,117,109,117,108,97,116,111,114]⟩,.str ⟨#[95,65,99,99,117,109,117,108,97,116,111,114]⟩ (V.tk 2757),.ref (V.av 322)⟩,⟨PyData.keyHash P ⟨#[95,108,97,119,95,99,111,100,101]⟩,.str ⟨#[95,108,97,119,95,99,111,100,101]⟩ (V.tk 2768),.ref (V.av 333)⟩,⟨PyData.keyHash P ⟨#[95,108,97,119,95,105,115,95,98,97,114,114,101,100]⟩,.str ⟨#[95,108,97,119,95,105,115,95,98,97,114,114,101,100]⟩ (V.tk 2774),.ref (V.av 338)⟩,⟨PyData.keyHash P ⟨#[95,108,97,119,95,116,111,108,100]⟩,.str ⟨#[95,108,97,119,95,116,111,108,100]⟩ (V.tk 2781),.ref (V.av 345)⟩,⟨PyData.keyHash P ⟨#[95,108,97,119,95,112,97,103,101]⟩,.str ⟨#[95,108,97,119,95,112,97,103,101]⟩ (V.tk 2787),.ref (V.av 350)⟩,⟨PyData.keyHash P ⟨#[95,108,97,119,95,108,97,105,100]⟩,.str ⟨#[95,108,97,119,95,108,97,105,100]⟩ (V.tk 2799),.ref (V.av 357)⟩,⟨PyData.keyHash P ⟨#[108,97,119]⟩,.str ⟨#[108,97,119]⟩ (V.tk 2805),.ref (V.av 362)⟩] 34,#[]⟩
noncomputable def o_4(P:Params)(V:TopV):Obj:=PySem.W.boot_o_4 P
noncomputable def o_29(P:Params)(V:TopV):Obj:=⟨.type "set", none,.set (V.se 29) (V.sp 29) (V.st 29),#[]⟩
noncomputable def o_38(P:Params)(V:TopV):Obj:=⟨.type "code", none,.fields #[.str ⟨#[105,110,95,116,97,98,108,101,95,98,49]⟩ (V.tk 256),.str ⟨#[105,110,95,116,97,98,108,101,95,98,49]⟩ (V.tk 257),.str ⟨#[47,99,108,97,105,109,47,99,117,116,46,112,121]⟩ (V.tk 258),.int (6) 0,.int (1) 0,.int (0) 0,.int (0) 0,.int (3) 0,.ref (V.av 33),.bool true,.int (181) 0,.ref (V.av 34),.none,.ref (V.av 35),.ref (V.av 36),.ref (V.av 37),.int (260) 0,.int (6) 0,.str ⟨#[47,99,108,97,105,109,47,99,117,116,46,112,121]⟩ (V.tk 261)],#[]⟩
def o_39(P:Params)(V:TopV):Obj:=⟨.type "function", none,.func (fnD (topS 3) ⟨#[105,110,95,116,97,98,108,101,95,98,49]⟩ [] (.none) (.str ⟨#[99,112,121,51,49,51,46,115,116,114,105,110,103,112,114,101,112]⟩ (V.tk 194)) (.ref (V.av 38)) (.none)),#[]⟩
noncomputable def o_40(P:Params)(V:TopV):Obj:=⟨.type "dict", none,.dict V.de V.dp,#[]⟩
noncomputable def o_84(P:Params)(V:TopV):Obj:=⟨.type "code", none,.fields #[.str ⟨#[109,97,112,95,116,97,98,108,101,95,98,51]⟩ (V.tk 2214),.str ⟨#[109,97,112,95,116,97,98,108,101,95,98,51]⟩ (V.tk 2215),.str ⟨#[47,99,108,97,105,109,47,99,117,116,46,112,121]⟩ (V.tk 2216),.int (9) 0,.int (1) 0,.int (0) 0,.int (0) 0,.int (3) 0,.ref (V.av 79),.bool true,.int (181) 0,.ref (V.av 80),.none,.ref (V.av 81),.ref (V.av 82),.ref (V.av 83),.int (2219) 0,.int (9) 0,.str ⟨#[47,99,108,97,105,109,47,99,117,116,46,112,121]⟩ (V.tk 2220)],#[]⟩
def o_85(P:Params)(V:TopV):Obj:=⟨.type "function", none,.func (fnD (topS 5) ⟨#[109,97,112,95,116,97,98,108,101,95,98,51]⟩ [] (.none) (.str ⟨#[99,112,121,51,49,51,46,115,116,114,105,110,103,112,114,101,112]⟩ (V.tk 194)) (.ref (V.av 84)) (.none)),#[]⟩
noncomputable def o_91(P:Params)(V:TopV):Obj:=⟨.type "code", none,.fields #[.str ⟨#[105,110,95,116,97,98,108,101,95,99,49,49]⟩ (V.tk 2222),.str ⟨#[105,110,95,116,97,98,108,101,95,99,49,49]⟩ (V.tk 2223),.str ⟨#[47,99,108,97,105,109,47,99,117,116,46,112,121]⟩ (V.tk 2224),.int (14) 0,.int (1) 0,.int (0) 0,.int (0) 0,.int (3) 0,.ref (V.av 86),.bool true,.int (181) 0,.ref (V.av 87),.none,.ref (V.av 88),.ref (V.av 89),.ref (V.av 90),.int (2226) 0,.int (14) 0,.str ⟨#[47,99,108,97,105,109,47,99,117,116,46,112,121]⟩ (V.tk 2227)],#[]⟩
def o_92(P:Params)(V:TopV):Obj:=⟨.type "function", none,.func (fnD (topS 6) ⟨#[105,110,95,116,97,98,108,101,95,99,49,49]⟩ [] (.none) (.str ⟨#[99,112,121,51,49,51,46,115,116,114,105,110,103,112,114,101,112]⟩ (V.tk 194)) (.ref (V.av 91)) (.none)),#[]⟩
noncomputable def o_98(P:Params)(V:TopV):Obj:=⟨.type "code", none,.fields #[.str ⟨#[105,110,95,116,97,98,108,101,95,99,52]⟩ (V.tk 2229),.str ⟨#[105,110,95,116,97,98,108,101,95,99,52]⟩ (V.tk 2230),.str ⟨#[47,99,108,97,105,109,47,99,117,116,46,112,121]⟩ (V.tk 2231),.int (16) 0,.int (1) 0,.int (0) 0,.int (0) 0,.int (3) 0,.ref (V.av 93),.bool true,.int (181) 0,.ref (V.av 94),.none,.ref (V.av 95),.ref (V.av 96),.ref (V.av 97),.int (2234) 0,.int (16) 0,.str ⟨#[47,99,108,97,105,109,47,99,117,116,46,112,121]⟩ (V.tk 2235)],#[]⟩
def o_99(P:Params)(V:TopV):Obj:=⟨.type "function", none,.func (fnD (topS 7) ⟨#[105,110,95,116,97,98,108,101,95,99,52]⟩ [] (.none) (.str ⟨#[99,112,121,51,49,51,46,115,116,114,105,110,103,112,114,101,112]⟩ (V.tk 194)) (.ref (V.av 98)) (.none)),#[]⟩
noncomputable def o_101(P:Params)(V:TopV):Obj:=⟨.type "set", none,.set (V.se 101) (V.sp 101) (V.st 101),#[]⟩
noncomputable def o_110(P:Params)(V:TopV):Obj:=⟨.type "code", none,.fields #[.str ⟨#[105,110,95,116,97,98,108,101,95,99,54]⟩ (V.tk 2251),.str ⟨#[105,110,95,116,97,98,108,101,95,99,54]⟩ (V.tk 2252),.str ⟨#[47,99,108,97,105,109,47,99,117,116,46,112,121]⟩ (V.tk 2253),.int (24) 0,.int (1) 0,.int (0) 0,.int (0) 0,.int (3) 0,.ref (V.av 105),.bool true,.int (181) 0,.ref (V.av 106),.none,.ref (V.av 107),.ref (V.av 108),.ref (V.av 109),.int (2255) 0,.int (24) 0,.str ⟨#[47,99,108,97,105,109,47,99,117,116,46,112,121]⟩ (V.tk 2256)],#[]⟩
def o_111(P:Params)(V:TopV):Obj:=⟨.type "function", none,.func (fnD (topS 9) ⟨#[105,110,95,116,97,98,108,101,95,99,54]⟩ [] (.none) (.str ⟨#[99,112,121,51,49,51,46,115,116,114,105,110,103,112,114,101,112]⟩ (V.tk 194)) (.ref (V.av 110)) (.none)),#[]⟩
noncomputable def o_113(P:Params)(V:TopV):Obj:=⟨.type "set", none,.set (V.se 113) (V.sp 113) (V.st 113),#[]⟩
noncomputable def o_122(P:Params)(V:TopV):Obj:=⟨.type "code", none,.fields #[.str ⟨#[105,110,95,116,97,98,108,101,95,99,55]⟩ (V.tk 2286),.str ⟨#[105,110,95,116,97,98,108,101,95,99,55]⟩ (V.tk 2287),.str ⟨#[47,99,108,97,105,109,47,99,117,116,46,112,121]⟩ (V.tk 2288),.int (27) 0,.int (1) 0,.int (0) 0,.int (0) 0,.int (3) 0,.ref (V.av 117),.bool true,.int (181) 0,.ref (V.av 118),.none,.ref (V.av 119),.ref (V.av 120),.ref (V.av 121),.int (2290) 0,.int (27) 0,.str ⟨#[47,99,108,97,105,109,47,99,117,116,46,112,121]⟩ (V.tk 2291)],#[]⟩
def o_123(P:Params)(V:TopV):Obj:=⟨.type "function", none,.func (fnD (topS 11) ⟨#[105,110,95,116,97,98,108,101,95,99,55]⟩ [] (.none) (.str ⟨#[99,112,121,51,49,51,46,115,116,114,105,110,103,112,114,101,112]⟩ (V.tk 194)) (.ref (V.av 122)) (.none)),#[]⟩
noncomputable def o_137(P:Params)(V:TopV):Obj:=⟨.type "set", none,.set (V.se 137) (V.sp 137) (V.st 137),#[]⟩
noncomputable def o_146(P:Params)(V:TopV):Obj:=⟨.type "code", none,.fields #[.str ⟨#[105,110,95,116,97,98,108,101,95,99,56]⟩ (V.tk 2334),.str ⟨#[105,110,95,116,97,98,108,101,95,99,56]⟩ (V.tk 2335),.str ⟨#[47,99,108,97,105,109,47,99,117,116,46,112,121]⟩ (V.tk 2336),.int (30) 0,.int (1) 0,.int (0) 0,.int (0) 0,.int (3) 0,.ref (V.av 141),.bool true,.int (181) 0,.ref (V.av 142),.none,.ref (V.av 143),.ref (V.av 144),.ref (V.av 145),.int (2338) 0,.int (30) 0,.str ⟨#[47,99,108,97,105,109,47,99,117,116,46,112,121]⟩ (V.tk 2339)],#[]⟩
def o_147(P:Params)(V:TopV):Obj:=⟨.type "function", none,.func (fnD (topS 13) ⟨#[105,110,95,116,97,98,108,101,95,99,56]⟩ [] (.none) (.str ⟨#[99,112,121,51,49,51,46,115,116,114,105,110,103,112,114,101,112]⟩ (V.tk 194)) (.ref (V.av 146)) (.none)),#[]⟩
noncomputable def o_155(P:Params)(V:TopV):Obj:=⟨.type "set", none,.set (V.se 155) (V.sp 155) (V.st 155),#[]⟩
noncomputable def o_164(P:Params)(V:TopV):Obj:=⟨.type "code", none,.fields #[.str ⟨#[105,110,95,116,97,98,108,101,95,99,57]⟩ (V.tk 2541),.str ⟨#[105,110,95,116,97,98,108,101,95,99,57]⟩ (V.tk 2542),.str ⟨#[47,99,108,97,105,109,47,99,117,116,46,112,121]⟩ (V.tk 2543),.int (33) 0,.int (1) 0,.int (0) 0,.int (0) 0,.int (3) 0,.ref (V.av 159),.bool true,.int (181) 0,.ref (V.av 160),.none,.ref (V.av 161),.ref (V.av 162),.ref (V.av 163),.int (2545) 0,.int (33) 0,.str ⟨#[47,99,108,97,105,109,47,99,117,116,46,112,121]⟩ (V.tk 2546)],#[]⟩
def o_165(P:Params)(V:TopV):Obj:=⟨.type "function", none,.func (fnD (topS 15) ⟨#[105,110,95,116,97,98,108,101,95,99,57]⟩ [] (.none) (.str ⟨#[99,112,121,51,49,51,46,115,116,114,105,110,103,112,114,101,112]⟩ (V.tk 194)) (.ref (V.av 164)) (.none)),#[]⟩
noncomputable def o_178(P:Params)(V:TopV):Obj:=⟨.type "code", none,.fields #[.str ⟨#[95,95,105,110,105,116,95,95]⟩ (V.tk 2566),.str ⟨#[95,86,97,108,117,101,70,111,114,109,97,116,116,101,114,46,95,95,105,110,105,116,95,95]⟩ (V.tk 2567),.str ⟨#[47,99,108,97,105,109,47,99,117,116,46,112,121]⟩ (V.tk 2568),.int (40) 0,.int (5) 0,.int (0) 0,.int (0) 0,.int (3) 0,.ref (V.av 173),.bool true,.int (181) 0,.ref (V.av 174),.none,.ref (V.av 175),.ref (V.av 176),.ref (V.av 177),.int (2574) 0,.int (40) 0,.str ⟨#[47,99,108,97,105,109,47,99,117,116,46,112,121]⟩ (V.tk 2575)],#[]⟩
def o_179(P:Params)(V:TopV):Obj:=⟨.type "function", none,.func (fnD (inS 19 0) ⟨#[95,86,97,108,117,101,70,111,114,109,97,116,116,101,114,46,95,95,105,110,105,116,95,95]⟩ [] (.none) (.str ⟨#[99,112,121,51,49,51,46,101,109,97,105,108,46,104,101,97,100,101,114]⟩ (V.tk 2548)) (.ref (V.av 178)) (.none)),#[]⟩
noncomputable def o_185(P:Params)(V:TopV):Obj:=⟨.type "code", none,.fields #[.str ⟨#[95,115,116,114]⟩ (V.tk 2577),.str ⟨#[95,86,97,108,117,101,70,111,114,109,97,116,116,101,114,46,95,115,116,114]⟩ (V.tk 2578),.str ⟨#[47,99,108,97,105,109,47,99,117,116,46,112,121]⟩ (V.tk 2579),.int (48) 0,.int (2) 0,.int (0) 0,.int (0) 0,.int (3) 0,.ref (V.av 180),.bool true,.int (181) 0,.ref (V.av 181),.none,.ref (V.av 182),.ref (V.av 183),.ref (V.av 184),.int (2582) 0,.int (48) 0,.str ⟨#[47,99,108,97,105,109,47,99,117,116,46,112,121]⟩ (V.tk 2583)],#[]⟩
def o_186(P:Params)(V:TopV):Obj:=⟨.type "function", none,.func (fnD (inS 19 1) ⟨#[95,86,97,108,117,101,70,111,114,109,97,116,116,101,114,46,95,115,116,114]⟩ [] (.none) (.str ⟨#[99,112,121,51,49,51,46,101,109,97,105,108,46,104,101,97,100,101,114]⟩ (V.tk 2548)) (.ref (V.av 185)) (.none)),#[]⟩
noncomputable def o_199(P:Params)(V:TopV):Obj:=⟨.type "code", none,.fields #[.str ⟨#[110,101,119,108,105,110,101]⟩ (V.tk 2592),.str ⟨#[95,86,97,108,117,101,70,111,114,109,97,116,116,101,114,46,110,101,119,108,105,110,101]⟩ (V.tk 2593),.str ⟨#[47,99,108,97,105,109,47,99,117,116,46,112,121]⟩ (V.tk 2594),.int (55) 0,.int (1) 0,.int (0) 0,.int (0) 0,.int (3) 0,.ref (V.av 194),.bool true,.int (181) 0,.ref (V.av 195),.none,.ref (V.av 196),.ref (V.av 197),.ref (V.av 198),.int (2597) 0,.int (55) 0,.str ⟨#[47,99,108,97,105,109,47,99,117,116,46,112,121]⟩ (V.tk 2598)],#[]⟩
def o_200(P:Params)(V:TopV):Obj:=⟨.type "function", none,.func (fnD (inS 19 3) ⟨#[95,86,97,108,117,101,70,111,114,109,97,116,116,101,114,46,110,101,119,108,105,110,101]⟩ [] (.none) (.str ⟨#[99,112,121,51,49,51,46,101,109,97,105,108,46,104,101,97,100,101,114]⟩ (V.tk 2548)) (.ref (V.av 199)) (.none)),#[]⟩
noncomputable def o_206(P:Params)(V:TopV):Obj:=⟨.type "code", none,.fields #[.str ⟨#[97,100,100,95,116,114,97,110,115,105,116,105,111,110]⟩ (V.tk 2600),.str ⟨#[95,86,97,108,117,101,70,111,114,109,97,116,116,101,114,46,97,100,100,95,116,114,97,110,115,105,116,105,111,110]⟩ (V.tk 2601),.str ⟨#[47,99,108,97,105,109,47,99,117,116,46,112,121]⟩ (V.tk 2602),.int (66) 0,.int (1) 0,.int (0) 0,.int (0) 0,.int (3) 0,.ref (V.av 201),.bool true,.int (181) 0,.ref (V.av 202),.none,.ref (V.av 203),.ref (V.av 204),.ref (V.av 205),.int (2604) 0,.int (66) 0,.str ⟨#[47,99,108,97,105,109,47,99,117,116,46,112,121]⟩ (V.tk 2605)],#[]⟩
def o_207(P:Params)(V:TopV):Obj:=⟨.type "function", none,.func (fnD (inS 19 4) ⟨#[95,86,97,108,117,101,70,111,114,109,97,116,116,101,114,46,97,100,100,95,116,114,97,110,115,105,116,105,111,110]⟩ [] (.none) (.str ⟨#[99,112,121,51,49,51,46,101,109,97,105,108,46,104,101,97,100,101,114]⟩ (V.tk 2548)) (.ref (V.av 206)) (.none)),#[]⟩
noncomputable def o_234(P:Params)(V:TopV):Obj:=⟨.type "code", none,.fields #[.str ⟨#[95,97,112,112,101,110,100,95,99,104,117,110,107]⟩ (V.tk 2634),.str ⟨#[95,86,97,108,117,101,70,111,114,109,97,116,116,101,114,46,95,97,112,112,101,110,100,95,99,104,117,110,107]⟩ (V.tk 2635),.str ⟨#[47,99,108,97,105,109,47,99,117,116,46,112,121]⟩ (V.tk 2636),.int (78) 0,.int (3) 0,.int (0) 0,.int (0) 0,.int (3) 0,.ref (V.av 229),.bool true,.int (181) 0,.ref (V.av 230),.none,.ref (V.av 231),.ref (V.av 232),.ref (V.av 233),.int (2645) 0,.int (78) 0,.str ⟨#[47,99,108,97,105,109,47,99,117,116,46,112,121]⟩ (V.tk 2646)],#[]⟩
def o_235(P:Params)(V:TopV):Obj:=⟨.type "function", none,.func (fnD (inS 19 8) ⟨#[95,86,97,108,117,101,70,111,114,109,97,116,116,101,114,46,95,97,112,112,101,110,100,95,99,104,117,110,107]⟩ [] (.none) (.str ⟨#[99,112,121,51,49,51,46,101,109,97,105,108,46,104,101,97,100,101,114]⟩ (V.tk 2548)) (.ref (V.av 234)) (.none)),#[]⟩
noncomputable def o_237(P:Params)(V:TopV):Obj:=⟨.type "dict", none,.dict #[⟨PyData.keyHash P ⟨#[95,95,109,111,100,117,108,101,95,95]⟩,.str ⟨#[95,95,109,111,100,117,108,101,95,95]⟩ (V.tk 2561),.str ⟨#[99,112,121,51,49,51,46,101,109,97,105,108,46,104,101,97,100,101,114]⟩ (V.tk 2548)⟩,⟨PyData.keyHash P ⟨#[95,95,102,105,114,115,116,108,105,110,101,110,111,95,95]⟩,.str ⟨#[95,95,102,105,114,115,116,108,105,110,101,110,111,95,95]⟩ (V.tk 2565),.int (38) (V.tk 2564)⟩,⟨PyData.keyHash P ⟨#[95,95,105,110,105,116,95,95]⟩,.str ⟨#[95,95,105,110,105,116,95,95]⟩ (V.tk 2576),.ref (V.av 179)⟩,⟨PyData.keyHash P ⟨#[95,115,116,114]⟩,.str ⟨#[95,115,116,114]⟩ (V.tk 2584),.ref (V.av 186)⟩,⟨PyData.keyHash P ⟨#[95,95,115,116,114,95,95]⟩,.str ⟨#[95,95,115,116,114,95,95]⟩ (V.tk 2591),.ref (V.av 193)⟩,⟨PyData.keyHash P ⟨#[110,101,119,108,105,110,101]⟩,.str ⟨#[110,101,119,108,105,110,101]⟩ (V.tk 2599),.ref (V.av 200)⟩,⟨PyData.keyHash P ⟨#[97,100,100,95,116,114,97,110,115,105,116,105,111,110]⟩,.str ⟨#[97,100,100,95,116,114,97,110,115,105,116,105,111,110]⟩ (V.tk 2606),.ref (V.av 207)⟩,⟨PyData.keyHash P ⟨#[102,101,101,100]⟩,.str ⟨#[102,101,101,100]⟩ (V.tk 2616),.ref (V.av 214)⟩,⟨PyData.keyHash P ⟨#[95,109,97,120,108,101,110,103,116,104,115]⟩,.str ⟨#[95,109,97,120,108,101,110,103,116,104,115]⟩ (V.tk 2623),.ref (V.av 221)⟩,⟨PyData.keyHash P ⟨#[95,97,115,99,105,105,95,115,112,108,105,116]⟩,.str ⟨#[95,97,115,99,105,105,95,115,112,108,105,116]⟩ (V.tk 2633),.ref (V.av 228)⟩,⟨PyData.keyHash P ⟨#[95,97,112,112,101,110,100,95,99,104,117,110,107]⟩,.str ⟨#[95,97,112,112,101,110,100,95,99,104,117,110,107]⟩ (V.tk 2647),.ref (V.av 235)⟩,⟨PyData.keyHash P ⟨#[95,95,115,116,97,116,105,99,95,97,116,116,114,105,98,117,116,101,115,95,95]⟩,.str ⟨#[95,95,115,116,97,116,105,99,95,97,116,116,114,105,98,117,116,101,115,95,95]⟩ (V.tk 2654),.ref (V.av 236)⟩,⟨PyData.keyHash P ⟨#[95,95,100,105,99,116,95,95]⟩,.str ⟨#[95,95,100,105,99,116,95,95]⟩ (V.tk 2656),.ref (V.av 239)⟩,⟨PyData.keyHash P ⟨#[95,95,119,101,97,107,114,101,102,95,95]⟩,.str ⟨#[95,95,119,101,97,107,114,101,102,95,95]⟩ (V.tk 2658),.ref (V.av 240)⟩,⟨PyData.keyHash P ⟨#[95,95,100,111,99,95,95]⟩,.str ⟨#[95,95,100,111,99,95,95]⟩ (V.tk 2659),.none⟩] 4,#[]⟩
noncomputable def o_238(P:Params)(V:TopV):Obj:=⟨.type "type", none,.cls { name:=⟨#[95,86,97,108,117,101,70,111,114,109,97,116,116,101,114]⟩,bases:=[.type "object"],mro:=[.ref (V.av 238),.type "object"],ns:=(V.av 237),qualname:=⟨#[95,86,97,108,117,101,70,111,114,109,97,116,116,101,114]⟩,hasDict:=true,slotNames:=[],subclasses:=[],abstract:=false,collection:=none,hasDel:=false },#[none,none,(some (.str ⟨#[95,86,97,108,117,101,70,111,114,109,97,116,116,101,114]⟩ (V.tk 2554))),(some (.str ⟨#[95,86,97,108,117,101,70,111,114,109,97,116,116,101,114]⟩ (V.tk 2562))),(some (.builtin "object.__new__")),(some (.bool true))]⟩
noncomputable def o_246(P:Params)(V:TopV):Obj:=⟨.type "cell", none,.cell (some (.ref (V.av 322))),#[]⟩
noncomputable def o_251(P:Params)(V:TopV):Obj:=⟨.type "tuple", none,.seq #[.int (0) (V.tk 2674)] 0,#[]⟩
noncomputable def o_258(P:Params)(V:TopV):Obj:=⟨.type "code", none,.fields #[.str ⟨#[95,95,105,110,105,116,95,95]⟩ (V.tk 2675),.str ⟨#[95,65,99,99,117,109,117,108,97,116,111,114,46,95,95,105,110,105,116,95,95]⟩ (V.tk 2676),.str ⟨#[47,99,108,97,105,109,47,99,117,116,46,112,121]⟩ (V.tk 2677),.int (106) 0,.int (2) 0,.int (0) 0,.int (0) 0,.int (3) 0,.ref (V.av 253),.bool true,.int (181) 0,.ref (V.av 254),.none,.ref (V.av 255),.ref (V.av 256),.ref (V.av 257),.int (2681) 0,.int (106) 0,.str ⟨#[47,99,108,97,105,109,47,99,117,116,46,112,121]⟩ (V.tk 2682)],#[]⟩
def o_259(P:Params)(V:TopV):Obj:=⟨.type "function", none,.func (fnD (inS 20 0) ⟨#[95,65,99,99,117,109,117,108,97,116,111,114,46,95,95,105,110,105,116,95,95]⟩ [(⟨#[95,95,99,108,97,115,115,95,95]⟩,(V.av 246))] (.ref (V.av 251)) (.str ⟨#[99,112,121,51,49,51,46,101,109,97,105,108,46,104,101,97,100,101,114]⟩ (V.tk 2548)) (.ref (V.av 258)) (.ref (V.av 252))),#[]⟩
noncomputable def o_265(P:Params)(V:TopV):Obj:=⟨.type "code", none,.fields #[.str ⟨#[112,117,115,104]⟩ (V.tk 2684),.str ⟨#[95,65,99,99,117,109,117,108,97,116,111,114,46,112,117,115,104]⟩ (V.tk 2685),.str ⟨#[47,99,108,97,105,109,47,99,117,116,46,112,121]⟩ (V.tk 2686),.int (110) 0,.int (3) 0,.int (0) 0,.int (0) 0,.int (3) 0,.ref (V.av 260),.bool true,.int (181) 0,.ref (V.av 261),.none,.ref (V.av 262),.ref (V.av 263),.ref (V.av 264),.int (2690) 0,.int (110) 0,.str ⟨#[47,99,108,97,105,109,47,99,117,116,46,112,121]⟩ (V.tk 2691)],#[]⟩
def o_266(P:Params)(V:TopV):Obj:=⟨.type "function", none,.func (fnD (inS 20 1) ⟨#[95,65,99,99,117,109,117,108,97,116,111,114,46,112,117,115,104]⟩ [] (.none) (.str ⟨#[99,112,121,51,49,51,46,101,109,97,105,108,46,104,101,97,100,101,114]⟩ (V.tk 2548)) (.ref (V.av 265)) (.none)),#[]⟩
noncomputable def o_267(P:Params)(V:TopV):Obj:=⟨.type "tuple", none,.seq #[.int (0) (V.tk 2693)] 0,#[]⟩
noncomputable def o_273(P:Params)(V:TopV):Obj:=⟨.type "code", none,.fields #[.str ⟨#[112,111,112,95,102,114,111,109]⟩ (V.tk 2694),.str ⟨#[95,65,99,99,117,109,117,108,97,116,111,114,46,112,111,112,95,102,114,111,109]⟩ (V.tk 2695),.str ⟨#[47,99,108,97,105,109,47,99,117,116,46,112,121]⟩ (V.tk 2696),.int (113) 0,.int (2) 0,.int (0) 0,.int (0) 0,.int (3) 0,.ref (V.av 268),.bool true,.int (181) 0,.ref (V.av 269),.none,.ref (V.av 270),.ref (V.av 271),.ref (V.av 272),.int (2700) 0,.int (113) 0,.str ⟨#[47,99,108,97,105,109,47,99,117,116,46,112,121]⟩ (V.tk 2701)],#[]⟩
def o_274(P:Params)(V:TopV):Obj:=⟨.type "function", none,.func (fnD (inS 20 2) ⟨#[95,65,99,99,117,109,117,108,97,116,111,114,46,112,111,112,95,102,114,111,109]⟩ [] (.ref (V.av 267)) (.str ⟨#[99,112,121,51,49,51,46,101,109,97,105,108,46,104,101,97,100,101,114]⟩ (V.tk 2548)) (.ref (V.av 273)) (.none)),#[]⟩
noncomputable def o_281(P:Params)(V:TopV):Obj:=⟨.type "code", none,.fields #[.str ⟨#[112,111,112]⟩ (V.tk 2703),.str ⟨#[95,65,99,99,117,109,117,108,97,116,111,114,46,112,111,112]⟩ (V.tk 2704),.str ⟨#[47,99,108,97,105,109,47,99,117,116,46,112,121]⟩ (V.tk 2705),.int (118) 0,.int (1) 0,.int (0) 0,.int (0) 0,.int (3) 0,.ref (V.av 276),.bool true,.int (181) 0,.ref (V.av 277),.none,.ref (V.av 278),.ref (V.av 279),.ref (V.av 280),.int (2708) 0,.int (118) 0,.str ⟨#[47,99,108,97,105,109,47,99,117,116,46,112,121]⟩ (V.tk 2709)],#[]⟩
def o_282(P:Params)(V:TopV):Obj:=⟨.type "function", none,.func (fnD (inS 20 3) ⟨#[95,65,99,99,117,109,117,108,97,116,111,114,46,112,111,112]⟩ [(⟨#[95,95,99,108,97,115,115,95,95]⟩,(V.av 246))] (.none) (.str ⟨#[99,112,121,51,49,51,46,101,109,97,105,108,46,104,101,97,100,101,114]⟩ (V.tk 2548)) (.ref (V.av 281)) (.ref (V.av 275))),#[]⟩
noncomputable def o_288(P:Params)(V:TopV):Obj:=⟨.type "code", none,.fields #[.str ⟨#[95,95,108,101,110,95,95]⟩ (V.tk 2711),.str ⟨#[95,65,99,99,117,109,117,108,97,116,111,114,46,95,95,108,101,110,95,95]⟩ (V.tk 2712),.str ⟨#[47,99,108,97,105,109,47,99,117,116,46,112,121]⟩ (V.tk 2713),.int (123) 0,.int (1) 0,.int (0) 0,.int (0) 0,.int (3) 0,.ref (V.av 283),.bool true,.int (181) 0,.ref (V.av 284),.none,.ref (V.av 285),.ref (V.av 286),.ref (V.av 287),.int (2715) 0,.int (123) 0,.str ⟨#[47,99,108,97,105,109,47,99,117,116,46,112,121]⟩ (V.tk 2716)],#[]⟩
def o_289(P:Params)(V:TopV):Obj:=⟨.type "function", none,.func (fnD (inS 20 4) ⟨#[95,65,99,99,117,109,117,108,97,116,111,114,46,95,95,108,101,110,95,95]⟩ [] (.none) (.str ⟨#[99,112,121,51,49,51,46,101,109,97,105,108,46,104,101,97,100,101,114]⟩ (V.tk 2548)) (.ref (V.av 288)) (.none)),#[]⟩
noncomputable def o_295(P:Params)(V:TopV):Obj:=⟨.type "code", none,.fields #[.str ⟨#[95,95,115,116,114,95,95]⟩ (V.tk 2718),.str ⟨#[95,65,99,99,117,109,117,108,97,116,111,114,46,95,95,115,116,114,95,95]⟩ (V.tk 2719),.str ⟨#[47,99,108,97,105,109,47,99,117,116,46,112,121]⟩ (V.tk 2720),.int (126) 0,.int (1) 0,.int (0) 0,.int (0) 0,.int (3) 0,.ref (V.av 290),.bool true,.int (181) 0,.ref (V.av 291),.none,.ref (V.av 292),.ref (V.av 293),.ref (V.av 294),.int (2722) 0,.int (126) 0,.str ⟨#[47,99,108,97,105,109,47,99,117,116,46,112,121]⟩ (V.tk 2723)],#[]⟩
def o_296(P:Params)(V:TopV):Obj:=⟨.type "function", none,.func (fnD (inS 20 5) ⟨#[95,65,99,99,117,109,117,108,97,116,111,114,46,95,95,115,116,114,95,95]⟩ [] (.none) (.str ⟨#[99,112,121,51,49,51,46,101,109,97,105,108,46,104,101,97,100,101,114]⟩ (V.tk 2548)) (.ref (V.av 295)) (.none)),#[]⟩
noncomputable def o_297(P:Params)(V:TopV):Obj:=⟨.type "tuple", none,.seq #[.none] 0,#[]⟩
noncomputable def o_303(P:Params)(V:TopV):Obj:=⟨.type "code", none,.fields #[.str ⟨#[114,101,115,101,116]⟩ (V.tk 2725),.str ⟨#[95,65,99,99,117,109,117,108,97,116,111,114,46,114,101,115,101,116]⟩ (V.tk 2726),.str ⟨#[47,99,108,97,105,109,47,99,117,116,46,112,121]⟩ (V.tk 2727),.int (129) 0,.int (2) 0,.int (0) 0,.int (0) 0,.int (3) 0,.ref (V.av 298),.bool true,.int (181) 0,.ref (V.av 299),.none,.ref (V.av 300),.ref (V.av 301),.ref (V.av 302),.int (2730) 0,.int (129) 0,.str ⟨#[47,99,108,97,105,109,47,99,117,116,46,112,121]⟩ (V.tk 2731)],#[]⟩
def o_304(P:Params)(V:TopV):Obj:=⟨.type "function", none,.func (fnD (inS 20 6) ⟨#[95,65,99,99,117,109,117,108,97,116,111,114,46,114,101,115,101,116]⟩ [] (.ref (V.av 297)) (.str ⟨#[99,112,121,51,49,51,46,101,109,97,105,108,46,104,101,97,100,101,114]⟩ (V.tk 2548)) (.ref (V.av 303)) (.none)),#[]⟩
noncomputable def o_310(P:Params)(V:TopV):Obj:=⟨.type "code", none,.fields #[.str ⟨#[105,115,95,111,110,108,121,119,115]⟩ (V.tk 2733),.str ⟨#[95,65,99,99,117,109,117,108,97,116,111,114,46,105,115,95,111,110,108,121,119,115]⟩ (V.tk 2734),.str ⟨#[47,99,108,97,105,109,47,99,117,116,46,112,121]⟩ (V.tk 2735),.int (135) 0,.int (1) 0,.int (0) 0,.int (0) 0,.int (3) 0,.ref (V.av 305),.bool true,.int (181) 0,.ref (V.av 306),.none,.ref (V.av 307),.ref (V.av 308),.ref (V.av 309),.int (2737) 0,.int (135) 0,.str ⟨#[47,99,108,97,105,109,47,99,117,116,46,112,121]⟩ (V.tk 2738)],#[]⟩
def o_311(P:Params)(V:TopV):Obj:=⟨.type "function", none,.func (fnD (inS 20 7) ⟨#[95,65,99,99,117,109,117,108,97,116,111,114,46,105,115,95,111,110,108,121,119,115]⟩ [] (.none) (.str ⟨#[99,112,121,51,49,51,46,101,109,97,105,108,46,104,101,97,100,101,114]⟩ (V.tk 2548)) (.ref (V.av 310)) (.none)),#[]⟩
noncomputable def o_318(P:Params)(V:TopV):Obj:=⟨.type "code", none,.fields #[.str ⟨#[112,97,114,116,95,99,111,117,110,116]⟩ (V.tk 2740),.str ⟨#[95,65,99,99,117,109,117,108,97,116,111,114,46,112,97,114,116,95,99,111,117,110,116]⟩ (V.tk 2741),.str ⟨#[47,99,108,97,105,109,47,99,117,116,46,112,121]⟩ (V.tk 2742),.int (138) 0,.int (1) 0,.int (0) 0,.int (0) 0,.int (3) 0,.ref (V.av 313),.bool true,.int (181) 0,.ref (V.av 314),.none,.ref (V.av 315),.ref (V.av 316),.ref (V.av 317),.int (2745) 0,.int (138) 0,.str ⟨#[47,99,108,97,105,109,47,99,117,116,46,112,121]⟩ (V.tk 2746)],#[]⟩
def o_319(P:Params)(V:TopV):Obj:=⟨.type "function", none,.func (fnD (inS 20 8) ⟨#[95,65,99,99,117,109,117,108,97,116,111,114,46,112,97,114,116,95,99,111,117,110,116]⟩ [(⟨#[95,95,99,108,97,115,115,95,95]⟩,(V.av 246))] (.none) (.str ⟨#[99,112,121,51,49,51,46,101,109,97,105,108,46,104,101,97,100,101,114]⟩ (V.tk 2548)) (.ref (V.av 318)) (.ref (V.av 312))),#[]⟩
noncomputable def o_321(P:Params)(V:TopV):Obj:=⟨.type "dict", none,.dict #[⟨PyData.keyHash P ⟨#[95,95,109,111,100,117,108,101,95,95]⟩,.str ⟨#[95,95,109,111,100,117,108,101,95,95]⟩ (V.tk 2669),.str ⟨#[99,112,121,51,49,51,46,101,109,97,105,108,46,104,101,97,100,101,114]⟩ (V.tk 2548)⟩,⟨PyData.keyHash P ⟨#[95,95,102,105,114,115,116,108,105,110,101,110,111,95,95]⟩,.str ⟨#[95,95,102,105,114,115,116,108,105,110,101,110,111,95,95]⟩ (V.tk 2673),.int (104) (V.tk 2672)⟩,⟨PyData.keyHash P ⟨#[95,95,105,110,105,116,95,95]⟩,.str ⟨#[95,95,105,110,105,116,95,95]⟩ (V.tk 2683),.ref (V.av 259)⟩,⟨PyData.keyHash P ⟨#[112,117,115,104]⟩,.str ⟨#[112,117,115,104]⟩ (V.tk 2692),.ref (V.av 266)⟩,⟨PyData.keyHash P ⟨#[112,111,112,95,102,114,111,109]⟩,.str ⟨#[112,111,112,95,102,114,111,109]⟩ (V.tk 2702),.ref (V.av 274)⟩,⟨PyData.keyHash P ⟨#[112,111,112]⟩,.str ⟨#[112,111,112]⟩ (V.tk 2710),.ref (V.av 282)⟩,⟨PyData.keyHash P ⟨#[95,95,108,101,110,95,95]⟩,.str ⟨#[95,95,108,101,110,95,95]⟩ (V.tk 2717),.ref (V.av 289)⟩,⟨PyData.keyHash P ⟨#[95,95,115,116,114,95,95]⟩,.str ⟨#[95,95,115,116,114,95,95]⟩ (V.tk 2724),.ref (V.av 296)⟩,⟨PyData.keyHash P ⟨#[114,101,115,101,116]⟩,.str ⟨#[114,101,115,101,116]⟩ (V.tk 2732),.ref (V.av 304)⟩,⟨PyData.keyHash P ⟨#[105,115,95,111,110,108,121,119,115]⟩,.str ⟨#[105,115,95,111,110,108,121,119,115]⟩ (V.tk 2739),.ref (V.av 311)⟩,⟨PyData.keyHash P ⟨#[112,97,114,116,95,99,111,117,110,116]⟩,.str ⟨#[112,97,114,116,95,99,111,117,110,116]⟩ (V.tk 2747),.ref (V.av 319)⟩,⟨PyData.keyHash P ⟨#[95,95,115,116,97,116,105,99,95,97,116,116,114,105,98,117,116,101,115,95,95]⟩,.str ⟨#[95,95,115,116,97,116,105,99,95,97,116,116,114,105,98,117,116,101,115,95,95]⟩ (V.tk 2749),.ref (V.av 320)⟩,⟨PyData.keyHash P ⟨#[95,95,100,105,99,116,95,95]⟩,.str ⟨#[95,95,100,105,99,116,95,95]⟩ (V.tk 2752),.ref (V.av 323)⟩,⟨PyData.keyHash P ⟨#[95,95,119,101,97,107,114,101,102,95,95]⟩,.str ⟨#[95,95,119,101,97,107,114,101,102,95,95]⟩ (V.tk 2754),.ref (V.av 324)⟩,⟨PyData.keyHash P ⟨#[95,95,100,111,99,95,95]⟩,.str ⟨#[95,95,100,111,99,95,95]⟩ (V.tk 2755),.none⟩] 5,#[]⟩
noncomputable def o_322(P:Params)(V:TopV):Obj:=⟨.type "type", none,.cls { name:=⟨#[95,65,99,99,117,109,117,108,97,116,111,114]⟩,bases:=[.type "list"],mro:=[.ref (V.av 322),.type "list", .type "object"],ns:=(V.av 321),qualname:=⟨#[95,65,99,99,117,109,117,108,97,116,111,114]⟩,hasDict:=true,slotNames:=[],subclasses:=[],abstract:=false,collection:=none,hasDel:=false },#[(some (.ref (V.av 243))),none,(some (.str ⟨#[95,65,99,99,117,109,117,108,97,116,111,114]⟩ (V.tk 2662))),(some (.str ⟨#[95,65,99,99,117,109,117,108,97,116,111,114]⟩ (V.tk 2670))),(some (.builtin "list.__new__")),(some (.bool true))]⟩
noncomputable def o_332(P:Params)(V:TopV):Obj:=⟨.type "code", none,.fields #[.str ⟨#[95,108,97,119,95,99,111,100,101]⟩ (V.tk 2760),.str ⟨#[95,108,97,119,95,99,111,100,101]⟩ (V.tk 2761),.str ⟨#[47,99,108,97,105,109,47,99,117,116,46,112,121]⟩ (V.tk 2762),.int (141) 0,.int (1) 0,.int (0) 0,.int (0) 0,.int (3) 0,.ref (V.av 327),.bool true,.int (181) 0,.ref (V.av 328),.none,.ref (V.av 329),.ref (V.av 330),.ref (V.av 331),.int (2766) 0,.int (141) 0,.str ⟨#[47,99,108,97,105,109,47,99,117,116,46,112,121]⟩ (V.tk 2767)],#[]⟩
def o_333(P:Params)(V:TopV):Obj:=⟨.type "function", none,.func (fnD (topS 22) ⟨#[95,108,97,119,95,99,111,100,101]⟩ [] (.none) (.str ⟨#[108,97,119,95,112,101,48,50,56,52,95,48,49]⟩ (V.tk 2758)) (.ref (V.av 332)) (.none)),#[]⟩
noncomputable def o_337(P:Params)(V:TopV):Obj:=⟨.type "code", none,.fields #[.str ⟨#[95,108,97,119,95,105,115,95,98,97,114,114,101,100]⟩ (V.tk 2769),.str ⟨#[95,108,97,119,95,105,115,95,98,97,114,114,101,100]⟩ (V.tk 2770),.str ⟨#[47,99,108,97,105,109,47,99,117,116,46,112,121]⟩ (V.tk 2771),.int (153) 0,.int (1) 0,.int (0) 0,.int (0) 0,.int (3) 0,.ref (V.av 334),.bool true,.int (181) 0,.ref (V.av 335),.none,.none,.none,.ref (V.av 336),.int (2772) 0,.int (153) 0,.str ⟨#[47,99,108,97,105,109,47,99,117,116,46,112,121]⟩ (V.tk 2773)],#[]⟩
def o_338(P:Params)(V:TopV):Obj:=⟨.type "function", none,.func (fnD (topS 23) ⟨#[95,108,97,119,95,105,115,95,98,97,114,114,101,100]⟩ [] (.none) (.str ⟨#[108,97,119,95,112,101,48,50,56,52,95,48,49]⟩ (V.tk 2758)) (.ref (V.av 337)) (.none)),#[]⟩
noncomputable def o_344(P:Params)(V:TopV):Obj:=⟨.type "code", none,.fields #[.str ⟨#[95,108,97,119,95,116,111,108,100]⟩ (V.tk 2775),.str ⟨#[95,108,97,119,95,116,111,108,100]⟩ (V.tk 2776),.str ⟨#[47,99,108,97,105,109,47,99,117,116,46,112,121]⟩ (V.tk 2777),.int (156) 0,.int (1) 0,.int (0) 0,.int (0) 0,.int (3) 0,.ref (V.av 339),.bool true,.int (181) 0,.ref (V.av 340),.none,.ref (V.av 341),.ref (V.av 342),.ref (V.av 343),.int (2779) 0,.int (156) 0,.str ⟨#[47,99,108,97,105,109,47,99,117,116,46,112,121]⟩ (V.tk 2780)],#[]⟩
def o_345(P:Params)(V:TopV):Obj:=⟨.type "function", none,.func (fnD (topS 24) ⟨#[95,108,97,119,95,116,111,108,100]⟩ [] (.none) (.str ⟨#[108,97,119,95,112,101,48,50,56,52,95,48,49]⟩ (V.tk 2758)) (.ref (V.av 344)) (.none)),#[]⟩
noncomputable def o_349(P:Params)(V:TopV):Obj:=⟨.type "code", none,.fields #[.str ⟨#[95,108,97,119,95,112,97,103,101]⟩ (V.tk 2782),.str ⟨#[95,108,97,119,95,112,97,103,101]⟩ (V.tk 2783),.str ⟨#[47,99,108,97,105,109,47,99,117,116,46,112,121]⟩ (V.tk 2784),.int (168) 0,.int (3) 0,.int (0) 0,.int (0) 0,.int (3) 0,.ref (V.av 346),.bool true,.int (181) 0,.ref (V.av 347),.none,.none,.none,.ref (V.av 348),.int (2785) 0,.int (168) 0,.str ⟨#[47,99,108,97,105,109,47,99,117,116,46,112,121]⟩ (V.tk 2786)],#[]⟩
def o_350(P:Params)(V:TopV):Obj:=⟨.type "function", none,.func (fnD (topS 25) ⟨#[95,108,97,119,95,112,97,103,101]⟩ [] (.none) (.str ⟨#[108,97,119,95,112,101,48,50,56,52,95,48,49]⟩ (V.tk 2758)) (.ref (V.av 349)) (.none)),#[]⟩
noncomputable def o_356(P:Params)(V:TopV):Obj:=⟨.type "code", none,.fields #[.str ⟨#[95,108,97,119,95,108,97,105,100]⟩ (V.tk 2788),.str ⟨#[95,108,97,119,95,108,97,105,100]⟩ (V.tk 2789),.str ⟨#[47,99,108,97,105,109,47,99,117,116,46,112,121]⟩ (V.tk 2790),.int (199) 0,.int (3) 0,.int (0) 0,.int (0) 0,.int (3) 0,.ref (V.av 351),.bool true,.int (181) 0,.ref (V.av 352),.none,.ref (V.av 353),.ref (V.av 354),.ref (V.av 355),.int (2797) 0,.int (199) 0,.str ⟨#[47,99,108,97,105,109,47,99,117,116,46,112,121]⟩ (V.tk 2798)],#[]⟩
def o_357(P:Params)(V:TopV):Obj:=⟨.type "function", none,.func (fnD (topS 26) ⟨#[95,108,97,119,95,108,97,105,100]⟩ [] (.none) (.str ⟨#[108,97,119,95,112,101,48,50,56,52,95,48,49]⟩ (V.tk 2758)) (.ref (V.av 356)) (.none)),#[]⟩
noncomputable def o_361(P:Params)(V:TopV):Obj:=⟨.type "code", none,.fields #[.str ⟨#[108,97,119]⟩ (V.tk 2800),.str ⟨#[108,97,119]⟩ (V.tk 2801),.str ⟨#[47,99,108,97,105,109,47,99,117,116,46,112,121]⟩ (V.tk 2802),.int (210) 0,.int (1) 0,.int (0) 0,.int (0) 0,.int (3) 0,.ref (V.av 358),.bool true,.int (181) 0,.ref (V.av 359),.none,.none,.none,.ref (V.av 360),.int (2803) 0,.int (210) 0,.str ⟨#[47,99,108,97,105,109,47,99,117,116,46,112,121]⟩ (V.tk 2804)],#[]⟩
def o_362(P:Params)(V:TopV):Obj:=⟨.type "function", none,.func (fnD (topS 27) ⟨#[108,97,119]⟩ [] (.none) (.str ⟨#[108,97,119,95,112,101,48,50,56,52,95,48,49]⟩ (V.tk 2758)) (.ref (V.av 361)) (.none)),#[]⟩
def baseT(P:Params)(V:TopV):X.KT:=(.node (some (o_0 P V)) (.node none (.node (some (o_3 P V)) (.node none (.node none (.node none (.node none .nil (.node none (.node (some (o_319 P V)) .nil .nil) .nil)) .nil) (.node none (.node none .nil (.node (some (o_207 P V)) .nil .nil)) (.node (some (o_111 P V)) (.node none (.node (some (o_303 P V)) .nil .nil) .nil) .nil))) (.node none (.node (some (o_39 P V)) (.node none .nil (.node (some (o_199 P V)) .nil .nil)) (.node none (.node none (.node (some (o_295 P V)) .nil .nil) .nil) .nil)) (.node none .nil (.node none (.node none (.node (some (o_311 P V)) .nil .nil) .nil) .nil)))) (.node none (.node none (.node none (.node none (.node none (.node (some (o_259 P V)) .nil .nil) .nil) .nil) (.node (some (o_99 P V)) .nil .nil)) (.node none (.node none (.node (some (o_147 P V)) .nil .nil) .nil) (.node none (.node (some (o_179 P V)) .nil .nil) .nil))) (.node none (.node none (.node none (.node none (.node (some (o_267 P V)) .nil .nil) .nil) .nil) (.node none .nil (.node (some (o_235 P V)) .nil .nil))) (.node none (.node (some (o_91 P V)) (.node (some (o_155 P V)) .nil .nil) .nil) (.node (some (o_123 P V)) .nil (.node (some (o_251 P V)) .nil .nil)))))) (.node none (.node none (.node none (.node none (.node none .nil (.node none (.node (some (o_321 P V)) .nil .nil) .nil)) (.node none (.node none (.node (some (o_289 P V)) .nil .nil) .nil) .nil)) (.node none (.node none (.node none (.node (some (o_273 P V)) .nil .nil) .nil) (.node none (.node (some (o_337 P V)) .nil .nil) .nil)) (.node (some (o_113 P V)) .nil .nil))) (.node none (.node none (.node none (.node (some (o_137 P V)) (.node (some (o_265 P V)) .nil .nil) .nil) .nil) (.node none (.node none (.node (some (o_297 P V)) .nil .nil) .nil) (.node none (.node (some (o_361 P V)) .nil .nil) .nil))) (.node none (.node none (.node none (.node (some (o_281 P V)) .nil .nil) .nil) (.node none (.node (some (o_345 P V)) .nil .nil) .nil)) (.node none (.node (some (o_185 P V)) .nil .nil) .nil)))) (.node none (.node none (.node none .nil (.node (some (o_101 P V)) (.node (some (o_165 P V)) .nil .nil) (.node none (.node (some (o_357 P V)) .nil .nil) .nil))) (.node none (.node (some (o_85 P V)) .nil .nil) .nil)) (.node (some (o_29 P V)) (.node none (.node none .nil (.node none (.node (some (o_333 P V)) .nil .nil) .nil)) (.node none .nil (.node (some (o_237 P V)) .nil .nil))) (.node none (.node none .nil (.node none (.node (some (o_349 P V)) .nil .nil) .nil)) .nil))))) (.node (some (o_2 P V)) (.node (some (o_4 P V)) (.node none (.node none (.node none .nil (.node none (.node none (.node (some (o_288 P V)) .nil .nil) .nil) .nil)) (.node none .nil (.node none (.node none (.node (some (o_304 P V)) .nil .nil) .nil) .nil))) (.node none (.node (some (o_40 P V)) (.node none .nil (.node (some (o_200 P V)) .nil .nil)) (.node none (.node none (.node (some (o_296 P V)) .nil .nil) .nil) .nil)) (.node none (.node none .nil (.node none (.node (some (o_344 P V)) .nil .nil) .nil)) .nil))) (.node none (.node none (.node none .nil (.node none (.node (some (o_164 P V)) .nil .nil) (.node none (.node (some (o_356 P V)) .nil .nil) .nil))) (.node none (.node (some (o_84 P V)) .nil .nil) .nil)) (.node none (.node none (.node none .nil (.node none (.node (some (o_332 P V)) .nil .nil) .nil)) .nil) (.node none (.node (some (o_92 P V)) .nil .nil) .nil)))) (.node none (.node none (.node none (.node none (.node none (.node none (.node (some (o_258 P V)) .nil .nil) .nil) (.node none (.node (some (o_322 P V)) .nil .nil) .nil)) (.node (some (o_98 P V)) .nil .nil)) (.node none (.node none (.node (some (o_146 P V)) (.node (some (o_274 P V)) .nil .nil) .nil) (.node none (.node (some (o_338 P V)) .nil .nil) .nil)) (.node none (.node (some (o_178 P V)) .nil .nil) .nil))) (.node none (.node none (.node none (.node none (.node (some (o_266 P V)) .nil .nil) .nil) .nil) (.node none .nil (.node (some (o_234 P V)) (.node (some (o_362 P V)) .nil .nil) .nil))) (.node none (.node none (.node none (.node (some (o_282 P V)) .nil .nil) .nil) .nil) (.node (some (o_122 P V)) (.node (some (o_186 P V)) .nil .nil) .nil)))) (.node none (.node none (.node (some (o_38 P V)) .nil .nil) (.node none .nil (.node none (.node none (.node (some (o_310 P V)) .nil .nil) .nil) (.node (some (o_246 P V)) .nil .nil)))) (.node none (.node none (.node none .nil (.node (some (o_206 P V)) .nil .nil)) (.node (some (o_110 P V)) .nil (.node (some (o_238 P V)) .nil .nil))) (.node none (.node none .nil (.node none (.node (some (o_350 P V)) .nil .nil) .nil)) (.node none (.node none (.node (some (o_318 P V)) .nil .nil) .nil) .nil)))))))
noncomputable def adOf(V:TopV)(L:Nat):Addr:=match Nat.blt L 11 with
 |true=>L
 |false=>V.av L
def base(P:Params)(V:TopV)(L:Nat):Option (Addr × Obj):=match (baseT P V).get L with
 |some o=>some (adOf V L,o)
 |none=>none
noncomputable def denF:Code->Sem PySem.Fin:=PySem.W.Fast.tw11892475500146522536 PySem.W.Fast.tw14364793385576792824
noncomputable def rowW(w:World)(b1 b2:Bool):World:=(w.withFollow "special-get-raises" b1).withFollow "comprehension-iter-twice" b2
def cfg(P:Params)(V:TopV)(W:List (Code × Pos))(n:Nat)(tl:zb:=[]):Cfg:=⟨denF,progP,P,base P V,W,n,tl⟩
noncomputable def idB(id:String)(n:Nat):Bool:=Nat.beq (S.codeS id) n
structure Start where
 C:Cfg
 X:List Ext
 T:zb
 G:zk
 cur:Sem PySem.Fin
 code:Code
 pos:Pos
 fs:List Frame
def Start.run(S:Start)(D:Nat->Addr)(Z:Nat->Ch)(O:Nat->Nat)(N:Nat)(tape:List Nat):Option Out:=
 exec S.C S.X D Z O N tape (S.T++S.C.tail) 0 0 S.G 0 [] [] S.cur S.code S.pos S.fs
def XS{id s:String}{n:Nat}(h:idB id n=true)(hs:S.codeS s=n):id=s:=by
 have h2:PySem.code id=PySem.code s:=by
  have:=Nat.eq_of_beq_eq_true h
  show PySem.code id=PySem.code s
  rw[S.codeS_fn,this,hs]
 exact PySem.code_inj _ _ h2
end Mine
end
noncomputable section
open PyProof.Rows PySem PySem.W
namespace Mine
def yD:denF=denote table:=by
 unfold denF
 rw[<-PySem.W.Fast.te11892475500146522536,table_eq_tree]
 exact congrArg denote PySem.W.Fast.te14364793385576792824.symm
def Zf{w:World}{b1 b2:Bool}(hw:w=rowW w b1 b2){V:TopV}{W:List (Code × Pos)}{n:Nat}{tl:zb}(hn:0 < n):(cfg (rowW w b1 b2).params V W n tl).Ok w:=
 ⟨yD,by show (rowW w b1 b2).params=w.params;rw[<-hw],hn⟩
def Ys(w:World):∃b1 b2,w=rowW w b1 b2:=by
 refine⟨w.params.followText "special-get-raises", w.params.followText "comprehension-iter-twice", ?_⟩
 unfold rowW
 rw[World.withFollow_self,World.withFollow_self]
end Mine
end
noncomputable section
open PySem PySem.W
namespace Mine
noncomputable def sL(l:List Nat):Str:=⟨l.toArray⟩
noncomputable def vI(n:Nat)(t:Tok):Value:=.int (.ofNat n) t
noncomputable def vS(l:List Nat)(t:Tok):Value:=.str ⟨l.toArray⟩ t
noncomputable def vR(a:Addr):Value:=.ref a
noncomputable def sR(a:Addr):Option Value:=some (.ref a)
noncomputable def dE(P:Params)(l:List Nat)(t:Tok)(v:Value):DictEntry:=⟨PyData.keyHash P ⟨l.toArray⟩,.str ⟨l.toArray⟩ t,v⟩
noncomputable def tuO(l:List Value):Obj:=⟨.type "tuple", none,.seq l.toArray 0,#[]⟩
noncomputable def lsO(l:List Value)(e:Nat):Obj:=⟨.type "list", none,.seq l.toArray e,#[]⟩
noncomputable def fdO(c:Value)(l:List Value):Obj:=⟨c,none,.fields l.toArray,#[]⟩
def fuO(c:Value)(s:Stmt)(q:List Nat)(cl:List (Str × Addr))(d m k t:Value):Obj:=⟨c,none,.func (fnD s ⟨q.toArray⟩ cl d m k t),#[]⟩
def fuN(s:Stmt)(q:List Nat)(cl:List (Str × Addr))(d m k t:Value):Obj:=⟨.none,none,.func { fnD s ⟨q.toArray⟩ cl d m k t with globals:=0 },#[]⟩
noncomputable def cutS:List Nat:=[47,99,108,97,105,109,47,99,117,116,46,112,121]
def cdH(n q:List Nat)(t l a f:Nat)(r1:Addr)(b:Bool)(x:Nat)(r2:Addr)(df v w:Value)(t2:Nat):Obj:=
 fdO (.type "code") [vS n t,vS q (t+1),vS cutS (t+2),vI l 0,vI a 0,vI 0 0,vI 0 0,vI f 0,vR r1,.bool b,vI x 0,vR r2,.none,df,v,w,vI t2 0,vI l 0,vS cutS (t2+1)]
noncomputable def mapO(es:List DictEntry)(n:Nat):Obj:=⟨.type "dict", none,.dict es.toArray n,#[]⟩
def h_13:Obj:=cdH [60,109,111,100,117,108,101,62] [60,109,111,100,117,108,101,62] 182 1 0 0 11 false 181 12 (.none) (.none) (.none) 185
def h_14:Obj:=⟨.type "frame", none,.plain,#[(sR 13),(sR 3),(sR 3),none,(some (vS [95,95,109,97,105,110,95,95] 164)),none,(sR 0)]⟩
def h_22:Obj:=lsO [vI 173 196,vI 847 197,vI 6150 198,vI 6155 199,vI 6156 200,vI 6157 201,vI 8203 202,vI 8204 203,vI 8205 204,vI 8288 205,vI 65279 206] 0
def h_24:Obj:=lsO [vI 65024 212,vI 65025 213,vI 65026 214,vI 65027 215,vI 65028 216,vI 65029 217,vI 65030 218,vI 65031 219,vI 65032 220,vI 65033 221,vI 65034 222,vI 65035 223,vI 65036 224,vI 65037 225,vI 65038 226,vI 65039 227] 18
def h_28:Obj:=lsO [vI 173 196,vI 847 197,vI 6150 198,vI 6155 199,vI 6156 200,vI 6157 201,vI 8203 202,vI 8204 203,vI 8205 204,vI 8288 205,vI 65279 206,vI 65024 212,vI 65025 213,vI 65026 214,vI 65027 215,vI 65028 216,vI 65029 217,vI 65030 218,vI 65031 219,vI 65032 220,vI 65033 221,vI 65034 222,vI 65035 223,vI 65036 224,vI 65037 225,vI 65038 226,vI 65039 227] 0
def seL29:List (Int × Value):=[(65024,vI 65024 212),(65025,vI 65025 213),(65026,vI 65026 214),(65027,vI 65027 215),(65028,vI 65028 216),(65029,vI 65029 217),(6150,vI 6150 198),(65030,vI 65030 218),(65031,vI 65031 219),(65032,vI 65032 220),(65033,vI 65033 221),(6155,vI 6155 199),(6156,vI 6156 200),(6157,vI 6157 201),(8203,vI 8203 202),(8204,vI 8204 203),(8205,vI 8205 204),(65034,vI 65034 222),(65035,vI 65035 223),(65036,vI 65036 224),(65037,vI 65037 225),(65038,vI 65038 226),(65039,vI 65039 227),(173,vI 173 196),(847,vI 847 197),(8288,vI 8288 205),(65279,vI 65279 206)]
noncomputable def stL29(P:Params):SetTable:=⟨127,#[0,1,2,3,4,5,6,7,8,9,10,11,12,13,14,15,16,17,18,19,20,21,22,45,79,96,127],#[],0,!(P.followText "set-order"),2,true⟩
def h_29(P:Params):Obj:=⟨.type "set", none,.set seL29.toArray 29 (stL29 P),#[]⟩
def h_38:Obj:=cdH [105,110,95,116,97,98,108,101,95,98,49] [105,110,95,116,97,98,108,101,95,98,49] 256 6 1 3 33 true 181 34 (vR 35) (vR 36) (vR 37) 260
def h_39:Obj:=fuO (.type "function") (topS 3) [105,110,95,116,97,98,108,101,95,98,49] [] (.none) (vS [99,112,121,51,49,51,46,115,116,114,105,110,103,112,114,101,112] 194) (vR 38) (.none)
def h_84:Obj:=cdH [109,97,112,95,116,97,98,108,101,95,98,51] [109,97,112,95,116,97,98,108,101,95,98,51] 2214 9 1 3 79 true 181 80 (vR 81) (vR 82) (vR 83) 2219
def h_85:Obj:=fuO (.type "function") (topS 5) [109,97,112,95,116,97,98,108,101,95,98,51] [] (.none) (vS [99,112,121,51,49,51,46,115,116,114,105,110,103,112,114,101,112] 194) (vR 84) (.none)
def h_91:Obj:=cdH [105,110,95,116,97,98,108,101,95,99,49,49] [105,110,95,116,97,98,108,101,95,99,49,49] 2222 14 1 3 86 true 181 87 (vR 88) (vR 89) (vR 90) 2226
def h_92:Obj:=fuO (.type "function") (topS 6) [105,110,95,116,97,98,108,101,95,99,49,49] [] (.none) (vS [99,112,121,51,49,51,46,115,116,114,105,110,103,112,114,101,112] 194) (vR 91) (.none)
def h_98:Obj:=cdH [105,110,95,116,97,98,108,101,95,99,52] [105,110,95,116,97,98,108,101,95,99,52] 2229 16 1 3 93 true 181 94 (vR 95) (vR 96) (vR 97) 2234
def h_99:Obj:=fuO (.type "function") (topS 7) [105,110,95,116,97,98,108,101,95,99,52] [] (.none) (vS [99,112,121,51,49,51,46,115,116,114,105,110,103,112,114,101,112] 194) (vR 98) (.none)
def seL101:List (Int × Value):=[(65529,vI 65529 2240),(65530,vI 65530 2242),(65531,vI 65531 2244),(65532,vI 65532 2246),(65533,vI 65533 2248)]
noncomputable def stL101(P:Params):SetTable:=⟨31,#[25,26,27,28,29],#[],0,!(P.followText "set-order"),1,true⟩
def h_101(P:Params):Obj:=⟨.type "set", none,.set seL101.toArray 6 (stL101 P),#[]⟩
def h_110:Obj:=cdH [105,110,95,116,97,98,108,101,95,99,54] [105,110,95,116,97,98,108,101,95,99,54] 2251 24 1 3 105 true 181 106 (vR 107) (vR 108) (vR 109) 2255
def h_111:Obj:=fuO (.type "function") (topS 9) [105,110,95,116,97,98,108,101,95,99,54] [] (.none) (vS [99,112,121,51,49,51,46,115,116,114,105,110,103,112,114,101,112] 194) (vR 110) (.none)
def seL113:List (Int × Value):=[(12272,vI 12272 2261),(12273,vI 12273 2263),(12274,vI 12274 2265),(12275,vI 12275 2267),(12276,vI 12276 2269),(12277,vI 12277 2271),(12278,vI 12278 2273),(12279,vI 12279 2275),(12280,vI 12280 2277),(12281,vI 12281 2279),(12282,vI 12282 2281),(12283,vI 12283 2283)]
noncomputable def stL113(P:Params):SetTable:=⟨31,#[16,17,18,19,20,21,22,23,24,25,26,27],#[],0,!(P.followText "set-order"),1,true⟩
def h_113(P:Params):Obj:=⟨.type "set", none,.set seL113.toArray 13 (stL113 P),#[]⟩
def h_122:Obj:=cdH [105,110,95,116,97,98,108,101,95,99,55] [105,110,95,116,97,98,108,101,95,99,55] 2286 27 1 3 117 true 181 118 (vR 119) (vR 120) (vR 121) 2290
def h_123:Obj:=fuO (.type "function") (topS 11) [105,110,95,116,97,98,108,101,95,99,55] [] (.none) (vS [99,112,121,51,49,51,46,115,116,114,105,110,103,112,114,101,112] 194) (vR 122) (.none)
def h_130:Obj:=lsO [vI 832 2293,vI 833 2294,vI 8206 2295,vI 8207 2296,vI 8234 2302,vI 8235 2303,vI 8236 2304,vI 8237 2305,vI 8238 2306] 0
def h_136:Obj:=lsO [vI 832 2293,vI 833 2294,vI 8206 2295,vI 8207 2296,vI 8234 2302,vI 8235 2303,vI 8236 2304,vI 8237 2305,vI 8238 2306,vI 8298 2312,vI 8299 2313,vI 8300 2314,vI 8301 2315,vI 8302 2316,vI 8303 2317] 0
def seL137:List (Int × Value):=[(832,vI 832 2293),(833,vI 833 2294),(8234,vI 8234 2302),(8235,vI 8235 2303),(8236,vI 8236 2304),(8237,vI 8237 2305),(8206,vI 8206 2295),(8207,vI 8207 2296),(8238,vI 8238 2306),(8298,vI 8298 2312),(8299,vI 8299 2313),(8300,vI 8300 2314),(8301,vI 8301 2315),(8302,vI 8302 2316),(8303,vI 8303 2317)]
noncomputable def stL137(P:Params):SetTable:=⟨31,#[0,1,10,11,12,13,14,15,16,17,18,19,20,21,22],#[],0,!(P.followText "set-order"),1,true⟩
def h_137(P:Params):Obj:=⟨.type "set", none,.set seL137.toArray 16 (stL137 P),#[]⟩
def h_146:Obj:=cdH [105,110,95,116,97,98,108,101,95,99,56] [105,110,95,116,97,98,108,101,95,99,56] 2334 30 1 3 141 true 181 142 (vR 143) (vR 144) (vR 145) 2338
def h_147:Obj:=fuO (.type "function") (topS 13) [105,110,95,116,97,98,108,101,95,99,56] [] (.none) (vS [99,112,121,51,49,51,46,115,116,114,105,110,103,112,114,101,112] 194) (vR 146) (.none)
def h_150:Obj:=lsO [vI 917536 2347,vI 917537 2348,vI 917538 2349,vI 917539 2350,vI 917540 2351,vI 917541 2352,vI 917542 2353,vI 917543 2354,vI 917544 2355,vI 917545 2356,vI 917546 2357,vI 917547 2358,vI 917548 2359,vI 917549 2360,vI 917550 2361,vI 917551 2362,vI 917552 2363,vI 917553 2364,vI 917554 2365,vI 917555 2366,vI 917556 2367,vI 917557 2368,vI 917558 2369,vI 917559 2370,vI 917560 2371,vI 917561 2372,vI 917562 2373,vI 917563 2374,vI 917564 2375,vI 917565 2376,vI 917566 2377,vI 917567 2378,vI 917568 2379,vI 917569 2380,vI 917570 2381,vI 917571 2382,vI 917572 2383,vI 917573 2384,vI 917574 2385,vI 917575 2386,vI 917576 2387,vI 917577 2388,vI 917578 2389,vI 917579 2390,vI 917580 2391,vI 917581 2392,vI 917582 2393,vI 917583 2394,vI 917584 2395,vI 917585 2396,vI 917586 2397,vI 917587 2398,vI 917588 2399,vI 917589 2400,vI 917590 2401,vI 917591 2402,vI 917592 2403,vI 917593 2404,vI 917594 2405,vI 917595 2406,vI 917596 2407,vI 917597 2408,vI 917598 2409,vI 917599 2410,vI 917600 2411,vI 917601 2412,vI 917602 2413,vI 917603 2414,vI 917604 2415,vI 917605 2416,vI 917606 2417,vI 917607 2418,vI 917608 2419,vI 917609 2420,vI 917610 2421,vI 917611 2422,vI 917612 2423,vI 917613 2424,vI 917614 2425,vI 917615 2426,vI 917616 2427,vI 917617 2428,vI 917618 2429,vI 917619 2430,vI 917620 2431,vI 917621 2432,vI 917622 2433,vI 917623 2434,vI 917624 2435,vI 917625 2436,vI 917626 2437,vI 917627 2438,vI 917628 2439,vI 917629 2440,vI 917630 2441,vI 917631 2442] 98
def h_154:Obj:=lsO [vI 917505 2341,vI 917536 2347,vI 917537 2348,vI 917538 2349,vI 917539 2350,vI 917540 2351,vI 917541 2352,vI 917542 2353,vI 917543 2354,vI 917544 2355,vI 917545 2356,vI 917546 2357,vI 917547 2358,vI 917548 2359,vI 917549 2360,vI 917550 2361,vI 917551 2362,vI 917552 2363,vI 917553 2364,vI 917554 2365,vI 917555 2366,vI 917556 2367,vI 917557 2368,vI 917558 2369,vI 917559 2370,vI 917560 2371,vI 917561 2372,vI 917562 2373,vI 917563 2374,vI 917564 2375,vI 917565 2376,vI 917566 2377,vI 917567 2378,vI 917568 2379,vI 917569 2380,vI 917570 2381,vI 917571 2382,vI 917572 2383,vI 917573 2384,vI 917574 2385,vI 917575 2386,vI 917576 2387,vI 917577 2388,vI 917578 2389,vI 917579 2390,vI 917580 2391,vI 917581 2392,vI 917582 2393,vI 917583 2394,vI 917584 2395,vI 917585 2396,vI 917586 2397,vI 917587 2398,vI 917588 2399,vI 917589 2400,vI 917590 2401,vI 917591 2402,vI 917592 2403,vI 917593 2404,vI 917594 2405,vI 917595 2406,vI 917596 2407,vI 917597 2408,vI 917598 2409,vI 917599 2410,vI 917600 2411,vI 917601 2412,vI 917602 2413,vI 917603 2414,vI 917604 2415,vI 917605 2416,vI 917606 2417,vI 917607 2418,vI 917608 2419,vI 917609 2420,vI 917610 2421,vI 917611 2422,vI 917612 2423,vI 917613 2424,vI 917614 2425,vI 917615 2426,vI 917616 2427,vI 917617 2428,vI 917618 2429,vI 917619 2430,vI 917620 2431,vI 917621 2432,vI 917622 2433,vI 917623 2434,vI 917624 2435,vI 917625 2436,vI 917626 2437,vI 917627 2438,vI 917628 2439,vI 917629 2440,vI 917630 2441,vI 917631 2442] 0
noncomputable def c9k:Nat->Nat
 |0=>917505
 |i+1=>917536+i
def c9v:Nat->Value
 |0=>vI 917505 2341
 |i+1=>vI (917536+i) (2347+i)
def c9E(k:Nat):List (Int × Value):=(List.range k).map λi=>(.ofNat (c9k i),c9v i)
def seL155:List (Int × Value):=c9E 97
noncomputable def stL155(P:Params):SetTable:=⟨511,#[1,32,33,34,35,36,37,38,39,40,41,42,43,44,45,46,47,48,49,50,51,52,53,54,55,56,57,58,59,60,61,62,63,64,65,66,67,68,69,70,71,72,73,74,75,76,77,78,79,80,81,82,83,84,85,86,87,88,89,90,91,92,93,94,95,96,97,98,99,100,101,102,103,104,105,106,107,108,109,110,111,112,113,114,115,116,117,118,119,120,121,122,123,124,125,126,127],#[],0,!(P.followText "set-order"),3,true⟩
def h_155(P:Params):Obj:=⟨.type "set", none,.set seL155.toArray 100 (stL155 P),#[]⟩
def h_164:Obj:=cdH [105,110,95,116,97,98,108,101,95,99,57] [105,110,95,116,97,98,108,101,95,99,57] 2541 33 1 3 159 true 181 160 (vR 161) (vR 162) (vR 163) 2545
def h_165:Obj:=fuO (.type "function") (topS 15) [105,110,95,116,97,98,108,101,95,99,57] [] (.none) (vS [99,112,121,51,49,51,46,115,116,114,105,110,103,112,114,101,112] 194) (vR 164) (.none)
def h_168(P:Params):Obj:=mapO [dE P [95,95,109,111,100,117,108,101,95,95] 2561 (vS [99,112,121,51,49,51,46,101,109,97,105,108,46,104,101,97,100,101,114] 2548),dE P [95,95,113,117,97,108,110,97,109,101,95,95] 2563 (vS [95,86,97,108,117,101,70,111,114,109,97,116,116,101,114] 2562),dE P [95,95,102,105,114,115,116,108,105,110,101,110,111,95,95] 2565 (vI 38 2564),dE P [95,95,105,110,105,116,95,95] 2576 (vR 179),dE P [95,115,116,114] 2584 (vR 186),dE P [95,95,115,116,114,95,95] 2591 (vR 193),dE P [110,101,119,108,105,110,101] 2599 (vR 200),dE P [97,100,100,95,116,114,97,110,115,105,116,105,111,110] 2606 (vR 207),dE P [102,101,101,100] 2616 (vR 214),dE P [95,109,97,120,108,101,110,103,116,104,115] 2623 (vR 221),dE P [95,97,115,99,105,105,95,115,112,108,105,116] 2633 (vR 228),dE P [95,97,112,112,101,110,100,95,99,104,117,110,107] 2647 (vR 235),dE P [95,95,115,116,97,116,105,99,95,97,116,116,114,105,98,117,116,101,115,95,95] 2654 (vR 236)] 13
def h_170:Obj:=fdO .none [vI 40 0,vI 4 0,vR 178,vI 48 0,vI 4 0,vR 185,vI 52 0,vI 4 0,vR 192,vI 55 0,vI 4 0,vR 199,vI 66 0,vI 4 0,vR 206,vI 69 0,vI 4 0,vR 213,vI 72 0,vI 4 0,vR 220,vI 75 0,vI 4 0,vR 227,vI 78 0,vI 4 0,vR 234]
def h_171:Obj:=cdH [95,86,97,108,117,101,70,111,114,109,97,116,116,101,114] [95,86,97,108,117,101,70,111,114,109,97,116,116,101,114] 2556 38 0 0 169 false 181 170 (.none) (.none) (.none) 2559
def h_172:Obj:=⟨.type "frame", none,.plain,#[(sR 171),(sR 3),(sR 168),none,(some (vS [99,112,121,51,49,51,46,101,109,97,105,108,46,104,101,97,100,101,114] 2548)),none,(sR 0)]⟩
def h_175:Obj:=tuO [vS [115,101,108,102] 2569,vS [104,101,97,100,101,114,108,101,110] 2570,vS [109,97,120,108,101,110] 2571,vS [99,111,110,116,105,110,117,97,116,105,111,110,95,119,115] 2572,vS [115,112,108,105,116,99,104,97,114,115] 2573]
def h_177:Obj:=fuN (inS 19 0) [95,86,97,108,117,101,70,111,114,109,97,116,116,101,114,46,95,95,105,110,105,116,95,95] [] (.none) (.none) (.none) (.none)
def h_178:Obj:=cdH [95,95,105,110,105,116,95,95] [95,86,97,108,117,101,70,111,114,109,97,116,116,101,114,46,95,95,105,110,105,116,95,95] 2566 40 5 3 173 true 181 174 (vR 175) (vR 176) (vR 177) 2574
def h_179:Obj:=fuO (.type "function") (inS 19 0) [95,86,97,108,117,101,70,111,114,109,97,116,116,101,114,46,95,95,105,110,105,116,95,95] [] (.none) (vS [99,112,121,51,49,51,46,101,109,97,105,108,46,104,101,97,100,101,114] 2548) (vR 178) (.none)
def h_184:Obj:=fuN (inS 19 1) [95,86,97,108,117,101,70,111,114,109,97,116,116,101,114,46,95,115,116,114] [] (.none) (.none) (.none) (.none)
def h_185:Obj:=cdH [95,115,116,114] [95,86,97,108,117,101,70,111,114,109,97,116,116,101,114,46,95,115,116,114] 2577 48 2 3 180 true 181 181 (vR 182) (vR 183) (vR 184) 2582
def h_186:Obj:=fuO (.type "function") (inS 19 1) [95,86,97,108,117,101,70,111,114,109,97,116,116,101,114,46,95,115,116,114] [] (.none) (vS [99,112,121,51,49,51,46,101,109,97,105,108,46,104,101,97,100,101,114] 2548) (vR 185) (.none)
def h_191:Obj:=fuN (inS 19 2) [95,86,97,108,117,101,70,111,114,109,97,116,116,101,114,46,95,95,115,116,114,95,95] [] (.none) (.none) (.none) (.none)
def h_192:Obj:=cdH [95,95,115,116,114,95,95] [95,86,97,108,117,101,70,111,114,109,97,116,116,101,114,46,95,95,115,116,114,95,95] 2585 52 1 3 187 true 181 188 (vR 189) (vR 190) (vR 191) 2589
def h_193:Obj:=fuO (.type "function") (inS 19 2) [95,86,97,108,117,101,70,111,114,109,97,116,116,101,114,46,95,95,115,116,114,95,95] [] (.none) (vS [99,112,121,51,49,51,46,101,109,97,105,108,46,104,101,97,100,101,114] 2548) (vR 192) (.none)
def h_198:Obj:=fuN (inS 19 3) [95,86,97,108,117,101,70,111,114,109,97,116,116,101,114,46,110,101,119,108,105,110,101] [] (.none) (.none) (.none) (.none)
def h_199:Obj:=cdH [110,101,119,108,105,110,101] [95,86,97,108,117,101,70,111,114,109,97,116,116,101,114,46,110,101,119,108,105,110,101] 2592 55 1 3 194 true 181 195 (vR 196) (vR 197) (vR 198) 2597
def h_200:Obj:=fuO (.type "function") (inS 19 3) [95,86,97,108,117,101,70,111,114,109,97,116,116,101,114,46,110,101,119,108,105,110,101] [] (.none) (vS [99,112,121,51,49,51,46,101,109,97,105,108,46,104,101,97,100,101,114] 2548) (vR 199) (.none)
def h_205:Obj:=fuN (inS 19 4) [95,86,97,108,117,101,70,111,114,109,97,116,116,101,114,46,97,100,100,95,116,114,97,110,115,105,116,105,111,110] [] (.none) (.none) (.none) (.none)
def h_206:Obj:=cdH [97,100,100,95,116,114,97,110,115,105,116,105,111,110] [95,86,97,108,117,101,70,111,114,109,97,116,116,101,114,46,97,100,100,95,116,114,97,110,115,105,116,105,111,110] 2600 66 1 3 201 true 181 202 (vR 203) (vR 204) (vR 205) 2604
def h_207:Obj:=fuO (.type "function") (inS 19 4) [95,86,97,108,117,101,70,111,114,109,97,116,116,101,114,46,97,100,100,95,116,114,97,110,115,105,116,105,111,110] [] (.none) (vS [99,112,121,51,49,51,46,101,109,97,105,108,46,104,101,97,100,101,114] 2548) (vR 206) (.none)
def h_210:Obj:=tuO [vS [115,101,108,102] 2610,vS [102,119,115] 2611,vS [115,116,114,105,110,103] 2612,vS [99,104,97,114,115,101,116] 2613]
def h_212:Obj:=fuN (inS 19 5) [95,86,97,108,117,101,70,111,114,109,97,116,116,101,114,46,102,101,101,100] [] (.none) (.none) (.none) (.none)
def h_213:Obj:=cdH [102,101,101,100] [95,86,97,108,117,101,70,111,114,109,97,116,116,101,114,46,102,101,101,100] 2607 69 4 3 208 true 181 209 (vR 210) (vR 211) (vR 212) 2614
def h_214:Obj:=fuO (.type "function") (inS 19 5) [95,86,97,108,117,101,70,111,114,109,97,116,116,101,114,46,102,101,101,100] [] (.none) (vS [99,112,121,51,49,51,46,101,109,97,105,108,46,104,101,97,100,101,114] 2548) (vR 213) (.none)
def h_219:Obj:=fuN (inS 19 6) [95,86,97,108,117,101,70,111,114,109,97,116,116,101,114,46,95,109,97,120,108,101,110,103,116,104,115] [] (.none) (.none) (.none) (.none)
def h_220:Obj:=cdH [95,109,97,120,108,101,110,103,116,104,115] [95,86,97,108,117,101,70,111,114,109,97,116,116,101,114,46,95,109,97,120,108,101,110,103,116,104,115] 2617 72 1 3 215 true 181 216 (vR 217) (vR 218) (vR 219) 2621
def h_221:Obj:=fuO (.type "function") (inS 19 6) [95,86,97,108,117,101,70,111,114,109,97,116,116,101,114,46,95,109,97,120,108,101,110,103,116,104,115] [] (.none) (vS [99,112,121,51,49,51,46,101,109,97,105,108,46,104,101,97,100,101,114] 2548) (vR 220) (.none)
def h_224:Obj:=tuO [vS [115,101,108,102] 2627,vS [102,119,115] 2628,vS [115,116,114,105,110,103] 2629,vS [115,112,108,105,116,99,104,97,114,115] 2630]
def h_226:Obj:=fuN (inS 19 7) [95,86,97,108,117,101,70,111,114,109,97,116,116,101,114,46,95,97,115,99,105,105,95,115,112,108,105,116] [] (.none) (.none) (.none) (.none)
def h_227:Obj:=cdH [95,97,115,99,105,105,95,115,112,108,105,116] [95,86,97,108,117,101,70,111,114,109,97,116,116,101,114,46,95,97,115,99,105,105,95,115,112,108,105,116] 2624 75 4 3 222 true 181 223 (vR 224) (vR 225) (vR 226) 2631
def h_228:Obj:=fuO (.type "function") (inS 19 7) [95,86,97,108,117,101,70,111,114,109,97,116,116,101,114,46,95,97,115,99,105,105,95,115,112,108,105,116] [] (.none) (vS [99,112,121,51,49,51,46,101,109,97,105,108,46,104,101,97,100,101,114] 2548) (vR 227) (.none)
def h_231:Obj:=tuO [vS [115,101,108,102] 2637,vS [102,119,115] 2638,vS [115,116,114,105,110,103] 2639,vS [99,104] 2640,vS [105] 2641,vS [112,114,101,118,112,97,114,116] 2642,vS [112,97,114,116] 2643,vS [114,101,109,97,105,110,100,101,114] 2644]
def h_233:Obj:=fuN (inS 19 8) [95,86,97,108,117,101,70,111,114,109,97,116,116,101,114,46,95,97,112,112,101,110,100,95,99,104,117,110,107] [] (.none) (.none) (.none) (.none)
def h_234:Obj:=cdH [95,97,112,112,101,110,100,95,99,104,117,110,107] [95,86,97,108,117,101,70,111,114,109,97,116,116,101,114,46,95,97,112,112,101,110,100,95,99,104,117,110,107] 2634 78 3 3 229 true 181 230 (vR 231) (vR 232) (vR 233) 2645
def h_235:Obj:=fuO (.type "function") (inS 19 8) [95,86,97,108,117,101,70,111,114,109,97,116,116,101,114,46,95,97,112,112,101,110,100,95,99,104,117,110,107] [] (.none) (vS [99,112,121,51,49,51,46,101,109,97,105,108,46,104,101,97,100,101,114] 2548) (vR 234) (.none)
def h_236:Obj:=tuO [vS [95,99,111,110,116,105,110,117,97,116,105,111,110,95,119,115] 2648,vS [95,99,111,110,116,105,110,117,97,116,105,111,110,95,119,115,95,108,101,110] 2649,vS [95,99,117,114,114,101,110,116,95,108,105,110,101] 2650,vS [95,108,105,110,101,115] 2651,vS [95,109,97,120,108,101,110] 2652,vS [95,115,112,108,105,116,99,104,97,114,115] 2653]
def h_237(P:Params):Obj:=mapO [dE P [95,95,109,111,100,117,108,101,95,95] 2561 (vS [99,112,121,51,49,51,46,101,109,97,105,108,46,104,101,97,100,101,114] 2548),dE P [95,95,102,105,114,115,116,108,105,110,101,110,111,95,95] 2565 (vI 38 2564),dE P [95,95,105,110,105,116,95,95] 2576 (vR 179),dE P [95,115,116,114] 2584 (vR 186),dE P [95,95,115,116,114,95,95] 2591 (vR 193),dE P [110,101,119,108,105,110,101] 2599 (vR 200),dE P [97,100,100,95,116,114,97,110,115,105,116,105,111,110] 2606 (vR 207),dE P [102,101,101,100] 2616 (vR 214),dE P [95,109,97,120,108,101,110,103,116,104,115] 2623 (vR 221),dE P [95,97,115,99,105,105,95,115,112,108,105,116] 2633 (vR 228),dE P [95,97,112,112,101,110,100,95,99,104,117,110,107] 2647 (vR 235),dE P [95,95,115,116,97,116,105,99,95,97,116,116,114,105,98,117,116,101,115,95,95] 2654 (vR 236),dE P [95,95,100,105,99,116,95,95] 2656 (vR 239),dE P [95,95,119,101,97,107,114,101,102,95,95] 2658 (vR 240),dE P [95,95,100,111,99,95,95] 2659 (.none)] 4
def h_238:Obj:=⟨.type "type", none,.cls { name:=(sL [95,86,97,108,117,101,70,111,114,109,97,116,116,101,114]),bases:=[.type "object"],mro:=[vR 238,.type "object"],ns:=237,qualname:=(sL [95,86,97,108,117,101,70,111,114,109,97,116,116,101,114]),hasDict:=true,slotNames:=[],subclasses:=[],abstract:=false,collection:=none,hasDel:=false },#[none,none,(some (vS [95,86,97,108,117,101,70,111,114,109,97,116,116,101,114] 2554)),(some (vS [95,86,97,108,117,101,70,111,114,109,97,116,116,101,114] 2562)),(some (.builtin "object.__new__")),(some (.bool true))]⟩
def h_239:Obj:=fdO (.type "getset_descriptor") [vS [95,95,100,105,99,116,95,95] 2655,vR 238,.builtin "function.__dict__", .builtin "function.__dict__#set"]
def h_240:Obj:=fdO (.type "getset_descriptor") [vS [95,95,119,101,97,107,114,101,102,95,95] 2657,vR 238,.builtin "ExceptionGroup.__weakref__", .none]
def h_245(P:Params):Obj:=mapO [dE P [95,95,109,111,100,117,108,101,95,95] 2669 (vS [99,112,121,51,49,51,46,101,109,97,105,108,46,104,101,97,100,101,114] 2548),dE P [95,95,113,117,97,108,110,97,109,101,95,95] 2671 (vS [95,65,99,99,117,109,117,108,97,116,111,114] 2670),dE P [95,95,102,105,114,115,116,108,105,110,101,110,111,95,95] 2673 (vI 104 2672),dE P [95,95,105,110,105,116,95,95] 2683 (vR 259),dE P [112,117,115,104] 2692 (vR 266),dE P [112,111,112,95,102,114,111,109] 2702 (vR 274),dE P [112,111,112] 2710 (vR 282),dE P [95,95,108,101,110,95,95] 2717 (vR 289),dE P [95,95,115,116,114,95,95] 2724 (vR 296),dE P [114,101,115,101,116] 2732 (vR 304),dE P [105,115,95,111,110,108,121,119,115] 2739 (vR 311),dE P [112,97,114,116,95,99,111,117,110,116] 2747 (vR 319),dE P [95,95,115,116,97,116,105,99,95,97,116,116,114,105,98,117,116,101,115,95,95] 2749 (vR 320),dE P [95,95,99,108,97,115,115,99,101,108,108,95,95] 2750 (vR 246)] 14
def h_248:Obj:=fdO .none [vI 106 0,vI 4 0,vR 258,vI 110 0,vI 4 0,vR 265,vI 113 0,vI 4 0,vR 273,vI 118 0,vI 4 0,vR 281,vI 123 0,vI 4 0,vR 288,vI 126 0,vI 4 0,vR 295,vI 129 0,vI 4 0,vR 303,vI 135 0,vI 4 0,vR 310,vI 138 0,vI 4 0,vR 318]
def h_249:Obj:=cdH [95,65,99,99,117,109,117,108,97,116,111,114] [95,65,99,99,117,109,117,108,97,116,111,114] 2664 104 0 0 247 false 181 248 (.none) (.none) (.none) 2667
def h_250:Obj:=⟨.type "frame", none,.plain,#[(sR 249),(sR 3),(sR 245),none,(some (vS [99,112,121,51,49,51,46,101,109,97,105,108,46,104,101,97,100,101,114] 2548)),none,(sR 0)]⟩
def h_257:Obj:=fuN (inS 20 0) [95,65,99,99,117,109,117,108,97,116,111,114,46,95,95,105,110,105,116,95,95] [] (.none) (.none) (.none) (.none)
def h_258:Obj:=cdH [95,95,105,110,105,116,95,95] [95,65,99,99,117,109,117,108,97,116,111,114,46,95,95,105,110,105,116,95,95] 2675 106 2 3 253 true 181 254 (vR 255) (vR 256) (vR 257) 2681
def h_259:Obj:=fuO (.type "function") (inS 20 0) [95,65,99,99,117,109,117,108,97,116,111,114,46,95,95,105,110,105,116,95,95] [((sL [95,95,99,108,97,115,115,95,95]),246)] (vR 251) (vS [99,112,121,51,49,51,46,101,109,97,105,108,46,104,101,97,100,101,114] 2548) (vR 258) (vR 252)
def h_265:Obj:=cdH [112,117,115,104] [95,65,99,99,117,109,117,108,97,116,111,114,46,112,117,115,104] 2684 110 3 3 260 true 181 261 (vR 262) (vR 263) (vR 264) 2690
def h_266:Obj:=fuO (.type "function") (inS 20 1) [95,65,99,99,117,109,117,108,97,116,111,114,46,112,117,115,104] [] (.none) (vS [99,112,121,51,49,51,46,101,109,97,105,108,46,104,101,97,100,101,114] 2548) (vR 265) (.none)
def h_272:Obj:=fuN (inS 20 2) [95,65,99,99,117,109,117,108,97,116,111,114,46,112,111,112,95,102,114,111,109] [] (.none) (.none) (.none) (.none)
def h_273:Obj:=cdH [112,111,112,95,102,114,111,109] [95,65,99,99,117,109,117,108,97,116,111,114,46,112,111,112,95,102,114,111,109] 2694 113 2 3 268 true 181 269 (vR 270) (vR 271) (vR 272) 2700
def h_274:Obj:=fuO (.type "function") (inS 20 2) [95,65,99,99,117,109,117,108,97,116,111,114,46,112,111,112,95,102,114,111,109] [] (vR 267) (vS [99,112,121,51,49,51,46,101,109,97,105,108,46,104,101,97,100,101,114] 2548) (vR 273) (.none)
def h_281:Obj:=cdH [112,111,112] [95,65,99,99,117,109,117,108,97,116,111,114,46,112,111,112] 2703 118 1 3 276 true 181 277 (vR 278) (vR 279) (vR 280) 2708
def h_282:Obj:=fuO (.type "function") (inS 20 3) [95,65,99,99,117,109,117,108,97,116,111,114,46,112,111,112] [((sL [95,95,99,108,97,115,115,95,95]),246)] (.none) (vS [99,112,121,51,49,51,46,101,109,97,105,108,46,104,101,97,100,101,114] 2548) (vR 281) (vR 275)
def h_287:Obj:=fuN (inS 20 4) [95,65,99,99,117,109,117,108,97,116,111,114,46,95,95,108,101,110,95,95] [] (.none) (.none) (.none) (.none)
def h_288:Obj:=cdH [95,95,108,101,110,95,95] [95,65,99,99,117,109,117,108,97,116,111,114,46,95,95,108,101,110,95,95] 2711 123 1 3 283 true 181 284 (vR 285) (vR 286) (vR 287) 2715
def h_289:Obj:=fuO (.type "function") (inS 20 4) [95,65,99,99,117,109,117,108,97,116,111,114,46,95,95,108,101,110,95,95] [] (.none) (vS [99,112,121,51,49,51,46,101,109,97,105,108,46,104,101,97,100,101,114] 2548) (vR 288) (.none)
def h_294:Obj:=fuN (inS 20 5) [95,65,99,99,117,109,117,108,97,116,111,114,46,95,95,115,116,114,95,95] [] (.none) (.none) (.none) (.none)
def h_295:Obj:=cdH [95,95,115,116,114,95,95] [95,65,99,99,117,109,117,108,97,116,111,114,46,95,95,115,116,114,95,95] 2718 126 1 3 290 true 181 291 (vR 292) (vR 293) (vR 294) 2722
def h_296:Obj:=fuO (.type "function") (inS 20 5) [95,65,99,99,117,109,117,108,97,116,111,114,46,95,95,115,116,114,95,95] [] (.none) (vS [99,112,121,51,49,51,46,101,109,97,105,108,46,104,101,97,100,101,114] 2548) (vR 295) (.none)
def h_303:Obj:=cdH [114,101,115,101,116] [95,65,99,99,117,109,117,108,97,116,111,114,46,114,101,115,101,116] 2725 129 2 3 298 true 181 299 (vR 300) (vR 301) (vR 302) 2730
def h_304:Obj:=fuO (.type "function") (inS 20 6) [95,65,99,99,117,109,117,108,97,116,111,114,46,114,101,115,101,116] [] (vR 297) (vS [99,112,121,51,49,51,46,101,109,97,105,108,46,104,101,97,100,101,114] 2548) (vR 303) (.none)
def h_309:Obj:=fuN (inS 20 7) [95,65,99,99,117,109,117,108,97,116,111,114,46,105,115,95,111,110,108,121,119,115] [] (.none) (.none) (.none) (.none)
def h_310:Obj:=cdH [105,115,95,111,110,108,121,119,115] [95,65,99,99,117,109,117,108,97,116,111,114,46,105,115,95,111,110,108,121,119,115] 2733 135 1 3 305 true 181 306 (vR 307) (vR 308) (vR 309) 2737
def h_311:Obj:=fuO (.type "function") (inS 20 7) [95,65,99,99,117,109,117,108,97,116,111,114,46,105,115,95,111,110,108,121,119,115] [] (.none) (vS [99,112,121,51,49,51,46,101,109,97,105,108,46,104,101,97,100,101,114] 2548) (vR 310) (.none)
def h_317:Obj:=fuN (inS 20 8) [95,65,99,99,117,109,117,108,97,116,111,114,46,112,97,114,116,95,99,111,117,110,116] [] (.none) (.none) (.none) (.none)
def h_318:Obj:=cdH [112,97,114,116,95,99,111,117,110,116] [95,65,99,99,117,109,117,108,97,116,111,114,46,112,97,114,116,95,99,111,117,110,116] 2740 138 1 3 313 true 181 314 (vR 315) (vR 316) (vR 317) 2745
def h_319:Obj:=fuO (.type "function") (inS 20 8) [95,65,99,99,117,109,117,108,97,116,111,114,46,112,97,114,116,95,99,111,117,110,116] [((sL [95,95,99,108,97,115,115,95,95]),246)] (.none) (vS [99,112,121,51,49,51,46,101,109,97,105,108,46,104,101,97,100,101,114] 2548) (vR 318) (vR 312)
def h_321(P:Params):Obj:=mapO [dE P [95,95,109,111,100,117,108,101,95,95] 2669 (vS [99,112,121,51,49,51,46,101,109,97,105,108,46,104,101,97,100,101,114] 2548),dE P [95,95,102,105,114,115,116,108,105,110,101,110,111,95,95] 2673 (vI 104 2672),dE P [95,95,105,110,105,116,95,95] 2683 (vR 259),dE P [112,117,115,104] 2692 (vR 266),dE P [112,111,112,95,102,114,111,109] 2702 (vR 274),dE P [112,111,112] 2710 (vR 282),dE P [95,95,108,101,110,95,95] 2717 (vR 289),dE P [95,95,115,116,114,95,95] 2724 (vR 296),dE P [114,101,115,101,116] 2732 (vR 304),dE P [105,115,95,111,110,108,121,119,115] 2739 (vR 311),dE P [112,97,114,116,95,99,111,117,110,116] 2747 (vR 319),dE P [95,95,115,116,97,116,105,99,95,97,116,116,114,105,98,117,116,101,115,95,95] 2749 (vR 320),dE P [95,95,100,105,99,116,95,95] 2752 (vR 323),dE P [95,95,119,101,97,107,114,101,102,95,95] 2754 (vR 324),dE P [95,95,100,111,99,95,95] 2755 (.none)] 5
def h_322:Obj:=⟨.type "type", none,.cls { name:=(sL [95,65,99,99,117,109,117,108,97,116,111,114]),bases:=[.type "list"],mro:=[vR 322,.type "list", .type "object"],ns:=321,qualname:=(sL [95,65,99,99,117,109,117,108,97,116,111,114]),hasDict:=true,slotNames:=[],subclasses:=[],abstract:=false,collection:=none,hasDel:=false },#[(sR 243),none,(some (vS [95,65,99,99,117,109,117,108,97,116,111,114] 2662)),(some (vS [95,65,99,99,117,109,117,108,97,116,111,114] 2670)),(some (.builtin "list.__new__")),(some (.bool true))]⟩
def h_323:Obj:=fdO (.type "getset_descriptor") [vS [95,95,100,105,99,116,95,95] 2751,vR 322,.builtin "function.__dict__", .builtin "function.__dict__#set"]
def h_324:Obj:=fdO (.type "getset_descriptor") [vS [95,95,119,101,97,107,114,101,102,95,95] 2753,vR 322,.builtin "ExceptionGroup.__weakref__", .none]
def h_332:Obj:=cdH [95,108,97,119,95,99,111,100,101] [95,108,97,119,95,99,111,100,101] 2760 141 1 3 327 true 181 328 (vR 329) (vR 330) (vR 331) 2766
def h_333:Obj:=fuO (.type "function") (topS 22) [95,108,97,119,95,99,111,100,101] [] (.none) (vS [108,97,119,95,112,101,48,50,56,52,95,48,49] 2758) (vR 332) (.none)
def h_337:Obj:=cdH [95,108,97,119,95,105,115,95,98,97,114,114,101,100] [95,108,97,119,95,105,115,95,98,97,114,114,101,100] 2769 153 1 3 334 true 181 335 (.none) (.none) (vR 336) 2772
def h_338:Obj:=fuO (.type "function") (topS 23) [95,108,97,119,95,105,115,95,98,97,114,114,101,100] [] (.none) (vS [108,97,119,95,112,101,48,50,56,52,95,48,49] 2758) (vR 337) (.none)
def h_344:Obj:=cdH [95,108,97,119,95,116,111,108,100] [95,108,97,119,95,116,111,108,100] 2775 156 1 3 339 true 181 340 (vR 341) (vR 342) (vR 343) 2779
def h_345:Obj:=fuO (.type "function") (topS 24) [95,108,97,119,95,116,111,108,100] [] (.none) (vS [108,97,119,95,112,101,48,50,56,52,95,48,49] 2758) (vR 344) (.none)
def h_349:Obj:=cdH [95,108,97,119,95,112,97,103,101] [95,108,97,119,95,112,97,103,101] 2782 168 3 3 346 true 181 347 (.none) (.none) (vR 348) 2785
def h_350:Obj:=fuO (.type "function") (topS 25) [95,108,97,119,95,112,97,103,101] [] (.none) (vS [108,97,119,95,112,101,48,50,56,52,95,48,49] 2758) (vR 349) (.none)
def h_353:Obj:=tuO [vS [116,101,120,116] 2791,vS [114,111,111,109] 2792,vS [119,105,100,116,104] 2793,vS [109,97,107,101,114] 2794,vS [115,105,103,110] 2795,vS [105,115,95,98,97,114,114,101,100] 2796]
def h_356:Obj:=cdH [95,108,97,119,95,108,97,105,100] [95,108,97,119,95,108,97,105,100] 2788 199 3 3 351 true 181 352 (vR 353) (vR 354) (vR 355) 2797
def h_357:Obj:=fuO (.type "function") (topS 26) [95,108,97,119,95,108,97,105,100] [] (.none) (vS [108,97,119,95,112,101,48,50,56,52,95,48,49] 2758) (vR 356) (.none)
def h_362:Obj:=fuO (.type "function") (topS 27) [108,97,119] [] (.none) (vS [108,97,119,95,112,101,48,50,56,52,95,48,49] 2758) (vR 361) (.none)
def glE(P:Params):List DictEntry:=[dE P [95,95,110,97,109,101,95,95] 165 (vS [108,97,119,95,112,101,48,50,56,52,95,48,49] 2758),dE P [95,95,100,111,99,95,95] 166 (.none),dE P [95,95,112,97,99,107,97,103,101,95,95] 167 (.none),dE P [95,95,108,111,97,100,101,114,95,95] 168 (.builtin "__main__.__loader__#opaque"),dE P [95,95,115,112,101,99,95,95] 169 (.none),dE P [95,95,97,110,110,111,116,97,116,105,111,110,115,95,95] 170 (vR 6),dE P [95,95,98,117,105,108,116,105,110,115,95,95] 171 (vR 4),dE P [95,95,102,105,108,101,95,95] 173 (vS [47,99,108,97,105,109,47,99,117,116,46,112,121] 172),dE P [95,95,99,97,99,104,101,100,95,95] 174 (.none),dE P [95,119,97,108,108] 193 (vR 21),dE P [98,49,95,115,101,116] 255 (vR 29),dE P [105,110,95,116,97,98,108,101,95,98,49] 262 (vR 39),dE P [98,51,95,101,120,99,101,112,116,105,111,110,115] 2213 (vR 40),dE P [109,97,112,95,116,97,98,108,101,95,98,51] 2221 (vR 85),dE P [105,110,95,116,97,98,108,101,95,99,49,49] 2228 (vR 92),dE P [105,110,95,116,97,98,108,101,95,99,52] 2236 (vR 99),dE P [99,54,95,115,101,116] 2250 (vR 101),dE P [105,110,95,116,97,98,108,101,95,99,54] 2257 (vR 111),dE P [99,55,95,115,101,116] 2285 (vR 113),dE P [105,110,95,116,97,98,108,101,95,99,55] 2292 (vR 123),dE P [99,56,95,115,101,116] 2333 (vR 137),dE P [105,110,95,116,97,98,108,101,95,99,56] 2340 (vR 147),dE P [99,57,95,115,101,116] 2540 (vR 155),dE P [105,110,95,116,97,98,108,101,95,99,57] 2547 (vR 165),dE P [78,76] 2551 (vS [10] 2550),dE P [69,77,80,84,89,83,84,82,73,78,71] 2553 (vS [] 2552),dE P [95,86,97,108,117,101,70,111,114,109,97,116,116,101,114] 2661 (vR 238),dE P [95,65,99,99,117,109,117,108,97,116,111,114] 2757 (vR 322),dE P [95,108,97,119,95,99,111,100,101] 2768 (vR 333),dE P [95,108,97,119,95,105,115,95,98,97,114,114,101,100] 2774 (vR 338),dE P [95,108,97,119,95,116,111,108,100] 2781 (vR 345),dE P [95,108,97,119,95,112,97,103,101] 2787 (vR 350),dE P [95,108,97,119,95,108,97,105,100] 2799 (vR 357),dE P [108,97,119] 2805 (vR 362)]
def mlE:List Value:=[vI 1 0,vI 0 0,vR 20,vI 6 0,vI 0 0,vR 38,vI 9 0,vI 0 0,vR 84,vI 14 0,vI 0 0,vR 91,vI 16 0,vI 0 0,vR 98,vI 24 0,vI 0 0,vR 110,vI 27 0,vI 0 0,vR 122,vI 30 0,vI 0 0,vR 146,vI 33 0,vI 0 0,vR 164,vI 38 0,vI 0 0,vR 171,vI 104 0,vI 0 0,vR 249,vI 141 0,vI 0 0,vR 332,vI 153 0,vI 0 0,vR 337,vI 156 0,vI 0 0,vR 344,vI 168 0,vI 0 0,vR 349,vI 199 0,vI 0 0,vR 356,vI 210 0,vI 0 0,vR 361]
def glN:Nat->Value
 |0=>vS [95,95,109,97,105,110,95,95] 164
 |1=>vS [99,112,121,51,49,51,46,115,116,114,105,110,103,112,114,101,112] 194
 |2=>vS [99,112,121,51,49,51,46,101,109,97,105,108,46,104,101,97,100,101,114] 2548
 | _=>vS [108,97,119,95,112,101,48,50,56,52,95,48,49] 2758
def mapG(P:Params)(nm k:Nat):Obj:=mapO (dE P [95,95,110,97,109,101,95,95] 165 (glN nm)::((glE P).drop 1).take k) (k+1)
def mlO(k:Nat):Obj:=fdO .none (mlE.take (3*k))
structure HSt where
 nm:Nat
 k:Nat
 c:Nat
 n:Nat
 t:Nat
noncomputable def hSt:Nat->HSt
 |0=>⟨0,8,0,15,187⟩
 |1=>⟨0,9,1,22,194⟩
 |2=>⟨1,9,1,22,196⟩
 |3=>⟨1,10,1,33,256⟩
 |4=>⟨1,11,2,40,263⟩
 |5=>⟨1,12,2,79,2214⟩
 |6=>⟨1,13,3,86,2222⟩
 |7=>⟨1,14,4,93,2229⟩
 |8=>⟨1,15,5,100,2237⟩
 |9=>⟨1,16,5,105,2251⟩
 |10=>⟨1,17,6,112,2258⟩
 |11=>⟨1,18,6,117,2286⟩
 |12=>⟨1,19,7,124,2293⟩
 |13=>⟨1,20,7,141,2334⟩
 |14=>⟨1,21,8,148,2341⟩
 |15=>⟨1,22,8,159,2541⟩
 |16=>⟨1,23,9,166,2548⟩
 |17=>⟨2,23,9,166,2550⟩
 |18=>⟨2,24,9,166,2552⟩
 |19=>⟨2,25,9,166,2554⟩
 |20=>⟨2,26,10,243,2662⟩
 |21=>⟨2,27,11,327,2758⟩
 |22=>⟨3,27,11,327,2760⟩
 |23=>⟨3,28,12,334,2769⟩
 |24=>⟨3,29,13,339,2775⟩
 |25=>⟨3,30,14,346,2782⟩
 |26=>⟨3,31,15,351,2788⟩
 |27=>⟨3,32,16,358,2800⟩
 | _=>⟨3,33,17,363,2806⟩
noncomputable def hPos:Nat->Pos
 |0=>⟨0,0,0,0⟩
 |1=>⟨1,0,3,12⟩
 |2=>⟨4,0,4,8⟩
 |3=>⟨5,0,5,6⟩
 |4=>⟨6,0,7,30⟩
 |5=>⟨8,0,8,13⟩
 |6=>⟨9,0,13,23⟩
 |7=>⟨14,0,15,22⟩
 |8=>⟨16,0,22,46⟩
 |9=>⟨23,0,23,6⟩
 |10=>⟨24,0,25,30⟩
 |11=>⟨26,0,26,6⟩
 |12=>⟨27,0,28,30⟩
 |13=>⟨29,0,29,6⟩
 |14=>⟨30,0,31,30⟩
 |15=>⟨32,0,32,6⟩
 |16=>⟨33,0,34,30⟩
 |17=>⟨35,0,35,8⟩
 |18=>⟨36,0,36,2⟩
 |19=>⟨37,0,37,11⟩
 |20=>⟨38,0,103,47⟩
 |21=>⟨104,0,139,32⟩
 |22=>⟨140,0,140,8⟩
 |23=>⟨141,0,152,76⟩
 |24=>⟨153,0,155,72⟩
 |25=>⟨156,0,167,20⟩
 |26=>⟨168,0,198,15⟩
 |27=>⟨199,0,209,39⟩
 | _=>⟨210,0,216,106⟩
def b3E:Expr:=(stP (topS 4)).2.2.2.2.1
def dKs(e:Expr):List (Option Expr):=(exP e).2.2.2.1
def dVs(e:Expr):List Expr:=(exP e).2.2.2.2.1
noncomputable def dlMk:List (Option Expr)->List Expr->List (Int × Str)
 |some k::ks,v::vs=>match (exP k).2.2.2.2.2.2.2,(exP v).2.2.2.2.2.2.2 with
  | .int k,.str s=>(k,s)::dlMk ks vs
  | _,_=>[]
 | _,_=>[]
def dL:List (Int × Str):=dlMk (dKs b3E) (dVs b3E)
noncomputable def enE(t:Nat)(p:Int × Str):DictEntry:=⟨hashInt p.1,.int p.1 t,.str p.2 (t+1)⟩
noncomputable def enL:Nat->List (Int × Str)->List DictEntry
 | _,[]=>[]
 |t,p::l=>enE t p::enL (t+3) l
noncomputable def enV:Nat->List (Int × Str)->List DictEntry
 | _,[]=>[]
 |t,p::l=>enE t p::enV (t+2) l
def deL:List DictEntry:=enL 263 (dL.take 646)++enV 2201 (dL.drop 646)
def deO(i:Nat):Obj:=mapO (enL (263+51*i) ((dL.drop (17*i)).take 17)) 17
def deS:Obj:=mapO (enV 2201 (dL.drop 646)) 4
def deN(n:Nat):Obj:=mapO (enL 263 (dL.take n)) n
def deM:Obj:=mapO deL 650
inductive MT where
 |l
 |n (o:Obj) (a b:MT)
noncomputable def MT.get:MT->Nat->Obj
 | .l,_=>default
 | .n v x y,i=>match Nat.beq i 0 with
  |true=>v
  |false=>match Nat.beq (i % 2) 1 with
   |true=>x.get (i / 2)
   |false=>y.get (i / 2 - 1)
def hT(P:Params):MT:=(.n (boot_o_0 P) (.n (boot_o_1 P) (.n (boot_o_3 P) (.n (boot_o_7 P) (.n (tuO []) (.n (tuO []) (.n (deO 23) (.n (fdO (.type "range_iterator") [vI 8239 0,vI 0 0,vI 1 0]) (.n (tuO [vS [115,101,108,102] 2679,vS [105,110,105,116,105,97,108,95,115,105,122,101] 2680]) .l .l) .l) (.n (h_191) (.n (h_319) .l .l) .l)) (.n (tuO [vS [99,111,100,101] 2232,vS [99] 2233]) (.n (tuO []) (.n (h_287) .l .l) .l) (.n (fdO .none []) (.n (tuO []) .l .l) .l))) (.n (deO 7) (.n (tuO []) (.n (tuO [vS [99,111,100,101] 2337]) (.n (tuO []) .l .l) .l) (.n (h_207) (.n (fdO .none []) .l .l) .l)) (.n (h_111) (.n (h_175) (.n (h_303) .l .l) .l) (.n (h_239) .l .l)))) (.n (fdO (.type "range") [vI 65024 207,vI 65040 208,vI 1 209]) (.n (h_39) (.n (deO 31) (.n (fdO (.type "StopIteration") [vR 134,.none,.none,.none,.bool false,.none]) (.n (tuO []) .l .l) .l) (.n (h_199) (.n (tuO []) .l .l) .l)) (.n (tuO []) (.n (fdO (.type "builtin_function_or_method") [.builtin "type.__prepare__", .type "type"]) (.n (h_295) .l .l) .l) (.n (h_231) (.n (fdO .none []) .l .l) .l))) (.n (deO 15) (.n (fdO .none []) (.n (fdO (.type "range_iterator") [vI 917632 0,vI 0 0,vI 1 0]) (.n (tuO []) .l .l) .l) (.n (tuO []) (.n (fuN (topS 24) [95,108,97,119,95,116,111,108,100] [] (.none) (.none) (.none) (.none)) .l .l) .l)) (.n (tuO [vS [99,111,100,101] 2289]) (.n (tuO []) (.n (h_311) .l .l) .l) (.n (tuO []) .l .l))))) (.n (tuO []) (.n (fuN (topS 0) [95,119,97,108,108] [] (.none) (.none) (.none) (.none)) (.n (tuO [vS [99,111,100,101] 259]) (.n (deO 27) (.n (fdO (.type "range") [vI 8298 2307,vI 8304 2308,vI 1 2309]) (.n (h_259) .l .l) .l) (.n (fdO .none []) (.n (h_323) .l .l) .l)) (.n (h_99) (.n (fuN (topS 15) [105,110,95,116,97,98,108,101,95,99,57] [] (.none) (.none) (.none) (.none)) (.n (fdO .none []) .l .l) .l) (.n (h_227) (.n (fuN (topS 26) [95,108,97,119,95,108,97,105,100] [] (.none) (.none) (.none) (.none)) .l .l) .l))) (.n (deO 11) (.n (fuN (topS 5) [109,97,112,95,116,97,98,108,101,95,98,51] [] (.none) (.none) (.none) (.none)) (.n (h_147) (.n (tuO [vR 246]) .l .l) .l) (.n (tuO []) (.n (tuO []) .l .l) .l)) (.n (tuO []) (.n (h_179) (.n (tuO [vS [115,101,108,102] 2736]) .l .l) .l) (.n (tuO [.type "list"]) .l .l)))) (.n (fdO (.type "StopIteration") [vR 26,.none,.none,.none,.bool false,.none]) (.n (deO 3) (.n (deO 35) (.n (tuO []) (.n (tuO [vI 0 2693]) .l .l) .l) (.n (tuO [vS [115,101,108,102] 2603]) (.n (fuN (topS 22) [95,108,97,119,95,99,111,100,101] [] (.none) (.none) (.none) (.none)) .l .l) .l)) (.n (tuO [vS [99,111,100,101] 2254]) (.n (h_171) (.n (fdO .none []) .l .l) .l) (.n (h_235) .l .l))) (.n (deO 19) (.n (h_91) (.n (h_155 P) (.n (tuO []) .l .l) .l) (.n (h_219) (.n (fdO .none []) .l .l) .l)) (.n (h_123) (.n (tuO []) (.n (tuO [vS [115,101,108,102] 2744]) .l .l) .l) (.n (tuO [vI 0 2674]) .l .l)))))) (.n (boot_o_5 P) (.n (boot_o_9 P) (.n (tuO [vS [107] 190]) (.n (tuO []) (.n (deO 25) (.n (fdO (.type "StopIteration") [vR 128,.none,.none,.none,.bool false,.none]) (.n (h_257) .l .l) .l) (.n (h_193) (.n (h_321 P) .l .l) .l)) (.n (fuN (topS 7) [105,110,95,116,97,98,108,101,95,99,52] [] (.none) (.none) (.none) (.none)) (.n (tuO [vS [99,111,100,101] 2544]) (.n (h_289) .l .l) .l) (.n (tuO []) (.n (h_353) .l .l) .l))) (.n (deO 9) (.n (tuO [vS [99,111,100,101] 2217,vS [114] 2218]) (.n (fuN (topS 13) [105,110,95,116,97,98,108,101,95,99,56] [] (.none) (.none) (.none) (.none)) (.n (h_273) .l .l) .l) (.n (fdO .none []) (.n (h_337) .l .l) .l)) (.n (h_113 P) (.n (h_177) (.n (tuO []) .l .l) .l) (.n (fdO (.type "super") [vR 238,vR 238,vR 238]) .l .l)))) (.n (fdO (.type "range_iterator") [vI 65040 0,vI 0 0,vI 1 0]) (.n (deO 1) (.n (deO 33) (.n (h_137 P) (.n (h_265) .l .l) .l) (.n (tuO []) (.n (tuO [vS [110,117,109,98,101,114] 2763,vS [112,108,97,99,101] 2764,vS [115,116,114,101,116,99,104,101,115] 2765]) .l .l) .l)) (.n (tuO []) (.n (tuO []) (.n (tuO [.none]) .l .l) .l) (.n (h_233) (.n (cdH [108,97,119] [108,97,119] 2800 210 1 3 358 true 181 359 (.none) (.none) (vR 360) 2803) .l .l) .l))) (.n (deO 17) (.n (tuO []) (.n (fdO (.type "StopIteration") [vR 152,.none,.none,.none,.bool false,.none]) (.n (h_281) .l .l) .l) (.n (tuO [vS [115,101,108,102] 2620]) (.n (h_345) .l .l) .l)) (.n (fuN (topS 11) [105,110,95,116,97,98,108,101,95,99,55] [] (.none) (.none) (.none) (.none)) (.n (h_185) (.n (tuO [vS [95,95,99,108,97,115,115,95,95] 2743]) .l .l) .l) (.n (h_249) .l .l))))) (.n (h_13) (.n (fuO (.type "function") (topS 0) [95,119,97,108,108] [] (.none) (vS [95,95,109,97,105,110,95,95] 164) (vR 20) (.none)) (.n (fuN (topS 3) [105,110,95,116,97,98,108,101,95,98,49] [] (.none) (.none) (.none) (.none)) (.n (deO 29) (.n (fdO (.type "range_iterator") [vI 8304 0,vI 0 0,vI 1 0]) (.n (fdO .none []) .l .l) .l) (.n (tuO []) (.n (fdO (.type "super") [vR 322,vR 322,vR 322]) .l .l) .l)) (.n (h_101 P) (.n (h_165) (.n (tuO []) .l .l) .l) (.n (tuO []) (.n (h_357) .l .l) .l))) (.n (deO 13) (.n (h_85) (.n (fdO (.type "range") [vI 917536 2342,vI 917632 2343,vI 1 2344]) (.n (fdO .none []) .l .l) .l) (.n (h_213) (.n (tuO [vS [99,111,100,101] 2778]) .l .l) .l)) (.n (tuO []) (.n (fdO .none []) (.n (h_309) .l .l) .l) (.n (h_245 P) .l .l)))) (.n (h_29 P) (.n (deO 5) (.n (deO 37) (.n (tuO []) (.n (fdO .none []) .l .l) .l) (.n (h_205) (.n (h_333) .l .l) .l)) (.n (fuN (topS 9) [105,110,95,116,97,98,108,101,95,99,54] [] (.none) (.none) (.none) (.none)) (.n (tuO []) (.n (tuO []) .l .l) .l) (.n (h_237 P) .l .l))) (.n (deO 21) (.n (tuO []) (.n (tuO []) (.n (tuO [vS [115,101,108,102] 2714]) .l .l) .l) (.n (h_221) (.n (h_349) .l .l) .l)) (.n (fdO (.type "range") [vI 8234 2297,vI 8239 2298,vI 1 2299]) (.n (tuO [vS [115,101,108,102] 2588]) (.n (h_317) .l .l) .l) (.n (tuO [vS [95,95,99,108,97,115,115,95,95] 2678]) .l .l))))))) (.n (boot_o_2 P) (.n (boot_o_4 P) (.n (boot_o_8 P) (.n (fdO .none []) (.n (fdO (.type "StopIteration") [vR 31,.none,.none,.none,.bool false,.none]) (.n (deO 24) (.n (tuO []) (.n (tuO []) .l .l) .l) (.n (h_192) (.n (tuO [vS [95,105,110,105,116,105,97,108,95,115,105,122,101] 2748]) .l .l) .l)) (.n (tuO []) (.n (fdO .none []) (.n (h_288) .l .l) .l) (.n (h_224) (.n (fdO .none []) .l .l) .l))) (.n (deO 8) (.n (fdO .none []) (.n (tuO []) (.n (h_272) .l .l) .l) (.n (tuO []) (.n (fuN (topS 23) [95,108,97,119,95,105,115,95,98,97,114,114,101,100] [] (.none) (.none) (.none) (.none)) .l .l) .l)) (.n (fdO (.type "range") [vI 12272 2258,vI 12284 2259,vI 1 2260]) (.n (tuO []) (.n (h_304) .l .l) .l) (.n (h_240) .l .l)))) (.n (h_24) (.n (deM) (.n (deO 32) (.n (h_136) (.n (fuN (inS 20 1) [95,65,99,99,117,109,117,108,97,116,111,114,46,112,117,115,104] [] (.none) (.none) (.none) (.none)) .l .l) .l) (.n (h_200) (.n (fdO .none []) .l .l) .l)) (.n (fdO (.type "StopIteration") [vR 103,.none,.none,.none,.bool false,.none]) (.n (h_168 P) (.n (h_296) .l .l) .l) (.n (tuO []) (.n (fuN (topS 27) [108,97,119] [] (.none) (.none) (.none) (.none)) .l .l) .l))) (.n (deO 16) (.n (tuO [vS [99,111,100,101] 2225]) (.n (tuO []) (.n (fuN (inS 20 3) [95,65,99,99,117,109,117,108,97,116,111,114,46,112,111,112] [] (.none) (.none) (.none) (.none)) .l .l) .l) (.n (fdO .none []) (.n (h_344) .l .l) .l)) (.n (tuO []) (.n (h_184) (.n (tuO [vR 246]) .l .l) .l) (.n (h_248) .l .l))))) (.n default (.n (cdH [95,119,97,108,108] [95,119,97,108,108] 187 1 1 3 15 true 181 16 (vR 17) (vR 18) (vR 19) 191) (.n (tuO []) (.n (deO 28) (.n (lsO [vI 8298 2312,vI 8299 2313,vI 8300 2314,vI 8301 2315,vI 8302 2316,vI 8303 2317] 8) (.n (tuO []) .l .l) .l) (.n (tuO [vS [115,101,108,102] 2595,vS [101,110,100,95,111,102,95,108,105,110,101] 2596]) (.n (h_324) .l .l) .l)) (.n (fdO (.type "range") [vI 65529 2237,vI 65534 2238,vI 1 2239]) (.n (h_164) (.n (tuO [vS [115,101,108,102] 2721]) .l .l) .l) (.n (h_228) (.n (h_356) .l .l) .l))) (.n (deO 12) (.n (h_84) (.n (lsO [vI 917505 2341] 0) (.n (tuO [vS [95,95,99,108,97,115,115,95,95] 2706]) .l .l) .l) (.n (h_212) (.n (fdO .none []) .l .l) .l)) (.n (fdO (.type "StopIteration") [vR 115,.none,.none,.none,.bool false,.none]) (.n (tuO []) (.n (tuO []) .l .l) .l) (.n (fdO (.type "builtin_function_or_method") [.builtin "type.__prepare__", .type "type"]) .l .l)))) (.n (h_28) (.n (deO 4) (.n (deO 36) (.n (fdO (.type "StopIteration") [vR 139,.none,.none,.none,.bool false,.none]) (.n (tuO []) .l .l) .l) (.n (tuO []) (.n (h_332) .l .l) .l)) (.n (tuO []) (.n (h_172) (.n (tuO [vS [115,101,108,102] 2728,vS [115,116,97,114,116,118,97,108] 2729]) .l .l) .l) (.n (h_236) .l .l))) (.n (deO 20) (.n (h_92) (.n (fdO (.type "list_iterator") [.none,vI 97 0]) (.n (fdO .none []) .l .l) .l) (.n (h_220) (.n (fuN (topS 25) [95,108,97,119,95,112,97,103,101] [] (.none) (.none) (.none) (.none)) .l .l) .l)) (.n (lsO [vI 832 2293,vI 833 2294,vI 8206 2295,vI 8207 2296] 0) (.n (fdO .none []) (.n (tuO []) .l .l) .l) (.n (tuO [vR 246]) .l .l)))))) (.n (boot_o_6 P) (.n (boot_o_10 P) (.n (tuO []) (.n (fdO .none []) (.n (deO 26) (.n (h_130) (.n (h_258) .l .l) .l) (.n (tuO []) (.n (h_322) .l .l) .l)) (.n (h_98) (.n (tuO []) (.n (tuO []) .l .l) .l) (.n (h_226) (.n (tuO []) .l .l) .l))) (.n (deO 10) (.n (tuO []) (.n (h_146) (.n (h_274) .l .l) .l) (.n (h_210) (.n (h_338) .l .l) .l)) (.n (fdO (.type "range_iterator") [vI 12284 0,vI 0 0,vI 1 0]) (.n (h_178) (.n (fdO .none []) .l .l) .l) (.n (fdO (.type "builtin_function_or_method") [.builtin "object.__init_subclass__", vR 238]) .l .l)))) (.n (tuO []) (.n (deO 2) (.n (deO 34) (.n (fdO (.type "list_iterator") [.none,vI 15 0]) (.n (h_266) .l .l) .l) (.n (fdO .none []) (.n (tuO []) .l .l) .l)) (.n (fdO .none []) (.n (h_170) (.n (tuO []) .l .l) .l) (.n (h_234) (.n (h_362) .l .l) .l))) (.n (deO 18) (.n (fuN (topS 6) [105,110,95,116,97,98,108,101,95,99,49,49] [] (.none) (.none) (.none) (.none)) (.n (h_154) (.n (h_282) .l .l) .l) (.n (tuO []) (.n (tuO []) .l .l) .l)) (.n (h_122) (.n (h_186) (.n (fdO .none []) .l .l) .l) (.n (h_250) .l .l))))) (.n (h_14) (.n (h_22) (.n (h_38) (.n (deO 30) (.n (tuO []) (.n (tuO [vS [115,101,108,102] 2687,vS [102,119,115] 2688,vS [115,116,114,105,110,103] 2689]) .l .l) .l) (.n (h_198) (.n (fdO (.type "builtin_function_or_method") [.builtin "object.__init_subclass__", vR 322]) .l .l) .l)) (.n (fdO (.type "range_iterator") [vI 65534 0,vI 0 0,vI 1 0]) (.n (tuO []) (.n (h_294) .l .l) .l) (.n (fdO .none []) (.n (tuO []) .l .l) .l))) (.n (deO 14) (.n (tuO []) (.n (h_150) (.n (tuO [vS [115,101,108,102] 2707]) .l .l) .l) (.n (h_214) (.n (tuO []) .l .l) .l)) (.n (fdO .none []) (.n (tuO [vS [115,101,108,102] 2580,vS [108,105,110,101,115,101,112] 2581]) (.n (h_310) .l .l) .l) (.n (⟨.type "cell", none,.cell (sR 322),#[]⟩) .l .l)))) (.n (fdO (.type "list_iterator") [.none,vI 27 0]) (.n (deO 6) (.n (deS) (.n (fdO .none []) (.n (tuO [vS [115,101,108,102] 2697,vS [105] 2698,vS [112,111,112,112,101,100] 2699]) .l .l) .l) (.n (h_206) (.n (tuO []) .l .l) .l)) (.n (h_110) (.n (fdO .none []) (.n (fuN (inS 20 6) [95,65,99,99,117,109,117,108,97,116,111,114,46,114,101,115,101,116] [] (.none) (.none) (.none) (.none)) .l .l) .l) (.n (h_238) .l .l))) (.n (deO 22) (.n (fdO .none []) (.n (fdO (.type "StopIteration") [vR 157,.none,.none,.none,.bool false,.none]) (.n (tuO []) .l .l) .l) (.n (tuO []) (.n (h_350) .l .l) .l)) (.n (lsO [vI 8234 2302,vI 8235 2303,vI 8236 2304,vI 8237 2305,vI 8238 2306] 7) (.n (tuO []) (.n (h_318) .l .l) .l) (.n (fdO .none []) .l .l))))))))
def hO(P:Params)(nm k c L:Nat):Obj:=match Nat.beq L 3 with
 |true=>mapG P nm k
 |false=>match Nat.beq L 12 with
  |true=>mlO c
  |false=>(hT P).get L
noncomputable def hB(ob:Nat->Obj)(n:Nat):Nat->Nat->Nat->BT
 |0,_,_=>.nil
 |d+1,a,b=>match Nat.blt b n with
  |true=>.node (ob b) (hB ob n d (2*a) (a+b)) (hB ob n d (2*a) (2*a+b))
  |false=>.nil
def HSt.tree(s:HSt)(P:Params):BT:=hB (hO P s.nm s.k s.c) s.n 12 1 0
noncomputable def HSt.at(s:HSt)(P:Params)(os:OsState):SharedT:=⟨s.tree P,s.n,(boot_heap P).life,#[],boot_drawn,s.t,os⟩
noncomputable def segD(den:Code->Sem PySem.Fin)(p:Program)(w:World)(n₀:Nat)(ann:Option Value)(b:Nat):Nat->SharedT->Thread->Option (Flow × SharedT × Code × Pos)
 |0,_,_=>none
 |n+1,s,t=>match endAt b t with
  |some f=>some (f,s,t.code,t.pos)
  |none=>match stepOk n₀ ann t with
   |false=>none
   |true=>match stepT den p w s t with
    |some (s',t')=>segD den p w n₀ ann b n s' t'
    |none=>none
theorem xV{tb:String->Option Builtin}{p:Program}{w:World}{n₀:Nat}{ann:Option Value}{b:Nat}:∀(n:Nat) (s:SharedT) (t:Thread),segD (denote tb) p w n₀ ann b n s t=segRunT tb p w n₀ ann b n s t
 |0,_,_=>rfl
 |n+1,s,t=>by
  unfold segD segRunT
  cases endAt b t with
  |some f=>rfl
  |none=>
   cases stepOk n₀ ann t with
   |false=>rfl
   |true=>
    cases stepT (denote tb) p w s t with
    |none=>rfl
    |some r=>exact xV n r.1 r.2
def hEnv:Env:={ scope:=progP.main.scope,locals:=mainNs,globals:=mainNs,cells:=[],code:=.ref 13,frame:=some 14 }
def hC:Code:=.body progP.main.body hEnv
def hTh(i:Nat)(l:List Stmt):Thread:=⟨(execs l hEnv).wrap doneF deadEnd id id,hC,hPos i,[topFrame default]⟩
def hRun(w:World)(os:OsState)(N i:Nat)(l:List Stmt):Option (Flow × SharedT × Code × Pos):=segD denF progP w 11 none 1 N ((hSt i).at w.params os) (hTh i l)
def hEnd(w:World)(os:OsState)(i:Nat):Option (Flow × SharedT × Code × Pos):=some (.next,(hSt i).at w.params os,hC,hPos i)
abbrev Sd:=Option Addr × List (Sem Value × Sem Value)
noncomputable def ddX:{ x:(Option (Sem Value) × Sem Value->Sd->Sem (ForInStep Sd)) × (Sd->Sem Value) //
  ∀items,dictDisplay items=(forIn items (none,[]) x.1) >>= x.2 }:=⟨(_,_),λitems=>by unfold dictDisplay;exact rfl⟩
def ddI:List (Option (Sem Value) × Sem Value):=(evalEachOpt (dKs b3E) hEnv).zip ((evalEach (dVs b3E) hEnv).map λv=>do let x <-v;standAt b3E.pos;pure x)
def ddT:List Expr:=match topS 4 with
 | .Assign ts _ _=>ts
 | _=>[]
def ddG(v:Value):Sem Flow:=do assignStores hEnv v (<-swappedStores ddT b3E hEnv) ((assignEach ddT hEnv).map (·.2))
def ddTh:Thread:=⟨(((forIn ddI (none,[]) ddX.1.1 >>= ddX.1.2) >>= ddG):Sem Flow).wrap doneF deadEnd id id,hC,b3E.pos,[topFrame default]⟩
noncomputable def goD(den:Code->Sem PySem.Fin)(p:Program)(w:World)(n₀:Nat)(ann:Option Value)(b:Nat):Nat->SharedT->Thread->Option (SharedT × Thread)
 |0,s,t=>some (s,t)
 |n+1,s,t=>match endAt b t with
  |some _=>none
  |none=>match stepOk n₀ ann t with
   |false=>none
   |true=>match stepT den p w s t with
    |some (s',t')=>goD den p w n₀ ann b n s' t'
    |none=>none
def hGo(w:World)(N:Nat)(s:SharedT)(t:Thread):Option (SharedT × Thread):=goD denF progP w 11 none 1 N s t
end Mine
end
noncomputable section
open PyProof.Rows PySem PySem.W
namespace Mine
def Go(w:World)(s:Shared)(t:Thread)(s':Shared)(t':Thread):Prop:=∃n,segGo treeTable progP w 11 none 1 n s t=some (s',t')
def Go.refl{w:World}{s:Shared}{t:Thread}:Go w s t s t:=⟨0,rfl⟩
def Yp{w:World}:∀(n m:Nat) (s s':Shared) (t t':Thread),segGo treeTable progP w 11 none 1 n s t=some (s',t')->segGo treeTable progP w 11 none 1 (n+m) s t=segGo treeTable progP w 11 none 1 m s' t':=by
 intro n
 induction n with
 |zero=>
  rintro m s s' t t' h
  obtain⟨rfl,rfl⟩:s=s'/\t=t':=by simpa [segGo] using h
  rw[Nat.zero_add]
 |succ n IH=>
  rintro m s s' t t' h
  rw[show n+1+m=n+m+1 by lia]
  unfold segGo at h
  conv=>lhs;unfold segGo
  cases h1:endAt 1 t with
  |some f=>rw[h1] at h;cases h
  |none=>
   rw[h1] at h
   cases h2:stepOk 11 none t with
   |false=>rw[h2] at h;cases h
   |true=>
    rw[h2] at h
    cases h3:step (denote treeTable) progP w s t with
    |halt o s2=>rw[h3] at h;cases h
    |go s2 t2=>rw[h3] at h;exact IH m s2 s' t2 t' h
def Go.trans{w:World}{s s₁ s':Shared}{t t₁ t':Thread}(h:Go w s t s₁ t₁)(h':Go w s₁ t₁ s' t'):Go w s t s' t':=by
 obtain⟨n,hn⟩:=h
 obtain⟨m,hm⟩:=h'
 exact⟨n+m,by rw[Yp n m _ _ _ _ hn];exact hm⟩
def Go.one{w:World}{s s':Shared}{t t':Thread}(h1:endAt 1 t=none)(h2:stepOk 11 none t=true)(h3:step (denote treeTable) progP w s t=.go s' t'):Go w s t s' t':=⟨1,by unfold segGo;rw[h1,h2,h3];rfl⟩
noncomputable def tF:List Frame:=[topFrame default]
noncomputable def isDone(t:Thread):Bool:=match t.cur with
 | .pure (.done _)=>match t.stack with
  | _::_::_=>false
  | _=>true
 | _=>false
def zF{t:Thread}(h:isDone t=false):endAt 1 t=none:=by
 obtain⟨cur,code,pos,F⟩:=t
 cases F with
 |nil=>rfl
 |cons a F=>
  cases F with
  |nil=>
   cases cur with
   |pure r=>
    cases r with
    |done f=>cases h
    |again c=>rfl
   | _=>rfl
  |cons b F=>
   unfold endAt
   dsimp only
   rw[show ((a::b::F).length==1)=false from by simp]
def cod:Option Args->Code
 |none=>hC
 |some a=>.builtin "set.update.loop" a
def CS(w:World){D:Type}(x:Sem D)(s:Shared)(a:D)(s':Shared):Prop:=
 ∀(c:Option Args) (f:Frame) (F:List Frame) (K:D->Sem PySem.Fin) (H:Value->Sem PySem.Fin) (gd:Bool->Bool) (lv:List Value->List Value) (pos:Pos),∃pos',Go w s ⟨x.wrap K H gd lv,cod c,pos,f::F⟩ s' ⟨K a,cod c,pos',f::F⟩
section
variable {w:World} {D β:Type} {s s₁ s':Shared} {a:D} {b:β}
theorem CS.pure:CS w (Pure.pure a:Sem D) s a s:=λc f F K H gd lv pos=>⟨pos,.refl⟩
theorem CS.bind{x:Sem D}{f:D->Sem β}(h:CS w x s a s₁)(h':CS w (f a) s₁ b s'):CS w (x >>= f) s b s':=λc fr F K H gd lv pos=>by
 obtain⟨p1,g1⟩:=h c fr F (λa=>(f a).wrap K H gd lv) (λe=>(Sem.raise e:Sem β).wrap K H gd lv) (λg=>gd (id g)) (λl=>lv (id l)) pos
 obtain⟨p2,g2⟩:=h' c fr F K H gd lv p1
 refine⟨p2,?_⟩
 rw[Sem.bind_eq_wrap',Sem.wrap_wrap]
 exact g1.trans g2
theorem CS.eq{x y:Sem D}(e:x=y)(h:CS w y s a s'):CS w x s a s':=e▸h
theorem CS.hold{vs:List Value}{x:Sem D}(h:CS w x s a s'):CS w (holding vs x) s a s':=by
 unfold holding
 split
 ·exact h
 ·intro c f F K H gd lv pos
  rw[Sem.keep_eq_wrap,Sem.wrap_wrap]
  exact h _ _ _ _ _ _ _ pos
theorem CS.onRaise{x:Sem D}{f:Value->Sem Unit}(h:CS w x s a s'):CS w (x.onRaise f) s a s':=by
 intro c f F K H gd lv pos
 rw[Sem.onRaise_eq_wrap,Sem.wrap_wrap]
 exact h _ _ _ _ _ _ _ pos
theorem CS.rule{t:String}:CS w (PySem.rule t) s () s:=λc f F K H gd lv pos=>⟨pos,.one (zF rfl) rfl rfl⟩
theorem CS.at{p:Pos}:CS w (standAt p) s () s:=λc f F K H gd lv pos=>⟨p,.one (zF rfl) rfl rfl⟩
theorem CS.load{x:Addr}{p:Option Value}{o:Obj}(h:s.heap.get? x=some o):CS w (loadPart x p) s o s:=λc f F K H gd lv pos=>⟨pos,.one (zF rfl) rfl (by
 obtain⟨heap,gens,drawn,toks,os⟩:=s
 simp only[loadPart,Sem.wrap,step]
 dsimp only at h
 rw[h])⟩
theorem CS.upd{x:Addr}{p:Option Value}{f:Obj->Obj}(hx:11<=x)(h:(s.heap.get? x).isSome=true):CS w (updatePart x p f) s () { s with heap:=s.heap.update x f }:=λc f F K H gd lv pos=>⟨pos,.one (zF rfl) (by
 have:Nat.ble 11 x=true:=Nat.ble_eq_true_of_le hx
 simp only[updatePart,Sem.wrap,stepOk,this];rfl) (by
 obtain⟨heap,gens,drawn,toks,os⟩:=s
 simp only[updatePart,Sem.wrap,step]
 dsimp only at h
 rw[h];rfl)⟩
theorem CS.alloc{o:Obj}:CS w (PySem.alloc o) s s.heap.objs.size { s with heap:=s.heap.push o }:=λc f F K H gd lv pos=>⟨pos,.one (zF rfl) rfl (by
 obtain⟨heap,gens,drawn,toks,os⟩:=s
 rfl)⟩
end
def YC{es:List DictEntry}{n:Nat}{e:DictEntry}:Obj.mapDictKeys (·.push e) (mapO es n)=mapO (es++[e]) (n+1):=by
 show Obj.mk (.type "dict") none (.dict (es.toArray.push e) (n+1)) #[]=_
 rw[List.push_toArray]
 rfl
noncomputable def goS(den:Code->Sem PySem.Fin)(p:Program)(w:World)(n₀:Nat)(ann:Option Value):Nat->Shared->Thread->Option (Shared × Thread)
 |0,s,t=>some (s,t)
 |n+1,s,t=>match isDone t with
  |true=>none
  |false=>match stepOk n₀ ann t with
   |false=>none
   |true=>match step den p w s t with
    | .go s' t'=>goS den p w n₀ ann n s' t'
    | .halt _ _=>none
theorem XU{tb:String->Option Builtin}{p:Program}{w:World}{n₀:Nat}{ann:Option Value}{r:Shared × Thread}:∀(n:Nat) (s:Shared) (t:Thread),goS (denote tb) p w n₀ ann n s t=some r->segGo tb p w n₀ ann 1 n s t=some r
 |0,_,_,h=>h
 |n+1,s,t,h=>by
  unfold goS at h
  unfold segGo
  cases hd:isDone t with
  |true=>rw[hd] at h;cases h
  |false=>
   rw[hd] at h
   rw[zF hd]
   cases h2:stepOk n₀ ann t with
   |false=>rw[h2] at h;cases h
   |true=>
    rw[h2] at h
    cases h3:step (denote tb) p w s t with
    |halt o s=>rw[h3] at h;cases h
    |go s' t'=>rw[h3] at h;exact XU n s' t' h
def yY:denF=denote treeTable:=by rw[yD,table_eq_tree]
def Go.fast{w:World}{s s':Shared}{t t':Thread}(n:Nat)(h:goS denF progP w 11 none n s t=some (s',t')):Go w s t s' t':=⟨n,by rw[yY] at h;exact XU n s t h⟩
section
variable {w:World} {s:Shared}
theorem uf{k:Int}:pyHashByItsType.reduced (rawHash k)=pure (hashInt k):=by
 have hr:=rawHash_range k
 unfold pyHashByItsType.reduced
 rw[if_pos (by rw[decide_eq_true hr.1,decide_eq_true hr.2];rfl)]
 rfl
theorem ZV{k:Int}{t:Tok}:CS w (pyHash (.int k t)) s (hashInt k) { s with toks:=s.toks+1 }:=by
 obtain⟨heap,gens,drawn,toks,os⟩:=s
 have H:∀b,∀(c:Option Args) (f:Frame) (F:List Frame) (K:Int->Sem PySem.Fin) (H:Value->Sem PySem.Fin) (gd:Bool->Bool) (lv:List Value->List Value) (pos:Pos),Go (w.withFollow "special-get-raises" b) ⟨heap,gens,drawn,toks,os⟩ ⟨(pyHash (.int k t)).wrap K H gd lv,cod c,pos,f::F⟩ ⟨heap,gens,drawn,toks+1,os⟩ ⟨(pyHashByItsType.reduced (rawHash k)).wrap K H gd lv,cod c,pos,f::F⟩:=λb c f F K H gd lv pos=>.fast 5 (by cases b<;>cases c<;>kernel_rfl)
 have:=H (w.params.followText "special-get-raises")
 rw[World.withFollow_self] at this
 intro c f F K H gd lv pos
 have h:=this c f F K H gd lv pos
 rw[uf] at h
 exact⟨pos,h⟩
theorem X8{k:Int}:CS w (mkInt k) s (.int k s.toks) { s with toks:=s.toks+1 }:=by
 obtain⟨heap,gens,drawn,toks,os⟩:=s
 exact λc f F K H gd lv pos=>⟨pos,.one (zF rfl) rfl rfl⟩
theorem ZQ{x:Str}:CS w (mkText x) s (.str x s.toks) { s with toks:=s.toks+1 }:=by
 obtain⟨heap,gens,drawn,toks,os⟩:=s
 exact λc f F K H gd lv pos=>⟨pos,.one (zF rfl) rfl rfl⟩
end
section
variable {w:World} {s:Shared} {d:Addr} {es:List DictEntry} {n:Nat}
theorem yE{p:Option Value}(h:s.heap.get? d=some (mapO es n)):CS w (dictEntries d p) s es.toArray s:=by
 unfold dictEntries
 exact CS.bind (CS.load h) CS.pure
theorem ui{es:List DictEntry}{h:Int}(hn:∀e∈es,e.hash≠h):placesWithHash es.toArray.size (λi=>es.toArray[i]?.map (·.hash)) h=[]:=by
 unfold placesWithHash
 rw[List.filter_eq_nil_iff]
 intro i hi
 rw[List.mem_range,List.size_toArray] at hi
 simp only[List.getElem?_toArray,List.getElem?_eq_getElem hi,Option.map_some,beq_iff_eq,Option.some.injEq]
 exact hn _ (List.getElem_mem hi)
theorem ZW{k h:Int}{t:Tok}(hd:s.heap.get? d=some (mapO es n))(hn:∀e∈es,e.hash≠h):CS w (dictFind d (.int k t) h) s none s:=by
 unfold dictFind
 refine CS.hold (CS.bind (yE hd) ?_)
 dsimp only
 rw[ui hn]
 exact CS.pure
theorem yj{h:Heap}{o:Obj}(g:h.get? d=some o)(f:Obj->Obj):h.update d f=h.update d λ_=>f o:=by
 obtain⟨objs,life⟩:=h
 have hx:objs[d]?=some o:=(Heap.get?_some_iff.mp g).1
 show Heap.mk _ _=Heap.mk _ _
 refine congrArg (Heap.mk · life) ?_
 apply Array.ext_getElem?
 intro i
 rw[Array.getElem?_modify,Array.getElem?_modify]
 by_cases e:d=i
 ·subst e;simp[hx]
 ·simp[e]
theorem vt{h:Heap}{o o':Obj}(g:h.get? d=some o)(hf:o'.isFreed=false):(h.update d λ_=>o').get? d=some o':=Heap.get?_update_self (λ_=>o') g hf
theorem xT{h:Heap}{o o':Obj}:(h.update d λ_=>o).update d (λ_=>o')=h.update d λ_=>o':=by
 obtain⟨objs,life⟩:=h
 show Heap.mk _ _=Heap.mk _ _
 refine congrArg (Heap.mk · life) ?_
 apply Array.ext_getElem?
 intro i
 rw[Array.getElem?_modify,Array.getElem?_modify,Array.getElem?_modify]
 by_cases e:d=i
 ·subst e;cases objs[d]?<;>simp
 ·simp[e]
def putD(s:Shared)(d:Addr)(es:List DictEntry)(n:Nat):Shared:={ s with heap:=s.heap.update d λ_=>mapO es n }
theorem xc(hd:s.heap.get? d=some (mapO es n)){es':List DictEntry}{n':Nat}:(putD s d es' n').heap.get? d=some (mapO es' n'):=vt hd rfl
theorem Xe{es es':List DictEntry}{n n':Nat}:putD (putD s d es n) d es' n'=putD s d es' n':=by
 unfold putD;dsimp only;rw[xT]
theorem ZT{p:Option Value}{e:DictEntry}(hx:11<=d)(hd:s.heap.get? d=some (mapO es n))(hl:es.length<=1000):CS w (updateDictKeys d (·.push e) p) s () (putD s d (es++[e]) (n+1)):=by
 unfold updateDictKeys
 refine CS.bind (CS.load hd) ?_
 show CS w (updatePart d p _ >>= λ_=>lookBehind d p) s () _
 have e1:{ s with heap:=s.heap.update d (Obj.mapDictKeys (·.push e)) }=putD s d (es++[e]) (n+1):=by
  unfold putD
  rw[yj hd,YC]
 refine CS.bind (CS.upd hx (by rw[hd];rfl)) ?_
 rw[e1]
 unfold lookBehind
 refine CS.bind (CS.load (xc hd)) ?_
 have:(mapO (es++[e]) (n+1)).data.pastItsLine=none:=by
  unfold mapO Data.pastItsLine
  dsimp only
  rw[if_neg]
  rw[List.size_toArray,List.length_append]
  have:sizeLine=16777216:=by decide
  rw[this];simp;lia
 rw[this]
 exact CS.pure
theorem TC{k h:Int}{t:Tok}{v:Value}(hx:11<=d)(hd:s.heap.get? d=some (mapO es n))(hl:es.length<=1000)(hn:∀e∈es,e.hash≠h):CS w (dictPut d h (.int k t) v) s () (putD s d (es++[⟨h,.int k t,v⟩]) (n+1)):=by
 unfold dictPut
 exact CS.bind (ZW hd hn) (ZT hx hd hl)
theorem Vu{k h:Int}{t:Tok}{v:Value}(hx:11<=d)(hd:s.heap.get? d=some (mapO es n))(hl:es.length<=1000)(hn:∀e∈es,e.hash≠h):CS w (dictSetHashed d (.int k t) h v) s () (putD s d (es++[⟨h,.int k t,v⟩]) (n+1)):=by
 unfold dictSetHashed
 exact CS.hold (CS.bind (ZW hd hn) (CS.bind CS.rule (ZT hx hd hl)))
theorem X5{k:Int}{t:Tok}{v:Value}(hx:11<=d)(hd:s.heap.get? d=some (mapO es n))(hl:es.length<=1000)(hn:∀e∈es,e.hash≠hashInt k):CS w (dictSet d (.int k t) v) s () { putD s d (es++[⟨hashInt k,.int k t,v⟩]) (n+1) with toks:=s.toks+1 }:=by
 unfold dictSet
 exact CS.hold (CS.bind ZV (Vu (s:={ s with toks:=s.toks+1 }) hx hd hl hn))
end
def pr(p:Int × Str):Sem Value × Sem Value:=(mkInt p.1,(do let x <-mkText p.2;standAt b3E.pos;pure x))
theorem xl:∀(t:Nat) (l:List (Int × Str)),(enL t l).length=l.length
 | _,[]=>rfl
 |t,p::l=>by rw[enL,List.length_cons,xl (t+3) l,List.length_cons]
theorem xm:∀(t:Nat) (l:List (Int × Str)),(enL t l).map (·.hash)=l.map λp=>hashInt p.1
 | _,[]=>rfl
 |t,p::l=>by rw[enL,List.map_cons,xm (t+3) l,List.map_cons];rfl
section
variable {w:World} {s:Shared} {d:Addr} {es:List DictEntry} {n:Nat}
theorem X7{B:Sem Value × Sem Value->PUnit->Sem (ForInStep PUnit)}(hB:∀x,B x ⟨⟩=(do let kv <-x.1;let vv <-holding [kv] x.2;holding [kv,vv] (dictSet d kv vv);pure (.yield ⟨⟩)))(hx:11<=d) :
  ∀(l:List (Int × Str)) (s:Shared) (es:List DictEntry) (n:Nat),s.heap.get? d=some (mapO es n)->es.length+l.length<=1000->(es.map (·.hash)++l.map (λp=>hashInt p.1)).Nodup->
   CS w (forIn (l.map pr) ⟨⟩ B) s ⟨⟩ { putD s d (es++enL s.toks l) (n+l.length) with toks:=s.toks+3*l.length }:=by
 intro x
 induction x with
 |nil=>
  rintro s es n hd hl hn
  have e:({ putD s d (es++enL s.toks []) (n+([]:List (Int × Str)).length) with toks:=s.toks+3*([]:List (Int × Str)).length }:Shared)=s:=by
   have h1:s.heap.update d (λ_=>mapO es n)=s.heap:=by
    refine(yj hd id).symm.trans ?_
    obtain⟨objs,life⟩:=s.heap
    show Heap.mk _ _=Heap.mk _ _
    refine congrArg (Heap.mk · life) ?_
    apply Array.ext_getElem?
    intro i
    rw[Array.getElem?_modify]
    split<;>simp
   obtain⟨heap,gens,drawn,toks,os⟩:=s
   unfold putD enL
   simp only[List.append_nil,List.length_nil,Nat.add_zero,Nat.mul_zero,Shared.mk.injEq,and_true]
   exact h1
  rw[e]
  exact CS.pure
 |cons p l IH=>
  rintro s es n hd hl hn
  rw[List.map_cons,List.forIn_cons,hB]
  have hf:∀e∈es,e.hash≠hashInt p.1:=λe he q=>by
   have:=List.nodup_append.mp hn
   exact this.2.2 _ (List.mem_map_of_mem he) _ (.head _) q
  rw[List.length_cons] at hl
  refine CS.bind (CS.bind X8 (CS.bind (CS.hold (CS.bind ZQ (CS.bind CS.at CS.pure))) (CS.bind (CS.hold (X5 (s:={ s with toks:=s.toks+1+1 }) hx hd (by lia) hf)) CS.pure))) ?_
  have ih:=IH { putD s d (es++[enE s.toks p]) (n+1) with toks:=s.toks+3 } (es++[enE s.toks p]) (n+1) (xc hd) (by rw[List.length_append,List.length_singleton];lia) (by
   rw[List.map_append,List.append_assoc]
   exact hn)
  have e:({ putD ({ putD s d (es++[enE s.toks p]) (n+1) with toks:=s.toks+3 }:Shared) d (es++[enE s.toks p]++enL (s.toks+3) l) (n+1+l.length) with toks:=s.toks+3+3*l.length }:Shared)={ putD s d (es++enL s.toks (p::l)) (n+(p::l).length) with toks:=s.toks+3*(p::l).length }:=by
   unfold putD
   dsimp only
   rw[xT,List.append_assoc,List.length_cons,Nat.add_assoc n 1,Nat.add_comm 1 l.length,Nat.mul_add,Nat.mul_one,Nat.add_assoc s.toks 3,Nat.add_comm 3]
   rfl
  rw[<-e]
  exact ih
theorem X3{l:List (Int × Str)}(hl:l.length=17)(hs:11<=s.heap.objs.size)(hn:(l.map λp=>hashInt p.1).Nodup) :
  CS w (subDict (l.map pr)) s s.heap.objs.size { s with heap:=s.heap.push (mapO (enL s.toks l) 17),toks:=s.toks+51 }:=by
 unfold subDict
 refine CS.bind CS.alloc (CS.bind (a:=()) (CS.hold ?_) CS.pure)
 rw[if_neg (by rw[List.length_map,hl];decide)]
 refine CS.bind CS.rule ?_
 have h0:(s.heap.push (mapO [] 0)).get? s.heap.objs.size=some (mapO [] 0):=by
  obtain⟨⟨objs,life⟩,gens,drawn,toks,os⟩:=s
  show Heap.get? ⟨objs.push _,life⟩ objs.size=_
  unfold Heap.get?
  rw[Array.getElem?_push_size];rfl
 have h:=X7 (w:=w) (d:=s.heap.objs.size) (B:=λx _=>match x with|(k,v)=>do let kv <-k;let vv <-holding [kv] v;holding [kv,vv] (dictSet s.heap.objs.size kv vv);pure (.yield ⟨⟩)) (λx=>rfl) hs l { s with heap:=s.heap.push (mapO [] 0) } [] 0 h0 (by rw[hl];decide) hn
 have e:({ putD ({ s with heap:=s.heap.push (mapO [] 0) }:Shared) s.heap.objs.size ([]++enL s.toks l) (0+l.length) with toks:=s.toks+3*l.length }:Shared)={ s with heap:=s.heap.push (mapO (enL s.toks l) 17),toks:=s.toks+51 }:=by
  unfold putD
  dsimp only
  rw[hl,List.nil_append]
  refine congrArg (λh=>Shared.mk h s.gens s.drawn (s.toks+51) s.os) ?_
  obtain⟨⟨objs,life⟩,gens,drawn,toks,os⟩:=s
  show Heap.mk _ _=Heap.mk _ _
  refine congrArg (Heap.mk · life) ?_
  apply Array.ext_getElem?
  intro i
  show ((objs.push _).modify objs.size _)[i]?=(objs.push _)[i]?
  rw[Array.getElem?_modify,Array.getElem?_push,Array.getElem?_push]
  by_cases h:i=objs.size
  ·subst h;simp
  ·simp[h,Ne.symm h]
 rw[e] at h
 exact CS.bind h CS.pure
end
section
variable {w:World}
theorem YI{s:Shared}{a:Addr}{es:List DictEntry}{n:Nat}(h:s.heap.get? a=some (mapO es n)):CS w (isInstance (.ref a) (.type "dict")) s true s:=by
 unfold isInstance typeOf
 refine CS.bind (CS.bind (CS.load h) CS.pure) (CS.eq ?_ CS.pure)
 show isSubtype (.type "dict") (.type "dict")=_
 rw[isSubtype_type]
 kernel_rfl
theorem Vx{s:Shared}{a:Addr}{es:List DictEntry}{n:Nat}(h:s.heap.get? a=some (mapO es n)):CS w (specialOf (.ref a) "__iter__") s (some (.builtin "dict.__iter__")) s:=by
 unfold specialOf typeOf
 refine CS.bind (CS.bind (CS.load h) CS.pure) (CS.eq ?_ CS.pure)
 show typeLookup (.type "dict") "__iter__" = _
 rw[typeLookup_type,builtinLookup_eq_fast]
 kernel_rfl
theorem uH{s:Shared}{a:Addr}{es:List DictEntry}{n:Nat}{p:Option Value}(h:s.heap.get? a=some (mapO es n)):CS w (dictEpoch a p) s n s:=by
 unfold dictEpoch
 exact CS.bind (CS.load h) CS.pure
theorem Zr{s:Shared}{a d:Addr}{es:List DictEntry}{n:Nat}(h:a≠d):(putD s d es n).heap.get? a=s.heap.get? a:=Heap.get?_update_ne _ _ _ _ h
theorem X6{a d:Addr}{L:List DictEntry}{m:Nat}{B:Nat->PUnit->Sem (ForInStep PUnit)}(hne:a≠d)
  (hB:∀(i:Nat) (e:DictEntry) (s:Shared) (es:List DictEntry) (n:Nat),L[i]?=some e->s.heap.get? a=some (mapO L m)->s.heap.get? d=some (mapO es n)->es.length<=1000->(∀x∈es,x.hash≠e.hash)->CS w (B i ⟨⟩) s (.yield ⟨⟩) (putD s d (es++[e]) (n+1))) :
  ∀(k i:Nat) (s:Shared) (es:List DictEntry) (n:Nat),i+k=L.length->s.heap.get? a=some (mapO L m)->s.heap.get? d=some (mapO es n)->es.length+k<=1000->(es.map (·.hash)++(L.drop i).map (·.hash)).Nodup->
   CS w (forIn (List.range' i k) ⟨⟩ B) s ⟨⟩ (putD s d (es++L.drop i) (n+k)):=by
 intro i
 induction i with
 |zero=>
  rintro i s es n hi ha hd hl hn
  have e:putD s d (es++L.drop i) (n+0)=s:=by
   rw[List.drop_eq_nil_of_le (by lia),List.append_nil]
   have h1:s.heap.update d (λ_=>mapO es n)=s.heap:=by
    refine(yj hd id).symm.trans ?_
    obtain⟨objs,life⟩:=s.heap
    show Heap.mk _ _=Heap.mk _ _
    refine congrArg (Heap.mk · life) ?_
    apply Array.ext_getElem?
    intro i
    rw[Array.getElem?_modify]
    split<;>simp
   unfold putD
   rw[Nat.add_zero,h1]
  rw[e]
  exact CS.pure
 |succ k IH=>
  rintro i s es n hi ha hd hl hn
  have hi':i < L.length:=by lia
  rw[List.range'_succ,List.forIn_cons]
  have ed:L.drop i=L[i]::L.drop (i+1):=List.drop_eq_getElem_cons hi'
  rw[ed,List.map_cons] at hn
  have hf:∀x∈es,x.hash≠L[i].hash:=λx hx q=>(List.nodup_append.mp hn).2.2 _ (List.mem_map_of_mem hx) _ (.head _) q
  refine CS.bind (hB i L[i] s es n (List.getElem?_eq_getElem hi') ha hd (by lia) hf) ?_
  have ih:=IH (i+1) (putD s d (es++[L[i]]) (n+1)) (es++[L[i]]) (n+1) (by lia) (by rw[Zr hne];exact ha) (xc hd) (by rw[List.length_append,List.length_singleton];lia) (by
   rw[List.map_append,List.append_assoc];exact hn)
  rw[Xe,List.append_assoc,Nat.add_assoc n 1,Nat.add_comm 1 k] at ih
  rw[ed]
  exact ih
theorem ZO:∀(t:Nat) (l:List (Int × Str)),∀e∈enL t l,∃k tk,e.key=.int k tk
 | _,[],e,h=>by cases h
 |t,p::l,e,h=>by
  rcases List.mem_cons.mp h with rfl|h
  ·exact⟨_,_,rfl⟩
  ·exact ZO (t+3) l e h
theorem uG{s:Shared}{a d:Addr}{L:List DictEntry}{m:Nat}{es:List DictEntry}{n:Nat}(hx:11<=d)(hne:a≠d)(hs:(a==sysModules)=false)(h0:es≠[])(hk:∀e∈L,∃k tk,e.key=.int k tk)(ha:s.heap.get? a=some (mapO L m))(hd:s.heap.get? d=some (mapO es n))
  (hl:es.length+L.length<=1000) (hn:(es.map (·.hash)++L.map (·.hash)).Nodup):CS w (mergeMapping d (.ref a) false) s () (putD s d (es++L) (n+L.length)):=by
 unfold mergeMapping
 refine CS.bind (YI ha) ?_
 dsimp only
 rw[if_pos rfl]
 refine CS.bind (Vx ha) ?_
 rw[show (some (Value.builtin "dict.__iter__")==some (Value.builtin "dict.__iter__"))=true from beq_self_eq_true _]
 refine CS.bind CS.pure ?_
 dsimp only
 rw[hs,if_neg (by decide)]
 refine CS.bind (yE hd) ?_
 rw[if_neg (by
  cases es with
  |nil=>exact absurd rfl h0
  |cons e es=>simp)]
 refine CS.bind (yE ha) (CS.bind (uH ha) (CS.bind (a:=PUnit.unit) (s₁:=putD s d (es++L) (n+L.length)) ?_ CS.pure))
 rw[List.size_toArray,List.range_eq_range']
 refine X6 hne ?_ L.length 0 s es n (Nat.zero_add _) ha hd hl (by rw[List.drop_zero];exact hn)
 intro i e s es n he ha hd hl hn
 refine CS.bind (yE ha) ?_
 rw[List.getElem?_toArray,he]
 dsimp only
 obtain⟨k,tk,hk⟩:=hk e (List.mem_of_getElem? he)
 refine CS.bind (a:=()) (s₁:=putD s d (es++[e]) (n+1)) (CS.hold ?_) (CS.bind (uH (by rw[Zr hne];exact ha)) ?_)
 ·rw[if_neg (by decide)]
  obtain⟨h,key,v⟩:=e
  dsimp only at hk hn
  subst hk
  exact TC hx hd hl hn
 ·rw[if_neg (by simp)]
  exact CS.pure
end
def itm(p:Int × Str):Option (Sem Value) × Sem Value:=(some (pr p).1,(pr p).2)
section
variable {w:World}
theorem uF{k v:Sem Value}{m:Option Addr}{run:List (Sem Value × Sem Value)}(h:run.length+1≠17):ddX.1.1 (some k,v) (m,run)=pure (.yield (m,run++[(k,v)])):=by
 show (if ((run++[(k,v)]).length==17)=true then _ else _)=_
 rw[if_neg (by rw[List.length_append,List.length_singleton];simpa using h)]
theorem YK{k v:Sem Value}{run:List (Sem Value × Sem Value)}{s s':Shared}{d:Addr}(h:run.length+1=17)(hs:CS w (subDict (run++[(k,v)])) s d s'):CS w (ddX.1.1 (some k,v) (none,run)) s (.yield (some d,[])) s':=by
 show CS w (if ((run++[(k,v)]).length==17)=true then _ else _) _ _ _
 rw[if_pos (by rw[List.length_append,List.length_singleton,h];rfl)]
 refine CS.bind (a:=some d) (s₁:=s') ?_ CS.pure
 show CS w (if (run++[(k,v)]).isEmpty=true then _ else _) _ _ _
 rw[if_neg (by simp)]
 exact CS.bind hs CS.pure
theorem YJ{k v:Sem Value}{run:List (Sem Value × Sem Value)}{s s₁ s':Shared}{a d:Addr}(h:run.length+1=17)(hs:CS w (subDict (run++[(k,v)])) s a s₁)(hm:CS w (mergeMapping d (.ref a) false) s₁ () s'):CS w (ddX.1.1 (some k,v) (some d,run)) s (.yield (some d,[])) s':=by
 show CS w (if ((run++[(k,v)]).length==17)=true then _ else _) _ _ _
 rw[if_pos (by rw[List.length_append,List.length_singleton,h];rfl)]
 refine CS.bind (a:=some d) (s₁:=s') ?_ CS.pure
 show CS w (if (run++[(k,v)]).isEmpty=true then _ else _) _ _ _
 rw[if_neg (by simp)]
 exact CS.bind (CS.hold hs) (CS.bind (CS.onRaise (CS.hold hm)) CS.pure)
theorem wy{m m':Option Addr}{rest:List (Option (Sem Value) × Sem Value)}{s s₁ s':Shared}{r:Sd}(hr:CS w (forIn rest (m',[]) ddX.1.1) s₁ r s'):∀(l:List (Int × Str)) (run:List (Sem Value × Sem Value)),run.length+l.length=17->l≠[]->
  (∀k v run',run'.length+1=17->run'++[(k,v)]=run++l.map pr->CS w (ddX.1.1 (some k,v) (m,run')) s (.yield (m',[])) s₁)->CS w (forIn (l.map itm++rest) (m,run) ddX.1.1) s r s'
 |[],_,_,h,_=>absurd rfl h
 |[p],run,hl,_,H=>by
  show CS w (forIn (itm p::rest) _ _) _ _ _
  rw[List.forIn_cons]
  exact CS.bind (H (pr p).1 (pr p).2 run hl rfl) hr
 |p::p'::l,run,hl,_,H=>by
  rw[List.map_cons,List.cons_append,List.forIn_cons]
  show CS w (ddX.1.1 (some (pr p).1,(pr p).2) (m,run) >>= _) _ _ _
  rw[uF (by simp only[List.length_cons] at hl;lia)]
  refine CS.bind CS.pure ?_
  refine wy hr (p'::l) (run++[((pr p).1,(pr p).2)]) (by simp only[List.length_cons,List.length_append,List.length_nil] at hl ⊢;lia) (by simp) ?_
  intro k v run' h1 h2
  refine H k v run' h1 ?_
  rw[h2,List.append_assoc];rfl
theorem X9{l:List (Int × Str)}{rest:List (Option (Sem Value) × Sem Value)}{s s':Shared}{r:Sd}(hl:l.length=17)(hs:11<=s.heap.objs.size)(hn:(l.map λp=>hashInt p.1).Nodup)
  (hr:CS w (forIn rest (some s.heap.objs.size,[]) ddX.1.1) { s with heap:=s.heap.push (mapO (enL s.toks l) 17),toks:=s.toks+51 } r s'):CS w (forIn (l.map itm++rest) (none,[]) ddX.1.1) s r s':=by
 refine wy hr l [] (by rw[hl];rfl) (by rintro rfl;cases hl) ?_
 intro k v run' h1 h2
 refine YK h1 ?_
 rw[h2,List.nil_append]
 exact X3 hl hs hn
theorem zJ{h:Heap}{o:Obj}(hf:o.isFreed=false):(h.push o).get? h.objs.size=some o:=Heap.get?_push_size h hf
theorem Vw{l:List (Int × Str)}{rest:List (Option (Sem Value) × Sem Value)}{s s':Shared}{r:Sd}{d:Addr}{es:List DictEntry}{n:Nat}(hl:l.length=17)(hs:11<=s.heap.objs.size)(hx:11<=d)(hd:s.heap.get? d=some (mapO es n))(h0:es≠[])(hle:es.length<=900)(hsm:(s.heap.objs.size==sysModules)=false)
  (hn:(es.map (·.hash)++l.map λp=>hashInt p.1).Nodup)
  (hr:CS w (forIn rest (some d,[]) ddX.1.1) (putD { s with heap:=s.heap.push (mapO (enL s.toks l) 17),toks:=s.toks+51 } d (es++enL s.toks l) (n+17)) r s'):CS w (forIn (l.map itm++rest) (some d,[]) ddX.1.1) s r s':=by
 have hlt:d < s.heap.objs.size:=Heap.lt_size hd
 refine wy hr l [] (by rw[hl];rfl) (by rintro rfl;cases hl) ?_
 intro k v run' h1 h2
 refine YJ h1 (s₁:={ s with heap:=s.heap.push (mapO (enL s.toks l) 17),toks:=s.toks+51 }) (a:=s.heap.objs.size) ?_ ?_
 ·rw[h2,List.nil_append]
  exact X3 hl hs (List.nodup_append.mp hn).2.1
 ·have:=uG (w:=w) (s:={ s with heap:=s.heap.push (mapO (enL s.toks l) 17),toks:=s.toks+51 }) (a:=s.heap.objs.size) (L:=enL s.toks l) (m:=17) hx (Nat.ne_of_gt hlt) hsm h0 (ZO _ _) (zJ rfl) (by
   show (s.heap.push _).get? d=_
   rw[Heap.get?_push_ne _ _ _ (Nat.ne_of_lt hlt)];exact hd) (by rw[xl,hl];lia) (by rw[xm];exact hn)
  rw[xl,hl] at this
  exact this
end
noncomputable def vaL:Nat->List (Int × Str)->List (Value × Value)
 | _,[]=>[]
 |t,p::l=>(.int p.1 t,.str p.2 (t+1))::vaL (t+2) l
theorem vz:∀(t:Nat) (l:List (Int × Str)),(enV t l).length=l.length
 | _,[]=>rfl
 |t,p::l=>by rw[enV,List.length_cons,vz (t+2) l,List.length_cons]
theorem wu:∀(t:Nat) (l:List (Int × Str)),(enV t l).map (·.hash)=l.map λp=>hashInt p.1
 | _,[]=>rfl
 |t,p::l=>by rw[enV,List.map_cons,wu (t+2) l,List.map_cons];rfl
theorem ZM:∀(t:Nat) (l:List (Int × Str)),∀e∈enV t l,∃k tk,e.key=.int k tk
 | _,[],e,h=>by cases h
 |t,p::l,e,h=>by
  rcases List.mem_cons.mp h with rfl|h
  ·exact⟨_,_,rfl⟩
  ·exact ZM (t+2) l e h
section
variable {w:World}
theorem xn:∀(l:List (Int × Str)) (s:Shared),CS w (evalPairs (l.map pr)) s (vaL s.toks l) { s with toks:=s.toks+2*l.length }
 |[],s=>CS.pure
 |p::l,s=>by
  rw[List.map_cons]
  show CS w (evalPairs (((pr p).1,(pr p).2)::l.map pr)) _ _ _
  unfold evalPairs
  refine CS.bind X8 (CS.bind (CS.hold (CS.bind ZQ (CS.bind CS.at CS.pure))) ?_)
  have ih:=xn l { s with toks:=s.toks+1+1 }
  have e:s.toks+2*(p::l).length=s.toks+1+1+2*l.length:=by rw[List.length_cons];lia
  rw[e]
  exact CS.bind (CS.hold ih) CS.pure
theorem Xc{s:Shared}{d:Addr}{es:List DictEntry}{n:Nat}(hd:s.heap.get? d=some (mapO es n)):putD s d es n=s:=by
 have h1:s.heap.update d (λ_=>mapO es n)=s.heap:=by
  refine(yj hd id).symm.trans ?_
  obtain⟨objs,life⟩:=s.heap
  show Heap.mk _ _=Heap.mk _ _
  refine congrArg (Heap.mk · life) ?_
  apply Array.ext_getElem?
  intro i
  rw[Array.getElem?_modify]
  split<;>simp
 unfold putD
 rw[h1]
theorem Vs{d:Addr}{B:Value × Value->PUnit->Sem (ForInStep PUnit)}(hB:∀x,B x ⟨⟩=(do dictSet d x.1 x.2;pure (.yield ⟨⟩)))(hx:11<=d) :
  ∀(l:List (Int × Str)) (t:Nat) (s:Shared) (es:List DictEntry) (n:Nat),s.heap.get? d=some (mapO es n)->es.length+l.length<=1000->(es.map (·.hash)++l.map (λp=>hashInt p.1)).Nodup->
   CS w (forIn (vaL t l) ⟨⟩ B) s ⟨⟩ { putD s d (es++enV t l) (n+l.length) with toks:=s.toks+l.length }:=by
 intro x
 induction x with
 |nil=>
  rintro t s es n hd hl hn
  have e:({ putD s d (es++enV t []) (n+([]:List (Int × Str)).length) with toks:=s.toks+([]:List (Int × Str)).length }:Shared)=s:=by
   show ({ putD s d (es++[]) n with toks:=s.toks }:Shared)=s
   rw[List.append_nil,Xc hd]
  rw[e]
  exact CS.pure
 |cons p l IH=>
  rintro t s es n hd hl hn
  show CS w (forIn (((.int p.1 t,.str p.2 (t+1)):Value × Value)::vaL (t+2) l) ⟨⟩ B) _ _ _
  rw[List.forIn_cons,hB]
  have hf:∀e∈es,e.hash≠hashInt p.1:=λe he q=>(List.nodup_append.mp hn).2.2 _ (List.mem_map_of_mem he) _ (.head _) q
  rw[List.length_cons] at hl
  refine CS.bind (CS.bind (X5 hx hd (by lia) hf) CS.pure) ?_
  have ih:=IH (t+2) { putD s d (es++[enE t p]) (n+1) with toks:=s.toks+1 } (es++[enE t p]) (n+1) (xc hd) (by rw[List.length_append,List.length_singleton];lia) (by
   rw[List.map_append,List.append_assoc];exact hn)
  have e:({ putD ({ putD s d (es++[enE t p]) (n+1) with toks:=s.toks+1 }:Shared) d (es++[enE t p]++enV (t+2) l) (n+1+l.length) with toks:=s.toks+1+l.length }:Shared)={ putD s d (es++enV t (p::l)) (n+(p::l).length) with toks:=s.toks+(p::l).length }:=by
   unfold putD
   dsimp only
   rw[xT,List.append_assoc,List.length_cons,Nat.add_assoc n 1,Nat.add_comm 1 l.length,Nat.add_assoc s.toks 1,Nat.add_comm 1]
   rfl
  rw[<-e]
  exact ih
theorem Vt{l:List (Int × Str)}{s:Shared}(hl:l.length<=15)(hs:11<=s.heap.objs.size)(hn:(l.map λp=>hashInt p.1).Nodup) :
  CS w (subDict (l.map pr)) s s.heap.objs.size { s with heap:=s.heap.push (mapO (enV s.toks l) l.length),toks:=s.toks+2*l.length+l.length }:=by
 unfold subDict
 refine CS.bind CS.alloc (CS.bind (a:=()) (CS.hold ?_) CS.pure)
 rw[if_pos (by rw[List.length_map];exact hl)]
 refine CS.bind (xn l _) (CS.hold ?_)
 have h0:(s.heap.push (mapO [] 0)).get? s.heap.objs.size=some (mapO [] 0):=zJ rfl
 have h:=Vs (w:=w) (d:=s.heap.objs.size) (B:=λx _=>match x with|(k,v)=>do dictSet s.heap.objs.size k v;pure (.yield ⟨⟩)) (λx=>rfl) hs l s.toks { s with heap:=s.heap.push (mapO [] 0),toks:=s.toks+2*l.length } [] 0 h0 (by simp;lia) hn
 have e:({ putD ({ s with heap:=s.heap.push (mapO [] 0),toks:=s.toks+2*l.length }:Shared) s.heap.objs.size ([]++enV s.toks l) (0+l.length) with toks:=s.toks+2*l.length+l.length }:Shared)={ s with heap:=s.heap.push (mapO (enV s.toks l) l.length),toks:=s.toks+2*l.length+l.length }:=by
  unfold putD
  dsimp only
  rw[List.nil_append,Nat.zero_add]
  refine congrArg (λh=>Shared.mk h s.gens s.drawn (s.toks+2*l.length+l.length) s.os) ?_
  obtain⟨⟨objs,life⟩,gens,drawn,toks,os⟩:=s
  show Heap.mk _ _=Heap.mk _ _
  refine congrArg (Heap.mk · life) ?_
  apply Array.ext_getElem?
  intro i
  show ((objs.push _).modify objs.size _)[i]?=(objs.push _)[i]?
  rw[Array.getElem?_modify,Array.getElem?_push,Array.getElem?_push]
  by_cases h:i=objs.size
  ·subst h;simp
  ·simp[h,Ne.symm h]
 rw[e] at h
 exact CS.bind h CS.pure
theorem ZS{m:Option Addr}{s:Shared}:∀(l:List (Int × Str)) (run:List (Int × Str)),run.length+l.length < 17->CS w (forIn (l.map itm) (m,run.map pr) ddX.1.1) s (m,(run++l).map pr) s
 |[],run,hl=>by rw[List.append_nil];exact CS.pure
 |p::l,run,hl=>by
  rw[List.map_cons,List.forIn_cons]
  show CS w (ddX.1.1 (some (pr p).1,(pr p).2) (m,run.map pr) >>= _) _ _ _
  rw[uF (by rw[List.length_map];simp only[List.length_cons] at hl;lia)]
  refine CS.bind CS.pure ?_
  have:CS w (forIn (l.map itm) (m,(run++[p]).map pr) ddX.1.1) s (m,((run++[p])++l).map pr) s:=ZS l (run++[p]) (by simp only[List.length_cons,List.length_append,List.length_nil] at hl ⊢;lia)
  rw[List.map_append,List.append_assoc] at this
  exact this
theorem Vv{run:List (Sem Value × Sem Value)}{s s₁ s':Shared}{a d:Addr}(h:run≠[])(hs:CS w (subDict run) s a s₁)(hm:CS w (mergeMapping d (.ref a) false) s₁ () s'):CS w (ddX.1.2 (some d,run)) s (.ref d) s':=by
 refine CS.bind (a:=some d) (s₁:=s') ?_ CS.pure
 show CS w (if run.isEmpty=true then _ else _) _ _ _
 rw[if_neg (by cases run with|nil=>exact absurd rfl h|cons _ _=>simp)]
 exact CS.bind (CS.hold hs) (CS.bind (CS.onRaise (CS.hold hm)) CS.pure)
end
def TB:ddI=dL.map itm:=by kernel_rfl
def xA:dL.length=650:=by kernel_rfl
noncomputable def incN:Nat->List Nat->Bool
 | _,[]=>true
 |a,b::l=>match Nat.blt a b with
  |true=>incN b l
  |false=>false
theorem ZH:∀{a:Nat} {l:List Nat},incN a l=true->(∀x∈l,a < x)/\l.Pairwise (· < ·)
 |a,[],_=>⟨λx h=>(by cases h),.nil⟩
 |a,b::l,h=>by
  unfold incN at h
  split at h
  ·rename_i hb
   have hb:a < b:=by rw[Nat.blt_eq] at hb;exact hb
   obtain⟨h1,h2⟩:=ZH h
   refine⟨λx hx=>?_,List.pairwise_cons.mpr ⟨h1,h2⟩⟩
   rcases List.mem_cons.mp hx with rfl|hx
   ·exact hb
   ·exact Nat.lt_trans hb (h1 x hx)
  ·cases h
theorem xf{D β:Type}{f:D->β}:∀{l:List D},(l.map f).Nodup->l.Nodup
 |[],_=>List.nodup_nil
 |a::l,h=>by
  rw[List.map_cons,List.nodup_cons] at h
  exact List.nodup_cons.mpr ⟨λhm=>h.1 (List.mem_map_of_mem hm),xf h.2⟩
def ww:(dL.map λp=>hashInt p.1).Nodup:=by
 have h:incN 0 ((dL.map λp=>hashInt p.1).map Int.toNat)=true:=by kernel_rfl
 exact xf (f:=Int.toNat) ((ZH h).2.imp Nat.ne_of_lt)
theorem wv:∀(t:Nat) (a b:List (Int × Str)),enL t (a++b)=enL t a++enL (t+3*a.length) b
 |t,[],b=>rfl
 |t,p::a,b=>by
  rw[List.cons_append,enL,wv (t+3) a b,enL,List.cons_append,List.length_cons]
  congr 3
  lia
def X0(j:Nat)(hj:j < 37):enL 263 (dL.take (17*(j+1)))++enL (263+51*(j+1)) ((dL.drop (17*(j+1))).take 17)=enL 263 (dL.take (17*(j+2))):=by
 have e:dL.take (17*(j+2))=dL.take (17*(j+1))++(dL.drop (17*(j+1))).take 17:=by
  rw[show 17*(j+2)=17*(j+1)+17 from rfl,List.take_add]
 have el:(dL.take (17*(j+1))).length=17*(j+1):=by rw[List.length_take,xA];exact Nat.min_eq_left (Nat.le_trans (Nat.mul_le_mul_left 17 hj) (by decide))
 rw[e,wv,el,<-Nat.mul_assoc]
noncomputable def ddH(h:Heap):Nat->Heap
 |0=>h.push (deN 17)
 |j+1=>((ddH h j).push (deO (j+1))).update 40 λ_=>deN (17*(j+2))
section
variable {h:Heap} (hs:h.objs.size=40)
include hs
theorem yS:∀j,(ddH h j).objs.size=41+j
 |0=>by rw[ddH,Heap.size_push,hs]
 |j+1=>by rw[ddH,Heap.size_update,Heap.size_push,yS j,Nat.add_assoc]
theorem vA:∀j,(ddH h j).get? 40=some (deN (17*(j+1)))
 |0=>by
  have:=zJ (h:=h) (o:=deN 17) rfl
  rw[hs] at this
  exact this
 |j+1=>by
  rw[ddH]
  refine vt (o:=deN (17*(j+1))) ?_ rfl
  have hne:40≠(ddH h j).objs.size:=by rw[yS hs];exact Nat.ne_of_lt (Nat.lt_of_lt_of_le (by decide) (Nat.le_add_right 41 j))
  rw[Heap.get?_push_ne _ _ _ hne]
  exact vA j
end
section
variable {w:World} {h:Heap} {gens:Array GenState} {drawn:Drawn} {os:OsState} (hs:h.objs.size=40)
include hs
theorem ZU{r:Sd}{s':Shared}(hr:CS w (forIn ((dL.drop 646).map itm) (some 40,[]) ddX.1.1) ⟨ddH h 37,gens,drawn,2201,os⟩ r s'):∀(k j:Nat),j+k=37->CS w (forIn ((dL.drop (17*(j+1))).map itm) (some 40,[]) ddX.1.1) ⟨ddH h j,gens,drawn,263+51*(j+1),os⟩ r s'
 |0,j,hj=>by
  have:j=37:=hj
  subst this
  exact hr
 |k+1,j,hj=>by
  have h37:j+1<=37:=hj▸Nat.add_le_add_left (Nat.succ_le_succ (Nat.zero_le k)) j
  have h629:17*(j+1)<=629:=Nat.mul_le_mul_left 17 h37
  have ih:=ZU hr k (j+1) (by rw[Nat.add_right_comm];exact hj)
  have e:dL.drop (17*(j+1))=(dL.drop (17*(j+1))).take 17++dL.drop (17*(j+2)):=by
   rw[show 17*(j+2)=17*(j+1)+17 from rfl,<-List.drop_drop,List.take_append_drop]
  have hl:((dL.drop (17*(j+1))).take 17).length=17:=by rw[List.length_take,List.length_drop,xA];exact Nat.min_eq_left (Nat.le_sub_of_add_le (Nat.le_trans (Nat.add_le_add_left h629 17) (by decide)))
  rw[e,List.map_append]
  have hn:((enL 263 (dL.take (17*(j+1)))).map (·.hash)++((dL.drop (17*(j+1))).take 17).map λp=>hashInt p.1).Nodup:=by
   rw[xm,<-List.map_append]
   have e2:dL=(dL.take (17*(j+1))++(dL.drop (17*(j+1))).take 17)++dL.drop (17*(j+2)):=by
    rw[List.append_assoc,<-e,List.take_append_drop]
   have hd:=ww
   rw[e2,List.map_append] at hd
   exact(List.nodup_append.mp hd).1
  have hlen:(enL 263 (dL.take (17*(j+1)))).length=17*(j+1):=by rw[xl,List.length_take,xA];exact Nat.min_eq_left (Nat.le_trans h629 (by decide))
  refine Vw (es:=enL 263 (dL.take (17*(j+1)))) (n:=17*(j+1)) hl (by show 11<=(ddH h j).objs.size;rw[yS hs];exact Nat.le_trans (by decide) (Nat.le_add_right 41 j)) (by decide) (vA hs j) (by
   intro q;rw[q] at hlen;simp at hlen) (by rw[hlen];exact Nat.le_trans h629 (by decide)) (by
   show ((ddH h j).objs.size==sysModules)=false
   rw[yS hs]
   exact beq_eq_false_iff_ne.mpr (Nat.ne_of_gt (Nat.lt_of_lt_of_le (by decide) (Nat.le_add_right 41 j)))) hn ?_
  have e3:putD { (⟨ddH h j,gens,drawn,263+51*(j+1),os⟩:Shared) with heap:=(ddH h j).push (mapO (enL (263+51*(j+1)) ((dL.drop (17*(j+1))).take 17)) 17),toks:=263+51*(j+1)+51 } 40 (enL 263 (dL.take (17*(j+1)))++enL (263+51*(j+1)) ((dL.drop (17*(j+1))).take 17)) (17*(j+1)+17)=⟨ddH h (j+1),gens,drawn,263+51*(j+2),os⟩:=by
   unfold putD
   dsimp only
   rw[X0 j h37,show 17*(j+1)+17=17*(j+2) from rfl,show 263+51*(j+1)+51=263+51*(j+2) from Nat.add_assoc ..]
   rfl
  rw[e3]
  exact ih
theorem X2:CS w (forIn ddI (none,[]) ddX.1.1 >>= ddX.1.2) ⟨h,gens,drawn,263,os⟩ (.ref 40) ⟨((ddH h 37).push deS).update 40 λ_=>deM,gens,drawn,2213,os⟩:=by
 have hl4:(dL.drop 646).length=4:=by rw[List.length_drop,xA]
 have hlen:(enL 263 (dL.take 646)).length=646:=by rw[xl,List.length_take,xA];rfl
 have hn:((enL 263 (dL.take 646)).map (·.hash)++(enV 2201 (dL.drop 646)).map (·.hash)).Nodup:=by
  rw[xm,wu,<-List.map_append,List.take_append_drop]
  exact ww
 have hn4:((dL.drop 646).map λp=>hashInt p.1).Nodup:=by rw[<-wu 2201];exact(List.nodup_append.mp hn).2.1
 refine CS.bind (a:=(some 40,(dL.drop 646).map pr)) (s₁:=⟨ddH h 37,gens,drawn,2201,os⟩) ?_ ?_
 ·rw[TB]
  have e':dL.map itm=(dL.take 17).map itm++(dL.drop 17).map itm:=by rw[<-List.map_append,List.take_append_drop]
  have e:dL=dL.take 17++dL.drop 17:=(List.take_append_drop _ _).symm
  rw[e']
  refine X9 (by rw[List.length_take,xA];rfl) (by show 11<=h.objs.size;rw[hs];decide) (by
   have hd:=ww
   rw[e,List.map_append] at hd
   exact(List.nodup_append.mp hd).1) ?_
  show CS w (forIn ((dL.drop 17).map itm) (some h.objs.size,[]) ddX.1.1) _ _ _
  rw[hs]
  refine ZU (r:=(some 40,(dL.drop 646).map pr)) hs ?_ 37 0 rfl
  exact ZS (dL.drop 646) [] (by rw[hl4];decide)
 ·have hsz:(ddH h 37).objs.size=78:=yS hs 37
  have hget:(ddH h 37).get? 40=some (mapO (enL 263 (dL.take 646)) 646):=vA hs 37
  have hS:deS=mapO (enV 2201 (dL.drop 646)) 4:=rfl
  have hM:deM=mapO (enL 263 (dL.take 646)++enV 2201 (dL.drop 646)) 650:=rfl
  generalize deS=S at hS ⊢
  generalize deM=M at hM ⊢
  generalize ddH h 37=H at hsz hget ⊢
  generalize dL.drop 646=l4 at hl4 hn hn4 hS hM ⊢
  generalize enL 263 (dL.take 646)=es at hlen hn hget hM ⊢
  subst hS hM
  have hsub:=Vt (w:=w) (s:=⟨H,gens,drawn,2201,os⟩) (l:=l4) (by rw[hl4];decide) (by show 11<=H.objs.size;rw[hsz];decide) hn4
  rw[hl4] at hsub
  have hm:=uG (w:=w) (s:=⟨H.push (mapO (enV 2201 l4) 4),gens,drawn,2213,os⟩) (a:=H.objs.size) (d:=40) (L:=enV 2201 l4) (m:=4) (es:=es) (n:=646) (by decide) (by rw[hsz];decide) (by rw[hsz];rfl) (by intro q;rw[q] at hlen;cases hlen) (ZM _ _) (zJ rfl) (by
   show (H.push _).get? 40=_
   rw[Heap.get?_push_ne _ _ _ (by rw[hsz];decide)];exact hget) (by rw[hlen,vz,hl4];decide) hn
  have e:(646:Nat)+(enV 2201 l4).length=650:=by rw[vz,hl4]
  rw[e] at hm
  exact Vv (by intro q;have:=congrArg List.length q;rw[List.length_map,hl4] at this;cases this) hsub hm
end
theorem XV{tb:String->Option Builtin}{p:Program}{w:World}{n₀:Nat}{ann:Option Value}{b:Nat}:∀(n:Nat) (s:SharedT) (t:Thread),goD (denote tb) p w n₀ ann b n s t=segGoT tb p w n₀ ann b n s t
 |0,_,_=>rfl
 |n+1,s,t=>by
  unfold goD segGoT
  cases endAt b t with
  |some f=>rfl
  |none=>
   cases stepOk n₀ ann t with
   |false=>rfl
   |true=>
    cases stepT (denote tb) p w s t with
    |none=>rfl
    |some r=>exact XV n r.1 r.2
def Go.tree{w:World}{s s':SharedT}{t t':Thread}(n:Nat)(h:hGo w n s t=some (s',t')):Go w s.abs t s'.abs t':=⟨n,by
 unfold hGo at h
 rw[yY,XV] at h
 exact segGo_of h⟩
noncomputable def h4S:HSt:=⟨1,11,2,79,2213⟩
def QF(w:World)(os:OsState):hGo w 2 ((hSt 4).at w.params os) ⟨(PySem.exec (topS 4) hEnv).wrap doneF deadEnd id id,hC,hPos 4,tF⟩=some ((hSt 4).at w.params os,ddTh):=by kernel_rfl
def Vl(P:Params):(((ddH (absHeap ((hSt 4).tree P) 40 (boot_heap P).life) 37).push deS).update 40 λ_=>deM)=absHeap (h4S.tree P) 79 (boot_heap P).life:=by kernel_rfl
def Tr(w:World)(os:OsState)(pos:Pos):segD denF progP w 11 none 1 9 (h4S.at w.params os) ⟨(ddG (.ref 40)).wrap doneF deadEnd id id,hC,pos,tF⟩=hEnd w os 5:=by kernel_rfl
noncomputable def topD(den:Code->Sem PySem.Fin)(p:Program)(w:World)(n₀:Nat)(ann:Option Value):Nat->Shared->Thread->Option (Shared × Thread)
 |0,s,t=>some (s,t)
 |n+1,s,t=>match through t with
  |true=>none
  |false=>match stepOk n₀ ann t with
   |false=>none
   |true=>match step den p w s t with
    | .go s' t'=>topD den p w n₀ ann n s' t'
    | .halt _ _=>none
theorem Zk{tb:String->Option Builtin}{p:Program}{w:World}{n₀:Nat}{ann:Option Value}:∀(n:Nat) (s:Shared) (t:Thread),topD (denote tb) p w n₀ ann n s t=topGo tb p w n₀ ann n s t
 |0,_,_=>rfl
 |n+1,s,t=>by
  unfold topD topGo
  cases through t with
  |true=>rfl
  |false=>
   cases stepOk n₀ ann t with
   |false=>rfl
   |true=>
    cases step (denote tb) p w s t with
    |halt o s=>rfl
    |go s' t'=>exact Zk n s' t'
noncomputable def hBoot(P:Params)(os:OsState):Shared:=⟨boot_heap P,Array.mk [],boot_drawn,boot_toks,os⟩
def QC(w:World)(os:OsState):topD denF progP w 11 none 12 (hBoot w.params os) (topStub progP)=some (((hSt 0).at w.params os).abs,⟨denF hC,hC,hPos 0,tF⟩):=by kernel_rfl
def Vk(w:World)(s:Shared):segRun treeTable progP w 11 none 1 1 s (blockOf progP.main.body hEnv hC (hPos 0) tF)=some (.next,s,hC,hPos 0):=by kernel_rfl
def QD(w:World)(s:Shared)(pos:Pos):topRun treeTable progP w 11 none 2 s ⟨doneF .next,hC,pos,tF⟩=some s:=by
 obtain⟨heap,gens,drawn,toks,os⟩:=s
 kernel_rfl
def Tq:progP.main.body=(List.range 28).map topS:=by kernel_rfl
def hH(P:Params):Heap:=absHeap ((hSt 28).tree P) 363 (boot_heap P).life
def Ub:importedModules progP.main.body=[]:=by kernel_rfl
def VU(P:Params):((boot_heap P).isNs mainGlobals && (hH P).isNs mainGlobals)=true:=by kernel_rfl
def Sm(P:Params):(hH P).isNs builtinsNs=true:=by kernel_rfl
def Uc(P:Params):laidKept (boot_heap P) (hH P)=true:=by kernel_rfl
def Wu(P:Params):namesBound progP (hH P)=true:=by kernel_rfl
def Ua(P:Params):staticsOk [] (boot_heap P) (hH P)=true:=by kernel_rfl
def So(P:Params):(hH P).accountedOkI []=true:=by kernel_rfl
def Sn(P:Params):(hH P).bltView=bltViewBooted:=by kernel_rfl
def Wv(P:Params):(hH P).bmainOk=true:=by kernel_rfl
end Mine
end
noncomputable section
open PySem PySem.W
namespace Mine
noncomputable def accObj(V:TopV)(ad:Addr)(xs:Array Value)(ep:Nat):Obj:=⟨.ref (V.av 322),some ad,.seq xs ep,#[]⟩
noncomputable def sInitial:Str:=⟨#[95,105,110,105,116,105,97,108,95,115,105,122,101]⟩
def accDict(P:Params)(t:Tok)(n:Int)(tn:Tok)(ep:Nat):Obj:=⟨.type "dict", none,.dict #[⟨PyData.keyHash P sInitial,.str sInitial t,.int n tn⟩] ep,#[]⟩
noncomputable def tupO(F:Str)(tF:Tok)(S:Str)(tS:Tok):Obj:=⟨.type "tuple", none,.seq #[.str F tF,.str S tS] 0,#[]⟩
end Mine
end
noncomputable section
open PyProof.Rows PySem PySem.W
namespace Mine
noncomputable def zipLg:zb->zb->Option Lg
 |[],[]=>some []
 |p::r,p'::r'=>match zipLg r r' with
  |some l=>some ((.n p.1,.n p'.1)::(.o p.2,.o p'.2)::l)
  |none=>none
 | _,_=>none
theorem yf:∀{r r':zb} {l:Lg},zipLg r r'=some l->Lg.Ok l->r=r'
 |[],[],_,_,_=>rfl
 |[],_::_,_,h,_=>nomatch h
 | _::_,[],_,h,_=>nomatch h
 |p::r,p'::r',l,h,hl=>by
  have h:(match zipLg r r' with|some l'=>some ((.n p.1,.n p'.1)::(.o p.2,.o p'.2)::l')|none=>none)=some l:=h
  cases e:zipLg r r' with
  |none=>rw[e] at h;cases h
  |some l'=>
   rw[e] at h
   cases h
   rw[yf e λq hq=>hl q (.tail _ (.tail _ hq)),Prod.ext (LV.n.inj (hl _ (.head _))) (LV.o.inj (hl _ (.tail _ (.head _))))]
def obA(l:zb)(i:Nat):Addr:=match nth l i with
 |some p=>p.1
 |none=>0
def obO(l:zb)(i:Nat):Obj:=match nth l i with
 |some p=>p.2
 |none=>⟨.none,none,.plain,#[]⟩
def vAt(l:List Value)(i:Nat):Value:=match nth l i with
 |some v=>v
 |none=>.none
noncomputable def rfV(v:Value):Addr:=match v with
 | .ref a=>a
 | _=>0
noncomputable def iV(v:Value):Int:=match v with
 | .int i _=>i
 | _=>0
noncomputable def tkV(v:Value):Tok:=match v with
 | .int _ t=>t
 | .str _ t=>t
 | _=>0
noncomputable def sV(v:Value):Str:=match v with
 | .str s _=>s
 | _=>⟨#[]⟩
noncomputable def argC(c:Code):List Value:=match c with
 | .call _ a=>a.pos
 | .builtin _ a=>a.pos
 | _=>[]
noncomputable def flO(o:Obj):List Value:=match o.data with
 | .fields vs=>vs.toList
 | .seq vs _=>vs.toList
 | _=>[]
noncomputable def sqO(o:Obj):Array Value:=match o.data with
 | .seq vs _=>vs
 | _=>#[]
noncomputable def epO(o:Obj):Nat:=match o.data with
 | .seq _ n=>n
 | .dict _ n=>n
 | _=>0
noncomputable def esO(o:Obj):Array DictEntry:=match o.data with
 | .dict es _=>es
 | _=>#[]
inductive CnE (prog:Program) (w:World) (wh:List (Code × Pos)) (c:Code) (s:Shared) (objs:zb) (gs:zk) (k:Nat) (out:List Addr->Ch->UOut):Prop
 |mk (xs:List Addr) (t:Ch) (s':Shared) (hx:xs.length=k) (hf:∀y∈xs,s.heap.objs.size<=y) (hc:codeAny (model prog w) (aroundOf wh) c (λres s₁=>res=(out xs t).res/\s₁=s') s)
  (he:Eff s s' objs gs (out xs t).posts xs (out xs t).news)
def cnX{M:Type}(m:Nat)(k:Nat->Nat)(rd:Nat->Code->zb->M)(C:Nat->M->Code)(dc:Nat->M->zb)(pc:Nat->M->Lg)(out:Nat->M->List Addr->Ch->UOut):Ext:=
 ⟨m,k,false,λd c _ objs _ xs t=>(zipLg objs (dc d (rd d c objs))).map λl=>⟨(out d (rd d c objs) xs t).res,(out d (rd d c objs) xs t).posts,(out d (rd d c objs) xs t).news,(.c c,.c (C d (rd d c objs)))::l,pc d (rd d c objs)⟩⟩
def zt{w:World}{tl:zb}{M:Type}{m:Nat}{k:Nat->Nat}{rd:Nat->Code->zb->M}{C:Nat->M->Code}{dc:Nat->M->zb}{pc:Nat->M->Lg}{out:Nat->M->List Addr->Ch->UOut}
  (H:∀(prog:Program) (s:Shared) (d:Nat) (u:M) (wh:List (Code × Pos)) (gs:zk),(∀p∈dc d u,s.heap.get? p.1=some p.2)->(∀p∈tl,p.2.isFreed=false->s.heap.get? p.1=some p.2)->Lg.Ok (pc d u)->
   CnE prog w wh (C d u) s (dc d u) gs (k d) (out d u)):LeafOk w tl (cnX m k rd C dc pc out):=by
 intro prog s d c wh objs gs _ hg _ ht
 by_cases h:c=C d (rd d c objs)/\objs=dc d (rd d c objs)/\Lg.Ok (pc d (rd d c objs))
 ·obtain⟨hc,ho,hp⟩:=h
  obtain⟨xs,t,s',hx,hf,hw,he⟩:=H prog s d (rd d c objs) wh gs (λp hp=>hg p (by rw[ho];exact hp)) ht hp
  rw[<-hc] at hw
  rw[<-ho] at he
  exact⟨xs,t,hx,hf,λr hr _ _=>(Option.map_eq_some_iff.mp hr).elim λl q=>q.2▸⟨s',hw,he⟩⟩
 ·exact⟨freshA s.heap.objs.size (k d),.of 0,yc _ _,λ_=>yq,λr hr hl hp=>(Option.map_eq_some_iff.mp hr).elim λl q=>absurd
   ⟨LV.c.inj (hl (.c c,_) (q.2▸.head _)),yf q.1 λx hx=>hl x (q.2▸.tail _ hx),(q.2▸hp :)⟩ h⟩
structure IsL (s:Shared) (a:Addr) (o:Obj):Prop where
 get:s.heap.get? a=some o
 cls:o.cls=.type "list" \/∃c oc cd,o.cls=.ref c/\s.heap.get? c=some oc/\oc.data=.cls cd/\cd.mro.isEmpty=false/\cd.mro.contains (.type "list")=true
def ve{M:Model}{A:Around}{E:Value->Shared->Prop}{s:Shared}{a:Addr}{o:Obj}(h:IsL s a o){Q:Bool->Shared->Prop}(hQ:Q true s) :
  wpAny M A (isInstance (.ref a) (.type "list")) Q E s:=by
 rcases h.cls with hc|⟨c,oc,cd,hc,hC,hd,hm,hl⟩
 ·exact wpAny_isInstance (T:= "list") (b:=true) ⟨o,h.get,hc⟩ AutoSeq1.sub_list_list hQ
 ·unfold isInstance
  refine wpAny_bind ?_
  show wpAny M A (loadPart a (some headPart) >>= λo=>pure o.cls) _ _ _
  refine wpAny_bind (wpAny_loadPart h.get (wpAny_pure ?_))
  rw[hc]
  unfold isSubtype
  refine wpAny_bind ?_
  show wpAny M A (classData c >>= λd=>pure d.mro) _ _ _
  have key:∀{Q':ClassData->Shared->Prop},Q' cd s->wpAny M A (classData c) Q' E s:=λhq=>by
   unfold classData
   refine wpAny_bind (wpAny_load hC ?_)
   rw[hd];exact wpAny_pure hq
  refine wpAny_bind (key (wpAny_pure ?_))
  dsimp only
  rw[hm]
  simp only[Bool.false_eq_true,if_false]
  rw[hl];exact wpAny_pure hQ
def wI{w:World}{prog:Program}{A:Around}{s:Shared}{R:Result->Shared->Prop}{id n:String}{b:Builtin}{a:Addr}{o:Obj}{rest:List Value}
  (hk:builtinKind id=some .slot\/builtinKind id=some .method) (hs:splitId id=some ("list", n)) (hq:plainId id=true) (hb:entryFor table id=some b)
  (ha:argsOk id ⟨.ref a::rest,[]⟩) (hL:IsL s a o)
  (h:wpAny (model prog w) A.in1 (b ⟨.ref a::rest,[]⟩) (λfin s'=>match fin with | .done f=>R (.ok f) s' | .again c'=>c'.quiet=true/\codeAny (model prog w) A c' R s') (λe s'=>R (.error e) s') s) :
  codeAny (model prog w) A (.call (.builtin id) ⟨.ref a::rest,[]⟩) R s:=by
 refine codeAny_call_builtin hq hb ?_
 rcases hk with hk|hk <;>
 ·simp only[checkBuiltinCall,hk,hs]
  refine wpAny_bind (ve hL ?_)
  simp only[Bool.not_true,Bool.false_eq_true,if_false]
  cases hsig:Manifest.signature? id with
  |none=>exact wpAny_pure h
  |some sig=>
   simp only[argsOk,hsig] at ha
   show wpAny _ _ (Bind.checkArgs id sig ⟨.ref a::rest,[]⟩) _ _ s
   rw[ha];exact wpAny_pure h
def Eff.none{s:Shared}{tk:Nat}{objs gs}:Eff s { s with toks:=tk } objs gs [] [] []:=
 ⟨λ_ _ h _=>h,λp hp=>by simp at hp,λp hp=>by simp at hp,List.nodup_nil,λ_ _ h _=>h,id,rfl⟩
theorem Eff.push{s:Shared}{tk:Nat}{objs gs}{o:Obj}(ho:o.isFreed=false):Eff s { s with heap:=s.heap.push o,toks:=tk } objs gs [] [s.heap.objs.size] [o]:=
 ⟨λ_ _ h _=>Heap.get?_push_of_some _ h,λp hp=>by simp at hp,λp hp=>by
  simp only[List.zip_cons_cons,List.zip_nil_right,List.mem_singleton] at hp
  subst hp;exact Heap.get?_push_size _ ho,by simp,λ_ _ h _=>h,id,rfl⟩
def Eff.push2{s:Shared}{tk:Nat}{objs gs}{o o':Obj}(ho:o.isFreed=false)(ho':o'.isFreed=false) :
  Eff s { s with heap:=(s.heap.push o).push o',toks:=tk } objs gs [] [s.heap.objs.size,s.heap.objs.size+1] [o,o']:=
 ⟨λ_ _ h _=>Heap.get?_push_of_some _ (Heap.get?_push_of_some _ h),λp hp=>by simp at hp,λp hp=>by
  simp only[List.zip_cons_cons,List.zip_nil_right,List.mem_cons,List.not_mem_nil,or_false] at hp
  rcases hp with rfl|rfl
  ·exact Heap.get?_push_of_some _ (Heap.get?_push_size _ ho)
  ·have h:=Heap.get?_push_size (s.heap.push o) ho'
   rw[Heap.size_push] at h;exact h,by simp,λ_ _ h _=>h,id,rfl⟩
def Eff.upd{s:Shared}{tk:Nat}{a:Addr}{o o':Obj}{f:Obj->Obj}{more gs}(hg:s.heap.get? a=some o)(hf:f o=o')(ho:o'.isFreed=false) :
  Eff s { s with heap:=s.heap.update a f,toks:=tk } ((a,o)::more) gs [o'] [] []:=
 ⟨λx o' h q=>by
  show (s.heap.update a f).get? x=_
  rw[Heap.get?_update_other _ _ (q (a,o) (by simp))];exact h,λp hp=>by
  simp only[List.map_cons,List.zip_cons_cons,List.zip_nil_right,List.mem_singleton] at hp
  subst hp
  intro _
  show (s.heap.update a f).get? a=_
  rw[Heap.get?_update_self f hg (by rw[hf];exact ho),hf],λp hp=>by simp at hp,List.nodup_nil,λ_ _ h _=>h,id,rfl⟩
def Eff.upd_push2{s:Shared}{tk:Nat}{a:Addr}{o o' o1 o2:Obj}{f:Obj->Obj}{more gs}(hg:s.heap.get? a=some o)(hf:f o=o')(ho:o'.isFreed=false)(h1:o1.isFreed=false)(h2:o2.isFreed=false) :
  Eff s { s with heap:=((s.heap.update a f).push o1).push o2,toks:=tk } ((a,o)::more) gs [o'] [s.heap.objs.size,s.heap.objs.size+1] [o1,o2]:=
 ⟨λx o' h q=>by
  refine Heap.get?_push_of_some _ (Heap.get?_push_of_some _ ?_)
  rw[Heap.get?_update_other _ _ (q (a,o) (by simp))];exact h,λp hp=>by
  simp only[List.map_cons,List.zip_cons_cons,List.zip_nil_right,List.mem_singleton] at hp
  subst hp
  intro _
  refine Heap.get?_push_of_some _ (Heap.get?_push_of_some _ ?_)
  rw[Heap.get?_update_self f hg (by rw[hf];exact ho),hf],λp hp=>by
  simp only[List.zip_cons_cons,List.zip_nil_right,List.mem_cons,List.not_mem_nil,or_false] at hp
  rcases hp with rfl|rfl
  ·have h:=Heap.get?_push_size (s.heap.update a f) h1
   rw[Heap.size_update] at h
   exact Heap.get?_push_of_some _ h
  ·have h:=Heap.get?_push_size ((s.heap.update a f).push o1) h2
   rw[Heap.size_push,Heap.size_update] at h;exact h,by simp,λ_ _ h _=>h,id,rfl⟩
noncomputable def tyB:Value->Bool
 | .type _=>true
 | _=>false
noncomputable def cdO(o:Obj):ClassData:=match o.data with
 | .cls c=>c
 | _=>default
def mrL(l:List Value):List Value:=.ref (rfV (vAt l 0))::.type "list" ::l.tail.tail
def isLB(cls:Value)(more:zb):Lg × zb:=match tyB cls with
 |true=>([(.v cls,.v (.type "list"))],more)
 |false=>([(.v cls,.v (.ref (obA more 0))),(.o (obO more 0),.o ⟨(obO more 0).cls,(obO more 0).dict,.cls (cdO (obO more 0)),(obO more 0).slots⟩),(.lv (cdO (obO more 0)).mro,.lv (mrL (cdO (obO more 0)).mro))],more.tail)
def W4{l:List Value}(h:l=mrL l):l.isEmpty=false/\l.contains (.type "list")=true:=by
 rw[h];exact⟨rfl,by simp[mrL]⟩
def XO{s:Shared}{a:Addr}{o:Obj}{more:zb}(hl:Lg.Ok [(.v o.cls,.v (.ref (obA more 0))),(.o (obO more 0),.o ⟨(obO more 0).cls,(obO more 0).dict,.cls (cdO (obO more 0)),(obO more 0).slots⟩),(.lv (cdO (obO more 0)).mro,.lv (mrL (cdO (obO more 0)).mro))])(hg:s.heap.get? a=some o)(hm:∀p∈more,s.heap.get? p.1=some p.2) :
  IsL s a o/\∀p∈more.tail,s.heap.get? p.1=some p.2:=by
 have h2:=congrArg Obj.data (LV.o.inj (hl _ (.tail _ (.head _))))
 have h3:=W4 (LV.lv.inj (hl _ (.tail _ (.tail _ (.head _)))))
 cases more with
 |nil=>cases h2
 |cons p r=>exact⟨⟨hg,.inr ⟨_,_,_,LV.v.inj (hl _ (.head _)),hm p (.head _),h2,h3.1,h3.2⟩⟩,λq hq=>hm q (.tail _ hq)⟩
def To{s:Shared}{a:Addr}{o:Obj}{more:zb}{b:Bool}(hb:tyB o.cls=b)(hl:Lg.Ok (isLB o.cls more).1)(hg:s.heap.get? a=some o)(hm:∀p∈more,s.heap.get? p.1=some p.2) :
  IsL s a o/\∀p∈(isLB o.cls more).2,s.heap.get? p.1=some p.2:=by
 unfold isLB at hl ⊢
 rw[hb] at hl ⊢
 cases b with
 |true=>exact⟨⟨hg,.inl (LV.v.inj (hl _ (.head _)))⟩,hm⟩
 |false=>exact XO hl hg hm
structure LUt where
 val:Value
 self:Option Data
 news:List Obj
noncomputable def selfPost(o:Obj):Option Data->List Obj
 |some dt=>[⟨o.cls,o.dict,dt,o.slots⟩]
 |none=>[]
def lxR{M:Type}(id:String)(R:M->List Value)(dc:M->zb)(pc:M->Array Value->Lg)(out:M->Array Value->List Addr->Ch->LUt)(c:Code)(p:Addr × Obj)(z:Lg × zb)(xs:List Addr)(t:Ch)(u:M):Option ExtOut:=(zipLg z.2 (dc u)).map λl=>⟨.ok (.ret (out u (sqO p.2) xs t).val),selfPost p.2 (out u (sqO p.2) xs t).self,(out u (sqO p.2) xs t).news,
   (.c c,.c (.call (.builtin id) ⟨.ref p.1::R u,[]⟩))::(.o p.2,.o ⟨p.2.cls,p.2.dict,.seq (sqO p.2) (epO p.2),p.2.slots⟩)::(z.1++l),pc u (sqO p.2)⟩
def lx{M:Type}(id:String)(m k:Nat)(rd:List Value->zb->M)(R:M->List Value)(dc:M->zb)(pc:M->Array Value->Lg)(out:M->Array Value->List Addr->Ch->LUt):Ext:=
 ⟨m,λ_=>k,false,λ_ c _ objs _ xs t=>match objs with
  |[]=>none
  |p::more=>lxR id R dc pc out c p (isLB p.2.cls more) xs t (rd (argC c).tail (isLB p.2.cls more).2)⟩
inductive LxE (prog:Program) (w:World) (A:Around) (s:Shared) (a:Addr) (o:Obj) (rest:List Value) (id:String) (b:Builtin) (k:Nat) (out:List Addr->Ch->LUt):Prop
 |mk (xs:List Addr) (t:Ch) (s':Shared) (hx:xs.length=k) (hf:∀y∈xs,s.heap.objs.size<=y) (ha:argsOk id ⟨.ref a::rest,[]⟩)
  (hw:wpAny (model prog w) A (b ⟨.ref a::rest,[]⟩) (λfin s₁=>fin=.done (.ret (out xs t).val)/\s₁=s') (λ_ _=>False) s) (he:∀more gs,Eff s s' ((a,o)::more) gs (selfPost o (out xs t).self) xs (out xs t).news)
def WP{w:World}{M:Type}{k:Nat}{R:M->List Value}{dc:M->zb}{pc:M->Array Value->Lg}{out:M->Array Value->List Addr->Ch->LUt}{id:String}{nm:String}{b:Builtin}
  (hk:builtinKind id=some .slot\/builtinKind id=some .method) (hsp:splitId id=some ("list", nm)) (hq:plainId id=true) (hb:entryFor table id=some b) {prog:Program} {s:Shared} {wh:List (Code × Pos)} {u:M}
  (H:∀(A:Around) (a:Addr) (cls:Value) (dd:Option Addr) (vs:Array Value) (ep:Nat) (sl:Array (Option Value)),IsL s a ⟨cls,dd,.seq vs ep,sl⟩->(∀p∈dc u,s.heap.get? p.1=some p.2)->Lg.Ok (pc u vs)->
   LxE prog w A s a ⟨cls,dd,.seq vs ep,sl⟩ (R u) id b k (out u vs)) {c:Code} {p:Addr × Obj} {more:zb} {z:Lg × zb} {gs:zk} (hB:Lg.Ok z.1->IsL s p.1 p.2/\∀q∈z.2,s.heap.get? q.1=some q.2) :
  ∃xs t,xs.length=k/\(∀y∈xs,s.heap.objs.size<=y)/\∀r,lxR id R dc pc out c p z xs t u=some r->Lg.Ok r.lg->Lg.Ok r.pc->∃s',codeAny (model prog w) (aroundOf wh) c (λres s₁=>res=r.res/\s₁=s') s/\Eff s s' (p::more) gs r.posts xs r.news:=by
 refine cps λGo hGo=>?_
 by_cases hh:c=.call (.builtin id) ⟨.ref p.1::R u,[]⟩/\p.2=⟨p.2.cls,p.2.dict,.seq (sqO p.2) (epO p.2),p.2.slots⟩/\z.2=dc u/\Lg.Ok z.1/\Lg.Ok (pc u (sqO p.2))
 ·obtain⟨hc,ho,hO,hlg,hp⟩:=hh
  obtain⟨hL,hOk⟩:=hB hlg
  rw[ho] at hL
  obtain⟨xs,t,s',hx,hf,ha,hw,he⟩:=H (aroundOf wh).in1 p.1 p.2.cls p.2.dict (sqO p.2) (epO p.2) p.2.slots hL (λq hq=>hOk q (by rw[hO];exact hq)) hp
  have he:=he more gs
  have hA:codeAny (model prog w) (aroundOf wh) (.call (.builtin id) ⟨.ref p.1::R u,[]⟩) (λres s₁=>res=.ok (.ret (out u (sqO p.2) xs t).val)/\s₁=s') s:=wI hk hsp hq hb ha hL (wpAny_mono hw (λfin s₁ h=>by obtain⟨rfl,rfl⟩:=h;exact⟨rfl,rfl⟩) λ_ _ h=>h.elim)
  rw[<-ho] at he
  rw[<-hc] at hA
  exact hGo ⟨xs,t,hx,hf,λr hr _ _=>(Option.map_eq_some_iff.mp (show (zipLg z.2 (dc u)).map _=some r from hr)).elim λl q=>q.2▸⟨s',hA,he⟩⟩
 ·exact hGo ⟨freshA s.heap.objs.size k,.of 0,yc _ _,λ_=>yq,λr hr hl hp=>(Option.map_eq_some_iff.mp (show (zipLg z.2 (dc u)).map _=some r from hr)).elim λl q=>absurd
   ⟨LV.c.inj (hl (.c c,_) (q.2▸.head _)),LV.o.inj (hl (.o p.2,_) (q.2▸.tail _ (.head _))),yf q.1 λx hx=>hl x (q.2▸.tail _ (.tail _ (List.mem_append_right _ hx))),λx hx=>hl x (q.2▸.tail _ (.tail _ (List.mem_append_left _ hx))),(q.2▸hp :)⟩ hh⟩
def un{w:World}{tl:zb}{M:Type}{m k:Nat}{rd:List Value->zb->M}{R:M->List Value}{dc:M->zb}{pc:M->Array Value->Lg}{out:M->Array Value->List Addr->Ch->LUt}{id:String}(nm:String){b:Builtin}
  (hk:builtinKind id=some .slot\/builtinKind id=some .method) (hsp:splitId id=some ("list", nm)) (hq:plainId id=true) (hb:entryFor table id=some b)
  (H:∀(prog:Program) (A:Around) (s:Shared) (u:M) (a:Addr) (cls:Value) (dd:Option Addr) (vs:Array Value) (ep:Nat) (sl:Array (Option Value)),IsL s a ⟨cls,dd,.seq vs ep,sl⟩->(∀p∈dc u,s.heap.get? p.1=some p.2)->Lg.Ok (pc u vs)->
   LxE prog w A s a ⟨cls,dd,.seq vs ep,sl⟩ (R u) id b k (out u vs)):LeafOk w tl (lx id m k rd R dc pc out):=by
 intro prog s d c wh objs gs _ hg _ _
 cases objs with
 |nil=>exact⟨freshA s.heap.objs.size k,.of 0,yc _ _,λ_=>yq,λr hr=>zr hr⟩
 |cons p more=>exact WP hk hsp hq hb (λA=>H prog A s _) λhl=>To rfl hl (hg _ (.head _)) λq hq=>hg q (.tail _ hq)
def zI:1000 < sizeLine:=by rw[sizeLine_eq];decide
noncomputable def small(n:Nat):LV × LV:=(.b (decide (n<=1000)),.b true)
def zW{n:Nat}{l:Lg}(h:Lg.Ok l)(hm:small n∈l):n<=sizeLine:=by
 have:=of_decide_eq_true (LV.b.inj (h _ hm))
 have:=zI
 lia
def zh{s:Shared}:∀y∈([]:List Addr),s.heap.objs.size<=y:=λy hy=>by cases hy
def zK{s:Shared}:∀y∈[s.heap.objs.size],s.heap.objs.size<=y:=λy hy=>by
 rw[List.mem_singleton] at hy;subst hy;exact Nat.le_refl _
def xAppend(m:Nat):Ext:=lx "list.append" m 0 (λr l=>(vAt r 0,l)) (λu=>[u.1]) (λu=>u.2) (λ_ vs=>[small vs.size]) (λu vs _ t=>⟨.none,some (.seq (vs.push u.1) (t.tok 0)),[]⟩)
def zm{w:World}{tl:zb}{m:Nat}:LeafOk w tl (xAppend m):=by
 refine un "append" (.inr (by decide +kernel)) (by decide +kernel) (by decide +kernel) entry_list_append ?_
 intro prog A s u a cls dd vs ep sl hL _ hp
 have hsz:=zW hp (.head _)
 refine⟨[],.of (ep+1),{ s with heap:=s.heap.update a (Obj.mapSeq (·.push u.1)) },rfl,zh,args_list_append _ _,?_,λmore gs=>Eff.upd (tk:=s.toks) hL.get (by simp[Obj.mapSeq,Ch.of]) rfl⟩
 show wpAny _ _ (updateSeq a (·.push u.1) >>= λ_=>ret .none) _ _ s
 exact wpAny_bind (wpAny_updateSeq hL.get rfl (wpAny_pure ⟨rfl,rfl⟩) hsz (by rw[Array.size_push];lia))
noncomputable def pyAt(vs:Array Value)(k:Int):Option Value:=(seqIndex? k vs.size).bind (vs[·]?)
noncomputable def near(k:Int):LV × LV:=(.b (decide (-1000<=k) && decide (k<=1000)),.b true)
def YB{k:Int}{l:Lg}(h:Lg.Ok l)(hm:near k∈l):Builtin.List.listFitsIndex k=true:=by
 have:=LV.b.inj (h _ hm)
 simp only[Bool.and_eq_true,decide_eq_true_eq] at this
 unfold Builtin.List.listFitsIndex
 simp only[Bool.and_eq_true,decide_eq_true_eq]
 lia
def xGet(m:Nat)(v:Value):Ext:=lx "list.__getitem__" m 0 (λr l=>(iV (vAt r 0),tkV (vAt r 0),l)) (λu=>[.int u.1 u.2.1]) (λu=>u.2.2) (λu vs=>[(.ov (pyAt vs u.1),.ov (some v)),near u.1]) (λ_ _ _ _=>⟨v,none,[]⟩)
def xj:builtinKind "list.__getitem__" = some .slot\/builtinKind "list.__getitem__" = some .method:=by first|exact .inl (by decide +kernel)|exact .inr (by decide +kernel)
def y7{w:World}{tl:zb}{m:Nat}{v:Value}:LeafOk w tl (xGet m v):=by
 refine un "__getitem__" xj (by decide +kernel) (by decide +kernel) entry_list_getitem ?_
 intro prog A s ⟨k,t0,_⟩ a cls dd vs ep sl hL _ hp
 have hv:pyAt vs k=some v:=LV.ov.inj (hp _ (.head _))
 have hf:=YB hp (.tail _ (.head _))
 refine⟨[],.of 0,s,rfl,zh,args_list_getitem _ _,?_,λmore gs=>Eff.none (tk:=s.toks)⟩
 show wpAny _ _ (Builtin.List.listSubscript? (.int k t0) >>= _) _ _ s
 refine wpAny_bind (wpAny_listSubscript_int hf ?_)
 cases k with
 |ofNat n=>
  have hn:vs[n]?=some v:=by
   unfold pyAt seqIndex? at hv
   simp only[Int.ofNat_eq_natCast] at hv
   rw[if_neg (show ¬((n:Int) < 0) by lia)] at hv
   by_cases hlt:n < vs.size
   ·rw[if_pos (by simp;lia)] at hv
    simpa using hv
   ·rw[if_neg (by simp;lia)] at hv
    cases hv
  show wpAny _ _ ((seqItemAt a n >>= λr=>pure (r.map (n,·))) >>= _) _ _ s
  refine wpAny_bind (wpAny_bind (wpAny_seqItemAt hL.get rfl (wpAny_pure ?_)))
  rw[hn]
  first
   |exact wpAny_bind (wpAny_pure (wpAny_pure ⟨rfl,rfl⟩))
   |exact wpAny_pure ⟨rfl,rfl⟩
 |negSucc n=>
  show wpAny _ _ ((Builtin.List.listItems (.ref a) >>= λxs=>pure ((seqIndex? (Int.negSucc n) xs.size).bind λj=>xs[j]?.map (j,·))) >>= _) _ _ s
  refine wpAny_bind (wpAny_bind ?_)
  unfold Builtin.List.listItems
  refine wpAny_bind (wpAny_seqItems hL.get rfl (wpAny_pure (wpAny_pure ?_)))
  unfold pyAt at hv
  cases hi:seqIndex? (Int.negSucc n) vs.size with
  |none=>rw[hi] at hv;cases hv
  |some j=>
   rw[hi] at hv
   have hj:vs[j]?=some v:=hv
   simp only[Option.bind_some,hj,Option.map_some]
   first
    |exact wpAny_bind (wpAny_pure (wpAny_pure ⟨rfl,rfl⟩))
    |exact wpAny_pure ⟨rfl,rfl⟩
noncomputable def parT(v:Value):Option (Int × Tok):=match v with
 | .int i t=>some (i,t)
 | _=>none
noncomputable def parV(o:Option (Int × Tok)):Value:=match o with
 |some p=>.int p.1 p.2
 |none=>.none
noncomputable def parI(o:Option (Int × Tok)):Option Int:=match o with
 |some p=>some p.1
 |none=>none
def vh(o:Option (Int × Tok)):IsPart (parV o) (parI o):=match o with
 |some p=>.int p.1 p.2
 |none=>.none
structure SlM where
 z:Addr
 dd:Option Addr
 lo:Option (Int × Tok)
 hi:Option (Int × Tok)
 sl:Array (Option Value)
def SlM.o(u:SlM):Addr × Obj:=(u.z,⟨.type "slice", u.dd,.fields #[parV u.lo,parV u.hi,.none],u.sl⟩)
def rdSl(l:zb):SlM:=⟨obA l 0,(obO l 0).dict,parT (vAt (flO (obO l 0)) 0),parT (vAt (flO (obO l 0)) 1),(obO l 0).slots⟩
def yi{M:Model}{A:Around}{E:Value->Shared->Prop}{s:Shared}{sl:Addr}{os:Obj}{vl vu:Value}{lo hi:Option Int}{Q:Value × Value × Value->Shared->Prop}(hos:s.heap.get? sl=some os)
  (hds:os.data=.fields #[vl,vu,.none]) (pl:IsPart vl lo) (pu:IsPart vu hi) (h:Q (rawPart lo,rawPart hi,.none) s):wpAny M A (Builtin.List.listSliceParts (.ref sl)) Q E s:=by
 rw[listSliceParts_eq]
 refine wpAny_bind (wpAny_field hos hds (x:=.none) rfl (wpAny_bind (wpAny_listPart .none ?_)))
 rw[if_neg (show ¬((rawPart none==rawInt 0)=true) from Bool.false_ne_true)]
 refine wpAny_bind (wpAny_field hos hds (x:=vl) rfl (wpAny_bind (wpAny_listPart pl ?_)))
 exact wpAny_bind (wpAny_field hos hds (x:=vu) rfl (wpAny_bind (wpAny_listPart pu (wpAny_pure h))))
def xGetS(m:Nat)(ys:Array Value):Ext:=lx "list.__getitem__" m 1 (λ_ l=>(rdSl l,l.tail)) (λu=>[.ref u.1.z]) (λu=>u.1.o::u.2)
 (λu vs=>[(.a (slicePick vs (parI u.1.lo) (parI u.1.hi) none),.a ys),small vs.size]) (λ_ _ xs _=>⟨.ref (xs.headD 0),none,[⟨.type "list", none,.seq ys 0,#[]⟩]⟩)
def yh{w:World}{tl:zb}{m:Nat}{ys:Array Value}:LeafOk w tl (xGetS m ys):=by
 refine un "__getitem__" xj (by decide +kernel) (by decide +kernel) entry_list_getitem ?_
 intro prog A s ⟨⟨z,dz,vl,vu,sz⟩,_⟩ a cls dd vs ep sl hL hO hp
 have hy:slicePick vs (parI vl) (parI vu) none=ys:=LV.a.inj (hp _ (.head _))
 have hsz:=zW hp (.tail _ (.head _))
 have hlo:=vh vl
 have hhi:=vh vu
 have hos:=hO _ (.head _)
 unfold SlM.o at hos
 dsimp only at hos
 generalize parI vl=lo at *
 generalize parI vu=hi at *
 have hTs:s.TypeIs (.ref z) "slice" :=⟨_,hos,rfl⟩
 refine⟨[s.heap.objs.size],.of 0,{ s with heap:=s.heap.push { cls:=.type "list", data:=.seq ys } },rfl,zK,args_list_getitem _ _,?_,λmore gs=>Eff.push (tk:=s.toks) rfl⟩
 show wpAny _ _ (Builtin.List.listSubscript? (.ref z) >>= _) _ _ s
 refine wpAny_bind ?_
 unfold Builtin.List.listSubscript?
 refine wpAny_bind (wpAny_specialOf hTs slice_no_index ?_)
 simp only[Option.isNone_none,if_true]
 refine wpAny_pure ?_
 show wpAny _ _ (typeOf (.ref z) >>= _) _ _ s
 refine wpAny_bind (wpAny_typeOf hTs ?_)
 rw[if_neg (by decide)]
 refine wpAny_bind (yi hos rfl hlo hhi ?_)
 refine wpAny_bind (m:=Builtin.List.listItems (.ref a)) ?_
 unfold Builtin.List.listItems
 refine wpAny_bind (wpAny_seqItems hL.get rfl (wpAny_pure ?_))
 refine wpAny_bind (wpAny_of_eq (sliceIndices_raw lo hi none vs.size (by simp)) ?_)
 refine wpAny_bind (wpAny_newObj_type (wpAny_pure ⟨rfl,?_⟩) (Nat.le_trans (slicePick_size_le vs lo hi none) hsz))
 rw[<-hy];rfl
noncomputable def setPick(vs new:Array Value)(lo hi:Option Int):Array Value:=
 vs.extract 0 (sliceBounds lo hi none vs.size).1.toNat++new++vs.extract (max (sliceBounds lo hi none vs.size).1 (sliceBounds lo hi none vs.size).2.1).toNat vs.size
structure SsM where
 S:SlM
 v:Addr
 dd:Option Addr
 new:Array Value
 ep:Nat
 sl:Array (Option Value)
def xSetS(m:Nat)(ys:Array Value):Ext:=lx "list.__setitem__" m 0 (λ_ l=>(⟨rdSl l,obA l 1,(obO l 1).dict,sqO (obO l 1),epO (obO l 1),(obO l 1).slots⟩:SsM)) (λu=>[.ref u.S.z,.ref u.v]) (λu=>[u.S.o,(u.v,⟨.type "list", u.dd,.seq u.new u.ep,u.sl⟩)])
 (λu vs=>[(.a (setPick vs u.new (parI u.S.lo) (parI u.S.hi)),.a ys),small vs.size,small u.new.size,small ys.size]) (λ_ _ _ t=>⟨.none,some (.seq ys (t.tok 0)),[]⟩)
def xi:builtinKind "list.__setitem__" = some .slot\/builtinKind "list.__setitem__" = some .method:=by first|exact .inl (by decide +kernel)|exact .inr (by decide +kernel)
def vN{w:World}{tl:zb}{m:Nat}{ys:Array Value}:LeafOk w tl (xSetS m ys):=by
 refine un "__setitem__" xi (by decide +kernel) (by decide +kernel) entry_list_setitem ?_
 intro prog A s ⟨⟨z,dz,vl,vu,sz⟩,v,dv,new,epv,slv⟩ a cls dd vs ep sl hL hO hp
 have hy:setPick vs new (parI vl) (parI vu)=ys:=LV.a.inj (hp _ (.head _))
 have hsz:=zW hp (.tail _ (.head _))
 have hsy:=zW hp (.tail _ (.tail _ (.tail _ (.head _))))
 have hz1:vs.size<=1000:=of_decide_eq_true (LV.b.inj (hp _ (.tail _ (.head _))))
 have hz2:new.size<=1000:=of_decide_eq_true (LV.b.inj (hp _ (.tail _ (.tail _ (.head _)))))
 have hlo:=vh vl
 have hhi:=vh vu
 have hos:=hO _ (.head _)
 unfold SlM.o at hos
 dsimp only at hos
 generalize parI vl=lo at *
 generalize parI vu=hi at *
 have hov:=hO _ (.tail _ (.head _))
 have hTs:s.TypeIs (.ref z) "slice" :=⟨_,hos,rfl⟩
 have hTv:s.TypeIs (.ref v) "list" :=⟨_,hov,rfl⟩
 refine⟨[],.of (if ys.size==vs.size then ep else ep+1),{ s with heap:=s.heap.update a (Obj.mapSeq λxs=>xs.extract 0 (sliceBounds lo hi none vs.size).1.toNat++new++xs.extract (max (sliceBounds lo hi none vs.size).1 (sliceBounds lo hi none vs.size).2.1).toNat xs.size) },rfl,zh,args_list_setitem _ _ _,?_,λmore gs=>Eff.upd (tk:=s.toks) hL.get (by
  rw[<-hy];rfl) rfl⟩
 show wpAny _ _ (Builtin.List.listSubscript? (.ref z) >>= _) _ _ s
 refine wpAny_bind ?_
 unfold Builtin.List.listSubscript?
 refine wpAny_bind (wpAny_specialOf hTs slice_no_index ?_)
 simp only[Option.isNone_none,if_true]
 refine wpAny_pure ?_
 show wpAny _ _ (typeOf (.ref z) >>= _) _ _ s
 refine wpAny_bind (wpAny_typeOf hTs ?_)
 rw[if_neg (by decide)]
 refine wpAny_bind (yi hos rfl hlo hhi ?_)
 have hi':∀{Q:Array Value->Shared->Prop} {E:Value->Shared->Prop},Q new s->wpAny (model prog w) A (Builtin.List.listItems (.ref v)) Q E s:=λ{Q E} hq=>by
  unfold Builtin.List.listItems
  exact wpAny_bind (wpAny_seqItems hov rfl (wpAny_pure hq))
 have hall:∀{msg:String} {Q:Array Value->Shared->Prop} {E:Value->Shared->Prop},Q new s->wpAny (model prog w) A (Builtin.List.listAllItems (.ref v) msg) Q E s:=λ{msg Q E} hq=>by
  unfold Builtin.List.listAllItems
  refine wpAny_bind (wpAny_typeOf hTv ?_)
  rw[if_pos (by decide)]
  exact hi' hq
 have h1:(sliceBounds lo hi none vs.size).2.2=1:=rfl
 split
 all_goals
  first
   |refine wpAny_bind (hi' ?_)
   |refine wpAny_bind (hall ?_)
  refine wpAny_bind (m:=Builtin.List.listItems (.ref a)) ?_
  unfold Builtin.List.listItems
  refine wpAny_bind (wpAny_seqItems hL.get rfl (wpAny_pure ?_))
  refine wpAny_bind (wpAny_of_eq (sliceIndices_raw lo hi none vs.size (by simp)) ?_)
  rw[if_pos (by rw[h1];rfl)]
  refine wpAny_bind (wpAny_rule ?_)
  rw[if_neg (by
   unfold Builtin.List.listTooLong
   rw[sizeLine_eq]
   simp only[decide_eq_true_eq]
   lia)]
  refine wpAny_bind (wpAny_updateSeq hL.get rfl ?_ hsz (Nat.le_trans (Nat.le_of_eq (show _=ys.size from congrArg Array.size hy)) (Nat.le_succ_of_le hsy)))
  refine wpAny_bind (wpAny_letGo ?_)
  exact wpAny_pure ⟨rfl,rfl⟩
def xo{prog:Program}{w:World}{wh:List (Code × Pos)}{id T:String}{nm:Str}{b:Builtin}{a:Addr}{o:Obj}{rest:List Value}{r:Result}{s s':Shared}(slot:Slot T nm id)(hb:entryFor table id=some b)
  (ha:s.heap.get? a=some o) (hT:o.cls=.type T) (hargs:argsOk id ⟨.ref a::rest,[]⟩)
  (h:wpAny (model prog w) (aroundOf wh).in1 (b ⟨.ref a::rest,[]⟩) (λfin s₁=>∃f,fin=.done f/\r=.ok f/\s₁=s') (λe s₁=>r=.error e/\s₁=s') s) :
  codeAny (model prog w) (aroundOf wh) (.call (.builtin id) ⟨.ref a::rest,[]⟩) (λres s₁=>res=r/\s₁=s') s:=
 codeAny_call_builtin slot.plain hb (slot.check _ _ _ _ _ _ _ _ ⟨_,ha,hT⟩ hargs (wpAny_mono h (λ_ _ h=>by obtain⟨f,rfl,e,rfl⟩:=h;exact⟨e.symm,rfl⟩) λ_ _ h=>⟨h.1.symm,h.2⟩))
noncomputable def tup0:Obj:=⟨.type "tuple", none,.seq #[] 0,#[]⟩
noncomputable def stopO(a:Addr):Obj:=⟨.type "StopIteration", none,.fields (#[.ref a,.none,.none,.none,.bool false,.none]++ownMembersOf (.type "StopIteration") []),#[]⟩
def ym{s:Shared}:∀y∈[s.heap.objs.size,s.heap.objs.size+1],s.heap.objs.size<=y:=λy hy=>by
 simp only[List.mem_cons,List.not_mem_nil,or_false] at hy
 rcases hy with rfl|rfl<;>lia
def xS{M:Model}{wh:List (Code × Pos)}{s:Shared}{Q:PySem.Fin->Shared->Prop}{E:Value->Shared->Prop}(h:E (.ref (s.heap.objs.size+1)) { s with heap:=(s.heap.push tup0).push (stopO s.heap.objs.size) }) :
  wpAny M (aroundOf wh).in1 (newExc (.type "StopIteration") [] >>= raiseNew) Q E s:=by
 refine wpAny_bind ?_
 simp only[newExc,newTuple]
 refine wpAny_bind (wpAny_newObj_type ?_ (by size_fits))
 refine wpAny_bind (m:=firstArgMember _ _) (wpAny_of_eq (a:=Value.none) (by first|rfl|(simp only[firstArgMember];rfl)) ?_)
 refine wpAny_newObj_type ?_ (by size_fits)
 simp only[raiseNew]
 refine wpAny_bind (wpAny_handled ?_)
 refine wpAny_bind (wpAny_pure (wpAny_throw ?_))
 have e:(s.heap.push { cls:=.type "tuple", data:=.seq ([]:List Value).toArray }).objs.size=s.heap.objs.size+1:=by simp
 refine(?_:E (.ref (s.heap.push { cls:=.type "tuple", data:=.seq ([]:List Value).toArray }).objs.size) _)
 rw[e]
 exact h
noncomputable def is1(d:Nat):Bool:=Nat.beq d 1
def k2(d:Nat):Nat:=match is1 d with
 |true=>0
 |false=>2
structure ItM where
 a:Addr
 dd:Option Addr
 i:Int
 ti:Tok
 sl:Array (Option Value)
 l:Addr
 cl:Value
 dl:Option Addr
 vs:Array Value
 ep:Nat
 sll:Array (Option Value)
noncomputable def ItM.it(u:ItM)(l:Value)(i:Int)(ti:Tok):Obj:=⟨.type "list_iterator", u.dd,.fields #[l,.int i ti],u.sl⟩
def xNext(m:Nat)(v:Value):Ext:=cnX (M:=ItM × zb) m k2 (λ_ _ l=>(⟨obA l 0,(obO l 0).dict,iV (vAt (flO (obO l 0)) 1),tkV (vAt (flO (obO l 0)) 1),(obO l 0).slots,obA l 1,(obO l 1).cls,(obO l 1).dict,sqO (obO l 1),epO (obO l 1),(obO l 1).slots⟩,l.tail.tail))
 (λ_ u=>.call (.builtin "list_iterator.__next__") ⟨[.ref u.1.a],[]⟩) (λ_ u=>(u.1.a,u.1.it (.ref u.1.l) u.1.i u.1.ti)::(u.1.l,⟨u.1.cl,u.1.dl,.seq u.1.vs u.1.ep,u.1.sll⟩)::u.2)
 (λd u=>[(.ov u.1.vs[u.1.i.toNat]?,.ov (match is1 d with|true=>some v|false=>none))]) (λd u xs _=>match is1 d with
  |true=>⟨.ok (.ret v),[u.1.it (.ref u.1.l) (u.1.i+1) 0],[]⟩
  |false=>⟨.error (.ref (xs.tail.headD 0)),[u.1.it .none u.1.i u.1.ti],[tup0,stopO (xs.headD 0)]⟩)
def yg{w:World}{tl:zb}{m:Nat}{v:Value}:LeafOk w tl (xNext m v):=by
 refine zt λprog s d ⟨⟨a,dd,i,ti,sl,l,cl,dl,vs,ep,sll⟩,_⟩ wh gs hg _ hp=>?_
 have ha:=hg _ (.head _)
 have hl':=hg _ (.tail _ (.head _))
 have hv:=LV.ov.inj (hp _ (.head _))
 unfold k2
 dsimp only at hv
 generalize is1 d=z at hv ⊢
 cases z with
 |true=>
  refine⟨[],.of 0,{ s with heap:=s.heap.update a (Obj.mapFields λfs=>fs.setIfInBounds 1 (rawInt (i+1))) },rfl,zh,xo slot_listiter_next entry_listiter_next ha rfl (args_listiter_next _) ?_,Eff.upd (tk:=s.toks) ha (by simp[Obj.mapFields,rawInt,ItM.it]) rfl⟩
  show wpAny _ _ (field (.ref a) 0 >>= _) _ _ s
  refine wpAny_bind (wpAny_field ha rfl (x:=.ref l) rfl ?_)
  show wpAny _ _ (if (Value.ref l==Value.none)=true then _ else _) _ _ s
  rw[if_neg (show ¬((Value.ref l==Value.none)=true) from Bool.false_ne_true)]
  show wpAny _ _ (field (.ref a) 1 >>= _) _ _ s
  refine wpAny_bind (wpAny_field ha rfl (x:=.int i ti) rfl ?_)
  show wpAny _ _ (seqItems? (.ref l) >>= _) _ _ s
  refine wpAny_bind (wpAny_seqItems hl' rfl ?_)
  simp only[hv]
  exact wpAny_bind (wpAny_setField ha rfl (by simp[ItM.it]) (wpAny_pure ⟨_,rfl,rfl,rfl⟩))
 |false=>
  refine⟨[s.heap.objs.size,s.heap.objs.size+1],.of 0,{ s with heap:=((s.heap.update a (Obj.mapFields λfs=>fs.setIfInBounds 0 .none)).push tup0).push (stopO s.heap.objs.size) },rfl,ym,xo slot_listiter_next entry_listiter_next ha rfl (args_listiter_next _) ?_,
   Eff.upd_push2 (tk:=s.toks) ha (by simp[Obj.mapFields,ItM.it]) rfl rfl rfl⟩
  show wpAny _ _ (field (.ref a) 0 >>= _) _ _ s
  refine wpAny_bind (wpAny_field ha rfl (x:=.ref l) rfl ?_)
  show wpAny _ _ (if (Value.ref l==Value.none)=true then _ else _) _ _ s
  rw[if_neg (show ¬((Value.ref l==Value.none)=true) from Bool.false_ne_true)]
  show wpAny _ _ (field (.ref a) 1 >>= _) _ _ s
  refine wpAny_bind (wpAny_field ha rfl (x:=.int i ti) rfl ?_)
  show wpAny _ _ (seqItems? (.ref l) >>= _) _ _ s
  refine wpAny_bind (wpAny_seqItems hl' rfl ?_)
  simp only[hv]
  refine wpAny_bind (wpAny_rule (wpAny_bind (wpAny_setField ha rfl (by simp[ItM.it]) ?_)))
  refine xS ⟨?_,?_⟩
  ·simp
  ·simp
def IsSq(h:Heap)(a:Addr)(items:Array Value):Prop:=∃o n,h.get? a=some o/\o.data=.seq items n
def IsSq.at{h h':Heap}{a items}(x:IsSq h a items)(e:∀o,h.get? a=some o->h'.get? a=some o):IsSq h' a items:=let ⟨o,n,ho,r⟩:=x;⟨o,n,e _ ho,r⟩
def IsSq.extBut{h h':Heap}{a b items}(x:IsSq h a items)(hs:Heap.ExtBut b h h')(hab:a≠b):IsSq h' a items:=x.at λo e=>hs a o hab e
section
variable {prog:Program} {w:World} {A:Around} {E:Value->Shared->Prop} {s:Shared}
theorem YA{it l:Addr}{i:Nat}{items}{x:Value}{Q:Option Value->Shared->Prop}(hit:s.heap.IsListIter it l i)
  (hl:IsSq s.heap l items) (hx:items[i]?=some x)
  (hQ:∀h',h'.IsListIter it l (i+1)->Heap.SameBut it s.heap h'->Q (some x) { s with heap:=h' }) :
  wpAny (model prog w) A (pyNext (.ref it)) Q E s:=by
 obtain⟨o,ho,hc,hd⟩:=id hit
 obtain⟨ol,nl,hol,hdl⟩:=hl
 unfold pyNext
 refine wpAny_bind (wpAny_attempt (wpAny_callSpecial?_slot (name:=Str.ofString "__next__") hit.typeIs slot_listiter_next
  (wpAny_call_entry slot_listiter_next hit.typeIs entry_listiter_next ?_ (args_listiter_next _))))
 show wpAny _ _ (field (.ref it) 0 >>= _) _ _ s
 refine wpAny_bind (wpAny_field ho hd (x:=.ref l) rfl ?_)
 show wpAny _ _ (if (Value.ref l==Value.none)=true then _ else _) _ _ s
 rw[if_neg (show ¬((Value.ref l==Value.none)=true) from Bool.false_ne_true)]
 show wpAny _ _ (field (.ref it) 1 >>= _) _ _ s
 refine wpAny_bind (wpAny_field ho hd (x:=.int i 0) rfl ?_)
 show wpAny _ _ (seqItems? (.ref l) >>= _) _ _ s
 refine wpAny_bind (wpAny_seqItems hol hdl ?_)
 simp only[Int.toNat_natCast,hx]
 refine wpAny_bind (wpAny_setField ho hd (by simp) (wpAny_pure ⟨x,rfl,wpAny_pure (hQ _ ?_ (Heap.SameBut.update ..))⟩))
 exact⟨_,Heap.get?_update_self _ ho (Obj.isFreed_of_fields (Obj.data_mapFields hd _)),(Obj.cls_mapFields ..).trans hc,by
  rw[Obj.data_mapFields hd];simp[rawInt]⟩
theorem Xw{it l:Addr}{i:Nat}{items}{Q:Option Value->Shared->Prop}(hh:A.handled=none)
  (hit:s.heap.IsListIter it l i) (hl:IsSq s.heap l items) (hx:items[i]?=none)
  (hQ:∀h',Heap.ExtBut it s.heap h'->Q none { s with heap:=h' }):wpAny (model prog w) A (pyNext (.ref it)) Q E s:=by
 obtain⟨o,ho,hc,hd⟩:=id hit
 obtain⟨ol,nl,hol,hdl⟩:=hl
 unfold pyNext
 refine wpAny_bind (wpAny_attempt (wpAny_callSpecial?_slot (name:=Str.ofString "__next__") hit.typeIs slot_listiter_next
  (wpAny_call_entry slot_listiter_next hit.typeIs entry_listiter_next ?_ (args_listiter_next _))))
 show wpAny _ _ (field (.ref it) 0 >>= _) _ _ s
 refine wpAny_bind (wpAny_field ho hd (x:=.ref l) rfl ?_)
 show wpAny _ _ (if (Value.ref l==Value.none)=true then _ else _) _ _ s
 rw[if_neg (show ¬((Value.ref l==Value.none)=true) from Bool.false_ne_true)]
 show wpAny _ _ (field (.ref it) 1 >>= _) _ _ s
 refine wpAny_bind (wpAny_field ho hd (x:=.int i 0) rfl ?_)
 show wpAny _ _ (seqItems? (.ref l) >>= _) _ _ s
 refine wpAny_bind (wpAny_seqItems hol hdl ?_)
 simp only[Int.toNat_natCast,hx]
 refine wpAny_bind (wpAny_rule (wpAny_bind (wpAny_setField ho hd (by simp) ?_)))
 show wpAny _ _ (newExc (.type "StopIteration") [] >>= _) _ _ _
 refine wpAny_bind ?_
 simp only[newExc,newTuple]
 refine wpAny_bind (wpAny_newObj_type ?_ (by size_fits))
 refine wpAny_bind (m:=firstArgMember _ _) (wpAny_of_eq (a:=Value.none) (by first|rfl|(simp only[firstArgMember];rfl)) ?_)
 refine wpAny_newObj_type ?_ (by size_fits)
 simp only[raiseNew]
 refine wpAny_bind (wpAny_handled ?_)
 rw[show A.in1.handled=none from hh]
 refine wpAny_bind (wpAny_pure (wpAny_throw ?_))
 refine wpAny_bind (wpAny_isInstance (T:= "StopIteration") (b:=true) ⟨_,Heap.get?_push_size _ rfl,rfl⟩ isSubtype_stop ?_)
 exact wpAny_pure (hQ _ (((Heap.SameBut.update ..).extBut.push _).push _))
end
def Wt{prog:Program}{w:World}{A:Around}(hh:A.handled=none)(I ax:Addr)(hne:ax≠I)(items:Array Value)(Ts:Nat->Addr)(vals:Nat->Array Value)
  (hit:∀j,j < items.size->items[j]?=some (.ref (Ts j))) (hTI:∀j,j < items.size->Ts j≠I) :
  WalksU prog w A I (I::ax::(List.range items.size).map Ts) [I] items.size (λj v=>v=vals j)
   (λj h=>h.IsListIter I ax j/\IsSq h ax items/\∀k,k < items.size->h.IsTuple (Ts k) (vals k))
   (λj T h=>(j < items.size/\T=Ts j)/\h.IsListIter I ax (j+1)/\IsSq h ax items/\∀k,k < items.size->h.IsTuple (Ts k) (vals k)) where
 sub:=λb hb=>by simp at hb;simp[hb]
 frame:=λ_ _ _ st hk=>⟨st.1.at λo e=>hk I (by simp) o e,st.2.1.at λo e=>hk ax (by simp) o e,
  λk hk'=>(st.2.2 k hk').at λo e=>hk (Ts k) (List.mem_cons_of_mem _ (List.mem_cons_of_mem _ (List.mem_map.mpr ⟨k,List.mem_range.mpr hk',rfl⟩))) o e⟩
 item:=λi s Q E hi st hQ=>by
  refine YA st.1 st.2.1 (x:=.ref (Ts i)) (hit i hi) λh' hit' hs'=>?_
  have tup:∀k,k < items.size->h'.IsTuple (Ts k) (vals k):=λk hk'=>(st.2.2 k hk').extBut hs'.extBut (hTI k hk')
  exact hQ (Ts i) (vals i) h' s.toks rfl (tup i hi) ⟨⟨hi,rfl⟩,hit',st.2.1.extBut hs'.extBut hne,tup⟩ λb o hb e=>hs'.extBut b o (λh=>hb (by simp[h])) e
 go:=λ_ _ _ _ _ s Q _ hm hQ=>wpAny_letOwnedTupleGo_listiter hm.2.1 (hQ s.heap hm.2 λ_ _ _ e=>e)
 apart:=λj T _ hm hmem=>by
  rcases List.mem_cons.mp hmem with e|e
  ·exact hTI j hm.1.1 (hm.1.2▸e)
  ·cases e
 done:=λs Q E st hQ=>Xw hh st.1 st.2.1 (by simp) λh' he'=>hQ h' s.toks λb o hb e=>he' b o (λh=>hb (by simp[h])) e
 self:=λ_ _ _ _ st hQ=>wpAny_pyIter_listiter st.1 hQ
noncomputable def sLen:Str:=⟨#[108,101,110]⟩
noncomputable def sFws:Str:=⟨#[102,119,115]⟩
noncomputable def sPart:Str:=⟨#[112,97,114,116]⟩
noncomputable def sSelf:Str:=⟨#[115,101,108,102]⟩
noncomputable def sDot0:Str:=⟨#[46,48]⟩
noncomputable def sEmptyString:Str:=⟨#[69,77,80,84,89,83,84,82,73,78,71]⟩
noncomputable def sJoin:Str:=⟨#[106,111,105,110]⟩
def eltLen:Expr:=.BinOp (.Call (.Name sLen ⟨124,20,124,23⟩) [.Name sFws ⟨124,24,124,27⟩] [] ⟨124,20,124,28⟩) .Add (.Call (.Name sLen ⟨124,31,124,34⟩) [.Name sPart ⟨124,35,124,39⟩] [] ⟨124,31,124,40⟩) ⟨124,20,124,40⟩
def scLen:Scope:=⟨.function,[(sDot0,.local),(sFws,.local),(sPart,.local),(sLen,.globalImplicit)],true,false,[]⟩
def genLen:Expr:=.GeneratorExp eltLen [⟨.Tuple [.Name sFws ⟨124,45,124,48⟩,.Name sPart ⟨124,50,124,54⟩] 0 ⟨124,45,124,54⟩,.Name sSelf ⟨124,58,124,62⟩,[],0⟩] scLen ⟨124,19,124,63⟩
def eltStr:Expr:=.Call (.Attribute (.Name sEmptyString ⟨127,33,127,44⟩) sJoin ⟨127,33,127,49⟩) [.Tuple [.Name sFws ⟨127,51,127,54⟩,.Name sPart ⟨127,56,127,60⟩] 0 ⟨127,50,127,61⟩] [] ⟨127,33,127,62⟩
def scStr:Scope:=⟨.function,[(sDot0,.local),(sFws,.local),(sPart,.local),(sEmptyString,.globalImplicit)],true,false,[]⟩
def genStr:Expr:=.GeneratorExp eltStr [⟨.Tuple [.Name sFws ⟨127,67,127,70⟩,.Name sPart ⟨127,72,127,76⟩] 0 ⟨127,67,127,76⟩,.Name sSelf ⟨127,80,127,84⟩,[],0⟩] scStr ⟨127,32,127,85⟩
noncomputable def envGen(sc:Scope)(q:Str)(C:Addr)(cd:Value):Env:={ scope:=sc,locals:=C,globals:=3,cells:=[],qual:=q,func:=none,code:=cd,frame:=some C,builtins:=0 }
noncomputable def nsOf:Obj->Str->Option Value
 |⟨_,_,.dict es _,_⟩,x=>nsFind es x
 | _,_=>none
noncomputable def isSB:Value->Bool
 | .str _ _=>true
 | _=>false
def Vh{v:Value}(h:isSB v=true):∃n t,v=.str n t:=by
 cases v with
 |str n t=>exact⟨n,t,rfl⟩
 | _=>exact absurd h Bool.false_ne_true
noncomputable def strKeysB:List DictEntry->Bool
 |[]=>true
 |e::l=>isSB e.key && strKeysB l
theorem xG:∀{l:List DictEntry},strKeysB l=true->∀e∈l,∃n t,e.key=.str n t
 |[],_,_,h=>by cases h
 |e::l,h,x,hx=>by
  have h:=(Bool.and_eq_true_iff.mp h)
  rcases List.mem_cons.mp hx with rfl|hx
  ·exact Vh h.1
  ·exact xG h.2 x hx
def Zw{h:Heap}{a:Addr}{o:Obj}{es:Array DictEntry}{ep:Nat}(hg:h.get? a=some o)(hd:o.data=.dict es ep)(hk:strKeysB es.toList=true):h.Ns a (nsOf o):=by
 obtain⟨c,d,dt,sl⟩:=o
 subst hd
 exact⟨_,es,ep,hg,rfl,λe he=>xG hk e (Array.mem_toList_iff.mpr he),λ_=>rfl⟩
def ns3{s:Shared}{P:Params}{V:TopV}(h:s.heap.get? 3=some (o_3 P V)):s.heap.Ns 3 (nsOf (o_3 P V)):=Zw h rfl (by kernel_rfl)
def ns0{s:Shared}{P:Params}{V:TopV}(h:s.heap.get? 0=some (o_0 P V)):∃es ep,(o_0 P V).data=.dict es ep/\strKeysB es.toList=true/\s.heap.Ns 0 (nsOf (o_0 P V)):=
 ⟨_,_,rfl,by kernel_rfl,Zw h rfl (by kernel_rfl)⟩
def Tu(P V):nsOf (o_3 P V) sLen=none:=by kernel_rfl
def Tw(P V):nsOf (o_0 P V) sLen=some (.builtin "len"):=by kernel_rfl
def Tv(P V):nsOf (o_3 P V) sEmptyString=some (.str ⟨#[]⟩ (V.tk 2552)):=by kernel_rfl
section
variable {prog:Program} {w:World} {A:Around} {E:Value->Shared->Prop} {s:Shared}
theorem uD{P:Params}{V:TopV}{env:Env}{x:Str}{p1 p2 pos:Pos}{m:Str->Option Value}{F:Str}{tF:Tok}{Q:Value->Shared->Prop}
  (hk:env.scope.kind=.function) (hg:env.globals=3) (hb:env.builtins=0) (hx:env.kindOf sLen=some .globalImplicit) (hxl:env.kindOf x=some .local) (hdx:(x==("__debug__" : Str))=false)
  (h3:s.heap.get? 3=some (o_3 P V)) (h0:s.heap.get? 0=some (o_0 P V)) (hn:s.heap.Ns env.locals m) (hv:m x=some (.str F tF)) (hF:F.length<=1000)
  (hQ:Q (.int F.length (s.toks+1)) { s with toks:=s.toks+1+1 }) :
  wpAny (model prog w) A (eval (.Call (.Name sLen p1) [.Name x p2] [] pos) env) Q E s:=by
 obtain⟨es,ep,-,-,n0⟩:=ns0 h0
 refine wpAny_Call_NameR (Calls.Name_function_global hk hx (Calls.loadGlobal_builtin (by rw[hg];exact ns3 h3) (Tu P V) (by rw[hb];exact n0) (Tw P V) ?_) (by decide +kernel))
 show wpAny _ A (callWith pos (.builtin "len") [] [(false,eval (.Name x p2) env)] []) Q E s
 refine callWith_builtin1 (wpAny_Name (wpAny_loadName_local hk hxl hn hv ?_) hdx)
 refine Calls.call_function_entry kind_len plain_len entry_len (args_len1 _) ?_
 exact wpAny_len_body (n:=F.length) (typeIs_str _ _ _) PySem.F.slot_str_len PySem.F.entry_str_len (PySem.F.args_str_len_1 _) (gives_str_len F tF) (by lia) (by lia) hQ
theorem Vq{P:Params}{V:TopV}{q:Str}{C:Addr}{cd:Value}{m:Str->Option Value}{F S:Str}{tF tS:Tok}
  (h3:s.heap.get? 3=some (o_3 P V)) (h0:s.heap.get? 0=some (o_0 P V)) (hn:s.heap.Ns C m) (hf:m sFws=some (.str F tF)) (hp:m sPart=some (.str S tS)) (hF:F.length<=1000) (hS:S.length<=1000) :
  wpAny (model prog w) A (eval eltLen (envGen scLen q C cd)) (λy s₃=>(∃t,y=.int ((F.length:Int)+S.length) t)/\Keeps s s₃) E s:=by
 refine wpAny_BinOp (uD (P:=P) (V:=V) rfl rfl rfl (by kernel_rfl) (by kernel_rfl) (by decide +kernel) h3 h0 hn hf hF ?_)
 refine uD (P:=P) (V:=V) (m:=m) rfl rfl rfl (by kernel_rfl) (by kernel_rfl) (by decide +kernel) h3 h0 hn hp hS ?_
 exact wpAny_add_int ⟨⟨_,rfl⟩,_,_,rfl,λ_ _ e=>e⟩
end
section
variable {prog:Program} {w:World} {A:Around} {E:Value->Shared->Prop} {s:Shared}
theorem x8{n:Nat}(h:n<=100000):Builtin.Str.tooLong n=false:=by
 unfold Builtin.Str.tooLong
 rw[sizeLine_eq]
 simp only[decide_eq_false_iff_not]
 lia
theorem Tt(F S:Str):Builtin.Str.glued ⟨#[]⟩ [F,S]=⟨F.cps++S.cps⟩:=by
 simp[Builtin.Str.glued]
theorem Vp{P:Params}{V:TopV}{q:Str}{C:Addr}{cd:Value}{m:Str->Option Value}{F S:Str}{tF tS:Tok}
  (h3:s.heap.get? 3=some (o_3 P V)) (hn:s.heap.Ns C m) (hf:m sFws=some (.str F tF)) (hp:m sPart=some (.str S tS)) (hF:F.length<=1000) (hS:S.length<=1000) :
  wpAny (model prog w) A (eval eltStr (envGen scStr q C cd)) (λy s₃=>(∃t,y=.str ⟨F.cps++S.cps⟩ t)/\Keeps s s₃) E s:=by
 refine Call_method1 (by rfl) (by rfl) (by rfl) ?_
 refine Calls.Name_function_global rfl (by kernel_rfl) ?_ (by decide +kernel)
 refine Calls.loadGlobal_global (ns3 h3) (Tv P V) ?_
 refine⟨"str", "str.join", PySem.F.plainAttrs_str,PySem.F.slot_str_join,PySem.F.type_str_join,typeIs_str _ _ _,λa h=>(by cases h),?_⟩
 refine Calls.callWith_builtin rfl (Calls.evalArgs_plain (Calls.spliced_cons ?_))
 refine wpAny_Tuple ?_
 show wpAny _ A (spliced [(false,eval (.Name sFws _) _),(false,eval (.Name sPart _) _)]) _ _ s
 refine Calls.spliced_cons (wpAny_Name (wpAny_loadName_local rfl (by kernel_rfl) hn hf ?_) (by decide +kernel))
 refine Calls.spliced_cons (wpAny_Name (wpAny_loadName_local rfl (by kernel_rfl) hn hp ?_) (by decide +kernel))
 refine Calls.spliced_nil ⟨by have:=zI;simp only[List.length_cons,List.length_nil];lia,?_⟩
 refine Calls.spliced_nil ?_
 show wpAny _ A (call (.builtin "str.join") [.str ⟨#[]⟩ (V.tk 2552),.ref s.heap.objs.size]) _ _ _
 have hlen:([(F,tF),(S,tS)].map (·.1)).toArray.foldl (·+·.length+(⟨#[]⟩:Str).length) 0=F.length+S.length:=by
  simp[Str.length]
 have hj:=meets_str_join_tuple ⟨#[]⟩ (V.tk 2552) s.heap.objs.size [(F,tF),(S,tS)] (by rw[hlen];exact x8 (by lia))
 refine wpAny_call (codeAny_call_builtin PySem.F.slot_str_join.plain PySem.F.entry_str_join (PySem.F.slot_str_join.check _ _ _ _ _ _ _ _ (typeIs_str _ _ _) (PySem.F.args_str_join_2 _ _) ?_))
 refine hj prog w A (wants (λy s₃=>(∃t,y=.str ⟨F.cps++S.cps⟩ t)/\Keeps s s₃) E) _ ?_
 refine⟨⟨{ cls:=.type "tuple", data:=.seq [Value.str F tF,Value.str S tS].toArray },0,Heap.get?_push_size _ rfl,rfl,rfl⟩,?_⟩
 show (Builtin.Str.glued ⟨#[]⟩ [F,S]).length<=sizeLine/\_
 rw[Tt]
 refine⟨?_,⟨_,rfl⟩,_,_,rfl,λb o e=>Heap.get?_push_of_some _ e⟩
 have:(⟨F.cps++S.cps⟩:Str).length=F.length+S.length:=by simp[Str.length]
 rw[this,sizeLine_eq];lia
end
structure Part where
 a:Addr
 F:Str
 tF:Tok
 S:Str
 tS:Tok
noncomputable def Part.slot(p:Part):Addr × Obj:=(p.a,tupO p.F p.tF p.S p.tS)
noncomputable def partsTail(ps:List Part):zb:=ps.map Part.slot
noncomputable def partsArr(ps:List Part):Array Value:=(ps.map λp=>Value.ref p.a).toArray
def Part.small(p:Part):Prop:=p.F.length<=1000/\p.S.length<=1000
noncomputable def pTs(ps:List Part)(i:Nat):Addr:=match ps[i]? with|some p=>p.a|none=>0
noncomputable def pVals(ps:List Part)(i:Nat):Array Value:=match ps[i]? with|some p=>#[.str p.F p.tF,.str p.S p.tS]|none=>#[]
def zl(ps:List Part):(partsArr ps).size=ps.length:=by simp[partsArr]
def vg(ps:List Part){j:Nat}(h:j < (partsArr ps).size):(partsArr ps)[j]?=some (.ref (pTs ps j)):=by
 rw[zl] at h
 have:ps[j]?=some ps[j]:=List.getElem?_eq_getElem h
 simp[partsArr,pTs,this]
def uj(n:Nat):passing (λ_=>true) n 0=List.range n:=by
 unfold passing
 simp
section
variable {prog:Program} {w:World} {A:Around}
theorem XW{elt iter:Expr}{pa pb pt pos:Pos}{sc:Scope}{q:Str}{cd:Value}{C I a l:Addr}{g:Nat}{ps:List Part}{m:Str->Option Value}{s:Shared}{P:Params}{V:TopV}(F:Nat->Value->Prop)
  (hh:A.handled=none) (hroom:A.depth < recursionLimit) (hco:sc.isCoroutine=false) (hk:sc.kind=.function)
  (hf:(envGen sc q C cd).kindOf sFws=some .local) (hp:(envGen sc q C cd).kindOf sPart=some .local)
  (hg:s.heap.IsGen a g) (hgs:s.gens[g]?=some (.fresh (.compStart (.GeneratorExp elt [⟨.Tuple [.Name sFws pa,.Name sPart pb] 0 pt,iter,[],0⟩] sc pos) 0 (.ref I) .none (envGen sc q C cd))))
  (hn:s.heap.Ns C m) (hit:s.heap.IsListIter I l 0) (hl:IsSq s.heap l (partsArr ps)) (ht:∀p∈ps,s.heap.get? p.a=some (tupO p.F p.tF p.S p.tS))
  (h3:s.heap.get? 3=some (o_3 P V)) (h0:s.heap.get? 0=some (o_0 P V)) (h2:s.heap.NoLimit)
  (aC:a≠C) (aI:a≠I) (al:a≠l) (aT:∀p∈ps,a≠p.a) (a0:a≠0) (a2:a≠2) (a3:a≠3) (CI:C≠I) (Cl:C≠l) (CT:∀p∈ps,C≠p.a) (C0:C≠0) (C2:C≠2) (C3:C≠3)
  (Il:l≠I) (IT:∀p∈ps,p.a≠I) (I0:0≠I) (I2:2≠I) (I3:3≠I)
  (helt:∀(A':Around) E' i p (s₂:Shared) m₂,ps[i]?=some p->s₂.heap.Ns C m₂->m₂ sFws=some (.str p.F p.tF)->m₂ sPart=some (.str p.S p.tS)->s₂.heap.get? 3=some (o_3 P V)->s₂.heap.get? 0=some (o_0 P V)->
   wpAny (model prog w) A' (eval elt (envGen sc q C cd)) (λy s₃=>F i y/\Keeps s₂ s₃) E' s₂) :
  WalksS prog w A a (a::C::(I::l::(List.range ps.length).map (pTs ps)++[0,2,3])) (C::[I]) (GenOnlyQ g) ps.length (λj y=>j < ps.length/\F j y)
   (GenAt prog w A a g C (I::l::(List.range ps.length).map (pTs ps)++[0,2,3]) [I] (λ_=>true) ps.length F)/\
  GenAt prog w A a g C (I::l::(List.range ps.length).map (pTs ps)++[0,2,3]) [I] (λ_=>true) ps.length F 0 s:=by
 have hT:∀k,k < ps.length->∃p∈ps,ps[k]?=some p/\pTs ps k=p.a/\pVals ps k=#[.str p.F p.tF,.str p.S p.tS]:=λk hk=>by
  have:ps[k]?=some ps[k]:=List.getElem?_eq_getElem hk
  exact⟨ps[k],List.getElem_mem _,this,by simp[pTs,this],by simp[pVals,this]⟩
 have memT:∀b,b∈(List.range ps.length).map (pTs ps)->∃p∈ps,b=p.a:=λb hb=>by
  obtain⟨k,hk,rfl⟩:=List.mem_map.mp hb
  obtain⟨p,hp,_,e,_⟩:=hT k (List.mem_range.mp hk)
  exact⟨p,hp,e⟩
 have mem:∀b,b∈(I::l::(List.range ps.length).map (pTs ps)++[0,2,3])->b=I\/b=l\/(∃p∈ps,b=p.a)\/b=0\/b=2\/b=3:=λb hb=>by
  simp only[List.cons_append,List.mem_cons,List.mem_append,List.not_mem_nil,or_false] at hb
  rcases hb with hb|hb|hb|hb
  ·exact .inl hb
  ·exact .inr (.inl hb)
  ·exact .inr (.inr (.inl (memT b hb)))
  ·exact .inr (.inr (.inr hb))
 have haf:a∉(I::l::(List.range ps.length).map (pTs ps)++[0,2,3]):=λhb=>by
  rcases mem a hb with e|e|⟨p,hp,e⟩|e|e|e
  ·exact aI e
  ·exact al e
  ·exact aT p hp e
  ·exact a0 e
  ·exact a2 e
  ·exact a3 e
 have hCf:C∉(I::l::(List.range ps.length).map (pTs ps)++[0,2,3]):=λhb=>by
  rcases mem C hb with e|e|⟨p,hp,e⟩|e|e|e
  ·exact CI e
  ·exact Cl e
  ·exact CT p hp e
  ·exact C0 e
  ·exact C2 e
  ·exact C3 e
 have hsz:(partsArr ps).size=ps.length:=zl ps
 have W₀:∀A':Around,A'.handled=none->WalksU prog w A' I (I::l::(List.range ps.length).map (pTs ps)++[0,2,3]) [I] ps.length (λi v=>i < ps.length/\v=pVals ps i)
   (λj h=>h.IsListIter I l j/\IsSq h l (partsArr ps)/\∀k,k < (partsArr ps).size->h.IsTuple (pTs ps k) (pVals ps k))
   (λj T h=>(j < (partsArr ps).size/\T=pTs ps j)/\h.IsListIter I l (j+1)/\IsSq h l (partsArr ps)/\∀k,k < (partsArr ps).size->h.IsTuple (pTs ps k) (pVals ps k)):=λA' hA=>by
  have W:=Wt (prog:=prog) (w:=w) (A:=A') hA I l Il (partsArr ps) (pTs ps) (pVals ps) (λj hj=>vg ps hj) (λj hj=>by
   rw[hsz] at hj
   obtain⟨p,hp,_,e,_⟩:=hT j hj
   rw[e];exact IT p hp)
  rw[hsz] at W
  rw[hsz]
  exact W.bound.mono_fp λb hb=>by
   rw[List.cons_append,List.cons_append]
   rcases List.mem_cons.mp hb with rfl|hb
   ·exact .head _
   ·rcases List.mem_cons.mp hb with rfl|hb
    ·exact .tail _ (.head _)
    ·exact .tail _ (.tail _ (List.mem_append_left _ hb))
 have in3:3∈(I::l::(List.range ps.length).map (pTs ps)++[0,2,3]):=by simp
 have in0:0∈(I::l::(List.range ps.length).map (pTs ps)++[0,2,3]):=by simp
 have in2:cStatics∈(I::l::(List.range ps.length).map (pTs ps)++[0,2,3]):=by show 2∈_;simp
 have hq:QuietGenT prog w (envGen sc q C cd) sFws sPart [] elt (I::l::(List.range ps.length).map (pTs ps)++[0,2,3]) [I] (λi v=>i < ps.length/\v=pVals ps i) (λ_=>true) F s.heap:=
  ⟨λA' E' i va vb s₂ m₂ _ _ _ _ _ _=>wpAny_pure ⟨rfl,_,_,rfl,λ_ _ e=>e⟩,λA' E' i va vb s₂ m₂ _ hP _ hn₂ ha hb hk₂=>by
   obtain⟨hi,hv⟩:=hP
   obtain⟨p,hp,e,_,e2⟩:=hT i hi
   rw[e2] at hv
   have hv1:va=.str p.F p.tF/\vb=.str p.S p.tS:=by simpa using hv
   rw[hv1.1] at ha
   rw[hv1.2] at hb
   exact helt A' E' i p s₂ m₂ e hn₂ ha hb (hk₂ 3 in3 (by simp[I3]) _ h3) (hk₂ 0 in0 (by simp[I0]) _ h0)⟩
 constructor
 ·have W:=WalksS.genexpQ (prog:=prog) (w:=w) (A:=A) hh a g C (I::l::(List.range ps.length).map (pTs ps)++[0,2,3]) [I] (λ_=>true) ps.length F aC haf (λb hb=>by
   rw[List.mem_singleton] at hb;subst hb;rw[List.cons_append];exact .head _) hroom in2 (Ne.symm C2) (by show 2∉[I];simp[I2])
  rw[uj,List.length_range] at W
  exact { sub:=W.sub,grefl:=W.grefl,gtrans:=W.gtrans,frame:=W.frame,item:=λi s Q E hi st hQ=>W.item i s Q E hi st λv s' hP=>hQ v s' (by
       obtain⟨j,hj,hF⟩:=hP
       rw[List.getElem?_range hi] at hj
       cases hj
       exact⟨hi,hF⟩),done:=W.done,self:=W.self }
 ·exact GenAt.freshT (cenv:=envGen sc q C cd) hh W₀ (λi vals hP=>by
   obtain⟨hi,hv⟩:=hP
   obtain⟨p,hp,e,_,e2⟩:=hT i hi
   exact⟨_,_,hv.trans e2⟩) (by decide) (λ_=>true) F hf hp (by simp[envGen,hk]) hco hCf hq hg hgs
   ⟨hit,hl,λk hk'=>by
    rw[hsz] at hk'
    obtain⟨p,hp,e,e1,e2⟩:=hT k hk'
    rw[e1,e2]
    exact⟨_,ht p hp,rfl,0,rfl⟩⟩ hn h2
end
noncomputable def dead:Obj:=⟨.none,none,.freed,#[]⟩
structure GmM where
 g:Nat
 yC:Addr
 dC:Option Addr
 es:Array DictEntry
 ep:Nat
 slC:Array (Option Value)
 yI:Addr
 dI:Option Addr
 slI:Array (Option Value)
 ya:Addr
 dd:Option Addr
 nm:Value
 qn:Value
 yl:Addr
 cl:Value
 dl:Option Addr
 epl:Nat
 sll:Array (Option Value)
 q:Str
 cd:Value
def GmM.objs(z:GmM)(P:Params)(V:TopV)(ps:List Part):zb:=
 [(z.yC,⟨.type "frame", z.dC,.dict z.es z.ep,z.slC⟩),(z.yI,⟨.type "list_iterator", z.dI,.fields #[.ref z.yl,.int 0 0],z.slI⟩),(z.ya,⟨.type "generator", z.dd,.fields #[.int z.g 0,z.nm,z.qn],#[]⟩),(z.yl,⟨z.cl,z.dl,.seq (partsArr ps) z.epl,z.sll⟩),
  (3,o_3 P V),(0,o_0 P V),(2,o_2 P V)]
def GmM.code(z:GmM)(ge:Expr)(sc:Scope):Code:=.compStart ge 0 (.ref z.yI) .none (envGen sc z.q z.yC z.cd)
noncomputable def frC(x:GenState):Option Code:=match x with
 | .fresh c=>some c
 | _=>none
def Tx{x:GenState}{c:Code}(h:frC x=some c):x=.fresh c:=by
 cases x<;>cases h
 rfl
noncomputable def envC(c:Code):Env:=match c with
 | .compStart _ _ _ _ e=>e
 | _=>default
def rdG(l:zb)(g:Nat)(c:Code):GmM:=⟨g,obA l 0,(obO l 0).dict,esO (obO l 0),epO (obO l 0),(obO l 0).slots,obA l 1,(obO l 1).dict,(obO l 1).slots,obA l 2,(obO l 2).dict,vAt (flO (obO l 2)) 1,vAt (flO (obO l 2)) 2,
 obA l 3,(obO l 3).cls,(obO l 3).dict,epO (obO l 3),(obO l 3).slots,(envC c).qual,(envC c).code⟩
def gMatch(ge:Expr)(sc:Scope)(P:Params)(V:TopV)(ps:List Part)(wh:List (Code × Pos))(objs:zb)(gs:zk)(a:Addr):Option Lg:=match gs with
 |[(g,x)]=>match frC x with
  |some c=>match zipLg objs ((rdG objs g c).objs P V ps) with
   |some l=>some ((.n a,.n (rdG objs g c).ya)::(.c c,.c ((rdG objs g c).code ge sc))::(.b (strKeysB (rdG objs g c).es.toList),.b true)::(.b (Nat.blt (frameCount wh) 900),.b true)::l)
   |none=>none
  |none=>none
 | _=>none
inductive GMi (ge:Expr) (sc:Scope) (P:Params) (V:TopV) (ps:List Part):zb->zk->Addr->Prop
 |mk (z:GmM) (hs:strKeysB z.es.toList=true):GMi ge sc P V ps (z.objs P V ps) [(z.g,.fresh (z.code ge sc))] z.ya
def VZ{h:Heap}{a b:Addr}{o o':Obj}(h1:h.get? a=some o)(h2:h.get? b=some o')(hne:o≠o'):a≠b:=λe=>by
 rw[e,h2] at h1
 exact hne (Option.some.inj h1).symm
def vn{h:Heap}{a b:Addr}{o o':Obj}(h1:h.get? a=some o)(h2:h.get? b=some o')(hne:o.cls≠o'.cls):a≠b:=VZ h1 h2 λe=>hne (e▸rfl)
def YD{n m:Nat}(h:Nat.blt n m=true):n < m:=by
 have:Nat.ble (n+1) m=true:=h
 exact Nat.le_of_ble_eq_true this
def Xr{h:Heap}{P:Params}{V:TopV}(h2:h.get? 2=some (o_2 P V)):h.NoLimit:=⟨nsOf (o_2 P V),Zw h2 rfl (by kernel_rfl),by kernel_rfl⟩
def TF(P V):(o_3 P V).cls=.type "dict" :=rfl
def TH(P V):(o_0 P V).cls=.type "dict" :=by kernel_rfl
def TG(P V):(o_2 P V).cls=.none:=by kernel_rfl
def yG{h:Heap}{a b:Addr}{o o':Obj}{n n':String}(h1:h.get? a=some o)(h2:h.get? b=some o')(e1:o.cls=.type n)(e2:o'.cls=.type n')(hne:(n==n')=false):a≠b:=vn h1 h2 λe=>by
 rw[e1,e2] at e
 rw[Value.type.inj e,beq_self_eq_true] at hne
 cases hne
noncomputable def isSqB(o:Obj):Bool:=match o.data with
 | .seq ..=>true
 | _=>false
def Xx{h:Heap}{a b:Addr}{o o':Obj}(h1:h.get? a=some o)(h2:h.get? b=some o')(hne:isSqB o=!isSqB o'):a≠b:=VZ h1 h2 λe=>by
 rw[e] at hne
 cases hb:isSqB o'<;>rw[hb] at hne<;>cases hne
def Za{ge:Expr}{sc:Scope}{P:Params}{V:TopV}{ps:List Part}{wh:List (Code × Pos)}{objs:zb}{gs:zk}{a:Addr}{lg:Lg}(hm:gMatch ge sc P V ps wh objs gs a=some lg)(hl:Lg.Ok lg) :
  GMi ge sc P V ps objs gs a/\frameCount wh < 900:=by
 unfold gMatch at hm
 cases gs with
 |nil=>cases hm
 |cons y r=>cases r with
  |cons _ _=>cases hm
  |nil=>
   obtain⟨g,x⟩:=y
   dsimp only at hm
   cases hx:frC x with
   |none=>rw[hx] at hm;cases hm
   |some c=>
    rw[hx] at hm
    dsimp only at hm
    cases hz:zipLg objs ((rdG objs g c).objs P V ps) with
    |none=>rw[hz] at hm;cases hm
    |some l=>
     rw[hz] at hm
     cases hm
     have e1:=LV.n.inj (hl _ (.head _))
     have e2:=LV.c.inj (hl _ (.tail _ (.head _)))
     have e3:=LV.b.inj (hl _ (.tail _ (.tail _ (.head _))))
     have e4:=YD (LV.b.inj (hl _ (.tail _ (.tail _ (.tail _ (.head _))))))
     have e5:=yf hz λq hq=>hl q (.tail _ (.tail _ (.tail _ (.tail _ hq))))
     have hg:(rdG objs g c).g=g:=rfl
     rw[Tx hx]
     generalize rdG objs g c=z at e1 e2 e3 e5 hg
     rw[e1,e2,e5,<-hg]
     exact⟨⟨z,e3⟩,e4⟩
section
variable {prog:Program} {w:World}
theorem wY{ge elt iter:Expr}{pa pb pt pos:Pos}{sc:Scope}{P:Params}{V:TopV}{ps:List Part}{wh:List (Code × Pos)}{objs:zb}{gs:zk}{a:Addr}{lg:Lg}{s:Shared}{tl:zb}(F:Nat->Value->Prop)
  (hge:ge=.GeneratorExp elt [⟨.Tuple [.Name sFws pa,.Name sPart pb] 0 pt,iter,[],0⟩] sc pos) (hco:sc.isCoroutine=false) (hk:sc.kind=.function)
  (hf:∀q C cd,(envGen sc q C cd).kindOf sFws=some .local) (hp:∀q C cd,(envGen sc q C cd).kindOf sPart=some .local)
  (hm:gMatch ge sc P V ps wh objs gs a=some lg) (hl:Lg.Ok lg) (hg:∀p∈objs,s.heap.get? p.1=some p.2) (hgs:∀p∈gs,s.gens[p.1]?=some p.2) (ht:∀p∈partsTail ps,s.heap.get? p.1=some p.2)
  (A:Around) (hA:A.handled=none) (hd:A.depth=frameCount wh)
  (helt:∀q C cd (A':Around) E' i p (s₂:Shared) m₂,ps[i]?=some p->s₂.heap.Ns C m₂->m₂ sFws=some (.str p.F p.tF)->m₂ sPart=some (.str p.S p.tS)->s₂.heap.get? 3=some (o_3 P V)->s₂.heap.get? 0=some (o_0 P V)->
   wpAny (model prog w) A' (eval elt (envGen sc q C cd)) (λy s₃=>F i y/\Keeps s₂ s₃) E' s₂) :
  ∃(C I g:Nat) (oC oI:Obj) (more:zb) (x:GenState) (fp:List Addr) (St:Nat->Shared->Prop),objs=(C,oC)::(I,oI)::more/\gs=[(g,x)]/\(∀b∈a::C::fp,b < s.heap.objs.size)/\(∀i s,St i s->s.TypeIs (.ref a) "generator")/\
   WalksS prog w A a (a::C::fp) (C::[I]) (GenOnlyQ g) ps.length (λj y=>j < ps.length/\F j y) St/\St 0 s:=by
 obtain⟨hi,hw⟩:=Za hm hl
 obtain⟨z,hes⟩:=hi
 have gC:=hg _ (.head _)
 have gI:=hg _ (.tail _ (.head _))
 have ga:=hg _ (.tail _ (.tail _ (.head _)))
 have gl:=hg _ (.tail _ (.tail _ (.tail _ (.head _))))
 have g3:=hg _ (.tail _ (.tail _ (.tail _ (.tail _ (.head _)))))
 have g0:=hg _ (.tail _ (.tail _ (.tail _ (.tail _ (.tail _ (.head _))))))
 have g2:=hg _ (.tail _ (.tail _ (.tail _ (.tail _ (.tail _ (.tail _ (.head _)))))))
 have gg:=hgs _ (.head _)
 dsimp only at gC gI ga gl g3 g0 g2
 unfold GmM.code at gg
 rw[hge] at gg
 have gT:∀p∈ps,s.heap.get? p.a=some (tupO p.F p.tF p.S p.tS):=λp hp=>ht _ (List.mem_map_of_mem (f:=Part.slot) hp)
 have W:=XW (prog:=prog) (w:=w) (A:=A) (elt:=elt) (iter:=iter) (pa:=pa) (pb:=pb) (pt:=pt) (pos:=pos) (sc:=sc) (q:=z.q) (cd:=z.cd) (C:=z.yC) (I:=z.yI) (a:=z.ya) (l:=z.yl) (g:=z.g) (ps:=ps) (m:=nsOf ⟨.type "frame", z.dC,.dict z.es z.ep,z.slC⟩) (s:=s) (P:=P) (V:=V) F
  hA (by rw[hd];unfold recursionLimit;lia) hco hk (hf _ _ _) (hp _ _ _) ⟨_,z.nm,z.qn,ga,rfl,rfl,rfl⟩ gg (Zw gC rfl hes) ⟨_,gI,rfl,rfl⟩ ⟨_,_,gl,rfl⟩ gT g3 g0 (Xr g2)
  (yG ga gC rfl rfl rfl) (yG ga gI rfl rfl rfl) (Xx ga gl rfl) (λp hp=>yG ga (gT p hp) rfl rfl rfl) (yG ga g0 rfl (TH P V) rfl) (vn ga g2 (by rw[TG];nofun)) (yG ga g3 rfl (TF P V) rfl)
  (yG gC gI rfl rfl rfl) (Xx gC gl rfl) (λp hp=>yG gC (gT p hp) rfl rfl rfl) (yG gC g0 rfl (TH P V) rfl) (vn gC g2 (by rw[TG];nofun)) (yG gC g3 rfl (TF P V) rfl)
  (Xx gl gI rfl) (λp hp=>yG (gT p hp) gI rfl rfl rfl) (yG g0 gI (TH P V) rfl rfl) (vn g2 gI (by rw[TG];nofun)) (yG g3 gI (TF P V) rfl rfl)
  (helt _ _ _)
 refine⟨z.yC,z.yI,z.g,_,_,_,_,(z.yI::z.yl::(List.range ps.length).map (pTs ps)++[0,2,3]),_,rfl,rfl,λb hb=>?_,λi s' st=>?_,W.1,W.2⟩
 ·simp only[List.cons_append,List.mem_cons,List.mem_append,List.not_mem_nil,or_false] at hb
  rcases hb with rfl|rfl|rfl|rfl|hb|rfl|rfl|rfl
  ·exact Heap.lt_size ga
  ·exact Heap.lt_size gC
  ·exact Heap.lt_size gI
  ·exact Heap.lt_size gl
  ·obtain⟨k,hk,rfl⟩:=List.mem_map.mp hb
   have hk':=List.mem_range.mp hk
   have:ps[k]?=some ps[k]:=List.getElem?_eq_getElem hk'
   simp only[pTs,this]
   exact Heap.lt_size (gT _ (List.getElem_mem _))
  ·exact Heap.lt_size g0
  ·exact Heap.lt_size g2
  ·exact Heap.lt_size g3
 ·exact st.1.typeIs
end
def CallsAt(M:Model)(wh:List (Code × Pos))(c:Code)(R:Result->Shared->Prop)(s:Shared):Prop:=
 ∀(Γ:Ctx) (p:Pos),Γ.handled=none->(Γ.code,p)::Γ.below=wh->wpCode M (Γ.enter c none p) R p s
def CallsAt.of_codeAny{M:Model}{wh:List (Code × Pos)}{c:Code}{R:Result->Shared->Prop}{s:Shared}(h:codeAny M (aroundOf wh) c R s):CallsAt M wh c R s:=λΓ p hh hw=>by
 subst hw
 exact h _ p rfl ⟨hh,Nat.le_refl _,(λl hl=>by cases hl),(λl hl=>by cases hl),Nat.le_refl _⟩
def CallsAt.of_wpAny{M:Model}{wh:List (Code × Pos)}{f:Value}{pos:List Value}{kw:List (Str × Value)}{Q:Value->Shared->Prop}{s:Shared}(h:wpAny M (aroundOf wh) (call f pos kw) Q (λ_ _=>False) s) :
  CallsAt M wh (.call f ⟨pos,kw⟩) (λr s'=>∃v,r=.ok (.ret v)/\Q v s') s:=λΓ p hh hw=>by
 subst hw
 have h1:=h Γ p ⟨hh,by show frameCount Γ.below+Γ.code.weight<=frameCount ((Γ.code,p)::Γ.below);rw[frameCount_cons];lia,(λl hl=>by cases hl),(λl hl=>by cases hl),by
  show Γ.code.cUnits+unitsOf Γ.below<=unitsOf ((Γ.code,p)::Γ.below)
  rw[unitsOf_cons];exact Nat.le_refl _⟩
 unfold call at h1
 rw[Sem.wp_runValue] at h1
 obtain⟨r,s',hr,hq⟩:=h1
 refine⟨r,s',hr,?_⟩
 cases r with
 |error e=>exact hq.elim
 |ok f=>cases f with
  |ret v=>exact⟨v,rfl,hq⟩
  | _=>exact hq.elim
def uL{M:Model}{c:Code}{R:Result->Shared->Prop}{s:Shared}{code:Code}{pos:Pos}{F:List Frame}(hd:topHandled F=none)
  (h:CallsAt M ((code,pos)::F.map Frame.where_) c R s) :
  ∃r s₁,R r s₁/\s.heap.objs.size<=s₁.heap.objs.size/\∀(g:Bool) (l:List Value) (k:Result->Sem Fin),Comes M s ⟨.call c none g l k,code,pos,F⟩ s₁ ⟨k r,code,pos,F⟩:=by
 have hf:=Ctx.fits_of code F
 obtain⟨r,s₁,hr,hR⟩:=h (Ctx.of code F) pos hd rfl
 refine⟨r,s₁,hR,xD hr,λg l k=>?_⟩
 obtain⟨t',c',p',pre',hc₁,hx⟩:=(runs_reach hr _ (hf.enter c k none g l pos [])).comes
 obtain⟨rfl,rfl⟩:=hx
 exact .step (step_call ..) (.trans hc₁ (.step (step_leaf_ret ..) (.refl _ _)))
noncomputable def mkG(m:Nat)(k:Nat->Nat)(mg:Bool){Y:Type}(pre:Nat->Code->List (Code × Pos)->zb->zk->Option Y)(lg pc:Y->Lg)(out:Y->List Addr->Ch->UOut):Ext:=
 ⟨m,k,mg,λd c wh objs gs xs t=>(pre d c wh objs gs).map λy=>⟨(out y xs t).res,(out y xs t).posts,(out y xs t).news,lg y,pc y⟩⟩
def ExtOk.leafM{C:Cfg}{w:World}{F:List Frame}{m:Nat}{k:Nat->Nat}{mg:Bool}{Y:Type}{pre:Nat->Code->List (Code × Pos)->zb->zk->Option Y}{lg pc:Y->Lg}{out:Y->List Addr->Ch->UOut}(U:Under C F)
  (H:∀(prog:Program) (s:Shared) (d:Nat) (c:Code) (wh:List (Code × Pos)) (objs:zb) (gs:zk) (y:Y),objs.length=m->(∀p∈objs,s.heap.get? p.1=some p.2)->(∀p∈gs,s.gens[p.1]?=some p.2)->
   (∀p∈C.tail,p.2.isFreed=false->s.heap.get? p.1=some p.2)->pre d c wh objs gs=some y->Lg.Ok (lg y)->Lg.Ok (pc y)->
   CallsAt (model prog w) wh c (λres s₁=>∃(xs:List Addr) (t:Ch),xs.length=k d/\(∀z∈xs,s.heap.objs.size<=z)/\res=(out y xs t).res/\Eff s s₁ objs gs (out y xs t).posts xs (out y xs t).news) s) :
  ExtOk C w F (mkG m k mg pre lg pc out):=by
 intro s a T G code pos fs c g l k' objs d js gs G' R hg S hm hd hh hl _
 refine cps λGo hGo=>?_
 by_cases hq:∃y,pre d c ((code,pos)::(fs.map Frame.where_++C.W)) objs gs=some y/\Lg.Ok (lg y)/\Lg.Ok (pc y)
 ·obtain⟨y,hy,lo,po⟩:=hq
  have hc:=H C.prog s d c ((code,pos)::(fs.map Frame.where_++C.W)) objs gs y ((z4 hl).trans hm) (xw R hl) (λp hp=>R.gslots p (y1 hg p hp)) (λp hp hf=>by
   obtain⟨Ex,hEx,_⟩:=S
   exact R.slots p (by rw[hEx];exact List.mem_append_right _ hp) hf) hy lo po
  have hw:(code,pos)::(fs.map Frame.where_++C.W)=(code,pos)::(fs++F).map Frame.where_:=by rw[List.map_append,U.wh]
  rw[hw] at hc
  have ht:topHandled (fs++F)=none:=by
   rw[U.hdOf]
   unfold hdOk at hh
   unfold hdOf
   generalize marksOver fs (none,none)=z at hh
   obtain⟨x,y⟩:=z
   cases x<;>cases y<;>first|rfl|cases hh
  obtain⟨res,s₁,⟨xs,t,hx,hf,e1,hE⟩,hsz,hcm⟩:=uL ht hc
  subst e1
  refine hGo ⟨xs,t,hx,hf,λr hr _ _ nf T' T'' hp hn=>?_⟩
  obtain⟨y',hy',rfl⟩:=Option.map_eq_some_iff.mp hr
  obtain rfl:y=y':=Option.some.inj (hy.symm.trans hy')
  exact⟨s₁,hcm g l k',R.after hl (zD hd) hp hn hf hg hE hsz⟩
 ·refine hGo ⟨freshA s.heap.objs.size (k d),.of 0,yc _ _,λ_=>yq,λr hr lo po nf T' T'' hp hn=>?_⟩
  obtain⟨y,hy,rfl⟩:=Option.map_eq_some_iff.mp hr
  exact absurd ⟨y,hy,lo,po⟩ hq
noncomputable def Part.len(p:Part):Int:=(p.F.length:Int)+p.S.length
def total(ps:List Part):Int:=(ps.map Part.len).sum
noncomputable def smallB(ps:List Part):Bool:=ps.all λp=>decide (p.F.length<=1000) && decide (p.S.length<=1000)
def wQ{ps:List Part}(h:smallB ps=true):∀p∈ps,p.F.length<=1000/\p.S.length<=1000:=λp hp=>by
 have:=List.all_eq_true.mp h p hp
 simpa using this
noncomputable def pVal(n0:Int)(ps:List Part):Nat->Int
 |0=>n0
 |i+1=>match ps[i]? with|some p=>p.len|none=>0
theorem xI(n0:Int)(ps:List Part):∀k,k<=ps.length->preSum (pVal n0 ps) (k+1)=n0+total (ps.take k)
 |0,_=>by simp[preSum,pVal,total]
 |k+1,h=>by
  have hk:k < ps.length:=h
  show preSum (pVal n0 ps) (k+1)+pVal n0 ps (k+1)=_
  rw[xI n0 ps k (by lia)]
  have:ps[k]?=some ps[k]:=List.getElem?_eq_getElem hk
  simp only[pVal,this]
  have e:ps.take (k+1)=ps.take k++[ps[k]]:=by rw[List.take_add_one,this];rfl
  rw[e]
  simp only[total,List.map_append,List.sum_append,List.map_cons,List.map_nil,List.sum_cons,List.sum_nil]
  lia
def wX{g:Nat}{a b:Array GenState}(h:GenOnlyQ g a b):(∀k st,a[k]?=some st->g≠k->b[k]?=some st)/\(AllBare a->AllBare b):=by
 rcases h with rfl|⟨⟨hs,hk⟩,hb⟩
 ·exact⟨λ_ _ e _=>e,id⟩
 ·refine⟨λk st e hne=>by rw[hk k (Ne.symm hne)];exact e,λha y hy=>?_⟩
  obtain⟨k,hk',rfl⟩:=Array.mem_iff_getElem.mp hy
  by_cases e:k=g
  ·subst e
   exact hb _ (Array.getElem?_eq_getElem hk')
  ·have h1:=hk k e
   rw[Array.getElem?_eq_getElem hk'] at h1
   exact ha _ (Array.mem_of_getElem? h1.symm)
def xSum(P:Params)(V:TopV)(ps:List Part):Ext:=mkG 7 (λ_=>0) true (λ_ c wh objs gs=>match gMatch genLen scLen P V ps wh objs gs (rfV (vAt (argC c) 0)) with
 |some lg=>some ((.c c,.c (.call (.builtin "sum") ⟨[.ref (rfV (vAt (argC c) 0)),.int (iV (vAt (argC c) 1)) (tkV (vAt (argC c) 1))],[]⟩))::lg,iV (vAt (argC c) 1))
 |none=>none) (λy=>y.1) (λ_=>[(.b (smallB ps),.b true)]) (λy _ t=>⟨.ok (.ret (.int (y.2+total ps) (t.tok 0))),[dead,dead],[]⟩)
def YS(a b:Value):argsOk "sum" ⟨[a,b],[]⟩:=by unfold argsOk;kernel_rfl
def shP(P:Nat->Value->Prop):Nat->Value->Prop
 |0,_=>False
 |i+1,v=>P i v
def shSt(St:Nat->Shared->Prop):Nat->Shared->Prop
 |0,_=>False
 |i+1,s=>St i s
section
variable {prog:Program} {w:World} {A:Around} {E:Value->Shared->Prop} {s:Shared}
theorem Yk{I:Addr}{fp wr:List Addr}{G:Array GenState->Array GenState->Prop}{n:Nat}{P:Nat->Value->Prop}{St:Nat->Shared->Prop}{n0:Int}{tn:Tok}{R:Result->Shared->Prop}{val:Nat->Int}
  (W:WalksS prog w A.in1 I fp wr G n P St) (hst:St 0 s) (hfp:∀b∈fp,b < s.heap.objs.size) (hval:∀i v,P i v->∃t,v=.int (val (i+1)) t) (h0:val 0=n0)
  (hR:∀s' t',Moved (s.heap.objs.size::wr) G s s'->R (.ok (.ret (.int (preSum val (n+1)) t'))) s') :
  codeAny (model prog w) A (.call (.builtin "sum") ⟨[.ref I,.int n0 tn],[]⟩) R s:=by
 have W':WalksS prog w A.in1 I fp wr G (n+1) (shP P) (shSt St):=
  {
   sub:=W.sub,grefl:=W.grefl,gtrans:=W.gtrans
   frame:=λi s h' tk st ht hk=>by
    cases i with
    |zero=>exact st.elim
    |succ i=>exact W.frame i s h' tk st ht hk
   item:=λi s Q E hi st hQ=>by
    cases i with
    |zero=>exact st.elim
    |succ i=>exact W.item i s Q E (by lia) st λv s' hP hst' hm=>hQ v s' hP hst' hm
   done:=W.done
   self:=λi s Q E st hQ=>by
    cases i with
    |zero=>exact st.elim
    |succ i=>exact W.self i s Q E st hQ }
 have hval':∀i v,shP P i v->∃t,v=.int (val i) t:=λi v h=>by
  cases i with
  |zero=>exact h.elim
  |succ i=>exact hval i v h
 refine codeAny_call_builtin F.plain_sum F.entry_sum ?_
 simp only[checkBuiltinCall,F.kind_sum]
 have hargs:wpAny (model prog w) A.in1 (Builtin.«sum» ⟨[.ref I,.int n0 tn],[]⟩) (λfin s'=>match fin with | .done f=>R (.ok f) s' | .again c'=>c'.quiet=true/\codeAny (model prog w) A c' R s') (λe s'=>R (.error e) s') s:=by
  unfold Builtin.«sum»
  simp only[List.length_cons,List.length_nil]
  rw[if_neg (by decide)]
  refine wpAny_bind (wpAny_of_eq (show Builtin.Builtins.bindParams "sum" ["start"] 0 ⟨[.int n0 tn],[]⟩=pure [some (.int n0 tn)] from rfl) ?_)
  refine wpAny_bind (W.self 0 s _ _ hst ?_)
  have fin:∀(tk:Nat) (tA:Tok) (st:Int),s.toks<=tk->(st=0\/st=2)->codeAny (model prog w) A (.builtin "sum.loop" ⟨[.ref I,.ref s.heap.objs.size,rawInt st,rawInt 0],[]⟩) R
    { s with heap:=s.heap.push { cls:=.type "list", data:=.seq #[.int n0 tA] },toks:=tk }:=λtk tA st htk hst2=>by
   have hSf:s.heap.objs.size∉fp:=λhm=>Nat.lt_irrefl _ (hfp _ hm)
   have hp1:preSum val 1=n0:=by show 0+val 0=n0;rw[h0];lia
   refine codeAny_sum_loopAnyS W' val hval' s.heap.objs.size hSf n 1 _ tA 0 st hst2 (by lia) (by lia)
    (W.frame 0 s _ _ hst htk λb _ o e=>Heap.get?_push_of_some _ e) (by rw[hp1];exact Heap.get?_push_size _ rfl) λs' t' hm=>?_
   refine hR s' t' ⟨λb o hb e=>hm.heap b o hb (Heap.get?_push_of_some _ e),hm.gens,hm.drawn,hm.os,Nat.le_trans htk hm.toks⟩
  have rest:∀(tk:Nat) (tA:Tok) (st:Int),s.toks<=tk->(st=0\/st=2)->wpAny (model prog w) A.in1 (do
    for (ty,what,hint) in [("str", "strings", "''"),("bytes", "bytes", "b''"),("bytearray", "bytearray", "b''")] do
     if <-isInstance (.int n0 tA) (.type ty) then
      rule "sum.start-refused"; raiseError "TypeError" s!"sum() can't sum {what} [use {hint}.join(seq) instead]"
    again (.builtin "sum.loop" ⟨[.ref I,<-newList [.int n0 tA],rawInt st,rawInt 0],[]⟩)) (λfin s'=>match fin with | .done f=>R (.ok f) s' | .again c'=>c'.quiet=true/\codeAny (model prog w) A c' R s') (λe s'=>R (.error e) s') { s with toks:=tk }:=λtk tA st htk hst2=>by
   simp only[List.forIn_cons,List.forIn_nil]
   refine wpAny_bind (wpAny_bind (wpAny_bind (wpAny_isInstance (T:= "int") (b:=false) (typeIs_int _ _ _) PySem.sub_int_str ?_)))
   simp only[Bool.false_eq_true,if_false]
   refine wpAny_pure (wpAny_bind (wpAny_bind (wpAny_isInstance (T:= "int") (b:=false) (typeIs_int _ _ _) PySem.sub_int_bytes ?_)))
   simp only[Bool.false_eq_true,if_false]
   refine wpAny_pure (wpAny_bind (wpAny_bind (wpAny_isInstance (T:= "int") (b:=false) (typeIs_int _ _ _) PySem.sub_int_bytearray ?_)))
   simp only[Bool.false_eq_true,if_false]
   refine wpAny_pure (wpAny_pure ?_)
   refine wpAny_bind (wpAny_newObj_type ?_)
   exact wpAny_pure ⟨plainId_quiet F.plain_sum_loop _,fin tk tA st htk hst2⟩
  show wpAny (model prog w) A.in1 (if (_:Bool)=true then _ else _) _ _ s
  split
  ·refine wpAny_bind (wpAny_rule (wpAny_bind (wpAny_mkInt (wpAny_bind (wpAny_pure ?_)))))
   exact rest (s.toks+1) s.toks 0 (Nat.le_succ _) (.inl rfl)
  ·refine wpAny_bind (wpAny_pure ?_)
   exact rest s.toks tn 2 (Nat.le_refl _) (.inr rfl)
 have ha:=YS (.ref I) (.int n0 tn)
 cases hsig:Manifest.signature? "sum" with
 |none=>exact wpAny_pure hargs
 |some sig=>
  simp only[argsOk,hsig] at ha
  show wpAny _ _ (Bind.checkArgs "sum" sig ⟨[.ref I,.int n0 tn],[]⟩) _ _ s
  rw[ha];exact wpAny_pure hargs
end
def liveTail(tl:zb)(ps:List Part):Prop:=∀p∈partsTail ps,p∈tl
def v5{tl:zb}{ps:List Part}{s:Shared}(h:liveTail tl ps)(ht:∀p∈tl,p.2.isFreed=false->s.heap.get? p.1=some p.2):∀p∈partsTail ps,s.heap.get? p.1=some p.2:=λp hp=>by
 refine ht p (h p hp) ?_
 obtain⟨q,_,rfl⟩:=List.mem_map.mp hp
 rfl
def uE{s s':Shared}{C I g:Nat}{oC oI:Obj}{x:GenState}{more:zb}{wr:List Addr}(hh:∀b o,b∉wr->s.heap.get? b=some o->s'.heap.get? b=some o)(hgn:GenOnlyQ g s.gens s'.gens)(ho:s'.os=s.os)(hw:∀b∈wr,b=C\/b=I\/s.heap.objs.size<=b) :
  Eff s s' ((C,oC)::(I,oI)::more) [(g,x)] [dead,dead] [] [] where
 heap b o h q:=hh b o (λhb=>by
   rcases hw b hb with rfl|rfl|hb
   ·exact q (b,oC) (by simp) rfl
   ·exact q (b,oI) (by simp) rfl
   ·exact absurd (Heap.lt_size h) (Nat.not_lt.mpr hb)) h
 posts p hp hf:=by
   simp only[List.map_cons,List.zip_cons_cons,List.zip_nil_right,List.mem_cons,List.not_mem_nil,or_false] at hp
   rcases hp with rfl|rfl<;>cases hf
 news p hp:=by simp at hp
 nodup:=List.nodup_nil
 gens k st h q:=(wX hgn).1 k st h (q (g,x) (.head _))
 bare:=(wX hgn).2
 os:=ho
def CallsAt.mono'{M:Model}{wh:List (Code × Pos)}{c:Code}{R R':Result->Shared->Prop}{s:Shared}(h:CallsAt M wh c R s)(m:∀r s',R r s'->R' r s'):CallsAt M wh c R' s:=λΓ p hh hw=>by
 obtain⟨r,s',hr,hq⟩:=h Γ p hh hw
 exact⟨r,s',hr,m _ _ hq⟩
def Yl{w:World}{P:Params}{V:TopV}{ps:List Part}{tl:zb}{prog:Program}{s:Shared}{wh:List (Code × Pos)}{objs:zb}{gs:zk}{a:Addr}{n0:Int}{tn:Tok}{lg:Lg}(hT:liveTail tl ps)(hM:gMatch genLen scLen P V ps wh objs gs a=some lg)(hlg:Lg.Ok lg)
  (hg:∀p∈objs,s.heap.get? p.1=some p.2) (hgs:∀p∈gs,s.gens[p.1]?=some p.2) (ht:∀p∈tl,p.2.isFreed=false->s.heap.get? p.1=some p.2) (hsm:smallB ps=true) :
  CallsAt (model prog w) wh (.call (.builtin "sum") ⟨[.ref a,.int n0 tn],[]⟩) (λres s₁=>∃t,res=.ok (.ret (.int (n0+total ps) t))/\Eff s s₁ objs gs [dead,dead] [] []) s:=by
 have hsm':=wQ hsm
 obtain⟨C',I,g,oC,oI,more,x,fp,St,rfl,rfl,hfp,hTy,W,hst⟩:=wY (prog:=prog) (w:=w) (elt:=eltLen) (tl:=tl) (s:=s) (λi y=>∃t,y=.int (pVal n0 ps (i+1)) t) rfl rfl rfl (λ_ _ _=>by kernel_rfl) (λ_ _ _=>by kernel_rfl) hM hlg hg hgs (v5 hT ht)
  (aroundOf wh).in1 rfl rfl (λq C cd A' E' i p s₂ m₂ hp hn hf hpt h3 h0=>wpAny_mono (Vq h3 h0 hn hf hpt (hsm' p (List.mem_of_getElem? hp)).1 (hsm' p (List.mem_of_getElem? hp)).2)
   (λy s₃ h=>by
    obtain⟨⟨t,rfl⟩,hk⟩:=h
    exact⟨⟨t,by simp only[pVal,hp];rfl⟩,hk⟩) λ_ _ e=>e)
 refine .of_codeAny (Yk (val:=pVal n0 ps) W hst hfp (λi v h=>h.2) rfl λs' t' hm=>?_)
 rw[xI n0 ps ps.length (Nat.le_refl _),List.take_length]
 exact⟨t',rfl,uE hm.heap hm.gens hm.os λb hb=>by
  simp only[List.mem_cons,List.not_mem_nil,or_false] at hb
  rcases hb with rfl|rfl|rfl
  ·exact .inr (.inr (Nat.le_refl _))
  ·exact .inl rfl
  ·exact .inr (.inl rfl)⟩
def Wp{C:Cfg}{w:World}{F:List Frame}{P:Params}{V:TopV}{ps:List Part}(U:Under C F)(hT:liveTail C.tail ps):ExtOk C w F (xSum P V ps):=by
 refine ExtOk.leafM U λprog s d c wh objs gs y hm hg hgs ht hy hlg hp=>?_
 cases hM:gMatch genLen scLen P V ps wh objs gs (rfV (vAt (argC c) 0)) with
 |none=>rw[hM] at hy;cases hy
 |some lg=>
 rw[hM] at hy
 cases hy
 refine(congrArg (λx=>CallsAt (model prog w) wh x _ s) (LV.c.inj (hlg _ (.head _)))).mpr ?_
 refine(Yl hT hM (λq hq=>hlg q (.tail _ hq)) hg hgs ht (LV.b.inj (hp _ (.head _)))).mono' λr s' h=>?_
 obtain⟨t,rfl,he⟩:=h
 exact⟨[],.of t,rfl,zh,rfl,he⟩
noncomputable def Part.txt(p:Part):Str:=⟨p.F.cps++p.S.cps⟩
def textOf(ps:List Part):Str:=Txt.join ⟨#[]⟩ (ps.map Part.txt)
def xJoinG(P:Params)(V:TopV)(ps:List Part):Ext:=mkG 7 (λ_=>0) true (λ_ c wh objs gs=>match gMatch genStr scStr P V ps wh objs gs (rfV (vAt (argC c) 1)) with
 |some lg=>some ((.c c,.c (.call (.builtin "str.join") ⟨[.str ⟨#[]⟩ (tkV (vAt (argC c) 0)),.ref (rfV (vAt (argC c) 1))],[]⟩))::lg)
 |none=>none) (λy=>y) (λ_=>[(.b (smallB ps),.b true),(.b (decide (ps.length<=40)),.b true)]) (λy _ t=>⟨.ok (.ret (.str (textOf ps) (t.tok 0))),[dead,dead],[]⟩)
theorem wZ:∀(l:List Str) (n:Nat),l.foldl (fun(x:Nat) (y:Str)=>x+y.length+(⟨#[]⟩:Str).length) n=n+(l.map Str.length).sum
 |[],n=>by simp
 |x::l,n=>by
  rw[List.foldl_cons,wZ l]
  simp[Str.length]
  lia
theorem Zi:∀(ps:List Part),(∀p∈ps,p.F.length<=1000/\p.S.length<=1000)->((ps.map Part.txt).map Str.length).sum<=2000*ps.length
 |[],_=>by simp
 |p::ps,h=>by
  have h1:=Zi ps λq hq=>h q (.tail _ hq)
  have h2:=h p (.head _)
  have h3:p.txt.length=p.F.length+p.S.length:=by simp[Part.txt,Str.length]
  simp only[List.map_cons,List.sum_cons,List.length_cons]
  lia
def u7{w:World}{P:Params}{V:TopV}{ps:List Part}{tl:zb}{prog:Program}{s:Shared}{wh:List (Code × Pos)}{objs:zb}{gs:zk}{a:Addr}{tn:Tok}{lg:Lg}(hT:liveTail tl ps)(hM:gMatch genStr scStr P V ps wh objs gs a=some lg)(hlg:Lg.Ok lg)
  (hg:∀p∈objs,s.heap.get? p.1=some p.2) (hgs:∀p∈gs,s.gens[p.1]?=some p.2) (ht:∀p∈tl,p.2.isFreed=false->s.heap.get? p.1=some p.2) (hsm:smallB ps=true) (hlen:ps.length<=40) :
  CallsAt (model prog w) wh (.call (.builtin "str.join") ⟨[.str ⟨#[]⟩ tn,.ref a],[]⟩) (λres s₁=>∃t,res=.ok (.ret (.str (textOf ps) t))/\Eff s s₁ objs gs [dead,dead] [] []) s:=by
 have hsm':=wQ hsm
 obtain⟨C',I,g,oC,oI,more,x,fp,St,rfl,rfl,hfp,hTy,W,hst⟩:=wY (prog:=prog) (w:=w) (elt:=eltStr) (tl:=tl) (s:=s) (λi y=>∃p t,ps[i]?=some p/\y=.str p.txt t) rfl rfl rfl (λ_ _ _=>by kernel_rfl) (λ_ _ _=>by kernel_rfl) hM hlg hg hgs (v5 hT ht)
  (aroundOf wh).in1.in1 rfl rfl (λq C cd A' E' i p s₂ m₂ hp hn hf hpt h3 h0=>wpAny_mono (Vp h3 hn hf hpt (hsm' p (List.mem_of_getElem? hp)).1 (hsm' p (List.mem_of_getElem? hp)).2)
   (λy s₃ h=>by
    obtain⟨⟨t,rfl⟩,hk⟩:=h
    exact⟨⟨p,t,hp,rfl⟩,hk⟩) λ_ _ e=>e)
 have hIn:a∈a::C'::fp:=.head _
 have h:=SC.joinGen (prog:=prog) (w:=w) (A:=aroundOf wh) (E:=λ_ _=>False) (s:=s) (x:=⟨#[]⟩) (t:=tn) (Q:=λv s'=>∃t' s₀ k,v=.str (textOf ps) t'/\s'={ s₀ with toks:=k }/\Moved (C'::[I]) (GenOnlyQ g) s s₀) W hTy hst hfp hIn
  (λi v hv=>by obtain⟨_,p,t,_,rfl⟩:=hv;exact⟨_,_,rfl⟩) (λs' l hmv hit=>by
   have hl:l.map (·.1)=ps.map Part.txt:=by
    have hsz:=hit.1
    simp only[List.size_toArray,strValues,List.length_map] at hsz
    refine List.ext_getElem (by simpa using hsz) λi h1 h2=>?_
    have h1':i < l.length:=by simpa using h1
    have h2':i < ps.length:=by simpa using h2
    obtain⟨_,p,t,hp,hv⟩:=hit.2 i (.str l[i].1 l[i].2) (by simp[strValues,h1'])
    rw[List.getElem?_eq_getElem h2'] at hp
    cases hp
    simp only[List.getElem_map]
    exact(Value.str.inj hv).1
   rw[hl]
   refine⟨?_,λt' k=>⟨t',s',k,rfl,rfl,hmv⟩⟩
   unfold JoinOk
   rw[List.foldl_toArray,wZ]
   rw[x8]
   ·rfl
   ·have:=Zi ps hsm'
    lia) (by rw[sizeLine_eq];lia)
 refine(CallsAt.of_wpAny h).mono' λr s' hr=>?_
 obtain⟨v,rfl,t',s₀,k,rfl,rfl,hmv⟩:=hr
 exact⟨t',rfl,uE hmv.heap hmv.gens hmv.os λb hb=>by
  simp only[List.mem_cons,List.not_mem_nil,or_false] at hb
  rcases hb with rfl|rfl
  ·exact .inl rfl
  ·exact .inr (.inl rfl)⟩
def Yg{C:Cfg}{w:World}{F:List Frame}{P:Params}{V:TopV}{ps:List Part}(U:Under C F)(hT:liveTail C.tail ps):ExtOk C w F (xJoinG P V ps):=by
 refine ExtOk.leafM U λprog s d c wh objs gs y hm hg hgs ht hy hlg hp=>?_
 cases hM:gMatch genStr scStr P V ps wh objs gs (rfV (vAt (argC c) 1)) with
 |none=>rw[hM] at hy;cases hy
 |some lg=>
 rw[hM] at hy
 cases hy
 refine(congrArg (λx=>CallsAt (model prog w) wh x _ s) (LV.c.inj (hlg _ (.head _)))).mpr ?_
 refine(u7 hT hM (λq hq=>hlg q (.tail _ hq)) hg hgs ht (LV.b.inj (hp _ (.head _))) (of_decide_eq_true (LV.b.inj (hp _ (.tail _ (.head _)))))).mono' λr s' h=>?_
 obtain⟨t,rfl,he⟩:=h
 exact⟨[],.of t,rfl,zh,rfl,he⟩
end Mine
end
noncomputable section
open PySem PySem.W
namespace Mine
structure FnR where
 b:List Stmt
 e:Env
 p:Pos
noncomputable def FnR.cp(r:FnR):Code × Pos:=(.func r.b r.e,r.p)
structure LpR where
 t:Expr
 i:Value
 b:List Stmt
 o:List Stmt
 e:Env
 p:Pos
noncomputable def LpR.cp(r:LpR):Code × Pos:=(.forLoop r.t r.i r.b r.o r.e,r.p)
structure BkR where
 b:List Stmt
 e:Env
 p:Pos
noncomputable def BkR.cp(r:BkR):Code × Pos:=(.block r.b r.e,r.p)
structure ClR where
 a:Args
 p:Pos
noncomputable def ClR.cp(r:ClR):Code × Pos:=(.builtin "claim.caller" r.a,r.p)
inductive Nx where
 |lp (l:LpR) (f1 f2:FnR) (c:ClR)
 |st (f0 f1 f2:FnR) (c:ClR)
 |bk (k:BkR) (f0:FnR) (l:LpR) (f1 f2:FnR) (c:ClR)
noncomputable def Nx.W:Nx->List (Code × Pos)
 | .lp l f1 f2 c=>[l.cp,f1.cp,f2.cp,c.cp]
 | .st f0 f1 f2 c=>[f0.cp,f1.cp,f2.cp,c.cp]
 | .bk k f0 l f1 f2 c=>[k.cp,f0.cp,l.cp,f1.cp,f2.cp,c.cp]
inductive CdK where
 |fn (b:List Stmt) (e:Env)
 |lp (t:Expr) (i:Value) (b o:List Stmt) (e:Env)
 |bk (b:List Stmt) (e:Env)
 |cl (i:String) (a:Args)
 |no
noncomputable def cdR:Code->CdK
 | .func b e=>.fn b e
 | .forLoop t i b o e=>.lp t i b o e
 | .block b e=>.bk b e
 | .builtin i a=>.cl i a
 | _=>.no
def CdK.says(c:Code):CdK->Prop
 | .fn b e=>c=.func b e
 | .lp t i b o e=>c=.forLoop t i b o e
 | .bk b e=>c=.block b e
 | .cl i a=>c=.builtin i a
 | .no=>True
def vD(c:Code):(cdR c).says c:=by cases c<;>first|exact True.intro|exact rfl
noncomputable def CdK.fn?(p:Pos):CdK->Option FnR
 | .fn b e=>some ⟨b,e,p⟩ | .lp ..=>none | .bk ..=>none | .cl ..=>none | .no=>none
noncomputable def CdK.lp?(p:Pos):CdK->Option LpR
 | .fn ..=>none | .lp t i b o e=>some ⟨t,i,b,o,e,p⟩ | .bk ..=>none | .cl ..=>none | .no=>none
noncomputable def CdK.bk?(p:Pos):CdK->Option BkR
 | .fn ..=>none | .lp ..=>none | .bk b e=>some ⟨b,e,p⟩ | .cl ..=>none | .no=>none
def CdK.cl?(p:Pos):CdK->Option ClR
 | .fn ..=>none | .lp ..=>none | .bk ..=>none | .no=>none
 | .cl i a=>match idB i 35714603318786955769505017188 with
  |true=>some ⟨a,p⟩
  |false=>none
def ZK?(x:Code × Pos):Option FnR:=(cdR x.1).fn? x.2
def Sf?(x:Code × Pos):Option LpR:=(cdR x.1).lp? x.2
def YT?(x:Code × Pos):Option BkR:=(cdR x.1).bk? x.2
def clR?(x:Code × Pos):Option ClR:=(cdR x.1).cl? x.2
def fn?_ok{c:Code}{p:Pos}{r:FnR}{k:CdK}(h:k.says c)(e:k.fn? p=some r):(c,p)=r.cp:=by
 cases k with
 |fn=>exact Option.some.inj e▸congrArg (·,p) h
 | _=>exact zr e
def lp?_ok{c:Code}{p:Pos}{r:LpR}{k:CdK}(h:k.says c)(e:k.lp? p=some r):(c,p)=r.cp:=by
 cases k with
 |lp=>exact Option.some.inj e▸congrArg (·,p) h
 | _=>exact zr e
def bk?_ok{c:Code}{p:Pos}{r:BkR}{k:CdK}(h:k.says c)(e:k.bk? p=some r):(c,p)=r.cp:=by
 cases k with
 |bk=>exact Option.some.inj e▸congrArg (·,p) h
 | _=>exact zr e
def cl?_end{i:String}{a:Args}{p:Pos}{r:ClR}{b:Bool}(hb:idB i 35714603318786955769505017188=b)(e:(match (generalizing:=false) b with|true=>some (⟨a,p⟩:ClR)|false=>none)=some r):((.builtin i a,p):Code × Pos)=r.cp:=by
 cases b with
 |false=>exact zr e
 |true=>exact Option.some.inj e▸congrArg (λj=>((Code.builtin j a,p):Code × Pos)) (XS hb (s:= "claim.caller") (by decide +kernel))
def cl?_ok{c:Code}{p:Pos}{r:ClR}{k:CdK}(h:k.says c)(e:k.cl? p=some r):(c,p)=r.cp:=by
 cases k with
 |cl=>exact(congrArg (·,p) h).trans (cl?_end rfl e)
 | _=>exact zr e
def ZK?_ok{x:Code × Pos}{r:FnR}(h:ZK? x=some r):x=r.cp:=fn?_ok (vD x.1) h
def Sf?_ok{x:Code × Pos}{r:LpR}(h:Sf? x=some r):x=r.cp:=lp?_ok (vD x.1) h
def YT?_ok{x:Code × Pos}{r:BkR}(h:YT? x=some r):x=r.cp:=bk?_ok (vD x.1) h
def clR?_ok{x:Code × Pos}{r:ClR}(h:clR? x=some r):x=r.cp:=cl?_ok (vD x.1) h
def xB{D β O:Type}{f:D->Option β}{x:D}{g:β->Option O}{y:O}{P:Prop}(h:(f x).bind g=some y)(k:∀b,f x=some b->g b=some y->P):P:=
 (Option.bind_eq_some_iff.mp h).elim λb p=>k b p.1 p.2
noncomputable def consB{D β:Type}(f:Code × Pos->Option D)(g:D->List (Code × Pos)->Option β):List (Code × Pos)->Option β
 |[]=>none
 |x::l=>(f x).bind λa=>g a l
def yd{D β:Type}{f:Code × Pos->Option D}{g:D->List (Code × Pos)->Option β}{cp:D->Code × Pos}{l R:List (Code × Pos)}{y:β}{F:List (Code × Pos)->List (Code × Pos)}
  (hf:∀{x a},f x=some a->x=cp a) (h:consB f g l=some y) (k:∀a l',g a l'=some y->F (cp a::l')=R):F l=R:=by
 cases l with
 |nil=>exact zr h
 |cons x l=>exact xB h λa h1 h=>(congrArg (λx=>F (x::l)) (hf h1)).trans (k a l h)
noncomputable def nilB{β:Type}(y:β):List (Code × Pos)->Option β
 |[]=>some y
 | _::_=>none
def WO{β:Type}{y z:β}{l R:List (Code × Pos)}{F:List (Code × Pos)->List (Code × Pos)}(h:nilB y l=some z)(k:y=z->F []=R):F l=R:=by
 cases l with
 |nil=>exact k (Option.some.inj h)
 |cons x l=>exact zr h
def TA?:List (Code × Pos)->Option (FnR × FnR × ClR):=consB ZK? λf1=>consB ZK? λf2=>consB clR? λc=>nilB (f1,f2,c)
def TA?_ok{l:List (Code × Pos)}{r:FnR × FnR × ClR}(h:TA? l=some r):l=[r.1.cp,r.2.1.cp,r.2.2.cp]:=
 yd (F:=λl=>l) ZK?_ok h λf1 _ h=>yd (F:=λl=>f1.cp::l) ZK?_ok h λf2 _ h=>yd (F:=λl=>f1.cp::f2.cp::l) clR?_ok h λc _ h=>
  WO (F:=λl=>f1.cp::f2.cp::c.cp::l) h λe=>e▸rfl
def Rc?(x:Code × Pos)(l:List (Code × Pos)):Option Nx:=(TA? l).bind λz=>
 ((ZK? x).map λf0=>.st f0 z.1 z.2.1 z.2.2).or ((Sf? x).map λl=>.lp l z.1 z.2.1 z.2.2)
def Rc?_ok{x:Code × Pos}{l:List (Code × Pos)}{r:Nx}(h:Rc? x l=some r):x::l=r.W:=
 xB h λz h1 h=>(congrArg (x::·) (TA?_ok h1)).trans (Or.elim (Option.or_eq_some_iff.mp h)
  (λh=>(Option.map_eq_some_iff.mp h).elim λ_ p=>p.2▸congrArg (·::[z.1.cp,z.2.1.cp,z.2.2.cp]) (ZK?_ok p.1))
  λh=>(Option.map_eq_some_iff.mp h.2).elim λ_ p=>p.2▸congrArg (·::[z.1.cp,z.2.1.cp,z.2.2.cp]) (Sf?_ok p.1))
def Rd?(k:BkR):List (Code × Pos)->Option Nx:=consB ZK? λf0=>consB Sf? λlp l=>(TA? l).map λq=>.bk k f0 lp q.1 q.2.1 q.2.2
def nx?:List (Code × Pos)->Option Nx
 |[]=>none
 |x::l=>match YT? x with
  |none=>Rc? x l
  |some k=>Rd? k l
def U5{l:List (Code × Pos)}{D:Type}{f:FnR × FnR × ClR->D}{y:D}{P:Prop}(h:(TA? l).map f=some y)(k:∀q,l=[q.1.cp,q.2.1.cp,q.2.2.cp]->f q=y->P):P:=
 (Option.map_eq_some_iff.mp h).elim λq p=>k q (TA?_ok p.1) p.2
def Rd?_ok{k:BkR}{l:List (Code × Pos)}{x:Nx}(h:Rd? k l=some x):k.cp::l=x.W:=
 yd (F:=λl=>k.cp::l) ZK?_ok h λf0 _ h=>yd (F:=λl=>k.cp::f0.cp::l) Sf?_ok h λlp _ h=>
  U5 h λ_ e1 e=>e▸congrArg (k.cp::f0.cp::lp.cp::·) e1
def nx?_end{y:Code × Pos}{l:List (Code × Pos)}{x:Nx}{o:Option BkR}(hk:YT? y=o)(h:(match (generalizing:=false) o with|none=>Rc? y l|some k=>Rd? k l)=some x):y::l=x.W:=by
 cases o with
 |none=>exact Rc?_ok h
 |some _=>exact YT?_ok hk▸Rd?_ok h
def nx?_ok{l:List (Code × Pos)}{x:Nx}(h:nx? l=some x):l=x.W:=by
 cases l with
 |nil=>exact zr h
 |cons y l=>exact nx?_end rfl h
inductive Lx where
 |nl (f:FnR) (x:Nx)
 |ow (f g:FnR) (x:Nx)
noncomputable def Lx.W:Lx->List (Code × Pos)
 | .nl f x=>f.cp::x.W
 | .ow f g x=>f.cp::g.cp::x.W
def lxO?(f:FnR):List (Code × Pos)->Option Lx:=consB ZK? λg r=>(nx? r).map λx=>.ow f g x
def lx?:List (Code × Pos)->Option Lx:=consB ZK? λf r=>((nx? r).map λx=>.nl f x).or (lxO? f r)
def lxO?_ok{f:FnR}{l:List (Code × Pos)}{x:Lx}(h:lxO? f l=some x):f.cp::l=x.W:=
 yd (F:=λl=>f.cp::l) ZK?_ok h λg _ h=>(Option.map_eq_some_iff.mp h).elim λ_ p=>p.2▸congrArg (f.cp::g.cp::·) (nx?_ok p.1)
def lx?_ok{l:List (Code × Pos)}{x:Lx}(h:lx? l=some x):l=x.W:=
 yd (F:=λl=>l) ZK?_ok h λf _ h=>Or.elim (Option.or_eq_some_iff.mp h)
  (λh=>(Option.map_eq_some_iff.mp h).elim λ_ p=>p.2▸congrArg (f.cp::·) (nx?_ok p.1)) λh=>lxO?_ok h.2
end Mine
end
noncomputable section
open PyProof.Rows PySem PySem.W
namespace Mine
noncomputable def memArr(l c:Int):Option Addr->Array Value
 |none=>#[]
 |some a=>#[.int l 0,.int c 0,.ref a]
def oMem(l c:Int)(m:Option Addr):Obj:=⟨.none,none,.fields (memArr l c m),#[]⟩
noncomputable def kOf(o:Option Out):Result->Sem PySem.Fin:=match o with
 |some o=>match o.cur with
  | .call _ _ _ _ k=>k
  | _=>λ_=>.unsupported ""
 |none=>λ_=>.unsupported ""
structure Acc where
 a:Addr
 d:Addr
 ps:List Part
 ep:Nat
 n:Int
 tk:Tok
 tn:Tok
 ep2:Nat
def Acc.slots(c:Acc)(P:Params)(V:TopV):zb:=[(c.a,accObj V c.d (partsArr c.ps) c.ep),(c.d,accDict P c.tk c.n c.tn c.ep2)]
structure QL where
 w:World
 b2:Bool
 V:TopV
 c:Acc
 cA:Addr
 p0:Pos
 x:Lx
def QL.P(q:QL)(b1:Bool):Params:=(rowW q.w b1 q.b2).params
def lenS(b1:Bool)(m:Option Addr)(c:Code)(q:QL):Start:=⟨cfg (q.P b1) q.V q.x.W 3 (partsTail q.c.ps),[xSum (q.P b1) q.V q.c.ps],(q.V.av 284,oMem 124 19 m)::q.c.slots (q.P b1) q.V,[],denF c,c,q.p0,[]⟩
noncomputable def lenC(q:QL):Code:=.call (.builtin "len") ⟨[.ref q.c.a],[]⟩
noncomputable def lenB(q:QL):Code:=.builtin "len" ⟨[.ref q.c.a],[]⟩
def lenK(b1:Bool)(q:QL):Result->Sem PySem.Fin:=kOf ((lenS b1 none (lenB q) q).run (λ_=>0) (λ_=>.of 0) (λ_=>0) 5 [3,644,644,642,578])
noncomputable def tpLen0:List Nat:=[3,644,644,642,578,0,578,576,7,3,4,6,0,7,3,644,644,642,3,644,644,642,0,3,644,9,4,576,5,5,2,5,6,8,17,8,7,3,644,644,642,644,644,642,0,3,644,3,644,644,642,3,3,644,1,1,0,17,9,19,3,6,0,4]
noncomputable def tpLen1:List Nat:=[3,644,644,642,578,0,578,576,7,3,4,6,0,7,3,644,644,642,3,644,644,642,0,3,644,9,4,576,5,6,8,11,5,7,3,644,644,642,644,644,642,0,3,644,3,644,644,642,3,3,644,1,1,0,11,9,13,3,6,0,4]
def lenXx(b1:Bool)(q:QL)(t:Tok)(a:Addr):Exp:=⟨lenK b1 q (.ok (.ret (.int (q.c.n+total q.c.ps) t))),lenB q,q.p0,[],(q.V.av 284,oMem 124 19 (some a))::q.c.slots (q.P b1) q.V,[],[(.b (smallB q.c.ps),.b true)]⟩
def WG(b1:Bool)(q:QL)(D:Nat->Addr)(Z:Nat->Ch)(O:Nat->Nat):lhs 3 [7,8,9] ((lenS b1 none (lenB q) q).run D Z O 95 tpLen0) =
  rhs 7 (lenXx b1 q ((Z 10).tok 0) (D 4)) ((lenS b1 none (lenB q) q).run D Z O 95 tpLen0):=by
 obtain⟨w,b2,V,c,cA,p0,x⟩:=q
 cases b1<;>cases x with
 |nl f x=>cases x<;>kernel_rfl
 |ow f g x=>cases x<;>kernel_rfl
def WF(b1:Bool)(q:QL)(D:Nat->Addr)(Z:Nat->Ch)(O:Nat->Nat):lhs 3 [4,5,6] ((lenS b1 (some q.cA) (lenB q) q).run D Z O 84 tpLen1) =
  rhs 4 (lenXx b1 q ((Z 5).tok 0) q.cA) ((lenS b1 (some q.cA) (lenB q) q).run D Z O 84 tpLen1):=by
 obtain⟨w,b2,V,c,cA,p0,x⟩:=q
 cases b1<;>cases x with
 |nl f x=>cases x<;>kernel_rfl
 |ow f g x=>cases x<;>kernel_rfl
def WE(b1:Bool)(q:QL)(D:Nat->Addr)(Z:Nat->Ch)(O:Nat->Nat):lhs 3 [7,8,9] ((lenS b1 none (lenC q) q).run D Z O 96 tpLen0) =
  rhs 7 (lenXx b1 q ((Z 10).tok 0) (D 4)) ((lenS b1 none (lenC q) q).run D Z O 96 tpLen0):=by
 obtain⟨w,b2,V,c,cA,p0,x⟩:=q
 cases b1<;>cases x with
 |nl f x=>cases x<;>kernel_rfl
 |ow f g x=>cases x<;>kernel_rfl
def WD(b1:Bool)(q:QL)(D:Nat->Addr)(Z:Nat->Ch)(O:Nat->Nat):lhs 3 [4,5,6] ((lenS b1 (some q.cA) (lenC q) q).run D Z O 85 tpLen1) =
  rhs 4 (lenXx b1 q ((Z 5).tok 0) q.cA) ((lenS b1 (some q.cA) (lenC q) q).run D Z O 85 tpLen1):=by
 obtain⟨w,b2,V,c,cA,p0,x⟩:=q
 cases b1<;>cases x with
 |nl f x=>cases x<;>kernel_rfl
 |ow f g x=>cases x<;>kernel_rfl
def lenTS(b1:Bool)(q:QL)(t:Tok)(d:Nat):Start:=⟨cfg (q.P b1) q.V q.x.W 3 (partsTail q.c.ps),[],(q.V.av 284,oMem 124 19 (some q.cA))::q.c.slots (q.P b1) q.V,[],
 lenK b1 q (.ok (.ret (.int (Int.ofNat d) t))),lenB q,q.p0,[]⟩
noncomputable def upTo:Nat->Nat->List Nat
 | _,0=>[]
 |i,n+1=>i::upTo (i+1) n
def UN(b1:Bool)(q:QL)(t:Tok)(D:Nat->Addr)(Z:Nat->Ch)(O:Nat->Nat):(upTo 0 100).map (λd=>lhs 3 [0,1,2] ((lenTS b1 q t d).run D Z O 2 [])) =
  (upTo 0 100).map λd=>rhs 0 ⟨.pure (.done (.ret (.int (Int.ofNat d) ((Z 0).tok 0)))),lenB q,q.p0,[],(q.V.av 284,oMem 124 19 (some q.cA))::q.c.slots (q.P b1) q.V,[],[]⟩ ((lenTS b1 q t d).run D Z O 2 []):=by
 cases b1<;>kernel_rfl
theorem vU:∀{i n k:Nat},i<=k->k < i+n->k∈upTo i n
 |i,0,k,h1,h2=>by lia
 |i,n+1,k,h1,h2=>by
  by_cases e:i=k
  ·subst e;exact .head _
  ·exact .tail _ (vU (by lia) (by lia))
theorem Zu{β O:Type}{f g:β->O}:∀{l:List β},l.map f=l.map g->∀x∈l,f x=g x
 |[],_,_,h=>by cases h
 |y::l,e,x,h=>by
  simp only[List.map_cons,List.cons.injEq] at e
  rcases List.mem_cons.mp h with rfl|h
  ·exact e.1
  ·exact Zu e.2 x h
def zd:Lg.Ok []:=λ_ h=>by cases h
theorem z0{C:Cfg}{w:World}{F:List Frame}{E:Ext}(h:ExtOk C w F E):∀e E',nth [E] e=some E'->ExtOk C w F E'
 |0,E',e=>by cases e;exact h
 | _+1,E',e=>by cases e
def Xq{C:Cfg}{w:World}{F:List Frame}:∀e E',nth [] e=some E'->ExtOk C w F E':=λe E' h=>by cases h
def Rel.perm{C:Cfg}{T T' G s}(R:Rel C T G s)(h:T.Perm T'):Rel C T' G s:=
 R.sub (λp hp=>h.mem_iff.mpr hp) ((h.map _).nodup_iff.mp R.nodup) (λ_ hp=>hp) R.gnodup
noncomputable def exLg:List Part->zb->Option Lg
 |[],[]=>some []
 |p::ps,(y,o)::r=>match exLg ps r with
  |some l=>some ((.n y,.n p.a)::(.o o,.o (tupO p.F p.tF p.S p.tS))::l)
  |none=>none
 | _,_=>none
noncomputable def exObjs(ps:List Part):List Obj:=ps.map λp=>tupO p.F p.tF p.S p.tS
def Zb(ps:List Part):((partsTail ps).map (·.1)).zip (exObjs ps)=partsTail ps:=by
 induction ps with
 |nil=>rfl
 |cons p ps ih=>
  exact congrArg (List.cons _) ih
noncomputable def memoOf:List Value->Option Addr
 |[_,_,.ref a]=>some a
 | _=>none
theorem Under.at{C:Cfg}{F:List Frame}{wh:List (Code × Pos)}{m:Nat}{C':Cfg}(U:Under (C.at wh m) F)(h:C'.W=wh):Under C' F:=⟨U.wh.trans h.symm,U.hd,U.past⟩
noncomputable def strC(c:Acc):Code:=.call (.type "str") ⟨[.ref c.a],[]⟩
def strS(b1:Bool)(m:Option Addr)(q:QL):Start:=⟨cfg (q.P b1) q.V q.x.W 3 (partsTail q.c.ps),[xJoinG (q.P b1) q.V q.c.ps],(q.V.av 291,oMem 127 32 m)::q.c.slots (q.P b1) q.V,[],denF (strC q.c),strC q.c,q.p0,[]⟩
noncomputable def tpStr0:List Nat:=[0,3,644,644,642,592,0,592,590,7,3,4,6,7,3,644,644,642,3,644,644,642,0,3,644,9,4,590,5,5,2,5,6,8,17,8,1,0,17,9,19,3,6,0,4,0]
noncomputable def tpStr1:List Nat:=[0,3,644,644,642,592,0,592,590,7,3,4,6,7,3,644,644,642,3,644,644,642,0,3,644,9,4,590,5,6,8,11,5,1,0,11,9,13,3,6,0,4,0]
def strXx(b1:Bool)(q:QL)(t:Tok)(a:Addr):Exp:=⟨.pure (.done (.ret (.str (textOf q.c.ps) t))),.builtin "type.__call__" ⟨[.type "str", .ref q.c.a],[]⟩,q.p0,[],(q.V.av 291,oMem 127 32 (some a))::q.c.slots (q.P b1) q.V,[],[(.b (smallB q.c.ps),.b true),(.b (decide (q.c.ps.length<=40)),.b true)]⟩
def UM(b1:Bool)(q:QL)(D:Nat->Addr)(Z:Nat->Ch)(O:Nat->Nat):lhs 3 [7,8,9] ((strS b1 none q).run D Z O 79 tpStr0) =
  rhs 7 (strXx b1 q ((Z 9).tok 0) (D 4)) ((strS b1 none q).run D Z O 79 tpStr0):=by
 obtain⟨w,b2,V,c,cA,p0,x⟩:=q
 cases b1<;>cases x with
 |nl f x=>cases x<;>kernel_rfl
 |ow f g x=>cases x<;>kernel_rfl
def UL(b1:Bool)(q:QL)(D:Nat->Addr)(Z:Nat->Ch)(O:Nat->Nat):lhs 3 [4,5,6] ((strS b1 (some q.cA) q).run D Z O 68 tpStr1) =
  rhs 4 (strXx b1 q ((Z 4).tok 0) q.cA) ((strS b1 (some q.cA) q).run D Z O 68 tpStr1):=by
 obtain⟨w,b2,V,c,cA,p0,x⟩:=q
 cases b1<;>cases x with
 |nl f x=>cases x<;>kernel_rfl
 |ow f g x=>cases x<;>kernel_rfl
structure Wd where
 w:World
 b1:Bool
 b2:Bool
 V0:TopV
 hw:w=rowW w b1 b2
def Wd.P(K:Wd):Params:=(rowW K.w K.b1 K.b2).params
noncomputable def Wd.V(K:Wd):TopV:={ K.V0 with av:=λn=>n }
structure St where
 cur:Sem PySem.Fin
 code:Code
 pos:Pos
 fs:List Frame
 T:zb
structure Und (W:List (Code × Pos)) (F:List Frame):Prop where
 wh:F.map Frame.where_=W
 hd:topHandled F=none
 past:topHandled.go true F=none
def Und.under{W:List (Code × Pos)}{F:List Frame}(U:Und W F){C:Cfg}(h:C.W=W):Under C F:=⟨U.wh.trans h.symm,U.hd,U.past⟩
def Und.of{C:Cfg}{F:List Frame}(U:Under C F):Und C.W F:=⟨U.wh,U.hd,U.past⟩
abbrev RB(K:Wd)(T:zb)(s:Shared):Prop:=Rel (cfg K.P K.V [] 1 []) T [] s
inductive SegE (K:Wd) (F:List Frame) (a:St) (B:St->Prop) (s:Shared):Prop
 |mk (b:St) (s':Shared) (hb:B b) (c:Comes (model progP K.w) s ⟨a.cur,a.code,a.pos,a.fs++F⟩ s' ⟨b.cur,b.code,b.pos,b.fs++F⟩) (r:RB K b.T s') (k:Kp a.T [] s s') (o:Old a.T b.T s.heap.objs.size):SegE K F a B s
def Seg(K:Wd)(W:List (Code × Pos))(a:St)(B:St->Prop):Prop:=∀s F,Und W F->RB K a.T s->SegE K F a B s
inductive RunE (x:(Nat->Addr)->(Nat->Ch)->(Nat->Nat)->Exp) (tl:zb):St->Prop
 |mk (D Z O):RunE x tl ⟨(x D Z O).cur,(x D Z O).code,(x D Z O).pos,(x D Z O).fs,(x D Z O).T++tl⟩
inductive FrE (B:St->Prop) (R:zb):St->Prop
 |mk (b:St) (h:B b):FrE B R { b with T:=b.T++R }
def FrE.of{B:St->Prop}{R:zb}{s:St}(b:St)(h:B b)(e:s={ b with T:=b.T++R }):FrE B R s:=e▸.mk b h
section
variable {K:Wd} {W:List (Code × Pos)} {a:St} {B B':St->Prop}
theorem Seg.refl(h:B a):Seg K W a B:=λs F U R=>⟨a,s,h,.refl _ _,R,.refl ..,.keys λ_ q=>q⟩
theorem Seg.mono(h:Seg K W a B)(m:∀b,B b->B' b):Seg K W a B':=λs F U R=>
 let ⟨b,s',hb,c,r,k,o⟩:=h s F U R
 ⟨b,s',m b hb,c,r,k,o⟩
theorem Seg.trans(h:Seg K W a B)(h':∀b,B b->Seg K W b B'):Seg K W a B':=λs F U R=>by
 obtain⟨b,s₁,hb,c₁,R₁,K₁,o₁⟩:=h s F U R
 obtain⟨b',s₂,hb',c₂,R₂,K₂,o₂⟩:=h' b hb s₁ F U R₁
 exact⟨b',s₂,hb',.trans c₁ c₂,R₂,K₁.trans_sub K₂ o₁.ne (λ_ _ _ q=>q),o₁.trans o₂ K₁.size⟩
theorem Seg.post(h:Seg K W a B)(m:∀b,B b->∃b' rest,B' b'/\b'.cur=b.cur/\b'.code=b.code/\b'.pos=b.pos/\b'.fs=b.fs/\b.T.Perm (b'.T++rest)):Seg K W a B':=λs F U R=>by
 obtain⟨b,s',hb,c,R',K',o⟩:=h s F U R
 obtain⟨b',rest,hb',e1,e2,e3,e4,hp⟩:=m b hb
 have sb:∀p∈b'.T,p∈b.T:=λp hq=>hp.mem_iff.mpr (List.mem_append_left _ hq)
 refine⟨b',s',hb',by rw[e1,e2,e3,e4];exact c,R'.sub sb ?_ (λ_ q=>q) List.nodup_nil,K',λp hq=>o p (sb p hq)⟩
 have:=(hp.map (·.1)).nodup_iff.mp R'.nodup
 rw[List.map_append] at this
 exact(List.nodup_append.mp this).1
theorem Seg.pre{T rest:zb}(hp:a.T.Perm (T++rest))(hl:∀p∈rest,p.2.isFreed=false->True)(h:Seg K W { a with T:=T } B):Seg K W a B:=λs F U R=>by
 have sb:∀p∈T,p∈a.T:=λp hq=>hp.mem_iff.mpr (List.mem_append_left _ hq)
 have nd:=(hp.map (·.1)).nodup_iff.mp R.nodup
 rw[List.map_append] at nd
 obtain⟨b,s',hb,c,R',K',o⟩:=h s F U (R.sub sb (List.nodup_append.mp nd).1 (λ_ q=>q) List.nodup_nil)
 refine⟨b,s',hb,c,R',⟨λx o hx q=>K'.heap x o hx λp hq=>q p (sb p hq),K'.gens,K'.os,K'.size⟩,λp hq hl=>?_⟩
 obtain⟨q,hq',e⟩:=o p hq hl
 exact⟨q,sb q hq',e⟩
theorem Seg.perm{T:zb}(hp:a.T.Perm T)(h:Seg K W { a with T:=T } B):Seg K W a B:=
 Seg.pre (rest:=[]) (by rw[List.append_nil];exact hp) (λ_ h=>by cases h) h
theorem Seg.frame(R:zb)(hR:∀p∈R,p.2.isFreed=false)(h:Seg K W a B):Seg K W { a with T:=a.T++R } (FrE B R):=λs F U Re=>by
 have nd:=Re.nodup
 rw[List.map_append] at nd
 have nd':=List.nodup_append.mp nd
 have live:∀p∈R,s.heap.get? p.1=some p.2:=λp hp=>Re.slots p (List.mem_append_right _ hp) (hR p hp)
 have out:∀p∈R,∀q∈a.T,q.1≠p.1:=λp hp q hq e=>nd'.2.2 _ (List.mem_map_of_mem hq) _ (List.mem_map_of_mem hp) e
 obtain⟨b,s',hb,c,R',K',o⟩:=h s F U (Re.sub (λp hp=>List.mem_append_left _ hp) nd'.1 (λ_ q=>q) List.nodup_nil)
 refine⟨{ b with T:=b.T++R },s',⟨b,hb⟩,c,⟨λp hp hf=>?_,λp hp=>?_,?_,R'.base,λp hp L q hL=>?_,R'.gslots,R'.gnodup,R'.bare⟩,⟨λx o hx q=>K'.heap x o hx λp hq=>q p (List.mem_append_left _ hq),K'.gens,K'.os,K'.size⟩,λp hp hl=>?_⟩
 ·rcases List.mem_append.mp hp with hp|hp
  ·exact R'.slots p hp hf
  ·exact K'.heap _ _ (live p hp) (out p hp)
 ·rcases List.mem_append.mp hp with hp|hp
  ·exact R'.bound p hp
  ·exact Nat.lt_of_lt_of_le (Re.bound p (List.mem_append_right _ hp)) K'.size
 ·show ((b.T++R).map (·.1)).Nodup
  rw[List.map_append,List.nodup_append]
  refine⟨R'.nodup,nd'.2.1,λx hx y hy e=>?_⟩
  subst e
  obtain⟨p,hp,e1⟩:=List.mem_map.mp hx
  obtain⟨q,hq,e2⟩:=List.mem_map.mp hy
  exact o.ne _ _ (live q hq) (λr hr=>out q hq r hr) p hp (e1.trans e2.symm)
 ·rcases List.mem_append.mp hp with hp|hp
  ·exact R'.apart p hp L q hL
  ·exact Re.apart p (List.mem_append_right _ hp) L q hL
 ·rcases List.mem_append.mp hp with hp|hp
  ·obtain⟨q,hq,e⟩:=o p hp hl
   exact⟨q,List.mem_append_left _ hq,e⟩
  ·exact⟨p,List.mem_append_right _ hp,rfl⟩
theorem Wn(P:Params)(V:TopV):base P V 362=some (V.av 362,o_362 P V):=by kernel_rfl
theorem Seg.go{X:List Ext}{n na m:Nat}{tp:List Nat}{T tl:zb}{cur:Sem PySem.Fin}{code:Code}{pos:Pos}{fs:List Frame}
  (hX:∀F,Under (cfg K.P K.V W m tl) F->∀e E,nth X e=some E->ExtOk (cfg K.P K.V W m tl) K.w F E)
  (x:(Nat->Addr)->(Nat->Ch)->(Nat->Nat)->Exp) (sel:List Nat)
  (h:∀D Z O,lhs m sel (exec (cfg K.P K.V W m tl) X D Z O n tp (T++tl) 0 0 [] 0 [] [] cur code pos fs)=rhs na (x D Z O) (exec (cfg K.P K.V W m tl) X D Z O n tp (T++tl) 0 0 [] 0 [] [] cur code pos fs))
  (hsel:distinct sel=true) (hT:T.length=m) (hm:0 < m) (hpc:∀D Z O,Lg.Ok (x D Z O).pc) (hG:∀D Z O,(x D Z O).G=[]) :
  Seg K W ⟨cur,code,pos,fs,T++tl⟩ (RunE x tl):=λs F U R=>by
 have dc:=Zf (V:=K.V) (W:=W) (n:=m) (tl:=tl) K.hw hm
 have U':Under (cfg K.P K.V W m tl) F:=U.under rfl
 obtain⟨D,Z,O,s',c,R',K',f,o⟩:=QG dc U' (hX F U') x sel h hsel hT hpc (Rel.cfg (C:=cfg K.P K.V [] 1 []) rfl R)
 rw[hG] at R'
 exact⟨_,s',⟨D,Z,O⟩,c,Rel.cfg (C:=cfg K.P K.V W m tl) rfl R',K',o⟩
end
def fnP{S M:Type}(sh:List (Code × Pos)->Option S)(rd:Nat->Code->zb->Option M)(C:Nat->S->M->Code)(pre:Nat->S->M->zb)(d:Nat)(c:Code)(wh:List (Code × Pos))(objs:zb):Option (Nat × S × M × Lg):=match sh wh with
 |some x=>match rd d c objs with
  |some u=>match zipLg objs (pre d x u) with
   |some l=>some (d,x,u,(.c c,.c (C d x u))::l)
   |none=>none
  |none=>none
 |none=>none
def ZL{S M:Type}{sh:List (Code × Pos)->Option S}{rd:Nat->Code->zb->Option M}{C:Nat->S->M->Code}{pre:Nat->S->M->zb}{d:Nat}{c:Code}{wh:List (Code × Pos)}{objs:zb}{y:Nat × S × M × Lg}(h:fnP sh rd C pre d c wh objs=some y) :
  ∃x u l,sh wh=some x/\rd d c objs=some u/\zipLg objs (pre d x u)=some l/\y=(d,x,u,(.c c,.c (C d x u))::l):=by
 unfold fnP at h
 cases h1:sh wh with
 |none=>rw[h1] at h;exact zr h
 |some x=>
  rw[h1] at h
  cases h2:rd d c objs with
  |none=>rw[h2] at h;exact zr h
  |some u=>
   rw[h2] at h
   cases h3:zipLg objs (pre d x u) with
   |none=>simp only[h3] at h;exact zr h
   |some l=>
    simp only[h3] at h
    exact⟨x,u,l,rfl,rfl,h3,(Option.some.inj h).symm⟩
def Z5{s:Shared}{xs:List Addr}{news posts:List Obj}{P tl:zb}(h1:xs.length=news.length)(h2:P.length=posts.length)(nd:((xs.zip news++((P.map (·.1)).zip posts++tl)).map (·.1)).Nodup)
  (o:∀p∈xs.zip news++((P.map (·.1)).zip posts++tl),p.1 < s.heap.objs.size->∃q∈P++tl,q.1=p.1):∀z∈xs,s.heap.objs.size<=z:=λz hz=>Nat.le_of_not_lt λhlt=>by
 rw[List.map_append,List.map_append,List.map_fst_zip (Nat.le_of_eq h1),List.map_fst_zip (by rw[List.length_map];exact Nat.le_of_eq h2)] at nd
 have hmem:z∈(xs.zip news).map (·.1):=by rw[List.map_fst_zip (Nat.le_of_eq h1)];exact hz
 obtain⟨p,hp,rfl⟩:=List.mem_map.mp hmem
 obtain⟨q,hq,e⟩:=o p (List.mem_append_left _ hp) hlt
 refine(List.nodup_append.mp nd).2.2 _ hz q.1 ?_ e.symm
 rw[<-List.map_append]
 exact List.mem_map_of_mem hq
def Tz{K:Wd}{W W':List (Code × Pos)}{n m j:Nat}{tl P:zb}{o:List Addr->Ch->UOut}{c:Code}{pos:Pos}{s:Shared}{F':List Frame}(hP:P.length=m)(ho:∀xs t,(o xs t).posts.length=m)
  (hs:Seg K W' ⟨denF c,c,pos,[],P++tl⟩ (λb=>∃xs t,xs.length=j/\(o xs t).news.length=j/\b.cur=leafOf (o xs t).res/\b.fs=[]/\b.T=xs.zip (o xs t).news++((P.map (·.1)).zip (o xs t).posts++tl)))
  (U':Under ((cfg K.P K.V W n tl).at W' m) F') (R':Rel ((cfg K.P K.V W n tl).at W' m) (P++tl) [] s) :
  UsE ((cfg K.P K.V W n tl).at W' m) K.w c pos F' P s j o:=by
 obtain⟨⟨bcur,bcode,bpos,bfs,bT⟩,s',⟨xs,t,h1,h2,rfl,rfl,rfl⟩,c₁,R₁,K₁,o₁⟩:=hs s F' (Und.of U') (Rel.cfg (C:=(cfg K.P K.V W n tl).at W' m) rfl R')
 exact⟨xs,t,h1,Z5 (h1.trans h2.symm) (hP.trans (ho xs t).symm) R₁.nodup o₁,s',bcode,bpos,c₁,Rel.cfg (C:=cfg K.P K.V [] 1 []) rfl R₁,h1.trans h2.symm,K₁⟩
def fnX{S M:Type}(m:Nat)(k:Nat->Nat)(sh:List (Code × Pos)->Option S)(rd:Nat->Code->zb->Option M)(C:Nat->S->M->Code)(pre:Nat->S->M->zb)(pc:Nat->S->M->Lg)
  (out:Nat->S->M->List Addr->Ch->UOut):Ext:=
 mkE m k (Y:=Nat × S × M × Lg) (fnP sh rd C pre) (λy=>y.2.2.2) (λy=>pc y.1 y.2.1 y.2.2.1) (λy xs t=>out y.1 y.2.1 y.2.2.1 xs t)
def ExtOk.fn{K:Wd}{W:List (Code × Pos)}{n:Nat}{tl:zb}{F:List Frame}(U:Under (cfg K.P K.V W n tl) F)(htl:∀p∈tl,p.2.isFreed=false){S M:Type}{m:Nat}{k:Nat->Nat}{sh:List (Code × Pos)->Option S}{rd:Nat->Code->zb->Option M}
  {C:Nat->S->M->Code} {pre:Nat->S->M->zb} {pc:Nat->S->M->Lg} {out:Nat->S->M->List Addr->Ch->UOut} (Wof:S->List (Code × Pos)) (Good:S->Prop) (hsh:∀wh x,sh wh=some x->wh=Wof x/\Good x)
  (hlen:∀d c objs x u xs t,rd d c objs=some u->(out d x u xs t).posts.length=m)
  (H:∀d x u,Good x->Lg.Ok (pc d x u)->(pre d x u).length=m->∀pos,Seg K (Wof x) ⟨denF (C d x u),C d x u,pos,[],pre d x u++tl⟩ (λb=>∃xs t,xs.length=k d/\(out d x u xs t).news.length=k d/\b.cur=leafOf (out d x u xs t).res/\b.fs=[]/\
   b.T=xs.zip (out d x u xs t).news++(((pre d x u).map (·.1)).zip (out d x u xs t).posts++tl))) :
  ExtOk (cfg K.P K.V W n tl) K.w F (fnX m k sh rd C pre pc out):=by
 refine ExtOk.user U yD htl (λd c wh objs y xs t hy=>by
  obtain⟨x,u,l,_,hμ,_,rfl⟩:=ZL hy
  exact hlen _ _ _ _ _ _ _ hμ) ?_
 intro d c wh objs y hobj hpre hlg hpc s pos F' U' R'
 obtain⟨x,u,l,hx,hμ,hl,rfl⟩:=ZL hpre
 obtain⟨rfl,hgood⟩:=hsh _ _ hx
 have e1:c=C d x u:=LV.c.inj (hlg _ (.head _))
 have e2:=yf hl λq hq=>hlg q (.tail _ hq)
 subst e1 e2
 exact Tz hobj (λxs t=>hlen _ _ _ x u xs t hμ) (H d x u hgood hpc hobj pos) U' R'
structure Bag where
 b:Nat->List Stmt
 e:Nat->Env
 p:Nat->Pos
 t:Nat->Expr
 i:Nat->Value
 o:Nat->List Stmt
 a:Nat->Args
 d:Nat->Nat
 g:Nat->List Comprehension
 s:Nat->Scope
 q:Nat->Pos
noncomputable def Wk:List Nat->Bag->Nat->List (Code × Pos)
 |[],_,_=>[]
 |0::r,x,n=>(.func (x.b n) (x.e n),x.p n)::Wk r x (n+1)
 |1::r,x,n=>(.forLoop (x.t n) (x.i n) (x.b n) (x.o n) (x.e n),x.p n)::Wk r x (n+1)
 |2::r,x,n=>(.block (x.b n) (x.e n),x.p n)::Wk r x (n+1)
 |3::r,x,n=>(.builtin "claim.caller" (x.a n),x.p n)::Wk r x (n+1)
 |4::r,x,n=>(.compLoop (.ListComp (x.t n) (x.g n) (x.s n) (x.q n)) (x.d n) (x.i n) (x.i (n+100)) (x.e n),x.p n)::Wk r x (n+1)
 | _::r,x,n=>Wk r x (n+1)
def kindOf:Code->Nat
 | .func ..=>0
 | .forLoop ..=>1
 | .block ..=>2
 | .builtin id _=>match idB id 35714603318786955769505017188 with
  |true=>3
  |false=>9
 | .compLoop t ..=>match t with
  | .ListComp ..=>4
  | _=>9
 | _=>9
noncomputable def kinds:List (Code × Pos)->List Nat
 |[]=>[]
 |(c,_)::r=>kindOf c::kinds r
noncomputable def cB:Code->List Stmt
 | .func b _=>b
 | .forLoop _ _ b _ _=>b
 | .block b _=>b
 | _=>[]
noncomputable def cEnv:Code->Env
 | .func _ e=>e
 | .forLoop _ _ _ _ e=>e
 | .block _ e=>e
 | .compLoop _ _ _ _ e=>e
 | _=>default
noncomputable def cTm:Code->Expr
 | .forLoop t _ _ _ _=>t
 | .compLoop t _ _ _ _=>t
 | _=>default
def xlE(e:Expr):Expr:=(exP e).1
def cT:Code->Expr
 | .forLoop t _ _ _ _=>t
 | .compLoop t _ _ _ _=>xlE t
 | _=>default
noncomputable def cIt:Code->Value
 | .forLoop _ i _ _ _=>i
 | .compLoop _ _ i _ _=>i
 | _=>default
noncomputable def cAcc:Code->Value
 | .compLoop _ _ _ a _=>a
 | _=>default
noncomputable def cEls:Code->List Stmt
 | .forLoop _ _ _ o _=>o
 | _=>default
noncomputable def cArgs:Code->Args
 | .builtin _ a=>a
 | _=>default
noncomputable def cDep:Code->Nat
 | .compLoop _ d _ _ _=>d
 | _=>default
def xlG(e:Expr):List Comprehension:=(exP e).2.2.2.2.2.1
def xlS(e:Expr):Scope:=(exP e).2.2.1
def xlQ(e:Expr):Pos:=(exP e).2.2.2.2.2.2.1
def cAt(l:List (Code × Pos))(n:Nat):Code:=match nth l n with
 |some p=>p.1
 |none=>.builtin "" {}
def pAt(l:List (Code × Pos))(n:Nat):Pos:=match nth l n with
 |some p=>p.2
 |none=>default
def bagOf(l:List (Code × Pos)):Bag where
 b n:=cB (cAt l n)
 e n:=cEnv (cAt l n)
 p n:=pAt l n
 t n:=cT (cAt l n)
 i n:=match Nat.blt n 100 with
  |true=>cIt (cAt l n)
  |false=>cAcc (cAt l (n - 100))
 o n:=cEls (cAt l n)
 a n:=cArgs (cAt l n)
 d n:=cDep (cAt l n)
 g n:=xlG (cTm (cAt l n))
 s n:=xlS (cTm (cAt l n))
 q n:=xlQ (cTm (cAt l n))
theorem yF{D:Type}:∀(l:List D) (x:D) (r:List D),nth (l++x::r) l.length=some x
 |[],_,_=>rfl
 | _::l,x,r=>yF l x r
def QW{l:List (Code × Pos)}{n:Nat}(h:n < 100):(bagOf l).i n=cIt (cAt l n)/\(bagOf l).i (n+100)=cAcc (cAt l n):=by
 have hb:Nat.blt n 100=true:=by rw[Nat.blt_eq];exact h
 have hb2:Nat.blt (n+100) 100=false:=by rw[Bool.eq_false_iff,ne_eq,Nat.blt_eq];lia
 constructor
 ·show (match Nat.blt n 100 with|true=>cIt (cAt l n)|false=>cAcc (cAt l (n - 100)))=_
  rw[hb]
 ·show (match Nat.blt (n+100) 100 with|true=>cIt (cAt l (n+100))|false=>cAcc (cAt l (n+100 - 100)))=_
  rw[hb2,Nat.add_sub_cancel]
def T7{L:List (Code × Pos)}{n:Nat}{c:Code}{p:Pos}{ks:List Nat}(hn:n < 100)(hc:cAt L n=c)(hp:pAt L n=p)(h9:kindOf c≠9):Wk (kindOf c::ks) (bagOf L) n=(c,p)::Wk ks (bagOf L) (n+1):=by
 obtain⟨i1,i2⟩:=QW (l:=L) hn
 cases c with
 |builtin id args=>
  cases hid:idB id 35714603318786955769505017188 with
  |true=>
   have:=XS hid (s:= "claim.caller") (by decide +kernel)
   subst this
   rw[show kindOf (.builtin "claim.caller" args)=3 by unfold kindOf;simp only[hid]]
   show (Code.builtin "claim.caller" (cArgs (cAt L n)),pAt L n)::_=_
   rw[hc,hp]
   rfl
  |false=>
   refine absurd ?_ h9
   unfold kindOf
   simp only[hid]
 |func b e=>
  show (Code.func (cB (cAt L n)) (cEnv (cAt L n)),pAt L n)::_=_
  rw[hc,hp]
  rfl
 |block b e=>
  show (Code.block (cB (cAt L n)) (cEnv (cAt L n)),pAt L n)::_=_
  rw[hc,hp]
  rfl
 |forLoop t i b o e=>
  show (Code.forLoop (cT (cAt L n)) ((bagOf L).i n) (cB (cAt L n)) (cEls (cAt L n)) (cEnv (cAt L n)),pAt L n)::_=_
  rw[i1,hc,hp]
  rfl
 |compLoop t d i a e=>
  cases t with
  |ListComp el gs sc ps=>
   show (Code.compLoop (.ListComp (cT (cAt L n)) (xlG (cTm (cAt L n))) (xlS (cTm (cAt L n))) (xlQ (cTm (cAt L n)))) (cDep (cAt L n)) ((bagOf L).i n) ((bagOf L).i (n+100)) (cEnv (cAt L n)),pAt L n)::_=_
   rw[i1,i2,hc,hp]
   rfl
  | _=>exact absurd rfl h9
 | _=>exact absurd rfl h9
def Wo:∀(r l:List (Code × Pos)),(l++r).length < 100->(∀k∈kinds r,k≠9)->Wk (kinds r) (bagOf (l++r)) l.length=r:=by
 intro r
 induction r with
 |nil=>exact λ_ _ _=>rfl
 |cons x r IH=>
  intro l hl h
  have ih:=IH (l++[x]) (by rw[List.append_assoc];exact hl) (λk hk=>h k (.tail _ hk))
  rw[List.append_assoc,List.length_append] at ih
  have hn:=yF l x r
  rw[List.length_append,List.length_cons] at hl
  refine(T7 (L:=l++x::r) (n:=l.length) (c:=x.1) (p:=x.2) (by lia) (by unfold cAt;rw[hn]) (by unfold pAt;rw[hn]) (h (kindOf x.1) (.head _))).trans ?_
  exact congrArg (x::·) ih
noncomputable def no9:List Nat->Bool
 |[]=>true
 |k::r=>match Nat.beq k 9 with
  |true=>false
  |false=>no9 r
theorem Xs:∀{l:List Nat},no9 l=true->∀k∈l,k≠9
 |[],_,_,h=>by cases h
 |k::r,h,j,hj=>by
  unfold no9 at h
  split at h
  ·cases h
  ·rename_i hb
   rcases List.mem_cons.mp hj with rfl|hj
   ·intro e;subst e;simp at hb
   ·exact Xs h j hj
noncomputable def eqN:List Nat->List Nat->Bool
 |[],[]=>true
 |a::l,b::r=>match Nat.beq a b with
  |true=>eqN l r
  |false=>false
 | _,_=>false
theorem XY:∀{l r:List Nat},eqN l r=true->l=r
 |[],[],_=>rfl
 |[],_::_,h=>by cases h
 | _::_,[],h=>by cases h
 |a::l,b::r,h=>by
  have h:(match Nat.beq a b with|true=>eqN l r|false=>false)=true:=h
  cases hb:Nat.beq a b with
  |true=>
   rw[hb] at h
   rw[Nat.eq_of_beq_eq_true hb,XY h]
  |false=>rw[hb] at h;cases h
noncomputable def inN:List (List Nat)->List Nat->Bool
 |[],_=>false
 |a::l,x=>match eqN a x with
  |true=>true
  |false=>inN l x
theorem XR:∀{l:List (List Nat)} {x:List Nat},inN l x=true->x∈l
 |[],_,h=>by cases h
 |a::l,x,h=>by
  unfold inN at h
  split at h
  ·rename_i hb
   rw[XY hb];exact .head _
  ·exact .tail _ (XR h)
def shk(al:List (List Nat))(wh:List (Code × Pos)):Option (List Nat × Bag):=match Nat.blt wh.length 100 with
 |true=>match inN al (kinds wh) with
  |true=>match no9 (kinds wh) with
   |true=>some (kinds wh,bagOf wh)
   |false=>none
  |false=>none
 |false=>none
def WK(x:List Nat × Bag):List (Code × Pos):=Wk x.1 x.2 0
def z8{al:List (List Nat)}{wh:List (Code × Pos)}{x:List Nat × Bag}(h:shk al wh=some x):wh=WK x/\x.1∈al:=by
 unfold shk at h
 cases h1:Nat.blt wh.length 100 with
 |false=>rw[h1] at h;cases h
 |true=>
  rw[h1] at h
  dsimp only at h
  cases h2:inN al (kinds wh) with
  |false=>rw[h2] at h;cases h
  |true=>
   rw[h2] at h
   dsimp only at h
   cases h3:no9 (kinds wh) with
   |false=>rw[h3] at h;cases h
   |true=>
    rw[h3] at h
    simp only[Option.some.injEq] at h
    subst h
    rw[Nat.blt_eq] at h1
    exact⟨(Wo wh [] h1 (Xs h3)).symm,XR h2⟩
noncomputable def kst(o:Option Out):List (Code × Pos)->Sem PySem.Fin:=match o with
 |some o=>match o.cur with
  | .stack k=>k
  | _=>λ_=>.unsupported ""
 |none=>λ_=>.unsupported ""
theorem Seg.stack{K:Wd}{W:List (Code × Pos)}{k:List (Code × Pos)->Sem PySem.Fin}{code:Code}{pos:Pos}{fs:List Frame}{T:zb}{B:St->Prop}
  (h:Seg K W ⟨k ((code,pos)::(fs.map Frame.where_++W)),code,pos,fs,T⟩ B):Seg K W ⟨.stack k,code,pos,fs,T⟩ B:=λs F U R=>by
 obtain⟨b,s',hb,c,r,k₁,o₁⟩:=h s F U R
 refine⟨b,s',hb,.step ?_ c,r,k₁,o₁⟩
 have:=step_stack (model progP K.w) s code pos (fs++F) k
 rw[List.map_append,U.wh] at this
 exact this
def mkS(K:Wd)(W:List (Code × Pos))(m:Nat)(tl:zb)(X:List Ext)(T:zb)(c:Code)(pos:Pos):Start:=⟨cfg K.P K.V W m tl,X,T,[],denF c,c,pos,[]⟩
noncomputable def eo(r:Option Out):Exp:=match r with
 |some o=>⟨o.cur,o.code,o.pos,o.fs,o.T,o.G,o.pc⟩
 |none=>⟨.unsupported "", .builtin "" {},default,[],[],[],[]⟩
def mkC(K:Wd)(W:List (Code × Pos))(m:Nat)(tl:zb)(X:List Ext)(x:Exp)(cur:Sem PySem.Fin):Start:=⟨cfg K.P K.V W m tl,X,x.T,[],cur,x.code,x.pos,x.fs⟩
theorem Seg.run{K:Wd}{W:List (Code × Pos)}{n na m:Nat}{tp:List Nat}{tl:zb}(S:Start)(hC:S.C=cfg K.P K.V W m tl)(hG0:S.G=[])
  (hX:∀F,Under (cfg K.P K.V W m tl) F->∀e E,nth S.X e=some E->ExtOk (cfg K.P K.V W m tl) K.w F E)
  (x:(Nat->Addr)->(Nat->Ch)->(Nat->Nat)->Exp) (sel:List Nat)
  (h:∀D Z O,lhs m sel (S.run D Z O n tp)=rhs na (x D Z O) (S.run D Z O n tp))
  (hsel:distinct sel=true) (hT:S.T.length=m) (hm:0 < m) (hpc:∀D Z O,Lg.Ok (x D Z O).pc) (hG:∀D Z O,(x D Z O).G=[]) :
  Seg K W ⟨S.cur,S.code,S.pos,S.fs,S.T++tl⟩ (RunE x tl):=by
 obtain⟨C,X,T,G,cur,code,pos,fs⟩:=S
 dsimp only at hC hG0 hX hT
 subst hC hG0
 exact Seg.go hX x sel h hsel hT hm hpc hG
def Seg.rM{K:Wd}{W:List (Code × Pos)}{n na m:Nat}{tp:List Nat}(S:Start)(hC:S.C=cfg K.P K.V W m [])(hG0:S.G=[])
  (hX:∀F,Under (cfg K.P K.V W m []) F->∀e E,nth S.X e=some E->ExtOk (cfg K.P K.V W m []) K.w F E)
  (x:(Nat->Addr)->(Nat->Ch)->(Nat->Nat)->Exp) (sel:List Nat)
  (h:∀D Z O,lhs m sel (S.run D Z O n tp)=rhs na (x D Z O) (S.run D Z O n tp))
  (hsel:distinct sel=true) (hT:S.T.length=m) (hm:0 < m) (hpc:∀D Z O,Lg.Ok (x D Z O).pc) (hG:∀D Z O,(x D Z O).G=[]) {B:St->Prop}
  (h':∀D Z O,B ⟨(x D Z O).cur,(x D Z O).code,(x D Z O).pos,(x D Z O).fs,(x D Z O).T++[]⟩):Seg K W ⟨S.cur,S.code,S.pos,S.fs,S.T⟩ B:=by
 have h0:=Seg.run (tl:=[]) S hC hG0 hX x sel h hsel hT hm hpc hG
 rw[List.append_nil] at h0
 refine h0.mono ?_
 rintro s ⟨D,Z,O⟩
 exact h' D Z O
def Seg.rT{K:Wd}{W:List (Code × Pos)}{n na m:Nat}{tp:List Nat}(S:Start)(hC:S.C=cfg K.P K.V W m [])(hG0:S.G=[])
  (hX:∀F,Under (cfg K.P K.V W m []) F->∀e E,nth S.X e=some E->ExtOk (cfg K.P K.V W m []) K.w F E)
  (x:(Nat->Addr)->(Nat->Ch)->(Nat->Nat)->Exp) (sel:List Nat)
  (h:∀D Z O,lhs m sel (S.run D Z O n tp)=rhs na (x D Z O) (S.run D Z O n tp))
  (hsel:distinct sel=true) (hT:S.T.length=m) (hm:0 < m) (hpc:∀D Z O,Lg.Ok (x D Z O).pc) (hG:∀D Z O,(x D Z O).G=[]) {B:St->Prop}
  (h':∀D Z O,Seg K W ⟨(x D Z O).cur,(x D Z O).code,(x D Z O).pos,(x D Z O).fs,(x D Z O).T++[]⟩ B):Seg K W ⟨S.cur,S.code,S.pos,S.fs,S.T⟩ B:=by
 have h0:=Seg.run (tl:=[]) S hC hG0 hX x sel h hsel hT hm hpc hG
 rw[List.append_nil] at h0
 refine h0.trans ?_
 rintro s ⟨D,Z,O⟩
 exact h' D Z O
def Seg.fT{K:Wd}{W:List (Code × Pos)}{n na m:Nat}{tp:List Nat}(R:zb)(hR:∀p∈R,p.2.isFreed=false)(S:Start)(hC:S.C=cfg K.P K.V W m [])(hG0:S.G=[])
  (hX:∀F,Under (cfg K.P K.V W m []) F->∀e E,nth S.X e=some E->ExtOk (cfg K.P K.V W m []) K.w F E)
  (x:(Nat->Addr)->(Nat->Ch)->(Nat->Nat)->Exp) (sel:List Nat)
  (h:∀D Z O,lhs m sel (S.run D Z O n tp)=rhs na (x D Z O) (S.run D Z O n tp))
  (hsel:distinct sel=true) (hT:S.T.length=m) (hm:0 < m) (hpc:∀D Z O,Lg.Ok (x D Z O).pc) (hG:∀D Z O,(x D Z O).G=[]) {B:St->Prop}
  (h':∀D Z O,Seg K W ⟨(x D Z O).cur,(x D Z O).code,(x D Z O).pos,(x D Z O).fs,((x D Z O).T++[])++R⟩ B):Seg K W ⟨S.cur,S.code,S.pos,S.fs,S.T++R⟩ B:=by
 have h0:=Seg.run (tl:=[]) S hC hG0 hX x sel h hsel hT hm hpc hG
 rw[List.append_nil] at h0
 refine(Seg.frame R hR h0).trans ?_
 rintro s ⟨s',⟨D,Z,O⟩⟩
 exact h' D Z O
theorem RB.size{K:Wd}{T:zb}{s:Shared}(R:RB K T s):363<=s.heap.objs.size:=Heap.lt_size (R.base 362 _ (Wn K.P K.V))
abbrev V7:=Option (List LV × zk × Lg × Nat) × Bool
noncomputable def vE(r:Option Out):V7:=match r with
 |some o=>(some (o.lg.map (·.1),o.G,o.pc,o.a),true)
 |none=>(none,true)
noncomputable def wE(pc:Lg)(na:Nat)(r:Option Out):V7:=match r with
 |some o=>(some (o.lg.map (·.2),[],pc,na),true)
 |none=>(none,false)
inductive EoE (r:(Nat->Addr)->(Nat->Ch)->(Nat->Nat)->Option Out):St->Prop
 |mk (D Z O):EoE r ⟨(eo (r D Z O)).cur,(eo (r D Z O)).code,(eo (r D Z O)).pos,(eo (r D Z O)).fs,(eo (r D Z O)).T⟩
def Seg.goE{K:Wd}{W:List (Code × Pos)}{X:List Ext}{n na m:Nat}{tp:List Nat}{T tl:zb}{cur:Sem PySem.Fin}{code:Code}{pos:Pos}{fs:List Frame}
  (hX:∀F,Under (cfg K.P K.V W m tl) F->∀e E,nth X e=some E->ExtOk (cfg K.P K.V W m tl) K.w F E)
  (r:(Nat->Addr)->(Nat->Ch)->(Nat->Nat)->Option Out) (hr:∀D Z O,r D Z O=exec (cfg K.P K.V W m tl) X D Z O n tp (T++tl) 0 0 [] 0 [] [] cur code pos fs)
  (pc:(Nat->Addr)->(Nat->Ch)->(Nat->Nat)->Lg) (h:∀D Z O,vE (r D Z O)=wE (pc D Z O) na (r D Z O)) (hpc:∀D Z O,Lg.Ok (pc D Z O)) (hT:T.length=m) (hm:0 < m) :
  Seg K W ⟨cur,code,pos,fs,T++tl⟩ (EoE r):=λs F U R=>by
 have dc:=Zf (V:=K.V) (W:=W) (n:=m) (tl:=tl) K.hw hm
 have U':Under (cfg K.P K.V W m tl) F:=U.under rfl
 obtain⟨D,Z,O,_,H⟩:=Y7 dc U' (hX F U') n tp (T++tl) [] cur code pos fs s 0 (Nat.zero_le _) (Rel.cfg (C:=cfg K.P K.V [] 1 []) rfl R) ⟨T,rfl,by rw[hT];rfl⟩
 have h1:=h D Z O
 have hr1:=hr D Z O
 generalize r D Z O=z at h1 hr1
 cases z with
 |none=>simp[vE,wE] at h1
 |some o=>
  simp only[vE,wE,Prod.mk.injEq,Option.some.injEq,and_true] at h1
  obtain⟨h1,h2,h3,h4⟩:=h1
  obtain⟨s',c,R',S',K',f,ol⟩:=H o hr1.symm (Lg.ok_of h1) (by rw[h3];exact hpc D Z O)
  rw[h2] at R'
  refine⟨_,s',⟨D,Z,O⟩,?_,?_,K',?_⟩
  all_goals (have e:r D Z O=some o:=by rw[hr,<-hr1])
  ·rw[e];exact c
  ·rw[e];exact Rel.cfg (C:=cfg K.P K.V W m tl) rfl R'
  ·rw[e];exact ol
end Mine
end
noncomputable section
open PyProof.Rows PySem PySem.W
set_option genInjectivity true
namespace Mine
noncomputable def nxKs:List (List Nat):=[[1,0,0,3],[0,0,0,3],[2,0,1,0,0,3]]
noncomputable def popKs:List (List Nat):=[[0,1,0,0,3],[0,0,0,0,3],[0,2,0,1,0,0,3],[2,0,1,0,0,3]]
noncomputable def pcKs:List (List Nat):=[[0,0,1,0,0,3],[0,0,0,0,0,3],[0,0,2,0,1,0,0,3],[0,2,0,1,0,0,3],[1,0,1,0,0,3]]
structure AccM where
 a:Addr
 d:Addr
 xs:Array Value
 ep:Nat
noncomputable def AccM.far(c:AccM):AccM:={ c with a:=c.a+363 }
def AccM.o(c:AccM)(V:TopV):Addr × Obj:=(c.a,accObj V c.d c.xs c.ep)
def AccM.of_far{c:AccM}(hc:363<=c.a):∃c':AccM,c=c'.far:=⟨{ c with a:=c.a - 363 },by
 obtain⟨a,d,xs,ep⟩:=c
 simp only[AccM.far,AccM.mk.injEq,and_true];exact(Nat.sub_add_cancel hc).symm⟩
noncomputable def pcC(a:Addr):Code:=.call (.ref 319) ⟨[.ref a],[]⟩
noncomputable def tpPC1:List Nat:=[638,636,3,1,4,638,636,6,0,492]
def pcR1(K:Wd)(x:List Nat × Bag)(c:AccM)(pos:Pos)(D:Nat->Addr)(Z:Nat->Ch)(O:Nat->Nat):Option Out:=
 (mkS K (WK x) 1 [] [] [c.far.o K.V] (pcC c.far.a) pos).run D Z O 20 tpPC1
def VX(K:Wd)(x:List Nat × Bag)(hx:x.1∈pcKs)(c:AccM)(pos:Pos)(D Z O):vE (pcR1 K x c pos D Z O)=wE [] 1 (pcR1 K x c pos D Z O)/\(eo (pcR1 K x c pos D Z O)).cur=.stack (kst (pcR1 K x c pos D Z O))/\(eo (pcR1 K x c pos D Z O)).T.length=2:=by
 obtain⟨ks,bag⟩:=x
 obtain⟨_,b1⟩:=K
 simp only[pcKs,List.mem_cons,List.not_mem_nil,or_false] at hx
 cases b1<;>rcases hx with rfl|rfl|rfl|rfl|rfl<;>exact⟨by kernel_rfl,by kernel_rfl,by kernel_rfl⟩
def stk(r:Option Out)(W:List (Code × Pos)):List (Code × Pos):=((eo r).code,(eo r).pos)::((eo r).fs.map Frame.where_++W)
def Tn{r:Option Out}{k:List (Code × Pos)->Sem PySem.Fin}(h:(eo r).cur=.stack k):kst r=k:=by
 cases r with
 |none=>cases h
 |some o=>
  have h:o.cur=.stack k:=h
  unfold kst
  dsimp only
  rw[h]
def pcF(K:Wd)(c:AccM)(pos:Pos)(D:Nat->Addr)(Z:Nat->Ch)(O:Nat->Nat):Option Out:=(mkS K [] 1 [] [] [c.far.o K.V] (pcC c.far.a) pos).run D Z O 20 tpPC1
def S4(K:Wd)(x:List Nat × Bag)(hx:x.1∈pcKs)(c:AccM)(pos:Pos)(D Z O) :
  (eo (pcR1 K x c pos D Z O)).cur=.stack (kst (pcF K c pos D Z O))/\Fast.tw10703107870728634244 (stk (pcR1 K x c pos D Z O) (WK x))=stk (pcR1 K x c pos D Z O) (WK x)/\(eo (pcF K c pos D Z O)).code=(eo (pcR1 K x c pos D Z O)).code:=by
 obtain⟨ks,bag⟩:=x
 obtain⟨_,b1⟩:=K
 simp only[pcKs,List.mem_cons,List.not_mem_nil,or_false] at hx
 cases b1<;>rcases hx with rfl|rfl|rfl|rfl|rfl<;>exact⟨by kernel_rfl,by kernel_rfl,by kernel_rfl⟩
def S3(K:Wd)(c:AccM)(pos:Pos)(D Z O)(p:Pos)(W B:List (Code × Pos))(h:Fast.tw10703107870728634244 B=B)(hB:((eo (pcF K c pos D Z O)).code,p)::W=B):kst (pcF K c pos D Z O) B=kst (pcF K c pos D Z O) []:=by
 obtain⟨_⟩:=K
 conv=>lhs;unfold pcF Start.run;rw[vy];whnf;dsimp only
 generalize hc:(Option.map (λx=>x.frame) (List.findSome? (λx=>x.env?) (R.mapR (λx=>x.fst) B)) != Option.map (λx=>x.frame) (List.findSome? (λx=>x.env?) (R.mapR (λx=>x.fst) (Fast.tw10703107870728634244 B))))=c
 generalize Fast.tw10703107870728634244 B=T at h hc ⊢
 subst h
 rw[bne_self_eq_false] at hc
 subst hc hB
 kernel_rfl
def S1(K:Wd)(x:List Nat × Bag)(hx:x.1∈pcKs)(c:AccM)(pos:Pos)(D Z O):kst (pcR1 K x c pos D Z O) (stk (pcR1 K x c pos D Z O) (WK x))=kst (pcR1 K x c pos D Z O) []:=by
 have f:=S4 K x hx c pos D Z O
 rw[Tn f.1]
 exact S3 K c pos D Z O _ _ _ f.2.1 (by rw[f.2.2];rfl)
noncomputable def tpPC2:List Nat:=[3,644,0,644,0,5,5,0,5,644,1,1,644,5,2,5,2,5,2,5,5,0,5,5,5,5,4,644,0,1,644,7,0,7,1]
def pcR2(K:Wd)(x:List Nat × Bag)(r:Option Out)(D:Nat->Addr)(Z:Nat->Ch)(O:Nat->Nat):Option Out:=
 (mkC K (WK x) 2 [] [] (eo r) (kst r [])).run D Z O 54 tpPC2
def pcX(K:Wd)(c:AccM)(r:Option Out)(Z:Nat->Ch):Exp:=⟨.pure (.done (.ret (.int (c.xs.size:Int) ((Z 1).tok 0)))),(eo r).code,⟨139,15,139,32⟩,[],[c.far.o K.V],[],[]⟩
def S2(K:Wd)(x:List Nat × Bag)(hx:x.1∈pcKs)(c:AccM)(pos:Pos)(D0 τ0 O0 D Z O):lhs 2 [3] (pcR2 K x (pcR1 K x c pos D0 τ0 O0) D Z O) =
  rhs 2 (pcX K c (pcR1 K x c pos D0 τ0 O0) Z) (pcR2 K x (pcR1 K x c pos D0 τ0 O0) D Z O):=by
 obtain⟨ks,bag⟩:=x
 obtain⟨_,b1⟩:=K
 simp only[pcKs,List.mem_cons,List.not_mem_nil,or_false] at hx
 cases b1<;>rcases hx with rfl|rfl|rfl|rfl|rfl<;>kernel_rfl
def zH{K:Wd}{W:List (Code × Pos)}{m:Nat}{tl:zb}:∀F,Under (cfg K.P K.V W m tl) F->∀e E,nth [] e=some E->ExtOk (cfg K.P K.V W m tl) K.w F E:=λF _=>Xq
def UW{K:Wd}{x:List Nat × Bag}(hx:x.1∈pcKs){c:AccM}(hc:363<=c.a){pos:Pos} :
  Seg K (WK x) ⟨denF (pcC c.a),pcC c.a,pos,[],[c.o K.V]⟩ λb=>∃t,b.cur=.pure (.done (.ret (.int (c.xs.size:Int) t)))/\b.fs=[]/\b.T=[c.o K.V]:=by
 obtain⟨c',rfl⟩:=AccM.of_far hc
 refine(Seg.goE (m:=1) (n:=20) (tp:=tpPC1) (tl:=[]) (T:=[c'.far.o K.V]) (X:=[]) zH (pcR1 K x c' pos) (λ_ _ _=>rfl) (λ_ _ _=>[]) (λD Z O=>(VX K x hx c' pos D Z O).1) (λ_ _ _=>zd) rfl (by decide)).trans ?_
 rintro b ⟨D0,τ0,O0⟩
 obtain⟨_,e1,e2⟩:=VX K x hx c' pos D0 τ0 O0
 rw[e1]
 refine Seg.stack ?_
 show Seg K (WK x) ⟨kst _ (stk (pcR1 K x c' pos D0 τ0 O0) (WK x)),_,_,_,_⟩ _
 rw[S1 K x hx c' pos D0 τ0 O0]
 have:=Seg.go (K:=K) (W:=WK x) (X:=[]) (n:=54) (na:=2) (tp:=tpPC2) (T:=(eo (pcR1 K x c' pos D0 τ0 O0)).T) (tl:=[]) zH
  (λD Z O=>pcX K c' (pcR1 K x c' pos D0 τ0 O0) Z) [3]
  (S2 K x hx c' pos D0 τ0 O0) (by decide) e2 (by decide) (λ_ _ _=>zd) (λ_ _ _=>rfl)
 rw[List.append_nil] at this
 refine this.mono ?_
 rintro b ⟨D,Z,O⟩
 exact⟨(Z 1).tok 0,rfl,rfl,rfl⟩
structure AccD where
 n:Int
 tk:Tok
 tn:Tok
 ep:Nat
def AccD.o(q:AccD)(P:Params)(d:Addr):Addr × Obj:=(d,accDict P q.tk q.n q.tn q.ep)
noncomputable def accRd:zb->Option AccM
 |(y,⟨_,some d,.seq xs ep,_⟩)::_=>some ⟨y,d,xs,ep⟩
 | _=>none
noncomputable def dctRd:zb->Option AccD
 |(_,⟨_,_,.dict ⟨[⟨_,.str _ tk,.int n tn⟩]⟩ ep,_⟩)::_=>some ⟨n,tk,tn,ep⟩
 | _=>none
def accRd2:zb->Option (AccM × AccD)
 |x::r=>match accRd [x] with
  |some m=>match dctRd r with
   |some q=>some (m,q)
   |none=>none
  |none=>none
 |[]=>none
noncomputable def farB(a:Addr):LV × LV:=(.b (Nat.ble 363 a),.b true)
def xY{a:Addr}{l:Lg}(h:Lg.Ok l)(hm:farB a∈l):363<=a:=Nat.le_of_ble_eq_true (LV.b.inj (h _ hm))
def xPC(V:TopV):Ext:=fnX 1 (λ_=>0) (shk pcKs) (λ_ _ objs=>accRd objs) (λ_ _ u=>pcC u.a) (λ_ _ u=>[u.o V]) (λ_ _ u=>[farB u.a])
 (λ_ _ u _ t=>⟨.ok (.ret (.int (u.xs.size:Int) (t.tok 0))),[accObj V u.d u.xs u.ep],[]⟩)
def uS{K:Wd}{W:List (Code × Pos)}{n:Nat}{tl:zb}{F:List Frame}(U:Under (cfg K.P K.V W n tl) F)(htl:∀p∈tl,p.2.isFreed=false):ExtOk (cfg K.P K.V W n tl) K.w F (xPC K.V):=by
 refine ExtOk.fn U htl WK (λx=>x.1∈pcKs) (λwh x h=>z8 h) (λ_ _ _ _ _ _ _ _=>rfl) ?_
 intro d x u hx hpc _ pos
 refine(Seg.frame tl htl (UW hx (c:=u) (xY hpc (.head _)) (pos:=pos))).mono ?_
 rintro b ⟨b',⟨t,e1,e2,e3⟩⟩
 exact⟨[],⟨λ_=>t,λ_=>dead⟩,rfl,rfl,e1,e2,by rw[e3];rfl⟩
end Mine
end
noncomputable section
open PyProof.Rows PySem PySem.W
namespace Mine
abbrev Sc:=Nat->Sem PySem.Fin->Option (PySem.Flow × Nat)
def pst(P:Params)(t:Nat->Tok)(ih:Sc)(i:Nat)(cur:Sem PySem.Fin):Option (PySem.Flow × Nat):=match cur with
 | .pure fin=>match fin with
  | .again c=>match c.quiet with
   |true=>ih i (denF c)
   |false=>none
  | .done f=>some (f,i)
 | .rule _ k=>ih i (k ())
 | .at _ k=>ih i (k ())
 | .point _ k=>ih i (k ())
 | .ask k=>ih i (k ⟨progP,P⟩)
 | .fresh k=>ih (i+1) (k (t i))
 | _=>none
def pex(P:Params)(t:Nat->Tok)(n:Nat):Sc:=@Nat.rec (λ_=>Sc) (λ_ _=>none) (λ_ ih=>pst P t ih) n
def Xj{P t n}:pex P t (n+1)=pst P t (pex P t n):=rfl
def Yv{K:Wd}{F:List Frame}:∀(n:Nat) (s:Shared) (i:Nat) (cur:Sem PySem.Fin) (pos:Pos) (f:PySem.Flow) (j:Nat) (code:Code),pex K.P (λk=>s.toks+k) n i cur=some (f,j)->
  ∃code' pos',Comes (model progP K.w) { s with toks:=s.toks+i } ⟨cur,code,pos,F⟩ { s with toks:=s.toks+j } ⟨.pure (.done f),code',pos',F⟩:=by
 intro n
 induction n with
 |zero=>
  rintro s i cur pos f j code h
  cases h
 |succ n IH=>
  rintro s i cur pos f j code h
  rw[Xj] at h
  have hden:∀c,denF c=(model progP K.w).den c:=λc=>by rw[yD];rfl
  have hpar:K.P=K.w.params:=(congrArg World.params K.hw).symm
  cases cur with
  |pure fin=>cases fin with
   |again c=>
    have h:(match c.quiet with|true=>pex K.P (λk=>s.toks+k) n i (denF c)|false=>none)=some (f,j):=h
    cases hq:c.quiet with
    |false=>rw[hq] at h;cases h
    |true=>
     rw[hq] at h
     obtain⟨code',pos',c₁⟩:=IH s i _ pos f j c h
     exact⟨code',pos',.step (step_again _ _ _ _ _ _ hq) (by rw[<-hden];exact c₁)⟩
   |done g=>
    cases h
    exact⟨_,_,.refl _ _⟩
  |rule t k=>obtain⟨code',pos',c₁⟩:=IH s i _ pos f j code h;exact⟨code',pos',.step (step_rule ..) c₁⟩
  |«at» p k=>obtain⟨code',pos',c₁⟩:=IH s i _ p f j code h;exact⟨code',pos',.step (step_at ..) c₁⟩
  |point l k=>obtain⟨code',pos',c₁⟩:=IH s i _ pos f j code h;exact⟨code',pos',.step (step_point ..) c₁⟩
  |ask k=>obtain⟨code',pos',c₁⟩:=IH s i _ pos f j code h;exact⟨code',pos',.step (by rw[step_ask];show Step.go _ ⟨k ⟨progP,K.w.params⟩,_,_,_⟩=_;rw[<-hpar]) c₁⟩
  |fresh k=>obtain⟨code',pos',c₁⟩:=IH s (i+1) _ pos f j code h;exact⟨code',pos',.step (step_fresh ..) c₁⟩
  | _=>exact zr h
def pxO(outs:List (Tok->Value))(v:Value)(t:Tok):Nat->Option ExtOut
 |0=>some ⟨.ok (.ret v),[],[],[],[]⟩
 |1=>some ⟨.ok (.ret (.bool false)),[],[],[],[(.v v,.v (.bool false))]⟩
 |2=>some ⟨.ok (.ret (.bool true)),[],[],[],[(.v v,.v (.bool true))]⟩
 |d+3=>match nth outs d with
  |some g=>some ⟨.ok (.ret (g t)),[],[],[],[(.v v,.v (g t))]⟩
  |none=>none
def UO{outs:List (Tok->Value)}{v:Value}{t:Tok}{d:Nat}{r:ExtOut}(h:pxO outs v t d=some r)(hp:Lg.Ok r.pc):r.res=.ok (.ret v)/\r.posts=[]/\r.news=[]:=by
 match d,h with
 |0,h=>cases h;exact⟨rfl,rfl,rfl⟩
 |1,h=>cases h;exact⟨by rw[LV.v.inj (hp _ (.head _))],rfl,rfl⟩
 |2,h=>cases h;exact⟨by rw[LV.v.inj (hp _ (.head _))],rfl,rfl⟩
 |d+3,h=>
  have h:(match nth outs d with|some g=>some (ExtOut.mk (.ok (.ret (g t))) [] [] [] [(.v v,.v (g t))])|none=>none)=some r:=h
  cases hx:nth outs d with
  |none=>rw[hx] at h;cases h
  |some g=>rw[hx] at h;cases h;exact⟨by rw[LV.v.inj (hp _ (.head _))],rfl,rfl⟩
def pxR(outs:List (Tok->Value))(t:Tok)(d:Nat):Option (PySem.Flow × Nat)->Option ExtOut
 |some p=>match p.1 with
  | .ret v=>pxO outs v t d
  | _=>none
 |none=>none
def pureX(P:Params)(n:Nat)(outs:List (Tok->Value)):Ext:=⟨0,λ_=>0,false,λd c _ _ _ _ t=>pxR outs (t.tok 0) d (pex P t.tok n 0 (denF c))⟩
theorem Rel.toks{C:Cfg}{T G s}(R:Rel C T G s)(n:Nat):Rel C T G { s with toks:=n }:=⟨R.slots,R.bound,R.nodup,R.base,R.apart,R.gslots,R.gnodup,R.bare⟩
def zn{K:Wd}{W:List (Code × Pos)}{m:Nat}{tl:zb}{F:List Frame}{n:Nat}{outs:List (Tok->Value)}:ExtOk (cfg K.P K.V W m tl) K.w F (pureX K.P n outs):=by
 intro s a T G code pos fs c g l k objs d js gs G' R hg S hm hd hh hl _
 have hG:gs=[]/\G=G':=by simpa [pureX,takeG,eq_comm] using hg
 obtain⟨rfl,rfl⟩:=hG
 refine⟨[],⟨λj=>s.toks+j,λ_=>dead⟩,rfl,λz hz=>(by cases hz),λr hr hlg hpc nf T' T'' hp hn=>?_⟩
 have hj:js=[]:=List.eq_nil_of_length_eq_zero hm
 subst hj
 have hr:pxR outs (s.toks+0) d (pex K.P (λj=>s.toks+j) n 0 (denF c))=some r:=hr
 refine cps λGo hGo=>?_
 cases hx:pex K.P (λj=>s.toks+j) n 0 (denF c) with
 |none=>rw[hx] at hr;cases hr
 |some z=>
  obtain⟨f,j⟩:=z
  rw[hx] at hr
  cases f with
  |ret v=>
   obtain⟨e3,e4,e5⟩:=UO hr hpc
   obtain⟨code',pos',c₁⟩:=Yv (K:=K) (F:=.ret k none g l code pos []::(fs++F)) n s 0 (denF c) pos (.ret v) j c hx
   rw[e4] at hp
   rw[e5] at hn
   cases hp
   cases hn
   exact hGo ⟨{ s with toks:=s.toks+j },by rw[e3];exact .step (step_call ..) (.trans (by rw[yD] at c₁;exact c₁) (.step (step_leaf_ret ..) (.refl _ _))),R.toks _,⟨λ_ _ h _=>h,λ_ _ h _=>h,rfl,Nat.le_refl _⟩⟩
  | _=>exact zr hr
noncomputable def aroundF(wh:List (Code × Pos)):Around:={ handled:=none,depth:=frameCount wh,frames:=none,guards:=none,units:=unitsOf wh }
def Zd{M:Model}{c:Code}{R:Result->Shared->Prop}{s:Shared}{F:List Frame}(hd:topHandled F=none)(h:codeAny M (aroundF (F.map Frame.where_)) c R s)(pos:Pos) :
  ∃r s₁ code' pos',R r s₁/\s.heap.objs.size<=s₁.heap.objs.size/\Comes M s ⟨M.den c,c,pos,F⟩ s₁ ⟨leafOf r,code',pos',F⟩:=by
 obtain⟨r,s₁,hr,hR⟩:=h (Ctx.of c F) pos rfl ⟨hd,Nat.le_refl _,(λl hl=>by cases hl),(λl hl=>by cases hl),Nat.le_refl _⟩
 obtain⟨t',c',p',pre',hc₁,hx⟩:=(runs_reach hr _ (Ctx.fits_of c F)).comes
 obtain⟨rfl,rfl⟩:=hx
 exact⟨r,s₁,c',p',hR,xD hr,hc₁⟩
def codeAny_builtin{M:Model}{prog:Program}{w:World}{A:Around}{id:String}{b:Builtin}{args:Args}{r:Result}{s s':Shared}(hb:entryFor table id=some b)
  (h:∀A,wpAny (model prog w) A (b args) (λfin s₁=>(∃f,fin=.done f/\r=.ok f)/\s₁=s') (λe s₁=>r=.error e/\s₁=s') s):codeAny (model prog w) A (.builtin id args) (λr₁ s₁=>r₁=r/\s₁=s') s:=by
 refine codeAny_of_tree ?_
 show wpAny _ _ (match entryFor table id with|some b=>b args|none=>unsupported ((withoutEnding? id "#data").getD id)) _ _ s
 rw[hb]
 refine wpAny_mono (h _) (λfin s₁ ⟨⟨f,e1,e2⟩,e3⟩=>?_) λe s₁ ⟨e1,e2⟩=>⟨e1.symm,e2⟩
 subst e1 e2 e3
 exact⟨rfl,rfl⟩
theorem Seg.code{K:Wd}{W:List (Code × Pos)}{c:Code}{code:Code}{pos:Pos}{T:zb}{B:St->Prop}(hq:c.quiet=true)
  (H:∀s,RB K T s->∃r s' T',(∀A,A.handled=none->codeAny (model progP K.w) A c (λr₁ s₁=>r₁=r/\s₁=s') s)/\(∀code' pos',B ⟨leafOf r,code',pos',[],T'⟩)/\RB K T' s'/\Kp T [] s s'/\Old T T' s.heap.objs.size) :
  Seg K W ⟨.pure (.again c),code,pos,[],T⟩ B:=λs F U R=>by
 obtain⟨r,s',T',h,hB,h1,h2,h3⟩:=H s R
 obtain⟨r₁,s₁,code',pos',⟨rfl,rfl⟩,hsz,hc⟩:=Zd (pos:=pos) U.hd (h (aroundF (F.map Frame.where_)) rfl)
 exact⟨_,s₁,hB code' pos',.step (step_again _ _ _ _ _ _ hq) hc,h1,h2,h3⟩
def RB.upd1{K:Wd}{T:zb}{a:Addr}{o o':Obj}{s:Shared}{f:Obj->Obj}(R:RB K ((a,o)::T) s)(ho:o.isFreed=false)(hf:f o=o')(ho':o'.isFreed=false) :
  RB K ((a,o')::T) { s with heap:=s.heap.update a f }/\Kp ((a,o)::T) [] s { s with heap:=s.heap.update a f }/\Old ((a,o)::T) ((a,o')::T) s.heap.objs.size:=by
 have h1:=R.update (j:=0) (x:=a) (o:=o) (f:=f) rfl ho (by rw[hf];exact ho')
 have h2:=Kp.update (T:=(a,o)::T) (G:=[]) (s:=s) (j:=0) (x:=a) (o:=o) (f:=f) rfl
 rw[hf] at h1
 refine⟨h1,h2,.keys λx q p hp=>?_⟩
 rcases List.mem_cons.mp hp with rfl|hp
 ·exact q (a,o) (.head _)
 ·exact q p (.tail _ hp)
def uo{K:Wd}{W:List (Code × Pos)}{code:Code}{pos:Pos}{a d:Addr}{ys:Array Value}{v:Value}{ep:Nat}(hsz:ys.size < 1000) :
  Seg K W ⟨.pure (.again (.builtin "list.pop" ⟨[.ref a],[]⟩)),code,pos,[],[(a,accObj K.V d (ys.push v) ep)]⟩ λb=>b.cur=.pure (.done (.ret v))/\b.fs=[]/\b.T=[(a,accObj K.V d ys (ep+1))]:=by
 refine Seg.code rfl λs R=>?_
 have hget:=R.slots _ (.head _) rfl
 have e:(ys.push v).eraseIdxIfInBounds ((ys.push v).size - 1)=ys:=by
  apply Array.ext'
  simp[Array.eraseIdxIfInBounds,List.eraseIdx_append_of_length_le]
 have hL:(ys.push v).size<=sizeLine:=by
  have:=zI
  rw[Array.size_push];lia
 obtain⟨u1,u2,u3⟩:=RB.upd1 (T:=[]) (f:=Obj.mapSeq λxs=>xs.eraseIdxIfInBounds ((ys.push v).size - 1)) (o':=accObj K.V d ys (ep+1)) R rfl (by simp only[accObj,Obj.mapSeq,e];simp) rfl
 refine⟨.ok (.ret v),_,_,λA hA=>codeAny_builtin (M:=model progP K.w) F.entry_list_pop λA=>?_,λ_ _=>⟨rfl,rfl,rfl⟩,u1,u2,u3⟩
 clear u1 u2 u3
 have hy:(ys.push v)[(ys.push v).size - 1]?=some v:=by simp
 have hz':((ys.push v).eraseIdxIfInBounds ((ys.push v).size - 1)).size<=sizeLine+1:=Nat.le_trans (MeetsSeq.size_erased _ _) (Nat.le_succ_of_le hL)
 have hne:¬(ys.push v).isEmpty=true:=by simp
 have hk:seqIndex? (-1) (ys.push v).size=some ((ys.push v).size - 1):=by
  rw[seqIndex_neg (by lia) (by rw[Array.size_push];lia)];congr 1;rw[Array.size_push];lia
 clear R
 dsimp only at hget
 obtain⟨hp,g,dr,tk,os⟩:=s
 wp_walk using wpAny_loadPart' hget
 simp only[hk,hy,Option.bind_some,Option.map_some]
 wp_walk using (wpAny_updateSeq hget rfl (hz:=hL) (_hz':=hz')),wpAny_loadPart' hget
 exact⟨⟨_,rfl,rfl⟩,rfl⟩
noncomputable def bmO(a:Addr):Obj:=⟨.type "builtin_function_or_method", none,.fields #[.builtin "list.pop", .ref a],#[]⟩
noncomputable def bmC(m:Addr):Code:=.call (.ref m) ⟨[],[]⟩
def bmR(K:Wd)(W:List (Code × Pos))(m a d:Addr)(ep:Nat)(ys:Array Value)(v:Value)(p:Pos)(D:Nat->Addr)(Z:Nat->Ch)(O:Nat->Nat):Option Out:=
 (mkS K W 2 [] [] [(m,bmO a),(a,accObj K.V d (ys.push v) ep)] (bmC m) p).run D Z O 7 [3,1,644,1,1,644,644]
def bm_r(K:Wd)(W:List (Code × Pos))(m a d:Addr)(ep:Nat)(ys:Array Value)(v:Value)(p:Pos)(D Z O):lhs 2 [1,0] (bmR K W m a d ep ys v p D Z O) =
  rhs 0 ⟨.pure (.again (.builtin "list.pop" ⟨[.ref a],[]⟩)),bmC m,p,[],[(a,accObj K.V d (ys.push v) ep),(m,bmO a)],[],[]⟩ (bmR K W m a d ep ys v p D Z O):=by
 obtain⟨_,b1⟩:=K
 cases b1<;>kernel_rfl
def T5{K:Wd}{W:List (Code × Pos)}{m a d:Addr}{ep:Nat}{ys:Array Value}{v:Value}{p:Pos}(hsz:ys.size < 1000) :
  Seg K W ⟨denF (bmC m),bmC m,p,[],[(m,bmO a),(a,accObj K.V d (ys.push v) ep)]⟩ λb=>b.cur=.pure (.done (.ret v))/\b.fs=[]/\b.T=[(a,accObj K.V d ys (ep+1)),(m,bmO a)]:=by
 have h:=Seg.run (K:=K) (mkS K W 2 [] [] [(m,bmO a),(a,accObj K.V d (ys.push v) ep)] (bmC m) p) rfl rfl zH
  (λ_ _ _=>⟨.pure (.again (.builtin "list.pop" ⟨[.ref a],[]⟩)),bmC m,p,[],[(a,accObj K.V d (ys.push v) ep),(m,bmO a)],[],[]⟩) [1,0]
  (bm_r K W m a d ep ys v p) (by decide) rfl (by decide) (λ_ _ _=>zd) (λ_ _ _=>rfl)
 refine h.trans ?_
 rintro b ⟨_,_,_⟩
 refine(Seg.frame [(m,bmO a)] (λp hp=>by rw[List.mem_singleton] at hp;subst hp;rfl) (uo (K:=K) (W:=W) (code:=bmC m) (pos:=p) (a:=a) (d:=d) (ep:=ep) (v:=v) hsz)).mono ?_
 rintro b ⟨b',⟨e1,e2,e3⟩⟩
 exact⟨e1,e2,by rw[e3];rfl⟩
structure BmM where
 m:Addr
 a:Addr
 d:Addr
 ep:Nat
noncomputable def bmRd:zb->Option BmM
 |(m,_)::(y,⟨_,some d,.seq _ ep,_⟩)::_=>some ⟨m,y,d,ep⟩
 | _=>none
def xBM(V:TopV)(ys:Array Value)(v:Value):Ext:=fnX 2 (λ_=>0) (λwh=>some wh) (λ_ _ objs=>bmRd objs) (λ_ _ u=>bmC u.m) (λ_ _ u=>[(u.m,bmO u.a),(u.a,accObj V u.d (ys.push v) u.ep)]) (λ_ _ _=>[(.b (Nat.blt ys.size 1000),.b true)])
 (λ_ _ u _ t=>⟨.ok (.ret v),[bmO u.a,accObj V u.d ys (u.ep+1)],[]⟩)
def Wj{a b:Nat}{l:Lg}(h:Lg.Ok l)(hm:(.b (Nat.blt a b),.b true)∈l):a < b:=by
 have:=LV.b.inj (h _ hm)
 rwa [Nat.blt_eq] at this
def Seg.swap{K:Wd}{W:List (Code × Pos)}{a:St}{B B':St->Prop}(h:Seg K W a B)(m:∀b,B b->∃T',b.T.Perm T'/\B' { b with T:=T' }):Seg K W a B':=
 h.post λb hb=>let ⟨T',hp,h'⟩:=m b hb;⟨{ b with T:=T' },[],h',rfl,rfl,rfl,rfl,by rw[List.append_nil];exact hp⟩
def V8{K:Wd}{W:List (Code × Pos)}{n:Nat}{tl:zb}{F:List Frame}{ys:Array Value}{v:Value}(U:Under (cfg K.P K.V W n tl) F)(htl:∀p∈tl,p.2.isFreed=false):ExtOk (cfg K.P K.V W n tl) K.w F (xBM K.V ys v):=by
 refine ExtOk.fn U htl id (λ_=>True) (λwh x h=>⟨by injection h,trivial⟩) (λ_ _ _ _ _ _ _ _=>rfl) ?_
 intro d x u hx hpc _ pos
 refine(Seg.frame tl htl (T5 (Wj hpc (.head _)))).swap ?_
 rintro b ⟨b',⟨e1,e2,e3⟩⟩
 refine⟨[(u.m,bmO u.a),(u.a,accObj K.V u.d ys (u.ep+1))]++tl,?_,[],⟨λ_=>0,λ_=>dead⟩,rfl,rfl,e1,e2,rfl⟩
 show (b'.T++tl).Perm _
 rw[e3]
 exact .swap _ _ _
noncomputable def popC(a:Addr):Code:=.call (.ref 282) ⟨[.ref a],[]⟩
structure PopQ where
 c:AccM
 q:AccD
noncomputable def PopQ.far(z:PopQ):PopQ:={ z with c:=z.c.far }
theorem PopQ.of_far{c:AccM}{q:AccD}(hc:363<=c.a):∃z':PopQ,c=z'.far.c/\q=z'.far.q:=by
 obtain⟨c',h⟩:=AccM.of_far hc
 exact⟨⟨c',q⟩,h,rfl⟩
noncomputable def PopQ.le(z:PopQ):AccM:={ z.far.c with xs:=#[] }
noncomputable def tpPop0:List Nat:=[564,562,5,2,4,5,3,644,644,642,3,644,644,642,3,644,644,642,638,3,1,638,1,0,3,2,2]
def popR0(K:Wd)(x:List Nat × Bag)(z:PopQ)(pos:Pos)(D:Nat->Addr)(Z:Nat->Ch)(O:Nat->Nat):Option Out:=
 (mkS K (WK x) 2 [] [xPC K.V,pureX K.P 8 []] [z.le.o K.V,z.far.q.o K.P z.c.d] (popC z.far.c.a) pos).run D Z O 44 tpPop0
def popX0(K:Wd)(x:List Nat × Bag)(z:PopQ)(pos:Pos)(D:Nat->Addr)(Z:Nat->Ch)(O:Nat->Nat):Exp:=
 ⟨.pure (.done (.ret (.ref (D 1)))),(eo (popR0 K x z pos D Z O)).code,⟨120,19,120,27⟩,[],[(D 1,tupO ⟨#[]⟩ ((Z 4).tok 0) ⟨#[]⟩ ((Z 5).tok 0)),z.le.o K.V,z.far.q.o K.P z.c.d],[],
  [(.v (.bool (((#[]:Array Value).size:Int)==0)),.v (.bool true)),farB z.far.c.a]⟩
def UT(K:Wd)(x:List Nat × Bag)(hx:x.1∈popKs)(z:PopQ)(pos:Pos)(D Z O):lhs 2 [0,2,3] (popR0 K x z pos D Z O)=rhs 2 (popX0 K x z pos D Z O) (popR0 K x z pos D Z O):=by
 obtain⟨ks,bag⟩:=x
 obtain⟨_,b1⟩:=K
 simp only[popKs,List.mem_cons,List.not_mem_nil,or_false] at hx
 cases b1<;>rcases hx with rfl|rfl|rfl|rfl<;>kernel_rfl
theorem xU{C:Cfg}{w:World}{F:List Frame}{E1 E2:Ext}(h1:ExtOk C w F E1)(h2:ExtOk C w F E2):∀e E',nth [E1,E2] e=some E'->ExtOk C w F E'
 |0,E',e=>by cases e;exact h1
 |1,E',e=>by cases e;exact h2
 | _+2,E',e=>by cases e
def z5{a:Addr}(h:363<=a):(farB a).1=(farB a).2:=by
 show LV.b (Nat.ble 363 a)=LV.b true
 rw[Nat.ble_eq_true_of_le h]
def za{p:LV × LV}{l:Lg}(h:p.1=p.2)(hl:Lg.Ok l):Lg.Ok (p::l):=λq hq=>by
 rcases List.mem_cons.mp hq with rfl|hq
 ·exact h
 ·exact hl q hq
def Xg{K:Wd}{x:List Nat × Bag}(hx:x.1∈popKs){c:AccM}{q:AccD}(hc:363<=c.a)(hxs:c.xs=#[]){pos:Pos} :
  Seg K (WK x) ⟨denF (popC c.a),popC c.a,pos,[],[c.o K.V,q.o K.P c.d]⟩ λb=>∃y t0 t1,b.cur=.pure (.done (.ret (.ref y)))/\b.fs=[]/\b.T=[(y,tupO ⟨#[]⟩ t0 ⟨#[]⟩ t1),c.o K.V,q.o K.P c.d]:=by
 obtain⟨z,rfl,rfl⟩:=PopQ.of_far (q:=q) hc
 have e:z.far.c=z.le:=by unfold PopQ.le;rw[<-hxs]
 rw[show (z.far.c.o K.V)=z.le.o K.V by rw[<-e]]
 refine(Seg.run (K:=K) (mkS K (WK x) 2 [] [xPC K.V,pureX K.P 8 []] [z.le.o K.V,z.far.q.o K.P z.c.d] (popC z.far.c.a) pos) rfl rfl
  (λF U=>xU (uS U λ_ h=>by cases h) zn) (popX0 K x z pos) [0,2,3] (UT K x hx z pos) (by decide) rfl (by decide)
  (λD Z O=>za rfl (za (z5 hc) zd)) (λ_ _ _=>rfl)).mono ?_
 rintro b ⟨D,Z,O⟩
 exact⟨_,_,_,rfl,rfl,rfl⟩
noncomputable def tpPop1:List Nat:=[564,562,5,2,4,5,3,644,644,642,3,644,644,642,3,644,644,642,638,3,1,638,1,0,3,2,1,564,562,6,0,492]
noncomputable def tpPop2:List Nat:=[5,644,0,644,0,7,7,0,7,644,3,3,644,7,3,7,3,7,3,7,7,0,7,7,7,7,4,644,0,3,644,9,1,0,9,3]
noncomputable def PopQ.ld(z:PopQ)(ys:Array Value)(va:Addr):AccM:={ z.far.c with xs:=ys.push (.ref va) }
def popS1(K:Wd)(x:List Nat × Bag)(z:PopQ)(ys:Array Value)(va:Addr)(pos:Pos):Start:=mkS K (WK x) 2 [] [xPC K.V,pureX K.P 8 []] [(z.ld ys va).o K.V,z.far.q.o K.P z.c.d] (popC z.far.c.a) pos
def popR1(K:Wd)(x:List Nat × Bag)(z:PopQ)(ys:Array Value)(va:Addr)(pos:Pos)(D:Nat->Addr)(Z:Nat->Ch)(O:Nat->Nat):Option Out:=(popS1 K x z ys va pos).run D Z O 48 tpPop1
def Xh(K:Wd)(x:List Nat × Bag)(hx:x.1∈popKs)(z:PopQ)(ys:Array Value)(va:Addr)(pos:Pos)(D Z O) :
  vE (popR1 K x z ys va pos D Z O)=wE [(.v (.bool (((ys.push (.ref va)).size:Int)==0)),.v (.bool false)),farB z.far.c.a] 1 (popR1 K x z ys va pos D Z O)/\(eo (popR1 K x z ys va pos D Z O)).T.length=3:=by
 obtain⟨ks,bag⟩:=x
 obtain⟨_,b1⟩:=K
 simp only[popKs,List.mem_cons,List.not_mem_nil,or_false] at hx
 cases b1<;>rcases hx with rfl|rfl|rfl|rfl<;>exact⟨by kernel_rfl,by kernel_rfl⟩
noncomputable def fakeX(m:Nat)(v:Value):Ext:=⟨m,λ_=>0,false,λ_ _ _ _ _ _ _=>some ⟨.ok (.ret v),[],[],[],[]⟩⟩
noncomputable def tpPopF:List Nat:=[564,562,5,2,4,5,3,644,644,642,3,644,644,642,3,644,644,642,638,3,1,638,1,0,2,1,564,562,6,0,492]
def popF(K:Wd)(z:PopQ)(ys:Array Value)(va:Addr)(pos:Pos)(D:Nat->Addr)(Z:Nat->Ch)(O:Nat->Nat):Option Out:=
 (mkS K [] 2 [] [fakeX 0 (.int 1 0),fakeX 0 (.bool false)] [(z.ld ys va).o K.V,z.far.q.o K.P z.c.d] (popC z.far.c.a) pos).run D Z O 48 tpPopF
def Xi(K:Wd)(x:List Nat × Bag)(hx:x.1∈popKs)(z:PopQ)(ys:Array Value)(va:Addr)(pos:Pos)(D Z O) :
  (eo (popR1 K x z ys va pos D Z O)).cur=.stack (kst (popF K z ys va pos D Z O))/\
  Fast.tw10703107870728634244 (stk (popR1 K x z ys va pos D Z O) (WK x))=stk (popR1 K x z ys va pos D Z O) (WK x)/\(eo (popF K z ys va pos D Z O)).code=(eo (popR1 K x z ys va pos D Z O)).code:=by
 obtain⟨ks,bag⟩:=x
 obtain⟨_,b1⟩:=K
 simp only[popKs,List.mem_cons,List.not_mem_nil,or_false] at hx
 cases b1<;>rcases hx with rfl|rfl|rfl|rfl<;>exact⟨by kernel_rfl,by kernel_rfl,by kernel_rfl⟩
def UU(K:Wd)(z:PopQ)(ys:Array Value)(va:Addr)(pos:Pos)(D Z O)(p:Pos)(W B:List (Code × Pos))(h:Fast.tw10703107870728634244 B=B)(hB:((eo (popF K z ys va pos D Z O)).code,p)::W=B) :
  kst (popF K z ys va pos D Z O) B=kst (popF K z ys va pos D Z O) []:=by
 obtain⟨_,b1⟩:=K
 cases b1
 all_goals (
  conv=>lhs;unfold popF Start.run;rw[vy];whnf;dsimp only
  generalize hc:(Option.map (λx=>x.frame) (List.findSome? (λx=>x.env?) (R.mapR (λx=>x.fst) B)) != Option.map (λx=>x.frame) (List.findSome? (λx=>x.env?) (R.mapR (λx=>x.fst) (Fast.tw10703107870728634244 B))))=c
  generalize Fast.tw10703107870728634244 B=T at h hc ⊢
  subst h
  rw[bne_self_eq_false] at hc
  subst hc hB
  kernel_rfl)
def UR(K:Wd)(x:List Nat × Bag)(hx:x.1∈popKs)(z:PopQ)(ys:Array Value)(va:Addr)(pos:Pos)(D Z O):kst (popF K z ys va pos D Z O) (stk (popR1 K x z ys va pos D Z O) (WK x))=kst (popF K z ys va pos D Z O) []:=
 have f:=Xi K x hx z ys va pos D Z O
 UU K z ys va pos D Z O _ _ _ f.2.1 (by rw[f.2.2];rfl)
def popS2(K:Wd)(x:List Nat × Bag)(ys:Array Value)(va:Addr)(r f:Option Out):Start:=mkC K (WK x) 3 [] [xBM K.V ys (.ref va)] (eo r) (kst f [])
def popR2(K:Wd)(x:List Nat × Bag)(ys:Array Value)(va:Addr)(r f:Option Out)(D:Nat->Addr)(Z:Nat->Ch)(O:Nat->Nat):Option Out:=(popS2 K x ys va r f).run D Z O 49 tpPop2
def popX(K:Wd)(z:PopQ)(ys:Array Value)(va:Addr)(r:Option Out):Exp:=⟨.pure (.done (.ret (.ref va))),(eo r).code,⟨121,15,121,28⟩,[],[{ z.far.c with xs:=ys,ep:=z.c.ep+1 }.o K.V,z.far.q.o K.P z.c.d],[],[(.b (Nat.blt ys.size 1000),.b true)]⟩
def US(K:Wd)(x:List Nat × Bag)(hx:x.1∈popKs)(z:PopQ)(ys:Array Value)(va:Addr)(pos:Pos)(D0 τ0 O0 D Z O):lhs 3 [3,4] (popR2 K x ys va (popR1 K x z ys va pos D0 τ0 O0) (popF K z ys va pos D0 τ0 O0) D Z O) =
  rhs 2 (popX K z ys va (popR1 K x z ys va pos D0 τ0 O0)) (popR2 K x ys va (popR1 K x z ys va pos D0 τ0 O0) (popF K z ys va pos D0 τ0 O0) D Z O):=by
 obtain⟨ks,bag⟩:=x
 obtain⟨_,b1⟩:=K
 simp only[popKs,List.mem_cons,List.not_mem_nil,or_false] at hx
 cases b1<;>rcases hx with rfl|rfl|rfl|rfl<;>kernel_rfl
def Xf{K:Wd}{x:List Nat × Bag}(hx:x.1∈popKs){c:AccM}{q:AccD}{ys:Array Value}{va:Addr}(hc:363<=c.a)(hxs:c.xs=ys.push (.ref va))(hsz:ys.size < 1000){pos:Pos} :
  Seg K (WK x) ⟨denF (popC c.a),popC c.a,pos,[],[c.o K.V,q.o K.P c.d]⟩ λb=>b.cur=.pure (.done (.ret (.ref va)))/\b.fs=[]/\b.T=[{ c with xs:=ys,ep:=c.ep+1 }.o K.V,q.o K.P c.d]:=by
 obtain⟨z,rfl,rfl⟩:=PopQ.of_far (q:=q) hc
 have e:z.far.c=z.ld ys va:=by unfold PopQ.ld;rw[<-hxs]
 rw[show (z.far.c.o K.V)=(z.ld ys va).o K.V by rw[<-e]]
 refine(Seg.goE (K:=K) (W:=WK x) (m:=2) (n:=48) (tp:=tpPop1) (tl:=[]) (T:=[(z.ld ys va).o K.V,z.far.q.o K.P z.c.d]) (X:=[xPC K.V,pureX K.P 8 []]) (λF U=>xU (uS U λ_ h=>by cases h) zn)
  (popR1 K x z ys va pos) (λ_ _ _=>rfl) (λ_ _ _=>[(.v (.bool (((ys.push (.ref va)).size:Int)==0)),.v (.bool false)),farB z.far.c.a]) (λD Z O=>(Xh K x hx z ys va pos D Z O).1)
  (λ_ _ _=>za (by
   have:(((ys.push (.ref va)).size:Int)==0)=false:=by rw[Array.size_push];simp;lia
   rw[this]) (za (z5 hc) zd)) rfl (by decide)).trans ?_
 rintro b ⟨D0,τ0,O0⟩
 obtain⟨_,e2⟩:=Xh K x hx z ys va pos D0 τ0 O0
 rw[(Xi K x hx z ys va pos D0 τ0 O0).1]
 refine Seg.stack ?_
 show Seg K (WK x) ⟨kst _ (stk (popR1 K x z ys va pos D0 τ0 O0) (WK x)),_,_,_,_⟩ _
 rw[UR K x hx z ys va pos D0 τ0 O0]
 have:=Seg.run (K:=K) (popS2 K x ys va (popR1 K x z ys va pos D0 τ0 O0) (popF K z ys va pos D0 τ0 O0)) (tl:=[]) rfl rfl (λF U=>z0 (V8 U λ_ h=>by cases h))
  (λD Z O=>popX K z ys va (popR1 K x z ys va pos D0 τ0 O0)) [3,4] (US K x hx z ys va pos D0 τ0 O0) (by decide) e2 (by decide) (λ_ _ _=>za (by rw[show Nat.blt ys.size 1000=true by rw[Nat.blt_eq];exact hsz]) zd) (λ_ _ _=>rfl)
 rw[List.append_nil] at this
 refine this.mono ?_
 rintro b ⟨D,Z,O⟩
 exact⟨rfl,rfl,rfl⟩
def xPopA(P:Params)(V:TopV)(ys:Array Value)(va:Addr):Ext:=fnX 2 (λd=>match d with|0=>1 | _=>0) (shk popKs) (λ_ _ objs=>accRd2 objs) (λ_ _ u=>popC u.1.a)
 (λd _ u=>[{ u.1 with xs:=match d with|0=>#[] | _=>ys.push (.ref va) }.o V,u.2.o P u.1.d]) (λ_ _ u=>[farB u.1.a,(.b (Nat.blt ys.size 1000),.b true)])
 (λd _ u xs t=>match d with
  |0=>⟨.ok (.ret (.ref (match xs with|y::_=>y|[]=>0))),[accObj V u.1.d #[] u.1.ep,accDict P u.2.tk u.2.n u.2.tn u.2.ep],[tupO ⟨#[]⟩ (t.tok 0) ⟨#[]⟩ (t.tok 1)]⟩
  | _=>⟨.ok (.ret (.ref va)),[accObj V u.1.d ys (u.1.ep+1),accDict P u.2.tk u.2.n u.2.tn u.2.ep],[]⟩)
def vP{K:Wd}{W:List (Code × Pos)}{n:Nat}{tl:zb}{F:List Frame}{ys:Array Value}{va:Addr}(U:Under (cfg K.P K.V W n tl) F)(htl:∀p∈tl,p.2.isFreed=false):ExtOk (cfg K.P K.V W n tl) K.w F (xPopA K.P K.V ys va):=by
 refine ExtOk.fn U htl WK (λx=>x.1∈popKs) (λwh x h=>z8 h) (λd _ _ _ _ _ _ _=>by cases d<;>rfl) ?_
 intro d x u hx hpc _ pos
 have hc:=xY hpc (.head _)
 have hs:=Wj hpc (.tail _ (.head _))
 cases d with
 |zero=>
  refine(Seg.frame tl htl (Xg hx (c:={ u.1 with xs:=#[] }) (q:=u.2) hc rfl (pos:=pos))).mono ?_
  rintro b ⟨b',⟨y,t0,t1,e1,e2,e3⟩⟩
  exact⟨[y],⟨λi=>if i=0 then t0 else t1,λ_=>dead⟩,rfl,rfl,e1,e2,by rw[e3];rfl⟩
 |succ d=>
  refine(Seg.frame tl htl (Xf hx (c:={ u.1 with xs:=ys.push (.ref va) }) (q:=u.2) hc rfl hs (pos:=pos))).mono ?_
  rintro b ⟨b',⟨e1,e2,e3⟩⟩
  exact⟨[],⟨λ_=>0,λ_=>dead⟩,rfl,rfl,e1,e2,by rw[e3];rfl⟩
noncomputable def lenD(d:Nat)(a:Addr):Code:=match d with|0=>.call (.builtin "len") ⟨[.ref a],[]⟩ | _=>.builtin "len" ⟨[.ref a],[]⟩
def vx{K:Wd}{W:List (Code × Pos)}{m:Nat}{tl:zb}{E:Ext}(h:∀F,Under (cfg K.P K.V W m tl) F->ExtOk (cfg K.P K.V W m tl) K.w F E):∀F,Under (cfg K.P K.V W m tl) F->∀e E',nth [E] e=some E'->ExtOk (cfg K.P K.V W m tl) K.w F E':=λF U=>z0 (h F U)
def ZD{b1:Bool}{w:World}{b2:Bool}{V:TopV}{c:Acc}{cA cB:Addr}{pos:Pos}{x:Lx}:lenK b1 ⟨w,b2,V,c,cA,pos,x⟩=lenK b1 ⟨w,b2,V,c,cB,pos,x⟩:=by
 unfold lenK lenS;rfl
def W8{K:Wd}{x:Lx}{c:Acc}{m:Option Addr}{d:Nat}{pos:Pos}(hs:smallB c.ps=true)(h0:0<=c.n+total c.ps)(h1:c.n+total c.ps < 100) :
  Seg K x.W ⟨denF (lenD d c.a),lenD d c.a,pos,[],((284,oMem 124 19 m)::c.slots K.P K.V)++partsTail c.ps⟩ λb=>∃t a,b.cur=.pure (.done (.ret (.int (c.n+total c.ps) t)))/\b.fs=[]/\b.T=((284,oMem 124 19 (some a))::c.slots K.P K.V)++partsTail c.ps:=by
 have hpc:Lg.Ok [(.b (smallB c.ps),.b true)]:=za (by rw[hs]) zd
 obtain⟨nn,hn⟩:=Int.eq_ofNat_of_zero_le h0
 have hnn:nn < 100:=by lia
 have hX:∀F,Under (cfg K.P K.V x.W 3 (partsTail c.ps)) F->∀e E',nth [xSum K.P K.V c.ps] e=some E'->ExtOk (cfg K.P K.V x.W 3 (partsTail c.ps)) K.w F E':=vx λF U=>Wp U λp hp=>hp
 have part1:Seg K x.W ⟨denF (lenD d c.a),lenD d c.a,pos,[],((284,oMem 124 19 m)::c.slots K.P K.V)++partsTail c.ps⟩ λb=>∃t a,b=⟨lenK K.b1 ⟨K.w,K.b2,K.V,c,a,pos,x⟩ (.ok (.ret (.int (c.n+total c.ps) t))),lenB ⟨K.w,K.b2,K.V,c,a,pos,x⟩,pos,[],((284,oMem 124 19 (some a))::c.slots K.P K.V)++partsTail c.ps⟩:=by
  cases m with
  |none=>cases d with
   |zero=>
    refine(Seg.run (lenS K.b1 none (lenC ⟨K.w,K.b2,K.V,c,0,pos,x⟩) ⟨K.w,K.b2,K.V,c,0,pos,x⟩) rfl rfl hX (λD Z O=>lenXx K.b1 ⟨K.w,K.b2,K.V,c,0,pos,x⟩ ((Z 10).tok 0) (D 4)) [7,8,9]
     (λD Z O=>WE K.b1 ⟨K.w,K.b2,K.V,c,0,pos,x⟩ D Z O) (by decide) rfl (by decide) (λ_ _ _=>hpc) (λ_ _ _=>rfl)).mono ?_
    rintro b ⟨D,Z,O⟩
    exact⟨(Z 10).tok 0,D 4,by rw[ZD (cA:=D 4) (cB:=0)];rfl⟩
   |succ d=>
    refine(Seg.run (lenS K.b1 none (lenB ⟨K.w,K.b2,K.V,c,0,pos,x⟩) ⟨K.w,K.b2,K.V,c,0,pos,x⟩) rfl rfl hX (λD Z O=>lenXx K.b1 ⟨K.w,K.b2,K.V,c,0,pos,x⟩ ((Z 10).tok 0) (D 4)) [7,8,9]
     (λD Z O=>WG K.b1 ⟨K.w,K.b2,K.V,c,0,pos,x⟩ D Z O) (by decide) rfl (by decide) (λ_ _ _=>hpc) (λ_ _ _=>rfl)).mono ?_
    rintro b ⟨D,Z,O⟩
    exact⟨(Z 10).tok 0,D 4,by rw[ZD (cA:=D 4) (cB:=0)];rfl⟩
  |some cA=>cases d with
   |zero=>
    refine(Seg.run (lenS K.b1 (some cA) (lenC ⟨K.w,K.b2,K.V,c,cA,pos,x⟩) ⟨K.w,K.b2,K.V,c,cA,pos,x⟩) rfl rfl hX (λD Z O=>lenXx K.b1 ⟨K.w,K.b2,K.V,c,cA,pos,x⟩ ((Z 5).tok 0) cA) [4,5,6]
     (λD Z O=>WD K.b1 ⟨K.w,K.b2,K.V,c,cA,pos,x⟩ D Z O) (by decide) rfl (by decide) (λ_ _ _=>hpc) (λ_ _ _=>rfl)).mono ?_
    rintro b ⟨D,Z,O⟩
    exact⟨(Z 5).tok 0,cA,rfl⟩
   |succ d=>
    refine(Seg.run (lenS K.b1 (some cA) (lenB ⟨K.w,K.b2,K.V,c,cA,pos,x⟩) ⟨K.w,K.b2,K.V,c,cA,pos,x⟩) rfl rfl hX (λD Z O=>lenXx K.b1 ⟨K.w,K.b2,K.V,c,cA,pos,x⟩ ((Z 5).tok 0) cA) [4,5,6]
     (λD Z O=>WF K.b1 ⟨K.w,K.b2,K.V,c,cA,pos,x⟩ D Z O) (by decide) rfl (by decide) (λ_ _ _=>hpc) (λ_ _ _=>rfl)).mono ?_
    rintro b ⟨D,Z,O⟩
    exact⟨(Z 5).tok 0,cA,rfl⟩
 refine part1.trans ?_
 rintro b ⟨t,a,rfl⟩
 rw[hn]
 refine(Seg.run (lenTS K.b1 ⟨K.w,K.b2,K.V,c,a,pos,x⟩ t nn) rfl rfl (λF U=>Xq) (λD Z O=>⟨.pure (.done (.ret (.int (Int.ofNat nn) ((Z 0).tok 0)))),lenB ⟨K.w,K.b2,K.V,c,a,pos,x⟩,pos,[],(284,oMem 124 19 (some a))::c.slots K.P K.V,[],[]⟩) [0,1,2]
  (λD Z O=>Zu (UN K.b1 ⟨K.w,K.b2,K.V,c,a,pos,x⟩ t D Z O) nn (vU (by lia) (by lia))) (by decide) rfl (by decide) (λ_ _ _=>zd) (λ_ _ _=>rfl)).mono ?_
 rintro b ⟨D,Z,O⟩
 exact⟨_,_,rfl,rfl,rfl⟩
def WA{K:Wd}{x:Lx}{c:Acc}{m:Option Addr}{pos:Pos}(hs:smallB c.ps=true)(h0:c.ps.length<=40) :
  Seg K x.W ⟨denF (strC c),strC c,pos,[],((291,oMem 127 32 m)::c.slots K.P K.V)++partsTail c.ps⟩ λb=>∃t a,b.cur=.pure (.done (.ret (.str (textOf c.ps) t)))/\b.fs=[]/\b.T=((291,oMem 127 32 (some a))::c.slots K.P K.V)++partsTail c.ps:=by
 have hpc:Lg.Ok [(.b (smallB c.ps),.b true),(.b (decide (c.ps.length<=40)),.b true)]:=za (by rw[hs]) (za (by rw[decide_eq_true h0]) zd)
 have hX:∀F,Under (cfg K.P K.V x.W 3 (partsTail c.ps)) F->∀e E',nth [xJoinG K.P K.V c.ps] e=some E'->ExtOk (cfg K.P K.V x.W 3 (partsTail c.ps)) K.w F E':=vx λF U=>Yg U λp hp=>hp
 cases m with
 |none=>
  refine(Seg.run (strS K.b1 none ⟨K.w,K.b2,K.V,c,0,pos,x⟩) rfl rfl hX (λD Z O=>strXx K.b1 ⟨K.w,K.b2,K.V,c,0,pos,x⟩ ((Z 9).tok 0) (D 4)) [7,8,9]
   (λD Z O=>UM K.b1 ⟨K.w,K.b2,K.V,c,0,pos,x⟩ D Z O) (by decide) rfl (by decide) (λ_ _ _=>hpc) (λ_ _ _=>rfl)).mono ?_
  rintro b ⟨D,Z,O⟩
  exact⟨_,_,rfl,rfl,rfl⟩
 |some cA=>
  refine(Seg.run (strS K.b1 (some cA) ⟨K.w,K.b2,K.V,c,cA,pos,x⟩) rfl rfl hX (λD Z O=>strXx K.b1 ⟨K.w,K.b2,K.V,c,cA,pos,x⟩ ((Z 4).tok 0) cA) [4,5,6]
   (λD Z O=>UL K.b1 ⟨K.w,K.b2,K.V,c,cA,pos,x⟩ D Z O) (by decide) rfl (by decide) (λ_ _ _=>hpc) (λ_ _ _=>rfl)).mono ?_
  rintro b ⟨D,Z,O⟩
  exact⟨_,_,rfl,rfl,rfl⟩
def memRd:zb->Option (Option Addr)
 |(_,⟨_,_,.fields ⟨l⟩,_⟩)::_=>some (memoOf l)
 | _=>none
noncomputable def exRd:List (Str × Str)->zb->List Part
 |[],_=>[]
 |p::fs,r=>⟨obA r 0,p.1,tkV (vAt (flO (obO r 0)) 0),p.2,tkV (vAt (flO (obO r 0)) 1)⟩::exRd fs r.tail
def uC{fs:List (Str × Str)}:∀{r:zb},(exRd fs r).length=fs.length:=by
 induction fs with
 |nil=>exact rfl
 |cons p fs ih=>exact congrArg (·+1) ih
noncomputable def pushAll(xs:Array Value):List Part->Array Value
 |[]=>xs
 |p::r=>pushAll (xs.push (.ref p.a)) r
theorem wf:∀(ex ps:List Part),pushAll (partsArr ps) ex=partsArr (ps++ex)
 |[],ps=>by rw[List.append_nil];rfl
 |p::r,ps=>by
  have:(partsArr ps).push (.ref p.a)=partsArr (ps++[p]):=by simp[partsArr]
  rw[pushAll,this,wf r,List.append_assoc];rfl
structure LrM where
 m:Option Addr
 c:AccM
 q:AccD
 ex:List Part
def lrRd(exF:List (Str × Str))(mg:Option (Option Addr)):zb->Option LrM
 |[]=>none
 |a::l=>match l with
  |[]=>none
  |b::l=>match l with
   |[]=>none
   |c::r=>(match mg with|some m=>some m|none=>memRd [a]).bind λm=>(accRd2 [b,c]).map fun(x:AccM × AccD)=>(⟨m,x.1,x.2,exRd exF r⟩:LrM)
noncomputable def LrM.acc(u:LrM)(ps0:List Part):Acc:=⟨u.c.a,u.c.d,ps0++u.ex,u.c.ep,u.q.n,u.q.tk,u.q.tn,u.q.ep⟩
def LrM.sl(u:LrM)(P:Params)(V:TopV)(ps0:List Part):zb:={ u.c with xs:=pushAll (partsArr ps0) u.ex }.o V::u.q.o P u.c.d::u.ex.map Part.slot
def LrM.sl_eq(u:LrM)(P:Params)(V:TopV)(ps0:List Part)(a:Addr × Obj):((a::u.sl P V ps0)++partsTail ps0).Perm ((a::(u.acc ps0).slots P V)++partsTail (u.acc ps0).ps):=by
 refine .cons _ ?_
 show ({ u.c with xs:=pushAll (partsArr ps0) u.ex }.o V::u.q.o P u.c.d::(u.ex.map Part.slot++partsTail ps0)).Perm _
 have h1:{ u.c with xs:=pushAll (partsArr ps0) u.ex }.o V=((u.acc ps0).a,accObj V (u.acc ps0).d (partsArr (u.acc ps0).ps) (u.acc ps0).ep):=by
  show (u.c.a,accObj V u.c.d (pushAll (partsArr ps0) u.ex) u.c.ep)=_
  rw[wf];rfl
 rw[h1]
 refine .cons _ (.cons _ ?_)
 show (partsTail u.ex++partsTail ps0).Perm (partsTail (ps0++u.ex))
 unfold partsTail
 rw[List.map_append]
 exact List.perm_append_comm
def LrM.objs(u:LrM)(P:Params)(V:TopV)(ps0:List Part):List Obj:=accObj V u.c.d (pushAll (partsArr ps0) u.ex) u.c.ep::accDict P u.q.tk u.q.n u.q.tn u.q.ep::u.ex.map λp=>tupO p.F p.tF p.S p.tS
def LrM.zip_eq(u:LrM)(P:Params)(V:TopV)(ps0:List Part):((u.sl P V ps0).map (·.1)).zip (u.objs P V ps0)=u.sl P V ps0:=by
 show _::_::((u.ex.map Part.slot).map (·.1)).zip (u.ex.map λp=>tupO p.F p.tF p.S p.tS)=_
 have:((u.ex.map Part.slot).map (·.1)).zip (u.ex.map λp=>tupO p.F p.tF p.S p.tS)=u.ex.map Part.slot:=Zb u.ex
 rw[this];rfl
def lenRange(u:LrM)(ps0:List Part):LV × LV:=(.b (decide (0<=u.q.n+total (ps0++u.ex)) && decide (u.q.n+total (ps0++u.ex) < 100)),.b true)
def xN{exF:List (Str × Str)}{objs:zb}{mg:Option (Option Addr)}{u:LrM}(h:lrRd exF mg objs=some u):u.ex.length=exF.length:=by
 cases objs with
 |nil=>exact zr h
 |cons a l=>cases l with
  |nil=>exact zr h
  |cons b l=>cases l with
   |nil=>exact zr h
   |cons c r=>exact xB h λm _ h=>(Option.map_eq_some_iff.mp h).elim λx q=>q.2▸uC
noncomputable def lenK8(d:Nat):Nat:=match d with
 |0=>0|1=>1|2=>2|3=>3|4=>0|5=>1|6=>2 | _=>3
def lenD4(d:Nat)(a:Addr):Code:=match d with
 |0=>lenD 0 a
 |1=>lenD 1 a
 |2=>lenD 0 a
 | _=>lenD 1 a
noncomputable def lenV(kk:Nat)(d:Nat)(v:Int):Int:=match d with
 |0=>v
 |1=>v
 | _=>Int.ofNat kk
noncomputable def giv(m:Option Addr)(n d:Nat):Option (Option Addr):=match Nat.blt d n with
 |true=>some m
 |false=>none
def xLenF(P:Params)(V:TopV)(ps0:List Part)(exF:List (Str × Str))(kk:Nat)(mg:Option Addr):Ext:=fnX (3+exF.length) (λ_=>0) lx? (λd _ objs=>lrRd exF (giv mg 4 d) objs) (λd _ u=>lenD4 (lenK8 d) u.c.a)
 (λ_ _ u=>(284,oMem 124 19 u.m)::u.sl P V ps0) (λd _ u=>[(.b (smallB (ps0++u.ex)),.b true),lenRange u ps0,(.i (u.q.n+total (ps0++u.ex)),.i (lenV kk (lenK8 d) (u.q.n+total (ps0++u.ex))))])
 (λd _ u _ t=>⟨.ok (.ret (.int (lenV kk (lenK8 d) (u.q.n+total (ps0++u.ex))) (t.tok 0))),oMem 124 19 (some (t.tok 1))::u.objs P V ps0,[]⟩)
def XI(d:Nat)(a:Addr):∃e,lenD4 d a=lenD e a:=match d with
 |0=>⟨0,rfl⟩
 |1=>⟨1,rfl⟩
 |2=>⟨0,rfl⟩
 | _+3=>⟨1,rfl⟩
def x0{K:Wd}{W:List (Code × Pos)}{n:Nat}{ps0:List Part}{F:List Frame}{exF:List (Str × Str)}{kk:Nat}{mg:Option Addr}(U:Under (cfg K.P K.V W n (partsTail ps0)) F):ExtOk (cfg K.P K.V W n (partsTail ps0)) K.w F (xLenF K.P K.V ps0 exF kk mg):=by
 refine ExtOk.fn U (λp hp=>by obtain⟨q,_,rfl⟩:=List.mem_map.mp hp;rfl) Lx.W (λ_=>True) (λwh x h=>⟨lx?_ok h,trivial⟩) (λd c objs x u xs t h=>by simp[LrM.objs,xN h];lia) ?_
 intro d x u _ hpc _ pos
 have hs:smallB (ps0++u.ex)=true:=LV.b.inj (hpc _ (.head _))
 have hb:=LV.b.inj (hpc _ (.tail _ (.head _)))
 have hv:u.q.n+total (ps0++u.ex)=lenV kk (lenK8 d) (u.q.n+total (ps0++u.ex)):=LV.i.inj (hpc _ (.tail _ (.tail _ (.head _))))
 simp only[Bool.and_eq_true,decide_eq_true_eq] at hb
 obtain⟨e,he⟩:=XI (lenK8 d) u.c.a
 rw[he,<-hv]
 have h:=W8 (K:=K) (x:=x) (c:=u.acc ps0) (m:=u.m) (d:=e) (pos:=pos) hs hb.1 hb.2
 refine(Seg.perm (T:=((284,oMem 124 19 u.m)::(u.acc ps0).slots K.P K.V)++partsTail (u.acc ps0).ps) (u.sl_eq K.P K.V ps0 _) h).swap ?_
 rintro b ⟨t,a,e1,e2,e3⟩
 refine⟨((284,oMem 124 19 (some a))::u.sl K.P K.V ps0)++partsTail ps0,by rw[e3];exact(u.sl_eq K.P K.V ps0 _).symm,[],⟨λi=>if i=0 then t else a,λ_=>dead⟩,rfl,rfl,e1,e2,?_⟩
 show _=[]++((284::(u.sl K.P K.V ps0).map (·.1)).zip (oMem 124 19 (some a)::u.objs K.P K.V ps0)++partsTail ps0)
 rw[List.zip_cons_cons,u.zip_eq];rfl
def xStrF(P:Params)(V:TopV)(ps0:List Part)(exF:List (Str × Str))(mg:Option Addr):Ext:=fnX (3+exF.length) (λ_=>0) lx? (λd _ objs=>lrRd exF (giv mg 1 d) objs) (λ_ _ u=>.call (.type "str") ⟨[.ref u.c.a],[]⟩)
 (λ_ _ u=>(291,oMem 127 32 u.m)::u.sl P V ps0) (λ_ _ u=>[(.b (smallB (ps0++u.ex)),.b true),(.b (decide ((ps0++u.ex).length<=40)),.b true)])
 (λ_ _ u _ t=>⟨.ok (.ret (.str (textOf (ps0++u.ex)) (t.tok 0))),oMem 127 32 (some (t.tok 1))::u.objs P V ps0,[]⟩)
def xZ{K:Wd}{W:List (Code × Pos)}{n:Nat}{ps0:List Part}{F:List Frame}{exF:List (Str × Str)}{mg:Option Addr}(U:Under (cfg K.P K.V W n (partsTail ps0)) F):ExtOk (cfg K.P K.V W n (partsTail ps0)) K.w F (xStrF K.P K.V ps0 exF mg):=by
 refine ExtOk.fn U (λp hp=>by obtain⟨q,_,rfl⟩:=List.mem_map.mp hp;rfl) Lx.W (λ_=>True) (λwh x h=>⟨lx?_ok h,trivial⟩) (λd c objs x u xs t h=>by simp[LrM.objs,xN h];lia) ?_
 intro d x u _ hpc _ pos
 have hs:smallB (ps0++u.ex)=true:=LV.b.inj (hpc _ (.head _))
 have hb:=of_decide_eq_true (LV.b.inj (hpc _ (.tail _ (.head _))))
 have h:=WA (K:=K) (x:=x) (c:=u.acc ps0) (m:=u.m) (pos:=pos) hs hb
 refine(Seg.perm (T:=((291,oMem 127 32 u.m)::(u.acc ps0).slots K.P K.V)++partsTail (u.acc ps0).ps) (u.sl_eq K.P K.V ps0 _) h).swap ?_
 rintro b ⟨t,a,e1,e2,e3⟩
 refine⟨((291,oMem 127 32 (some a))::u.sl K.P K.V ps0)++partsTail ps0,by rw[e3];exact(u.sl_eq K.P K.V ps0 _).symm,[],⟨λi=>if i=0 then t else a,λ_=>dead⟩,rfl,rfl,e1,e2,?_⟩
 show _=[]++((291::(u.sl K.P K.V ps0).map (·.1)).zip (oMem 127 32 (some a)::u.objs K.P K.V ps0)++partsTail ps0)
 rw[List.zip_cons_cons,u.zip_eq];rfl
noncomputable def AccM.put(c:AccM)(xs:Array Value):AccM:=⟨c.a,c.d,xs,c.ep⟩
noncomputable def owKs:List (List Nat):=[[0,1,0,0,3],[0,0,0,0,3],[0,2,0,1,0,0,3]]
noncomputable def owC(a:Addr):Code:=.call (.ref 311) ⟨[.ref a],[]⟩
noncomputable def spB(s:Str):Bool:=decide (s.length > 0) && s.cps.all Unicode.isSpace
noncomputable def tpOw0:List Nat:=[622,620,5,2,4,5,3,644,644,642,644,644,642,0,3,644,3,644,644,642,3,3,644,1,1,1]
def owS0(K:Wd)(x:List Nat × Bag)(z:PopQ)(pos:Pos):Start:=mkS K (WK x) 2 [] [pureX K.P 8 []] [z.far.c.o K.V,z.far.q.o K.P z.c.d] (owC z.far.c.a) pos
noncomputable def owPc0(z:PopQ):Lg:=[(.v (.bool (z.q.n==0)),.v (.bool false))]
def owX0(K:Wd)(z:PopQ)(r:Option Out):Exp:=⟨.pure (.done (.ret (.bool false))),(eo r).code,⟨136,15,136,76⟩,[],[z.far.c.o K.V,z.far.q.o K.P z.c.d],[],owPc0 z⟩
def S9(K:Wd)(x:List Nat × Bag)(hx:x.1∈owKs)(z:PopQ)(pos:Pos)(D Z O):lhs 2 [1,2] ((owS0 K x z pos).run D Z O 42 tpOw0)=rhs 1 (owX0 K z ((owS0 K x z pos).run D Z O 42 tpOw0)) ((owS0 K x z pos).run D Z O 42 tpOw0):=by
 obtain⟨ks,bag⟩:=x
 obtain⟨_,b1⟩:=K
 simp only[owKs,List.mem_cons,List.not_mem_nil,or_false] at hx
 cases b1<;>rcases hx with rfl|rfl|rfl<;>kernel_rfl
noncomputable def tpOw1(d:Nat):List Nat:=[622,620,9,4,4,9,3,644,644,642,644,644,642,0,3,644,3,644,644,642,3,3,644,1,1,2,9,3,644,644,642,3,644,644,642,2,3,7,3,1,6,0,9,3,0,5,3,1,1,d]
noncomputable def owD:Bool->Nat
 |true=>2
 |false=>1
def PopQ.lp(z:PopQ)(ps:List Part):AccM:={ z.far.c with xs:=partsArr ps }
def owS1(K:Wd)(x:List Nat × Bag)(z:PopQ)(ps:List Part)(k:Nat)(a1:Addr)(m2:Option Addr)(pos:Pos):Start:=
 mkS K (WK x) 4 (partsTail ps) [pureX K.P 8 [],xLenF K.P K.V ps [] (k+1) (some a1),xStrF K.P K.V ps [] m2] [(284,oMem 124 19 (some a1)),(291,oMem 127 32 m2),(z.lp ps).o K.V,z.far.q.o K.P z.c.d] (owC z.far.c.a) pos
def owPc(z:PopQ)(ps:List Part)(k:Nat)(b:Bool):Lg:=[(.v (.bool (spB (textOf (ps++[])))),.v (.bool b)),(.b (smallB (ps++[])),.b true),(.b (decide ((ps++[]).length<=40)),.b true),
  (.b (smallB (ps++[])),.b true),(.b (decide (0<=z.q.n+total (ps++[])) && decide (z.q.n+total (ps++[]) < 100)),.b true),(.i (z.q.n+total (ps++[])),.i (Int.ofNat (k+1))),(.v (.bool (z.q.n==0)),.v (.bool true))]
def owX1(K:Wd)(z:PopQ)(ps:List Part)(k:Nat)(b:Bool)(r:Option Out)(Z:Nat->Ch):Exp:=⟨.pure (.done (.ret (.bool b))),(eo r).code,⟨136,56,136,75⟩,[],
 [(284,oMem 124 19 (some ((Z 4).tok 1))),(291,oMem 127 32 (some ((Z 5).tok 1))),(z.lp ps).o K.V,z.far.q.o K.P z.c.d],[],owPc z ps k b⟩
def S8(K:Wd)(x:List Nat × Bag)(hx:x.1∈owKs)(z:PopQ)(ps:List Part)(k:Nat)(a1:Addr)(m2:Option Addr)(b:Bool)(pos:Pos)(D Z O):lhs 4 [1,2,3,4] ((owS1 K x z ps k a1 m2 pos).run D Z O 68 (tpOw1 (owD b))) =
  rhs 1 (owX1 K z ps k b ((owS1 K x z ps k a1 m2 pos).run D Z O 68 (tpOw1 (owD b))) Z) ((owS1 K x z ps k a1 m2 pos).run D Z O 68 (tpOw1 (owD b))):=by
 obtain⟨ks,bag⟩:=x
 obtain⟨_,b1⟩:=K
 simp only[owKs,List.mem_cons,List.not_mem_nil,or_false] at hx
 cases b<;>cases b1<;>rcases hx with rfl|rfl|rfl<;>kernel_rfl
theorem Yj{C:Cfg}{w:World}{F:List Frame}{E1 E2 E3:Ext}(h1:ExtOk C w F E1)(h2:ExtOk C w F E2)(h3:ExtOk C w F E3):∀e E',nth [E1,E2,E3] e=some E'->ExtOk C w F E'
 |0,E',e=>by cases e;exact h1
 |1,E',e=>by cases e;exact h2
 |2,E',e=>by cases e;exact h3
 | _+3,E',e=>by cases e
def Xm{z:PopQ}(hn:(z.q.n==0)=false):Lg.Ok (owPc0 z):=by
 unfold owPc0
 rw[hn]
 exact za rfl zd
def WL{K:Wd}{x:List Nat × Bag}(hx:x.1∈owKs){c:AccM}{q:AccD}(hc:363<=c.a)(hn:(q.n==0)=false){pos:Pos} :
  Seg K (WK x) ⟨denF (owC c.a),owC c.a,pos,[],[c.o K.V,q.o K.P c.d]⟩ λb=>b.cur=.pure (.done (.ret (.bool false)))/\b.fs=[]/\b.T=[c.o K.V,q.o K.P c.d]:=by
 obtain⟨z,rfl,rfl⟩:=PopQ.of_far (q:=q) hc
 refine(Seg.run (K:=K) (owS0 K x z pos) (tl:=[]) rfl rfl (vx λF U=>zn) (λD Z O=>owX0 K z ((owS0 K x z pos).run D Z O 42 tpOw0)) [1,2] (S9 K x hx z pos) (by decide) rfl (by decide) (λ_ _ _=>Xm hn) (λ_ _ _=>rfl)).mono ?_
 rintro b ⟨D,Z,O⟩
 exact⟨rfl,rfl,rfl⟩
structure OwH (q:AccD) (ps:List Part) (k:Nat) (b:Bool):Prop where
 sp:spB (textOf ps)=b
 sm:smallB ps=true
 ln:ps.length<=40
 lo:0<=q.n+total ps
 hi:q.n+total ps < 100
 kk:q.n+total ps=Int.ofNat (k+1)
 n0:(q.n==0)=true
def WM{z:PopQ}{ps:List Part}{k:Nat}{b:Bool}(h:OwH z.q ps k b):Lg.Ok (owPc z ps k b):=by
 unfold owPc
 rw[List.append_nil,h.sp,h.sm,h.kk,decide_eq_true h.ln]
 have hlo:=h.lo
 have hhi:=h.hi
 rw[h.kk] at hlo hhi
 rw[h.n0,decide_eq_true hlo,decide_eq_true hhi]
 exact za rfl (za rfl (za rfl (za rfl (za rfl (za rfl (za rfl zd))))))
def WJ{K:Wd}{x:List Nat × Bag}(hx:x.1∈owKs){c:AccM}{q:AccD}{ps:List Part}{k:Nat}{a1:Addr}{m2:Option Addr}{b:Bool}(hc:363<=c.a)(hxs:c.xs=partsArr ps)(h:OwH q ps k b){pos:Pos} :
  Seg K (WK x) ⟨denF (owC c.a),owC c.a,pos,[],[(284,oMem 124 19 (some a1)),(291,oMem 127 32 m2),c.o K.V,q.o K.P c.d]++partsTail ps⟩ λs=>∃a1' a2',s.cur=.pure (.done (.ret (.bool b)))/\s.fs=[]/\
   s.T=[(284,oMem 124 19 (some a1')),(291,oMem 127 32 (some a2')),c.o K.V,q.o K.P c.d]++partsTail ps:=by
 obtain⟨z,rfl,rfl⟩:=PopQ.of_far (q:=q) hc
 have e:z.far.c=z.lp ps:=by unfold PopQ.lp;rw[<-hxs]
 rw[show (z.far.c.o K.V)=(z.lp ps).o K.V by rw[<-e]]
 refine(Seg.run (K:=K) (owS1 K x z ps k a1 m2 pos) (tl:=partsTail ps) rfl rfl (λF U=>Yj zn (x0 U) (xZ U)) (λD Z O=>owX1 K z ps k b ((owS1 K x z ps k a1 m2 pos).run D Z O 68 (tpOw1 (owD b))) Z) [1,2,3,4]
  (S8 K x hx z ps k a1 m2 b pos) (by decide) rfl (by decide) (λ_ _ _=>WM h) (λ_ _ _=>rfl)).mono ?_
 rintro b ⟨D,Z,O⟩
 exact⟨(Z 4).tok 1,(Z 5).tok 1,rfl,rfl,rfl⟩
noncomputable def owB:Nat->Bool
 |1=>false
 | _=>true
structure OwM where
 a1:Addr
 c:AccM
 q:AccD
def owRd:zb->Option OwM
 |a::_::r=>match memRd [a] with
  |some (some a1)=>match accRd2 r with
   |some (c,q)=>some ⟨a1,c,q⟩
   |none=>none
  | _=>none
 | _=>none
def xOws(P:Params)(V:TopV)(ps:List Part)(k:Nat)(m2:Option Addr):Ext:=fnX 4 (λ_=>0) (shk owKs) (λ_ _ objs=>owRd objs) (λ_ _ u=>owC u.c.a)
 (λ_ _ u=>[(284,oMem 124 19 (some u.a1)),(291,oMem 127 32 m2),(u.c.put (partsArr ps)).o V,u.q.o P u.c.d])
 (λd _ u=>match d with
  |0=>[farB u.c.a,(.b (u.q.n==0),.b false)]
  | _=>[farB u.c.a,(.b (u.q.n==0),.b true),(.b (spB (textOf ps)),.b (owB d)),(.b (smallB ps),.b true),(.b (decide (ps.length<=40)),.b true),(.b (decide (u.q.n+total ps < 100)),.b true),(.i (u.q.n+total ps),.i (Int.ofNat (k+1)))])
 (λd _ u _ t=>match d with
  |0=>⟨.ok (.ret (.bool false)),[oMem 124 19 (some u.a1),oMem 127 32 m2,accObj V u.c.d (partsArr ps) u.c.ep,accDict P u.q.tk u.q.n u.q.tn u.q.ep],[]⟩
  | _=>⟨.ok (.ret (.bool (owB d))),[oMem 124 19 (some (t.tok 0)),oMem 127 32 (some (t.tok 1)),accObj V u.c.d (partsArr ps) u.c.ep,accDict P u.q.tk u.q.n u.q.tn u.q.ep],[]⟩)
def zj(ps:List Part):∀p∈partsTail ps,p.2.isFreed=false:=λp hp=>by
 obtain⟨q,_,rfl⟩:=List.mem_map.mp hp;rfl
def Wr{K:Wd}{W:List (Code × Pos)}{n:Nat}{ps:List Part}{k:Nat}{m2:Option Addr}{F:List Frame}(U:Under (cfg K.P K.V W n (partsTail ps)) F):ExtOk (cfg K.P K.V W n (partsTail ps)) K.w F (xOws K.P K.V ps k m2):=by
 refine ExtOk.fn U (zj ps) WK (λx=>x.1∈owKs) (λwh x h=>z8 h) (λd _ _ _ _ _ _ _=>by cases d<;>rfl) ?_
 intro d x u hx hpc _ pos
 cases d with
 |zero=>
  have hc:=xY hpc (.head _)
  have hn:(u.q.n==0)=false:=LV.b.inj (hpc _ (.tail _ (.head _)))
  have h:=Seg.frame (K:=K) ([(284,oMem 124 19 (some u.a1)),(291,oMem 127 32 m2)]++partsTail ps) (λp hp=>by
   rcases List.mem_append.mp hp with hp|hp
   ·simp only[List.mem_cons,List.not_mem_nil,or_false] at hp
    rcases hp with rfl|rfl<;>rfl
   ·exact zj ps p hp) (WL hx (c:=u.c.put (partsArr ps)) (q:=u.q) hc hn (pos:=pos))
  have pm:([(284,oMem 124 19 (some u.a1)),(291,oMem 127 32 m2),(u.c.put (partsArr ps)).o K.V,u.q.o K.P u.c.d]++partsTail ps).Perm ([(u.c.put (partsArr ps)).o K.V,u.q.o K.P u.c.d]++([(284,oMem 124 19 (some u.a1)),(291,oMem 127 32 m2)]++partsTail ps)):=by
   rw[<-List.append_assoc]
   exact List.Perm.append_right _ (List.perm_append_comm (l₁:=[(284,oMem 124 19 (some u.a1)),(291,oMem 127 32 m2)]) (l₂:=[(u.c.put (partsArr ps)).o K.V,u.q.o K.P u.c.d]))
  refine(Seg.perm (a:=⟨_,_,pos,[],_⟩) pm h).swap ?_
  rintro b ⟨b',⟨e1,e2,e3⟩⟩
  exact⟨[(284,oMem 124 19 (some u.a1)),(291,oMem 127 32 m2),(u.c.put (partsArr ps)).o K.V,u.q.o K.P u.c.d]++partsTail ps,by rw[e3];exact pm.symm,[],⟨λ_=>0,λ_=>dead⟩,rfl,rfl,e1,e2,rfl⟩
 |succ d=>
  have hc:=xY hpc (.head _)
  have h1:(u.q.n==0)=true:=LV.b.inj (hpc _ (.tail _ (.head _)))
  have h2:=LV.b.inj (hpc _ (.tail _ (.tail _ (.head _))))
  have h3:smallB ps=true:=LV.b.inj (hpc _ (.tail _ (.tail _ (.tail _ (.head _)))))
  have h4:=of_decide_eq_true (LV.b.inj (hpc _ (.tail _ (.tail _ (.tail _ (.tail _ (.head _)))))))
  have h5:=of_decide_eq_true (LV.b.inj (hpc _ (.tail _ (.tail _ (.tail _ (.tail _ (.tail _ (.head _))))))))
  have h6:u.q.n+total ps=Int.ofNat (k+1):=LV.i.inj (hpc _ (.tail _ (.tail _ (.tail _ (.tail _ (.tail _ (.tail _ (.head _))))))))
  refine(WJ hx (c:=u.c.put (partsArr ps)) (q:=u.q) (a1:=u.a1) (m2:=m2) hc rfl ⟨h2,h3,h4,by rw[h6];exact Int.natCast_nonneg _,h5,h6,h1⟩ (pos:=pos)).mono ?_
  rintro b ⟨a1',a2',e1,e2,e3⟩
  exact⟨[],⟨λi=>if i=0 then a1' else a2',λ_=>dead⟩,rfl,rfl,e1,e2,e3⟩
structure TpM where
 a:Addr
 dd:Option Addr
 F:Str
 tF:Tok
 S:Str
 tS:Tok
 n:Nat
 sl:Array (Option Value)
noncomputable def TpM.o(m:TpM):Addr × Obj:=(m.a,⟨.type "tuple", m.dd,.seq #[.str m.F m.tF,.str m.S m.tS] m.n,m.sl⟩)
def rdTp(l:zb)(i:Nat):TpM:=⟨obA l i,(obO l i).dict,sV (vAt (flO (obO l i)) 0),tkV (vAt (flO (obO l i)) 0),sV (vAt (flO (obO l i)) 1),tkV (vAt (flO (obO l i)) 1),epO (obO l i),(obO l i).slots⟩
def xTupNe:Ext:=cnX 2 (λ_=>0) (λ_ _ l=>(rdTp l 0,rdTp l 1)) (λ_ u=>.call (.builtin "tuple.__ne__") ⟨[.ref u.1.a,.ref u.2.a],[]⟩) (λ_ u=>[u.1.o,u.2.o])
 (λd u=>[(.b (!(u.1.F==u.2.F && u.1.S==u.2.S)),.b (owB (d+1)))]) (λd _ _ _=>⟨.ok (.ret (.bool (owB (d+1)))),[],[]⟩)
def Z7{w:World}{tl:zb}:LeafOk w tl xTupNe:=by
 refine zt λprog s d ⟨⟨l,dd,F,tF,S,tS,n,sl⟩,r',dd',F',tF',S',tS',n',sl'⟩ wh gs hg _ hp=>⟨[],.of 0,s,rfl,zh,?_,Eff.none (tk:=s.toks)⟩
 refine codeAny_call_builtin PySem.F.slot_tuple_ne.plain PySem.F.entry_tuple_ne (PySem.F.slot_tuple_ne.check _ _ _ _ _ _ _ _ ⟨_,hg _ (.head _),rfl⟩ (PySem.F.args_tuple_ne_2 _ _)
  (PySem.SeqAt.tuple_neAt l r' #[.str F tF,.str S tS] #[.str F' tF',.str S' tS'] n n' dd dd' sl sl' (λj=>match j with|0=>F==F' | _=>S==S') prog w _ (λr s₁=>r=.ok (.ret (.bool (owB (d+1))))/\s₁=s) s ⟨hg _ (.head _),hg _ (.tail _ (.head _)),λj q1 q2=>?_,?_⟩))
 ·match j,q1 with
  |0,_=>exact PySem.SeqAt.EqAt.str_str F tF F' tF'
  |1,_=>exact PySem.SeqAt.EqAt.str_str S tS S' tS'
 ·rw[<-LV.b.inj (hp _ (.head _))]
  refine⟨?_,rfl⟩
  have:(List.range (min (#[Value.str F tF,Value.str S tS]:Array Value).size (#[Value.str F' tF',Value.str S' tS']:Array Value).size))=[0,1]:=rfl
  rw[this]
  simp
structure PrM where
 a:Addr
 dd:Option Addr
 x:Value
 y:Value
 n:Nat
 sl:Array (Option Value)
def xCollect:Ext:=cnX 1 (λ_=>1) (λ_ _ l=>(⟨obA l 0,(obO l 0).dict,vAt (flO (obO l 0)) 0,vAt (flO (obO l 0)) 1,epO (obO l 0),(obO l 0).slots⟩:PrM)) (λ_ u=>.builtin "proto.collect" ⟨[.ref u.a],[]⟩)
 (λ_ u=>[(u.a,⟨.type "tuple", u.dd,.seq #[u.x,u.y] u.n,u.sl⟩)]) (λ_ _=>[]) (λ_ u xs _=>⟨.ok (.ret (.ref (xs.headD 0))),[],[⟨.type "list", none,.seq #[u.x,u.y] 1,#[]⟩]⟩)
def xF{w:World}{tl:zb}:LeafOk w tl xCollect:=by
 refine zt λprog s d ⟨l,dd,v1,v2,n,sl⟩ wh gs hg _ hp=>?_
 have h1:=hg _ (.head _)
 have hS:(s.heap.push { cls:=.type "list", data:=.seq ([]:List Value).toArray }).get? s.heap.objs.size=some { cls:=.type "list", data:=.seq #[] 0 }:=Heap.get?_push_size _ rfl
 have hS₂:=Heap.get?_update_self (Obj.mapSeq (·++#[v1,v2])) hS rfl
 refine⟨[s.heap.objs.size],.of 0,{ s with heap:=(s.heap.push { cls:=.type "list", data:=.seq ([]:List Value).toArray }).update s.heap.objs.size (Obj.mapSeq (·++#[v1,v2])) },rfl,zK,?_,
  ⟨λb o hb _=>(Heap.get?_update_other _ _ (Nat.ne_of_gt (Heap.lt_size hb))).trans (Heap.get?_push_of_some _ hb),λp hp=>(nomatch hp),λp hp=>?_,List.pairwise_singleton _ _,λ_ _ h _=>h,id,rfl⟩⟩
 ·refine PySem.codeAny_builtin PySem.F.entry_proto_collect ?_
  rw[Around.under_plainId PySem.F.plain_proto_collect _]
  show wpAny _ _ (newList [] >>= λl'=>again (.builtin "list.__iadd__" ⟨[l',.ref l],[]⟩)) _ _ s
  refine wpAny_bind (wpAny_newObj_type ?_)
  refine wpAny_pure ⟨plainId_quiet PySem.F.plain_list_iadd _,PySem.codeAny_builtin PySem.F.entry_list_iadd ?_⟩
  rw[Around.under_plainId PySem.F.plain_list_iadd _]
  exact wpAny_extend_seq _ l _ 0 (T:= "tuple") (o:=⟨.type "tuple", dd,.seq ⟨[v1,v2]⟩ n,sl⟩) (items:=#[v1,v2]) (n:=n) (R:=λr s₁=>r=.ok (.ret (.ref s.heap.objs.size))/\s₁={ s with heap:=(s.heap.push { cls:=.type "list", data:=.seq ([]:List Value).toArray }).update s.heap.objs.size (Obj.mapSeq (·++#[v1,v2])) }) (.inr rfl) hS (Heap.get?_push_of_some _ h1) rfl rfl ⟨rfl,rfl⟩ (by show 2<=sizeLine;have:=zI;lia)
 ·rw[List.mem_singleton.mp hp]
  exact hS₂
noncomputable def sMaxlen:Str:=⟨#[95,109,97,120,108,101,110]⟩
noncomputable def sCws:Str:=⟨#[95,99,111,110,116,105,110,117,97,116,105,111,110,95,119,115]⟩
noncomputable def sCwsLen:Str:=⟨#[95,99,111,110,116,105,110,117,97,116,105,111,110,95,119,115,95,108,101,110]⟩
noncomputable def sSplit:Str:=⟨#[95,115,112,108,105,116,99,104,97,114,115]⟩
noncomputable def sLines:Str:=⟨#[95,108,105,110,101,115]⟩
noncomputable def sCur:Str:=⟨#[95,99,117,114,114,101,110,116,95,108,105,110,101]⟩
noncomputable def spc:Str:=⟨#[32]⟩
structure Fm where
 fa:Addr
 fd:Addr
 la:Addr
 c:AccM
 q:AccD
 wd:Int
 t:Nat->Tok
 fe:Nat
 rows:Array Value
 le:Nat
 m1:Option Addr
 m2:Option Addr
noncomputable def Fm.far(f:Fm):Fm:={ f with fa:=f.fa+363,c:=f.c.far }
def Fm.dictO(f:Fm)(P:Params):Obj:=⟨.type "dict", none,.dict #[⟨PyData.keyHash P sMaxlen,.str sMaxlen (f.t 0),.int f.wd (f.t 1)⟩,⟨PyData.keyHash P sCws,.str sCws (f.t 2),.str spc (f.t 3)⟩,⟨PyData.keyHash P sCwsLen,.str sCwsLen (f.t 4),.int 1 (f.t 5)⟩,
 ⟨PyData.keyHash P sSplit,.str sSplit (f.t 6),.str spc (f.t 7)⟩,⟨PyData.keyHash P sLines,.str sLines (f.t 8),.ref f.la⟩,⟨PyData.keyHash P sCur,.str sCur (f.t 9),.ref f.c.a⟩] f.fe,#[]⟩
noncomputable def listO(xs:Array Value)(ep:Nat):Obj:=⟨.type "list", none,.seq xs ep,#[]⟩
def Fm.slots(f:Fm)(P:Params)(V:TopV):zb:=[(f.fa,⟨.ref 238,some f.fd,.plain,#[]⟩),(f.fd,f.dictO P),(f.la,listO f.rows f.le),f.c.o V,f.q.o P f.c.d,(284,oMem 124 19 f.m1),(291,oMem 127 32 f.m2)]
noncomputable def nlC(a:Addr):Code:=.call (.ref 200) ⟨[.ref a],[]⟩
noncomputable def Fm.line(f:Fm)(xs:Array Value)(ep:Nat):Fm:={ f with c:=⟨f.c.a,f.c.d,xs,ep⟩ }
noncomputable def Fm.puts(f:Fm)(xs:Array Value):Fm:=f.line xs f.c.ep
def slotAt(r:Option Out)(i:Nat):Addr × Obj:=match nth (eo r).T i with
 |some p=>p
 |none=>(0,dead)
noncomputable def tpNlF:List Nat:=[400,398,17,8,4,17,13,476,476,474,0,13,476,476,474,13,13,476,11,7,644,644,642,7,644,644,642,7,644,644,642,564,7,5,564,1,0,17,8,17,15,19,15,2,0]
def nlF(K:Wd)(x:List Nat × Bag)(f:Fm)(e:Addr)(pos:Pos)(D:Nat->Addr)(Z:Nat->Ch)(O:Nat->Nat):Option Out:=
 (mkS K (WK x) 8 [] [fakeX 0 (.ref e),fakeX 0 (.bool false)] ((e,tup0)::((f.far.line #[] 0).slots K.P K.V)) (nlC f.far.fa) pos).run D Z O 75 tpNlF
def nlMid(K:Wd)(x:List Nat × Bag)(f g:Fm)(e:Addr)(pos:Pos)(ex:zb)(pc:Lg)(D:Nat->Addr)(Z:Nat->Ch)(O:Nat->Nat):Exp:=
 ⟨(eo (nlF K x f e pos D Z O)).cur,(eo (nlF K x f e pos D Z O)).code,⟨59,8,63,59⟩,[],slotAt (nlF K x f e pos D Z O) 1::(g.slots K.P K.V++ex),[],pc⟩
noncomputable def tpNlN:List Nat:=[400,398,15,7,4,15,13,476,476,474,0,13,476,476,474,13,13,476,11,7,644,644,642,7,644,644,642,7,644,644,642,564,7,5,564,1,0,7,5,15,7,15,17,19,17,3,1,17,19,15,13,476,476,474,0,13,476,476,474,13,13,476,11,7,644,644,642,644,644,642,0,7,644,7,644,644,642,532,532,532,7,7,644,5,0,532,15,17,4,0,17,23,21,532,0,21,532,530,25,12,25,12,25,12,4,25,7,644,644,642,7,644,644,642,7,644,644,642,7,5,25,25,5,0,7,644,642]
def nlSN(K:Wd)(x:List Nat × Bag)(f:Fm)(pos:Pos):Start:=mkS K (WK x) 7 [] [xPopA K.P K.V #[] 0,pureX K.P 8 [],xTupNe,xCollect,xAppend 3] ((f.far.puts #[]).slots K.P K.V) (nlC f.far.fa) pos
def nlXN(K:Wd)(x:List Nat × Bag)(f:Fm)(pos:Pos)(D:Nat->Addr)(Z:Nat->Ch)(O:Nat->Nat):Exp:=
 nlMid K x f (f.far.line ((#[]:Array Value).push (.ref (D 6))) ((Z 13).tok 0)) (D 1) pos [(D 6,tupO ⟨#[]⟩ ((Z 2).tok 0) ⟨#[]⟩ ((Z 2).tok 1))] [small (#[]:Array Value).size,(.b (!((⟨#[]⟩:Str)==spc && (⟨#[]⟩:Str)==⟨#[]⟩)),.b true),farB f.far.c.a,(.b (Nat.blt (#[]:Array Value).size 1000),.b true)] D Z O
def Rm(K:Wd)(x:List Nat × Bag)(hx:x.1∈nxKs)(f:Fm)(pos:Pos)(D Z O):lhs 7 [6,7,8,9,10,11,12,13,0] ((nlSN K x f pos).run D Z O 187 tpNlN)=rhs 7 (nlXN K x f pos D Z O) ((nlSN K x f pos).run D Z O 187 tpNlN):=by
 obtain⟨ks,bag⟩:=x
 obtain⟨_,b1⟩:=K
 simp only[nxKs,List.mem_cons,List.not_mem_nil,or_false] at hx
 cases b1<;>rcases hx with rfl|rfl|rfl<;>kernel_rfl
noncomputable def tpNlT:List Nat:=[400,398,17,8,4,17,13,476,476,474,0,13,476,476,474,13,13,476,11,7,644,644,642,7,644,644,642,7,644,644,642,564,7,5,564,1,1,7,5,17,8,17,15,19,15,3,0,15,19]
noncomputable def tpNlL:List Nat:=[400,398,17,8,4,17,13,476,476,474,0,13,476,476,474,13,13,476,11,7,644,644,642,7,644,644,642,7,644,644,642,564,7,5,564,1,1,7,5,17,8,17,15,19,15,3,1,15,19,17,13,476,476,474,0,13,476,476,474,13,13,476,11,7,644,644,642,644,644,642,0,7,644,7,644,644,642,532,532,532,7,7,644,5,0,532,17,15,4,0,15,23,21,532,0,21,532,530,25,12,25,12,25,12,4,25,7,644,644,642,7,644,644,642,7,644,644,642,7,5,25,25,5,0,7,644,642]
def nlSP(K:Wd)(x:List Nat × Bag)(f:Fm)(ys:Array Value)(p:Part)(pos:Pos):Start:=mkS K (WK x) 8 [] [xPopA K.P K.V ys p.a,pureX K.P 8 [],xTupNe,xCollect,xAppend 3] (p.slot::(f.far.puts (ys.push (.ref p.a))).slots K.P K.V) (nlC f.far.fa) pos
def nlPcT(f:Fm)(ys:Array Value)(p:Part):Lg:=[(.b (!(p.F==spc && p.S==⟨#[]⟩)),.b false),farB f.far.c.a,(.b (Nat.blt ys.size 1000),.b true)]
def nlPcL(f:Fm)(ys:Array Value)(p:Part):Lg:=[small ys.size,(.b (!(p.F==spc && p.S==⟨#[]⟩)),.b true),farB f.far.c.a,(.b (Nat.blt ys.size 1000),.b true)]
def nlXT(K:Wd)(x:List Nat × Bag)(f:Fm)(ys:Array Value)(p:Part)(pos:Pos)(D:Nat->Addr)(Z:Nat->Ch)(O:Nat->Nat):Exp:=
 nlMid K x f (f.far.line ys (f.c.ep+1)) p.a pos [] (nlPcT f ys p) D Z O
def nlXL(K:Wd)(x:List Nat × Bag)(f:Fm)(ys:Array Value)(p:Part)(pos:Pos)(D:Nat->Addr)(Z:Nat->Ch)(O:Nat->Nat):Exp:=
 nlMid K x f (f.far.line (ys.push (.ref (D 5))) ((Z 13).tok 0)) p.a pos [(D 5,tupO p.F p.tF p.S p.tS)] (nlPcL f ys p) D Z O
def Rl(K:Wd)(x:List Nat × Bag)(hx:x.1∈nxKs)(f:Fm)(ys:Array Value)(p:Part)(pos:Pos)(D Z O):lhs 8 [1,3,4,5,6,7,8,9] ((nlSP K x f ys p pos).run D Z O 75 tpNlT)=rhs 2 (nlXT K x f ys p pos D Z O) ((nlSP K x f ys p pos).run D Z O 75 tpNlT):=by
 obtain⟨ks,bag⟩:=x
 obtain⟨_,b1⟩:=K
 simp only[nxKs,List.mem_cons,List.not_mem_nil,or_false] at hx
 cases b1<;>rcases hx with rfl|rfl|rfl<;>kernel_rfl
def Rn(K:Wd)(x:List Nat × Bag)(hx:x.1∈nxKs)(f:Fm)(ys:Array Value)(p:Part)(pos:Pos)(D Z O):lhs 8 [5,7,8,9,10,11,12,13,0] ((nlSP K x f ys p pos).run D Z O 187 tpNlL)=rhs 6 (nlXL K x f ys p pos D Z O) ((nlSP K x f ys p pos).run D Z O 187 tpNlL):=by
 obtain⟨ks,bag⟩:=x
 obtain⟨_,b1⟩:=K
 simp only[nxKs,List.mem_cons,List.not_mem_nil,or_false] at hx
 cases b1<;>rcases hx with rfl|rfl|rfl<;>kernel_rfl
inductive AllOk (C:Cfg) (w:World) (F:List Frame):List Ext->Prop
 |nil:AllOk C w F []
 |cons {E l}:ExtOk C w F E->AllOk C w F l->AllOk C w F (E::l)
theorem AllOk.nth{C:Cfg}{w:World}{F:List Frame}{l:List Ext}(h:AllOk C w F l):∀e E,Mine.nth l e=some E->ExtOk C w F E:=by
 induction h with
 |nil=>intro e E h;cases h
 |cons h1 _ ih=>
  intro e E h
  cases e with
  |zero=>simp only[Mine.nth,Option.some.injEq] at h;exact h▸h1
  |succ e=>exact ih e E h
noncomputable def Part.tx(p:Part):Str × Str:=(p.F,p.S)
def txs(ps:List Part):List (Str × Str):=ps.map Part.tx
def norm1(l:List (Str × Str)):List (Str × Str):=match l.getLast? with
 |none=>[(⟨#[]⟩,⟨#[]⟩)]
 |some p=>if (p.1==spc && p.2==⟨#[]⟩)=true then l.dropLast else l
structure NlB (K:Wd) (x:List Nat × Bag) (f:Fm) (pos:Pos) (tx:List (Str × Str)) (b:St):Prop where
 ex:∃D Z O e ep ps2,txs ps2=tx/\b=⟨(eo (nlF K x f e pos D Z O)).cur,(eo (nlF K x f e pos D Z O)).code,⟨59,8,63,59⟩,[],slotAt (nlF K x f e pos D Z O) 1::((f.far.line (partsArr ps2) ep).slots K.P K.V++partsTail ps2)⟩
def Fm.live(f:Fm)(P:Params)(V:TopV):∀p∈f.slots P V,p.2.isFreed=false:=λp hp=>by
 simp only[Fm.slots,List.mem_cons,List.not_mem_nil,or_false] at hp
 rcases hp with rfl|rfl|rfl|rfl|rfl|rfl|rfl<;>rfl
def zc{n:Nat}(h:n<=1000):(small n).1=(small n).2:=by
 show LV.b (decide (n<=1000))=LV.b true
 rw[decide_eq_true h]
def Zg{a b:Nat}(h:a < b):(LV.b (Nat.blt a b))=LV.b true:=by
 rw[show Nat.blt a b=true by rw[Nat.blt_eq];exact h]
def vk{K:Wd}{W:List (Code × Pos)}{m:Nat}{ys:Array Value}{va:Addr}:∀F,Under (cfg K.P K.V W m []) F->∀e E,nth [xPopA K.P K.V ys va,pureX K.P 8 [],xTupNe,xCollect,xAppend 3] e=some E->ExtOk (cfg K.P K.V W m []) K.w F E:=λF U=>
 (AllOk.cons (vP U λ_ h=>by cases h) (.cons zn (.cons (.leaf U Z7) (.cons (.leaf U xF) (.cons (.leaf U zm) .nil))))).nth
def zB(ps:List Part)(p:Part):(partsArr ps).push (.ref p.a)=partsArr (ps++[p]):=by simp[partsArr]
def Xu{K:Wd}{x:List Nat × Bag}(hx:x.1∈nxKs){f:Fm}{ps:List Part}(hps:f.c.xs=partsArr ps)(hlen:ps.length<=40){pos:Pos} :
  Seg K (WK x) ⟨denF (nlC f.far.fa),nlC f.far.fa,pos,[],f.far.slots K.P K.V++partsTail ps⟩ (NlB K x f pos (norm1 (txs ps))):=by
 have hfar:363<=f.far.c.a:=Nat.le_add_left ..
 rcases List.eq_nil_or_concat ps with rfl|⟨ps0,p,rfl⟩
 ·have e1:f.far=f.far.puts #[]:=by
   obtain⟨fa,fd,la,⟨a,d,xs,ep⟩,q,wd,t,fe,rows,le,m1,m2⟩:=f
   simp only at hps
   subst hps
   rfl
  have h:=Seg.run (K:=K) (nlSN K x f pos) (tl:=[]) rfl rfl vk (nlXN K x f pos) [6,7,8,9,10,11,12,13,0] (Rm K x hx f pos) (by decide) rfl (by decide)
   (λ_ _ _=>za (zc (Nat.zero_le _)) (za rfl (za (z5 hfar) (za (Zg (by decide)) zd)))) (λ_ _ _=>rfl)
  show Seg K (WK x) ⟨_,_,_,_,f.far.slots K.P K.V++[]⟩ _
  rw[e1]
  refine h.mono ?_
  rintro b ⟨D,Z,O⟩
  exact⟨D,Z,O,D 1,(Z 13).tok 0,[⟨D 6,⟨#[]⟩,(Z 2).tok 0,⟨#[]⟩,(Z 2).tok 1⟩],rfl,by
   show _=_
   simp only[nlXN,nlMid,List.append_nil]
   rfl⟩
 ·have hps:f.c.xs=(partsArr ps0).push (.ref p.a):=by rw[hps,zB];simp
  have hlen:ps0.length < 1000:=by simp at hlen;lia
  have e1:f.far=f.far.puts ((partsArr ps0).push (.ref p.a)):=by
   obtain⟨fa,fd,la,⟨a,d,xs,ep⟩,q,wd,t,fe,rows,le,m1,m2⟩:=f
   simp only at hps
   subst hps
   rfl
  have pm:(f.far.slots K.P K.V++partsTail (ps0.concat p)).Perm ((p.slot::f.far.slots K.P K.V)++partsTail ps0):=by
   rw[List.concat_eq_append]
   unfold partsTail
   rw[List.map_append]
   refine(List.perm_append_comm).trans ?_
   show ((ps0.map Part.slot++[p.slot])++f.far.slots K.P K.V).Perm (p.slot::(f.far.slots K.P K.V++ps0.map Part.slot))
   rw[List.append_assoc]
   exact(List.perm_append_comm).trans (List.Perm.refl _)
  have hsz:(partsArr ps0).size < 1000:=by rw[zl];exact hlen
  have hl:txs (ps0.concat p)=txs ps0++[p.tx]:=by simp[txs]
  cases hb:(!(p.F==spc && p.S==⟨#[]⟩)) with
  |false=>
   have h:=Seg.run (K:=K) (nlSP K x f (partsArr ps0) p pos) (tl:=[]) rfl rfl vk (nlXT K x f (partsArr ps0) p pos) [1,3,4,5,6,7,8,9] (Rl K x hx f (partsArr ps0) p pos) (by decide) rfl (by decide)
    (λ_ _ _=>za (by rw[hb]) (za (z5 hfar) (za (Zg hsz) zd))) (λ_ _ _=>rfl)
   refine Seg.perm (a:=⟨_,_,pos,[],_⟩) pm ?_
   rw[show (p.slot::f.far.slots K.P K.V)=(p.slot::(f.far.puts ((partsArr ps0).push (.ref p.a))).slots K.P K.V)++[] by rw[<-e1,List.append_nil]]
   refine(Seg.frame (partsTail ps0) (zj ps0) h).mono ?_
   rintro b ⟨b',⟨D,Z,O⟩⟩
   refine⟨D,Z,O,p.a,f.c.ep+1,ps0,?_,?_⟩
   ·rw[hl];unfold norm1
    rw[List.getLast?_concat,List.dropLast_concat]
    have:(p.tx.1==spc && p.tx.2==⟨#[]⟩)=true:=(Bool.not_eq_false' _).mp hb
    simp only[this,if_true]
   ·simp only[nlXT,nlMid,List.append_nil,List.cons_append]
  |true=>
   have h:=Seg.run (K:=K) (nlSP K x f (partsArr ps0) p pos) (tl:=[]) rfl rfl vk (nlXL K x f (partsArr ps0) p pos) [5,7,8,9,10,11,12,13,0] (Rn K x hx f (partsArr ps0) p pos) (by decide) rfl (by decide)
    (λ_ _ _=>za (zc (by lia)) (za (by rw[hb]) (za (z5 hfar) (za (Zg hsz) zd)))) (λ_ _ _=>rfl)
   refine Seg.perm (a:=⟨_,_,pos,[],_⟩) pm ?_
   rw[show (p.slot::f.far.slots K.P K.V)=(p.slot::(f.far.puts ((partsArr ps0).push (.ref p.a))).slots K.P K.V)++[] by rw[<-e1,List.append_nil]]
   refine(Seg.frame (partsTail ps0) (zj ps0) h).swap ?_
   rintro b ⟨b',⟨D,Z,O⟩⟩
   refine⟨slotAt (nlF K x f p.a pos D Z O) 1::((f.far.line (partsArr (ps0++[⟨D 5,p.F,p.tF,p.S,p.tS⟩])) ((Z 13).tok 0)).slots K.P K.V++partsTail (ps0++[⟨D 5,p.F,p.tF,p.S,p.tS⟩])),?_,D,Z,O,p.a,(Z 13).tok 0,ps0++[⟨D 5,p.F,p.tF,p.S,p.tS⟩],?_,?_⟩
   ·simp only[nlXL,nlMid,List.append_nil]
    rw[<-zB]
    refine .cons _ ?_
    show ((_++_)++partsTail ps0).Perm _
    rw[List.append_assoc]
    refine List.Perm.append_left _ ?_
    unfold partsTail
    rw[List.map_append]
    exact List.perm_append_comm
   ·rw[hl];unfold norm1
    rw[List.getLast?_concat]
    have:(p.tx.1==spc && p.tx.2==⟨#[]⟩)=false:=(Bool.not_eq_true' _).mp hb
    simp only[this,Bool.false_eq_true,if_false]
    simp[txs,Part.tx]
   ·simp only[nlXL,nlMid]
def xSetL(m:Nat)(ys:Array Value)(o:Value):Ext:=lx "list.__setitem__" m 0 (λr l=>(tkV (vAt r 0),vAt r 1,l)) (λu=>[.int (.negSucc 0) u.1,u.2.1]) (λu=>u.2.2) (λ_ vs=>[(.a vs,.a (ys.push o))]) (λu _ _ t=>⟨.none,some (.seq (ys.push u.2.1) (t.tok 0)),[]⟩)
def vO{w:World}{tl:zb}{m:Nat}{ys:Array Value}{o:Value}:LeafOk w tl (xSetL m ys o):=by
 refine un "__setitem__" xi (by decide +kernel) (by decide +kernel) entry_list_setitem ?_
 intro prog A s ⟨t0,v,_⟩ a cls dd vs ep sl hL _ hp
 have hv:vs=ys.push o:=LV.a.inj (hp _ (.head _))
 subst hv
 have hx:(ys.push o)[((ys.push o).size - 1)]?=some o:=by simp
 have e:(ys.push o).setIfInBounds ((ys.push o).size - 1) v=ys.push v:=by
  apply Array.ext'
  simp[Array.setIfInBounds]
 refine⟨[],.of ep,{ s with heap:=s.heap.update a (Obj.mapSeq (·.setIfInBounds ((ys.push o).size - 1) v)) },rfl,zh,args_list_setitem _ _ _,?_,λmore gs=>Eff.upd (tk:=s.toks) hL.get (by simp only[Obj.mapSeq,e];simp[Ch.of]) rfl⟩
 have hf:Builtin.List.listFitsIndex (Int.negSucc 0)=true:=by decide
 generalize hk:Int.negSucc 0=k at hf
 show wpAny _ _ (Builtin.List.listSubscript? (.int k t0) >>= _) _ _ s
 refine wpAny_bind (wpAny_listSubscript_int hf ?_)
 subst hk
 have hidx:seqIndex? (Int.negSucc 0) (ys.push o).size=some ((ys.push o).size - 1):=by
  have:=PySem.seqIndex_neg (k:= -1) (n:=(ys.push o).size) (by lia) (by rw[Array.size_push];lia)
  rw[show (Int.negSucc 0)=-1 from rfl,this];congr 1;rw[Array.size_push];lia
 show wpAny _ _ ((Builtin.List.listItems (.ref a) >>= λxs=>pure ((seqIndex? (Int.negSucc 0) xs.size).bind λi=>xs[i]?.map (i,·))) >>= _) _ _ s
 refine wpAny_bind (wpAny_bind ?_)
 show wpAny _ _ (seqItems? (.ref a) >>= _) _ _ s
 refine wpAny_bind (wpAny_seqItems hL.get rfl (wpAny_pure (wpAny_pure ?_)))
 rw[hidx]
 simp only[Option.bind_some,hx,Option.map_some]
 show wpAny _ _ (setSeqItemAt a ((ys.push o).size - 1) v >>= _) _ _ s
 refine wpAny_bind (wpAny_setSeqItemAt hL.get rfl ?_)
 first
  |exact wpAny_bind (wpAny_pure (wpAny_pure ⟨rfl,rfl⟩))
  |exact wpAny_pure ⟨rfl,rfl⟩
noncomputable def blC(d:Nat)(a:Addr):Code:=match d with
 |0=>.call (.builtin "len") ⟨[.ref a],[]⟩
 |1=>.builtin "len" ⟨[.ref a],[]⟩
 |2=>.call (.builtin "len") ⟨[.ref a],[]⟩
 | _=>.builtin "len" ⟨[.ref a],[]⟩
structure LnM where
 y:Addr
 dd:Option Addr
 vs:Array Value
 n:Nat
 sl:Array (Option Value)
def xBLen(kk:Nat):Ext:=cnX (M:=LnM) 1 (λ_=>0) (λ_ _ l=>⟨obA l 0,(obO l 0).dict,sqO (obO l 0),epO (obO l 0),(obO l 0).slots⟩) (λd u=>blC d u.y) (λ_ u=>[(u.y,⟨.type "list", u.dd,.seq u.vs u.n,u.sl⟩)])
 (λd u=>[small u.vs.size,(.i (u.vs.size:Int),.i (lenV kk d u.vs.size))]) (λd u _ t=>⟨.ok (.ret (.int (lenV kk d u.vs.size) (t.tok 0))),[],[]⟩)
def xQ{prog:Program}{w:World}{A:Around}{s:Shared}{l:Addr}{items:Array Value}(hl:s.heap.IsList l items)(hfit:(items.size:Int) < 2 ^ 63) :
  codeAny (model prog w) A (.builtin "len" ⟨[.ref l],[]⟩) (λr s₁=>r=.ok (.ret (.int items.size (s.toks+1)))/\s₁={ s with toks:=s.toks+1+1 }) s:=by
 refine PySem.codeAny_builtin entry_len ?_
 rw[Around.under_plainId plain_len _]
 exact wpAny_mono (wpAny_len_body_list (E:=λ_ _=>False) (Q:=λr s'=>r=.int items.size (s.toks+1)/\s'={ s with toks:=s.toks+1+1 }) hl hfit ⟨rfl,rfl⟩)
  (λfin s' h'=>by obtain⟨r,rfl,rfl,rfl⟩:=h';exact⟨rfl,rfl⟩) λ_ _ e=>e.elim
def yr{prog:Program}{w:World}{A:Around}{s:Shared}{l:Addr}{items:Array Value}(hl:s.heap.IsList l items)(hfit:(items.size:Int) < 2 ^ 63) :
  codeAny (model prog w) A (.call (.builtin "len") ⟨[.ref l],[]⟩) (λr s₁=>r=.ok (.ret (.int items.size (s.toks+1)))/\s₁={ s with toks:=s.toks+1+1 }) s:=by
 refine codeAny_call_builtin plain_len entry_len ?_
 have hfin:wpAny (model prog w) A.in1 (Builtin.«len» ⟨[.ref l],[]⟩) (λfin s'=>match fin with
   | .done f=>(Except.ok f:Result)=.ok (.ret (.int items.size (s.toks+1)))/\s'={ s with toks:=s.toks+1+1 }
   | .again c'=>c'.quiet=true/\codeAny (model prog w) A c' (λr s₁=>r=.ok (.ret (.int items.size (s.toks+1)))/\s₁={ s with toks:=s.toks+1+1 }) s')
   (λe s'=>(Except.error e:Result)=.ok (.ret (.int items.size (s.toks+1)))/\s'={ s with toks:=s.toks+1+1 }) s:=
  wpAny_mono (wpAny_len_body_list (E:=λ_ _=>False) (Q:=λr s'=>r=.int items.size (s.toks+1)/\s'={ s with toks:=s.toks+1+1 }) hl hfit ⟨rfl,rfl⟩)
   (λfin s' h'=>by obtain⟨r,rfl,rfl,rfl⟩:=h';exact⟨rfl,rfl⟩) λ_ _ e=>e.elim
 have ha:=args_len1 (.ref l)
 simp only[checkBuiltinCall,kind_len]
 cases hsig:Manifest.signature? "len" with
 |none=>exact wpAny_pure hfin
 |some sig=>
  simp only[argsOk,hsig] at ha
  have h2:Bind.checkArgs "len" sig ⟨[.ref l],[]⟩=pure ():=ha
  show wpAny _ A.in1 (Bind.checkArgs "len" sig ⟨[.ref l],[]⟩) _ _ s
  rw[h2];exact wpAny_pure hfin
def vT{w:World}{tl:zb}{kk:Nat}:LeafOk w tl (xBLen kk):=by
 refine zt λprog s d ⟨y,dd,vs,n,sl⟩ wh gs hg _ hp=>?_
 have hsz:vs.size<=sizeLine:=zW hp (.head _)
 have e2:(vs.size:Int)=lenV kk d vs.size:=LV.i.inj (hp _ (.tail _ (.head _)))
 have hL:s.heap.IsList y vs:=⟨_,hg _ (.head _),rfl,n,rfl⟩
 have hfit:(vs.size:Int) < 2 ^ 63:=by rw[sizeLine_eq] at hsz;lia
 refine⟨[],.of (s.toks+1),{ s with toks:=s.toks+1+1 },rfl,zh,?_,Eff.none⟩
 dsimp only
 rw[<-e2]
 match d with
 |0=>exact yr hL hfit
 |1=>exact xQ hL hfit
 |2=>exact yr hL hfit
 | _+3=>exact xQ hL hfit
def zU{prog:Program}{w:World}{A:Around}{s:Shared}{T:String}{name:Str}{id:String}{B:Builtin}{self:Value}{rest:List Value}{m:Made}{R:Result->Shared->Prop}(slot:Slot T name id)(hT:s.TypeIs self T)
  (entry:entryFor table id=some B) (args:argsOk id ⟨self::rest,[]⟩) (g:Gives (B ⟨self::rest,[]⟩) m) (h:m.post (λv s'=>R (.ok (.ret v)) s') s):codeAny (model prog w) A (.call (.builtin id) ⟨self::rest,[]⟩) R s:=
 codeAny_call_builtin slot.plain entry (slot.check _ _ _ _ _ _ _ _ hT args (g prog w A R s h))
noncomputable def cat(x y:Str):Str:=⟨x.cps++y.cps⟩
def xStrAdd:Ext:=cnX (M:=(Str × Tok) × Str × Tok) 0 (λ_=>0) (λ_ c _=>((sV (vAt (argC c) 0),tkV (vAt (argC c) 0)),sV (vAt (argC c) 1),tkV (vAt (argC c) 1))) (λ_ u=>.call (.builtin "str.__add__") ⟨[.str u.1.1 u.1.2,.str u.2.1 u.2.2],[]⟩) (λ_ _=>[])
 (λ_ u=>[small u.1.1.length,small u.2.1.length]) (λ_ u _ t=>⟨.ok (.ret (.str (cat u.1.1 u.2.1) (t.tok 0))),[],[]⟩)
theorem Eff.toks{s:Shared}{n:Nat}{objs gs}:Eff s { s with toks:=n } objs gs [] [] []:=Eff.none
def YO{x y:Str}(h:(x.length==0)=true):cat x y=y:=by
 have hx:x.cps=#[]:=Array.eq_empty_of_size_eq_zero (show x.length=0 from by simpa using h)
 unfold cat;rw[hx];simp
def YN{x y:Str}(h:(y.length==0)=true):cat x y=x:=by
 have hy:y.cps=#[]:=Array.eq_empty_of_size_eq_zero (show y.length=0 from by simpa using h)
 unfold cat;rw[hy];simp
def Wf{x y:Str}(h1:x.length<=1000)(h2:y.length<=1000):(cat x y).cps.size<=sizeLine:=by
 have:=sizeLine_eq
 show (x.cps++y.cps).size<=_
 rw[Array.size_append]
 have h1':x.cps.size<=1000:=h1
 have h2':y.cps.size<=1000:=h2
 lia
def yZ{w:World}{tl:zb}:LeafOk w tl xStrAdd:=by
 refine zt λprog s d ⟨⟨x,tx⟩,y,ty⟩ wh gs _ _ hp=>?_
 have h1:x.length<=1000:=of_decide_eq_true (LV.b.inj (hp _ (.head _)))
 have h2:y.length<=1000:=of_decide_eq_true (LV.b.inj (hp _ (.tail _ (.head _))))
 refine⟨[],.of (if x.length==0 then ty else if y.length==0 then tx else s.toks),{ s with toks:=if x.length==0 then s.toks else if y.length==0 then s.toks else s.toks+1 },rfl,zh,
  zU PySem.F.slot_str_add (typeIs_str s x tx) PySem.F.entry_str_add (PySem.F.args_str_add_2 _ _) (gives_str_add x y tx ty) ?_,Eff.toks⟩
 dsimp only
 cases e1:x.length==0 with
 |true=>
  rw[YO e1]
  exact⟨rfl,rfl⟩
 |false=>
  cases e2:y.length==0 with
  |true=>
   rw[YN e2]
   exact⟨rfl,rfl⟩
  |false=>exact⟨Wf h1 h2,rfl,rfl⟩
def pcLen(q:AccD)(ps:List Part):Lg:=[(.b (smallB (ps++[])),.b true),(.b (decide (0<=q.n+total (ps++[])) && decide (q.n+total (ps++[]) < 100)),.b true),(.i (q.n+total (ps++[])),.i (q.n+total (ps++[])))]
def pcGt(q:AccD)(ps:List Part)(b:Bool):LV × LV:=(.v (.bool (decide (q.n+total (ps++[]) > 0))),.v (.bool b))
def pcSet(ps:List Part):Lg:=[(.a (setPick (partsArr ps) #[] none none),.a #[]),small (partsArr ps).size,small (#[]:Array Value).size,small (#[]:Array Value).size]
def pcStr(ps:List Part):Lg:=[(.b (smallB (ps++[])),.b true),(.b (decide ((ps++[]).length<=40)),.b true)]
def pcOw0(a:Addr)(q:AccD):Lg:=[farB a,(.b (q.n==0),.b false)]
def pcOw(d:Nat)(a:Addr)(q:AccD)(ps:List Part)(k:Nat):Lg:=[farB a,(.b (q.n==0),.b true),(.b (spB (textOf ps)),.b (owB d)),(.b (smallB ps),.b true),(.b (decide (ps.length<=40)),.b true),(.b (decide (q.n+total ps < 100)),.b true),(.i (q.n+total ps),.i (Int.ofNat (k+1)))]
structure NlQ where
 f:Fm
 ps:List Part
 ep:Nat
 e:Addr
 k:Nat
 k2:Nat
 rs:Array Value
 R:Str
 tR:Tok
def NlQ.at(q:NlQ)(rows:Array Value):Fm:={ (q.f.far.line (partsArr q.ps) q.ep) with rows:=rows }
def nl2S(K:Wd)(x:List Nat × Bag)(q:NlQ)(rows:Array Value)(pos:Pos)(D:Nat->Addr)(Z:Nat->Ch)(O:Nat->Nat):Start:=
 ⟨cfg K.P K.V (WK x) 8 (partsTail q.ps),[xLenF K.P K.V q.ps [] (q.k+1) q.f.m1,xOws K.P K.V q.ps q.k q.f.m2,xStrF K.P K.V q.ps [] q.f.m2,pureX K.P 8 [],xAppend 1,xSetS 4 #[],xBLen (q.k2+1),xGet 1 (.str q.R q.tR),xSetL 1 q.rs (.str q.R q.tR),xStrAdd],
  slotAt (nlF K x q.f q.e pos D Z O) 1::(q.at rows).slots K.P K.V,[],(eo (nlF K x q.f q.e pos D Z O)).cur,(eo (nlF K x q.f q.e pos D Z O)).code,⟨59,8,63,59⟩,[]⟩
def nlX(K:Wd)(x:List Nat × Bag)(q:NlQ)(rows:Array Value)(le:Nat)(ep tn:Nat)(m1 m2:Option Addr)(pos:Pos)(D:Nat->Addr)(Z:Nat->Ch)(O:Nat->Nat)(pc:Lg):Exp:=
 ⟨.pure (.done (.ret .none)),(eo (nlF K x q.f q.e pos D Z O)).code,⟨64,8,64,34⟩,[],({ (q.f.far.line #[] ep) with q:=⟨0,q.f.q.tk,tn,q.f.q.ep⟩,rows:=rows,le:=le,m1:=m1,m2:=m2 }:Fm).slots K.P K.V,[],pc⟩
noncomputable def tpNlEnd:List Nat:=[15,13,476,476,474,0,13,476,476,474,13,13,476,11,7,644,644,642,7,644,644,642,7,644,644,642,608,7,5,608,0,608,606,594,17,8,17,8,4,17,17,8,17,17,7,644,7,644,644,642,6,0,7,644,21,19,17,7,644,644,642,0,7,644,7,644,7,644,644,642,7,644,5,2,5]
noncomputable def tpNlBeg:List Nat:=[6,0,15,13,476,476,474,0,13,476,476,474,13,13,476,11,1,0,3,7,5,4]
def tpNlz:List Nat:=tpNlBeg++1::tpNlEnd
def tpNlOw(d:Nat):List Nat:=tpNlBeg++[2,15,13,476,476,474,0,13,476,476,474,13,13,476,11,7,644,644,642,7,644,644,642,7,644,644,642,622,7,5,622,2,d,3,1,7,5]
noncomputable def tpNlApp(d:Nat):List Nat:=[15,13,476,476,474,0,13,476,476,474,13,13,476,11,9,9,9,9,6,0,15,13,476,476,474,0,13,476,476,474,13,13,476,11,3,d,1,7,5,5,0,9]
noncomputable def tpNlRows(d:Nat):List Nat:=[15,13,476,476,474,0,13,476,476,474,13,13,476,11,9,9,7,d,9]
def tpNla:List Nat:=tpNlOw 0++(tpNlApp 0++tpNlEnd)
def tpNlb:List Nat:=tpNlOw 1++(tpNlApp 1++tpNlEnd)
def tpNlc:List Nat:=tpNlOw 2++(tpNlRows 1++(tpNlApp 1++tpNlEnd))
def tpNld:List Nat:=tpNlOw 2++(tpNlRows 3++([15,13,476,476,474,0,13,476,476,474,13,13,476,11,0,9,9,8,0,9,6,0,15,13,476,476,474,0,13,476,476,474,13,13,476,11,3,1,1,7,5,10,0,9,9,9,0,9]++tpNlEnd))
def nlPcz(q:NlQ):Lg:=pcSet q.ps++pcGt q.f.q q.ps false::pcLen q.f.q q.ps
def nlPca(q:NlQ)(rows:Array Value):Lg:=pcSet q.ps++small rows.size::(pcStr q.ps++(pcOw0 q.f.far.c.a q.f.q++pcGt q.f.q q.ps true::pcLen q.f.q q.ps))
def Rg(K:Wd)(x:List Nat × Bag)(hx:x.1∈nxKs)(q:NlQ)(rows:Array Value)(pos:Pos)(D0 τ0 O0 D Z O):lhs 8 [4,5,6,7,8,9,10] ((nl2S K x q rows pos D0 τ0 O0).run D Z O 145 tpNlz) =
  rhs 3 (nlX K x q rows q.f.le ((Z 8).tok 0) ((Z 9).tok 0) (some ((Z 1).tok 1)) q.f.m2 pos D0 τ0 O0 (nlPcz q)) ((nl2S K x q rows pos D0 τ0 O0).run D Z O 145 tpNlz):=by
 obtain⟨ks,bag⟩:=x
 obtain⟨_,b1⟩:=K
 simp only[nxKs,List.mem_cons,List.not_mem_nil,or_false] at hx
 cases b1<;>rcases hx with rfl|rfl|rfl<;>kernel_rfl
def Rk(K:Wd)(x:List Nat × Bag)(hx:x.1∈nxKs)(q:NlQ)(rows:Array Value)(pos:Pos)(D0 τ0 O0 D Z O):lhs 8 [4,5,6,7,8,9,10] ((nl2S K x q rows pos D0 τ0 O0).run D Z O 241 tpNla) =
  rhs 3 (nlX K x q (rows.push (.str (textOf (q.ps++[])) ((Z 8).tok 0))) ((Z 9).tok 0) ((Z 14).tok 0) ((Z 15).tok 0) (some ((Z 1).tok 1)) (some ((Z 8).tok 1)) pos D0 τ0 O0 (nlPca q rows)) ((nl2S K x q rows pos D0 τ0 O0).run D Z O 241 tpNla):=by
 obtain⟨ks,bag⟩:=x
 obtain⟨_,b1⟩:=K
 simp only[nxKs,List.mem_cons,List.not_mem_nil,or_false] at hx
 cases b1<;>rcases hx with rfl|rfl|rfl<;>kernel_rfl
def nlPcb(q:NlQ)(rows:Array Value):Lg:=pcSet q.ps++small rows.size::(pcStr q.ps++(pcOw 1 q.f.far.c.a q.f.q q.ps q.k++pcGt q.f.q q.ps true::pcLen q.f.q q.ps))
def nlPcc(q:NlQ):Lg:=pcSet q.ps++small (#[]:Array Value).size::(pcStr q.ps++small (#[]:Array Value).size::(.i ((#[]:Array Value).size:Int),.i ((#[]:Array Value).size:Int))::(pcOw 2 q.f.far.c.a q.f.q q.ps q.k++pcGt q.f.q q.ps true::pcLen q.f.q q.ps))
noncomputable def NlQ.rows(q:NlQ):Array Value:=q.rs.push (.str q.R q.tR)
def nlPcd(q:NlQ):Lg:=pcSet q.ps++(.a q.rows,.a q.rows)::small q.R.length::small (textOf (q.ps++[])).length::(pcStr q.ps++(.ov (pyAt q.rows (-1)),.ov (some (.str q.R q.tR)))::near (-1)::small q.rows.size::(.i (q.rows.size:Int),.i (Int.ofNat (q.k2+1)))::(pcOw 2 q.f.far.c.a q.f.q q.ps q.k++pcGt q.f.q q.ps true::pcLen q.f.q q.ps))
def Rj(K:Wd)(x:List Nat × Bag)(hx:x.1∈nxKs)(q:NlQ)(rows:Array Value)(pos:Pos)(D0 τ0 O0 D Z O):lhs 8 [4,5,6,7,8,9,10] ((nl2S K x q rows pos D0 τ0 O0).run D Z O 241 tpNlb) =
  rhs 3 (nlX K x q (rows.push (.str (textOf (q.ps++[])) ((Z 8).tok 0))) ((Z 9).tok 0) ((Z 14).tok 0) ((Z 15).tok 0) (some ((Z 5).tok 0)) (some ((Z 8).tok 1)) pos D0 τ0 O0 (nlPcb q rows)) ((nl2S K x q rows pos D0 τ0 O0).run D Z O 241 tpNlb):=by
 obtain⟨ks,bag⟩:=x
 obtain⟨_,b1⟩:=K
 simp only[nxKs,List.mem_cons,List.not_mem_nil,or_false] at hx
 cases b1<;>rcases hx with rfl|rfl|rfl<;>kernel_rfl
def Ri(K:Wd)(x:List Nat × Bag)(hx:x.1∈nxKs)(q:NlQ)(pos:Pos)(D0 τ0 O0 D Z O):lhs 8 [4,5,6,7,8,9,10] ((nl2S K x q #[] pos D0 τ0 O0).run D Z O 264 tpNlc) =
  rhs 3 (nlX K x q ((#[]:Array Value).push (.str (textOf (q.ps++[])) ((Z 10).tok 0))) ((Z 11).tok 0) ((Z 16).tok 0) ((Z 17).tok 0) (some ((Z 5).tok 0)) (some ((Z 10).tok 1)) pos D0 τ0 O0 (nlPcc q)) ((nl2S K x q #[] pos D0 τ0 O0).run D Z O 264 tpNlc):=by
 obtain⟨ks,bag⟩:=x
 obtain⟨_,b1⟩:=K
 simp only[nxKs,List.mem_cons,List.not_mem_nil,or_false] at hx
 cases b1<;>rcases hx with rfl|rfl|rfl<;>kernel_rfl
def Rh(K:Wd)(x:List Nat × Bag)(hx:x.1∈nxKs)(q:NlQ)(pos:Pos)(D0 τ0 O0 D Z O):lhs 8 [4,5,6,7,8,9,10] ((nl2S K x q q.rows pos D0 τ0 O0).run D Z O 272 tpNld) =
  rhs 3 (nlX K x q (q.rs.push (.str (cat q.R (textOf (q.ps++[]))) ((Z 14).tok 0))) ((Z 15).tok 0) ((Z 20).tok 0) ((Z 21).tok 0) (some ((Z 5).tok 0)) (some ((Z 13).tok 1)) pos D0 τ0 O0 (nlPcd q)) ((nl2S K x q q.rows pos D0 τ0 O0).run D Z O 272 tpNld):=by
 obtain⟨ks,bag⟩:=x
 obtain⟨_,b1⟩:=K
 simp only[nxKs,List.mem_cons,List.not_mem_nil,or_false] at hx
 cases b1<;>rcases hx with rfl|rfl|rfl<;>kernel_rfl
noncomputable def rowsArr(rl:List (Str × Tok)):Array Value:=(rl.map λp=>Value.str p.1 p.2).toArray
def zi(rl:List (Str × Tok))(s:Str)(t:Tok):(rowsArr rl).push (.str s t)=rowsArr (rl++[(s,t)]):=by simp[rowsArr]
def ze(rl:List (Str × Tok)):(rowsArr rl).size=rl.length:=by simp[rowsArr]
noncomputable def txLen(tx:List (Str × Str)):Int:=(tx.map λp=>(p.1.length:Int)+p.2.length).sum
def txText(tx:List (Str × Str)):Str:=Txt.join ⟨#[]⟩ (tx.map λp=>cat p.1 p.2)
noncomputable def txSmall(tx:List (Str × Str)):Bool:=tx.all λp=>decide (p.1.length<=1000) && decide (p.2.length<=1000)
def y8(ps:List Part):total ps=txLen (txs ps):=by
 unfold total txLen txs
 rw[List.map_map];rfl
def zP(ps:List Part):textOf ps=txText (txs ps):=by
 unfold textOf txText txs
 rw[List.map_map];rfl
def yn(ps:List Part):smallB ps=txSmall (txs ps):=by
 unfold smallB txSmall txs
 rw[List.all_map];rfl
def yu(ps:List Part):(txs ps).length=ps.length:=by simp[txs]
def nlRows(n:Int)(tx:List (Str × Str))(rows:List Str):List Str:=
 if n+txLen (norm1 tx) > 0 then
  (if (n==0 && spB (txText (norm1 tx)))=true then (match rows.getLast? with
   |some R=>rows.dropLast++[cat R (txText (norm1 tx))]
   |none=>[txText (norm1 tx)])
  else rows++[txText (norm1 tx)])
 else rows
structure FmSame (f g:Fm):Prop where
 fa:g.fa=f.fa
 fd:g.fd=f.fd
 la:g.la=f.la
 ca:g.c.a=f.c.a
 cd:g.c.d=f.c.d
 wd:g.wd=f.wd
def ud(ps:List Part):setPick (partsArr ps) #[] none none=#[]:=by
 unfold setPick
 simp[sliceBounds]
structure NlH (f:Fm) (ps:List Part) (rl:List (Str × Tok)):Prop where
 sm:txSmall (txs ps)=true
 ln:ps.length<=40
 lo:0<=f.q.n+txLen (txs ps)
 hi:f.q.n+txLen (txs ps) < 100
 tl:(txText (txs ps)).length<=1000
 rn:rl.length<=900
 rs:∀p∈rl,p.1.length<=1000
def Lg.Ok.app{a b:Lg}(h1:Lg.Ok a)(h2:Lg.Ok b):Lg.Ok (a++b):=λp hp=>(List.mem_append.mp hp).elim (h1 p) (h2 p)
section
variable {f:Fm} {ps:List Part} {rl:List (Str × Tok)}
theorem NlH.len(h:NlH f ps rl):Lg.Ok (pcLen f.q ps):=by
 unfold pcLen
 have hs:=h.sm
 have h1:=h.lo
 have h2:=h.hi
 rw[<-yn] at hs
 rw[<-y8] at h1 h2
 rw[List.append_nil,hs,decide_eq_true h1,decide_eq_true h2]
 exact za rfl (za rfl (za rfl zd))
theorem NlH.gt{b:Bool}(h:decide (f.q.n+txLen (txs ps) > 0)=b):(pcGt f.q ps b).1=(pcGt f.q ps b).2:=by
 unfold pcGt
 rw[<-y8] at h
 rw[List.append_nil,h]
theorem NlH.set(h:NlH f ps rl):Lg.Ok (pcSet ps):=by
 unfold pcSet
 rw[ud]
 exact za rfl (za (zc (by rw[zl];have:=h.ln;lia)) (za (zc (Nat.zero_le _)) (za (zc (Nat.zero_le _)) zd)))
theorem NlH.str(h:NlH f ps rl):Lg.Ok (pcStr ps):=by
 unfold pcStr
 have hs:=h.sm
 rw[<-yn] at hs
 rw[List.append_nil,hs,decide_eq_true h.ln]
 exact za rfl (za rfl zd)
theorem NlH.ow0(hn:(f.q.n==0)=false):Lg.Ok (pcOw0 f.far.c.a f.q):=by
 unfold pcOw0
 rw[hn]
 exact za (z5 (Nat.le_add_left ..)) (za rfl zd)
theorem NlH.ow{d k:Nat}(h:NlH f ps rl)(hn:(f.q.n==0)=true)(hsp:spB (txText (txs ps))=owB d)(hk:f.q.n+txLen (txs ps)=Int.ofNat (k+1)):Lg.Ok (pcOw d f.far.c.a f.q ps k):=by
 unfold pcOw
 have hs:=h.sm
 have h2:=h.hi
 rw[<-yn] at hs
 rw[<-y8] at hk h2
 rw[<-zP] at hsp
 rw[hn,hsp,hs,decide_eq_true h.ln,decide_eq_true h2,hk]
 exact za (z5 (Nat.le_add_left ..)) (za rfl (za rfl (za rfl (za rfl (za rfl (za rfl zd))))))
end
def yM{K:Wd}{W:List (Code × Pos)}{m:Nat}{ps:List Part}{k k2:Nat}{m1 m2:Option Addr}{v:Value}{rs:Array Value}:∀F,Under (cfg K.P K.V W m (partsTail ps)) F->∀e E,nth [xLenF K.P K.V ps [] (k+1) m1,xOws K.P K.V ps k m2,xStrF K.P K.V ps [] m2,pureX K.P 8 [],xAppend 1,xSetS 4 #[],xBLen (k2+1),xGet 1 v,xSetL 1 rs v,xStrAdd] e=some E->ExtOk (cfg K.P K.V W m (partsTail ps)) K.w F E:=λF U=>
 (AllOk.cons (x0 U) (.cons (Wr U) (.cons (xZ U) (.cons zn (.cons (.leaf U zm) (.cons (.leaf U vN) (.cons (.leaf U vT) (.cons (.leaf U y7) (.cons (.leaf U vO) (.cons (.leaf U yZ) .nil)))))))))).nth
structure NlE (K:Wd) (f:Fm) (rows:List Str) (b:St):Prop where
 ex:∃g rl',FmSame f g/\g.c.xs=#[]/\g.q.n=0/\g.rows=rowsArr rl'/\rl'.map (·.1)=rows/\b.cur=.pure (.done (.ret .none))/\b.fs=[]/\b.T=g.far.slots K.P K.V
def wj{K:Wd}{x:List Nat × Bag}{q:NlQ}{rows:Array Value}{rl':List (Str × Tok)}{le ep tn:Nat}{m1 m2:Option Addr}{pos:Pos}{D Z O}{pc:Lg}{R:List Str}(h1:rows=rowsArr rl')(h2:rl'.map (·.1)=R) :
  NlE K q.f R ⟨(nlX K x q rows le ep tn m1 m2 pos D Z O pc).cur,(nlX K x q rows le ep tn m1 m2 pos D Z O pc).code,(nlX K x q rows le ep tn m1 m2 pos D Z O pc).pos,(nlX K x q rows le ep tn m1 m2 pos D Z O pc).fs,(nlX K x q rows le ep tn m1 m2 pos D Z O pc).T⟩:=
 ⟨({ (q.f.line #[] ep) with q:=⟨0,q.f.q.tk,tn,q.f.q.ep⟩,rows:=rows,le:=le,m1:=m1,m2:=m2 }:Fm),rl',⟨rfl,rfl,rfl,rfl,rfl,rfl⟩,rfl,rfl,h1,h2,rfl,rfl,rfl⟩
def Xt{K:Wd}{x:List Nat × Bag}(hx:x.1∈nxKs){f:Fm}{ps ps2:List Part}{rl:List (Str × Tok)}(hr:f.rows=rowsArr rl)(h2:txs ps2=norm1 (txs ps))(h:NlH f ps2 rl){pos:Pos}{D0 τ0 O0}{e:Addr}{ep:Nat} :
  Seg K (WK x) ⟨(eo (nlF K x f e pos D0 τ0 O0)).cur,(eo (nlF K x f e pos D0 τ0 O0)).code,⟨59,8,63,59⟩,[],slotAt (nlF K x f e pos D0 τ0 O0) 1::((f.far.line (partsArr ps2) ep).slots K.P K.V++partsTail ps2)⟩ (NlE K f (nlRows f.q.n (txs ps) (rl.map (·.1)))):=by
 have drop:∀{a:St} {B:St->Prop} {P:St->Prop},Seg K (WK x) a B->(∀b,B b->FrE P (partsTail ps2) b)->Seg K (WK x) a P:=λh m=>h.post λb hb=>by
  obtain⟨b',hp⟩:=m b hb
  exact⟨b',partsTail ps2,hp,rfl,rfl,rfl,rfl,.refl _⟩
 have eR:∀q:NlQ,q.f=f->q.ps=ps2->q.ep=ep->∀rows,rows=f.rows->(f.far.line (partsArr ps2) ep)=q.at rows:=by
  rintro⟨f',ps',ep',e',k,k2,rs,R,tR⟩ rfl rfl rfl rows rfl;rfl
 unfold nlRows
 rw[<-h2]
 by_cases hgt:f.q.n+txLen (txs ps2) > 0
 ·rw[if_pos hgt]
  obtain⟨k,hk⟩:∃k:Nat,f.q.n+txLen (txs ps2)=Int.ofNat (k+1):=UQ hgt
  cases hn:(f.q.n==0) with
  |false=>
   rw[if_neg (by simp)]
   let q:NlQ:=⟨f,ps2,ep,e,0,0,#[],⟨#[]⟩,0⟩
   rw[eR q rfl rfl rfl f.rows rfl]
   have hpc:Lg.Ok (nlPca q f.rows):=h.set.app (za (zc (by rw[hr,ze];have:=h.rn;lia)) (h.str.app ((NlH.ow0 hn).app (za (NlH.gt (decide_eq_true hgt)) h.len))))
   refine drop (Seg.run (K:=K) (nl2S K x q f.rows pos D0 τ0 O0) (tl:=partsTail ps2) rfl rfl yM _ [4,5,6,7,8,9,10] (Rk K x hx q f.rows pos D0 τ0 O0) (by decide) rfl (by decide)
    (λ_ _ _=>hpc) (λ_ _ _=>rfl)) ?_
   rintro b ⟨D,Z,O⟩
   exact .of _ (wj (q:=q) (pc:=nlPca q f.rows) (rl':=rl++[(textOf (ps2++[]),(Z 8).tok 0)]) (by rw[hr,zi]) (by rw[List.map_append,List.append_nil,zP];rfl)) rfl
  |true=>
   cases hsp:spB (txText (txs ps2)) with
   |false=>
    rw[if_neg (by simp)]
    let q:NlQ:=⟨f,ps2,ep,e,k,0,#[],⟨#[]⟩,0⟩
    rw[eR q rfl rfl rfl f.rows rfl]
    have hpc:Lg.Ok (nlPcb q f.rows):=h.set.app (za (zc (by rw[hr,ze];have:=h.rn;lia)) (h.str.app ((h.ow (d:=1) hn hsp hk).app (za (NlH.gt (decide_eq_true hgt)) h.len))))
    refine drop (Seg.run (K:=K) (nl2S K x q f.rows pos D0 τ0 O0) (tl:=partsTail ps2) rfl rfl yM _ [4,5,6,7,8,9,10] (Rj K x hx q f.rows pos D0 τ0 O0) (by decide) rfl (by decide)
     (λ_ _ _=>hpc) (λ_ _ _=>rfl)) ?_
    rintro b ⟨D,Z,O⟩
    exact .of _ (wj (q:=q) (pc:=nlPcb q f.rows) (rl':=rl++[(textOf (ps2++[]),(Z 8).tok 0)]) (by rw[hr,zi]) (by rw[List.map_append,List.append_nil,zP];rfl)) rfl
   |true=>
    rw[if_pos (by simp)]
    rcases List.eq_nil_or_concat rl with rfl|⟨rl0,⟨R,tR⟩,rfl⟩
    ·let q:NlQ:=⟨f,ps2,ep,e,k,0,#[],⟨#[]⟩,0⟩
     rw[eR q rfl rfl rfl #[] (by rw[hr];rfl)]
     have hpc:Lg.Ok (nlPcc q):=h.set.app (za (zc (Nat.zero_le _)) (h.str.app (za (zc (Nat.zero_le _)) (za rfl ((h.ow (d:=2) hn hsp hk).app (za (NlH.gt (decide_eq_true hgt)) h.len))))))
     refine drop (Seg.run (K:=K) (nl2S K x q #[] pos D0 τ0 O0) (tl:=partsTail ps2) rfl rfl yM _ [4,5,6,7,8,9,10] (Ri K x hx q pos D0 τ0 O0) (by decide) rfl (by decide)
      (λ_ _ _=>hpc) (λ_ _ _=>rfl)) ?_
     rintro b ⟨D,Z,O⟩
     exact .of _ (wj (q:=q) (pc:=nlPcc q) (rl':=[(textOf (ps2++[]),(Z 10).tok 0)]) rfl (by rw[List.append_nil,zP];rfl)) rfl
    ·let q:NlQ:=⟨f,ps2,ep,e,k,rl0.length,rowsArr rl0,R,tR⟩
     have hrows:f.rows=q.rows:=by rw[hr,List.concat_eq_append];exact(zi rl0 R tR).symm
     rw[eR q rfl rfl rfl q.rows hrows.symm]
     have hsz:q.rows.size=rl0.length+1:=by show ((rowsArr rl0).push _).size=_;rw[Array.size_push,ze]
     have hrn:rl0.length<=900:=by have:=h.rn;simp at this;lia
     have hov:LV.ov (pyAt q.rows (-1))=LV.ov (some (.str q.R q.tR)):=by
      show LV.ov (pyAt ((rowsArr rl0).push (.str R tR)) (-1))=LV.ov (some (.str R tR))
      unfold pyAt
      rw[PySem.seqIndex_neg (by lia) (by rw[Array.size_push];lia),Array.size_push,show ((-1:Int)+((rowsArr rl0).size+1:Nat)).toNat=(rowsArr rl0).size by rw[Int.add_comm];exact congrArg Int.toNat (Int.add_neg_cancel_right ((rowsArr rl0).size:Int) 1)]
      simp
     have hpc:Lg.Ok (nlPcd q):=h.set.app (za rfl (za (zc (h.rs (R,tR) (by simp))) (za (zc (by rw[List.append_nil,zP];exact h.tl)) (h.str.app (za hov (za rfl (za (zc (by rw[hsz];lia)) (za (by rw[hsz];rfl) ((h.ow (d:=2) hn hsp hk).app (za (NlH.gt (decide_eq_true hgt)) h.len))))))))))
     refine drop (Seg.run (K:=K) (nl2S K x q q.rows pos D0 τ0 O0) (tl:=partsTail ps2) rfl rfl yM _ [4,5,6,7,8,9,10] (Rh K x hx q pos D0 τ0 O0) (by decide) rfl (by decide)
      (λ_ _ _=>hpc) (λ_ _ _=>rfl)) ?_
     rintro b ⟨D,Z,O⟩
     refine .of _ (wj (q:=q) (pc:=nlPcd q) (rl':=rl0++[(cat R (textOf (ps2++[])),(Z 14).tok 0)]) (by rw[<-zi]) ?_) rfl
     rw[List.concat_eq_append,List.map_append,List.map_append,List.append_nil,zP]
     simp
 ·rw[if_neg hgt]
  let q:NlQ:=⟨f,ps2,ep,e,0,0,#[],⟨#[]⟩,0⟩
  rw[eR q rfl rfl rfl f.rows rfl]
  have hpc:Lg.Ok (nlPcz q):=h.set.app (za (NlH.gt (decide_eq_false hgt)) h.len)
  refine drop (Seg.run (K:=K) (nl2S K x q f.rows pos D0 τ0 O0) (tl:=partsTail ps2) rfl rfl yM _ [4,5,6,7,8,9,10] (Rg K x hx q f.rows pos D0 τ0 O0) (by decide) rfl (by decide)
   (λ_ _ _=>hpc) (λ_ _ _=>rfl)) ?_
  rintro b ⟨D,Z,O⟩
  exact .of _ (wj (q:=q) (pc:=nlPcz q) (rl':=rl) hr rfl) rfl
def yN{K:Wd}{x:List Nat × Bag}(hx:x.1∈nxKs){f:Fm}{ps:List Part}{rl:List (Str × Tok)}(hps:f.c.xs=partsArr ps)(hr:f.rows=rowsArr rl)
  (h:∀ps2,txs ps2=norm1 (txs ps)->NlH f ps2 rl) (hlen:ps.length<=40) {pos:Pos} :
  Seg K (WK x) ⟨denF (nlC f.far.fa),nlC f.far.fa,pos,[],f.far.slots K.P K.V++partsTail ps⟩ (NlE K f (nlRows f.q.n (txs ps) (rl.map (·.1)))):=by
 refine(Xu hx hps hlen).trans ?_
 rintro b ⟨D,Z,O,e,ep,ps2,h2,rfl⟩
 exact Xt hx hr h2 (h ps2 h2)
noncomputable def rngIt(v l:Nat):Obj:=⟨.type "range_iterator", none,.fields #[.int (.ofNat v) 0,.int (.ofNat l) 0,.int (.negSucc 0) 0],#[]⟩
def zp{prog:Program}{w:World}{A:Around}{s:Shared}{T:String}{name:Str}{id:String}{B:Builtin}{self:Value}{rest:List Value}{S:PySem.Spec}{R:Result->Shared->Prop}(slot:Slot T name id)(hT:s.TypeIs self T)
  (entry:entryFor table id=some B) (args:argsOk id ⟨self::rest,[]⟩) (g:Meets (B ⟨self::rest,[]⟩) S) (h:S A R s):codeAny (model prog w) A (.call (.builtin id) ⟨self::rest,[]⟩) R s:=
 codeAny_call_builtin slot.plain entry (slot.check _ _ _ _ _ _ _ _ hT args (g prog w A R s h))
def w2{i:Int}(h1:-1000<=i)(h2:i<=1000):Builtin.Range.rangeFitsLong i=true:=by
 unfold Builtin.Range.rangeFitsLong
 rw[decide_eq_true (by lia),decide_eq_true (by lia)];rfl
structure RgM where
 y:Addr
 a:Int
 ta:Tok
 b:Int
 tb:Tok
 s:Int
 ts:Tok
noncomputable def RgM.o(u:RgM):Obj:=⟨.type "range", none,.fields #[.int u.a u.ta,.int u.b u.tb,.int u.s u.ts],#[]⟩
def rdRg(l:zb):RgM:=⟨obA l 0,iV (vAt (flO (obO l 0)) 0),tkV (vAt (flO (obO l 0)) 0),iV (vAt (flO (obO l 0)) 1),tkV (vAt (flO (obO l 0)) 1),iV (vAt (flO (obO l 0)) 2),tkV (vAt (flO (obO l 0)) 2)⟩
def xRIter(n:Nat):Ext:=cnX 1 (λ_=>1) (λ_ _ l=>rdRg l) (λ_ u=>.call (.builtin "range.__iter__") ⟨[.ref u.y],[]⟩) (λ_ u=>[(u.y,u.o)])
 (λ_ u=>[(.i u.a,.i (.ofNat n)),(.i u.b,.i 0),(.i u.s,.i (.negSucc 0)),small n]) (λ_ _ xs _=>⟨.ok (.ret (.ref (xs.headD 0))),[],[rngIt n n]⟩)
def Ye{w:World}{tl:zb}{n:Nat}:LeafOk w tl (xRIter n):=by
 refine zt λprog s d ⟨y,a,ta,b,tb,st,ts⟩ wh gs hg _ hp=>?_
 have e2:a=.ofNat n:=LV.i.inj (hp _ (.head _))
 have e3:b=0:=LV.i.inj (hp _ (.tail _ (.head _)))
 have e4:st=.negSucc 0:=LV.i.inj (hp _ (.tail _ (.tail _ (.head _))))
 have hn:=of_decide_eq_true (LV.b.inj (hp _ (.tail _ (.tail _ (.tail _ (.head _))))))
 subst e2 e3 e4
 have h1:=hg _ (.head _)
 have hsz:Builtin.Range.rangeSize (Int.ofNat n) 0 (Int.negSucc 0)=Int.ofNat n:=by
  simp only[Builtin.Range.rangeSize,Int.ofNat_eq_natCast]
  rw[if_neg (by lia)]
  by_cases h0:(n:Int) > 0
  ·rw[if_pos h0];show ((n:Int) - 0 - 1) / 1+1=n;lia
  ·rw[if_neg h0];lia
 have hc0:¬(!(Builtin.Range.rangeFitsLong (Int.ofNat n) && Builtin.Range.rangeFitsLong 0 && Builtin.Range.rangeFitsLong (Int.negSucc 0) && Builtin.Range.rangeFitsLong (Builtin.Range.rangeSize (Int.ofNat n) 0 (Int.negSucc 0)) && (Builtin.Range.rangeSize (Int.ofNat n) 0 (Int.negSucc 0)==0 || (if Int.negSucc 0 > 0 then Builtin.Range.rangeFitsLong (0+(Int.negSucc 0 - 1)) else Builtin.Range.rangeFitsLong (0+(Int.negSucc 0+1))))))=true:=by
  rw[hsz,w2 (i:=Int.ofNat n) (by simp only[Int.ofNat_eq_natCast];lia) (by simp only[Int.ofNat_eq_natCast];lia),w2 (i:=0) (by lia) (by lia),w2 (i:=Int.negSucc 0) (by lia) (by lia),if_neg (by lia),w2 (i:=0+(Int.negSucc 0+1)) (by lia) (by lia)]
  simp
 refine⟨[s.heap.objs.size],.of 0,{ s with heap:=s.heap.push (rngIt n n) },rfl,zK,zp PySem.F.slot_range_iter ⟨_,h1,rfl⟩ PySem.F.entry_range_iter (PySem.F.args_range_iter_1 _) (AutoRange.range___iter___range_1 y _ _ _ ta tb ts hc0) ⟨h1,?_⟩,Eff.push (tk:=s.toks) rfl⟩
 have hc:=hc0
 rw[Bool.not_eq_true,Bool.not_eq_false',hsz] at hc
 rw[hsz,if_pos hc]
 exact⟨rfl,rfl⟩
noncomputable def prI(i:Int):Nat:=match i with
 | .ofNat (v+1)=>v
 | _=>0
def xRNext:Ext:=cnX 1 (λ_=>0) (λ_ _ l=>(obA l 0,prI (iV (vAt (flO (obO l 0)) 0)),prI (iV (vAt (flO (obO l 0)) 1)))) (λ_ u=>.call (.builtin "range_iterator.__next__") ⟨[.ref u.1],[]⟩)
 (λ_ u=>[(u.1,rngIt (u.2.1+1) (u.2.2+1))]) (λ_ _=>[]) (λ_ u _ t=>⟨.ok (.ret (.int (.ofNat (u.2.1+1)) (t.tok 0))),[rngIt u.2.1 u.2.2],[]⟩)
def Yd{w:World}{tl:zb}:LeafOk w tl xRNext:=by
 refine zt λprog s d ⟨y,v,l⟩ wh gs hg _ _=>?_
 have h1:=hg _ (.head _)
 have hn:¬Int.ofNat (l+1)<=0:=nofun
 have g1:=Heap.get?_update_self (Obj.mapFields λx_1=>x_1.setIfInBounds 0 (rawInt (Int.ofNat (v+1)+Int.negSucc 0))) h1 rfl
 have g2:=Heap.get?_update_self (Obj.mapFields λx=>x.setIfInBounds 1 (rawInt (Int.ofNat (l+1) - 1))) g1 rfl
 refine⟨[],.of s.toks,_,rfl,zh,zp PySem.F.slot_range_iterator_next ⟨_,h1,rfl⟩ PySem.F.entry_range_iterator_next (PySem.F.args_range_iterator_next_1 _) (AutoRange.range_iterator___next___range_iterator_1 y (Int.ofNat (v+1)) (Int.ofNat (l+1)) (Int.negSucc 0) hn) ⟨h1,⟨rfl,rfl⟩⟩,
  ⟨λx o hx hne=>(Heap.get?_update_other _ _ (hne _ (.head _))).trans ((Heap.get?_update_other _ _ (hne _ (.head _))).trans hx),λp hp _=>?_,λp hp=>(nomatch hp),List.nodup_nil,λ_ _ h _=>h,id,rfl⟩⟩
 rw[List.mem_singleton.mp hp]
 refine g2.trans ?_
 rw[show Int.ofNat (v+1)+Int.negSucc 0=Int.ofNat v from by simp only[Int.ofNat_eq_natCast];lia,show Int.ofNat (l+1) - 1=Int.ofNat l from by simp only[Int.ofNat_eq_natCast];lia]
 rfl
def xGetN(m:Nat)(l:List Value):Ext:=⟨m,λ_=>0,false,λd c wh objs gs xs t=>match nth l d with
 |some v=>(xGet m v).f d c wh objs gs xs t
 |none=>none⟩
def YV{w:World}{tl:zb}{m:Nat}{l:List Value}:LeafOk w tl (xGetN m l):=by
 intro prog s d c wh objs gs h1 h2 h3 h4
 cases h:nth l d with
 |none=>
  refine⟨[],.of 0,rfl,zh,λr hr=>?_⟩
  simp only[xGetN,h] at hr
  cases hr
 |some v=>
  obtain⟨xs,t,e1,e2,e3⟩:=y7 (m:=m) (v:=v) prog s d c wh objs gs h1 h2 h3 h4
  refine⟨xs,t,e1,e2,λr hr=>e3 r ?_⟩
  simp only[xGetN,h] at hr
  exact hr
def ifB(s:Stmt):List Stmt:=(stP s).1
def forT(s:Stmt):Expr:=(stP s).2.2.2.2.1
def forB(s:Stmt):List Stmt:=(stP s).1
def forO(s:Stmt):List Stmt:=(stP s).2.1
def acFor1:Stmt:=sAt (ifB (sAt (fnBody (inS 19 8)) 1)) 0
def acFor2:Stmt:=sAt (forB acFor1) 0
def acEnv(a0:Addr):Env:={ scope:=fnScope (inS 19 8),locals:=a0,globals:=3,cells:=[],qual:=⟨#[95,86,97,108,117,101,70,111,114,109,97,116,116,101,114,46,95,97,112,112,101,110,100,95,99,104,117,110,107,46,60,108,111,99,97,108,115,62,46]⟩,func:=some 235,code:=.ref 234,frame:=some a0,builtins:=0 }
def acLoop(a0 it:Addr):Code:=.forLoop (forT acFor2) (.ref it) (forB acFor2) (forO acFor2) (acEnv a0)
noncomputable def sString:Str:=⟨#[115,116,114,105,110,103]⟩
noncomputable def sCh:Str:=⟨#[99,104]⟩
noncomputable def sI:Str:=⟨#[105]⟩
noncomputable def sPrev:Str:=⟨#[112,114,101,118,112,97,114,116]⟩
noncomputable def ent(P:Params)(s:Str)(t:Tok)(v:Value):DictEntry:=⟨PyData.keyHash P s,.str s t,v⟩
structure AcF where
 a0:Addr
 fa:Addr
 t:Nat->Tok
 F:Str
 tF:Tok
 S:Str
 tS:Tok
 tc:Tok
def AcF.ents(q:AcF)(P:Params):List DictEntry:=[ent P sSelf (q.t 0) (.ref q.fa),ent P sFws (q.t 1) (.str q.F q.tF),ent P sString (q.t 2) (.str q.S q.tS),ent P sCh (q.t 3) (.str spc q.tc)]
noncomputable def frameO(l:List DictEntry)(ep:Nat):Obj:=⟨.type "frame", none,.dict ⟨l⟩ ep,#[]⟩
set_option genCtorIdx true in
inductive AcX where
 |no
 |i (v:Value) (t:Tok)
 |ip (v:Value) (t:Tok) (v2:Value) (t2:Tok)
def AcX.ents(P:Params):AcX->List DictEntry
 | .no=>[]
 | .i v t=>[ent P sI t v]
 | .ip v t v2 t2=>[ent P sI t v,ent P sPrev t2 v2]
noncomputable def AcX.n:AcX->Nat
 | .no=>4
 | .i ..=>5
 | .ip ..=>6
def AcF.o(q:AcF)(P:Params)(x:AcX):Addr × Obj:=(q.a0,frameO (q.ents P++x.ents P) x.n)
noncomputable def Part.wF(p:Part)(F:Str):Part:=⟨p.a,F,p.tF,p.S,p.tS⟩
noncomputable def Part.wS(p:Part)(S:Str):Part:=⟨p.a,p.F,p.tF,S,p.tS⟩
inductive SK where
 |s0
 |s1 (c:Nat)
 |s2 (c d:Nat)
 |s3 (c d e:Nat)
noncomputable def SK.str:SK->Str
 | .s0=>⟨#[]⟩
 | .s1 c=>⟨#[c]⟩
 | .s2 c d=>⟨#[c,d]⟩
 | .s3 c d e=>⟨#[c,d,e]⟩
noncomputable def SK.last:SK->Nat
 | .s0=>0
 | .s1 c=>c
 | .s2 _ d=>d
 | .s3 _ _ e=>e
structure LpQ where
 f:Fm
 ps:List Part
 g:AcF
 it:Addr
 i:Nat
 p1:Part
 p0:Part
 x:AcX
def LpQ.fr(q:LpQ)(F:Str)(tF:Tok):AcF:=⟨q.g.a0,q.f.far.fa,q.g.t,F,tF,q.g.S,q.g.tS,q.g.tc⟩
def LpQ.fm(q:LpQ):Fm:=q.f.far.puts (partsArr q.ps)
noncomputable def apKs:List (List Nat):=[[1,0,1,0,0,3]]
def lpS(K:Wd)(b:Bag)(q:LpQ)(F1 S0:Str)(pos:Pos):Start:=mkS K (WK ([1,0,1,0,0,3],b)) 11 [] [xRNext,xGetN 2 [.ref q.p1.a,.ref q.p0.a],pureX K.P 8 [λt=>.int (.ofNat q.i) t]]
 ([(q.fr q.g.F q.g.tF).o K.P q.x,(q.it,rngIt (q.i+1) (q.i+1)),(q.p1.wF F1).slot,(q.p0.wS S0).slot]++q.fm.slots K.P K.V) (acLoop q.g.a0 q.it) pos
noncomputable def AcX.found(x:AcX)(v:Value)(Z:Nat->Ch):AcX:=match x with
 | .no=>.i v ((Z 1).tok 0)
 | .i _ t=>.i v t
 | .ip _ t v2 t2=>.ip v t v2 t2
noncomputable def AcX.past(x:AcX)(v w:Value)(Z:Nat->Ch):AcX:=match x with
 | .no=>.ip v ((Z 1).tok 0) w ((Z 13).tok 0)
 | .i _ t=>.ip v t w ((Z 13).tok 0)
 | .ip _ t _ t2=>.ip v t w t2
def pcAt(q:LpQ)(i:Nat)(a:Addr):Lg:=[(.ov (pyAt (partsArr q.ps) (.ofNat i)),.ov (some (.ref a))),near (.ofNat i)]
noncomputable def tpLp1:List Nat:=[19,1,0,19,21,10,21,0,21,13,476,476,474,0,13,476,476,474,13,13,476,11,21,7,644,644,642,7,644,7,644,644,642,2,0,7,644,0,17,17,17,0,17,17,0,21,10,21,0,0,21,0,21,3,2]
noncomputable def tpLp3:List Nat:=[19,1,0,19,21,10,21,0,21,13,476,476,474,0,13,476,476,474,13,13,476,11,21,7,644,644,642,7,644,7,644,644,642,2,0,7,644,0,17,17,17,0,17,17,0,21,10,21,0,0,21,13,476,476,474,0,13,476,476,474,13,13,476,11,21,3,3,7,644,644,642,7,644,7,644,644,642,2,1,7,644,0,15,15,15,0,15,15,0,21,10,21,0,0]
def tpLp2:List Nat:=tpLp3++[21,0,0,21,3,1]
def lpX(K:Wd)(q:LpQ)(cur:Sem PySem.Fin)(pos:Pos)(F1 S0:Str)(x:AcX)(pc:Lg):Exp:=
 ⟨cur,acLoop q.g.a0 q.it,pos,[],[(q.fr F1 q.p1.tF).o K.P x,(q.it,rngIt q.i q.i),(q.p1.wF F1).slot,(q.p0.wS S0).slot]++q.fm.slots K.P K.V,[],pc⟩
def lpPc1(q:LpQ):Lg:=(.v (.bool ((⟨#[32]⟩:Str)==spc)),.v (.bool true))::pcAt q (q.i+1) q.p1.a
def lpPc3(q:LpQ)(t:Tok):Lg:=pcAt q q.i q.p0.a++(.v (.int (.ofNat (q.i+1) - 1) t),.v (.int (.ofNat q.i) t))::pcAt q (q.i+1) q.p1.a
def lpPc2(q:LpQ)(s:SK)(t:Tok):Lg:=(.v (.bool ((⟨#[s.last]⟩:Str).cps.toList==spc.cps.toList)),.v (.bool false))::lpPc3 q t
def RF(K:Wd)(b:Bag)(q:LpQ)(S0:Str)(pos:Pos)(hx:∀v t,q.x≠.i v t)(D Z O):lhs 11 [0,1,2,3,4,5,6,7,8,9,10] ((lpS K b q spc S0 pos).run D Z O 102 tpLp1) =
  rhs 0 (lpX K q (.pure (.done .next)) ⟨86,28,86,33⟩ spc S0 (q.x.found (.int (.ofNat (q.i+1)) ((Z 0).tok 0)) Z) (lpPc1 q)) ((lpS K b q spc S0 pos).run D Z O 102 tpLp1):=by
 obtain⟨_,b1⟩:=K
 obtain⟨f,ps,g,it,i,p1,p0,x⟩:=q
 cases b1<;>cases x<;>first|kernel_rfl|exact absurd rfl (hx _ _)
def RD(K:Wd)(b:Bag)(q:LpQ)(pos:Pos)(hx:∀v t,q.x≠.i v t)(D Z O):lhs 11 [0,1,2,3,4,5,6,7,8,9,10] ((lpS K b q ⟨#[]⟩ ⟨#[]⟩ pos).run D Z O 158 tpLp3) =
  rhs 0 (lpX K q (.pure (.again (acLoop q.g.a0 q.it))) ⟨88,23,88,31⟩ ⟨#[]⟩ ⟨#[]⟩ (q.x.past (.int (.ofNat (q.i+1)) ((Z 0).tok 0)) (.str ⟨#[]⟩ q.p0.tS) Z) (lpPc3 q ((Z 10).tok 0))) ((lpS K b q ⟨#[]⟩ ⟨#[]⟩ pos).run D Z O 158 tpLp3):=by
 obtain⟨_,b1⟩:=K
 obtain⟨f,ps,g,it,i,p1,p0,x⟩:=q
 cases b1<;>cases x<;>first|kernel_rfl|exact absurd rfl (hx _ _)
def RE(K:Wd)(b:Bag)(q:LpQ)(sk:SK)(hs:sk≠.s0)(pos:Pos)(hx:∀v t,q.x≠.i v t)(D Z O):lhs 11 [0,1,2,3,4,5,6,7,8,9,10] ((lpS K b q ⟨#[]⟩ sk.str pos).run D Z O 176 tpLp2) =
  rhs 0 (lpX K q (.pure (.again (acLoop q.g.a0 q.it))) ⟨88,36,88,54⟩ ⟨#[]⟩ sk.str (q.x.past (.int (.ofNat (q.i+1)) ((Z 0).tok 0)) (.str sk.str q.p0.tS) Z) (lpPc2 q sk ((Z 10).tok 0))) ((lpS K b q ⟨#[]⟩ sk.str pos).run D Z O 176 tpLp2):=by
 obtain⟨_,b1⟩:=K
 obtain⟨f,ps,g,it,i,p1,p0,x⟩:=q
 cases sk with
 |s0=>exact absurd rfl hs
 |s1 c=>cases b1<;>cases x<;>first|kernel_rfl|exact absurd rfl (hx _ _)
 |s2 c d=>cases b1<;>cases x<;>first|kernel_rfl|exact absurd rfl (hx _ _)
 |s3 c d e=>cases b1<;>cases x<;>first|kernel_rfl|exact absurd rfl (hx _ _)
theorem Seg.again{K:Wd}{W:List (Code × Pos)}{c code:Code}{pos:Pos}{fs:List Frame}{T:zb}{B:St->Prop}(hq:c.quiet=true)(h:Seg K W ⟨denF c,c,pos,fs,T⟩ B):Seg K W ⟨.pure (.again c),code,pos,fs,T⟩ B:=λs F U R=>by
 obtain⟨b,s',hb,hc,r,k₁,o₁⟩:=h s F U R
 refine⟨b,s',hb,.step (step_again _ _ _ _ _ _ hq) ?_,r,k₁,o₁⟩
 have:denF c=(model progP K.w).den c:=by rw[yD];rfl
 rw[<-this];exact hc
structure PartOk (p:Part):Prop where
 F:p.F=spc\/p.F=⟨#[]⟩
 S:∃sk:SK,p.S=sk.str/\(sk≠.s0->sk.last≠32)
noncomputable def findBk(F:Nat->Str):Nat->Option Nat
 |0=>none
 |i+1=>if (F (i+1)==spc)=true then some (i+1) else findBk F i
noncomputable def partF(ps:List Part)(i:Nat):Str:=match ps[i]? with
 |some p=>p.F
 |none=>⟨#[]⟩
theorem Y6:∀{ps:List Part} {i:Nat},i+1 < ps.length->∃a p0 p1 c,ps=a++p0::p1::c/\a.length=i
 |[],i,h=>by simp at h
 |[_],i,h=>by simp at h
 |p0::p1::c,0,_=>⟨[],p0,p1,c,rfl,rfl⟩
 |p::q::c,i+1,h=>by
  obtain⟨a,p0,p1,c',e,l⟩:=Y6 (ps:=q::c) (i:=i) (by simpa using h)
  exact⟨p::a,p0,p1,c',by rw[e];rfl,by simp[l]⟩
def wT{a c:List Part}{p:Part}{i:Nat}(h:a.length=i):pyAt (partsArr (a++p::c)) (.ofNat i)=some (.ref p.a):=by
 subst h
 unfold pyAt seqIndex?
 simp only[Int.ofNat_eq_natCast]
 rw[if_neg (show ¬((a.length:Int) < 0) by lia),if_pos (by simp[partsArr];lia)]
 simp[partsArr]
def vm{i:Nat}(h:i<=1000):(near (.ofNat i)).1=(near (.ofNat i)).2:=by
 unfold near
 rw[decide_eq_true (by simp only[Int.ofNat_eq_natCast];lia),decide_eq_true (by simp only[Int.ofNat_eq_natCast];lia)];rfl
def vp{K:Wd}{W:List (Code × Pos)}{m:Nat}{a0 a1:Addr}{i:Nat}:∀F,Under (cfg K.P K.V W m []) F->∀e E,nth [xRNext,xGetN 2 [.ref a1,.ref a0],pureX K.P 8 [λt=>.int (.ofNat i) t]] e=some E->ExtOk (cfg K.P K.V W m []) K.w F E:=λF U=>
 (AllOk.cons (.leaf U Yd) (.cons (.leaf U YV) (.cons zn .nil))).nth
def Part.wF_self{p:Part}{F:Str}(h:p.F=F):p.wF F=p:=by subst h;rfl
def Part.wS_self{p:Part}{S:Str}(h:p.S=S):p.wS S=p:=by subst h;rfl
def wA{a:Nat}(h:a≠32):((⟨#[a]⟩:Str).cps.toList==spc.cps.toList)=false:=by
 show ([a]==[32])=false
 simp[h]
def lpT(K:Wd)(f:Fm)(ps:List Part)(g:AcF)(it:Addr)(i:Nat)(x:AcX):zb:=([g.o K.P x,(it,rngIt i i)]++(f.far.puts (partsArr ps)).slots K.P K.V)++partsTail ps
structure LpE (K:Wd) (f:Fm) (ps:List Part) (g:AcF) (it:Addr) (r:Option Nat) (s:St):Prop where
 ex:∃g' x' j,g'.a0=g.a0/\g'.fa=g.fa/\g'.S=g.S/\g'.tS=g.tS/\g'.tc=g.tc/\s.fs=[]/\s.T=lpT K f ps g' it j x'/\(match r with
  |some k=>s.cur=.pure (.done .next)/\(∃t t',x'=.i (.int (.ofNat k) t) t'\/∃v2 t2,x'=.ip (.int (.ofNat k) t) t' v2 t2)
  |none=>s.cur=.pure (.done .cont)/\∀v t,x'≠.i v t)
def lpEndS(K:Wd)(b:Bag)(g:AcF)(it:Addr)(x:AcX)(pos:Pos):Start:=mkS K (WK ([1,0,1,0,0,3],b)) 2 [] [] [g.o K.P x,(it,rngIt 0 0)] (acLoop g.a0 it) pos
def lpEndX(K:Wd)(g:AcF)(it:Addr)(x:AcX)(r:Option Out):Exp:=⟨.pure (.done .cont),(eo r).code,(eo r).pos,[],[g.o K.P x,(it,rngIt 0 0)],[],[]⟩
def Td(K:Wd)(b:Bag)(g:AcF)(it:Addr)(x:AcX)(pos:Pos)(D Z O):lhs 2 [2,3] ((lpEndS K b g it x pos).run D Z O 16 [1,0,1,1,1,1,7])=rhs 2 (lpEndX K g it x ((lpEndS K b g it x pos).run D Z O 16 [1,0,1,1,1,1,7])) ((lpEndS K b g it x pos).run D Z O 16 [1,0,1,1,1,1,7]):=by
 obtain⟨_,b1⟩:=K
 cases b1<;>kernel_rfl
def ZA{K:Wd}{f:Fm}{ps a c:List Part}{p0 p1:Part}(hps:ps=a++p0::p1::c)(g':AcF)(it:Addr)(j:Nat)(x':AcX):(lpT K f ps g' it j x').Perm (([g'.o K.P x',(it,rngIt j j),p1.slot,p0.slot]++(f.far.puts (partsArr ps)).slots K.P K.V)++(partsTail a++partsTail c)):=by
 have key:∀(A B da:zb) (df v:Addr × Obj),(A++(B++df::v::da)).Perm (v::df::(A++(B++da))):=λA B da df v=>by
  refine List.Perm.trans (l₂:=df::v::(A++(B++da))) ?_ (.swap _ _ _)
  rw[<-List.append_assoc,<-List.append_assoc]
  exact(List.perm_middle (l₁:=A++B) (l₂:=v::da) (a:=df)).trans (.cons _ (List.perm_middle (l₁:=A++B) (l₂:=da) (a:=v)))
 have e:partsTail ps=partsTail a++p0.slot::p1.slot::partsTail c:=by rw[hps];unfold partsTail;simp
 unfold lpT
 rw[e]
 exact .cons _ (.cons _ (key _ _ _ _ _))
def vo{K:Wd}{b:Bag}{f:Fm}{ps a c:List Part}{g:AcF}{it:Addr}{i:Nat}{p0 p1:Part}{x:AcX}{pos:Pos}(hps:ps=a++p0::p1::c)(hfa:g.fa=f.far.fa){F1 S0:Str}(e1:p1.F=F1)(e0:p0.S=S0){B:St->Prop}
  (h:Seg K (WK ([1,0,1,0,0,3],b)) ⟨(lpS K b ⟨f,ps,g,it,i,p1,p0,x⟩ F1 S0 pos).cur,acLoop g.a0 it,pos,[],(lpS K b ⟨f,ps,g,it,i,p1,p0,x⟩ F1 S0 pos).T++[]⟩ B) :
  Seg K (WK ([1,0,1,0,0,3],b)) ⟨denF (acLoop g.a0 it),acLoop g.a0 it,pos,[],lpT K f ps g it (i+1) x⟩ (FrE B (partsTail a++partsTail c)):=by
 have hlive:∀p∈partsTail a++partsTail c,p.2.isFreed=false:=λp hp=>by
  rcases List.mem_append.mp hp with hp|hp<;>exact zj _ p hp
 refine Seg.perm (a:=⟨_,_,pos,[],_⟩) (ZA hps g it (i+1) x) ?_
 have:=Seg.frame (partsTail a++partsTail c) hlive h
 have eg:(LpQ.mk f ps g it i p1 p0 x).fr g.F g.tF=g:=by
  obtain⟨a0,fa,t,F,tF,S,tS,tc⟩:=g
  simp only at hfa
  subst hfa
  rfl
 have eT:(lpS K b ⟨f,ps,g,it,i,p1,p0,x⟩ F1 S0 pos).T++[]=[g.o K.P x,(it,rngIt (i+1) (i+1)),p1.slot,p0.slot]++(f.far.puts (partsArr ps)).slots K.P K.V:=by
  rw[List.append_nil]
  show [((LpQ.mk f ps g it i p1 p0 x).fr g.F g.tF).o K.P x,(it,rngIt (i+1) (i+1)),(p1.wF F1).slot,(p0.wS S0).slot]++_=_
  rw[eg,Part.wF_self e1,Part.wS_self e0];rfl
 rw[eT] at this
 exact this
def u4{K:Wd}{q:LpQ}{a c:List Part}(hps:q.ps=a++q.p0::q.p1::c){F1 S0:Str}{cur:Sem PySem.Fin}{pos':Pos}{x':AcX}{pc:Lg}(e1:q.p1.F=F1)(e0:q.p0.S=S0) :
  (((lpX K q cur pos' F1 S0 x' pc).T++[])++(partsTail a++partsTail c)).Perm (lpT K q.f q.ps (q.fr F1 q.p1.tF) q.it q.i x'):=by
 refine List.Perm.trans (.of_eq ?_) (ZA hps (q.fr F1 q.p1.tF) q.it q.i x').symm
 rw[List.append_nil]
 show ([(q.fr F1 q.p1.tF).o K.P x',(q.it,rngIt q.i q.i),(q.p1.wF F1).slot,(q.p0.wS S0).slot]++_)++_=_
 rw[Part.wF_self e1,Part.wS_self e0];rfl
def lpX1(K:Wd)(q:LpQ)(Z:Nat->Ch):Exp:=lpX K q (.pure (.done .next)) ⟨86,28,86,33⟩ spc q.p0.S (q.x.found (.int (.ofNat (q.i+1)) ((Z 0).tok 0)) Z) (lpPc1 q)
def lpX3(K:Wd)(q:LpQ)(Z:Nat->Ch):Exp:=lpX K q (.pure (.again (acLoop q.g.a0 q.it))) ⟨88,23,88,31⟩ ⟨#[]⟩ ⟨#[]⟩ (q.x.past (.int (.ofNat (q.i+1)) ((Z 0).tok 0)) (.str ⟨#[]⟩ q.p0.tS) Z) (lpPc3 q ((Z 10).tok 0))
def lpX2(K:Wd)(q:LpQ)(sk:SK)(Z:Nat->Ch):Exp:=lpX K q (.pure (.again (acLoop q.g.a0 q.it))) ⟨88,36,88,54⟩ ⟨#[]⟩ sk.str (q.x.past (.int (.ofNat (q.i+1)) ((Z 0).tok 0)) (.str sk.str q.p0.tS) Z) (lpPc2 q sk ((Z 10).tok 0))
def XE{K:Wd}{b:Bag}{f:Fm}{ps:List Part}(hok:∀p∈ps,PartOk p)(hlen:ps.length<=41){it:Addr}:∀(i:Nat) (g:AcF) (x:AcX) (pos:Pos),g.fa=f.far.fa->(∀v t,x≠.i v t)->(i=0\/i < ps.length)->
  Seg K (WK ([1,0,1,0,0,3],b)) ⟨denF (acLoop g.a0 it),acLoop g.a0 it,pos,[],lpT K f ps g it i x⟩ (LpE K f ps g it (findBk (partF ps) i)):=by
 intro i
 induction i with
 |zero=>
  rintro g x pos hfa hx _
  have h:=Seg.run (K:=K) (lpEndS K b g it x pos) (tl:=[]) rfl rfl zH (λD Z O=>lpEndX K g it x ((lpEndS K b g it x pos).run D Z O 16 [1,0,1,1,1,1,7])) [2,3] (Td K b g it x pos) (by decide) rfl (by decide) (λ_ _ _=>zd) (λ_ _ _=>rfl)
  have hlive:∀p∈(f.far.puts (partsArr ps)).slots K.P K.V++partsTail ps,p.2.isFreed=false:=λp hp=>by
   rcases List.mem_append.mp hp with hp|hp
   ·exact Fm.live _ _ _ p hp
   ·exact zj ps p hp
  have h2:=Seg.frame ((f.far.puts (partsArr ps)).slots K.P K.V++partsTail ps) hlive h
  have eT:lpT K f ps g it 0 x=([g.o K.P x,(it,rngIt 0 0)]++[])++((f.far.puts (partsArr ps)).slots K.P K.V++partsTail ps):=by
   unfold lpT;simp
  rw[eT]
  refine h2.mono ?_
  rintro s ⟨s',⟨D,Z,O⟩⟩
  exact⟨g,x,0,rfl,rfl,rfl,rfl,rfl,rfl,by rw[eT];rfl,rfl,hx⟩
 |succ i IH=>
  rintro g x pos hfa hx hi
  have hi':i+1 < ps.length:=hi.resolve_left (Nat.succ_ne_zero i)
  obtain⟨a,p0,p1,c,hps,ha⟩:=Y6 hi'
  have hp1:ps[i+1]?=some p1:=by rw[hps,<-ha];simp
  have ok1:PartOk p1:=hok p1 (by rw[hps];simp)
  have ok0:PartOk p0:=hok p0 (by rw[hps];simp)
  have hF:partF ps (i+1)=p1.F:=by unfold partF;rw[hp1]
  have at1:pyAt (partsArr ps) (.ofNat (i+1))=some (.ref p1.a):=by
   rw[hps,show a++p0::p1::c=(a++[p0])++p1::c by simp]
   exact wT (by simp[ha])
  have at0:pyAt (partsArr ps) (.ofNat i)=some (.ref p0.a):=by rw[hps];exact wT ha
  let q:LpQ:=⟨f,ps,g,it,i,p1,p0,x⟩
  have okAt1:Lg.Ok (pcAt q (i+1) p1.a):=za (by show LV.ov (pyAt (partsArr ps) (.ofNat (i+1)))=_;rw[at1]) (za (vm (zu (Nat.le_trans (Nat.le_of_lt hi') hlen) rfl)) zd)
  have okAt0:Lg.Ok (pcAt q i p0.a):=za (by show LV.ov (pyAt (partsArr ps) (.ofNat i))=_;rw[at0]) (za (vm (zu (Nat.le_trans (Nat.le_of_lt (Nat.lt_of_succ_lt hi')) hlen) rfl)) zd)
  rcases ok1.F with h1|h1
  ·have hb:findBk (partF ps) (i+1)=some (i+1):=by unfold findBk;rw[hF,h1];simp
   rw[hb]
   have h:=Seg.run (K:=K) (lpS K b q spc p0.S pos) (tl:=[]) rfl rfl vp (λD Z O=>lpX1 K q Z) [0,1,2,3,4,5,6,7,8,9,10]
    (RF K b q p0.S pos hx) (by decide) rfl (by decide) (λ_ _ _=>za rfl okAt1) (λ_ _ _=>rfl)
   refine(vo hps hfa h1 rfl h).swap ?_
   rintro s ⟨s',⟨D,Z,O⟩⟩
   refine⟨_,u4 (q:=q) hps h1 rfl,q.fr spc p1.tF,_,i,rfl,hfa.symm,rfl,rfl,rfl,rfl,rfl,rfl,?_⟩
   show ∃t t',x.found (.int (.ofNat (i+1)) ((Z 0).tok 0)) Z=.i (.int (.ofNat (i+1)) t) t'\/_
   cases x with
   |no=>exact⟨_,_,.inl rfl⟩
   |i v t=>exact absurd rfl (hx v t)
   |ip v t v2 t2=>exact⟨_,_,.inr ⟨_,_,rfl⟩⟩
  ·have hb:findBk (partF ps) (i+1)=findBk (partF ps) i:=by
    show (if (partF ps (i+1)==spc)=true then _ else _)=_
    rw[hF,h1,if_neg (by decide)]
   rw[hb]
   obtain⟨sk,hsk,hl⟩:=ok0.S
   have nx:∀(x:AcX) (v w:Value) (Z:Nat->Ch),∀v' t',x.past v w Z≠.i v' t':=λx v w Z v' t' e=>by cases x<;>cases e
   have okSub:∀t:Tok,Lg.Ok ((.v (.int (.ofNat (i+1) - 1) t),.v (.int (.ofNat i) t))::pcAt q (i+1) p1.a):=λt=>za (by
    have:(Int.ofNat (i+1) - 1)=Int.ofNat i:=Int.add_sub_cancel (i:Int) 1
    rw[this]) okAt1
   have go:∀(x':AcX) (pos':Pos),(∀v t,x'≠.i v t)->Seg K (WK ([1,0,1,0,0,3],b)) ⟨.pure (.again (acLoop g.a0 it)),acLoop g.a0 it,pos',[],lpT K f ps (q.fr ⟨#[]⟩ p1.tF) it i x'⟩ (LpE K f ps g it (findBk (partF ps) i)):=λx' pos' hx'=>
    Seg.again rfl ((IH (q.fr ⟨#[]⟩ p1.tF) x' pos' rfl hx' (.inr (Nat.lt_of_succ_lt hi'))).mono λs h=>by
     obtain⟨g',x'',j,e1,e2,e3,e4,e5,e6,e7,e8⟩:=h
     exact⟨g',x'',j,e1,e2.trans hfa.symm,e3,e4,e5,e6,e7,e8⟩)
   by_cases h0:sk=.s0
   ·subst h0
    have h:=Seg.run (K:=K) (lpS K b q ⟨#[]⟩ ⟨#[]⟩ pos) (tl:=[]) rfl rfl vp (λD Z O=>lpX3 K q Z) [0,1,2,3,4,5,6,7,8,9,10]
     (RD K b q pos hx) (by decide) rfl (by decide) (λ_ _ _=>okAt0.app (okSub _)) (λ_ _ _=>rfl)
    refine(vo hps hfa h1 hsk h).trans ?_
    rintro s ⟨s',⟨D,Z,O⟩⟩
    exact Seg.perm (a:=⟨_,_,_,[],_⟩) (u4 (q:=q) hps h1 hsk) (go _ _ (nx _ _ _ _))
   ·have h:=Seg.run (K:=K) (lpS K b q ⟨#[]⟩ sk.str pos) (tl:=[]) rfl rfl vp (λD Z O=>lpX2 K q sk Z) [0,1,2,3,4,5,6,7,8,9,10]
     (RE K b q sk h0 pos hx) (by decide) rfl (by decide) (λ_ _ _=>za (by rw[wA (hl h0)]) (okAt0.app (okSub _))) (λ_ _ _=>rfl)
    refine(vo hps hfa h1 hsk h).trans ?_
    rintro s ⟨s',⟨D,Z,O⟩⟩
    exact Seg.perm (a:=⟨_,_,_,[],_⟩) (u4 (q:=q) hps h1 hsk) (go _ _ (nx _ _ _ _))
theorem Seg.call{K:Wd}{W:List (Code × Pos)}{c:Code}{g:Bool}{l:List Value}{k:Result->Sem PySem.Fin}{code:Code}{pos:Pos}{fs:List Frame}{T:zb}{B B':St->Prop}(hh:hdOk fs=true)
  (h:Seg K ((code,pos)::(fs.map Frame.where_++W)) ⟨denF c,c,pos,[],T⟩ B') (hr:∀b,B' b->b.fs=[]/\∃r,b.cur=leafOf r/\Seg K W ⟨k r,code,pos,fs,b.T⟩ B):Seg K W ⟨.call c none g l k,code,pos,fs,T⟩ B:=λs F U R=>by
 have hz:marksOver fs (none,none)=(none,none):=by
  unfold hdOk at hh
  generalize marksOver fs (none,none)=z at hh
  obtain⟨x,y⟩:=z
  cases x<;>cases y<;>first|rfl|cases hh
 have U':Und ((code,pos)::(fs.map Frame.where_++W)) (.ret k none g l code pos []::(fs++F)):=by
  have h1:topHandled (fs++F)=none:=by rw[topHandled_append,U.hd,U.past,hz]
  have h2:topHandled.go true (fs++F)=none:=by rw[past_append,U.hd,U.past,hz]
  exact⟨by simp only[List.map_cons,List.map_append,U.wh];rfl,h1,h2⟩
 obtain⟨b,s₁,hb,c₁,R₁,K₁,o₁⟩:=h s _ U' R
 obtain⟨e1,r,e2,h3⟩:=hr b hb
 obtain⟨b',s₂,hb',c₂,R₂,K₂,o₂⟩:=h3 s₁ F U R₁
 refine⟨b',s₂,hb',.step (step_call ..) (.trans ?_ (.trans (.step (step_leaf_ret _ s₁ b.code b.pos (fs++F) r k none g l code pos []) (.refl _ _)) c₂)),R₂,K₁.trans_sub K₂ o₁.ne (λ_ _ _ q=>q),o₁.trans o₂ K₁.size⟩
 have:denF c=(model progP K.w).den c:=by rw[yD];rfl
 rw[this,e2] at c₁
 have c₁':=c₁
 rw[e1] at c₁'
 exact c₁'
def vJ{al:List (List Nat)}{l:List (Code × Pos)}{x:List Nat × Bag}(h:shk al l=some x):l=WK x:=(z8 h).1
noncomputable def acC(a:Addr)(F:Str)(tF:Tok)(S:Str)(tS:Tok):Code:=.call (.ref 235) ⟨[.ref a,.str F tF,.str S tS],[]⟩
structure AcQ where
 f:Fm
 ps:List Part
 F:Str
 tF:Tok
 S:Str
 tS:Tok
 n:Nat
def acS(K:Wd)(b:Bag)(q:AcQ)(pos:Pos):Start:=mkS K (WK ([1,0,0,3],b)) 7 (partsTail q.ps) [xAppend 3,xLenF K.P K.V q.ps [(q.F,q.S)] 0 q.f.m1,pureX K.P 8 [λt=>.int (.ofNat q.n) t],xPC K.V,xRIter q.n]
 ((q.f.far.puts (partsArr q.ps)).slots K.P K.V) (acC q.f.far.fa q.F q.tF q.S q.tS) pos
noncomputable def tpAcA:List Nat:=[470,468,15,7,15,7,15,7,4,15,13,476,476,474,0,13,476,476,474,13,13,476,11,7,644,644,642,7,644,644,642,7,644,644,642,532,7,5,15,15,532,0,532,530,17,8,17,8,17,8,4,17,7,644,644,642,7,644,644,642,7,644,644,642,7,5,17,17,1,0,7,644,642,6,0,15,13,476,476,474,0,13,476,476,474,13,13,476,11,2,0,3,7,5,19,15,13,476,476,474,0,13,476,476,474,13,13,476,11,3]
def tpAcF:List Nat:=tpAcA++[1]
def tpAcL:List Nat:=tpAcA++[2,15,13,476,476,474,0,13,476,476,474,13,13,476,11,0,21,0,21,0,21,21,21,21,10,15,7,6,0,15,13,476,476,474,0,13,476,476,474,13,13,476,11,7,644,644,642,7,644,644,642,7,644,644,642,638,7,5,638,4,0,7,3,3,0,0,0,23,23,0,23,23,23,23,5,0,23,25]
noncomputable def AcQ.pt(q:AcQ)(a:Addr):Part:=⟨a,q.F,q.tF,q.S,q.tS⟩
def AcQ.lenG(q:AcQ)(b:Bool)(a:Addr):Lg:=(.v (.bool (decide (q.f.q.n+total (q.ps++[q.pt a]) > q.f.wd))),.v (.bool b))::(.b (smallB (q.ps++[q.pt a])),.b true)::
 (.b (decide (0<=q.f.q.n+total (q.ps++[q.pt a])) && decide (q.f.q.n+total (q.ps++[q.pt a]) < 100)),.b true)::(.i (q.f.q.n+total (q.ps++[q.pt a])),.i (q.f.q.n+total (q.ps++[q.pt a])))::[small (partsArr q.ps).size]
def AcQ.fm(q:AcQ)(a:Addr)(ep:Nat)(m1:Addr):Fm:={ q.f.line ((partsArr q.ps).push (.ref a)) ep with m1:=some m1 }
def acXF(K:Wd)(q:AcQ)(r:Option Out)(D:Nat->Addr)(Z:Nat->Ch):Exp:=⟨.pure (.done (.ret .none)),(eo r).code,(eo r).pos,[],(q.fm (D 2) ((Z 7).tok 0) ((Z 9).tok 1)).far.slots K.P K.V++[(q.pt (D 2)).slot],[],q.lenG false (D 2)⟩
def Q6(K:Wd)(b:Bag)(q:AcQ)(pos:Pos)(D Z O):lhs 7 [3,4,5,6,7,8,9,0] ((acS K b q pos).run D Z O 160 tpAcF)=rhs 3 (acXF K q ((acS K b q pos).run D Z O 160 tpAcF) D Z) ((acS K b q pos).run D Z O 160 tpAcF):=by
 obtain⟨_,b1⟩:=K
 cases b1<;>kernel_rfl
noncomputable def acTok(Z:Nat->Ch)(i:Nat):Tok:=match i with
 |0=>(Z 0).tok 0
 |1=>(Z 1).tok 0
 |2=>(Z 2).tok 0
 | _=>(Z 14).tok 0
def AcQ.fr(q:AcQ)(D:Nat->Addr)(Z:Nat->Ch):AcF:=⟨D 0,q.f.far.fa,acTok Z,q.F,q.tF,q.S,q.tS,(Z 13).tok 0⟩
def strIt(i:Int)(t:Tok):Obj:=⟨.type "str_ascii_iterator", none,.fields #[.str spc t,.int i 0],#[]⟩
def AcQ.lenL(q:AcQ)(t:Tok)(a a':Addr):Lg:=(.i (.ofNat q.n),.i (.ofNat q.n))::(.i 0,.i 0)::(.i (.negSucc 0),.i (.negSucc 0))::small q.n::(.v (.int ((((partsArr q.ps).push (.ref a)).size:Int) - 1) t),.v (.int (.ofNat q.n) t))::farB a'::q.lenG true a
def acXL(K:Wd)(q:AcQ)(r:Option Out)(D:Nat->Addr)(Z:Nat->Ch):Exp:=⟨.call (acLoop (D 0) (D 5)) none false [] (kOf r),(eo r).code,(eo r).pos,(eo r).fs,
 [(q.fr D Z).o K.P .no,(D 5,rngIt q.n q.n),(D 3,strIt 1 (q.f.t 7))]++(q.fm (D 2) ((Z 7).tok 0) ((Z 9).tok 1)).far.slots K.P K.V++[(q.pt (D 2)).slot],[],q.lenL ((Z 18).tok 0) (D 2) q.f.far.c.a⟩
def acRL(K:Wd)(b:Bag)(q:AcQ)(pos:Pos)(D:Nat->Addr)(Z:Nat->Ch)(O:Nat->Nat):Option Out:=(acS K b q pos).run D Z O 282 tpAcL
def Q5(K:Wd)(b:Bag)(q:AcQ)(pos:Pos)(D Z O):lhs 7 [5,0,2,6,7,8,9,10,11,12,3] (acRL K b q pos D Z O)=rhs 6 (acXL K q (acRL K b q pos D Z O) D Z) (acRL K b q pos D Z O):=by
 obtain⟨_,b1⟩:=K
 cases b1<;>kernel_rfl
def Q4(K:Wd)(b:Bag)(q:AcQ)(pos:Pos)(D Z O):shk apKs (stk (acRL K b q pos D Z O) (WK ([1,0,0,3],b)))=some ([1,0,1,0,0,3],bagOf (stk (acRL K b q pos D Z O) (WK ([1,0,0,3],b))))/\hdOk (eo (acRL K b q pos D Z O)).fs=true:=by
 obtain⟨_,b1⟩:=K
 cases b1<;>exact⟨by kernel_rfl,by kernel_rfl⟩
def xSetSN(m:Nat)(l:List (Array Value)):Ext:=⟨m,λ_=>0,false,λd c wh objs gs xs t=>match nth l d with
 |some v=>(xSetS m v).f d c wh objs gs xs t
 |none=>none⟩
def Yc{w:World}{tl:zb}{m:Nat}{l:List (Array Value)}:LeafOk w tl (xSetSN m l):=by
 intro prog s d c wh objs gs h1 h2 h3 h4
 cases h:nth l d with
 |none=>
  refine⟨[],.of 0,rfl,zh,λr hr=>?_⟩
  simp only[xSetSN,h] at hr
  cases hr
 |some v=>
  obtain⟨xs,t,e1,e2,e3⟩:=vN (m:=m) (ys:=v) prog s d c wh objs gs h1 h2 h3 h4
  refine⟨xs,t,e1,e2,λr hr=>e3 r ?_⟩
  simp only[xSetSN,h] at hr
  exact hr
structure AgQ where
 q:AcQ
 g:AcF
 x:AcX
 a2:Addr
 ep:Nat
 m1:Addr
def AgQ.fr(z:AgQ)(a0:Addr):AcF:=⟨a0,z.q.f.far.fa,z.g.t,z.g.F,z.g.tF,z.g.S,z.g.tS,z.g.tc⟩
def agS(K:Wd)(b:Bag)(z:AgQ)(pos:Pos)(D:Nat->Addr)(Z:Nat->Ch)(O:Nat->Nat):Start:=
 ⟨cfg K.P K.V (WK ([1,0,0,3],b)) 10 [],[xPopA K.P K.V (partsArr z.q.ps) z.a2,xCollect,pureX K.P 8 [],xAppend 3],[(z.fr (D 0)).o K.P z.x,(D 3,strIt 1 (z.q.f.t 7)),(z.q.pt z.a2).slot]++(z.q.fm z.a2 z.ep z.m1).far.slots K.P K.V,[],
  kOf (acRL K b z.q pos D Z O) (.ok .cont),(eo (acRL K b z.q pos D Z O)).code,(eo (acRL K b z.q pos D Z O)).pos,(eo (acRL K b z.q pos D Z O)).fs⟩
noncomputable def tpAgA:List Nat:=[17,0,17,17,17,17,8,23,19,13,476,476,474,0,13,476,476,474,13,13,476,11,7,644,644,642,7,644,644,642,7,644,644,642,564,7,5,564,1,1,7,5,15,15,15,0,15,25,25,0,25,25,25,15,25,12,25,0,25,25,25,15,25,12,25,0,25,25,25,15,25,12,29,19,9,19,9,19,13,476,476,474,0,13,476,476,474,13,13,476,11,7,644,644,642,644,644,642,0,7,644,7,644,644,642,7,7,644,5,0,3]
def tpAgN:List Nat:=tpAgA++[1,19,13,476,476,474,0,13,476,476,474,13,13,476,11,7,644,644,642,7,644,644,642,7,644,644,642,532,7,5,19,19,532,0,532,530,31,15,31,15,31,15,4,31,7,644,644,642,7,644,644,642,7,644,644,642,7,5,31,31,4,0,7,644,642]
def tpAgH:List Nat:=tpAgA++[2,19,13,476,476,474,13,476,476,474,13,476,476,474,400,13,11,400]
def agPc(z:AgQ)(b:Bool):Lg:=[(.v (.bool (decide (z.q.f.q.n > 0))),.v (.bool b)),farB z.q.f.far.c.a,(.b (Nat.blt (partsArr z.q.ps).size 1000),.b true)]
def agRN(K:Wd)(b:Bag)(z:AgQ)(pos:Pos)(D0:Nat->Addr)(τ0:Nat->Ch)(O0:Nat->Nat)(D:Nat->Addr)(Z:Nat->Ch)(O:Nat->Nat):Option Out:=(agS K b z pos D0 τ0 O0).run D Z O 263 tpAgN
def agRH(K:Wd)(b:Bag)(z:AgQ)(pos:Pos)(D0:Nat->Addr)(τ0:Nat->Ch)(O0:Nat->Nat)(D:Nat->Addr)(Z:Nat->Ch)(O:Nat->Nat):Option Out:=(agS K b z pos D0 τ0 O0).run D Z O 190 tpAgH
def agXN(K:Wd)(z:AgQ)(r:Option Out)(D:Nat->Addr)(Z:Nat->Ch):Exp:=⟨.pure (.done (.ret .none)),(eo r).code,(eo r).pos,[],(z.q.fm (D 6) ((Z 12).tok 0) z.m1).far.slots K.P K.V++[(z.q.pt (D 6)).slot],[],small (partsArr z.q.ps).size::agPc z false⟩
def agXH(K:Wd)(z:AgQ)(r:Option Out):Exp:=⟨.call (nlC z.q.f.far.fa) none false [.builtin "lifetime.plain-call#mark"] (kOf r),(eo r).code,(eo r).pos,(eo r).fs,slotAt r 5::({ z.q.f.line (partsArr z.q.ps) (z.ep+1) with m1:=some z.m1 }:Fm).far.slots K.P K.V,[],agPc z true⟩
def Q2(K:Wd)(b:Bag)(z:AgQ)(hx:∀v t,z.x≠.i v t)(pos:Pos)(D0 τ0 O0 D Z O):lhs 10 [10,11,12,13,14,15,16,0] (agRN K b z pos D0 τ0 O0 D Z O)=rhs 7 (agXN K z (agRN K b z pos D0 τ0 O0 D Z O) D Z) (agRN K b z pos D0 τ0 O0 D Z O):=by
 obtain⟨_,b1⟩:=K
 obtain⟨q,g,x,a2,ep,m1⟩:=z
 cases b1<;>cases x<;>first|kernel_rfl|exact absurd rfl (hx _ _)
def Q3(K:Wd)(b:Bag)(z:AgQ)(hx:∀v t,z.x≠.i v t)(pos:Pos)(D0 τ0 O0 D Z O):lhs 10 [5,8,9,10,11,12,13,14] (agRH K b z pos D0 τ0 O0 D Z O)=rhs 5 (agXH K z (agRH K b z pos D0 τ0 O0 D Z O)) (agRH K b z pos D0 τ0 O0 D Z O):=by
 obtain⟨_,b1⟩:=K
 obtain⟨q,g,x,a2,ep,m1⟩:=z
 cases b1<;>cases x<;>first|kernel_rfl|exact absurd rfl (hx _ _)
def Q1(K:Wd)(b:Bag)(z:AgQ)(hx:∀v t,z.x≠.i v t)(pos:Pos)(D0 τ0 O0 D Z O):shk nxKs (stk (agRH K b z pos D0 τ0 O0 D Z O) (WK ([1,0,0,3],b)))=some ([2,0,1,0,0,3],bagOf (stk (agRH K b z pos D0 τ0 O0 D Z O) (WK ([1,0,0,3],b))))/\hdOk (eo (agRH K b z pos D0 τ0 O0 D Z O)).fs=true:=by
 obtain⟨_,b1⟩:=K
 obtain⟨q,g,x,a2,ep,m1⟩:=z
 cases b1<;>cases x<;>first|exact absurd rfl (hx _ _)|exact⟨by kernel_rfl,by kernel_rfl⟩
noncomputable def AcQ.wF(q:AcQ)(F:Str):AcQ:=⟨q.f,q.ps,F,q.tF,q.S,q.tS,q.n⟩
noncomputable def AgQ.wF(z:AgQ)(F:Str):AgQ:=⟨z.q.wF F,z.g,z.x,z.a2,z.ep,z.m1⟩
noncomputable def Fm.like(f g:Fm):Fm:=⟨f.fa,f.fd,f.la,⟨f.c.a,f.c.d,#[],g.c.ep⟩,g.q,f.wd,g.t,g.fe,g.rows,g.le,g.m1,g.m2⟩
def Fm.like_of{f g:Fm}(h:FmSame f g)(h2:g.c.xs=#[]):f.like g=g:=by
 obtain⟨h1,h3,h4,h5,h6,h7⟩:=h
 unfold Fm.like
 rw[<-h1,<-h3,<-h4,<-h5,<-h6,<-h7,<-h2]
def ahS(K:Wd)(b:Bag)(z:AgQ)(g:Fm)(r:Option Out):Start:=
 ⟨cfg K.P K.V (WK ([1,0,0,3],b)) 8 [],[xAppend 3],slotAt r 5::(z.q.f.like g).far.slots K.P K.V,[],kOf r (.ok (.ret .none)),(eo r).code,(eo r).pos,(eo r).fs⟩
noncomputable def tpAhP:List Nat:=[15,13,476,476,474,0,13,476,476,474,13,13,476,11,7,644,644,642,7,644,644,642,7,644,644,642,532,7,5,15,15,532,0,532,530,17,8,17,8,17,8,4,17,7,644,644,642,7,644,644,642,7,644,644,642,7,5,17,17,1,0,7,644,642]
def tpAhS:List Nat:=[15,0,0]++tpAhP
def tpAhE:List Nat:=[15,0,0,15,7]++tpAhP
def ahX(K:Wd)(z:AgQ)(g:Fm)(r:Option Out)(a:Addr)(t ep:Tok):Exp:=⟨.pure (.done (.ret .none)),(eo r).code,(eo r).pos,[],((z.q.f.like g).line ((#[]:Array Value).push (.ref a)) ep).far.slots K.P K.V++[(⟨a,spc,t,z.q.S,z.q.tS⟩:Part).slot],[],[small (#[]:Array Value).size]⟩
def ahRS(K:Wd)(b:Bag)(z:AgQ)(g:Fm)(pos:Pos)(D0:Nat->Addr)(τ0:Nat->Ch)(O0:Nat->Nat)(D1:Nat->Addr)(τ1:Nat->Ch)(O1:Nat->Nat)(D:Nat->Addr)(Z:Nat->Ch)(O:Nat->Nat):Option Out:=(ahS K b z g (agRH K b (z.wF spc) pos D0 τ0 O0 D1 τ1 O1)).run D Z O 108 tpAhS
def ahRE(K:Wd)(b:Bag)(z:AgQ)(g:Fm)(pos:Pos)(D0:Nat->Addr)(τ0:Nat->Ch)(O0:Nat->Nat)(D1:Nat->Addr)(τ1:Nat->Ch)(O1:Nat->Nat)(D:Nat->Addr)(Z:Nat->Ch)(O:Nat->Nat):Option Out:=(ahS K b z g (agRH K b (z.wF ⟨#[]⟩) pos D0 τ0 O0 D1 τ1 O1)).run D Z O 117 tpAhE
def QZ(K:Wd)(b:Bag)(z:AgQ)(hx:∀v t,z.x≠.i v t)(g:Fm)(pos:Pos)(D0 τ0 O0 D1 τ1 O1 D Z O):lhs 8 [3,4,5,6,7,8,9,0] (ahRS K b z g pos D0 τ0 O0 D1 τ1 O1 D Z O)=rhs 2 (ahX K z g (ahRS K b z g pos D0 τ0 O0 D1 τ1 O1 D Z O) (D 1) z.q.tF ((Z 6).tok 0)) (ahRS K b z g pos D0 τ0 O0 D1 τ1 O1 D Z O):=by
 obtain⟨_,b1⟩:=K
 obtain⟨q,g',x,a2,ep,m1⟩:=z
 cases b1<;>cases x<;>first|kernel_rfl|exact absurd rfl (hx _ _)
def Q0(K:Wd)(b:Bag)(z:AgQ)(hx:∀v t,z.x≠.i v t)(g:Fm)(pos:Pos)(D0 τ0 O0 D1 τ1 O1 D Z O):lhs 8 [3,4,5,6,7,8,9,0] (ahRE K b z g pos D0 τ0 O0 D1 τ1 O1 D Z O)=rhs 2 (ahX K z g (ahRE K b z g pos D0 τ0 O0 D1 τ1 O1 D Z O) (D 1) ((Z 2).tok 0) ((Z 8).tok 0)) (ahRE K b z g pos D0 τ0 O0 D1 τ1 O1 D Z O):=by
 obtain⟨_,b1⟩:=K
 obtain⟨q,g',x,a2,ep,m1⟩:=z
 cases b1<;>cases x<;>first|kernel_rfl|exact absurd rfl (hx _ _)
structure AfQ where
 q:AcQ
 L:List Part
 R:List Part
 g:AcF
 x:AcX
 a2:Addr
 a3:Addr
 ep:Nat
 m1:Addr
def AfQ.fr(z:AfQ)(a0:Addr):AcF:=⟨a0,z.q.f.far.fa,z.g.t,z.g.F,z.g.tF,z.g.S,z.g.tS,z.g.tc⟩
def AfQ.fm(z:AfQ):Fm:=(z.q.fm z.a2 z.ep z.m1).puts (partsArr (z.L++z.R))
def afS(K:Wd)(b:Bag)(z:AfQ)(pos:Pos)(D:Nat->Addr)(Z:Nat->Ch)(O:Nat->Nat):Start:=
 ⟨cfg K.P K.V (WK ([1,0,0,3],b)) 9 (partsTail z.L),[xGetS 3 (partsArr z.R),xSetSN 4 [partsArr z.L,partsArr z.R],xStrF K.P K.V z.L [] z.q.f.m2,xAppend 1],[(z.fr (D 0)).o K.P z.x,(z.a3,strIt 1 (z.q.f.t 7))]++z.fm.far.slots K.P K.V,[],
  kOf (acRL K b z.q pos D Z O) (.ok .next),(eo (acRL K b z.q pos D Z O)).code,(eo (acRL K b z.q pos D Z O)).pos,(eo (acRL K b z.q pos D Z O)).fs⟩
noncomputable def tpAf:List Nat:=[17,13,476,476,474,0,13,476,476,474,13,13,476,11,7,644,644,642,7,644,644,642,7,644,644,642,548,7,5,17,548,0,548,546,534,19,9,19,9,4,19,19,7,644,644,642,7,644,7,644,644,642,1,0,7,644,21,19,9,19,19,7,644,7,644,644,642,2,0,7,644,27,25,19,17,8,17,13,476,476,474,0,13,476,476,474,13,13,476,11,9,9,9,9,6,0,17,13,476,476,474,0,13,476,476,474,13,13,476,11,3,0,1,7,5,4,0,9,17,13,476,476,474,0,13,476,476,474,13,13,476,11,7,644,644,642,7,644,644,642,7,644,644,642,608,7,5,17,608,0,608,606,594,29,14,29,14,4,29,29,29,7,644,7,644,644,642,2,1,7,644,31,23,29,7,644,644,642,0,7,644,7,644,7,644,644,642,7,644,5,2,5]
def pcSetP(vs new:Array Value)(lo hi:Option Int)(ys:Array Value):Lg:=[(.a (setPick vs new lo hi),.a ys),small vs.size,small new.size,small ys.size]
def afPc(z:AfQ)(j:Nat):Lg:=pcSetP (partsArr z.L) (partsArr z.R) none none (partsArr z.R)++small z.q.f.rows.size::(.b (smallB (z.L++[])),.b true)::(.b (decide ((z.L++[]).length<=40)),.b true)::
 (pcSetP (partsArr (z.L++z.R)) #[] (some (.ofNat j)) none (partsArr z.L)++[(.a (slicePick (partsArr (z.L++z.R)) (some (.ofNat j)) none none),.a (partsArr z.R)),small (partsArr (z.L++z.R)).size])
def afX(K:Wd)(z:AfQ)(j:Nat)(r:Option Out)(Z:Nat->Ch):Exp:=⟨.pure (.done (.ret .none)),(eo r).code,(eo r).pos,[],
 ({ (z.q.f.line (partsArr z.R) ((Z 14).tok 0)) with q:=⟨0,z.q.f.q.tk,(Z 15).tok 0,z.q.f.q.ep⟩,rows:=z.q.f.rows.push (.str (textOf (z.L++[])) ((Z 9).tok 0)),le:=(Z 10).tok 0,m1:=some z.m1,m2:=some ((Z 9).tok 1) }:Fm).far.slots K.P K.V,[],afPc z j⟩
def af_r(K:Wd)(b:Bag)(z:AfQ)(j:Nat)(t:Tok)(hx:(∃t',z.x=.i (.int (.ofNat j) t) t')\/∃t' v2 t2,z.x=.ip (.int (.ofNat j) t) t' v2 t2)(pos:Pos)(D0 τ0 O0 D Z O) :
  lhs 9 [9,10,11,12,13,14,15] ((afS K b z pos D0 τ0 O0).run D Z O 278 tpAf)=rhs 7 (afX K z j ((afS K b z pos D0 τ0 O0).run D Z O 278 tpAf) Z) ((afS K b z pos D0 τ0 O0).run D Z O 278 tpAf):=by
 obtain⟨_,b1⟩:=K
 obtain⟨q,L,R,g,x,a2,a3,ep,m1⟩:=z
 simp only at hx
 rcases hx with ⟨t',rfl⟩|⟨t',v2,t2,rfl⟩<;>cases b1<;>kernel_rfl
def Y8(n:Nat):sliceBounds none none none n=(0,(n:Int),1):=by
 unfold sliceBounds
 simp
def Yo(j n:Nat)(h:j<=n):sliceBounds (some (.ofNat j)) none none n=((j:Int),(n:Int),1):=by
 unfold sliceBounds
 simp
 rw[if_neg (Int.not_lt.mpr (Int.natCast_nonneg j)),Int.min_eq_left (Int.ofNat_le.mpr h),Int.max_eq_right (Int.natCast_nonneg j)]
def ub(vs new:Array Value):setPick vs new none none=new:=by
 unfold setPick
 rw[Y8]
 have:(max (0:Int) (vs.size:Int)).toNat=vs.size:=by rw[Int.max_eq_right (Int.natCast_nonneg _)];rfl
 simp[this]
def uc(L R:List Part):setPick (partsArr (L++R)) #[] (some (.ofNat L.length)) none=partsArr L:=by
 have hz:(partsArr (L++R)).size=L.length+R.length:=by rw[zl];simp
 unfold setPick
 rw[Yo _ _ (by rw[hz];exact Nat.le_add_right _ _)]
 have:(max (L.length:Int) ((partsArr (L++R)).size:Int)).toNat=(partsArr (L++R)).size:=by rw[Int.max_eq_right (Int.ofNat_le.mpr (by rw[hz];exact Nat.le_add_right _ _))];rfl
 simp only[this]
 simp[partsArr]
def wC(L R:List Part):slicePick (partsArr (L++R)) (some (.ofNat L.length)) none none=partsArr R:=by
 have hz:(partsArr (L++R)).size=L.length+R.length:=by rw[zl];simp
 rw[show (Int.ofNat L.length)=((L.length:Nat):Int) from rfl,slicePick_from _ _ (by rw[hz];exact Nat.le_add_right _ _)]
 simp[partsArr]
def VS(z:AfQ){j:Nat}(hj:z.L.length=j)(hrow:z.q.f.rows.size<=1000)(hs:smallB z.L=true)(hl:z.L.length<=40)(hr:z.R.length<=41):Lg.Ok (afPc z j):=by
 subst hj
 have z1:(partsArr z.L).size<=1000:=by rw[zl];exact zu hl rfl
 have z2:(partsArr z.R).size<=1000:=by rw[zl];exact zu hr rfl
 have z3:(partsArr (z.L++z.R)).size<=1000:=by rw[zl,List.length_append];exact zu (Nat.add_le_add hl hr) rfl
 unfold afPc pcSetP
 refine Lg.Ok.app (za (by rw[ub]) (za (zc z1) (za (zc z2) (za (zc z2) zd)))) (za (zc hrow) (za (by rw[List.append_nil,hs]) (za (by rw[List.append_nil,decide_eq_true hl]) (Lg.Ok.app (za (by rw[uc]) (za (zc z3) (za (zc (Nat.zero_le _)) (za (zc z1) zd)))) (za (by rw[wC]) (za (zc z3) zd))))))
structure LnSt where
 n:Int
 tx:List (Str × Str)
 rows:List Str
noncomputable def fwsAt(tx:List (Str × Str))(i:Nat):Str:=match tx[i]? with
 |some p=>p.1
 |none=>⟨#[]⟩
def chunkP(wd:Int)(z:LnSt)(F S:Str):LnSt:=
 if z.n+txLen (z.tx++[(F,S)]) > wd then
  match findBk (fwsAt (z.tx++[(F,S)])) z.tx.length with
  |some j=>⟨0,(z.tx++[(F,S)]).drop j,z.rows++[txText ((z.tx++[(F,S)]).take j)]⟩
  |none=>if z.n > 0 then ⟨0,[(spc,S)],nlRows z.n z.tx z.rows⟩ else ⟨z.n,z.tx++[(F,S)],z.rows⟩
 else ⟨z.n,z.tx++[(F,S)],z.rows⟩
def Xk(ps:List Part):partF ps=fwsAt (txs ps):=by
 funext i
 unfold partF fwsAt txs
 rw[List.getElem?_map]
 cases ps[i]?<;>rfl
def TxOk(t:Str × Str):Prop:=(t.1=spc\/t.1=⟨#[]⟩)/\∃sk:SK,t.2=sk.str/\(sk≠.s0->sk.last≠32)
def Yx{ps:List Part}(h:∀t∈txs ps,TxOk t):∀p∈ps,PartOk p:=λp hp=>by
 obtain⟨h1,h2⟩:=h p.tx (List.mem_map_of_mem hp)
 exact⟨h1,h2⟩
def zs(tx:List (Str × Str)):0<=txLen tx:=by
 unfold txLen
 induction tx with
 |nil=>simp
 |cons p t ih=>simp only[List.map_cons,List.sum_cons];lia
def zw(a b:List (Str × Str)):txLen (a++b)=txLen a+txLen b:=by
 unfold txLen
 rw[List.map_append,List.sum_append]
def AcQ.tx(q:AcQ):List (Str × Str):=txs q.ps++[(q.F,q.S)]
structure ChH (q:AcQ) (rl:List (Str × Tok)):Prop where
 nn:q.n=q.ps.length
 xs:q.f.c.xs=partsArr q.ps
 rw:q.f.rows=rowsArr rl
 ok:∀t∈q.tx,TxOk t
 sm:txSmall q.tx=true
 ln:q.ps.length<=39
 lo:0<=q.f.q.n
 hi:q.f.q.n+txLen q.tx < 100
 rn:rl.length<=900
 rs:∀p∈rl,p.1.length<=1000
structure ChE (K:Wd) (f:Fm) (z:LnSt) (b:St):Prop where
 ex:∃g ps rl,FmSame f g/\g.c.xs=partsArr ps/\g.rows=rowsArr rl/\g.q.n=z.n/\txs ps=z.tx/\rl.map (·.1)=z.rows/\b.cur=.pure (.done (.ret .none))/\b.fs=[]/\b.T=g.far.slots K.P K.V++partsTail ps
def zG(a b:List Part):partsTail (a++b)=partsTail a++partsTail b:=by simp[partsTail]
def yk(q:AcQ)(a:Addr):txs (q.ps++[q.pt a])=q.tx:=by simp[txs,AcQ.tx,Part.tx,AcQ.pt]
def Z4{K:Wd}{W:List (Code × Pos)}{m:Nat}{q:AcQ}:∀F,Under (cfg K.P K.V W m (partsTail q.ps)) F->∀e E,nth [xAppend 3,xLenF K.P K.V q.ps [(q.F,q.S)] 0 q.f.m1,pureX K.P 8 [λt=>.int (.ofNat q.n) t],xPC K.V,xRIter q.n] e=some E->ExtOk (cfg K.P K.V W m (partsTail q.ps)) K.w F E:=λF U=>
 (AllOk.cons (.leaf U zm) (.cons (x0 U) (.cons zn (.cons (uS U (zj _)) (.cons (.leaf U Ye) .nil))))).nth
def VR{K:Wd}{W:List (Code × Pos)}{m:Nat}{L:List Part}{m2:Option Addr}{v:Array Value}{l:List (Array Value)}:∀F,Under (cfg K.P K.V W m (partsTail L)) F->∀e E,nth [xGetS 3 v,xSetSN 4 l,xStrF K.P K.V L [] m2,xAppend 1] e=some E->ExtOk (cfg K.P K.V W m (partsTail L)) K.w F E:=λF U=>
 (AllOk.cons (.leaf U yh) (.cons (.leaf U Yc) (.cons (xZ U) (.cons (.leaf U zm) .nil)))).nth
def ZZ{K:Wd}{W:List (Code × Pos)}{m:Nat}{ys:Array Value}{va:Addr}:∀F,Under (cfg K.P K.V W m []) F->∀e E,nth [xPopA K.P K.V ys va,xCollect,pureX K.P 8 [],xAppend 3] e=some E->ExtOk (cfg K.P K.V W m []) K.w F E:=λF U=>
 (AllOk.cons (vP U λ_ h=>by cases h) (.cons (.leaf U xF) (.cons zn (.cons (.leaf U zm) .nil)))).nth
def vH{K:Wd}{W:List (Code × Pos)}{m:Nat}:∀F,Under (cfg K.P K.V W m []) F->∀e E,nth [xAppend 3] e=some E->ExtOk (cfg K.P K.V W m []) K.w F E:=λF U=>(AllOk.cons (.leaf U zm) .nil).nth
def ZE{q:AcQ}{rl:List (Str × Tok)}(h:ChH q rl){b:Bool}(hb:decide (q.f.q.n+txLen q.tx > q.f.wd)=b)(a:Addr):Lg.Ok (q.lenG b a):=by
 have e:total (q.ps++[q.pt a])=txLen q.tx:=by rw[y8,yk]
 have hs:smallB (q.ps++[q.pt a])=true:=by rw[yn,yk];exact h.sm
 have h1:=h.lo
 have h2:=h.hi
 have h3:=zs q.tx
 unfold AcQ.lenG
 rw[e,hs,hb,decide_eq_true (show 0<=q.f.q.n+txLen q.tx by lia),decide_eq_true h2]
 exact za rfl (za rfl (za rfl (za rfl (za (zc (by rw[zl];have:=h.ln;lia)) zd))))
def W9{q:AcQ}{rl:List (Str × Tok)}(h:ChH q rl)(hb:q.f.q.n+txLen q.tx > q.f.wd)(t:Tok)(a:Addr):Lg.Ok (q.lenL t a q.f.far.c.a):=by
 unfold AcQ.lenL
 refine za rfl (za rfl (za rfl (za (zc (by rw[h.nn];have:=h.ln;lia)) (za ?_ (za (z5 (Nat.le_add_left ..)) (ZE h (decide_eq_true hb) a))))))
 have:((((partsArr q.ps).push (.ref a)).size:Int) - 1)=Int.ofNat q.n:=by rw[Array.size_push,zl,h.nn];simp only[Int.ofNat_eq_natCast];lia
 rw[this]
def Z1{z:AgQ}{b:Bool}(hn:decide (z.q.f.q.n > 0)=b)(hl:z.q.ps.length<=39):Lg.Ok (agPc z b):=by
 unfold agPc
 rw[hn]
 exact za rfl (za (z5 (Nat.le_add_left ..)) (za (by rw[show Nat.blt (partsArr z.q.ps).size 1000=true by rw[Nat.blt_eq,zl];lia]) zd))
def yV(A B:zb)(p:Addr × Obj):((A++[p])++B).Perm (A++(B++[p])):=by
 rw[List.append_assoc]
 exact .append_left _ List.perm_append_comm
def TK{K:Wd}{b:Bag}{q:AcQ}{rl:List (Str × Tok)}(h:ChH q rl)(hgt:¬q.f.q.n+txLen q.tx > q.f.wd){pos:Pos} :
  Seg K (WK ([1,0,0,3],b)) ⟨denF (acC q.f.far.fa q.F q.tF q.S q.tS),acC q.f.far.fa q.F q.tF q.S q.tS,pos,[],(q.f.far.puts (partsArr q.ps)).slots K.P K.V++partsTail q.ps⟩ (ChE K q.f ⟨q.f.q.n,q.tx,rl.map (·.1)⟩):=by
 refine(Seg.run (K:=K) (acS K b q pos) (tl:=partsTail q.ps) rfl rfl Z4 _ [3,4,5,6,7,8,9,0] (Q6 K b q pos) (by decide) rfl (by decide) (λD Z O=>ZE h (decide_eq_false hgt) (D 2)) (λ_ _ _=>rfl)).swap ?_
 rintro s ⟨D,Z,O⟩
 refine⟨(q.fm (D 2) ((Z 7).tok 0) ((Z 9).tok 1)).far.slots K.P K.V++partsTail (q.ps++[q.pt (D 2)]),?_,q.fm (D 2) ((Z 7).tok 0) ((Z 9).tok 1),q.ps++[q.pt (D 2)],rl,⟨rfl,rfl,rfl,rfl,rfl,rfl⟩,zB _ (q.pt (D 2)),h.rw,rfl,yk _ _,rfl,rfl,rfl,rfl⟩
 rw[zG]
 exact yV _ _ _
def AfQ.out(z:AfQ)(Z:Nat->Ch):Fm:={ (z.q.f.line (partsArr z.R) ((Z 14).tok 0)) with q:=⟨0,z.q.f.q.tk,(Z 15).tok 0,z.q.f.q.ep⟩,rows:=z.q.f.rows.push (.str (textOf (z.L++[])) ((Z 9).tok 0)),le:=(Z 10).tok 0,m1:=some z.m1,m2:=some ((Z 9).tok 1) }
def Sb{K:Wd}{b:Bag}{z:AfQ}{j:Nat}{t:Tok}{rl:List (Str × Tok)}(hx:(∃t',z.x=.i (.int (.ofNat j) t) t')\/∃t' v2 t2,z.x=.ip (.int (.ofNat j) t) t' v2 t2)(hj:z.L.length=j)(hrw:z.q.f.rows=rowsArr rl)(hrn:rl.length<=900)(hs:txSmall (txs z.L)=true)(hl:z.L.length<=40)(hr:z.R.length<=41){pos:Pos}{D0 τ0 O0} :
  Seg K (WK ([1,0,0,3],b)) ⟨kOf (acRL K b z.q pos D0 τ0 O0) (.ok .next),(eo (acRL K b z.q pos D0 τ0 O0)).code,(eo (acRL K b z.q pos D0 τ0 O0)).pos,(eo (acRL K b z.q pos D0 τ0 O0)).fs,
   ([(z.fr (D0 0)).o K.P z.x,(z.a3,strIt 1 (z.q.f.t 7))]++z.fm.far.slots K.P K.V)++partsTail (z.L++z.R)⟩ (ChE K z.q.f ⟨0,txs z.R,rl.map (·.1)++[txText (txs z.L)]⟩):=by
 have h:=Seg.run (K:=K) (afS K b z pos D0 τ0 O0) (tl:=partsTail z.L) rfl rfl VR _ [9,10,11,12,13,14,15] (af_r K b z j t hx pos D0 τ0 O0) (by decide) rfl (by decide)
  (λD Z O=>VS z hj (by rw[hrw,ze];lia) (by rw[yn];exact hs) hl hr) (λ_ _ _=>rfl)
 have h2:=Seg.frame (partsTail z.R) (zj _) h
 rw[zG,<-List.append_assoc]
 refine h2.post ?_
 rintro s ⟨s',⟨D,Z,O⟩⟩
 refine⟨⟨.pure (.done (.ret .none)),_,_,[],(z.out Z).far.slots K.P K.V++partsTail z.R⟩,partsTail z.L,
  ⟨z.out Z,z.R,rl++[(textOf (z.L++[]),(Z 9).tok 0)],⟨rfl,rfl,rfl,rfl,rfl,rfl⟩,rfl,?_,rfl,rfl,?_,rfl,rfl,rfl⟩,rfl,rfl,rfl,rfl,?_⟩
 ·show z.q.f.rows.push _=_
  rw[hrw,zi]
 ·rw[List.map_append,List.append_nil,zP];rfl
 ·show List.Perm (α:=Addr × Obj) (((z.out Z).far.slots K.P K.V++partsTail z.L)++partsTail z.R) (((z.out Z).far.slots K.P K.V++partsTail z.R)++partsTail z.L)
  rw[List.append_assoc,List.append_assoc]
  exact .append_left _ List.perm_append_comm
def VO{K:Wd}{b:Bag}{z:AgQ}{rl:List (Str × Tok)}(hx:∀v t,z.x≠.i v t)(h:ChH z.q rl)(hn:¬z.q.f.q.n > 0){pos:Pos}{D0 τ0 O0} :
  Seg K (WK ([1,0,0,3],b)) ⟨kOf (acRL K b z.q pos D0 τ0 O0) (.ok .cont),(eo (acRL K b z.q pos D0 τ0 O0)).code,(eo (acRL K b z.q pos D0 τ0 O0)).pos,(eo (acRL K b z.q pos D0 τ0 O0)).fs,
   ([(z.fr (D0 0)).o K.P z.x,(D0 3,strIt 1 (z.q.f.t 7)),(z.q.pt z.a2).slot]++(z.q.fm z.a2 z.ep z.m1).far.slots K.P K.V)++partsTail z.q.ps⟩ (ChE K z.q.f ⟨z.q.f.q.n,z.q.tx,rl.map (·.1)⟩):=by
 have h1:=Seg.run (K:=K) (agS K b z pos D0 τ0 O0) (tl:=[]) rfl rfl ZZ _ [10,11,12,13,14,15,16,0] (Q2 K b z hx pos D0 τ0 O0) (by decide) rfl (by decide)
  (λD Z O=>za (zc (by rw[zl];have:=h.ln;lia)) (Z1 (decide_eq_false hn) h.ln)) (λ_ _ _=>rfl)
 rw[List.append_nil] at h1
 have h2:=Seg.frame (partsTail z.q.ps) (zj _) h1
 refine Seg.swap h2 ?_
 rintro s ⟨s',⟨D,Z,O⟩⟩
 refine⟨(z.q.fm (D 6) ((Z 12).tok 0) z.m1).far.slots K.P K.V++partsTail (z.q.ps++[z.q.pt (D 6)]),?_,z.q.fm (D 6) ((Z 12).tok 0) z.m1,z.q.ps++[z.q.pt (D 6)],rl,⟨rfl,rfl,rfl,rfl,rfl,rfl⟩,zB _ (z.q.pt (D 6)),h.rw,rfl,yk _ _,rfl,rfl,rfl,rfl⟩
 rw[zG]
 show (((_++[_])++[])++_:zb).Perm _
 rw[List.append_nil]
 exact yV _ _ _
def yv{a b:List (Str × Str)}(h:∀t∈a,t∈b)(hb:txSmall b=true):txSmall a=true:=by
 unfold txSmall at *
 rw[List.all_eq_true] at *
 exact λt ht=>hb t (h t ht)
def yL(l:List (Str × Str)):norm1 l=[(⟨#[]⟩,⟨#[]⟩)]\/norm1 l=l.dropLast\/norm1 l=l:=by
 unfold norm1
 cases l.getLast? with
 |none=>exact .inl rfl
 |some p=>
  by_cases h:(p.1==spc && p.2==⟨#[]⟩)=true
  ·exact .inr (.inl (by simp only[h,if_true]))
  ·exact .inr (.inr (by simp only[h,if_false,Bool.false_eq_true]))
def x7(l:List (Str × Str)):txLen l.dropLast<=txLen l:=by
 rcases List.eq_nil_or_concat l with rfl|⟨a,p,rfl⟩
 ·exact Int.le_refl _
 ·rw[List.concat_eq_append,List.dropLast_concat,zw]
  have:=zs [p]
  lia
def xt(l:List (Str × Str)):txLen (norm1 l)<=txLen l:=by
 rcases yL l with h|h|h<;>rw[h]
 ·exact zs l
 ·exact x7 l
 ·exact Int.le_refl _
def um{l:List (Str × Str)}(h:txSmall l=true):txSmall (norm1 l)=true:=by
 rcases yL l with e|e|e<;>rw[e]
 ·decide
 ·exact yv (λt ht=>List.dropLast_subset l ht) h
 ·exact h
def vi(l:List (Str × Str)):(norm1 l).length<=l.length+1:=by
 rcases yL l with e|e|e<;>rw[e]
 ·simp
 ·simp;lia
 ·lia
def wB(l:List (Str × Str)):((txText l).length:Int)<=txLen l:=by
 have h:=StrLaws.join_length_le ⟨#[]⟩ (l.map λp=>cat p.1 p.2)
 have e:((((l.map λp=>cat p.1 p.2).map (·.length)).sum:Nat):Int)=txLen l:=by
  unfold txLen
  clear h
  induction l with
  |nil=>rfl
  |cons p t ih=>
   simp only[List.map_cons,List.sum_cons]
   rw[<-ih]
   have:(cat p.1 p.2).length=p.1.length+p.2.length:=by unfold cat Str.length;simp
   rw[this]
   simp only[Int.natCast_add]
 have e2:(⟨#[]⟩:Str).length=0:=rfl
 rw[e2,Nat.mul_zero,Nat.add_zero,<-StrLaws.glued_eq_join] at h
 unfold txText Txt.join
 lia
def ChH.nl{q:AcQ}{rl:List (Str × Tok)}(h:ChH q rl){f:Fm}(hn:f.q.n=q.f.q.n)(ps2:List Part)(h2:txs ps2=norm1 (txs q.ps)):NlH f ps2 rl:=by
 have h1:=zw (txs q.ps) [(q.F,q.S)]
 have h3:=zs [(q.F,q.S)]
 have h4:=xt (txs q.ps)
 have h5:=zs (norm1 (txs q.ps))
 have h6:=wB (norm1 (txs q.ps))
 have h7:=h.lo
 have h8:=h.hi
 unfold AcQ.tx at h8
 have hb:q.f.q.n+txLen (norm1 (txs q.ps)) < 100:=Int.lt_of_le_of_lt (Int.add_le_add_left (by rw[h1];exact Int.le_trans h4 (Int.le_add_of_nonneg_right h3)) _) h8
 refine⟨?_,?_,?_,?_,?_,h.rn,h.rs⟩
 ·rw[h2]
  exact um (yv (λt ht=>List.mem_append_left _ ht) h.sm)
 ·have:=vi (txs q.ps)
  rw[<-h2,yu,yu] at this
  exact Nat.le_trans this (Nat.succ_le_succ h.ln)
 ·rw[h2,hn];exact Int.add_nonneg h7 h5
 ·rw[h2,hn];exact hb
 ·rw[h2];exact Int.ofNat_le.mp (Int.le_trans h6 (Int.le_trans (Int.le_of_lt (Int.lt_of_le_of_lt (Int.le_add_of_nonneg_left h7) hb)) (by decide)))
def VQ(K:Wd)(b:Bag)(z:AgQ)(hx:∀v t,z.x≠.i v t)(pos:Pos)(D0 τ0 O0 D Z O):(slotAt (agRH K b z pos D0 τ0 O0 D Z O) 5).2.isFreed=false:=by
 obtain⟨_,b1⟩:=K
 obtain⟨q,g,x,a2,ep,m1⟩:=z
 cases b1<;>cases x<;>first|exact absurd rfl (hx _ _)|kernel_rfl
def AgQ.wF_self{z:AgQ}{F:Str}(h:z.q.F=F):z.wF F=z:=by
 obtain⟨⟨f,ps,F',tF,S,tS,n⟩,g,x,a2,ep,m1⟩:=z
 simp only at h
 subst h
 rfl
def AgQ.f1(z:AgQ):Fm:={ z.q.f.line (partsArr z.q.ps) (z.ep+1) with m1:=some z.m1 }
def Sa{K:Wd}{b:Bag}{z:AgQ}(hx:∀v t,z.x≠.i v t)(hF:z.q.F=spc\/z.q.F=⟨#[]⟩){g:Fm}{rl':List (Str × Tok)}{R:List Str}(hs:FmSame z.f1 g)(hxs:g.c.xs=#[])(hn:g.q.n=0)(hrw:g.rows=rowsArr rl')(hR:rl'.map (·.1)=R){pos:Pos}{D0 τ0 O0 D1 τ1 O1} :
  Seg K (WK ([1,0,0,3],b)) ⟨kOf (agRH K b z pos D0 τ0 O0 D1 τ1 O1) (.ok (.ret .none)),(eo (agRH K b z pos D0 τ0 O0 D1 τ1 O1)).code,(eo (agRH K b z pos D0 τ0 O0 D1 τ1 O1)).pos,(eo (agRH K b z pos D0 τ0 O0 D1 τ1 O1)).fs,
   slotAt (agRH K b z pos D0 τ0 O0 D1 τ1 O1) 5::g.far.slots K.P K.V⟩ (ChE K z.q.f ⟨0,[(spc,z.q.S)],R⟩):=by
 have eg:z.q.f.like g=g:=Fm.like_of (f:=z.f1) hs hxs
 have hout:∀(a:Addr) (t ep:Tok) (code:Code) (pos:Pos),ChE K z.q.f ⟨0,[(spc,z.q.S)],R⟩ ⟨.pure (.done (.ret .none)),code,pos,[],(((z.q.f.like g).line ((#[]:Array Value).push (.ref a)) ep).far.slots K.P K.V++[(⟨a,spc,t,z.q.S,z.q.tS⟩:Part).slot])++[]⟩:=λa t ep code pos=>
  ⟨(z.q.f.like g).line ((#[]:Array Value).push (.ref a)) ep,[⟨a,spc,t,z.q.S,z.q.tS⟩],rl',⟨rfl,rfl,rfl,rfl,rfl,rfl⟩,rfl,hrw,hn,rfl,hR,rfl,rfl,List.append_nil _⟩
 have hpc:Lg.Ok [small (#[]:Array Value).size]:=za rfl zd
 rcases hF with hF|hF
 ·have h:=Seg.run (K:=K) (ahS K b z g (agRH K b (z.wF spc) pos D0 τ0 O0 D1 τ1 O1)) (tl:=[]) rfl rfl vH _ [3,4,5,6,7,8,9,0] (QZ K b z hx g pos D0 τ0 O0 D1 τ1 O1) (by decide) rfl (by decide) (λ_ _ _=>hpc) (λ_ _ _=>rfl)
  rw[List.append_nil,AgQ.wF_self hF] at h
  rw[<-eg]
  refine Seg.mono h ?_
  rintro s ⟨D,Z,O⟩
  exact hout _ _ _ _ _
 ·have h:=Seg.run (K:=K) (ahS K b z g (agRH K b (z.wF ⟨#[]⟩) pos D0 τ0 O0 D1 τ1 O1)) (tl:=[]) rfl rfl vH _ [3,4,5,6,7,8,9,0] (Q0 K b z hx g pos D0 τ0 O0 D1 τ1 O1) (by decide) rfl (by decide) (λ_ _ _=>hpc) (λ_ _ _=>rfl)
  rw[List.append_nil,AgQ.wF_self hF] at h
  rw[<-eg]
  refine Seg.mono h ?_
  rintro s ⟨D,Z,O⟩
  exact hout _ _ _ _ _
def VP{K:Wd}{b:Bag}{z:AgQ}{rl:List (Str × Tok)}(hx:∀v t,z.x≠.i v t)(h:ChH z.q rl)(hn:z.q.f.q.n > 0){pos:Pos}{D0 τ0 O0} :
  Seg K (WK ([1,0,0,3],b)) ⟨kOf (acRL K b z.q pos D0 τ0 O0) (.ok .cont),(eo (acRL K b z.q pos D0 τ0 O0)).code,(eo (acRL K b z.q pos D0 τ0 O0)).pos,(eo (acRL K b z.q pos D0 τ0 O0)).fs,
   ([(z.fr (D0 0)).o K.P z.x,(D0 3,strIt 1 (z.q.f.t 7)),(z.q.pt z.a2).slot]++(z.q.fm z.a2 z.ep z.m1).far.slots K.P K.V)++partsTail z.q.ps⟩ (ChE K z.q.f ⟨0,[(spc,z.q.S)],nlRows z.q.f.q.n (txs z.q.ps) (rl.map (·.1))⟩):=by
 have h1:=Seg.run (K:=K) (agS K b z pos D0 τ0 O0) (tl:=[]) rfl rfl ZZ _ [5,8,9,10,11,12,13,14] (Q3 K b z hx pos D0 τ0 O0) (by decide) rfl (by decide)
  (λD Z O=>Z1 (decide_eq_true hn) h.ln) (λ_ _ _=>rfl)
 rw[List.append_nil] at h1
 have h2:=Seg.frame (partsTail z.q.ps) (zj _) h1
 refine Seg.trans h2 ?_
 rintro s ⟨s',⟨D,Z,O⟩⟩
 have hW:=Q1 K b z hx pos D0 τ0 O0 D Z O
 have eW:=vJ hW.1
 have hN:=Seg.frame [slotAt (agRH K b z pos D0 τ0 O0 D Z O) 5] (λp hp=>by rw[List.mem_singleton] at hp;subst hp;exact VQ K b z hx pos D0 τ0 O0 D Z O)
  (yN (K:=K) (x:=([2,0,1,0,0,3],bagOf (stk (agRH K b z pos D0 τ0 O0 D Z O) (WK ([1,0,0,3],b))))) (by simp[nxKs]) (f:=z.f1) (ps:=z.q.ps) (rl:=rl) rfl h.rw (λps2 h2=>h.nl (f:=z.f1) rfl ps2 h2) (by have:=h.ln;lia) (pos:=(eo (agRH K b z pos D0 τ0 O0 D Z O)).pos))
 rw[<-eW] at hN
 refine Seg.call hW.2 (Seg.perm (a:=⟨_,_,_,[],_⟩) ?_ hN) ?_
 ·show List.Perm (α:=Addr × Obj) (((slotAt (agRH K b z pos D0 τ0 O0 D Z O) 5::z.f1.far.slots K.P K.V)++[])++partsTail z.q.ps) ((z.f1.far.slots K.P K.V++partsTail z.q.ps)++[slotAt (agRH K b z pos D0 τ0 O0 D Z O) 5])
  rw[List.append_nil]
  exact(List.perm_append_singleton _ _).symm
 ·rintro s ⟨s',⟨g,rl',f1,f2,f3,f4,f5,f6,f7,f8⟩⟩
  refine⟨f7,.ok (.ret .none),f6,?_⟩
  refine Seg.perm (a:=⟨_,_,_,_,_⟩) ?_ (Sa hx (h.ok (z.q.F,z.q.S) (by simp[AcQ.tx])).1 f1 f2 f3 f4 f5 (pos:=pos) (D0:=D0) (τ0:=τ0) (O0:=O0) (D1:=D) (τ1:=Z) (O1:=O))
  show List.Perm (α:=Addr × Obj) (s'.T++[slotAt (agRH K b z pos D0 τ0 O0 D Z O) 5]) (slotAt (agRH K b z pos D0 τ0 O0 D Z O) 5::g.far.slots K.P K.V)
  rw[f8]
  exact List.perm_append_singleton _ _
theorem w3{F:Nat->Str}:∀{i j:Nat},findBk F i=some j->j<=i
 |0,_,h=>by simp[findBk] at h
 |i+1,j,h=>by
  unfold findBk at h
  split at h
  ·simp only[Option.some.injEq] at h;omega
  ·have:=w3 h;omega
def AfQ.fr_eq{z:AfQ}{a0:Addr}(h1:z.g.a0=a0)(h2:z.g.fa=z.q.f.far.fa):z.fr a0=z.g:=by
 unfold AfQ.fr
 rw[<-h1,<-h2]
def AgQ.fr_eq{z:AgQ}{a0:Addr}(h1:z.g.a0=a0)(h2:z.g.fa=z.q.f.far.fa):z.fr a0=z.g:=by
 unfold AgQ.fr
 rw[<-h1,<-h2]
def WI(a b c p:Addr × Obj)(A B:zb):List.Perm ((([a,b,c]++A)++[p])++B) ((([a,b]++A)++(B++[p]))++[c]):=by
 show List.Perm (a::b::c::((A++[p])++B)) (a::b::((A++(B++[p]))++[c]))
 refine .cons _ (.cons _ ?_)
 exact(List.Perm.cons _ (yV A B p)).trans (List.perm_append_singleton _ _).symm
def wg(a b c:Addr × Obj)(A B:zb):List.Perm ((([a,b]++A)++B)++[c]) ((([a,c]++A)++B)++[b]):=by
 show List.Perm (a::b::((A++B)++[c])) (a::c::((A++B)++[b]))
 refine .cons _ ?_
 exact(List.Perm.cons _ (List.perm_append_singleton _ _)).trans ((List.Perm.swap _ _ _).trans (.cons _ (List.perm_append_singleton _ _).symm))
def Yw(a b c p:Addr × Obj)(A B:zb):List.Perm ((([a,b]++A)++(B++[p]))++[c]) ((([a,c,p]++A)++B)++[b]):=by
 refine(wg a b c A (B++[p])).trans (.append_right _ ?_)
 show List.Perm (a::c::(A++(B++[p]))) (a::c::p::(A++B))
 refine .cons _ (.cons _ ?_)
 rw[<-List.append_assoc]
 exact List.perm_append_singleton _ _
def We{K:Wd}{b:Bag}{q:AcQ}{rl:List (Str × Tok)}(h:ChH q rl){j:Nat}(hj:findBk (fwsAt q.tx) q.ps.length=some j){pos:Pos}{D Z O}{a2 a3 it:Addr}{ep:Nat}{m1:Addr}{g':AcF}{x':AcX}{i:Nat}
  (e1:g'.a0=D 0) (e2:g'.fa=q.f.far.fa) (hx:∃t t',x'=.i (.int (.ofNat j) t) t'\/∃v2 t2,x'=.ip (.int (.ofNat j) t) t' v2 t2) :
  Seg K (WK ([1,0,0,3],b)) ⟨kOf (acRL K b q pos D Z O) (.ok .next),(eo (acRL K b q pos D Z O)).code,(eo (acRL K b q pos D Z O)).pos,(eo (acRL K b q pos D Z O)).fs,
   lpT K (q.fm a2 ep m1) (q.ps++[q.pt a2]) g' it i x'++[(a3,strIt 1 (q.f.t 7))]⟩ (ChE K q.f ⟨0,q.tx.drop j,rl.map (·.1)++[txText (q.tx.take j)]⟩):=by
 have hle:=w3 hj
 have htx:=yk q a2
 have hln:=h.ln
 let z:AfQ:=⟨q,(q.ps++[q.pt a2]).take j,(q.ps++[q.pt a2]).drop j,g',x',a2,a3,ep,m1⟩
 have hLR:z.L++z.R=q.ps++[q.pt a2]:=List.take_append_drop _ _
 have hL:txs z.L=q.tx.take j:=by rw[<-htx];show (List.map _ (List.take _ _))=List.take _ (List.map _ _);rw[List.map_take]
 have hR:txs z.R=q.tx.drop j:=by rw[<-htx];show (List.map _ (List.drop _ _))=List.drop _ (List.map _ _);rw[List.map_drop]
 obtain⟨t,t',hx⟩:=hx
 have hx2:(∃t',z.x=.i (.int (.ofNat j) t) t')\/∃t' v2 t2,z.x=.ip (.int (.ofNat j) t) t' v2 t2:=by
  rcases hx with hx|⟨v2,t2,hx⟩
  ·exact .inl ⟨t',hx⟩
  ·exact .inr ⟨t',v2,t2,hx⟩
 have hS:=Sb (K:=K) (b:=b) (z:=z) (j:=j) (t:=t) (rl:=rl) hx2 (by show (List.take _ _).length=_;rw[List.length_take,List.length_append];exact Nat.min_eq_left (Nat.le_succ_of_le hle)) h.rw h.rn
  (by rw[hL];exact yv (λt ht=>List.mem_of_mem_take ht) h.sm) (by show (List.take _ _).length<=_;rw[List.length_take];exact Nat.le_trans (Nat.min_le_left _ _) (Nat.le_trans hle (Nat.le_trans hln (by decide))))
  (by show (List.drop _ _).length<=_;rw[List.length_drop,List.length_append];exact Nat.le_trans (Nat.sub_le _ _) (Nat.le_trans (Nat.succ_le_succ hln) (by decide))) (pos:=pos) (D0:=D) (τ0:=Z) (O0:=O)
 rw[hL,hR] at hS
 refine Seg.pre (rest:=[(it,rngIt i i)]) ?_ (λ_ _ _=>trivial) hS
 rw[AfQ.fr_eq (z:=z) e1 e2,hLR]
 have ef:z.fm.far=(q.fm a2 ep m1).far.puts (partsArr (q.ps++[q.pt a2])):=by unfold AfQ.fm;rw[hLR];rfl
 rw[ef]
 exact wg _ _ _ _ _
def Seg.gen{K:Wd}{W:List (Code × Pos)}{a:St}{B0:St->Prop}(h:∀B:St->Prop,(∀s,B0 s->B s)->Seg K W a B):Seg K W a B0:=h B0 λ_ h=>h
def VB{K:Wd}{b:Bag}{q:AcQ}{rl:List (Str × Tok)}(h:ChH q rl){pos:Pos}{D Z O}{a2 it:Addr}{ep:Nat}{m1:Addr}{g':AcF}{x':AcX}{i:Nat}
  (e1:g'.a0=D 0) (e2:g'.fa=q.f.far.fa) (hx:∀v t,x'≠.i v t) :
  Seg K (WK ([1,0,0,3],b)) ⟨kOf (acRL K b q pos D Z O) (.ok .cont),(eo (acRL K b q pos D Z O)).code,(eo (acRL K b q pos D Z O)).pos,(eo (acRL K b q pos D Z O)).fs,
   lpT K (q.fm a2 ep m1) (q.ps++[q.pt a2]) g' it i x'++[(D 3,strIt 1 (q.f.t 7))]⟩ (ChE K q.f (if q.f.q.n > 0 then ⟨0,[(spc,q.S)],nlRows q.f.q.n (txs q.ps) (rl.map (·.1))⟩ else ⟨q.f.q.n,q.tx,rl.map (·.1)⟩)):=by
 let z:AgQ:=⟨q,g',x',a2,ep,m1⟩
 have hp:List.Perm (lpT K (q.fm a2 ep m1) (q.ps++[q.pt a2]) g' it i x'++[(D 3,strIt 1 (q.f.t 7))]) ((([(z.fr (D 0)).o K.P z.x,(D 3,strIt 1 (z.q.f.t 7)),(z.q.pt z.a2).slot]++(z.q.fm z.a2 z.ep z.m1).far.slots K.P K.V)++partsTail z.q.ps)++[(it,rngIt i i)]):=by
  rw[AgQ.fr_eq (z:=z) e1 e2]
  unfold lpT
  rw[zG,<-zB]
  exact Yw _ _ _ _ _ _
 refine Seg.pre (rest:=[(it,rngIt i i)]) hp (λ_ _ _=>trivial) ?_
 by_cases hn:q.f.q.n > 0
 ·rw[if_pos hn]
  exact VP (K:=K) (b:=b) (z:=z) hx h hn
 ·rw[if_neg hn]
  exact VO (K:=K) (b:=b) (z:=z) hx h hn
def YM{K:Wd}{b:Bag}{q:AcQ}{rl:List (Str × Tok)}(h:ChH q rl){pos:Pos} :
  Seg K (WK ([1,0,0,3],b)) ⟨denF (acC q.f.far.fa q.F q.tF q.S q.tS),acC q.f.far.fa q.F q.tF q.S q.tS,pos,[],(q.f.far.puts (partsArr q.ps)).slots K.P K.V++partsTail q.ps⟩ (ChE K q.f (chunkP q.f.wd ⟨q.f.q.n,txs q.ps,rl.map (·.1)⟩ q.F q.S)):=by
 unfold chunkP
 show Seg _ _ _ (ChE K q.f (if q.f.q.n+txLen q.tx > q.f.wd then _ else _))
 by_cases hgt:q.f.q.n+txLen q.tx > q.f.wd
 ·rw[if_pos hgt]
  refine Seg.gen λB hB=>?_
  have h1:=Seg.run (K:=K) (acS K b q pos) (tl:=partsTail q.ps) rfl rfl Z4 _ [5,0,2,6,7,8,9,10,11,12,3] (Q5 K b q pos) (by decide) rfl (by decide) (λD Z O=>W9 h hgt _ _) (λ_ _ _=>rfl)
  refine Seg.trans h1 ?_
  rintro s ⟨D,Z,O⟩
  have hW:=Q4 K b q pos D Z O
  have eW:=vJ hW.1
  have htx:=yk q (D 2)
  have hlen:(q.ps++[q.pt (D 2)]).length<=41:=by rw[List.length_append];have:=h.ln;simp;lia
  have hL:=Seg.frame [(D 3,strIt 1 (q.f.t 7))] (λp hp=>by rw[List.mem_singleton] at hp;subst hp;rfl)
   (XE (K:=K) (b:=bagOf (stk (acRL K b q pos D Z O) (WK ([1,0,0,3],b)))) (f:=q.fm (D 2) ((Z 7).tok 0) ((Z 9).tok 1)) (ps:=q.ps++[q.pt (D 2)]) (Yx (by rw[htx];exact h.ok)) hlen (it:=D 5)
    q.ps.length (q.fr D Z) .no (eo (acRL K b q pos D Z O)).pos rfl (λ_ _ e=>by cases e) (.inr (by rw[List.length_append];simp)))
  rw[<-eW] at hL
  refine Seg.call hW.2 (Seg.perm (a:=⟨_,_,_,[],_⟩) ?_ hL) ?_
  ·show List.Perm (α:=Addr × Obj) (((([(q.fr D Z).o K.P .no,(D 5,rngIt q.n q.n),(D 3,strIt 1 (q.f.t 7))]++(q.fm (D 2) ((Z 7).tok 0) ((Z 9).tok 1)).far.slots K.P K.V)++[(q.pt (D 2)).slot])++partsTail q.ps)) (lpT K (q.fm (D 2) ((Z 7).tok 0) ((Z 9).tok 1)) (q.ps++[q.pt (D 2)]) (q.fr D Z) (D 5) q.ps.length .no++[(D 3,strIt 1 (q.f.t 7))])
   unfold lpT
   rw[zG,<-zB,h.nn]
   exact WI _ _ _ _ _ _
  ·rintro s ⟨s',⟨g',x',i,e1,e2,e3,e4,e5,e6,e7,e8⟩⟩
   rw[Xk,htx] at e8
   refine⟨e6,?_⟩
   cases hf:findBk (fwsAt q.tx) q.ps.length with
   |some j=>
    rw[hf] at e8
    refine⟨.ok .next,e8.1,?_⟩
    show Seg _ _ ⟨_,_,_,_,s'.T++_⟩ _
    rw[e7]
    have:=We (K:=K) (b:=b) h hf (pos:=pos) (D:=D) (Z:=Z) (O:=O) (a2:=D 2) (a3:=D 3) (it:=D 5) (ep:=(Z 7).tok 0) (m1:=(Z 9).tok 1) (g':=g') (x':=x') (i:=i) e1 e2 e8.2
    dsimp only at hB
    rw[show findBk (fwsAt (txs q.ps++[(q.F,q.S)])) (txs q.ps).length=some j by rw[yu];exact hf] at hB
    exact this.mono hB
   |none=>
    rw[hf] at e8
    refine⟨.ok .cont,e8.1,?_⟩
    show Seg _ _ ⟨_,_,_,_,s'.T++_⟩ _
    rw[e7]
    have:=VB (K:=K) (b:=b) h (pos:=pos) (D:=D) (Z:=Z) (O:=O) (a2:=D 2) (it:=D 5) (ep:=(Z 7).tok 0) (m1:=(Z 9).tok 1) (g':=g') (x':=x') (i:=i) e1 e2 e8.2
    dsimp only at hB
    rw[show findBk (fwsAt (txs q.ps++[(q.F,q.S)])) (txs q.ps).length=none by rw[yu];exact hf] at hB
    exact this.mono hB
 ·rw[if_neg hgt]
  exact TK h hgt
noncomputable def adC(a:Addr):Code:=.call (.ref 207) ⟨[.ref a],[]⟩
def adS(K:Wd)(b:Bag)(f:Fm)(ps:List Part)(pos:Pos):Start:=mkS K (WK ([1,0,0,3],b)) 7 [] [xAppend 3] ((f.far.puts (partsArr ps)).slots K.P K.V) (adC f.far.fa) pos
noncomputable def tpAd:List Nat:=[414,412,15,7,4,15,13,476,476,474,0,13,476,476,474,13,13,476,11,7,644,644,642,7,644,644,642,7,644,644,642,532,7,5,532,0,532,530,17,8,17,8,17,8,4,17,7,644,644,642,7,644,644,642,7,644,644,642,7,5,17,17,1,0,7,644,642]
def adR(K:Wd)(b:Bag)(f:Fm)(ps:List Part)(pos:Pos)(D:Nat->Addr)(Z:Nat->Ch)(O:Nat->Nat):Option Out:=(adS K b f ps pos).run D Z O 102 tpAd
def trP(a:Addr)(t t':Tok):Part:=⟨a,spc,t,⟨#[]⟩,t'⟩
def adX(K:Wd)(f:Fm)(ps:List Part)(r:Option Out)(D:Nat->Addr)(Z:Nat->Ch):Exp:=⟨.pure (.done (.ret .none)),(eo r).code,(eo r).pos,[],
 (f.line ((partsArr ps).push (.ref (D 2))) ((Z 7).tok 0)).far.slots K.P K.V++[(trP (D 2) ((Z 2).tok 0) ((Z 3).tok 0)).slot],[],[small (partsArr ps).size]⟩
def ad_r(K:Wd)(b:Bag)(f:Fm)(ps:List Part)(pos:Pos)(D Z O):lhs 7 [3,4,5,6,7,8,9,0] (adR K b f ps pos D Z O)=rhs 3 (adX K f ps (adR K b f ps pos D Z O) D Z) (adR K b f ps pos D Z O):=by
 obtain⟨_,b1⟩:=K
 cases b1<;>kernel_rfl
def Yi{K:Wd}{b:Bag}{f:Fm}{ps:List Part}{rl:List (Str × Tok)}(hrw:f.rows=rowsArr rl)(hln:ps.length<=1000){pos:Pos} :
  Seg K (WK ([1,0,0,3],b)) ⟨denF (adC f.far.fa),adC f.far.fa,pos,[],(f.far.puts (partsArr ps)).slots K.P K.V++partsTail ps⟩ (ChE K f ⟨f.q.n,txs ps++[(spc,⟨#[]⟩)],rl.map (·.1)⟩):=by
 have h1:=Seg.run (K:=K) (adS K b f ps pos) (tl:=[]) rfl rfl vH _ [3,4,5,6,7,8,9,0] (ad_r K b f ps pos) (by decide) rfl (by decide) (λD Z O=>za (zc (by rw[zl];exact hln)) zd) (λ_ _ _=>rfl)
 rw[List.append_nil] at h1
 refine Seg.swap (Seg.frame (partsTail ps) (zj _) h1) ?_
 rintro s ⟨s',⟨D,Z,O⟩⟩
 refine⟨(f.line ((partsArr ps).push (.ref (D 2))) ((Z 7).tok 0)).far.slots K.P K.V++partsTail (ps++[(trP (D 2) ((Z 2).tok 0) ((Z 3).tok 0))]),?_,f.line ((partsArr ps).push (.ref (D 2))) ((Z 7).tok 0),ps++[(trP (D 2) ((Z 2).tok 0) ((Z 3).tok 0))],rl,⟨rfl,rfl,rfl,rfl,rfl,rfl⟩,zB ps (trP (D 2) ((Z 2).tok 0) ((Z 3).tok 0)),hrw,rfl,by simp[txs,Part.tx,trP],rfl,rfl,rfl,rfl⟩
 rw[zG]
 show List.Perm (α:=Addr × Obj) (((_++[_])++[])++_) _
 rw[List.append_nil]
 exact yV _ _ _
def Obj.IntSet(o:Obj)(S:Int->Bool):Prop:=∃es ep t,o.ExactSet/\o.data=.set es ep t/\(∀e∈es.toList,(∃k,Value.isInt k e.2=true/\e.1=hashInt k)/\e.2.scannable=true)/\(∀k,S k=true↔∃e∈es.toList,Value.isInt k e.2=true)/\es.size < scanBound/\t.fits es.size=true
def wG{prog:Program}{w:World}{A:Around}{s:Shared}{a:Addr}{o:Obj}{S:Int->Bool}(hg:s.heap.get? a=some o)(h:Obj.IntSet o S)(k:Int)(t:Tok) :
  codeAny (model prog w) A (.call (.builtin "set.__contains__") ⟨[.ref a,.int k t],[]⟩) (λr s₁=>r=.ok (.ret (.bool (S k)))/\s₁={ s with toks:=s.toks+1 }) s:=by
 obtain⟨es,ep,tb,h1,h2,h3,h4,h5,h6⟩:=h
 have hS:s.heap.SetOf (intKind prog w) a S es.size:=⟨o,es,ep,tb,hg,h1,h2,h3,h4,h5,h6,rfl⟩
 have hkey:(intKind prog w).is k (.int k t)=true:=by show Value.isInt k (.int k t)=true;simp[Value.isInt]
 refine codeAny_call_builtin F.slot_set_contains.plain entry_set_contains (F.slot_set_contains.check _ _ _ _ _ _ _ _ hS.typeIs (F.args_set_contains_2 _ _) ?_)
 unfold Builtin.«frozenset.__contains__» Builtin.Frozenset.oneOther
 simp only[List.isEmpty_nil,bind_assoc]
 unfold Builtin.Frozenset.addrOf Builtin.Frozenset.withSetAsKey setContains
 refine wpAny_bind (wpAny_pure ?_)
 try dsimp only
 refine wpAny_bind (wpAny_pure ?_)
 try dsimp only
 refine wpAny_bind (wpAny_tryCatch ?_)
 refine wpAny_holding ?_
 refine wpAny_bind ((intKind prog w).pyHash hkey ?_)
 refine wpAny_bind (wpAny_setFind_of (s:={ s with toks:=s.toks+1 }) hkey rfl hS λr hr=>?_)
 refine wpAny_pure ?_
 show wpAny _ _ (ret (Value.bool r.isSome)) _ _ _
 rw[hr]
 exact wpAny_pure ⟨rfl,rfl⟩
def xInSet(o:Obj)(S:Int->Bool):Ext:=cnX (M:=Addr × Int × Tok) 1 (λ_=>0) (λ_ c l=>(obA l 0,iV (vAt (argC c) 1),tkV (vAt (argC c) 1))) (λ_ u=>.call (.builtin "set.__contains__") ⟨[.ref u.1,.int u.2.1 u.2.2],[]⟩) (λ_ u=>[(u.1,o)]) (λ_ _=>[]) (λ_ u _ _=>⟨.ok (.ret (.bool (S u.2.1))),[],[]⟩)
def Yh{w:World}{tl:zb}{o:Obj}{S:Int->Bool}(h:Obj.IntSet o S):LeafOk w tl (xInSet o S):=
 zt λprog s d ⟨a,k,t⟩ wh gs hg _ _=>⟨[],.of 0,_,rfl,zh,wG (hg _ (.head _)) h k t,Eff.toks⟩
noncomputable def tfB:Nat->Bool
 |0=>false
 | _+1=>true
structure T2M where
 a:Addr
 dd:Option Addr
 p:Int
 tp:Tok
 q:Int
 tq:Tok
 n:Nat
 sl:Array (Option Value)
 k:Int
 t:Tok
def xTupIn2:Ext:=cnX (M:=T2M) 1 (λ_=>0) (λ_ c l=>⟨obA l 0,(obO l 0).dict,iV (vAt (flO (obO l 0)) 0),tkV (vAt (flO (obO l 0)) 0),iV (vAt (flO (obO l 0)) 1),tkV (vAt (flO (obO l 0)) 1),epO (obO l 0),(obO l 0).slots,iV (vAt (argC c) 1),tkV (vAt (argC c) 1)⟩)
 (λ_ u=>.call (.builtin "tuple.__contains__") ⟨[.ref u.a,.int u.k u.t],[]⟩) (λ_ u=>[(u.a,⟨.type "tuple", u.dd,.seq #[.int u.p u.tp,.int u.q u.tq] u.n,u.sl⟩)]) (λd u=>[(.b (u.p==u.k || u.q==u.k),.b (tfB d))]) (λd _ _ _=>⟨.ok (.ret (.bool (tfB d))),[],[]⟩)
noncomputable def eqIV(k:Int)(v:Value):Bool:=match v with
 | .int i _=>i==k
 | _=>false
def uN{w:World}{tl:zb}:LeafOk w tl xTupIn2:=by
 refine zt λprog s d ⟨a,dd,p,tp,q,tq,n,sl,k,t⟩ wh gs hg _ hp=>?_
 have e2:(p==k || q==k)=tfB d:=LV.b.inj (hp _ (.head _))
 have h1:=hg _ (.head _)
 refine⟨[],.of 0,s,rfl,zh,zp PySem.F.slot_tuple_contains ⟨_,h1,rfl⟩ PySem.F.entry_tuple_contains (PySem.F.args_tuple_contains_2 _ _) (PySem.SeqAt.tuple_containsAt a #[.int p tp,.int q tq] n dd sl (.int k t) (eqIV k)) ⟨h1,λv hv=>?_,?_⟩,Eff.toks⟩
 ·have:v=.int p tp\/v=.int q tq:=by simpa using hv
  rcases this with rfl|rfl<;>exact PySem.SeqAt.EqAt.int_int _ _ _ _
 ·refine⟨?_,rfl⟩
  dsimp only
  rw[<-e2]
  simp[eqIV]
def Obj.IntDict(o:Obj)(f:Int->Option Value):Prop:=∃es ep,o.ExactDict/\o.data=.dict es ep/\(∀e∈es,∃k,Value.isInt k e.key=true/\e.hash=hashInt k)/\∀k,findBy Value.isInt es k=f k
def xDictGet(o:Obj)(f:Int->Option Value)(S:Str)(tS:Tok):Ext:=cnX (M:=Addr × Int × Tok) 1 (λ_=>0) (λ_ c l=>(obA l 0,iV (vAt (argC c) 1),tkV (vAt (argC c) 1))) (λ_ u=>.call (.builtin "dict.get") ⟨[.ref u.1,.int u.2.1 u.2.2],[]⟩) (λ_ u=>[(u.1,o)])
 (λd u=>[(.ov (f u.2.1),.ov (match tfB d with|true=>some (.str S tS)|false=>none)),(.b (u.1==sysModules),.b false)]) (λd _ _ _=>⟨.ok (.ret (match tfB d with|true=>.str S tS|false=>.none)),[],[]⟩)
def xR{prog:Program}{w:World}{A:Around}{s:Shared}{a:Addr}{o:Obj}{f:Int->Option Value}(hg:s.heap.get? a=some o)(h:Obj.IntDict o f)(ha:(a==sysModules)=false)(k:Int)(t:Tok) :
  codeAny (model prog w) A (.call (.builtin "dict.get") ⟨[.ref a,.int k t],[]⟩) (λr s₁=>r=.ok (.ret ((f k).getD .none))/\s₁={ s with toks:=s.toks+1 }) s:=by
 obtain⟨es,ep,h1,h2,h3,h4⟩:=h
 have hm:s.heap.MapOf (intKind prog w) a f:=⟨o,es,ep,hg,h1,h2,h3,h4⟩
 have hkey:(intKind prog w).is k (.int k t)=true:=by show Value.isInt k (.int k t)=true;simp[Value.isInt]
 refine codeAny_call_builtin PySem.F.slot_dict_get.plain PySem.F.entry_dict_get (PySem.F.slot_dict_get.check _ _ _ _ _ _ _ _ ⟨o,hg,h1.1⟩ (PySem.F.args_dict_get_2 _ _) ?_)
 exact meets_dict_get (intKind prog w) a hkey ha A (λr s₁=>r=.ok (.ret ((f k).getD .none))/\s₁={ s with toks:=s.toks+1 }) s ⟨f,hm,rfl,rfl⟩
def vQ{w:World}{tl:zb}{o:Obj}{f:Int->Option Value}{S:Str}{tS:Tok}(h:Obj.IntDict o f):LeafOk w tl (xDictGet o f S tS):=by
 refine zt λprog s d ⟨a,k,t⟩ wh gs hg _ hp=>?_
 have e3:=LV.ov.inj (hp _ (.head _))
 have e4:=LV.b.inj (hp _ (.tail _ (.head _)))
 have:=xR (prog:=prog) (w:=w) (A:=aroundOf wh) (hg _ (.head _)) h e4 k t
 dsimp only at e3
 rw[e3] at this
 refine⟨[],.of 0,{ s with toks:=s.toks+1 },rfl,zh,?_,Eff.toks⟩
 dsimp only
 generalize tfB d=z at this ⊢
 cases z<;>exact this
noncomputable def low1(c:Nat):Str:=⟨placed ⟨#[c]⟩ λi _=>Unicode.lowerAt #[c] i⟩
noncomputable def hd0(x:Str):Nat:=x.cps.toList.headD 0
def xLower(S:Str):Ext:=cnX (M:=Nat × Tok) 0 (λ_=>0) (λ_ c _=>(hd0 (sV (vAt (argC c) 0)),tkV (vAt (argC c) 0))) (λ_ u=>.call (.builtin "str.lower") ⟨[.str ⟨#[u.1]⟩ u.2],[]⟩) (λ_ _=>[]) (λ_ u=>[(.s (low1 u.1),.s S),small S.cps.size]) (λ_ _ _ t=>⟨.ok (.ret (.str S (t.tok 0))),[],[]⟩)
def Yf{w:World}{tl:zb}{S:Str}:LeafOk w tl (xLower S):=by
 refine zt λprog s d ⟨x,tx⟩ wh gs _ _ hp=>?_
 have e1:low1 x=S:=LV.s.inj (hp _ (.head _))
 have e2:=zW hp (.tail _ (.head _))
 subst e1
 exact⟨[],.of s.toks,{ s with toks:=s.toks+1 },rfl,zh,zU PySem.F.slot_str_lower (typeIs_str s ⟨#[x]⟩ tx) PySem.F.entry_str_lower (PySem.F.args_str_lower_1 _) (gives_str_lower ⟨#[x]⟩ tx (decide_eq_false (Nat.not_lt.mpr e2))) ⟨e2,rfl,rfl⟩,Eff.toks⟩
noncomputable def sgC(n:Nat)(c:Nat)(t:Tok):Code:=.call (.ref n) ⟨[.str ⟨#[c]⟩ t],[]⟩
structure SgQ where
 c:Nat
 t:Tok
 y:Addr
 o:Obj
def sgS(K:Wd)(b:Bag)(n:Nat)(X:List Ext)(q:SgQ)(pos:Pos):Start:=mkS K (WK ([1,0,0,3],b)) 1 [] X [(q.y,q.o)] (sgC n q.c q.t) pos
def sgE(q:SgQ)(r:Option Out)(v:Value)(pc:Lg):Exp:=⟨.pure (.done (.ret v)),(eo r).code,(eo r).pos,[],[(q.y,q.o)],[],pc⟩
def sgR(K:Wd)(b:Bag)(n:Nat)(X:List Ext)(q:SgQ)(pos:Pos)(N:Nat)(tp:List Nat)(D:Nat->Addr)(Z:Nat->Ch)(O:Nat->Nat):Option Out:=(sgS K b n X q pos).run D Z O N tp
def SgE(q:SgQ)(tl:zb)(P:Value->Prop)(s:St):Prop:=∃v,P v/\s.cur=.pure (.done (.ret v))/\s.fs=[]/\s.T=(q.y,q.o)::tl
def zR{K:Wd}{b:Bag}{n:Nat}{X:List Ext}{q:SgQ}{pos:Pos}{N na i:Nat}{tp:List Nat}{v:(Nat->Ch)->Value}{pc:Lg}{P:Value->Prop}{tl:zb}(htl:∀p∈tl,p.2.isFreed=false)
  (hX:∀F,Under (cfg K.P K.V (WK ([1,0,0,3],b)) 1 []) F->∀e E,nth X e=some E->ExtOk (cfg K.P K.V (WK ([1,0,0,3],b)) 1 []) K.w F E)
  (hr:∀D Z O,lhs 1 [i] (sgR K b n X q pos N tp D Z O)=rhs na (sgE q (sgR K b n X q pos N tp D Z O) (v Z) pc) (sgR K b n X q pos N tp D Z O)) (hpc:Lg.Ok pc) (hP:∀Z,P (v Z)) :
  Seg K (WK ([1,0,0,3],b)) ⟨denF (sgC n q.c q.t),sgC n q.c q.t,pos,[],(q.y,q.o)::tl⟩ (SgE q tl P):=by
 have h:=Seg.run (K:=K) (sgS K b n X q pos) (tl:=[]) rfl rfl hX _ [i] hr (by simp[distinct,notIn]) rfl (by decide) (λ_ _ _=>hpc) (λ_ _ _=>rfl)
 have h2:=Seg.frame tl htl h
 rw[List.append_nil] at h2
 refine h2.mono ?_
 rintro s ⟨s',⟨D,Z,O⟩⟩
 exact⟨v Z,hP Z,rfl,rfl,rfl⟩
noncomputable def sgRd(d:Nat)(c:Code)(objs:zb):Option SgQ:=match c with
 | .call _ ⟨[.str ⟨⟨[c]⟩⟩ t],[]⟩=>match objs with
  |[(y,o)]=>some ⟨c,t,y,o⟩
  | _=>none
 | _=>none
def xSgB(n:Nat)(test:Nat->Bool):Ext:=fnX 1 (λ_=>0) (shk [[1,0,0,3]]) sgRd (λ_ _ q=>sgC n q.c q.t) (λ_ _ q=>[(q.y,q.o)]) (λd _ q=>[(.b (test q.c),.b (tfB d))])
 (λd _ q _ _=>⟨.ok (.ret (.bool (tfB d))),[q.o],[]⟩)
def yt{K:Wd}{W:List (Code × Pos)}{n m:Nat}{tl:zb}{F:List Frame}{test:Nat->Bool}(U:Under (cfg K.P K.V W n tl) F)(htl:∀p∈tl,p.2.isFreed=false)
  (H:∀(b:Bag) (q:SgQ) (pos:Pos),Seg K (WK ([1,0,0,3],b)) ⟨denF (sgC m q.c q.t),sgC m q.c q.t,pos,[],(q.y,q.o)::tl⟩ (SgE q tl λv=>v=.bool (test q.c))):ExtOk (cfg K.P K.V W n tl) K.w F (xSgB m test):=by
 refine ExtOk.fn U htl WK (λx=>x.1∈[[1,0,0,3]]) (λwh x h=>z8 h) (λd c objs x q xs t h=>rfl) ?_
 rintro d ⟨ks,b⟩ q hk hpc _ pos
 have hk:ks=[1,0,0,3]:=by simpa using hk
 subst hk
 have e:=LV.b.inj (hpc _ (.head _))
 refine(H b q pos).mono ?_
 rintro s ⟨v,rfl,h1,h2,h3⟩
 refine⟨[],.of 0,rfl,rfl,?_,h2,?_⟩
 ·rw[h1,e];rfl
 ·rw[h3];rfl
def c11P(c:Nat):Bool:=(⟨#[c]⟩:Str).cps.toList==spc.cps.toList
noncomputable def c4P(c:Nat):Bool:=!decide ((c:Int) < 64976) && (decide ((c:Int) < 65008) || ((65534:Int)==Builtin.bitAnd (c:Int) 65535 || (65535:Int)==Builtin.bitAnd (c:Int) 65535))
noncomputable def tp11(d:Nat):List Nat:=[184,182,3,1,4,3,1,d]
def X11(K:Wd):List Ext:=[pureX K.P 8 [],xTupIn2]
def xq{K:Wd}{W:List (Code × Pos)}{m:Nat}{tl:zb}:∀F,Under (cfg K.P K.V W m tl) F->∀e E,nth (X11 K) e=some E->ExtOk (cfg K.P K.V W m tl) K.w F E:=λF U=>(AllOk.cons zn (.cons (.leaf U uN) .nil)).nth
def T1(K:Wd)(b:Bag)(q:SgQ)(pos:Pos)(D Z O):lhs 1 [1] (sgR K b 92 (X11 K) q pos 18 (tp11 1) D Z O)=rhs 1 (sgE q (sgR K b 92 (X11 K) q pos 18 (tp11 1) D Z O) (.bool false) [(.v (.bool (c11P q.c)),.v (.bool false))]) (sgR K b 92 (X11 K) q pos 18 (tp11 1) D Z O):=by
 obtain⟨_,b1⟩:=K
 cases b1<;>kernel_rfl
def T0(K:Wd)(b:Bag)(q:SgQ)(pos:Pos)(D Z O):lhs 1 [1] (sgR K b 92 (X11 K) q pos 18 (tp11 2) D Z O)=rhs 1 (sgE q (sgR K b 92 (X11 K) q pos 18 (tp11 2) D Z O) (.bool true) [(.v (.bool (c11P q.c)),.v (.bool true))]) (sgR K b 92 (X11 K) q pos 18 (tp11 2) D Z O):=by
 obtain⟨_,b1⟩:=K
 cases b1<;>kernel_rfl
def VG{K:Wd}{tl:zb}(htl:∀p∈tl,p.2.isFreed=false)(b:Bag)(q:SgQ)(pos:Pos):Seg K (WK ([1,0,0,3],b)) ⟨denF (sgC 92 q.c q.t),sgC 92 q.c q.t,pos,[],(q.y,q.o)::tl⟩ (SgE q tl λv=>v=.bool (c11P q.c)):=by
 cases h:c11P q.c with
 |false=>exact zR htl xq (T1 K b q pos) (za (by rw[h]) zd) (λ_=>rfl)
 |true=>exact zR htl xq (T0 K b q pos) (za (by rw[h]) zd) (λ_=>rfl)
noncomputable def tp4a:List Nat:=[198,196,3,1,4,6,0,3,1,0,3,1,3,1,2]
noncomputable def tp4b:List Nat:=[198,196,3,1,4,6,0,3,1,0,3,1,3,1,1,3,1,2]
noncomputable def tp4c(d:Nat):List Nat:=[198,196,3,1,4,6,0,3,1,0,3,1,3,1,1,3,1,1,6,0,3,1,0,1,0,5,5,2,d,5]
noncomputable def c4L(c:Nat)(l:Int)(b:Bool):LV × LV:=(.v (.bool (decide ((c:Int) < l))),.v (.bool b))
noncomputable def c4T(c:Nat)(b:Bool):LV × LV:=(.b ((65534:Int)==Builtin.bitAnd (c:Int) 65535 || (65535:Int)==Builtin.bitAnd (c:Int) 65535),.b b)
def QP(K:Wd)(b:Bag)(q:SgQ)(pos:Pos)(D Z O):lhs 1 [1] (sgR K b 99 (X11 K) q pos 35 tp4a D Z O)=rhs 1 (sgE q (sgR K b 99 (X11 K) q pos 35 tp4a D Z O) (.bool false) [c4L q.c 64976 true]) (sgR K b 99 (X11 K) q pos 35 tp4a D Z O):=by
 obtain⟨_,b1⟩:=K
 cases b1<;>kernel_rfl
def QO(K:Wd)(b:Bag)(q:SgQ)(pos:Pos)(D Z O):lhs 1 [1] (sgR K b 99 (X11 K) q pos 42 tp4b D Z O)=rhs 1 (sgE q (sgR K b 99 (X11 K) q pos 42 tp4b D Z O) (.bool true) [c4L q.c 65008 true,c4L q.c 64976 false]) (sgR K b 99 (X11 K) q pos 42 tp4b D Z O):=by
 obtain⟨_,b1⟩:=K
 cases b1<;>kernel_rfl
def QR(K:Wd)(b:Bag)(q:SgQ)(pos:Pos)(D Z O):lhs 1 [2] (sgR K b 99 (X11 K) q pos 61 (tp4c 0) D Z O)=rhs 2 (sgE q (sgR K b 99 (X11 K) q pos 61 (tp4c 0) D Z O) (.bool false) [c4T q.c false,c4L q.c 65008 false,c4L q.c 64976 false]) (sgR K b 99 (X11 K) q pos 61 (tp4c 0) D Z O):=by
 obtain⟨_,b1⟩:=K
 cases b1<;>kernel_rfl
def QQ(K:Wd)(b:Bag)(q:SgQ)(pos:Pos)(D Z O):lhs 1 [2] (sgR K b 99 (X11 K) q pos 61 (tp4c 1) D Z O)=rhs 2 (sgE q (sgR K b 99 (X11 K) q pos 61 (tp4c 1) D Z O) (.bool true) [c4T q.c true,c4L q.c 65008 false,c4L q.c 64976 false]) (sgR K b 99 (X11 K) q pos 61 (tp4c 1) D Z O):=by
 obtain⟨_,b1⟩:=K
 cases b1<;>kernel_rfl
def TZ{K:Wd}{tl:zb}(htl:∀p∈tl,p.2.isFreed=false)(b:Bag)(q:SgQ)(pos:Pos):Seg K (WK ([1,0,0,3],b)) ⟨denF (sgC 99 q.c q.t),sgC 99 q.c q.t,pos,[],(q.y,q.o)::tl⟩ (SgE q tl λv=>v=.bool (c4P q.c)):=by
 unfold c4P
 cases h1:decide ((q.c:Int) < 64976) with
 |true=>exact zR htl xq (QP K b q pos) (za (by unfold c4L;rw[h1]) zd) (λ_=>rfl)
 |false=>
  cases h2:decide ((q.c:Int) < 65008) with
  |true=>exact zR htl xq (QO K b q pos) (za (by unfold c4L;rw[h2]) (za (by unfold c4L;rw[h1]) zd)) (λ_=>rfl)
  |false=>
   cases h3:((65534:Int)==Builtin.bitAnd (q.c:Int) 65535 || (65535:Int)==Builtin.bitAnd (q.c:Int) 65535) with
   |true=>exact zR htl xq (QQ K b q pos) (za (by unfold c4T;rw[h3]) (za (by unfold c4L;rw[h2]) (za (by unfold c4L;rw[h1]) zd))) (λ_=>rfl)
   |false=>exact zR htl xq (QR K b q pos) (za (by unfold c4T;rw[h3]) (za (by unfold c4L;rw[h2]) (za (by unfold c4L;rw[h1]) zd))) (λ_=>rfl)
noncomputable def tpSet(f L:Nat):List Nat:=[2*f,2*(f - 1),3,1,4,6,0,3,1,0,6,2*L,2*L,2,0,2*L]
def XSet(K:Wd)(o:Obj)(S:Int->Bool):List Ext:=[pureX K.P 8 [],xInSet o S]
def y6{K:Wd}{W:List (Code × Pos)}{m:Nat}{tl:zb}{o:Obj}{S:Int->Bool}(h:Obj.IntSet o S):∀F,Under (cfg K.P K.V W m tl) F->∀e E,nth (XSet K o S) e=some E->ExtOk (cfg K.P K.V W m tl) K.w F E:=λF U=>(AllOk.cons zn (.cons (.leaf U (Yh h)) .nil)).nth
def b1_r(K:Wd)(b:Bag)(q:SgQ)(S:Int->Bool)(pos:Pos)(D Z O):lhs 1 [1] (sgR K b 39 (XSet K (o_29 K.P K.V) S) q pos 26 (tpSet 39 29) D Z O)=rhs 1 (sgE q (sgR K b 39 (XSet K (o_29 K.P K.V) S) q pos 26 (tpSet 39 29) D Z O) (.bool (S q.c)) []) (sgR K b 39 (XSet K (o_29 K.P K.V) S) q pos 26 (tpSet 39 29) D Z O):=by
 obtain⟨_,b1⟩:=K
 cases b1<;>kernel_rfl
def c6_r(K:Wd)(b:Bag)(q:SgQ)(S:Int->Bool)(pos:Pos)(D Z O):lhs 1 [1] (sgR K b 111 (XSet K (o_101 K.P K.V) S) q pos 26 (tpSet 111 101) D Z O)=rhs 1 (sgE q (sgR K b 111 (XSet K (o_101 K.P K.V) S) q pos 26 (tpSet 111 101) D Z O) (.bool (S q.c)) []) (sgR K b 111 (XSet K (o_101 K.P K.V) S) q pos 26 (tpSet 111 101) D Z O):=by
 obtain⟨_,b1⟩:=K
 cases b1<;>kernel_rfl
def c7_r(K:Wd)(b:Bag)(q:SgQ)(S:Int->Bool)(pos:Pos)(D Z O):lhs 1 [1] (sgR K b 123 (XSet K (o_113 K.P K.V) S) q pos 26 (tpSet 123 113) D Z O)=rhs 1 (sgE q (sgR K b 123 (XSet K (o_113 K.P K.V) S) q pos 26 (tpSet 123 113) D Z O) (.bool (S q.c)) []) (sgR K b 123 (XSet K (o_113 K.P K.V) S) q pos 26 (tpSet 123 113) D Z O):=by
 obtain⟨_,b1⟩:=K
 cases b1<;>kernel_rfl
def c8_r(K:Wd)(b:Bag)(q:SgQ)(S:Int->Bool)(pos:Pos)(D Z O):lhs 1 [1] (sgR K b 147 (XSet K (o_137 K.P K.V) S) q pos 26 (tpSet 147 137) D Z O)=rhs 1 (sgE q (sgR K b 147 (XSet K (o_137 K.P K.V) S) q pos 26 (tpSet 147 137) D Z O) (.bool (S q.c)) []) (sgR K b 147 (XSet K (o_137 K.P K.V) S) q pos 26 (tpSet 147 137) D Z O):=by
 obtain⟨_,b1⟩:=K
 cases b1<;>kernel_rfl
def c9_r(K:Wd)(b:Bag)(q:SgQ)(S:Int->Bool)(pos:Pos)(D Z O):lhs 1 [1] (sgR K b 165 (XSet K (o_155 K.P K.V) S) q pos 26 (tpSet 165 155) D Z O)=rhs 1 (sgE q (sgR K b 165 (XSet K (o_155 K.P K.V) S) q pos 26 (tpSet 165 155) D Z O) (.bool (S q.c)) []) (sgR K b 165 (XSet K (o_155 K.P K.V) S) q pos 26 (tpSet 165 155) D Z O):=by
 obtain⟨_,b1⟩:=K
 cases b1<;>kernel_rfl
structure TopOk (K:Wd) (S:Nat->Int->Bool) (f:Int->Option Value) (tab:Int->Option Str):Prop where
 s29:Obj.IntSet (o_29 K.P K.V) (S 29)
 s101:Obj.IntSet (o_101 K.P K.V) (S 101)
 s113:Obj.IntSet (o_113 K.P K.V) (S 113)
 s137:Obj.IntSet (o_137 K.P K.V) (S 137)
 s155:Obj.IntSet (o_155 K.P K.V) (S 155)
 d40:Obj.IntDict (o_40 K.P K.V) f
 tab:∀k,match f k with|none=>tab k=none|some v=>∃S t,v=.str S t/\tab k=some S
section
variable {K:Wd} {S:Nat->Int->Bool} {f:Int->Option Value} {tab:Int->Option Str} (T:TopOk K S f tab) {tl:zb} (htl:∀p∈tl,p.2.isFreed=false) (b:Bag) (q:SgQ) (pos:Pos)
include T htl
theorem T9:Seg K (WK ([1,0,0,3],b)) ⟨denF (sgC 39 q.c q.t),sgC 39 q.c q.t,pos,[],(q.y,q.o)::tl⟩ (SgE q tl λv=>v=.bool (S 29 q.c)):=zR htl (y6 T.s29) (b1_r K b q _ pos) zd (λ_=>rfl)
theorem TY:Seg K (WK ([1,0,0,3],b)) ⟨denF (sgC 111 q.c q.t),sgC 111 q.c q.t,pos,[],(q.y,q.o)::tl⟩ (SgE q tl λv=>v=.bool (S 101 q.c)):=zR htl (y6 T.s101) (c6_r K b q _ pos) zd (λ_=>rfl)
theorem TX:Seg K (WK ([1,0,0,3],b)) ⟨denF (sgC 123 q.c q.t),sgC 123 q.c q.t,pos,[],(q.y,q.o)::tl⟩ (SgE q tl λv=>v=.bool (S 113 q.c)):=zR htl (y6 T.s113) (c7_r K b q _ pos) zd (λ_=>rfl)
theorem TW:Seg K (WK ([1,0,0,3],b)) ⟨denF (sgC 147 q.c q.t),sgC 147 q.c q.t,pos,[],(q.y,q.o)::tl⟩ (SgE q tl λv=>v=.bool (S 137 q.c)):=zR htl (y6 T.s137) (c8_r K b q _ pos) zd (λ_=>rfl)
theorem TM:Seg K (WK ([1,0,0,3],b)) ⟨denF (sgC 165 q.c q.t),sgC 165 q.c q.t,pos,[],(q.y,q.o)::tl⟩ (SgE q tl λv=>v=.bool (S 155 q.c)):=zR htl (y6 T.s155) (c9_r K b q _ pos) zd (λ_=>rfl)
end
def X85(K:Wd)(f:Int->Option Value)(S:Str)(tS:Tok):List Ext:=[pureX K.P 8 [],xDictGet (o_40 K.P K.V) f S tS,xLower S]
noncomputable def tp85n:List Nat:=[170,168,3,1,4,6,80,80,80,80,6,0,3,1,0,2,0,80,3,1,3,3,3,0]
noncomputable def tp85f:List Nat:=[170,168,3,1,4,6,80,80,80,80,6,0,3,1,0,2,1,80,3,1,3,3]
def QX(K:Wd)(b:Bag)(q:SgQ)(f:Int->Option Value)(S:Str)(tS:Tok)(pos:Pos)(D Z O):lhs 1 [1] (sgR K b 85 (X85 K f S tS) q pos 50 tp85n D Z O) =
  rhs 1 (sgE q (sgR K b 85 (X85 K f S tS) q pos 50 tp85n D Z O) (.str S ((Z 4).tok 0)) [(.s (low1 q.c),.s S),small S.cps.size,(.ov (f q.c),.ov none),(.b false,.b false)]) (sgR K b 85 (X85 K f S tS) q pos 50 tp85n D Z O):=by
 obtain⟨_,b1⟩:=K
 cases b1<;>kernel_rfl
def QY(K:Wd)(b:Bag)(q:SgQ)(f:Int->Option Value)(S:Str)(tS:Tok)(pos:Pos)(D Z O):lhs 1 [1] (sgR K b 85 (X85 K f S tS) q pos 45 tp85f D Z O) =
  rhs 1 (sgE q (sgR K b 85 (X85 K f S tS) q pos 45 tp85f D Z O) (.str S tS) [(.ov (f q.c),.ov (some (.str S tS))),(.b false,.b false)]) (sgR K b 85 (X85 K f S tS) q pos 45 tp85f D Z O):=by
 obtain⟨_,b1⟩:=K
 cases b1<;>kernel_rfl
def b3P(tab:Int->Option Str)(c:Nat):Str:=match tab c with
 |some S=>S
 |none=>low1 c
def YX{K:Wd}{W:List (Code × Pos)}{m:Nat}{tl:zb}{f:Int->Option Value}{S:Str}{tS:Tok}(h:Obj.IntDict (o_40 K.P K.V) f):∀F,Under (cfg K.P K.V W m tl) F->∀e E,nth (X85 K f S tS) e=some E->ExtOk (cfg K.P K.V W m tl) K.w F E:=λF U=>
 (AllOk.cons zn (.cons (.leaf U (vQ h)) (.cons (.leaf U Yf) .nil))).nth
def T8{K:Wd}{S:Nat->Int->Bool}{f:Int->Option Value}{tab:Int->Option Str}(T:TopOk K S f tab){tl:zb}(htl:∀p∈tl,p.2.isFreed=false)(b:Bag)(q:SgQ)(pos:Pos)(hs:(b3P tab q.c).cps.size<=1000) :
  Seg K (WK ([1,0,0,3],b)) ⟨denF (sgC 85 q.c q.t),sgC 85 q.c q.t,pos,[],(q.y,q.o)::tl⟩ (SgE q tl λv=>∃t,v=.str (b3P tab q.c) t):=by
 have h:=T.tab q.c
 unfold b3P at hs ⊢
 cases hf:f q.c with
 |none=>
  rw[hf] at h
  dsimp only at h
  rw[h] at hs ⊢
  exact zR htl (YX T.d40) (QX K b q f (low1 q.c) 0 pos) (za rfl (za (zc hs) (za (by rw[hf]) (za rfl zd)))) (λZ=>⟨_,rfl⟩)
 |some v=>
  rw[hf] at h
  obtain⟨S,t,rfl,e⟩:=h
  rw[e]
  exact zR htl (YX T.d40) (QY K b q f S t pos) (za (by rw[hf]) (za rfl zd)) (λZ=>⟨_,rfl⟩)
def xSgT(n:Nat)(g:Nat->Str)(S:Str):Ext:=fnX 1 (λ_=>0) (shk [[1,0,0,3]]) sgRd (λ_ _ q=>sgC n q.c q.t) (λ_ _ q=>[(q.y,q.o)]) (λ_ _ q=>[(.s (g q.c),.s S),small (g q.c).cps.size])
 (λ_ _ q _ t=>⟨.ok (.ret (.str S (t.tok 0))),[q.o],[]⟩)
def Wq{K:Wd}{W:List (Code × Pos)}{n m:Nat}{tl:zb}{F:List Frame}{g:Nat->Str}{S:Str}(U:Under (cfg K.P K.V W n tl) F)(htl:∀p∈tl,p.2.isFreed=false)
  (H:∀(b:Bag) (q:SgQ) (pos:Pos),(g q.c).cps.size<=1000->Seg K (WK ([1,0,0,3],b)) ⟨denF (sgC m q.c q.t),sgC m q.c q.t,pos,[],(q.y,q.o)::tl⟩ (SgE q tl λv=>∃t,v=.str (g q.c) t)):ExtOk (cfg K.P K.V W n tl) K.w F (xSgT m g S):=by
 refine ExtOk.fn U htl WK (λx=>x.1∈[[1,0,0,3]]) (λwh x h=>z8 h) (λd c objs x q xs t h=>rfl) ?_
 rintro d ⟨ks,b⟩ q hk hpc _ pos
 have hk:ks=[1,0,0,3]:=by simpa using hk
 subst hk
 have e:=LV.s.inj (hpc _ (.head _))
 have hz:=of_decide_eq_true (LV.b.inj (hpc _ (.tail _ (.head _))))
 refine(H b q pos hz).mono ?_
 rintro s ⟨v,⟨t,rfl⟩,h1,h2,h3⟩
 refine⟨[],.of t,rfl,rfl,?_,h2,?_⟩
 ·rw[h1,e];rfl
 ·rw[h3];rfl
noncomputable def signV(x:Option Nat):Option Value:=match x with
 |some c=>some (.int (.ofNat c) 0)
 |none=>none
def xr{x:Option Nat}{c:Nat}(h:LV.ov (signV x)=.ov (some (.int (.ofNat c) 0))):x=some c:=by
 have h:=LV.ov.inj h
 cases x with
 |none=>cases h
 |some c'=>
  simp only[signV,Option.some.injEq,Value.int.injEq,Int.ofNat_eq_natCast,Int.natCast_inj,and_true] at h
  rw[h]
def wa{x:Option Nat}(h:LV.ov (signV x)=.ov none):x=none:=by
 have h:=LV.ov.inj h
 cases x with
 |none=>rfl
 |some c'=>cases h
structure SiM where
 a:Addr
 dd:Option Addr
 x:Str
 tx:Tok
 i:Nat
 ti:Tok
 sl:Array (Option Value)
noncomputable def SiM.o(T:String)(u:SiM):Addr × Obj:=(u.a,⟨.type T,u.dd,.fields #[.str u.x u.tx,.int (.ofNat u.i) u.ti],u.sl⟩)
def rdSi(l:zb):SiM:=⟨obA l 0,(obO l 0).dict,sV (vAt (flO (obO l 0)) 0),tkV (vAt (flO (obO l 0)) 0),(iV (vAt (flO (obO l 0)) 1)).toNat,tkV (vAt (flO (obO l 0)) 1),(obO l 0).slots⟩
def xSNext(c:Nat):Ext:=cnX 1 k2 (λ_ _ l=>rdSi l) (λ_ u=>.call (.builtin "str_iterator.__next__") ⟨[.ref u.a],[]⟩) (λ_ u=>[u.o "str_iterator"]) (λd u=>[(.ov (signV u.x.cps[u.i]?),.ov (match is1 d with|true=>some (.int (.ofNat c) 0)|false=>none))]) (λd u xs t=>match is1 d with
  |true=>⟨.ok (.ret (.str ⟨#[c]⟩ (t.tok 0))),[⟨.type "str_iterator", u.dd,.fields #[.str u.x u.tx,.int (.ofNat (u.i+1)) 0],u.sl⟩],[]⟩
  |false=>⟨.error (.ref (xs.tail.headD 0)),[⟨.type "str_iterator", u.dd,.fields #[.none,.int (.ofNat u.i) u.ti],u.sl⟩],[tup0,stopO (xs.headD 0)]⟩)
def wJ{w:World}{tl:zb}{c:Nat}:LeafOk w tl (xSNext c):=by
 refine zt λprog s d ⟨a,dd,x,tx,i,ti,sl⟩ wh gs hg _ hp=>?_
 have ha:=hg _ (.head _)
 have hv:=hp _ (.head _)
 unfold SiM.o at ha
 unfold k2
 dsimp only at hv ha ⊢
 generalize is1 d=z at hv ⊢
 cases z with
 |true=>
  have hv:x.cps[i]?=some c:=xr hv
  refine⟨[],.of s.toks,{ s with heap:=s.heap.update a (Obj.mapFields λfs=>fs.setIfInBounds 1 (rawInt ((i:Int)+1))),toks:=s.toks+1 },rfl,zh,xo PySem.F.slot_str_iterator_next PySem.F.entry_str_iterator_next ha rfl (PySem.F.args_str_iterator_next_1 _) ?_,Eff.upd (tk:=s.toks+1) ha (by simp[Obj.mapFields,rawInt]) rfl⟩
  show wpAny _ _ (field (.ref a) 0 >>= _) _ _ s
  refine wpAny_bind (wpAny_field ha rfl (x:=.str x tx) rfl ?_)
  show wpAny _ _ (field (.ref a) 1 >>= _) _ _ s
  refine wpAny_bind (wpAny_field ha rfl (x:=.int i ti) rfl ?_)
  simp only[Int.toNat_natCast,hv]
  refine wpAny_bind (wpAny_setField ha rfl (by simp) (wpAny_bind (wpAny_mkStr (wpAny_pure ⟨_,rfl,?_,rfl⟩))))
  rfl
 |false=>
  have hv:x.cps[i]?=none:=wa hv
  refine⟨[s.heap.objs.size,s.heap.objs.size+1],.of 0,{ s with heap:=((s.heap.update a (Obj.mapFields λfs=>fs.setIfInBounds 0 .none)).push tup0).push (stopO s.heap.objs.size) },rfl,ym,xo PySem.F.slot_str_iterator_next PySem.F.entry_str_iterator_next ha rfl (PySem.F.args_str_iterator_next_1 _) ?_,Eff.upd_push2 (tk:=s.toks) ha (by simp[Obj.mapFields]) rfl rfl rfl⟩
  show wpAny _ _ (field (.ref a) 0 >>= _) _ _ s
  refine wpAny_bind (wpAny_field ha rfl (x:=.str x tx) rfl ?_)
  show wpAny _ _ (field (.ref a) 1 >>= _) _ _ s
  refine wpAny_bind (wpAny_field ha rfl (x:=.int i ti) rfl ?_)
  simp only[Int.toNat_natCast,hv]
  refine wpAny_bind (wpAny_rule (wpAny_bind (wpAny_setField ha rfl (by simp) (wpAny_bind (wpAny_letGo ?_)))))
  refine xS ⟨?_,?_⟩
  ·simp
  ·simp
def llFor:Stmt:=sAt (fnBody (topS 26)) 1
def llEnv(a0:Addr):Env:={ scope:=fnScope (topS 26),locals:=a0,globals:=3,cells:=[],qual:=⟨#[95,108,97,119,95,108,97,105,100,46,60,108,111,99,97,108,115,62,46]⟩,func:=some 357,code:=.ref 356,frame:=some a0,builtins:=0 }
def llLoop(a0 it:Addr):Code:=.forLoop (forT llFor) (.ref it) (forB llFor) (forO llFor) (llEnv a0)
noncomputable def sText:Str:=⟨#[116,101,120,116]⟩
noncomputable def sRoom:Str:=⟨#[114,111,111,109]⟩
noncomputable def sWidth:Str:=⟨#[119,105,100,116,104]⟩
noncomputable def sMaker:Str:=⟨#[109,97,107,101,114]⟩
noncomputable def sSign:Str:=⟨#[115,105,103,110]⟩
noncomputable def sBar:Str:=⟨#[105,115,95,98,97,114,114,101,100]⟩
structure LlF where
 a0:Addr
 it:Addr
 t:Nat->Tok
 tx:Str
 tT:Tok
 rm:Int
 tR:Tok
 wd:Int
 tW:Tok
inductive LlX where
 |no
 |s (v:Value) (t:Tok)
 |sb (v:Value) (t:Tok) (b:Value) (t2:Tok)
def LlX.ents(P:Params):LlX->List DictEntry
 | .no=>[]
 | .s v t=>[ent P sSign t v]
 | .sb v t b t2=>[ent P sSign t v,ent P sBar t2 b]
noncomputable def LlX.n:LlX->Nat
 | .no=>4
 | .s ..=>5
 | .sb ..=>6
def LlF.o(q:LlF)(P:Params)(fa:Addr)(x:LlX):Addr × Obj:=(q.a0,frameO ([ent P sText (q.t 0) (.str q.tx q.tT),ent P sRoom (q.t 1) (.int q.rm q.tR),ent P sWidth (q.t 2) (.int q.wd q.tW),ent P sMaker (q.t 3) (.ref fa)]++x.ents P) x.n)
noncomputable def sIt(x:Str)(tx:Tok)(i:Nat):Obj:=⟨.type "str_iterator", none,.fields #[.str x tx,.int (.ofNat i) 0],#[]⟩
structure LlQ where
 f:Fm
 ps:List Part
 g:LlF
 x:LlX
 i:Nat
 c:Nat
 S:Str
def LlQ.fm(q:LlQ):Fm:=q.f.far.puts (partsArr q.ps)
def llXs(S:Nat->Int->Bool)(tab:Int->Option Str)(q:LlQ):List Ext:=[xSNext q.c,xSgB 99 c4P,xSgB 92 c11P,xSgB 39 (λc=>S 29 c),xSgB 111 (λc=>S 101 c),xSgB 123 (λc=>S 113 c),xSgB 147 (λc=>S 137 c),xSgB 165 (λc=>S 155 c),xSgT 85 (b3P tab) q.S]
def llS(K:Wd)(b:Bag)(S:Nat->Int->Bool)(tab:Int->Option Str)(q:LlQ)(pos:Pos):Start:=mkS K (WK ([0,0,3],b)) 9 [] (llXs S tab q)
 ([q.g.o K.P q.f.far.fa q.x,(q.g.it,sIt q.g.tx q.g.tT q.i)]++q.fm.slots K.P K.V) (llLoop q.g.a0 q.g.it) pos
noncomputable def LlX.sign(x:LlX)(v:Value)(t:Tok):LlX:=match x with
 | .no=>.s v t
 | .s _ t0=>.s v t0
 | .sb _ t0 b t2=>.sb v t0 b t2
noncomputable def LlX.bar(x:LlX)(b:Value)(t:Tok):LlX:=match x with
 | .no=>.no
 | .s v t0=>.sb v t0 b t
 | .sb v t0 _ t2=>.sb v t0 b t2
section
variable (K:Wd) (b:Bag) (S:Nat->Int->Bool) (tab:Int->Option Str) (q:LlQ) (pos:Pos) (D:Nat->Addr) (Z:Nat->Ch) (O:Nat->Nat)
def llR(N:Nat)(tp:List Nat):Option Out:=(llS K b S tab q pos).run D Z O N tp
def llE(x:LlX)(cur:Sem PySem.Fin)(p:Pos)(pc:Lg):Exp:=⟨cur,llLoop q.g.a0 q.g.it,p,[],[q.g.o K.P q.f.far.fa x,(q.g.it,sIt q.g.tx q.g.tT (q.i+1))]++q.fm.slots K.P K.V,[],pc⟩
noncomputable def LlQ.x1:LlX:=q.x.sign (.str ⟨#[q.c]⟩ ((Z 0).tok 0)) ((Z 1).tok 0)
def LlQ.pcN:LV × LV:=(.ov (signV q.g.tx.cps[q.i]?),.ov (some (.int (.ofNat q.c) 0)))
noncomputable def pcT(t b:Bool):LV × LV:=(.b t,.b b)
noncomputable def markL:List Value:=[.builtin "lifetime.plain-call#mark"]
noncomputable def tpLl:List Nat:=[15,1,1,15,17,8,6,17,198,2]
noncomputable def tpLlM:List Nat:=[15,17,13,476,476,474,13,476,476,474,13,476,476,474]
def tpLlN:List Nat:=tpLl++[1]++tpLlM++[400,13,11,400]
def tpLl11:List Nat:=tpLl++[0,15,6,17,184,3,1]++tpLlM++[414,13,11,414]
def tpLlB:List Nat:=tpLl++[0,15,6,17,184,3,0,15,6,17,78,4,1,15]
def tpLlC(k:List Nat):List Nat:=tpLl++[0,15,6,17,184,3,0,15,6,17,78,4,0,15]++k++[17,8,17,13,476,476,474,13,476,476,474,13,476,476,474,470,13,11,17,6,17,170,9,0,15,470]
noncomputable def tpC6(d:Nat):List Nat:=[6,17,222,5,d,15]
def tpC7(d:Nat):List Nat:=tpC6 0++[6,17,246,6,d,15]
def tpC8(d:Nat):List Nat:=tpC7 0++[6,17,294,7,d,15]
def tpC9(d:Nat):List Nat:=tpC8 0++[6,17,330,8,d,15]
def LlQ.pcA:Lg:=[pcT (c11P q.c) false,pcT (c4P q.c) false,q.pcN]
def LlQ.pcB:Lg:=pcT (S 29 q.c) false::q.pcA
def LlQ.pcS:Lg:=[(.s (b3P tab q.c),.s q.S),small (b3P tab q.c).cps.size]
def llEC(N:Nat)(tp:List Nat)(p:Pos)(x:LlX)(c:Code)(pc:Lg):Exp:=llE K q x (.call c none false markL (kOf (llR K b S tab q pos D Z O N tp))) p pc
def llECh(N:Nat)(tp:List Nat)(k:Nat)(bar:Bool)(F:Str)(pc:Lg):Exp:=
 llEC K b S tab q pos D Z O N tp ⟨208,12,208,77⟩ ((q.x1 Z).bar (.bool bar) ((Z (4+k)).tok 0)) (acC q.f.far.fa F ((Z (5+k)).tok 0) q.S ((Z (6+k)).tok 0)) (q.pcS tab++pc++q.pcB S)
end
noncomputable def selL:List Nat:=[0,1,2,3,4,5,6,7,8]
section
variable (K:Wd) (b:Bag) (S:Nat->Int->Bool) (tab:Int->Option Str) (q:LlQ) (pos:Pos) (D:Nat->Addr) (Z:Nat->Ch) (O:Nat->Nat)
theorem RI:lhs 9 selL (llR K b S tab q pos D Z O 42 tpLlN)=rhs 0 (llEC K b S tab q pos D Z O 42 tpLlN ⟨203,12,203,27⟩ (q.x1 Z) (nlC q.f.far.fa) [pcT (c4P q.c) true,q.pcN]) (llR K b S tab q pos D Z O 42 tpLlN):=by
 obtain⟨_,b1⟩:=K
 obtain⟨f,ps,g,x,i,c,st⟩:=q
 cases b1<;>cases x<;>kernel_rfl
theorem Tf:lhs 9 selL (llR K b S tab q pos D Z O 52 tpLl11)=rhs 0 (llEC K b S tab q pos D Z O 52 tpLl11 ⟨205,12,205,34⟩ (q.x1 Z) (adC q.f.far.fa) [pcT (c11P q.c) true,pcT (c4P q.c) false,q.pcN]) (llR K b S tab q pos D Z O 52 tpLl11):=by
 obtain⟨_,b1⟩:=K
 obtain⟨f,ps,g,x,i,c,st⟩:=q
 cases b1<;>cases x<;>kernel_rfl
theorem RK:lhs 9 selL (llR K b S tab q pos D Z O 40 tpLlB)=rhs 0 (llE K q (q.x1 Z) (.pure (.again (llLoop q.g.a0 q.g.it))) ⟨206,17,206,34⟩ (pcT (S 29 q.c) true::q.pcA)) (llR K b S tab q pos D Z O 40 tpLlB):=by
 obtain⟨_,b1⟩:=K
 obtain⟨f,ps,g,x,i,c,st⟩:=q
 cases b1<;>cases x<;>kernel_rfl
theorem RP:lhs 9 selL (llR K b S tab q pos D Z O 117 (tpLlC (tpC9 0)))=rhs 0 (llECh K b S tab q pos D Z O 117 (tpLlC (tpC9 0)) 5 false ⟨#[]⟩ [pcT (S 155 q.c) false,pcT (S 137 q.c) false,pcT (S 113 q.c) false,pcT (S 101 q.c) false]) (llR K b S tab q pos D Z O 117 (tpLlC (tpC9 0))):=by
 obtain⟨_,b1⟩:=K
 obtain⟨f,ps,g,x,i,c,st⟩:=q
 cases b1<;>cases x<;>kernel_rfl
theorem RO:lhs 9 selL (llR K b S tab q pos D Z O 91 (tpLlC (tpC6 1)))=rhs 0 (llECh K b S tab q pos D Z O 91 (tpLlC (tpC6 1)) 2 true spc [pcT (S 101 q.c) true]) (llR K b S tab q pos D Z O 91 (tpLlC (tpC6 1))):=by
 obtain⟨_,b1⟩:=K
 obtain⟨f,ps,g,x,i,c,st⟩:=q
 cases b1<;>cases x<;>kernel_rfl
theorem RN:lhs 9 selL (llR K b S tab q pos D Z O 100 (tpLlC (tpC7 1)))=rhs 0 (llECh K b S tab q pos D Z O 100 (tpLlC (tpC7 1)) 3 true spc [pcT (S 113 q.c) true,pcT (S 101 q.c) false]) (llR K b S tab q pos D Z O 100 (tpLlC (tpC7 1))):=by
 obtain⟨_,b1⟩:=K
 obtain⟨f,ps,g,x,i,c,st⟩:=q
 cases b1<;>cases x<;>kernel_rfl
theorem RM:lhs 9 selL (llR K b S tab q pos D Z O 109 (tpLlC (tpC8 1)))=rhs 0 (llECh K b S tab q pos D Z O 109 (tpLlC (tpC8 1)) 4 true spc [pcT (S 137 q.c) true,pcT (S 113 q.c) false,pcT (S 101 q.c) false]) (llR K b S tab q pos D Z O 109 (tpLlC (tpC8 1))):=by
 obtain⟨_,b1⟩:=K
 obtain⟨f,ps,g,x,i,c,st⟩:=q
 cases b1<;>cases x<;>kernel_rfl
theorem RL:lhs 9 selL (llR K b S tab q pos D Z O 117 (tpLlC (tpC9 1)))=rhs 0 (llECh K b S tab q pos D Z O 117 (tpLlC (tpC9 1)) 5 true spc [pcT (S 155 q.c) true,pcT (S 137 q.c) false,pcT (S 113 q.c) false,pcT (S 101 q.c) false]) (llR K b S tab q pos D Z O 117 (tpLlC (tpC9 1))):=by
 obtain⟨_,b1⟩:=K
 obtain⟨f,ps,g,x,i,c,st⟩:=q
 cases b1<;>cases x<;>kernel_rfl
theorem ll_W:shk [[1,0,0,3]] ((llLoop q.g.a0 q.g.it,pos)::WK ([0,0,3],b))=some ([1,0,0,3],bagOf ((llLoop q.g.a0 q.g.it,pos)::WK ([0,0,3],b))):=by kernel_rfl
end
noncomputable def pt1(t:Sem PySem.Fin):Option (Sem PySem.Fin):=match t with
 | .point _ k=>some (k ())
 | _=>none
def UP{t df:Sem PySem.Fin}(h:pt1 t=some df):∃l k,t=.point l k/\k ()=df:=by
 cases t with
 |point l k=>exact⟨l,k,rfl,Option.some.inj h⟩
 | _=>exact zr h
def Seg.point{K:Wd}{W:List (Code × Pos)}{t df:Sem PySem.Fin}{code:Code}{pos:Pos}{fs:List Frame}{T:zb}{B:St->Prop}(h:pt1 t=some df)(hs:Seg K W ⟨df,code,pos,fs,T⟩ B):Seg K W ⟨t,code,pos,fs,T⟩ B:=λs F U R=>by
 obtain⟨l,k,rfl,rfl⟩:=UP h
 obtain⟨b,s',hb,c,r,k₁,o₁⟩:=hs s F U R
 exact⟨b,s',hb,.step (step_point ..) c,r,k₁,o₁⟩
section
variable (K:Wd) (b:Bag) (S:Nat->Int->Bool) (tab:Int->Option Str) (q:LlQ) (pos:Pos) (D:Nat->Addr) (Z:Nat->Ch) (O:Nat->Nat)
theorem RQ:pt1 (kOf (llR K b S tab q pos D Z O 42 tpLlN) (.ok (.ret .none)))=some (.pure (.again (llLoop q.g.a0 q.g.it))):=by
 obtain⟨_,b1⟩:=K
 obtain⟨f,ps,g,x,i,c,st⟩:=q
 cases b1<;>cases x<;>kernel_rfl
theorem Tg:pt1 (kOf (llR K b S tab q pos D Z O 52 tpLl11) (.ok (.ret .none)))=some (.pure (.again (llLoop q.g.a0 q.g.it))):=by
 obtain⟨_,b1⟩:=K
 obtain⟨f,ps,g,x,i,c,st⟩:=q
 cases b1<;>cases x<;>kernel_rfl
theorem RW:pt1 (kOf (llR K b S tab q pos D Z O 117 (tpLlC (tpC9 0))) (.ok (.ret .none)))=some (.pure (.again (llLoop q.g.a0 q.g.it))):=by
 obtain⟨_,b1⟩:=K
 obtain⟨f,ps,g,x,i,c,st⟩:=q
 cases b1<;>cases x<;>kernel_rfl
theorem RV:pt1 (kOf (llR K b S tab q pos D Z O 91 (tpLlC (tpC6 1))) (.ok (.ret .none)))=some (.pure (.again (llLoop q.g.a0 q.g.it))):=by
 obtain⟨_,b1⟩:=K
 obtain⟨f,ps,g,x,i,c,st⟩:=q
 cases b1<;>cases x<;>kernel_rfl
theorem RU:pt1 (kOf (llR K b S tab q pos D Z O 100 (tpLlC (tpC7 1))) (.ok (.ret .none)))=some (.pure (.again (llLoop q.g.a0 q.g.it))):=by
 obtain⟨_,b1⟩:=K
 obtain⟨f,ps,g,x,i,c,st⟩:=q
 cases b1<;>cases x<;>kernel_rfl
theorem RT:pt1 (kOf (llR K b S tab q pos D Z O 109 (tpLlC (tpC8 1))) (.ok (.ret .none)))=some (.pure (.again (llLoop q.g.a0 q.g.it))):=by
 obtain⟨_,b1⟩:=K
 obtain⟨f,ps,g,x,i,c,st⟩:=q
 cases b1<;>cases x<;>kernel_rfl
theorem RR:pt1 (kOf (llR K b S tab q pos D Z O 117 (tpLlC (tpC9 1))) (.ok (.ret .none)))=some (.pure (.again (llLoop q.g.a0 q.g.it))):=by
 obtain⟨_,b1⟩:=K
 obtain⟨f,ps,g,x,i,c,st⟩:=q
 cases b1<;>cases x<;>kernel_rfl
end
noncomputable def rowsLen(rows:List Str):Int:=(rows.map λr=>(r.length:Int)).sum
structure LnInv (i:Nat) (z:LnSt):Prop where
 n0:0<=z.n
 n3:z.n<=3
 tx:z.tx.length<=i
 rows:z.rows.length<=i
 ok:∀t∈z.tx,TxOk t
 len:txLen z.tx+rowsLen z.rows<=4*i
def SignOk(tab:Int->Option Str)(c:Nat):Prop:=∃sk:SK,b3P tab c=sk.str/\(sk≠.s0->sk.last≠32)
def SignQ(S:Nat->Int->Bool)(tab:Int->Option Str)(c:Nat):Prop:=c4P c=false->c11P c=false->S 29 c=false->SignOk tab c
noncomputable def barP(S:Nat->Int->Bool)(c:Nat):Bool:=S 101 c || S 113 c || S 137 c || S 155 c
def signStep(S:Nat->Int->Bool)(tab:Int->Option Str)(wd:Int)(z:LnSt)(c:Nat):LnSt:=
 if c4P c then ⟨0,[],nlRows z.n z.tx z.rows⟩
 else if c11P c then ⟨z.n,z.tx++[(spc,⟨#[]⟩)],z.rows⟩
 else if S 29 c then z
 else chunkP wd z (if barP S c then spc else ⟨#[]⟩) (b3P tab c)
structure FmZ (f0 f:Fm) (ps:List Part) (rl:List (Str × Tok)) (z:LnSt):Prop where
 same:FmSame f0 f
 xs:f.c.xs=partsArr ps
 rw:f.rows=rowsArr rl
 n:f.q.n=z.n
 tx:txs ps=z.tx
 rows:rl.map (·.1)=z.rows
def LlT(K:Wd)(f:Fm)(ps:List Part)(g:LlF)(x:LlX)(i:Nat):zb:=([g.o K.P f.far.fa x,(g.it,sIt g.tx g.tT i)]++f.far.slots K.P K.V)++partsTail ps
def z9(r:List Str):0<=rowsLen r:=by
 unfold rowsLen
 induction r with
 |nil=>simp
 |cons p t ih=>simp only[List.map_cons,List.sum_cons];lia
def ue{r:List Str}{s:Str}(h:s∈r):(s.length:Int)<=rowsLen r:=by
 unfold rowsLen
 induction r with
 |nil=>cases h
 |cons p t ih=>
  simp only[List.map_cons,List.sum_cons]
  have:=z9 t
  unfold rowsLen at this
  rcases List.mem_cons.mp h with rfl|h
  ·lia
  ·have:=ih h;lia
def TxOk.len{t:Str × Str}(h:TxOk t):(t.1.length:Int)+t.2.length<=4:=by
 obtain⟨h1,sk,h2,_⟩:=h
 have e1:t.1.length<=1:=by rcases h1 with h|h<;>rw[h]<;>decide
 have e2:t.2.length<=3:=by rw[h2];cases sk<;>simp[SK.str,Str.length]
 lia
def x6{tx:List (Str × Str)}(h:∀t∈tx,TxOk t):txSmall tx=true:=by
 unfold txSmall
 rw[List.all_eq_true]
 intro t ht
 have:=(h t ht).len
 simp only[Bool.and_eq_true,decide_eq_true_eq]
 lia
theorem uw:∀(l:List Str) (a:Array Nat),(l.foldl (λacc p=>acc++p.cps) a).toList=a.toList++l.flatMap (·.cps.toList)
 |[],a=>by simp
 |x::r,a=>by rw[List.foldl_cons,uw r];simp
theorem xy:∀l:List Str,(Txt.join ⟨#[]⟩ l).cps.toList=l.flatMap (·.cps.toList)
 |[]=>rfl
 |[x]=>by simp[Txt.join,Builtin.Str.glued]
 |x::y::r=>by
  have:=uw r (x.cps++y.cps)
  simp[Txt.join,Builtin.Str.glued,this]
def yK(tx:List (Str × Str)):(txText tx).cps.toList=tx.flatMap λp=>p.1.cps.toList++p.2.cps.toList:=by
 unfold txText
 rw[xy,List.flatMap_map]
 simp[cat]
def z6(tx:List (Str × Str)):((txText tx).length:Int)=txLen tx:=by
 have h:(txText tx).length=(txText tx).cps.toList.length:=by simp[Str.length]
 rw[h,yK]
 clear h
 induction tx with
 |nil=>rfl
 |cons p t ih=>
  have e:txLen (p::t)=((p.1.length:Int)+p.2.length)+txLen t:=by simp[txLen]
  rw[e,<-ih,List.flatMap_cons,List.length_append,List.length_append]
  simp[Str.length]
def zL(a b:List Str):rowsLen (a++b)=rowsLen a+rowsLen b:=by
 unfold rowsLen;rw[List.map_append,List.sum_append]
def vF(x y:Str):(cat x y).length=x.length+y.length:=by simp[cat,Str.length]
def y4(n:Int)(tx:List (Str × Str))(rows:List Str):rowsLen (nlRows n tx rows)<=rowsLen rows+txLen tx/\(nlRows n tx rows).length<=rows.length+1:=by
 have h1:=xt tx
 have h2:=zs tx
 have one:∀s:Str,rowsLen [s]=s.length:=λs=>by simp[rowsLen]
 have e:=z6 (norm1 tx)
 unfold nlRows
 split
 ·split
  ·cases hl:rows.getLast? with
   |none=>
    have:rows=[]:=by simpa using hl
    subst this
    refine⟨?_,by simp⟩
    dsimp only
    rw[one,e]
    simp[rowsLen];exact h1
   |some R=>
    obtain⟨l,rfl⟩:∃l,rows=l++[R]:=by
     rw[List.getLast?_eq_some_iff] at hl;exact hl
    dsimp only
    rw[List.dropLast_concat,zL,zL,one,one,vF]
    exact⟨by lia,by simp⟩
  ·rw[zL,one,e]
   exact⟨by lia,by simp⟩
 ·exact⟨by lia,by lia⟩
def TxOk.mk'{tab:Int->Option Str}{c:Nat}(h:SignOk tab c){F:Str}(hF:F=spc\/F=⟨#[]⟩):TxOk (F,b3P tab c):=⟨hF,h⟩
def Ty(i:Nat):(4*((i+1:Nat):Int))=4*i+4:=by rw[Int.natCast_add,Int.mul_add];rfl
def vw{t r o:Int}{i:Nat}(h:t+r<=4*i)(ho:o<=4):t+o+r<=4*((i+1:Nat):Int):=by
 rw[Int.add_right_comm,Ty]
 exact Int.add_le_add h ho
def ZJ{t:Int}{i:Nat}(h:t<=4*i):t<=4*((i+1:Nat):Int):=by
 rw[Ty]
 exact Int.le_trans h (Int.le_add_of_nonneg_right (by decide))
def LnInv.step{S:Nat->Int->Bool}{tab:Int->Option Str}{wd:Int}{i:Nat}{z:LnSt}{c:Nat}(I:LnInv i z)(h:SignQ S tab c):LnInv (i+1) (signStep S tab wd z c):=by
 obtain⟨n0,n3,tx,rows,ok,len⟩:=I
 have hr0:=z9 z.rows
 have ht0:=zs z.tx
 unfold signStep
 split
 ·have hn:=y4 z.n z.tx z.rows
  refine⟨Int.le_refl 0,(by decide:(0:Int)<=3),Nat.zero_le _,?_,λt ht=>by simp at ht,?_⟩
  ·show (nlRows _ _ _).length<=_
   exact Nat.le_trans hn.2 (Nat.succ_le_succ rows)
  ·show txLen []+rowsLen (nlRows _ _ _)<=_
   have:txLen []=0:=rfl
   rw[this,Int.zero_add]
   exact Int.le_trans hn.1 (ZJ (by rw[Int.add_comm];exact len))
 ·split
  ·refine⟨n0,n3,by rw[List.length_append];exact Nat.succ_le_succ tx,Nat.le_succ_of_le rows,λt ht=>?_,?_⟩
   ·rcases List.mem_append.mp ht with ht|ht
    ·exact ok t ht
    ·rw[List.mem_singleton] at ht;subst ht
     exact⟨.inl rfl,.s0,rfl,λh=>absurd rfl h⟩
   ·show txLen (z.tx++_)+rowsLen z.rows<=_
    rw[zw]
    have:txLen [(spc,(⟨#[]⟩:Str))]=1:=by simp[txLen,spc,Str.length]
    exact vw len (Int.le_trans (Int.le_of_eq this) (by decide))
  ·split
   ·exact⟨n0,n3,Nat.le_succ_of_le tx,Nat.le_succ_of_le rows,ok,ZJ len⟩
   ·rename_i g1 g2 g3
    have h:=h (by simpa using g1) (by simpa using g2) (by simpa using g3)
    have hF:(if barP S c then spc else (⟨#[]⟩:Str))=spc\/(if barP S c then spc else (⟨#[]⟩:Str))=⟨#[]⟩:=by split<;>simp
    generalize (if barP S c then spc else (⟨#[]⟩:Str))=F at hF
    have hT:=TxOk.mk' h hF
    have hT':=TxOk.mk' h (F:=spc) (.inl rfl)
    have l1:=hT.len
    have l2:=hT'.len
    generalize b3P tab c=B at hT hT' l1 l2
    have all:∀t∈z.tx++[(F,B)],TxOk t:=λt ht=>by
     rcases List.mem_append.mp ht with ht|ht
     ·exact ok t ht
     ·rw[List.mem_singleton] at ht;subst ht;exact hT
    have o1:txLen [(F,B)]<=4:=by simpa [txLen] using l1
    have o2:txLen [(spc,B)]<=4:=by simpa [txLen] using l2
    have plain:LnInv (i+1) ⟨z.n,z.tx++[(F,B)],z.rows⟩:=⟨n0,n3,by rw[List.length_append];exact Nat.succ_le_succ tx,Nat.le_succ_of_le rows,all,by
     show txLen (z.tx++_)+rowsLen z.rows<=_
     rw[zw];exact vw len o1⟩
    unfold chunkP
    split
    ·cases hj:findBk (fwsAt (z.tx++[(F,B)])) z.tx.length with
     |some j=>
      dsimp only
      have hd:txLen ((z.tx++[(F,B)]).take j)+txLen ((z.tx++[(F,B)]).drop j)=txLen z.tx+txLen [(F,B)]:=by rw[<-zw,List.take_append_drop,zw]
      refine⟨Int.le_refl 0,(by decide:(0:Int)<=3),?_,?_,λt ht=>all t (List.mem_of_mem_drop ht),?_⟩
      ·show ((z.tx++[(F,B)]).drop j).length<=_
       rw[List.length_drop,List.length_append];exact Nat.le_trans (Nat.sub_le _ _) (Nat.succ_le_succ tx)
      ·show (z.rows++[_]).length<=_
       rw[List.length_append];exact Nat.succ_le_succ rows
      ·show txLen ((z.tx++[(F,B)]).drop j)+rowsLen (z.rows++[txText ((z.tx++[(F,B)]).take j)])<=_
       rw[zL]
       have:rowsLen [txText ((z.tx++[(F,B)]).take j)]=txLen ((z.tx++[(F,B)]).take j):=by rw[<-z6];simp[rowsLen]
       rw[this,Int.add_comm (rowsLen z.rows),<-Int.add_assoc,Int.add_comm (txLen (List.drop _ _)),hd]
       exact vw len o1
     |none=>
      dsimp only
      split
      ·have hn:=y4 z.n z.tx z.rows
       refine⟨Int.le_refl 0,(by decide:(0:Int)<=3),by simp,?_,λt ht=>?_,?_⟩
       ·show (nlRows _ _ _).length<=_
        exact Nat.le_trans hn.2 (Nat.succ_le_succ rows)
       ·rw[List.mem_singleton] at ht;subst ht;exact hT'
       ·show txLen [(spc,B)]+rowsLen (nlRows _ _ _)<=_
        refine Int.le_trans (Int.add_le_add o2 hn.1) ?_
        rw[Ty,Int.add_comm 4,Int.add_comm (rowsLen z.rows)]
        exact Int.add_le_add_right len 4
      ·exact plain
    ·exact plain
def Fm.puts_self{f:Fm}{xs:Array Value}(h:f.c.xs=xs):f.far.puts xs=f.far:=by
 obtain⟨fa,fd,la,⟨a,d,xs',ep⟩,q,wd,t,fe,rows,le,m1,m2⟩:=f
 dsimp only at h
 subst h;rfl
def yz:∀p∈([]:zb),p.2.isFreed=false:=λp h=>by cases h
def ZC{K:Wd}{S:Nat->Int->Bool}{f:Int->Option Value}{tab:Int->Option Str}(T:TopOk K S f tab){q:LlQ}{W:List (Code × Pos)}{m:Nat}:∀F,Under (cfg K.P K.V W m []) F->∀e E,nth (llXs S tab q) e=some E->ExtOk (cfg K.P K.V W m []) K.w F E:=λF U=>
 (AllOk.cons (.leaf U wJ) (.cons (yt U yz λb q pos=>TZ yz b q pos) (.cons (yt U yz λb q pos=>VG yz b q pos) (.cons (yt U yz λb q pos=>T9 T yz b q pos) (.cons (yt U yz λb q pos=>TY T yz b q pos)
  (.cons (yt U yz λb q pos=>TX T yz b q pos) (.cons (yt U yz λb q pos=>TW T yz b q pos) (.cons (yt U yz λb q pos=>TM T yz b q pos) (.cons (Wq U yz λb q pos h=>T8 T yz b q pos h) .nil))))))))).nth
def yR{K:Wd}{b:Bag}{S:Nat->Int->Bool}{fd:Int->Option Value}{tab:Int->Option Str}(T:TopOk K S fd tab){q:LlQ}{pos:Pos}(hps:q.f.c.xs=partsArr q.ps){N:Nat}{tp:List Nat}
  {cur:(Nat->Addr)->(Nat->Ch)->(Nat->Nat)->Sem PySem.Fin} {x:(Nat->Ch)->LlX} {p:Pos} {pc:Lg} (hr:∀D Z O,lhs 9 selL (llR K b S tab q pos D Z O N tp)=rhs 0 (llE K q (x Z) (cur D Z O) p pc) (llR K b S tab q pos D Z O N tp)) (hpc:Lg.Ok pc) :
  Seg K (WK ([0,0,3],b)) ⟨denF (llLoop q.g.a0 q.g.it),llLoop q.g.a0 q.g.it,pos,[],LlT K q.f q.ps q.g q.x q.i⟩ (λs=>∃D Z O,s=⟨cur D Z O,llLoop q.g.a0 q.g.it,p,[],LlT K q.f q.ps q.g (x Z) (q.i+1)⟩):=by
 have h:=Seg.run (K:=K) (llS K b S tab q pos) (tl:=[]) rfl rfl (ZC T) _ selL hr (by decide) rfl (by decide) (λ_ _ _=>hpc) (λ_ _ _=>rfl)
 have h2:=Seg.frame (partsTail q.ps) (zj _) h
 rw[List.append_nil] at h2
 have e:(llS K b S tab q pos).T++partsTail q.ps=LlT K q.f q.ps q.g q.x q.i:=by
  unfold LlT llS LlQ.fm
  rw[Fm.puts_self hps];rfl
 dsimp only at h2
 rw[e] at h2
 refine h2.mono ?_
 rintro s ⟨s',⟨D,Z,O⟩⟩
 refine⟨D,Z,O,?_⟩
 unfold llE LlT LlQ.fm
 dsimp only
 rw[Fm.puts_self hps,List.append_nil]
def LlB(K:Wd)(f0:Fm)(g:LlF)(i:Nat)(z:LnSt)(s:St):Prop:=∃f ps rl x p,FmZ f0 f ps rl z/\s=⟨.pure (.again (llLoop g.a0 g.it)),llLoop g.a0 g.it,p,[],LlT K f ps g x i⟩
def yA{K:Wd}{b:Bag}{f0 f:Fm}{ps:List Part}{g:LlF}{x:LlX}{i:Nat}{p:Pos}{c:Code}{k:Result->Sem PySem.Fin}{z:LnSt}(h0:FmSame f0 f)(hk:pt1 (k (.ok (.ret .none)))=some (.pure (.again (llLoop g.a0 g.it))))
  (h:∀b',Seg K (WK ([1,0,0,3],b')) ⟨denF c,c,p,[],f.far.slots K.P K.V++partsTail ps⟩ (ChE K f z)) :
  Seg K (WK ([0,0,3],b)) ⟨.call c none false markL k,llLoop g.a0 g.it,p,[],LlT K f ps g x i⟩ (LlB K f0 g i z):=by
 have eW:=vJ (ll_W b ⟨f,ps,g,x,i,0,⟨#[]⟩⟩ p)
 dsimp only at eW
 have h2:=Seg.frame [g.o K.P f.far.fa x,(g.it,sIt g.tx g.tT i)] (λp hp=>by
  simp only[List.mem_cons,List.not_mem_nil,or_false] at hp
  rcases hp with rfl|rfl<;>rfl) (h (bagOf ((llLoop g.a0 g.it,p)::WK ([0,0,3],b))))
 rw[<-eW] at h2
 refine Seg.call rfl (Seg.perm (a:=⟨_,_,_,[],_⟩) ?_ h2) ?_
 ·unfold LlT
  rw[List.append_assoc]
  exact List.perm_append_comm
 ·rintro s ⟨s',⟨g',ps',rl',e1,e2,e3,e4,e5,e6,e7,e8,e9⟩⟩
  refine⟨e8,.ok (.ret .none),e7,Seg.point hk ?_⟩
  have sm:FmSame f0 g':=⟨e1.fa.trans h0.fa,e1.fd.trans h0.fd,e1.la.trans h0.la,e1.ca.trans h0.ca,e1.cd.trans h0.cd,e1.wd.trans h0.wd⟩
  refine Seg.perm (T:=LlT K g' ps' g x i) ?_ (Seg.refl ⟨g',ps',rl',x,p,⟨sm,e2,e3,e4,e5,e6⟩,rfl⟩)
  show List.Perm (s'.T++_) _
  rw[e9]
  have:f.far.fa=g'.far.fa:=by show f.fa+363=g'.fa+363;rw[e1.fa]
  rw[this]
  unfold LlT
  rw[List.append_assoc [g.o K.P g'.far.fa x,(g.it,sIt g.tx g.tT i)]]
  exact List.perm_append_comm
def U3{K:Wd}{f:Fm}{R:List Str}{s:St}(h:NlE K f R s):ChE K f ⟨0,[],R⟩ s:=by
 obtain⟨g,rl,e1,e2,e3,e4,e5,e6,e7,e8⟩:=h
 exact⟨g,[],rl,e1,e2,e4,e3,rfl,e5,e6,e7,by rw[e8];simp[partsTail]⟩
section
variable {K:Wd} {b:Bag} {S:Nat->Int->Bool} {fd:Int->Option Value} {tab:Int->Option Str} {f0 f:Fm} {ps:List Part} {rl:List (Str × Tok)} {z:LnSt} {i c:Nat}
theorem VV(db:FmZ f0 f ps rl z)(I:LnInv i z)(hi:i<=22):∀p∈rl,p.1.length<=1000:=λp hp=>by
 have h1:p.1∈z.rows:=by rw[<-db.rows];exact List.mem_map_of_mem hp
 have h2:=ue h1
 have h3:=I.len
 have h4:=zs z.tx
 lia
theorem VW(db:FmZ f0 f ps rl z)(I:LnInv i z)(hi:i<=22):rl.length<=22:=by
 have h1:=I.rows
 rw[<-db.rows,List.length_map] at h1
 lia
theorem ug(db:FmZ f0 f ps rl z)(I:LnInv i z)(hi:i<=22):ps.length<=22:=by
 have h1:=I.tx
 rw[<-db.tx] at h1
 unfold txs at h1
 rw[List.length_map] at h1
 lia
theorem vX(db:FmZ f0 f ps rl z)(I:LnInv i z)(hi:i<=22):txLen z.tx<=88:=by
 have h3:=I.len
 have h4:=z9 z.rows
 lia
theorem Xp{tx:List (Str × Str)}(h:∀t∈tx,TxOk t):∀t∈norm1 tx,TxOk t:=λt ht=>by
 unfold norm1 at ht
 split at ht
 ·rw[List.mem_singleton] at ht;subst ht
  exact⟨.inr rfl,.s0,rfl,λh=>absurd rfl h⟩
 ·split at ht
  ·exact h t (List.dropLast_subset _ ht)
  ·exact h t ht
theorem uZ(tx:List (Str × Str)):(norm1 tx).length<=tx.length+1:=by
 unfold norm1
 split
 ·simp
 ·split
  ·simp;lia
  ·lia
theorem Xv(db:FmZ f0 f ps rl z)(I:LnInv i z)(hi:i<=22){ps2:List Part}(h:txs ps2=norm1 (txs ps)):NlH f ps2 rl:=by
 have h1:=xt (txs ps)
 have h2:=zs (norm1 (txs ps))
 have h3:=vX db I hi
 have h4:=I.n0
 have h5:=I.n3
 have h6:=ug db I hi
 have h7:=uZ (txs ps)
 have h8:(txs ps2).length=ps2.length:=by simp[txs]
 have h9:(txs ps).length=ps.length:=by simp[txs]
 have h10:=z6 (norm1 (txs ps))
 rw[db.tx] at h1 h2 h7 h10
 refine⟨?_,?_,?_,?_,?_,?_,VV db I hi⟩
 ·rw[h,db.tx];exact x6 (Xp I.ok)
 ·rw[h,db.tx] at h8;rw[db.tx] at h9;lia
 ·rw[h,db.tx,db.n];lia
 ·rw[h,db.tx,db.n];lia
 ·rw[h,db.tx];lia
 ·have:=VW db I hi;lia
theorem zv{t:Bool}{v:Bool}{l:Lg}(h:t=v)(hl:Lg.Ok l):Lg.Ok (pcT t v::l):=za (by rw[pcT,h]) hl
theorem W2(T:TopOk K S fd tab){g:LlF}{x:LlX}(hc:g.tx.cps[i]?=some c)(hs:SignQ S tab c)(db:FmZ f0 f ps rl z)(I:LnInv i z)(hi:i<=21){pos:Pos} :
  Seg K (WK ([0,0,3],b)) ⟨denF (llLoop g.a0 g.it),llLoop g.a0 g.it,pos,[],LlT K f ps g x i⟩ (LlB K f0 g (i+1) (signStep S tab f0.wd z c)):=by
 let q:LlQ:=⟨f,ps,g,x,i,c,b3P tab c⟩
 have hN:Lg.Ok [q.pcN]:=za (by show LV.ov (signV g.tx.cps[i]?)=_;rw[hc];rfl) zd
 have hps:q.f.c.xs=partsArr q.ps:=db.xs
 have hz:f.q.n=z.n:=db.n
 have hrl:=db.rows
 have htx:=db.tx
 unfold signStep
 cases h4:c4P c with
 |true=>
  rw[if_pos rfl]
  refine(yR T hps (RI K b S tab q pos) (zv h4 hN)).trans ?_
  rintro s ⟨D,Z,O,rfl⟩
  refine yA db.same (RQ K b S tab q pos D Z O) λb'=>?_
  have h:=yN (K:=K) (x:=([1,0,0,3],b')) (f:=f) (ps:=ps) (rl:=rl) (by simp[nxKs]) db.xs db.rw (λps2 h=>Xv db I (by lia) h) (by have:=ug db I (by lia);lia) (pos:=⟨203,12,203,27⟩)
  rw[hz,htx,hrl] at h
  exact h.mono λs hs=>U3 hs
 |false=>
  rw[if_neg (by simp)]
  cases h11:c11P c with
  |true=>
   rw[if_pos rfl]
   refine(yR T hps (Tf K b S tab q pos) (zv h11 (zv h4 hN))).trans ?_
   rintro s ⟨D,Z,O,rfl⟩
   refine yA db.same (Tg K b S tab q pos D Z O) λb'=>?_
   have h:=Yi (K:=K) (b:=b') (f:=f) (ps:=ps) (rl:=rl) db.rw (by have:=ug db I (by lia);lia) (pos:=⟨205,12,205,34⟩)
   rw[hz,htx,hrl,Fm.puts_self db.xs] at h
   exact h
  |false=>
   rw[if_neg (by simp)]
   have hA:Lg.Ok q.pcA:=zv h11 (zv h4 hN)
   cases hb:S 29 c with
   |true=>
    rw[if_pos rfl]
    refine(yR T hps (RK K b S tab q pos) (zv hb hA)).mono ?_
    rintro s ⟨D,Z,O,rfl⟩
    exact⟨f,ps,rl,_,_,db,rfl⟩
   |false=>
    rw[if_neg (by simp)]
    have hs:=hs h4 h11 hb
    have hB:Lg.Ok (q.pcB S):=zv hb hA
    have hsm:(b3P tab c).cps.size<=1000:=by
     obtain⟨sk,e,_⟩:=hs
     rw[e];cases sk<;>simp[SK.str]
    have hS:Lg.Ok (q.pcS tab):=za rfl (za (zc hsm) zd)
    have chunk:∀(F:Str) (tF tS:Tok),(F=spc\/F=⟨#[]⟩)->∀b',Seg K (WK ([1,0,0,3],b')) ⟨denF (acC f.far.fa F tF (b3P tab c) tS),acC f.far.fa F tF (b3P tab c) tS,⟨208,12,208,77⟩,[],f.far.slots K.P K.V++partsTail ps⟩ (ChE K f (chunkP f0.wd z F (b3P tab c))):=λF tF tS hF b'=>by
     have hT:TxOk (F,b3P tab c):=⟨hF,hs⟩
     have hl:=hT.len
     have h:=YM (K:=K) (b:=b') (q:=⟨f,ps,F,tF,b3P tab c,tS,ps.length⟩) (rl:=rl) ⟨rfl,db.xs,db.rw,λt ht=>by
      rcases List.mem_append.mp ht with ht|ht
      ·rw[htx] at ht;exact I.ok t ht
      ·rw[List.mem_singleton] at ht;subst ht;exact hT,x6 λt ht=>by
      rcases List.mem_append.mp ht with ht|ht
      ·rw[htx] at ht;exact I.ok t ht
      ·rw[List.mem_singleton] at ht;subst ht;exact hT,by have:=ug db I (by lia);show ps.length<=39;lia,by show 0<=f.q.n;rw[hz];exact I.n0,by
      show f.q.n+txLen (txs ps++[(F,b3P tab c)]) < 100
      rw[zw,hz,htx]
      have h1:=vX db I (by lia)
      have h2:=I.n3
      have h3:txLen [(F,b3P tab c)]=(F.length:Int)+(b3P tab c).length:=by simp[txLen]
      have h4:=hl
      dsimp only at h4
      lia,by have:=VW db I (by lia);lia,VV db I (by lia)⟩ (pos:=⟨208,12,208,77⟩)
     dsimp only at h
     rw[Fm.puts_self db.xs,hz,htx,hrl,db.same.wd] at h
     exact h
    unfold barP
    cases h6:S 101 c with
    |true=>
     rw[if_pos (by simp)]
     refine(yR T hps (RO K b S tab q pos) (Lg.Ok.app (Lg.Ok.app hS (zv h6 zd)) hB)).trans ?_
     rintro s ⟨D,Z,O,rfl⟩
     exact yA db.same (RV K b S tab q pos D Z O) (chunk _ _ _ (.inl rfl))
    |false=>
     cases h7:S 113 c with
     |true=>
      rw[if_pos (by simp)]
      refine(yR T hps (RN K b S tab q pos) (Lg.Ok.app (Lg.Ok.app hS (zv h7 (zv h6 zd))) hB)).trans ?_
      rintro s ⟨D,Z,O,rfl⟩
      exact yA db.same (RU K b S tab q pos D Z O) (chunk _ _ _ (.inl rfl))
     |false=>
      cases h8:S 137 c with
      |true=>
       rw[if_pos (by simp)]
       refine(yR T hps (RM K b S tab q pos) (Lg.Ok.app (Lg.Ok.app hS (zv h8 (zv h7 (zv h6 zd)))) hB)).trans ?_
       rintro s ⟨D,Z,O,rfl⟩
       exact yA db.same (RT K b S tab q pos D Z O) (chunk _ _ _ (.inl rfl))
      |false=>
       cases h9:S 155 c with
       |true=>
        rw[if_pos (by simp)]
        refine(yR T hps (RL K b S tab q pos) (Lg.Ok.app (Lg.Ok.app hS (zv h9 (zv h8 (zv h7 (zv h6 zd))))) hB)).trans ?_
        rintro s ⟨D,Z,O,rfl⟩
        exact yA db.same (RR K b S tab q pos D Z O) (chunk _ _ _ (.inl rfl))
       |false=>
        rw[if_neg (by simp)]
        refine(yR T hps (RP K b S tab q pos) (Lg.Ok.app (Lg.Ok.app hS (zv h9 (zv h8 (zv h7 (zv h6 zd))))) hB)).trans ?_
        rintro s ⟨D,Z,O,rfl⟩
        exact yA db.same (RW K b S tab q pos D Z O) (chunk _ _ _ (.inr rfl))
end
noncomputable def tpLlE:List Nat:=[15,1,0,15,21]
def RJ(K:Wd)(b:Bag)(S:Nat->Int->Bool)(tab:Int->Option Str)(q:LlQ)(pos:Pos)(D Z O):lhs 9 [2,4,5,6,7,8,9,10] (llR K b S tab q pos D Z O 5 tpLlE) =
  rhs 2 ⟨.pure (.done .next),(eo (llR K b S tab q pos D Z O 5 tpLlE)).code,(eo (llR K b S tab q pos D Z O 5 tpLlE)).pos,[],q.g.o K.P q.f.far.fa q.x::q.fm.slots K.P K.V,[],[(.ov (signV q.g.tx.cps[q.i]?),.ov none)]⟩ (llR K b S tab q pos D Z O 5 tpLlE):=by
 obtain⟨_,b1⟩:=K
 obtain⟨f,ps,g,x,i,c,st⟩:=q
 cases b1<;>cases x<;>kernel_rfl
inductive LlD (K:Wd) (f0:Fm) (g:LlF) (z:LnSt) (s:St):Prop
 |mk (f:Fm) (ps:List Part) (rl:List (Str × Tok)) (x:LlX) (db:FmZ f0 f ps rl z) (h1:s.cur=.pure (.done .next)) (h2:s.fs=[]) (h3:s.T=g.o K.P f.far.fa x::(f.far.slots K.P K.V++partsTail ps)):LlD K f0 g z s
def W3{K:Wd}{b:Bag}{S:Nat->Int->Bool}{fd:Int->Option Value}{tab:Int->Option Str}(T:TopOk K S fd tab){f0:Fm}{g:LlF}(hn:g.tx.cps.size<=22)(hok:∀c∈g.tx.cps.toList,SignQ S tab c) :
  ∀(n i:Nat) (f:Fm) (ps:List Part) (rl:List (Str × Tok)) (x:LlX) (z:LnSt) (pos:Pos),i+n=g.tx.cps.size->FmZ f0 f ps rl z->LnInv i z->
   Seg K (WK ([0,0,3],b)) ⟨denF (llLoop g.a0 g.it),llLoop g.a0 g.it,pos,[],LlT K f ps g x i⟩ (LlD K f0 g ((g.tx.cps.toList.drop i).foldl (signStep S tab f0.wd) z)):=by
 intro c
 induction c with
 |zero=>
  rintro i f ps rl x z pos hi db I
  let q:LlQ:=⟨f,ps,g,x,i,0,⟨#[]⟩⟩
  have hnone:g.tx.cps[i]?=none:=by simp;lia
  have hpc:Lg.Ok [((.ov (signV q.g.tx.cps[q.i]?),.ov none):LV × LV)]:=za (by show LV.ov (signV g.tx.cps[i]?)=_;rw[hnone];rfl) zd
  have h:=Seg.run (K:=K) (llS K b S tab q pos) (tl:=[]) rfl rfl (ZC T) _ [2,4,5,6,7,8,9,10] (RJ K b S tab q pos) (by decide) rfl (by decide) (λ_ _ _=>hpc) (λ_ _ _=>rfl)
  have h2:=Seg.frame (partsTail ps) (zj _) h
  rw[List.append_nil] at h2
  have hps:q.f.c.xs=partsArr q.ps:=db.xs
  have e:(llS K b S tab q pos).T++partsTail ps=LlT K f ps g x i:=by
   unfold LlT llS LlQ.fm
   rw[Fm.puts_self hps];rfl
  dsimp only at h2
  rw[e] at h2
  have ed:g.tx.cps.toList.drop i=[]:=by rw[List.drop_eq_nil_iff];simp;lia
  rw[ed]
  refine h2.mono ?_
  rintro s ⟨s',⟨D,Z,O⟩⟩
  refine⟨f,ps,rl,x,db,rfl,rfl,?_⟩
  show ((_::q.fm.slots K.P K.V)++[])++partsTail ps=_
  unfold LlQ.fm
  rw[Fm.puts_self hps,List.append_nil];rfl
 |succ n IH=>
  rintro i f ps rl x z pos hi db I
  have hlt:i < g.tx.cps.size:=by lia
  have hc:g.tx.cps[i]?=some g.tx.cps[i]:=by simp[hlt]
  have hs:=hok g.tx.cps[i] (by rw[Array.mem_toList_iff];exact Array.getElem_mem hlt)
  have ed:g.tx.cps.toList.drop i=g.tx.cps[i]::g.tx.cps.toList.drop (i+1):=by
   rw[List.drop_eq_getElem_cons (by simpa using hlt)];simp
  rw[ed,List.foldl_cons]
  refine(W2 (b:=b) T hc hs db I (by lia)).trans ?_
  rintro s ⟨f',ps',rl',x',p',Z',rfl⟩
  exact Seg.again rfl (IH (i+1) f' ps' rl' x' _ p' (by lia) Z' (I.step hs))
noncomputable def farA(D:Nat->Addr)(j:Nat):Addr:=D j+363
def Vn{D:Nat->Addr}(h:∀j,363<=D j):D=farA λj=>D j - 363:=funext λj=>(Nat.sub_add_cancel (h j)).symm
def Seg.goF{K:Wd}{W:List (Code × Pos)}{X:List Ext}{n na m:Nat}{tp:List Nat}{T tl:zb}{cur:Sem PySem.Fin}{code:Code}{pos:Pos}{fs:List Frame}
  (hX:∀F,Under (cfg K.P K.V W m tl) F->∀e E,nth X e=some E->ExtOk (cfg K.P K.V W m tl) K.w F E)
  (r:(Nat->Addr)->(Nat->Ch)->(Nat->Nat)->Option Out) (hr:∀D Z O,r D Z O=exec (cfg K.P K.V W m tl) X (farA D) Z O n tp (T++tl) 0 0 [] 0 [] [] cur code pos fs)
  (pc:(Nat->Addr)->(Nat->Ch)->(Nat->Nat)->Lg) (h:∀D Z O,vE (r D Z O)=wE (pc D Z O) na (r D Z O)) (hpc:∀D Z O,Lg.Ok (pc D Z O)) (hT:T.length=m) (hm:0 < m) :
  Seg K W ⟨cur,code,pos,fs,T++tl⟩ (EoE r):=λs F U R=>by
 have dc:=Zf (V:=K.V) (W:=W) (n:=m) (tl:=tl) K.hw hm
 have U':Under (cfg K.P K.V W m tl) F:=U.under rfl
 have R0:Rel (cfg K.P K.V W m tl) (T++tl) [] s:=Rel.cfg (C:=cfg K.P K.V [] 1 []) rfl R
 obtain⟨D,Z,O,hf,H⟩:=Y7 dc U' (hX F U') n tp (T++tl) [] cur code pos fs s 363 (RB.size R) R0 ⟨T,rfl,by rw[hT];rfl⟩
 have ea:=Vn hf
 generalize (λj=>D j - 363)=α' at ea
 subst ea
 have h1:=h α' Z O
 have hr1:=hr α' Z O
 generalize hz:r α' Z O=z at h1 hr1
 cases z with
 |none=>simp[vE,wE] at h1
 |some o=>
  simp only[vE,wE,Prod.mk.injEq,Option.some.injEq,and_true] at h1
  obtain⟨h1,h2,h3,h4⟩:=h1
  obtain⟨s',c,R',S',K',f,ol⟩:=H o hr1.symm (Lg.ok_of h1) (by rw[h3];exact hpc α' Z O)
  rw[h2] at R'
  refine⟨_,s',⟨α',Z,O⟩,?_,?_,K',?_⟩
  all_goals rw[hz]
  ·exact c
  ·exact Rel.cfg (C:=cfg K.P K.V W m tl) rfl R'
  ·exact ol
structure LaQ where
 tx:Str
 tT:Tok
 rm:Int
 tR:Tok
 wd:Int
 tW:Tok
 d:Addr
 o:Obj
noncomputable def laC(q:LaQ):Code:=.call (.ref 357) ⟨[.str q.tx q.tT,.int q.rm q.tR,.int q.wd q.tW],[]⟩
def laS(K:Wd)(b:Bag)(q:LaQ)(pos:Pos):Start:=mkS K (WK ([0,3],b)) 1 [] [] [(q.d,q.o)] (laC q) pos
noncomputable def tpLa1:List Nat:=[714,712,3,1,3,1,3,1,4,6,3,3,476,476,0,476,476,476,476,476,476,0,476,476,476,476,476,476,476,476,476,476,476,476,476,476,476,476,476,474,476,476,7,476,7,476,476,474,358,0,358,356,9,4,9,4,9,4,9,4,9,4,4,9,9,7,476,476,474,0,7,476,7,476,7,476,476,474,7,476,5,2,5,9,9,7,476,476,474,0,7,476,7,476,7,476,476,474,7,476,5,2,5,6,0,9,0,0,9,7,476,476,474,0,7,476,7,476,7,476,476,474,7,476,5,2,5,9,9,7,476,476,474,0,7,476,7,476,7,476,476,474,7,476,5,2,5,9,7,476,476,474,0,7,476,7,476,7,476,476,474,7,476,5,2,5,6,9,644,644,0,644,644,644,644,644,644,0,644,644,644,644,644,644,644,644,644,644,15,644,15,644,644,642,518,0,518,516,502,17,8,17,8,4,17,17,15,644,644,642,0,15,644,15,644,15,644,644,642,15,644,13,6,13,518,516,6,0,492]
def laR1(K:Wd)(b:Bag)(q:LaQ)(pos:Pos)(D:Nat->Addr)(Z:Nat->Ch)(O:Nat->Nat):Option Out:=(laS K b q pos).run (farA D) Z O 355 tpLa1
def V2(K:Wd)(b:Bag)(q:LaQ)(pos:Pos)(D Z O):vE (laR1 K b q pos D Z O)=wE [] 8 (laR1 K b q pos D Z O)/\(eo (laR1 K b q pos D Z O)).cur=.stack (kst (laR1 K b q pos D Z O))/\(eo (laR1 K b q pos D Z O)).T.length=9:=by
 obtain⟨_,b1⟩:=K
 cases b1<;>exact⟨by kernel_rfl,by kernel_rfl,by kernel_rfl⟩
noncomputable def tpAi:List Nat:=[518,516,502,3,1,3,1,4,3,3,1,644,644,642,1,0,518,516,6,0,492]
def laF(K:Wd)(b:Bag)(q:LaQ)(pos:Pos)(D:Nat->Addr)(Z:Nat->Ch)(O:Nat->Nat):Option Out:=
 (mkS K (WK ([0,3],b)) 1 [] [fakeX 0 .none] [(farA D 6,accObj K.V (farA D 5) #[] 0)] (.call (.ref 259) ⟨[.ref (farA D 6),.int q.rm q.tR],[]⟩) pos).run (λj=>farA D (7+j)) Z O 37 tpAi
def V3(K:Wd)(b:Bag)(q:LaQ)(pos:Pos)(D Z O):(eo (laR1 K b q pos D Z O)).cur=.stack (kst (laF K b q pos D Z O))/\Fast.tw10703107870728634244 (stk (laR1 K b q pos D Z O) (WK ([0,3],b)))=stk (laR1 K b q pos D Z O) (WK ([0,3],b)):=by
 obtain⟨_,b1⟩:=K
 cases b1<;>exact⟨by kernel_rfl,by kernel_rfl⟩
def Qi(K:Wd)(b:Bag)(q:LaQ)(pos:Pos)(D Z O)(B:List (Code × Pos))(h:Fast.tw10703107870728634244 B=B)(hB:stk (laR1 K b q pos D Z O) (WK ([0,3],b))=B):kst (laF K b q pos D Z O) B=kst (laF K b q pos D Z O) []:=by
 obtain⟨_,b1⟩:=K
 cases b1
 all_goals (
  conv=>lhs;unfold laF Start.run;rw[vy];whnf;dsimp only
  generalize hc:(Option.map (λx=>x.frame) (List.findSome? (λx=>x.env?) (R.mapR (λx=>x.fst) B)) != Option.map (λx=>x.frame) (List.findSome? (λx=>x.env?) (R.mapR (λx=>x.fst) (Fast.tw10703107870728634244 B))))=c
  generalize Fast.tw10703107870728634244 B=T at h hc ⊢
  subst h
  rw[bne_self_eq_false] at hc
  subst hc hB
  kernel_rfl)
def Qe(K:Wd)(b:Bag)(q:LaQ)(pos:Pos)(D Z O):kst (laF K b q pos D Z O) (stk (laR1 K b q pos D Z O) (WK ([0,3],b)))=kst (laF K b q pos D Z O) []:=
 Qi K b q pos D Z O _ (V3 K b q pos D Z O).2 rfl
def xStrIter:Ext:=cnX (M:=Str × Tok) 0 (λ_=>1) (λ_ c _=>(sV (vAt (argC c) 0),tkV (vAt (argC c) 0))) (λ_ u=>.call (.builtin "str.__iter__") ⟨[.str u.1 u.2],[]⟩) (λ_ _=>[]) (λ_ u=>[(.b (u.1.cps.all (· < 128)),.b false)]) (λ_ u xs _=>⟨.ok (.ret (.ref (xs.headD 0))),[],[sIt u.1 u.2 0]⟩)
def vL{w:World}{tl:zb}:LeafOk w tl xStrIter:=by
 refine zt λprog s d ⟨x,t⟩ wh gs _ _ hp=>?_
 have e:=LV.b.inj (hp _ (.head _))
 refine⟨[s.heap.objs.size],.of 0,{ s with heap:=s.heap.push (sIt x t 0) },rfl,zK,codeAny_call_builtin PySem.F.slot_str_iter.plain PySem.F.entry_str_iter (PySem.F.slot_str_iter.check _ _ _ _ _ _ _ _ (typeIs_str s x t) (PySem.F.args_str_iter_1 _) ?_),Eff.push (tk:=s.toks) rfl⟩
 show wpAny _ _ (newFields (if (true && x.cps.all (· < 128))=true then "str_ascii_iterator" else "str_iterator") [.str x t,rawInt 0] >>= λr=>ret r) _ _ s
 rw[e]
 refine wpAny_bind (wpAny_newObj_type ?_)
 exact wpAny_pure ⟨rfl,rfl⟩
noncomputable def laTk(q:LaQ)(τ0 Z:Nat->Ch)(i:Nat):Tok:=match i with
 |0=>(τ0 11).tok 0
 |1=>q.tW
 |2=>(τ0 13).tok 0
 |3=>(τ0 3).tok 0
 |4=>(τ0 17).tok 0
 |5=>(τ0 15).tok 0
 |6=>(τ0 19).tok 0
 |7=>(τ0 4).tok 0
 |8=>(τ0 21).tok 0
 | _=>(Z 2).tok 0
def laFm(q:LaQ)(m1 m2:Option Addr)(D0:Nat->Addr)(τ0 Z:Nat->Ch):Fm:=⟨D0 2,farA D0 1,farA D0 4,⟨D0 6,farA D0 5,#[],0⟩,⟨q.rm,(τ0 25).tok 0,q.tR,1⟩,q.wd,laTk q τ0 Z,6,#[],0,m1,m2⟩
noncomputable def laFt(τ0 Z:Nat->Ch)(i:Nat):Tok:=match i with
 |0=>(τ0 0).tok 0
 |1=>(τ0 1).tok 0
 |2=>(τ0 2).tok 0
 | _=>(Z 3).tok 0
def laG(q:LaQ)(D0 D:Nat->Addr)(τ0 Z:Nat->Ch):LlF:=⟨farA D0 0,D 2,laFt τ0 Z,q.tx,q.tT,q.rm,q.tR,q.wd,q.tW⟩
noncomputable def tpLa2:List Nat:=[17,644,0,644,0,19,19,0,19,644,15,15,644,19,9,19,9,19,9,19,19,0,19,19,19,19,4,644,0,15,644,21,0,21,15,15,7,15,9,7,476,476,474,0,7,476,7,476,7,476,476,474,7,476,5,2,5,3,1,3,1,0,23]
section
variable (K:Wd) (b:Bag) (q:LaQ) (pos:Pos) (D0:Nat->Addr) (τ0:Nat->Ch) (O0:Nat->Nat) (D:Nat->Addr) (Z:Nat->Ch) (O:Nat->Nat)
def laS2:Start:=mkC K (WK ([0,3],b)) 9 [] [xStrIter] (eo (laR1 K b q pos D0 τ0 O0)) (kst (laF K b q pos D0 τ0 O0) [])
def laR2:Option Out:=(laS2 K b q pos D0 τ0 O0).run D Z O 103 tpLa2
def laBody(a0:Addr):Code:=.func (fnBody (topS 26)) (llEnv a0)
def laX2:Exp:=⟨.call (llLoop (farA D0 0) (D 2)) none false [] (kOf (laR2 K b q pos D0 τ0 O0 D Z O)),laBody (farA D0 0),⟨201,16,201,20⟩,[],
 [(laG q D0 D τ0 Z).o K.P (laFm q none none D0 τ0 Z).far.fa .no,(D 2,sIt q.tx q.tT 0)]++((laFm q none none D0 τ0 Z).far.slots K.P K.V).take 5++[(q.d,q.o)],[],[(.b (q.tx.cps.all (· < 128)),.b false)]⟩
theorem Qh:lhs 9 [10,0,8,9,6,4,5,11] (laR2 K b q pos D0 τ0 O0 D Z O)=rhs 3 (laX2 K b q pos D0 τ0 O0 D Z O) (laR2 K b q pos D0 τ0 O0 D Z O):=by
 obtain⟨_,b1⟩:=K
 cases b1<;>kernel_rfl
theorem la_W(a0:Addr):shk [[0,0,3]] ((laBody a0,pos)::WK ([0,3],b))=some ([0,0,3],bagOf ((laBody a0,pos)::WK ([0,3],b))):=by kernel_rfl
end
end Mine
end
noncomputable section
open PyProof.Rows PySem PySem.W
open PySem.Builtin.Str (tooLong occurrences partsBetween)
namespace Mine
def wc(rl:List (Str × Tok)):rowsArr rl=(strValues rl).toArray:=rfl
theorem wt(k:Nat):∀(l:List Str) (n:Nat),l.foldl (fun(x:Nat) (y:Str)=>x+y.length+k) n=n+(l.map Str.length).sum+l.length*k
 |[],n=>by simp
 |x::l,n=>by
  rw[List.foldl_cons,wt k l,List.map_cons,List.sum_cons,List.length_cons,Nat.succ_mul]
  lia
noncomputable def joinTok(k:Nat):List (Str × Tok)->Tok
 |[p]=>p.2
 | _=>k
noncomputable def joinEnd(k:Nat):List (Str × Tok)->Nat
 |[p]=>k
 | _=>k+1
structure JrM where
 sep:Str
 ts:Tok
 a:Addr
 dd:Option Addr
 vs:Array Value
 n:Nat
 sl:Array (Option Value)
def xJoinR(rl:List (Str × Tok))(S:Str):Ext:=cnX (M:=JrM) 1 (λ_=>0) (λ_ c l=>⟨sV (vAt (argC c) 0),tkV (vAt (argC c) 0),obA l 0,(obO l 0).dict,sqO (obO l 0),epO (obO l 0),(obO l 0).slots⟩) (λ_ u=>.call (.builtin "str.join") ⟨[.str u.sep u.ts,.ref u.a],[]⟩) (λ_ u=>[(u.a,⟨.type "list", u.dd,.seq u.vs u.n,u.sl⟩)])
 (λ_ u=>[(.a u.vs,.a (rowsArr rl)),(.s (Txt.join u.sep (rl.map (·.1))),.s S),(.b (decide (((rl.map (·.1)).map Str.length).sum+rl.length*u.sep.length<=1000)),.b true)]) (λ_ _ _ t=>⟨.ok (.ret (.str S (t.tok 0))),[],[]⟩)
def yU{w:World}{tl:zb}{rl:List (Str × Tok)}{S:Str}:LeafOk w tl (xJoinR rl S):=by
 refine zt λprog s d ⟨sep,ts,a,dd,vs,n,sl⟩ wh gs hg _ hp=>?_
 have e2:vs=rowsArr rl:=LV.a.inj (hp _ (.head _))
 have e3:Txt.join sep (rl.map (·.1))=S:=LV.s.inj (hp _ (.tail _ (.head _)))
 have e4:=of_decide_eq_true (LV.b.inj (hp _ (.tail _ (.tail _ (.head _)))))
 dsimp only at e4
 subst e2 e3
 have h1:=hg _ (.head _)
 have hL:s.heap.IsList a (strValues rl).toArray:=⟨_,h1,rfl,n,rfl⟩
 have hfit:Builtin.Str.tooLong ((rl.map (·.1)).toArray.foldl (·+·.length+sep.length) 0)=false:=by
  rw[List.foldl_toArray,wt]
  refine decide_eq_false (Nat.not_lt.mpr ?_)
  have:=zI
  rw[List.length_map]
  lia
 refine⟨[],.of (joinTok s.toks rl),{ s with toks:=joinEnd s.toks rl },rfl,zh,zp PySem.F.slot_str_join (typeIs_str s sep ts) PySem.F.entry_str_join (PySem.F.args_str_join_2 _ _) (meets_str_join_list sep ts a rl hfit) ⟨hL,?_⟩,Eff.toks⟩
 have hsz:=joinFit_length hfit
 match rl,hsz with
 |[],hsz=>exact⟨hsz,rfl,rfl⟩
 |[p],hsz=>exact⟨rfl,rfl⟩
 |p::q::r,hsz=>exact⟨hsz,rfl,rfl⟩
noncomputable def tokd(f:Nat->Tok):List Str->Nat->List (Str × Tok)
 |[],_=>[]
 |x::r,i=>(x,f i)::tokd f r (i+1)
theorem vY(f:Nat->Tok):∀(l:List Str) (i:Nat),(tokd f l i).map (·.1)=l
 |[],_=>rfl
 |x::r,i=>by simp[tokd,vY f r]
theorem wL(k:Nat):∀(l:List Str) (i:Nat),strValues (tokd (λj=>k+j) l i)=strsFrom (k+i) l
 |[],_=>rfl
 |x::r,i=>by
  have:=wL k r (i+1)
  simp only[strValues,tokd,List.map_cons,strsFrom] at this ⊢
  rw[this];rfl
noncomputable def strL(l:List Str):List Value:=l.map λs=>.str s 0
theorem v7:∀{l r:List Str},strL l=strL r->l=r
 |[],[],_=>rfl
 |[],_::_,h=>by simp[strL] at h
 | _::_,[],h=>by simp[strL] at h
 |x::l,y::r,h=>by
  simp only[strL,List.map_cons,List.cons.injEq,Value.str.injEq,and_true] at h
  rw[h.1,v7 (l:=l) (r:=r) h.2]
def xSplit(rows:List Str):Ext:=cnX (M:=(Str × Tok) × Str × Tok) 0 (λ_=>1) (λ_ c _=>((sV (vAt (argC c) 0),tkV (vAt (argC c) 0)),sV (vAt (argC c) 1),tkV (vAt (argC c) 1))) (λ_ u=>.call (.builtin "str.split") ⟨[.str u.1.1 u.1.2,.str u.2.1 u.2.2],[]⟩) (λ_ _=>[])
 (λ_ u=>[(.lv (strL (Txt.split u.1.1 u.2.1)),.lv (strL rows)),small u.1.1.length,(.b (u.2.1.length==0),.b false),(.b (decide ((Txt.split u.1.1 u.2.1).length<=1000)),.b true)]) (λ_ _ xs t=>⟨.ok (.ret (.ref (xs.headD 0))),[],[listO (rowsArr (tokd t.tok rows 0)) 0]⟩)
abbrev xx(x y:Str):Bool:=decide (x.length < y.length) || decide (Builtin.Str.strKind x < Builtin.Str.strKind y)
def Ym{prog:Program}{w:World}{A:Around}{s:Shared}{x y:Str}{tx ty:Tok}(hc:xx x y=true\/(occurrences x y 0 x.length (x.length+1)).isEmpty=true)(e3:(y.length==0)=false) :
  codeAny (model prog w) A (.call (.builtin "str.split") ⟨[.str x tx,.str y ty],[]⟩) (λr s₁=>r=.ok (.ret (.ref s.heap.objs.size))/\s₁={ s with heap:=s.heap.push (listO (rowsArr [(x,tx)]) 0) }) s:=by
 obtain⟨raising,htree⟩:=split_sep_tree x y tx ty
 refine codeAny_call_builtin PySem.F.slot_str_split.plain PySem.F.entry_str_split (PySem.F.slot_str_split.check _ _ _ _ _ _ _ _ (typeIs_str s x tx) (PySem.F.args_str_split_2 _ _) ?_)
 rw[htree]
 refine cps λG hG=>?_
 have one:∀(nm:String),wpAny (model prog w) A.in1 (do rule nm;ret (<-newList [.str x tx])) (λfin s'=>match fin with | .done f=>(Except.ok f:Result)=.ok (.ret (.ref s.heap.objs.size))/\s'={ s with heap:=s.heap.push (listO (rowsArr [(x,tx)]) 0) } | .again c'=>c'.quiet=true/\codeAny (model prog w) A c' (λr s₁=>r=.ok (.ret (.ref s.heap.objs.size))/\s₁={ s with heap:=s.heap.push (listO (rowsArr [(x,tx)]) 0) }) s') (λe s'=>(Except.error e:Result)=.ok (.ret (.ref s.heap.objs.size))/\s'={ s with heap:=s.heap.push (listO (rowsArr [(x,tx)]) 0) }) s:=λnm=>
  wpAny_bind (wpAny_rule (wpAny_bind (wpAny_newList (wpAny_pure ⟨rfl,rfl⟩) (by show 1<=sizeLine;have:=zI;lia))))
 refine hG ?_
 by_cases h1:xx x y=true
 ·rw[if_pos h1]
  exact one _
 ·rw[if_neg h1,if_neg (by rw[e3];exact Bool.false_ne_true)]
  have h2:=hc.resolve_left h1
  rw[if_pos (by rw[h2];rfl)]
  exact one _
def Yb{w:World}{tl:zb}{rows:List Str}:LeafOk w tl (xSplit rows):=by
 refine zt λprog s d ⟨⟨x,tx⟩,y,ty⟩ wh gs _ _ hp=>?_
 have e1:Txt.split x y=rows:=v7 (LV.lv.inj (hp _ (.head _)))
 have e2:x.length<=sizeLine:=zW hp (.tail _ (.head _))
 have e3:(y.length==0)=false:=LV.b.inj (hp _ (.tail _ (.tail _ (.head _))))
 have e4:(Txt.split x y).length<=1000:=of_decide_eq_true (LV.b.inj (hp _ (.tail _ (.tail _ (.tail _ (.head _))))))
 clear hp
 by_cases hc:xx x y=true\/(occurrences x y 0 x.length (x.length+1)).isEmpty=true
 ·have hs:Txt.split x y=[x]:=by
   unfold Txt.split
   by_cases h0:xx x y=true
   ·rw[if_pos h0]
   ·rw[if_neg h0,if_pos (hc.resolve_left h0)]
  rw[hs] at e1
  subst e1
  exact⟨[s.heap.objs.size],⟨λ_=>tx,λ_=>dead⟩,{ s with heap:=s.heap.push (listO (rowsArr [(x,tx)]) 0) },rfl,zK,Ym hc e3,Eff.push (tk:=s.toks) rfl⟩
 ·have h1:xx x y=false:=by
   rw[Bool.eq_false_iff];exact λh=>hc (.inl h)
  have h2:(occurrences x y 0 x.length (x.length+1)).isEmpty=false:=by
   rw[Bool.eq_false_iff];exact λh=>hc (.inr h)
  have hs:Txt.split x y=partsBetween x (occurrences x y 0 x.length (x.length+1)) y.length:=by
   unfold Txt.split
   rw[if_neg (show ¬(xx x y=true) by rw[h1];exact Bool.false_ne_true),if_neg (by rw[h2];exact Bool.false_ne_true)]
  subst e1
  have hz:=zI
  refine⟨[s.heap.objs.size],⟨λj=>s.toks+j,λ_=>dead⟩,_,rfl,zK,zp PySem.F.slot_str_split (typeIs_str s x tx) PySem.F.entry_str_split (PySem.F.args_str_split_2 _ _) (meets_str_split_sep x y tx ty h1 e3 h2 e2 (by rw[<-hs];lia)) ⟨rfl,rfl⟩,?_⟩
  have e:rowsArr (tokd (λj=>s.toks+j) (Txt.split x y) 0)=(strsFrom s.toks (partsBetween x (occurrences x y 0 x.length (x.length+1)) y.length)).toArray:=by
   rw[wc,wL,hs];rfl
  dsimp only
  rw[e]
  exact Eff.push (o:=listO _ 0) rfl
end Mine
end
noncomputable section
open PyProof.Rows PySem PySem.W
namespace Mine
structure La3Q where
 q:LaQ
 f:Fm
 ps:List Part
 x:LlX
noncomputable def sLinesep:Str:=⟨#[108,105,110,101,115,101,112]⟩
noncomputable def sNL:Str:=⟨#[10]⟩
def strFr(P:Params)(a fa:Addr)(t0 t1 t2:Tok):Addr × Obj:=(a,frameO [ent P sSelf t1 (.ref fa),ent P sLinesep t2 (.str sNL t0)] 2)
noncomputable def tpLa3:List Nat:=[15,13,476,476,474,13,476,476,474,13,476,476,474,372,13,11,372,0,372,370,17,8,17,8,4,17,13,476,476,474,13,476,476,474,13,476,476,474,400,13,11,400]
section
variable (K:Wd) (b:Bag) (z:La3Q) (pos pos3:Pos) (D0:Nat->Addr) (τ0:Nat->Ch) (O0:Nat->Nat) (D1:Nat->Addr) (τ1:Nat->Ch) (O1:Nat->Nat) (D:Nat->Addr) (Z:Nat->Ch) (O:Nat->Nat)
def La3Q.fm(z:La3Q):Fm:=z.f.far.puts (partsArr z.ps)
def laS3:Start:=⟨cfg K.P K.V (WK ([0,3],b)) 8 [],[],[(laG z.q D0 D1 τ0 τ1).o K.P z.f.far.fa z.x]++z.fm.slots K.P K.V,[],kOf (laR2 K b z.q pos D0 τ0 O0 D1 τ1 O1) (.ok .next),laBody (farA D0 0),pos3,[]⟩
def laR3:Option Out:=(laS3 K b z pos pos3 D0 τ0 O0 D1 τ1 O1).run D Z O 61 tpLa3
def laX3:Exp:=⟨.call (nlC z.f.far.fa) none false markL (kOf (laR3 K b z pos pos3 D0 τ0 O0 D1 τ1 O1 D Z O)),(eo (laR3 K b z pos pos3 D0 τ0 O0 D1 τ1 O1 D Z O)).code,(eo (laR3 K b z pos pos3 D0 τ0 O0 D1 τ1 O1 D Z O)).pos,(eo (laR3 K b z pos pos3 D0 τ0 O0 D1 τ1 O1 D Z O)).fs,
 strFr K.P (D 0) z.f.far.fa ((Z 0).tok 0) ((Z 1).tok 0) ((Z 2).tok 0)::z.fm.slots K.P K.V,[],[]⟩
theorem Qg:lhs 8 [0,2,3,4,5,6,7,8] (laR3 K b z pos pos3 D0 τ0 O0 D1 τ1 O1 D Z O)=rhs 1 (laX3 K b z pos pos3 D0 τ0 O0 D1 τ1 O1 D Z O) (laR3 K b z pos pos3 D0 τ0 O0 D1 τ1 O1 D Z O):=by
 obtain⟨_,b1⟩:=K
 obtain⟨q,f,ps,x⟩:=z
 cases b1<;>cases x<;>kernel_rfl
theorem Qj:shk [[0,0,0,3]] (stk (laR3 K b z pos pos3 D0 τ0 O0 D1 τ1 O1 D Z O) (WK ([0,3],b)))=some ([0,0,0,3],bagOf (stk (laR3 K b z pos pos3 D0 τ0 O0 D1 τ1 O1 D Z O) (WK ([0,3],b))))/\hdOk (eo (laR3 K b z pos pos3 D0 τ0 O0 D1 τ1 O1 D Z O)).fs=true:=by
 obtain⟨_,b1⟩:=K
 obtain⟨q,f,ps,x⟩:=z
 cases b1<;>cases x<;>exact⟨by kernel_rfl,by kernel_rfl⟩
end
noncomputable def tpLa4:List Nat:=[15,15,13,476,476,474,0,13,476,476,474,13,13,476,11,1,0,9,2,0]
section
variable (K:Wd) (b:Bag) (z:La3Q) (pos pos3:Pos) (D0:Nat->Addr) (τ0:Nat->Ch) (O0:Nat->Nat) (D1:Nat->Addr) (τ1:Nat->Ch) (O1:Nat->Nat) (D3:Nat->Addr) (τ3:Nat->Ch) (O3:Nat->Nat) (g:Fm) (rl:List (Str × Tok)) (S:Str) (rows:List Str) (D:Nat->Addr) (Z:Nat->Ch) (O:Nat->Nat)
def laS4:Start:=⟨cfg K.P K.V (WK ([0,3],b)) 8 [],[xJoinR rl S,xSplit rows],strFr K.P (D3 0) g.far.fa ((τ3 0).tok 0) ((τ3 1).tok 0) ((τ3 2).tok 0)::g.far.slots K.P K.V,[],kOf (laR3 K b z pos pos3 D0 τ0 O0 D1 τ1 O1 D3 τ3 O3) (.ok (.ret .none)),(eo (laR3 K b z pos pos3 D0 τ0 O0 D1 τ1 O1 D3 τ3 O3)).code,(eo (laR3 K b z pos pos3 D0 τ0 O0 D1 τ1 O1 D3 τ3 O3)).pos,(eo (laR3 K b z pos pos3 D0 τ0 O0 D1 τ1 O1 D3 τ3 O3)).fs⟩
def laR4:Option Out:=(laS4 K b z pos pos3 D0 τ0 O0 D1 τ1 O1 D3 τ3 O3 g rl S rows).run D Z O 36 tpLa4
def laPc4:Lg:=[(.lv (strL (Txt.split S sNL)),.lv (strL rows)),small S.length,(.b (sNL.length==0),.b false),(.b (decide ((Txt.split S sNL).length<=1000)),.b true),
 (.a g.rows,.a (rowsArr rl)),(.s (Txt.join sNL (rl.map (·.1))),.s S),(.b (decide (((rl.map (·.1)).map Str.length).sum+rl.length*sNL.length<=1000)),.b true)]
def laX4(r:Option Out):Exp:=⟨.pure (.done (.ret (.ref (D 0)))),(eo r).code,(eo r).pos,[],[(D 0,listO (rowsArr (tokd (Z 3).tok rows 0)) 0),(284,oMem 124 19 g.m1),(291,oMem 127 32 g.m2)],[],laPc4 g rl S rows⟩
theorem Qf:lhs 8 [0,7,8] (laR4 K b z pos pos3 D0 τ0 O0 D1 τ1 O1 D3 τ3 O3 g rl S rows D Z O)=rhs 1 (laX4 g rl S rows D Z (laR4 K b z pos pos3 D0 τ0 O0 D1 τ1 O1 D3 τ3 O3 g rl S rows D Z O)) (laR4 K b z pos pos3 D0 τ0 O0 D1 τ1 O1 D3 τ3 O3 g rl S rows D Z O):=by
 obtain⟨_,b1⟩:=K
 obtain⟨q,f,ps,x⟩:=z
 cases b1<;>cases x<;>kernel_rfl
end
def laMid(K:Wd)(b:Bag)(q:LaQ)(pos:Pos)(D0:Nat->Addr)(τ0:Nat->Ch)(O0:Nat->Nat)(D:Nat->Addr)(Z:Nat->Ch)(O:Nat->Nat):St:=⟨.call (llLoop (farA D0 0) (D 2)) none false [] (kOf (laR2 K b q pos D0 τ0 O0 D Z O)),laBody (farA D0 0),⟨201,16,201,20⟩,[],
   [(laG q D0 D τ0 Z).o K.P (laFm q none none D0 τ0 Z).far.fa .no,(D 2,sIt q.tx q.tT 0)]++((laFm q none none D0 τ0 Z).far.slots K.P K.V).take 5++[(q.d,q.o)]⟩
def Vg{K:Wd}{b:Bag}{q:LaQ}{pos:Pos}(ha:q.tx.cps.all (· < 128)=false):Seg K (WK ([0,3],b)) ⟨denF (laC q),laC q,pos,[],[(q.d,q.o)]⟩ (λs=>∃D0 τ0 O0 D Z O,s=laMid K b q pos D0 τ0 O0 D Z O):=by
 refine(Seg.goF (K:=K) (W:=WK ([0,3],b)) (m:=1) (n:=355) (na:=8) (tp:=tpLa1) (tl:=[]) (T:=[(q.d,q.o)]) (X:=[]) zH (laR1 K b q pos) (λ_ _ _=>rfl) (λ_ _ _=>[]) (λD Z O=>(V2 K b q pos D Z O).1) (λ_ _ _=>zd) rfl (by decide)).trans ?_
 rintro s ⟨D0,τ0,O0⟩
 have e2:=(V2 K b q pos D0 τ0 O0).2.2
 rw[(V3 K b q pos D0 τ0 O0).1]
 refine Seg.stack ?_
 show Seg K (WK ([0,3],b)) ⟨kst _ (stk (laR1 K b q pos D0 τ0 O0) (WK ([0,3],b))),_,_,_,_⟩ _
 rw[Qe K b q pos D0 τ0 O0]
 refine Seg.rM (K:=K) (laS2 K b q pos D0 τ0 O0) rfl rfl (λF U=>z0 (.leaf U vL)) _ [10,0,8,9,6,4,5,11] (Qh K b q pos D0 τ0 O0) (by decide) e2 (by decide) (λ_ _ _=>za (by rw[ha]) zd) (λ_ _ _=>rfl) λD Z O=>?_
 refine⟨D0,τ0,O0,D,Z,O,?_⟩
 unfold laX2 laMid
 rw[List.append_nil]
theorem LnInv.fold{S:Nat->Int->Bool}{tab:Int->Option Str}{wd:Int}:∀(l:List Nat) (i:Nat) (z:LnSt),LnInv i z->(∀c∈l,SignQ S tab c)->LnInv (i+l.length) (l.foldl (signStep S tab wd) z)
 |[],i,z,I,_=>I
 |c::r,i,z,I,h=>by
  have:=LnInv.fold (S:=S) (wd:=wd) r (i+1) _ (I.step (S:=S) (wd:=wd) (h c (.head _))) (λd hd=>h d (.tail _ hd))
  rw[List.foldl_cons,List.length_cons,show i+(r.length+1)=i+1+r.length by lia]
  exact this
def laidRows(S:Nat->Int->Bool)(tab:Int->Option Str)(cs:List Nat)(rm wd:Int):List Str:=
 nlRows (cs.foldl (signStep S tab wd) ⟨rm,[],[]⟩).n (cs.foldl (signStep S tab wd) ⟨rm,[],[]⟩).tx (cs.foldl (signStep S tab wd) ⟨rm,[],[]⟩).rows
def laidOut(S:Nat->Int->Bool)(tab:Int->Option Str)(cs:List Nat)(rm wd:Int):List Str:=Txt.split (Txt.join sNL (laidRows S tab cs rm wd)) sNL
def v6(r:List Str):(((r.map Str.length).sum:Nat):Int)=rowsLen r:=by
 unfold rowsLen
 induction r with
 |nil=>rfl
 |cons x t ih=>simp only[List.map_cons,List.sum_cons];lia
inductive LaidEnd (out:List Str) (s:St):Prop
 |mk (a:Addr) (tk:Nat->Tok) (m1 m2:Option Addr) (h1:s.cur=.pure (.done (.ret (.ref a)))) (h2:s.fs=[]) (h3:s.T=[(a,listO (rowsArr (tokd tk out 0)) 0),(284,oMem 124 19 m1),(291,oMem 127 32 m2)])
def XL{K:Wd}{b:Bag}{S:Nat->Int->Bool}{fd:Int->Option Value}{tab:Int->Option Str}(T:TopOk K S fd tab){q:LaQ}{pos:Pos}{m1 m2:Option Addr}(hd:q.d=284)(ho:q.o=oMem 124 19 m1)
  (ha:q.tx.cps.all (· < 128)=false) (hn:q.tx.cps.size<=22) (hok:∀c∈q.tx.cps.toList,SignQ S tab c) (h0:0<=q.rm) (h3:q.rm<=3) :
  Seg K (WK ([0,3],b)) ⟨denF (laC q),laC q,pos,[],[(284,oMem 124 19 m1),(291,oMem 127 32 m2)]⟩ (LaidEnd (laidOut S tab q.tx.cps.toList q.rm q.wd)):=by
 have e0:[((284:Addr),oMem 124 19 m1),(291,oMem 127 32 m2)]=[(q.d,q.o)]++[(291,oMem 127 32 m2)]:=by rw[hd,ho];rfl
 rw[e0]
 refine(Seg.frame [((291:Addr),oMem 127 32 m2)] (λp hp=>by rw[List.mem_singleton] at hp;subst hp;rfl) (Vg ha)).trans ?_
 rintro s ⟨s',⟨D0,τ0,O0,D1,τ1,O1,rfl⟩⟩
 let f0:Fm:=laFm q m1 m2 D0 τ0 τ1
 let g:LlF:=laG q D0 D1 τ0 τ1
 have eW:=vJ (la_W b ⟨201,16,201,20⟩ (farA D0 0))
 have I0:LnInv 0 ⟨q.rm,[],[]⟩:=⟨h0,h3,Nat.le_refl _,Nat.le_refl _,λt ht=>(by cases ht),by simp[txLen,rowsLen]⟩
 have Z0:FmZ f0 f0 [] [] ⟨q.rm,[],[]⟩:=⟨⟨rfl,rfl,rfl,rfl,rfl,rfl⟩,rfl,rfl,rfl,rfl,rfl⟩
 have hL:=W3 (K:=K) (b:=bagOf ((laBody (farA D0 0),⟨201,16,201,20⟩)::WK ([0,3],b))) T (f0:=f0) (g:=g) hn hok q.tx.cps.size 0 f0 [] [] .no ⟨q.rm,[],[]⟩ ⟨201,16,201,20⟩ (Nat.zero_add _) Z0 I0
 rw[<-eW] at hL
 refine Seg.call rfl (Seg.perm (a:=⟨_,_,_,[],_⟩) ?_ hL) ?_
 ·show List.Perm _ (LlT K f0 [] g .no 0)
  unfold laMid LlT
  rw[show partsTail []=[] from rfl,List.append_nil]
  dsimp only
  rw[hd,ho]
  exact List.Perm.refl _
 ·rintro s ⟨f,ps,rl,x,db,e1,e2,e3⟩
  refine⟨e2,.ok .next,e1,?_⟩
  rw[List.drop_zero] at db
  have I:=LnInv.fold (S:=S) (wd:=f0.wd) q.tx.cps.toList 0 ⟨q.rm,[],[]⟩ I0 hok
  have hlen:0+q.tx.cps.toList.length<=22:=by rw[Nat.zero_add,Array.length_toList];exact hn
  have ewd:f0.wd=q.wd:=rfl
  rw[show g.tx=q.tx from rfl] at db
  rw[ewd] at db I
  have hrows:laidRows S tab q.tx.cps.toList q.rm q.wd=nlRows (q.tx.cps.toList.foldl (signStep S tab q.wd) ⟨q.rm,[],[]⟩).n (q.tx.cps.toList.foldl (signStep S tab q.wd) ⟨q.rm,[],[]⟩).tx (q.tx.cps.toList.foldl (signStep S tab q.wd) ⟨q.rm,[],[]⟩).rows:=rfl
  have hout:laidOut S tab q.tx.cps.toList q.rm q.wd=Txt.split (Txt.join sNL (laidRows S tab q.tx.cps.toList q.rm q.wd)) sNL:=rfl
  generalize laidOut S tab q.tx.cps.toList q.rm q.wd=out at hout ⊢
  generalize laidRows S tab q.tx.cps.toList q.rm q.wd=R at hrows hout
  generalize q.tx.cps.toList.foldl (signStep S tab q.wd) ⟨q.rm,[],[]⟩=zz at db I hrows
  generalize 0+q.tx.cps.toList.length=n at I hlen
  let z:La3Q:=⟨q,f,ps,x⟩
  have hps:f.far.puts (partsArr ps)=f.far:=Fm.puts_self db.xs
  have h3:=Seg.run (K:=K) (laS3 K b z pos ⟨201,16,201,20⟩ D0 τ0 O0 D1 τ1 O1) (tl:=[]) rfl rfl zH _ [0,2,3,4,5,6,7,8] (Qg K b z pos ⟨201,16,201,20⟩ D0 τ0 O0 D1 τ1 O1) (by decide) rfl (by decide) (λ_ _ _=>zd) (λ_ _ _=>rfl)
  have h4:=Seg.frame (partsTail ps) (zj _) h3
  rw[List.append_nil] at h4
  have hfa:(laFm q none none D0 τ0 τ1).far.fa=f.far.fa:=by show f0.fa+363=f.fa+363;rw[db.same.fa]
  have eT:(laS3 K b z pos ⟨201,16,201,20⟩ D0 τ0 O0 D1 τ1 O1).T++partsTail ps=s.T:=by
   rw[e3]
   unfold laS3 La3Q.fm
   dsimp only[z]
   rw[hps];rfl
  dsimp only at h4
  rw[eT] at h4
  refine Seg.trans h4 ?_
  rintro s2 ⟨s3,⟨D3,τ3,O3⟩⟩
  have hW3:=Qj K b z pos ⟨201,16,201,20⟩ D0 τ0 O0 D1 τ1 O1 D3 τ3 O3
  have eW3:=vJ hW3.1
  have hnl:=Seg.frame [strFr K.P (D3 0) f.far.fa ((τ3 0).tok 0) ((τ3 1).tok 0) ((τ3 2).tok 0)] (λp hp=>by rw[List.mem_singleton] at hp;subst hp;rfl)
   (yN (K:=K) (x:=([0,0,0,3],bagOf (stk (laR3 K b z pos ⟨201,16,201,20⟩ D0 τ0 O0 D1 τ1 O1 D3 τ3 O3) (WK ([0,3],b))))) (f:=f) (ps:=ps) (rl:=rl) (by simp[nxKs]) db.xs db.rw (λps2 h=>Xv db I hlen h) (by have:=ug db I hlen;lia) (pos:=(eo (laR3 K b z pos ⟨201,16,201,20⟩ D0 τ0 O0 D1 τ1 O1 D3 τ3 O3)).pos))
  rw[<-eW3,db.n,db.tx,db.rows,<-hrows] at hnl
  refine Seg.call hW3.2 (Seg.perm (a:=⟨_,_,_,[],_⟩) ?_ hnl) ?_
  ·show List.Perm (((strFr K.P (D3 0) f.far.fa ((τ3 0).tok 0) ((τ3 1).tok 0) ((τ3 2).tok 0)::(f.far.puts (partsArr ps)).slots K.P K.V)++[])++partsTail ps) _
   rw[hps,List.append_nil,List.cons_append]
   exact(List.perm_append_singleton _ _).symm
  ·rintro s4 ⟨s5,⟨g',rl',d1,d2,d3,d4,d5,d6,d7,d8⟩⟩
   refine⟨d7,.ok (.ret .none),d6,?_⟩
   have hnl:=y4 zz.n zz.tx zz.rows
   rw[<-hrows] at hnl
   have hI:=I.len
   have hI2:=I.rows
   have hI3:=zs zz.tx
   have hsum:=v6 R
   have hlr:rl'.length=R.length:=by rw[<-d5,List.length_map]
   have hjl:(Txt.join sNL R).length<=R.length+(R.map Str.length).sum:=by
    have:(Str.join sNL R).length<=(R.map Str.length).sum+R.length*sNL.length:=StrLaws.join_length_le sNL R
    show (Builtin.Str.glued sNL R).length<=_
    rw[StrLaws.glued_eq_join]
    have e1:sNL.length=1:=rfl
    rw[e1,Nat.mul_one,Nat.add_comm] at this
    exact this
   have hs:(R.map Str.length).sum<=88:=by clear hjl hlr;lia
   have hR:R.length<=23:=Nat.le_trans hnl.2 (Nat.succ_le_succ (Nat.le_trans hI2 (by assumption)))
   have hj2:=Nat.le_trans hjl (Nat.add_le_add hR hs)
   have hpc:Lg.Ok (laPc4 g' rl' (Txt.join sNL R) out):=by
    refine za (by rw[hout]) (za (zc (zu hj2 rfl)) (za rfl (za ?_ (za (by rw[d4]) (za (by rw[d5]) (za ?_ zd))))))
    ·have hw:=split_weight (Txt.join sNL R) sNL (by decide)
     rw[decide_eq_true (zu (Nat.le_trans (Nat.le_trans (Nat.le_add_left _ _) hw) (Nat.succ_le_succ hj2)) rfl)]
    ·rw[d5,decide_eq_true (by rw[show sNL.length=1 from rfl,Nat.mul_one,hlr];exact zu (Nat.add_le_add hs hR) rfl)]
   have h5:=Seg.run (K:=K) (laS4 K b z pos ⟨201,16,201,20⟩ D0 τ0 O0 D1 τ1 O1 D3 τ3 O3 g' rl' (Txt.join sNL R) out) (tl:=[]) rfl rfl (λF U=>xU (.leaf U yU) (.leaf U Yb)) _ [0,7,8] (Qf K b z pos ⟨201,16,201,20⟩ D0 τ0 O0 D1 τ1 O1 D3 τ3 O3 g' rl' (Txt.join sNL R) out) (by decide) rfl (by decide) (λ_ _ _=>hpc) (λ_ _ _=>rfl)
   rw[List.append_nil] at h5
   have hfa':f.far.fa=g'.far.fa:=by show f.fa+363=g'.fa+363;rw[d1.fa]
   refine Seg.perm (T:=(laS4 K b z pos ⟨201,16,201,20⟩ D0 τ0 O0 D1 τ1 O1 D3 τ3 O3 g' rl' (Txt.join sNL R) out).T) ?_ (h5.mono ?_)
   ·show List.Perm (s5.T++_) _
    rw[d8]
    unfold laS4
    dsimp only
    rw[hfa']
    exact List.perm_append_singleton _ _
   ·rintro s6 ⟨D,Z,O⟩
    refine⟨D 0,(Z 3).tok,g'.m1,g'.m2,rfl,rfl,?_⟩
    show _++[]=_
    rw[List.append_nil];rfl
noncomputable def lcC(n:Int)(t:Tok):Code:=.call (.ref 333) ⟨[.int n t],[]⟩
noncomputable def lcOuts:List (Tok->Value):=(List.range 17).map λj t=>.int (.ofNat j) t
structure LcQ where
 n:Int
 t:Tok
 y:Addr
 o:Obj
def lcS(K:Wd)(b:Bag)(q:LcQ)(pos:Pos):Start:=mkS K (WK ([4,0,3],b)) 1 [] [pureX K.P 12 lcOuts] [(q.y,q.o)] (lcC q.n q.t) pos
def lcR(K:Wd)(b:Bag)(q:LcQ)(pos:Pos)(N:Nat)(tp:List Nat)(D:Nat->Addr)(Z:Nat->Ch)(O:Nat->Nat):Option Out:=(lcS K b q pos).run D Z O N tp
def lcE(q:LcQ)(r:Option Out)(v:Value)(pc:Lg):Exp:=⟨.pure (.done (.ret v)),(eo r).code,(eo r).pos,[],[(q.y,q.o)],[],pc⟩
noncomputable def LcQ.p(q:LcQ):Int:=q.n.fdiv 4
noncomputable def eqI(a b:Int)(v:Bool):LV × LV:=(.v (.bool (a==b)),.v (.bool v))
noncomputable def isI(a:Int)(j:Nat)(t:Tok):LV × LV:=(.v (.int a t),.v (.int (.ofNat j) t))
def nthI(l:List Int)(j:Nat):Int:=match nth l j with
 |some x=>x
 |none=>0
noncomputable def lcTop:List Nat:=[666,664,3,1,4,3,1,0,3,1,3,1,0,1]
def tpK0(j:Nat):List Nat:=lcTop++[2,3,1,j+3,5,5,5,0,5,5,0,3,1,0,3,1,j+3,7,7,7,0,7,7,0,1,0,1,0]
def tpK1(j:Nat):List Nat:=lcTop++[1,3,1,0,1,2,3,1,j+3,5,5,5,0,5,5,0]
def tpK2a:List Nat:=lcTop++[1,3,1,0,1,1,3,1,0,1,2,3,1,0,1,2,3,1,0,1,0,1,0]
def tpK2b:List Nat:=lcTop++[1,3,1,0,1,1,3,1,0,1,2,3,1,0,1,1,3,1,0,1,0,1,0,3,1,0,1,0,1,0,1,0]
def tpK3(j:Nat):List Nat:=lcTop++[1,3,1,0,1,1,3,1,0,1,1,3,1,3,3,1,j+3,39,39,39,0,39,39,2*j+5,2*j+5,2*j+5,0,2*j+5,2*j+5,0,3,1,0,3,3,1,j+3,39,39,39,0,39,39,2*j+5,2*j+5,2*j+5,0,2*j+5,2*j+5,0,1,0,1,0]
noncomputable def lB3:List Int:=[31,172,831,846,6149,6154,8202,8233,8287,8297,12271,64975,65023,65278,65528,917504,917535]
noncomputable def lL3:List Int:=[3,3,4,3,3,5,7,7,3,8,14,34,18,3,8,3,98]
section
variable (K:Wd) (b:Bag) (q:LcQ) (pos:Pos) (D:Nat->Addr) (Z:Nat->Ch) (O:Nat->Nat)
theorem RZ(j:Nat)(hj:j < 3):lhs 1 [3] (lcR K b q pos 86 (tpK0 j) D Z O)=rhs 3 (lcE q (lcR K b q pos 86 (tpK0 j) D Z O) (.int (nthI [97,65,64256] j+(q.p.fdiv 3).fmod (nthI [26,26,7] j)) ((Z 21).tok 0)) [isI (q.p.fmod 3) j ((Z 19).tok 0),isI (q.p.fmod 3) j ((Z 12).tok 0),eqI (q.n.fmod 4) 0 true]) (lcR K b q pos 86 (tpK0 j) D Z O):=u0 (n:=3) (f:=λj=>lhs 1 [3] (lcR K b q pos 86 (tpK0 j) D Z O)) (g:=λj=>rhs 3 (lcE q (lcR K b q pos 86 (tpK0 j) D Z O) (.int (nthI [97,65,64256] j+(q.p.fdiv 3).fmod (nthI [26,26,7] j)) ((Z 21).tok 0)) [isI (q.p.fmod 3) j ((Z 19).tok 0),isI (q.p.fmod 3) j ((Z 12).tok 0),eqI (q.n.fmod 4) 0 true]) (lcR K b q pos 86 (tpK0 j) D Z O)) (by
 obtain⟨_,b1⟩:=K
 cases b1<;>kernel_rfl) j hj
theorem Tk(j:Nat)(hj:j < 4):∃i,∀(D:Nat->Addr) (Z:Nat->Ch) (O:Nat->Nat),lhs 1 [2] (lcR K b q pos 67 (tpK1 j) D Z O)=rhs 2 (lcE q (lcR K b q pos 67 (tpK1 j) D Z O) (.int (nthI [32,32,160,8287] j) ((Z i).tok 0)) [isI (q.p.fmod 4) j ((Z 17).tok 0),eqI (q.n.fmod 4) 1 true,eqI (q.n.fmod 4) 0 false]) (lcR K b q pos 67 (tpK1 j) D Z O):=by
 obtain⟨_,b1⟩:=K
 have:=lt4 j hj
 rcases this with rfl|rfl|rfl|rfl
 ·exact⟨12,λD Z O=>by cases b1<;>kernel_rfl⟩
 ·exact⟨13,λD Z O=>by cases b1<;>kernel_rfl⟩
 ·exact⟨14,λD Z O=>by cases b1<;>kernel_rfl⟩
 ·exact⟨15,λD Z O=>by cases b1<;>kernel_rfl⟩
theorem Tj:lhs 1 [1] (lcR K b q pos 76 tpK2a D Z O)=rhs 1 (lcE q (lcR K b q pos 76 tpK2a D Z O) (.int (64976+(q.p.fdiv 2).fmod 32) ((Z 25).tok 0)) [eqI (q.p.fmod 2) 0 true,eqI (q.n.fmod 4) 2 true,eqI (q.n.fmod 4) 1 false,eqI (q.n.fmod 4) 0 false]) (lcR K b q pos 76 tpK2a D Z O):=by
 obtain⟨_,b1⟩:=K
 cases b1<;>kernel_rfl
theorem Ti:lhs 1 [1] (lcR K b q pos 89 tpK2b D Z O)=rhs 1 (lcE q (lcR K b q pos 89 tpK2b D Z O) (.int (65533+(q.p.fdiv 2).fmod 3+65536*(q.p.fdiv 6).fmod 17) ((Z 32).tok 0)) [eqI (q.p.fmod 2) 0 false,eqI (q.n.fmod 4) 2 true,eqI (q.n.fmod 4) 1 false,eqI (q.n.fmod 4) 0 false]) (lcR K b q pos 89 tpK2b D Z O):=by
 obtain⟨_,b1⟩:=K
 cases b1<;>kernel_rfl
theorem RY(j:Nat)(hj:j < 17):lhs 1 [19] (lcR K b q pos 198 (tpK3 j) D Z O)=rhs 19 (lcE q (lcR K b q pos 198 (tpK3 j) D Z O) (.int (nthI lB3 j+(q.p.fdiv 17).fmod (nthI lL3 j)) ((Z 60).tok 0)) [isI (q.p.fmod 17) j ((Z 57).tok 0),isI (q.p.fmod 17) j ((Z 52).tok 0),eqI (q.n.fmod 4) 2 false,eqI (q.n.fmod 4) 1 false,eqI (q.n.fmod 4) 0 false]) (lcR K b q pos 198 (tpK3 j) D Z O):=u0 (n:=17) (f:=λj=>lhs 1 [19] (lcR K b q pos 198 (tpK3 j) D Z O)) (g:=λj=>rhs 19 (lcE q (lcR K b q pos 198 (tpK3 j) D Z O) (.int (nthI lB3 j+(q.p.fdiv 17).fmod (nthI lL3 j)) ((Z 60).tok 0)) [isI (q.p.fmod 17) j ((Z 57).tok 0),isI (q.p.fmod 17) j ((Z 52).tok 0),eqI (q.n.fmod 4) 2 false,eqI (q.n.fmod 4) 1 false,eqI (q.n.fmod 4) 0 false]) (lcR K b q pos 198 (tpK3 j) D Z O)) (by
 obtain⟨_,b1⟩:=K
 cases b1<;>kernel_rfl) j hj
end
def lawCodeZ(n:Int):Int:=
 if n.fmod 4=0 then nthI [97,65,64256] ((n.fdiv 4).fmod 3).toNat+((n.fdiv 4).fdiv 3).fmod (nthI [26,26,7] ((n.fdiv 4).fmod 3).toNat)
 else if n.fmod 4=1 then nthI [32,32,160,8287] ((n.fdiv 4).fmod 4).toNat
 else if n.fmod 4=2 then (if (n.fdiv 4).fmod 2=0 then 64976+((n.fdiv 4).fdiv 2).fmod 32 else 65533+((n.fdiv 4).fdiv 2).fmod 3+65536*((n.fdiv 4).fdiv 6).fmod 17)
 else nthI lB3 ((n.fdiv 4).fmod 17).toNat+((n.fdiv 4).fdiv 17).fmod (nthI lL3 ((n.fdiv 4).fmod 17).toNat)
def zA(a b:Int)(hb:0 < b):0<=a.fmod b/\a.fmod b < b:=by
 rw[Int.fmod_eq_emod_of_nonneg a (Int.le_of_lt hb)]
 exact⟨Int.emod_nonneg _ (Int.ne_of_gt hb),Int.emod_lt_of_pos _ hb⟩
def Va{K:Wd}{W:List (Code × Pos)}{m:Nat}{tl:zb}:∀F,Under (cfg K.P K.V W m tl) F->∀e E,nth [pureX K.P 12 lcOuts] e=some E->ExtOk (cfg K.P K.V W m tl) K.w F E:=λF U=>(AllOk.cons zn .nil).nth
def zO{a b:Int}{v:Bool}{l:Lg}(h:(a==b)=v)(hl:Lg.Ok l):Lg.Ok (eqI a b v::l):=za (by unfold eqI;rw[h]) hl
def wo{a:Int}{j:Nat}{t:Tok}{l:Lg}(h:a=(j:Int))(hl:Lg.Ok l):Lg.Ok (isI a j t::l):=za (by unfold isI;rw[h];rfl) hl
def LcE(q:LcQ)(tl:zb)(s:St):Prop:=∃t,s.cur=.pure (.done (.ret (.int (lawCodeZ q.n) t)))/\s.fs=[]/\s.T=(q.y,q.o)::tl
def wm{K:Wd}{b:Bag}{q:LcQ}{pos:Pos}{N na i:Nat}{tp:List Nat}{v:(Nat->Ch)->Tok}{x:Int}{pc:(Nat->Ch)->Lg}{tl:zb}(htl:∀p∈tl,p.2.isFreed=false)
  (hr:∀D Z O,lhs 1 [i] (lcR K b q pos N tp D Z O)=rhs na (lcE q (lcR K b q pos N tp D Z O) (.int x (v Z)) (pc Z)) (lcR K b q pos N tp D Z O)) (hpc:∀Z,Lg.Ok (pc Z)) (hx:x=lawCodeZ q.n) :
  Seg K (WK ([4,0,3],b)) ⟨denF (lcC q.n q.t),lcC q.n q.t,pos,[],(q.y,q.o)::tl⟩ (LcE q tl):=by
 have h:=Seg.run (K:=K) (lcS K b q pos) (tl:=[]) rfl rfl Va _ [i] hr (by simp[distinct,notIn]) rfl (by decide) (λ_ Z _=>hpc Z) (λ_ _ _=>rfl)
 have h2:=Seg.frame tl htl h
 rw[List.append_nil] at h2
 refine h2.mono ?_
 rintro s ⟨s',⟨D,Z,O⟩⟩
 exact⟨v Z,by rw[<-hx];rfl,rfl,rfl⟩
def y0{a b:Int}(hb:0 < b):((a.fmod b).toNat:Int)=a.fmod b:=Int.toNat_of_nonneg (zA a b hb).1
def Th{K:Wd}{b:Bag}{q:LcQ}{pos:Pos}{tl:zb}(htl:∀p∈tl,p.2.isFreed=false):Seg K (WK ([4,0,3],b)) ⟨denF (lcC q.n q.t),lcC q.n q.t,pos,[],(q.y,q.o)::tl⟩ (LcE q tl):=by
 have h4:=zA q.n 4 (by decide)
 have hne:∀{a b:Int},a≠b->(a==b)=false:=λh=>by simpa using h
 have heq:∀{a b:Int},a=b->(a==b)=true:=λh=>by simpa using h
 by_cases c0:q.n.fmod 4=0
 ·have h3:=zA q.p 3 (by decide)
  have e3:=y0 (a:=q.p) (b:=3) (by decide)
  generalize hj:(q.p.fmod 3).toNat=j at e3
  exact wm htl (RZ K b q pos · · · j (Int.ofNat_lt.mp (by rw[e3];exact h3.2))) (λZ=>wo e3.symm (wo e3.symm (zO (heq c0) zd))) (by unfold lawCodeZ;rw[if_pos c0];unfold LcQ.p at hj ⊢;rw[hj])
 ·by_cases c1:q.n.fmod 4=1
  ·have h3:=zA q.p 4 (by decide)
   have e3:=y0 (a:=q.p) (b:=4) (by decide)
   generalize hj:(q.p.fmod 4).toNat=j at e3
   have:∃i,∀D Z O,lhs 1 [2] (lcR K b q pos 67 (tpK1 j) D Z O)=rhs 2 (lcE q (lcR K b q pos 67 (tpK1 j) D Z O) (.int (nthI [32,32,160,8287] j) ((Z i).tok 0)) [isI (q.p.fmod 4) j ((Z 17).tok 0),eqI (q.n.fmod 4) 1 true,eqI (q.n.fmod 4) 0 false]) (lcR K b q pos 67 (tpK1 j) D Z O):=Tk K b q pos j (Int.ofNat_lt.mp (by rw[e3];exact h3.2))
   obtain⟨i,hi⟩:=this
   exact wm htl hi (λZ=>wo e3.symm (zO (heq c1) (zO (hne c0) zd))) (by unfold lawCodeZ;rw[if_neg c0,if_pos c1];unfold LcQ.p at hj;rw[hj])
  ·by_cases c2:q.n.fmod 4=2
   ·by_cases d:q.p.fmod 2=0
    ·exact wm htl (Tj K b q pos) (λZ=>zO (heq d) (zO (heq c2) (zO (hne c1) (zO (hne c0) zd)))) (by unfold lawCodeZ;rw[if_neg c0,if_neg c1,if_pos c2];unfold LcQ.p at d ⊢;rw[if_pos d])
    ·exact wm htl (Ti K b q pos) (λZ=>zO (hne d) (zO (heq c2) (zO (hne c1) (zO (hne c0) zd)))) (by unfold lawCodeZ;rw[if_neg c0,if_neg c1,if_pos c2];unfold LcQ.p at d ⊢;rw[if_neg d])
   ·have h3:=zA q.p 17 (by decide)
    have e3:=y0 (a:=q.p) (b:=17) (by decide)
    generalize hj:(q.p.fmod 17).toNat=j at e3
    exact wm htl (RY K b q pos · · · j (Int.ofNat_lt.mp (by rw[e3];exact h3.2))) (λZ=>wo e3.symm (wo e3.symm (zO (hne c2) (zO (hne c1) (zO (hne c0) zd))))) (by unfold lawCodeZ;rw[if_neg c0,if_neg c1,if_neg c2];unfold LcQ.p at hj ⊢;rw[hj])
def Ze{prog:Program}{w:World}{A:Around}{s:Shared}{id:String}{B:Builtin}{args:Args}{R:Result->Shared->Prop}(hk:builtinKind id=none)(hp:plainId id=true)(he:entryFor table id=some B)(ha:argsOk id args)
  (h:wpAny (model prog w) A.in1 (B args) (λfin s'=>match fin with | .done f=>R (.ok f) s' | .again c'=>c'.quiet=true/\codeAny (model prog w) A c' R s') (λe s'=>R (.error e) s') s):codeAny (model prog w) A (.call (.builtin id) args) R s:=by
 refine codeAny_call_builtin hp he ?_
 simp only[checkBuiltinCall,hk]
 cases hsig:Manifest.signature? id with
 |none=>exact wpAny_pure h
 |some sig=>
  simp only[argsOk,hsig] at ha
  show wpAny _ A.in1 (Bind.checkArgs id sig args) _ _ s
  rw[ha];exact wpAny_pure h
def uI{prog:Program}{w:World}{A:Around}{s:Shared}{id:String}{B:Builtin}{args:Args}{R:Result->Shared->Prop}{m:Made}(hk:builtinKind id=none)(hp:plainId id=true)(he:entryFor table id=some B)(ha:argsOk id args)
  (g:Gives (B args) m) (h:m.post (λv s'=>R (.ok (.ret v)) s') s):codeAny (model prog w) A (.call (.builtin id) args) R s:=Ze hk hp he ha (g prog w A R s h)
def xChr(c:Nat):Ext:=cnX (M:=Int × Tok) 0 (λ_=>0) (λ_ c _=>(iV (vAt (argC c) 0),tkV (vAt (argC c) 0))) (λ_ u=>.call (.builtin "chr") ⟨[.int u.1 u.2],[]⟩) (λ_ _=>[]) (λ_ u=>[(.i u.1,.i (.ofNat c)),(.b (decide (c<=1114111)),.b true)]) (λ_ _ _ t=>⟨.ok (.ret (.str ⟨#[c]⟩ (t.tok 0))),[],[]⟩)
def Zh{w:World}{tl:zb}{c:Nat}:LeafOk w tl (xChr c):=by
 refine zt λprog s d ⟨n,tn⟩ wh gs _ _ hp=>?_
 have e1:n=.ofNat c:=LV.i.inj (hp _ (.head _))
 have e2:=of_decide_eq_true (LV.b.inj (hp _ (.tail _ (.head _))))
 subst e1
 refine⟨[],.of s.toks,{ s with toks:=s.toks+1 },rfl,zh,uI PySem.F.kind_chr PySem.F.plain_chr PySem.F.entry_chr (PySem.F.args_chr1 _) (gives_chr (.ofNat c) tn ?_) ⟨(by show 1<=sizeLine;decide),rfl,rfl⟩,Eff.toks⟩
 simp only[Int.ofNat_eq_natCast,Bool.or_eq_false_iff,decide_eq_false_iff_not]
 lia
noncomputable def intM(p:Int × Tok):Value:=.int p.1 p.2
def XP{l:List (Int × Tok)}:IntsAre (l.map intM) (l.map (·.1)):=by
 induction l with
 |nil=>exact .nil
 |cons p r ih=>exact .cons p.1 p.2 ih
structure TnM where
 a:Addr
 dd:Option Addr
 l:List (Int × Tok)
 n:Nat
 sl:Array (Option Value)
 k:Int
 t:Tok
def xTupIn:Ext:=cnX (M:=TnM) 1 (λ_=>0) (λ_ c l=>⟨obA l 0,(obO l 0).dict,(flO (obO l 0)).map λv=>(iV v,tkV v),epO (obO l 0),(obO l 0).slots,iV (vAt (argC c) 1),tkV (vAt (argC c) 1)⟩)
 (λ_ u=>.call (.builtin "tuple.__contains__") ⟨[.ref u.a,.int u.k u.t],[]⟩) (λ_ u=>[(u.a,⟨.type "tuple", u.dd,.seq ⟨u.l.map intM⟩ u.n,u.sl⟩)]) (λd u=>[(.b ((u.l.map (·.1)).any (·==u.k)),.b (tfB d))]) (λd _ _ _=>⟨.ok (.ret (.bool (tfB d))),[],[]⟩)
def Z8{w:World}{tl:zb}:LeafOk w tl xTupIn:=by
 refine zt λprog s d ⟨a,dd,l,n,sl,k,t⟩ wh gs hg _ hp=>?_
 have e2:=LV.b.inj (hp _ (.head _))
 have h1:=hg _ (.head _)
 dsimp only at e2
 refine⟨[],.of 0,s,rfl,zh,codeAny_call_builtin PySem.F.slot_tuple_contains.plain PySem.F.entry_tuple_contains (PySem.F.slot_tuple_contains.check _ _ _ _ _ _ _ _ ⟨_,h1,rfl⟩ (PySem.F.args_tuple_contains_2 _ _) (tuple_contains_tree (items:=⟨l.map intM⟩) ⟨_,h1,rfl,n,rfl⟩ XP ?_)),Eff.toks⟩
 exact⟨by rw[e2],rfl⟩
structure TiM where
 a:Addr
 dd:Option Addr
 i:Nat
 ti:Tok
 sl:Array (Option Value)
 l:Addr
 cl:Value
 dl:Option Addr
 vs:Array Value
 ep:Nat
 sll:Array (Option Value)
noncomputable def TiM.it(u:TiM)(l:Value)(i:Nat)(ti:Tok):Obj:=⟨.type "tuple_iterator", u.dd,.fields #[l,.int (.ofNat i) ti],u.sl⟩
def rdTi(l:zb):TiM:=⟨obA l 0,(obO l 0).dict,(iV (vAt (flO (obO l 0)) 1)).toNat,tkV (vAt (flO (obO l 0)) 1),(obO l 0).slots,obA l 1,(obO l 1).cls,(obO l 1).dict,sqO (obO l 1),epO (obO l 1),(obO l 1).slots⟩
def xTNext(v:Value):Ext:=cnX 2 k2 (λ_ _ l=>rdTi l) (λ_ u=>.call (.builtin "tuple_iterator.__next__") ⟨[.ref u.a],[]⟩) (λ_ u=>[(u.a,u.it (.ref u.l) u.i u.ti),(u.l,⟨u.cl,u.dl,.seq u.vs u.ep,u.sll⟩)])
 (λd u=>[(.ov u.vs[u.i]?,.ov (match is1 d with|true=>some v|false=>none))]) (λd u xs _=>match is1 d with
  |true=>⟨.ok (.ret v),[u.it (.ref u.l) (u.i+1) 0],[]⟩
  |false=>⟨.error (.ref (xs.tail.headD 0)),[u.it .none u.i u.ti],[tup0,stopO (xs.headD 0)]⟩)
def Z9{w:World}{tl:zb}{v:Value}:LeafOk w tl (xTNext v):=by
 refine zt λprog s d ⟨a,dd,i,ti,sl,l,cl,dl,vs,ep,sll⟩ wh gs hg _ hp=>?_
 have ha:=hg _ (.head _)
 have hl':=hg _ (.tail _ (.head _))
 have hv:=LV.ov.inj (hp _ (.head _))
 unfold k2
 unfold TiM.it at ha
 dsimp only at hv ha hl' ⊢
 generalize is1 d=z at hv ⊢
 cases z with
 |true=>
  refine⟨[],.of 0,{ s with heap:=s.heap.update a (Obj.mapFields λfs=>fs.setIfInBounds 1 (rawInt ((i:Int)+1))) },rfl,zh,xo PySem.F.slot_tuple_iterator_next PySem.F.entry_tuple_iterator_next ha rfl (PySem.F.args_tuple_iterator_next_1 _) ?_,Eff.upd (tk:=s.toks) ha (by simp[Obj.mapFields,rawInt,TiM.it]) rfl⟩
  show wpAny _ _ (field (.ref a) 0 >>= _) _ _ s
  refine wpAny_bind (wpAny_field ha rfl (x:=.ref l) rfl ?_)
  show wpAny _ _ (if (Value.ref l==Value.none)=true then _ else _) _ _ s
  rw[if_neg (show ¬((Value.ref l==Value.none)=true) from Bool.false_ne_true)]
  show wpAny _ _ (field (.ref a) 1 >>= _) _ _ s
  refine wpAny_bind (wpAny_field ha rfl (x:=.int i ti) rfl ?_)
  show wpAny _ _ (seqItems? (.ref l) >>= _) _ _ s
  refine wpAny_bind (wpAny_seqItems hl' rfl ?_)
  simp only[Int.toNat_natCast,hv]
  exact wpAny_bind (wpAny_setField ha rfl (by simp) (wpAny_pure ⟨_,rfl,rfl,rfl⟩))
 |false=>
  refine⟨[s.heap.objs.size,s.heap.objs.size+1],.of 0,{ s with heap:=((s.heap.update a (Obj.mapFields λfs=>fs.setIfInBounds 0 .none)).push tup0).push (stopO s.heap.objs.size) },rfl,ym,xo PySem.F.slot_tuple_iterator_next PySem.F.entry_tuple_iterator_next ha rfl (PySem.F.args_tuple_iterator_next_1 _) ?_,
   Eff.upd_push2 (tk:=s.toks) ha (by simp[Obj.mapFields,TiM.it]) rfl rfl rfl⟩
  show wpAny _ _ (field (.ref a) 0 >>= _) _ _ s
  refine wpAny_bind (wpAny_field ha rfl (x:=.ref l) rfl ?_)
  show wpAny _ _ (if (Value.ref l==Value.none)=true then _ else _) _ _ s
  rw[if_neg (show ¬((Value.ref l==Value.none)=true) from Bool.false_ne_true)]
  show wpAny _ _ (field (.ref a) 1 >>= _) _ _ s
  refine wpAny_bind (wpAny_field ha rfl (x:=.int i ti) rfl ?_)
  show wpAny _ _ (seqItems? (.ref l) >>= _) _ _ s
  refine wpAny_bind (wpAny_seqItems hl' rfl ?_)
  simp only[Int.toNat_natCast,hv]
  refine wpAny_bind (wpAny_rule (wpAny_bind (wpAny_setField ha rfl (by simp) ?_)))
  refine xS ⟨?_,?_⟩
  ·simp
  ·simp
def retX(s:Stmt):Expr:=(stP s).2.2.2.2.1
def cmpL(e:Expr):Expr:=(exP e).1
noncomputable def sPair:Str:=⟨#[112,97,105,114]⟩
noncomputable def sCode:Str:=⟨#[99,111,100,101]⟩
def lbE:Expr:=cmpL (retX (sAt (fnBody (topS 23)) 1))
structure Pr where
 a:Addr
 lo:Int
 tl:Tok
 hi:Int
 th:Tok
noncomputable def Pr.slot(p:Pr):Addr × Obj:=(p.a,⟨.type "tuple", none,.seq #[.int p.lo p.tl,.int p.hi p.th] 0,#[]⟩)
structure LbL where
 a0:Addr
 cell:Addr
 tup:Addr
 it:Addr
 acc:Addr
 dct:Addr
 c:Nat
 tc:Tok
 vs:Array Value
def LbL.env(z:LbL):Env:={ scope:=⟨.function,[(sDot0,.«local»),(sPair,.«local»),(sCode,.cell)],false,false,[]⟩,locals:=z.dct,globals:=3,cells:=[(sCode,z.cell)],qual:=⟨#[95,108,97,119,95,105,115,95,98,97,114,114,101,100,46,60,108,111,99,97,108,115,62,46]⟩,func:=none,code:=.ref 337,frame:=some z.a0,builtins:=0 }
def LbL.code(z:LbL):Code:=.compLoop lbE 0 (.ref z.it) (.ref z.acc) z.env
def LbL.start(z:LbL):Code:=.compStart lbE 0 (.ref z.it) (.ref z.acc) z.env
noncomputable def dictO(l:List DictEntry)(ep:Nat):Obj:=⟨.type "dict", none,.dict ⟨l⟩ ep,#[]⟩
noncomputable def cellO(v:Value):Obj:=⟨.type "cell", none,.cell (some v),#[]⟩
noncomputable def tupIt(t:Addr)(i:Nat):Obj:=⟨.type "tuple_iterator", none,.fields #[.ref t,.int (.ofNat i) 0],#[]⟩
noncomputable def tupV(vs:Array Value):Obj:=⟨.type "tuple", none,.seq vs 0,#[]⟩
def lbDc(P:Params):Option (Value × Tok)->Obj
 |none=>dictO [] 0
 |some (v,t)=>dictO [ent P sPair t v] 1
def lbS(K:Wd)(W:List (Code × Pos))(z:LbL)(x:Option (Value × Tok))(ao:Obj)(i:Nat)(p:Pr)(pos:Pos):Start:=
 mkS K W 6 [] [pureX K.P 8 [],xTNext (.ref p.a)] [(z.dct,lbDc K.P x),(z.acc,ao),(z.it,tupIt z.tup i),(z.tup,tupV z.vs),(z.cell,cellO (.int (.ofNat z.c) z.tc)),p.slot] z.code pos
noncomputable def leI(a b:Int)(v:Bool):LV × LV:=(.v (.bool (decide (a<=b))),.v (.bool v))
noncomputable def lbX(x:Option (Value × Tok))(v:Value)(t:Tok):Option (Value × Tok):=match x with
 |none=>some (v,t)
 |some (_,t')=>some (v,t')
noncomputable def tpLb0:List Nat:=[7,2,1,7,5,11,5,11,1,1,1,0,1,1,3,1,1]
noncomputable def tpLb1:List Nat:=[7,2,1,7,5,11,5,11,1,1,1,0,1,1,3,1,2,11,1,1,1,0,1,1,1,1]
noncomputable def tpLb2:List Nat:=[7,2,1,7,5,11,5,11,1,1,1,0,1,1,3,1,2,11,1,1,1,0,1,1,1,2,11,0,9,9,4,9]
section
variable (K:Wd) (W:List (Code × Pos)) (z:LbL) (x:Option (Value × Tok)) (ao:Obj) (i:Nat) (p:Pr) (pos:Pos) (D:Nat->Addr) (Z:Nat->Ch) (O:Nat->Nat)
def lbR(N:Nat)(tp:List Nat):Option Out:=(lbS K W z x ao i p pos).run D Z O N tp
noncomputable def lbPcN(z:LbL)(i:Nat)(p:Pr):LV × LV:=(.ov z.vs[i]?,.ov (some (.ref p.a)))
def lbE1(ps:Pos)(acc:Obj)(pc:Lg):Exp:=⟨.pure (.again z.code),z.code,ps,[],[(z.dct,lbDc K.P (lbX x (.ref p.a) ((Z 1).tok 0))),(z.acc,acc),(z.it,tupIt z.tup (i+1)),(z.tup,tupV z.vs),(z.cell,cellO (.int (.ofNat z.c) z.tc)),p.slot],[],pc⟩
theorem Qc:lhs 6 [0,1,2,3,4,5] (lbR K W z x ao i p pos D Z O 27 tpLb0)=rhs 0 (lbE1 K z x i p Z ⟨155,39,155,65⟩ ao [leI p.lo (.ofNat z.c) false,lbPcN z i p]) (lbR K W z x ao i p pos D Z O 27 tpLb0):=by
 obtain⟨_,b1⟩:=K
 cases b1<;>cases x<;>kernel_rfl
theorem Qb:lhs 6 [0,1,2,3,4,5] (lbR K W z x ao i p pos D Z O 42 tpLb1)=rhs 0 (lbE1 K z x i p Z ⟨155,39,155,65⟩ ao [leI (.ofNat z.c) p.hi false,leI p.lo (.ofNat z.c) true,lbPcN z i p]) (lbR K W z x ao i p pos D Z O 42 tpLb1):=by
 obtain⟨_,b1⟩:=K
 cases b1<;>cases x<;>kernel_rfl
theorem Qa:lhs 6 [0,1,2,3,4,5] (lbR K W z x (listO #[] 0) i p pos D Z O 51 tpLb2)=rhs 0 (lbE1 K z x i p Z ⟨155,12,155,16⟩ (listO #[.ref p.a] 1) [leI (.ofNat z.c) p.hi true,leI p.lo (.ofNat z.c) true,lbPcN z i p]) (lbR K W z x (listO #[] 0) i p pos D Z O 51 tpLb2):=by
 obtain⟨_,b1⟩:=K
 cases b1<;>cases x<;>kernel_rfl
def lbSE:Start:=mkS K W 5 [] [pureX K.P 8 [],xTNext .none] [(z.dct,lbDc K.P x),(z.acc,ao),(z.it,tupIt z.tup i),(z.tup,tupV z.vs),(z.cell,cellO (.int (.ofNat z.c) z.tc))] z.code pos
def lbRE:Option Out:=(lbSE K W z x ao i pos).run D Z O 4 [5,2,0,5,3,13]
def lb_rEX:Exp:=⟨.pure (.done .next),z.code,⟨155,29,155,35⟩,[],[(z.dct,lbDc K.P x),(z.acc,ao)],[],[(.ov z.vs[i]?,.ov none)]⟩
theorem R7:lhs 5 [2,3] (lbRE K W z x ao i pos D Z O)=rhs 2 (lb_rEX K z x ao i) (lbRE K W z x ao i pos D Z O):=by
 obtain⟨_,b1⟩:=K
 cases b1<;>cases x<;>kernel_rfl
end
def accO:Option Addr->Obj
 |none=>listO #[] 0
 |some a=>listO #[.ref a] 1
noncomputable def insB(c:Nat)(p:Pr):Bool:=decide (p.lo<=(c:Int)) && decide ((c:Int)<=p.hi)
def LbT(K:Wd)(z:LbL)(x:Option (Value × Tok))(m:Option Addr)(i:Nat)(prs:List Pr):zb:=[(z.dct,lbDc K.P x),(z.acc,accO m),(z.it,tupIt z.tup i),(z.tup,tupV z.vs),(z.cell,cellO (.int (.ofNat z.c) z.tc))]++prs.map Pr.slot
def ZF{K:Wd}{W:List (Code × Pos)}{m:Nat}{tl:zb}{v:Value}:∀F,Under (cfg K.P K.V W m tl) F->∀e E,nth [pureX K.P 8 [],xTNext v] e=some E->ExtOk (cfg K.P K.V W m tl) K.w F E:=λF U=>(AllOk.cons zn (.cons (.leaf U Z9) .nil)).nth
def y5{a b:Int}{v:Bool}{l:Lg}(h:decide (a<=b)=v)(hl:Lg.Ok l):Lg.Ok (leI a b v::l):=za (by unfold leI;rw[h]) hl
def uh(prs:List Pr):∀p∈prs.map Pr.slot,p.2.isFreed=false:=λp hp=>by
 obtain⟨q,_,rfl⟩:=List.mem_map.mp hp
 rfl
def Vb{K:Wd}{W:List (Code × Pos)}{z:LbL}{x:Option (Value × Tok)}{m:Option Addr}{i:Nat}{p:Pr}{pre post:List Pr}{pos:Pos}(hv:z.vs[i]?=some (.ref p.a))(hm:insB z.c p=true->m=none) :
  Seg K W ⟨denF z.code,z.code,pos,[],LbT K z x m i (pre++p::post)⟩ (λs=>∃x' p',s=⟨.pure (.again z.code),z.code,p',[],LbT K z x' (match insB z.c p with|true=>some p.a|false=>m) (i+1) (pre++p::post)⟩):=by
 have hN:Lg.Ok [lbPcN z i p]:=za (by show LV.ov z.vs[i]?=_;rw[hv];rfl) zd
 have perm:∀(a b c d e:Addr × Obj),List.Perm ([a,b,c,d,e]++(pre++p::post).map Pr.slot) ([a,b,c,d,e,p.slot]++(pre++post).map Pr.slot):=λa b c d e=>by
  show List.Perm ([a,b,c,d,e]++(pre++p::post).map Pr.slot) ([a,b,c,d,e]++(p.slot::(pre++post).map Pr.slot))
  refine List.Perm.append_left _ ?_
  rw[<-List.map_cons]
  exact(List.perm_middle).map _
 have go:∀{ao:Obj} {N:Nat} {tp:List Nat} {ps:Pos} {acc:Obj} {pc:Lg} {m':Option Addr},ao=accO m->acc=accO m'->(∀D Z O,lhs 6 [0,1,2,3,4,5] (lbR K W z x ao i p pos D Z O N tp)=rhs 0 (lbE1 K z x i p Z ps acc pc) (lbR K W z x ao i p pos D Z O N tp))->Lg.Ok pc->
   Seg K W ⟨denF z.code,z.code,pos,[],LbT K z x m i (pre++p::post)⟩ (λs=>∃x' p',s=⟨.pure (.again z.code),z.code,p',[],LbT K z x' m' (i+1) (pre++p::post)⟩):=λ{ao N tp ps acc pc m'} e1 e2 hr hpc=>by
  subst e1 e2
  have h:=Seg.run (K:=K) (lbS K W z x (accO m) i p pos) (tl:=[]) rfl rfl ZF _ [0,1,2,3,4,5] hr (by decide) rfl (by decide) (λ_ _ _=>hpc) (λ_ _ _=>rfl)
  have h2:=Seg.frame ((pre++post).map Pr.slot) (uh _) h
  rw[List.append_nil] at h2
  refine Seg.perm (perm _ _ _ _ _) (h2.swap ?_)
  rintro s ⟨s',⟨D,Z,O⟩⟩
  refine⟨LbT K z (lbX x (.ref p.a) ((Z 1).tok 0)) m' (i+1) (pre++p::post),?_,lbX x (.ref p.a) ((Z 1).tok 0),ps,rfl⟩
  unfold lbE1
  dsimp only
  rw[List.append_nil]
  exact(perm _ _ _ _ _).symm
 by_cases h1:p.lo<=(z.c:Int)
 ·by_cases h2:(z.c:Int)<=p.hi
  ·have hi:insB z.c p=true:=by unfold insB;rw[decide_eq_true h1,decide_eq_true h2];rfl
   have hm':=hm hi
   rw[hi]
   subst hm'
   exact go rfl rfl (Qa K W z x i p pos) (y5 (decide_eq_true h2) (y5 (decide_eq_true h1) hN))
  ·have hi:insB z.c p=false:=by unfold insB;rw[decide_eq_true h1,decide_eq_false h2];rfl
   rw[hi]
   exact go rfl rfl (Qb K W z x _ i p pos) (y5 (decide_eq_false h2) (y5 (decide_eq_true h1) hN))
 ·have hi:insB z.c p=false:=by unfold insB;rw[decide_eq_false h1];rfl
  rw[hi]
  exact go rfl rfl (Qc K W z x _ i p pos) (y5 (decide_eq_false h1) hN)
def Vc{K:Wd}{W:List (Code × Pos)}{z:LbL}:∀(post pre:List Pr) (x:Option (Value × Tok)) (m:Option Addr) (pos:Pos),z.vs=((pre++post).map λp=>Value.ref p.a).toArray->
  (post.filter (insB z.c)).length+(if m.isSome then 1 else 0)<=1->
  Seg K W ⟨denF z.code,z.code,pos,[],LbT K z x m pre.length (pre++post)⟩ (λs=>∃x' m',s.cur=.pure (.done .next)/\s.fs=[]/\s.T=[(z.dct,lbDc K.P x'),(z.acc,accO m')]/\m'.isSome=(m.isSome || post.any (insB z.c))):=by
 intro post
 induction post with
 |nil=>
  rintro pre x m pos hvs _
  have hnone:z.vs[pre.length]?=none:=by rw[hvs];simp
  have h:=Seg.run (K:=K) (lbSE K W z x (accO m) pre.length pos) (tl:=[]) rfl rfl ZF _ [2,3] (R7 K W z x (accO m) pre.length pos) (by decide) rfl (by decide) (λ_ _ _=>za (by rw[hnone]) zd) (λ_ _ _=>rfl)
  rw[List.append_nil] at h
  refine Seg.pre (T:=(lbSE K W z x (accO m) pre.length pos).T) (rest:=(pre++[]).map Pr.slot) (List.Perm.refl _) (λ_ _ _=>trivial) (h.mono ?_)
  rintro s ⟨D,Z,O⟩
  exact⟨x,m,rfl,rfl,rfl,by simp⟩
 |cons p post IH=>
  rintro pre x m pos hvs hone
  have hv:z.vs[pre.length]?=some (.ref p.a):=by rw[hvs];simp
  have hm:insB z.c p=true->m=none:=λhi=>by
   rw[List.filter_cons_of_pos hi,List.length_cons] at hone
   cases m with
   |none=>rfl
   |some a=>simp at hone
  refine(Vb hv hm).trans ?_
  rintro s ⟨x',p',rfl⟩
  have e:pre++p::post=(pre++[p])++post:=by simp
  have el:pre.length+1=(pre++[p]).length:=by simp
  rw[e,el]
  refine Seg.again rfl ((IH (pre++[p]) x' _ p' (by rw[hvs,e]) ?_).mono ?_)
  ·cases hi:insB z.c p with
   |true=>rw[List.filter_cons_of_pos hi,List.length_cons] at hone;have:=hm hi;subst this;simp at hone ⊢;omega
   |false=>rw[List.filter_cons_of_neg (by simp[hi])] at hone;exact hone
  ·rintro s ⟨x'',m',e1,e2,e3,e4⟩
   refine⟨x'',m',e1,e2,e3,?_⟩
   rw[e4,List.any_cons]
   cases hi:insB z.c p with
   |true=>simp
   |false=>simp
noncomputable def lOf(o:Option Out):List Value:=match o with
 |some o=>match o.cur with
  | .call _ _ _ l _=>l
  | _=>[]
 |none=>[]
structure LtQ where
 c:Nat
 t:Tok
 y:Addr
 o:Obj
noncomputable def lbC(c:Nat)(t:Tok):Code:=.call (.ref 338) ⟨[.int (.ofNat c) t],[]⟩
def lbSA(K:Wd)(b:Bag)(q:LtQ)(pos:Pos):Start:=mkS K (WK ([0,4,0,0,3],b)) 1 [] [] [(q.y,q.o)] (lbC q.c q.t) pos
def lbSS(K:Wd)(W:List (Code × Pos))(z:LbL)(pos:Pos):Start:=mkS K W 1 [] [] [(z.it,tupIt z.tup 0)] z.start pos
def R3(K:Wd)(W:List (Code × Pos))(z:LbL)(pos:Pos):∃N tp p,∀D Z O,lhs 1 [0] ((lbSS K W z pos).run D Z O N tp)=rhs 0 ⟨.pure (.again z.code),z.start,p,[],[(z.it,tupIt z.tup 0)],[],[]⟩ ((lbSS K W z pos).run D Z O N tp):=by
 obtain⟨w,b1,b2,V0,hw⟩:=K
 cases b2
 ·exact⟨11,[1,1,0,1,1],⟨155,29,155,35⟩,λD Z O=>by cases b1<;>kernel_rfl⟩
 ·exact⟨1,[],pos,λD Z O=>by cases b1<;>kernel_rfl⟩
noncomputable def tpLbA:List Nat:=[676,674,5,2,4,3,1,3,23,23,0,23,25]
noncomputable def lbPrs(D:Nat->Addr)(Z:Nat->Ch):List Pr:=[⟨D 2,832,(Z 0).tok 0,833,(Z 1).tok 0⟩,⟨D 3,8206,(Z 2).tok 0,8207,(Z 3).tok 0⟩,⟨D 4,8234,(Z 4).tok 0,8238,(Z 5).tok 0⟩,⟨D 5,8298,(Z 6).tok 0,8303,(Z 7).tok 0⟩,
 ⟨D 6,12272,(Z 8).tok 0,12283,(Z 9).tok 0⟩,⟨D 7,65529,(Z 10).tok 0,65533,(Z 11).tok 0⟩,⟨D 8,917505,(Z 12).tok 0,917505,(Z 13).tok 0⟩,⟨D 9,917536,(Z 14).tok 0,917631,(Z 15).tok 0⟩]
noncomputable def lbZ(q:LtQ)(D:Nat->Addr):LbL:=⟨D 0,D 1,D 10,D 11,D 12,D 13,q.c,q.t,#[.ref (D 2),.ref (D 3),.ref (D 4),.ref (D 5),.ref (D 6),.ref (D 7),.ref (D 8),.ref (D 9)]⟩
section
variable (K:Wd) (b:Bag) (q:LtQ) (pos:Pos) (D0:Nat->Addr) (τ0:Nat->Ch) (O0:Nat->Nat) (x:Option (Value × Tok)) (m:Option Addr) (D:Nat->Addr) (Z:Nat->Ch) (O:Nat->Nat)
def lbRA:Option Out:=(lbSA K b q pos).run D Z O 67 tpLbA
def lbXA:Exp:=⟨.call (lbZ q D).start none true (lOf (lbRA K b q pos D Z O)) (kOf (lbRA K b q pos D Z O)),(eo (lbRA K b q pos D Z O)).code,⟨155,29,155,35⟩,[],LbT K (lbZ q D) none none 0 (lbPrs D Z)++[(q.y,q.o)],[],[]⟩
theorem R9:lhs 1 [0,1,2,3,12,11,10,9,8,7,6,5,4,14] (lbRA K b q pos D Z O)=rhs 14 (lbXA K b q pos D Z O) (lbRA K b q pos D Z O):=by
 obtain⟨_,b1⟩:=K
 cases b1<;>kernel_rfl
def lbSB:Start:=⟨cfg K.P K.V (WK ([0,4,0,0,3],b)) 2 [],[],[((lbZ q D0).dct,lbDc K.P x),((lbZ q D0).acc,accO m)],[],kOf (lbRA K b q pos D0 τ0 O0) (.ok .next),(eo (lbRA K b q pos D0 τ0 O0)).code,⟨155,29,155,35⟩,[]⟩
noncomputable def tpLbB(x:Option (Value × Tok))(m:Option Addr):List Nat:=(match x with
 |none=>[3]
 |some _=>[3,3,1])++[1,5,1,0,1,5,1,5]++(match m with
 |none=>[1,5,1,5]
 |some _=>[])
noncomputable def lbNB(x:Option (Value × Tok))(m:Option Addr):Nat:=(match x with
 |none=>18
 |some _=>22)+(match m with
 |none=>4
 |some _=>0)
def lbRB:Option Out:=(lbSB K b q pos D0 τ0 O0 x m).run D Z O (lbNB x m) (tpLbB x m)
def lb_rBX:Exp:=⟨.pure (.done (.ret (.bool m.isSome))),(eo (lbRB K b q pos D0 τ0 O0 x m D Z O)).code,(eo (lbRB K b q pos D0 τ0 O0 x m D Z O)).pos,[],[],[],[]⟩
theorem R8:lhs 2 [] (lbRB K b q pos D0 τ0 O0 x m D Z O)=rhs 1 (lb_rBX K b q pos D0 τ0 O0 x m D Z O) (lbRB K b q pos D0 τ0 O0 x m D Z O):=by
 obtain⟨_,b1⟩:=K
 cases b1<;>cases x<;>cases m<;>kernel_rfl
end
def ur{K:Wd}{W:List (Code × Pos)}{z:LbL}{pos:Pos}{R:zb}(hR:∀p∈R,p.2.isFreed=false):Seg K W ⟨denF z.start,z.start,pos,[],(z.it,tupIt z.tup 0)::R⟩ (λs=>∃p,s=⟨.pure (.again z.code),z.start,p,[],(z.it,tupIt z.tup 0)::R⟩):=by
 obtain⟨N,tp,p,hr⟩:=R3 K W z pos
 have h:=Seg.run (K:=K) (lbSS K W z pos) (tl:=[]) rfl rfl zH _ [0] hr (by decide) rfl (by decide) (λ_ _ _=>zd) (λ_ _ _=>rfl)
 have h2:=Seg.frame R hR h
 rw[List.append_nil] at h2
 refine h2.mono ?_
 rintro s ⟨s',⟨D,Z,O⟩⟩
 exact⟨p,rfl⟩
noncomputable def lawPairs:List (Int × Int):=[(832,833),(8206,8207),(8234,8238),(8298,8303),(12272,12283),(65529,65533),(917505,917505),(917536,917631)]
def lawBarred(c:Nat):Bool:=lawPairs.any λp=>decide (p.1<=(c:Int)) && decide ((c:Int)<=p.2)
theorem Xn(c:Nat):∀l:List Pr,l.Pairwise (λx y=>x.hi < y.lo)->(l.filter (insB c)).length<=1
 |[],_=>Nat.zero_le 1
 |x::l,h=>by
  obtain⟨h1,h2⟩:=List.pairwise_cons.mp h
  cases hx:insB c x with
  |false=>rw[List.filter_cons_of_neg (by rw[hx];decide)];exact Xn c l h2
  |true=>
   rw[List.filter_cons_of_pos hx,List.filter_eq_nil_iff.mpr λy hy hc=>?_]
   ·exact Nat.le_refl 1
   ·have e1:=of_decide_eq_true (Bool.and_eq_true_iff.mp hx).2
    have e2:=of_decide_eq_true (Bool.and_eq_true_iff.mp hc).1
    exact Int.lt_irrefl _ (Int.lt_of_lt_of_le (Int.lt_of_le_of_lt e1 (h1 y hy)) e2)
def YG(c:Nat)(D:Nat->Addr)(Z:Nat->Ch):((lbPrs D Z).filter (insB c)).length<=1:=Xn c _ (by
 have:(List.map (λp:Pr=>(p.lo,p.hi)) (lbPrs D Z)).Pairwise (λx y=>x.2 < y.1):=by
  show ([(832,833),(8206,8207),(8234,8238),(8298,8303),(12272,12283),(65529,65533),(917505,917505),(917536,917631)]:List (Int × Int)).Pairwise _
  decide
 exact List.pairwise_map.mp this)
def LtE(q:LtQ)(tl:zb)(P:Value->Prop)(s:St):Prop:=∃v,P v/\s.cur=.pure (.done (.ret v))/\s.fs=[]/\s.T=(q.y,q.o)::tl
def Tl{K:Wd}{b:Bag}{q:LtQ}{pos:Pos}{tl:zb}(htl:∀p∈tl,p.2.isFreed=false)(ho:q.o.isFreed=false):Seg K (WK ([0,4,0,0,3],b)) ⟨denF (lbC q.c q.t),lbC q.c q.t,pos,[],(q.y,q.o)::tl⟩ (LtE q tl λv=>v=.bool (lawBarred q.c)):=by
 have hA:=Seg.frame tl htl (Seg.run (K:=K) (lbSA K b q pos) (tl:=[]) rfl rfl zH _ [0,1,2,3,12,11,10,9,8,7,6,5,4,14] (R9 K b q pos) (by decide) rfl (by decide) (λ_ _ _=>zd) (λ_ _ _=>rfl))
 rw[List.append_nil] at hA
 refine hA.trans ?_
 rintro s ⟨s',⟨D,Z,O⟩⟩
 have hR:∀p∈(q.y,q.o)::tl,p.2.isFreed=false:=λp hp=>by
  rcases List.mem_cons.mp hp with rfl|hp
  ·exact ho
  ·exact htl p hp
 have hlive:∀p∈([((lbZ q D).dct,lbDc K.P none),((lbZ q D).acc,accO none),((lbZ q D).tup,tupV (lbZ q D).vs),((lbZ q D).cell,cellO (.int (.ofNat (lbZ q D).c) (lbZ q D).tc))]++(lbPrs D Z).map Pr.slot)++((q.y,q.o)::tl),p.2.isFreed=false:=λp hp=>by
  rcases List.mem_append.mp hp with hp|hp
  ·rcases List.mem_append.mp hp with hp|hp
   ·simp only[List.mem_cons,List.not_mem_nil,or_false] at hp
    rcases hp with rfl|rfl|rfl|rfl<;>rfl
   ·exact uh _ p hp
  ·exact hR p hp
 have hin:∀W,Seg K W ⟨denF (lbZ q D).start,(lbZ q D).start,⟨155,29,155,35⟩,[],LbT K (lbZ q D) none none 0 (lbPrs D Z)++((q.y,q.o)::tl)⟩ (λs=>∃x' m',s.cur=.pure (.done .next)/\s.fs=[]/\s.T=[((lbZ q D).dct,lbDc K.P x'),((lbZ q D).acc,accO m')]++((q.y,q.o)::tl)/\m'.isSome=lawBarred q.c):=λW=>by
  have h1:=ur (K:=K) (W:=W) (z:=lbZ q D) (pos:=⟨155,29,155,35⟩) hlive
  refine Seg.perm (a:=⟨_,_,_,[],_⟩) ?_ (h1.trans ?_)
  ·unfold LbT
   exact List.perm_middle (l₁:=[((lbZ q D).dct,lbDc K.P none),((lbZ q D).acc,accO none)])
  ·rintro s ⟨p,rfl⟩
   refine Seg.again rfl ?_
   have h2:=Seg.frame ((q.y,q.o)::tl) hR (Vc (K:=K) (W:=W) (z:=lbZ q D) (lbPrs D Z) [] none none p rfl (YG q.c D Z))
   refine Seg.perm (a:=⟨_,_,_,[],_⟩) ?_ (h2.mono ?_)
   ·exact(List.perm_middle (l₁:=[((lbZ q D).dct,lbDc K.P none),((lbZ q D).acc,accO none)])).symm
   ·rintro s ⟨s',⟨x',m',e1,e2,e3,e4⟩⟩
    exact⟨x',m',e1,e2,by rw[e3],by rw[e4];rfl⟩
 have eT:(lbXA K b q pos D Z O).T++[]++tl=LbT K (lbZ q D) none none 0 (lbPrs D Z)++((q.y,q.o)::tl):=by
  unfold lbXA
  dsimp only
  rw[List.append_nil,List.append_assoc];rfl
 refine Seg.call (B':=λs=>∃x' m',s.cur=.pure (.done .next)/\s.fs=[]/\s.T=[((lbZ q D).dct,lbDc K.P x'),((lbZ q D).acc,accO m')]++((q.y,q.o)::tl)/\m'.isSome=lawBarred q.c) rfl ?_ ?_
 ·have:=hin (((lbXA K b q pos D Z O).code,(lbXA K b q pos D Z O).pos)::(([]:List Frame).map Frame.where_++WK ([0,4,0,0,3],b)))
  rw[<-eT] at this
  exact this
 ·rintro s ⟨x',m',e1,e2,e3,e4⟩
  refine⟨e2,.ok .next,e1,?_⟩
  rw[e3]
  have h:=Seg.frame ((q.y,q.o)::tl) hR (Seg.run (K:=K) (lbSB K b q pos D Z O x' m') (tl:=[]) rfl rfl zH _ [] (R8 K b q pos D Z O x' m') (by decide) rfl (by decide) (λ_ _ _=>zd) (λ_ _ _=>rfl))
  rw[List.append_nil] at h
  refine h.mono ?_
  rintro s ⟨s',⟨α',τ',γ'⟩⟩
  exact⟨_,by rw[e4],rfl,rfl,rfl⟩
noncomputable def ltRd(d:Nat)(c:Code)(objs:zb):Option LtQ:=match c with
 | .call _ ⟨[.int (.ofNat c) t],[]⟩=>match objs with
  |[(y,o)]=>some ⟨c,t,y,o⟩
  | _=>none
 | _=>none
noncomputable def liveB(o:Obj):LV × LV:=(.b o.isFreed,.b false)
def xBarred:Ext:=fnX 1 (λ_=>0) (shk [[0,4,0,0,3]]) ltRd (λ_ _ q=>lbC q.c q.t) (λ_ _ q=>[(q.y,q.o)]) (λd _ q=>[pcT (lawBarred q.c) (tfB d),liveB q.o])
 (λd _ q _ _=>⟨.ok (.ret (.bool (tfB d))),[q.o],[]⟩)
def uT{K:Wd}{W:List (Code × Pos)}{n:Nat}{tl:zb}{F:List Frame}(U:Under (cfg K.P K.V W n tl) F)(htl:∀p∈tl,p.2.isFreed=false):ExtOk (cfg K.P K.V W n tl) K.w F xBarred:=by
 refine ExtOk.fn U htl WK (λx=>x.1∈[[0,4,0,0,3]]) (λwh x h=>z8 h) (λd c objs x q xs t h=>rfl) ?_
 rintro d ⟨ks,b⟩ q hk hpc _ pos
 have hk:ks=[0,4,0,0,3]:=by simpa using hk
 subst hk
 have e:=LV.b.inj (hpc _ (.head _))
 have e2:=LV.b.inj (hpc _ (.tail _ (.head _)))
 refine(Tl htl e2).mono ?_
 rintro s ⟨v,rfl,h1,h2,h3⟩
 refine⟨[],.of 0,rfl,rfl,?_,h2,?_⟩
 ·rw[h1,e];rfl
 ·rw[h3];rfl
noncomputable def ltC(c:Nat)(t:Tok):Code:=.call (.ref 345) ⟨[.int (.ofNat c) t],[]⟩
def ltX(K:Wd)(c2:Nat):List Ext:=[pureX K.P 12 lcOuts,xTupIn,xChr c2,xBarred]
def ltS(K:Wd)(b:Bag)(q:LtQ)(c2:Nat)(pos:Pos):Start:=mkS K (WK ([4,0,0,3],b)) 1 [] (ltX K c2) [(q.y,q.o)] (ltC q.c q.t) pos
def ltR(K:Wd)(b:Bag)(q:LtQ)(c2:Nat)(pos:Pos)(N:Nat)(tp:List Nat)(D:Nat->Addr)(Z:Nat->Ch)(O:Nat->Nat):Option Out:=(ltS K b q c2 pos).run D Z O N tp
def ltEx(q:LtQ)(r:Option Out)(v:Value)(pc:Lg):Exp:=⟨.pure (.done (.ret v)),(eo r).code,(eo r).pos,[],[(q.y,q.o)],[],pc⟩
noncomputable def ltGe(c:Nat)(v:Bool):LV × LV:=(.v (.bool (decide ((Int.ofNat c).fmod 65536≥65534))),.v (.bool v))
noncomputable def ltTup(c:Nat)(v:Bool):LV × LV:=(.b (([173,847,6150,6155,6156,6157,8203,8204,8205,8288,65279]:List Int).any (·==Int.ofNat c)),.b v)
noncomputable def ltSub(c j:Nat)(t:Tok):LV × LV:=(.v (.int (Int.ofNat c - 64256) t),.v (.int (.ofNat j) t))
noncomputable def ltChr(n:Int)(c2:Nat):Lg:=[(.i n,.i (.ofNat c2)),(.b (decide (c2<=1114111)),.b true)]
noncomputable def ltLig:Nat->Str
 |0=>⟨#[102,102]⟩
 |1=>⟨#[102,105]⟩
 |2=>⟨#[102,108]⟩
 |3=>⟨#[102,102,105]⟩
 |4=>⟨#[102,102,108]⟩
 | _=>⟨#[115,116]⟩
section
variable (K:Wd) (b:Bag) (q:LtQ) (c2:Nat) (pos:Pos) (D:Nat->Addr) (Z:Nat->Ch) (O:Nat->Nat)
noncomputable def tpLt_nl1:List Nat:=[690,688,3,1,4,3,1,0,1,2]
theorem Tb:lhs 1 [1] (ltR K b q c2 pos 23 tpLt_nl1 D Z O)=rhs 1 (ltEx q (ltR K b q c2 pos 23 tpLt_nl1 D Z O) (.str ⟨#[10]⟩ ((Z 5).tok 0)) ([ltGe q.c true])) (ltR K b q c2 pos 23 tpLt_nl1 D Z O):=by
 obtain⟨_,b1⟩:=K
 cases b1<;>kernel_rfl
noncomputable def tpLt_nl2:List Nat:=[690,688,3,1,4,3,1,0,1,1,3,1,2,1,2]
theorem Ta:lhs 1 [1] (ltR K b q c2 pos 33 tpLt_nl2 D Z O)=rhs 1 (ltEx q (ltR K b q c2 pos 33 tpLt_nl2 D Z O) (.str ⟨#[10]⟩ ((Z 9).tok 0)) ([leI (.ofNat q.c) 65007 true]++[leI 64976 (.ofNat q.c) true]++[ltGe q.c false])) (ltR K b q c2 pos 33 tpLt_nl2 D Z O):=by
 obtain⟨_,b1⟩:=K
 cases b1<;>kernel_rfl
noncomputable def tpLt_e1:List Nat:=[690,688,3,1,4,3,1,0,1,1,3,1,1,3,5,5,2,1,5]
theorem RC:lhs 1 [2] (ltR K b q c2 pos 49 tpLt_e1 D Z O)=rhs 2 (ltEx q (ltR K b q c2 pos 49 tpLt_e1 D Z O) (.str ⟨#[]⟩ ((Z 19).tok 0)) ([ltTup q.c true]++[leI 64976 (.ofNat q.c) false]++[ltGe q.c false])) (ltR K b q c2 pos 49 tpLt_e1 D Z O):=by
 obtain⟨_,b1⟩:=K
 cases b1<;>kernel_rfl
noncomputable def tpLt_e1b:List Nat:=[690,688,3,1,4,3,1,0,1,1,3,1,2,1,1,3,5,5,2,1,5]
theorem Tc:lhs 1 [2] (ltR K b q c2 pos 53 tpLt_e1b D Z O)=rhs 2 (ltEx q (ltR K b q c2 pos 53 tpLt_e1b D Z O) (.str ⟨#[]⟩ ((Z 21).tok 0)) ([ltTup q.c true]++[leI (.ofNat q.c) 65007 false]++[leI 64976 (.ofNat q.c) true]++[ltGe q.c false])) (ltR K b q c2 pos 53 tpLt_e1b D Z O):=by
 obtain⟨_,b1⟩:=K
 cases b1<;>kernel_rfl
noncomputable def tpLt_e2:List Nat:=[690,688,3,1,4,3,1,0,1,1,3,1,2,1,1,3,5,5,2,0,5,3,1,2,1,2]
theorem RA:lhs 1 [2] (ltR K b q c2 pos 63 tpLt_e2 D Z O)=rhs 2 (ltEx q (ltR K b q c2 pos 63 tpLt_e2 D Z O) (.str ⟨#[]⟩ ((Z 25).tok 0)) ([leI (.ofNat q.c) 65039 true]++[leI 65024 (.ofNat q.c) true]++[ltTup q.c false]++[leI (.ofNat q.c) 65007 false]++[leI 64976 (.ofNat q.c) true]++[ltGe q.c false])) (ltR K b q c2 pos 63 tpLt_e2 D Z O):=by
 obtain⟨_,b1⟩:=K
 cases b1<;>kernel_rfl
noncomputable def tpLt_bar3:List Nat:=[690,688,3,1,4,3,1,0,1,1,3,1,1,3,5,5,2,0,5,3,1,1,6,3,676,4,1,3,6,0,3,3,0,0]
theorem W0:lhs 1 [2] (ltR K b q c2 pos 79 tpLt_bar3 D Z O)=rhs 2 (ltEx q (ltR K b q c2 pos 79 tpLt_bar3 D Z O) (.str ⟨#[32,c2]⟩ ((Z 24).tok 0)) (ltChr (.ofNat q.c) c2++[pcT (lawBarred q.c) true,(.b false,.b false)]++[leI 65024 (.ofNat q.c) false]++[ltTup q.c false]++[leI 64976 (.ofNat q.c) false]++[ltGe q.c false])) (ltR K b q c2 pos 79 tpLt_bar3 D Z O):=by
 obtain⟨_,b1⟩:=K
 cases b1<;>kernel_rfl
noncomputable def tpLt_bar6:List Nat:=[690,688,3,1,4,3,1,0,1,1,3,1,2,1,1,3,5,5,2,0,5,3,1,1,6,3,676,4,1,3,6,0,3,3,0,0]
theorem WZ:lhs 1 [2] (ltR K b q c2 pos 83 tpLt_bar6 D Z O)=rhs 2 (ltEx q (ltR K b q c2 pos 83 tpLt_bar6 D Z O) (.str ⟨#[32,c2]⟩ ((Z 26).tok 0)) (ltChr (.ofNat q.c) c2++[pcT (lawBarred q.c) true,(.b false,.b false)]++[leI 65024 (.ofNat q.c) false]++[ltTup q.c false]++[leI (.ofNat q.c) 65007 false]++[leI 64976 (.ofNat q.c) true]++[ltGe q.c false])) (ltR K b q c2 pos 83 tpLt_bar6 D Z O):=by
 obtain⟨_,b1⟩:=K
 cases b1<;>kernel_rfl
noncomputable def tpLt_bar7:List Nat:=[690,688,3,1,4,3,1,0,1,1,3,1,2,1,1,3,5,5,2,0,5,3,1,2,1,1,6,3,676,4,1,3,6,0,3,3,0,0]
theorem WY:lhs 1 [2] (ltR K b q c2 pos 87 tpLt_bar7 D Z O)=rhs 2 (ltEx q (ltR K b q c2 pos 87 tpLt_bar7 D Z O) (.str ⟨#[32,c2]⟩ ((Z 28).tok 0)) (ltChr (.ofNat q.c) c2++[pcT (lawBarred q.c) true,(.b false,.b false)]++[leI (.ofNat q.c) 65039 false]++[leI 65024 (.ofNat q.c) true]++[ltTup q.c false]++[leI (.ofNat q.c) 65007 false]++[leI 64976 (.ofNat q.c) true]++[ltGe q.c false])) (ltR K b q c2 pos 87 tpLt_bar7 D Z O):=by
 obtain⟨_,b1⟩:=K
 cases b1<;>kernel_rfl
noncomputable def tpLt_letter:List Nat:=[690,688,3,1,4,3,1,0,1,1,3,1,1,3,5,5,2,0,5,3,1,1,6,3,676,4,0,3,3,1,2,1,2,6,0,3,1,0,3,0]
theorem YE:lhs 1 [2] (ltR K b q c2 pos 86 tpLt_letter D Z O)=rhs 2 (ltEx q (ltR K b q c2 pos 86 tpLt_letter D Z O) (.str ⟨#[c2]⟩ ((Z 28).tok 0)) (ltChr (Int.ofNat q.c+32) c2++[leI (.ofNat q.c) 90 true]++[leI 65 (.ofNat q.c) true]++[pcT (lawBarred q.c) false,(.b false,.b false)]++[leI 65024 (.ofNat q.c) false]++[ltTup q.c false]++[leI 64976 (.ofNat q.c) false]++[ltGe q.c false])) (ltR K b q c2 pos 86 tpLt_letter D Z O):=by
 obtain⟨_,b1⟩:=K
 cases b1<;>kernel_rfl
noncomputable def tpLt_else1:List Nat:=[690,688,3,1,4,3,1,0,1,1,3,1,1,3,5,5,2,0,5,3,1,1,6,3,676,4,0,3,3,1,1,3,1,1,6,0,3,3,0]
theorem XD:lhs 1 [2] (ltR K b q c2 pos 86 tpLt_else1 D Z O)=rhs 2 (ltEx q (ltR K b q c2 pos 86 tpLt_else1 D Z O) (.str ⟨#[c2]⟩ ((Z 26).tok 0)) (ltChr (.ofNat q.c) c2++[leI 64256 (.ofNat q.c) false]++[leI 65 (.ofNat q.c) false]++[pcT (lawBarred q.c) false,(.b false,.b false)]++[leI 65024 (.ofNat q.c) false]++[ltTup q.c false]++[leI 64976 (.ofNat q.c) false]++[ltGe q.c false])) (ltR K b q c2 pos 86 tpLt_else1 D Z O):=by
 obtain⟨_,b1⟩:=K
 cases b1<;>kernel_rfl
noncomputable def tpLt_else3:List Nat:=[690,688,3,1,4,3,1,0,1,1,3,1,1,3,5,5,2,0,5,3,1,1,6,3,676,4,0,3,3,1,2,1,1,3,1,1,6,0,3,3,0]
theorem XC:lhs 1 [2] (ltR K b q c2 pos 90 tpLt_else3 D Z O)=rhs 2 (ltEx q (ltR K b q c2 pos 90 tpLt_else3 D Z O) (.str ⟨#[c2]⟩ ((Z 28).tok 0)) (ltChr (.ofNat q.c) c2++[leI 64256 (.ofNat q.c) false]++[leI (.ofNat q.c) 90 false]++[leI 65 (.ofNat q.c) true]++[pcT (lawBarred q.c) false,(.b false,.b false)]++[leI 65024 (.ofNat q.c) false]++[ltTup q.c false]++[leI 64976 (.ofNat q.c) false]++[ltGe q.c false])) (ltR K b q c2 pos 90 tpLt_else3 D Z O):=by
 obtain⟨_,b1⟩:=K
 cases b1<;>kernel_rfl
noncomputable def tpLt_else5:List Nat:=[690,688,3,1,4,3,1,0,1,1,3,1,1,3,5,5,2,0,5,3,1,1,6,3,676,4,0,3,3,1,2,1,1,3,1,2,1,1,6,0,3,3,0]
theorem XB:lhs 1 [2] (ltR K b q c2 pos 94 tpLt_else5 D Z O)=rhs 2 (ltEx q (ltR K b q c2 pos 94 tpLt_else5 D Z O) (.str ⟨#[c2]⟩ ((Z 30).tok 0)) (ltChr (.ofNat q.c) c2++[leI (.ofNat q.c) 64262 false]++[leI 64256 (.ofNat q.c) true]++[leI (.ofNat q.c) 90 false]++[leI 65 (.ofNat q.c) true]++[pcT (lawBarred q.c) false,(.b false,.b false)]++[leI 65024 (.ofNat q.c) false]++[ltTup q.c false]++[leI 64976 (.ofNat q.c) false]++[ltGe q.c false])) (ltR K b q c2 pos 94 tpLt_else5 D Z O):=by
 obtain⟨_,b1⟩:=K
 cases b1<;>kernel_rfl
noncomputable def tpLt_else6:List Nat:=[690,688,3,1,4,3,1,0,1,1,3,1,2,1,1,3,5,5,2,0,5,3,1,1,6,3,676,4,0,3,3,1,2,1,1,3,1,2,1,1,6,0,3,3,0]
theorem XA:lhs 1 [2] (ltR K b q c2 pos 98 tpLt_else6 D Z O)=rhs 2 (ltEx q (ltR K b q c2 pos 98 tpLt_else6 D Z O) (.str ⟨#[c2]⟩ ((Z 32).tok 0)) (ltChr (.ofNat q.c) c2++[leI (.ofNat q.c) 64262 false]++[leI 64256 (.ofNat q.c) true]++[leI (.ofNat q.c) 90 false]++[leI 65 (.ofNat q.c) true]++[pcT (lawBarred q.c) false,(.b false,.b false)]++[leI 65024 (.ofNat q.c) false]++[ltTup q.c false]++[leI (.ofNat q.c) 65007 false]++[leI 64976 (.ofNat q.c) true]++[ltGe q.c false])) (ltR K b q c2 pos 98 tpLt_else6 D Z O):=by
 obtain⟨_,b1⟩:=K
 cases b1<;>kernel_rfl
noncomputable def tpLt_else7:List Nat:=[690,688,3,1,4,3,1,0,1,1,3,1,2,1,1,3,5,5,2,0,5,3,1,2,1,1,6,3,676,4,0,3,3,1,2,1,1,3,1,2,1,1,6,0,3,3,0]
theorem Xz:lhs 1 [2] (ltR K b q c2 pos 102 tpLt_else7 D Z O)=rhs 2 (ltEx q (ltR K b q c2 pos 102 tpLt_else7 D Z O) (.str ⟨#[c2]⟩ ((Z 34).tok 0)) (ltChr (.ofNat q.c) c2++[leI (.ofNat q.c) 64262 false]++[leI 64256 (.ofNat q.c) true]++[leI (.ofNat q.c) 90 false]++[leI 65 (.ofNat q.c) true]++[pcT (lawBarred q.c) false,(.b false,.b false)]++[leI (.ofNat q.c) 65039 false]++[leI 65024 (.ofNat q.c) true]++[ltTup q.c false]++[leI (.ofNat q.c) 65007 false]++[leI 64976 (.ofNat q.c) true]++[ltGe q.c false])) (ltR K b q c2 pos 102 tpLt_else7 D Z O):=by
 obtain⟨_,b1⟩:=K
 cases b1<;>kernel_rfl
noncomputable def tpLt_lig0:List Nat:=[690,688,3,1,4,3,1,0,1,1,3,1,1,3,5,5,2,0,5,3,1,1,6,3,676,4,0,3,3,1,2,1,1,3,1,2,1,2,3,1,3,7,7,7,0,7,7,0]
theorem WW:lhs 1 [3] (ltR K b q c2 pos 111 tpLt_lig0 D Z O)=rhs 3 (ltEx q (ltR K b q c2 pos 111 tpLt_lig0 D Z O) (.str (ltLig 0) ((Z 30).tok 0)) ([ltSub q.c 0 ((Z 38).tok 0)]++[leI (.ofNat q.c) 64262 true]++[leI 64256 (.ofNat q.c) true]++[leI (.ofNat q.c) 90 false]++[leI 65 (.ofNat q.c) true]++[pcT (lawBarred q.c) false,(.b false,.b false)]++[leI 65024 (.ofNat q.c) false]++[ltTup q.c false]++[leI 64976 (.ofNat q.c) false]++[ltGe q.c false])) (ltR K b q c2 pos 111 tpLt_lig0 D Z O):=by
 obtain⟨_,b1⟩:=K
 cases b1<;>kernel_rfl
noncomputable def tpLt_lig1:List Nat:=[690,688,3,1,4,3,1,0,1,1,3,1,1,3,5,5,2,0,5,3,1,1,6,3,676,4,0,3,3,1,2,1,1,3,1,2,1,2,3,1,4,7,7,7,0,7,7,0]
theorem WV:lhs 1 [3] (ltR K b q c2 pos 111 tpLt_lig1 D Z O)=rhs 3 (ltEx q (ltR K b q c2 pos 111 tpLt_lig1 D Z O) (.str (ltLig 1) ((Z 31).tok 0)) ([ltSub q.c 1 ((Z 38).tok 0)]++[leI (.ofNat q.c) 64262 true]++[leI 64256 (.ofNat q.c) true]++[leI (.ofNat q.c) 90 false]++[leI 65 (.ofNat q.c) true]++[pcT (lawBarred q.c) false,(.b false,.b false)]++[leI 65024 (.ofNat q.c) false]++[ltTup q.c false]++[leI 64976 (.ofNat q.c) false]++[ltGe q.c false])) (ltR K b q c2 pos 111 tpLt_lig1 D Z O):=by
 obtain⟨_,b1⟩:=K
 cases b1<;>kernel_rfl
noncomputable def tpLt_lig2:List Nat:=[690,688,3,1,4,3,1,0,1,1,3,1,1,3,5,5,2,0,5,3,1,1,6,3,676,4,0,3,3,1,2,1,1,3,1,2,1,2,3,1,5,7,7,7,0,7,7,0]
theorem WU:lhs 1 [3] (ltR K b q c2 pos 111 tpLt_lig2 D Z O)=rhs 3 (ltEx q (ltR K b q c2 pos 111 tpLt_lig2 D Z O) (.str (ltLig 2) ((Z 32).tok 0)) ([ltSub q.c 2 ((Z 38).tok 0)]++[leI (.ofNat q.c) 64262 true]++[leI 64256 (.ofNat q.c) true]++[leI (.ofNat q.c) 90 false]++[leI 65 (.ofNat q.c) true]++[pcT (lawBarred q.c) false,(.b false,.b false)]++[leI 65024 (.ofNat q.c) false]++[ltTup q.c false]++[leI 64976 (.ofNat q.c) false]++[ltGe q.c false])) (ltR K b q c2 pos 111 tpLt_lig2 D Z O):=by
 obtain⟨_,b1⟩:=K
 cases b1<;>kernel_rfl
noncomputable def tpLt_lig3:List Nat:=[690,688,3,1,4,3,1,0,1,1,3,1,1,3,5,5,2,0,5,3,1,1,6,3,676,4,0,3,3,1,2,1,1,3,1,2,1,2,3,1,6,7,7,7,0,7,7,0]
theorem WT:lhs 1 [3] (ltR K b q c2 pos 111 tpLt_lig3 D Z O)=rhs 3 (ltEx q (ltR K b q c2 pos 111 tpLt_lig3 D Z O) (.str (ltLig 3) ((Z 33).tok 0)) ([ltSub q.c 3 ((Z 38).tok 0)]++[leI (.ofNat q.c) 64262 true]++[leI 64256 (.ofNat q.c) true]++[leI (.ofNat q.c) 90 false]++[leI 65 (.ofNat q.c) true]++[pcT (lawBarred q.c) false,(.b false,.b false)]++[leI 65024 (.ofNat q.c) false]++[ltTup q.c false]++[leI 64976 (.ofNat q.c) false]++[ltGe q.c false])) (ltR K b q c2 pos 111 tpLt_lig3 D Z O):=by
 obtain⟨_,b1⟩:=K
 cases b1<;>kernel_rfl
noncomputable def tpLt_lig4:List Nat:=[690,688,3,1,4,3,1,0,1,1,3,1,1,3,5,5,2,0,5,3,1,1,6,3,676,4,0,3,3,1,2,1,1,3,1,2,1,2,3,1,7,7,7,7,0,7,7,0]
theorem WS:lhs 1 [3] (ltR K b q c2 pos 111 tpLt_lig4 D Z O)=rhs 3 (ltEx q (ltR K b q c2 pos 111 tpLt_lig4 D Z O) (.str (ltLig 4) ((Z 34).tok 0)) ([ltSub q.c 4 ((Z 38).tok 0)]++[leI (.ofNat q.c) 64262 true]++[leI 64256 (.ofNat q.c) true]++[leI (.ofNat q.c) 90 false]++[leI 65 (.ofNat q.c) true]++[pcT (lawBarred q.c) false,(.b false,.b false)]++[leI 65024 (.ofNat q.c) false]++[ltTup q.c false]++[leI 64976 (.ofNat q.c) false]++[ltGe q.c false])) (ltR K b q c2 pos 111 tpLt_lig4 D Z O):=by
 obtain⟨_,b1⟩:=K
 cases b1<;>kernel_rfl
noncomputable def tpLt_lig5:List Nat:=[690,688,3,1,4,3,1,0,1,1,3,1,1,3,5,5,2,0,5,3,1,1,6,3,676,4,0,3,3,1,2,1,1,3,1,2,1,2,3,1,8,7,7,7,0,7,7,0]
theorem WR:lhs 1 [3] (ltR K b q c2 pos 111 tpLt_lig5 D Z O)=rhs 3 (ltEx q (ltR K b q c2 pos 111 tpLt_lig5 D Z O) (.str (ltLig 5) ((Z 35).tok 0)) ([ltSub q.c 5 ((Z 38).tok 0)]++[leI (.ofNat q.c) 64262 true]++[leI 64256 (.ofNat q.c) true]++[leI (.ofNat q.c) 90 false]++[leI 65 (.ofNat q.c) true]++[pcT (lawBarred q.c) false,(.b false,.b false)]++[leI 65024 (.ofNat q.c) false]++[ltTup q.c false]++[leI 64976 (.ofNat q.c) false]++[ltGe q.c false])) (ltR K b q c2 pos 111 tpLt_lig5 D Z O):=by
 obtain⟨_,b1⟩:=K
 cases b1<;>kernel_rfl
noncomputable def tpLt_lig6:List Nat:=[690,688,3,1,4,3,1,0,1,1,3,1,1,3,5,5,2,0,5,3,1,1,6,3,676,4,0,3,3,1,2,1,1,3,1,2,1,2,3,1,9,7,7,7,0,7,7,0]
theorem WQ:lhs 1 [3] (ltR K b q c2 pos 111 tpLt_lig6 D Z O)=rhs 3 (ltEx q (ltR K b q c2 pos 111 tpLt_lig6 D Z O) (.str (ltLig 6) ((Z 36).tok 0)) ([ltSub q.c 6 ((Z 38).tok 0)]++[leI (.ofNat q.c) 64262 true]++[leI 64256 (.ofNat q.c) true]++[leI (.ofNat q.c) 90 false]++[leI 65 (.ofNat q.c) true]++[pcT (lawBarred q.c) false,(.b false,.b false)]++[leI 65024 (.ofNat q.c) false]++[ltTup q.c false]++[leI 64976 (.ofNat q.c) false]++[ltGe q.c false])) (ltR K b q c2 pos 111 tpLt_lig6 D Z O):=by
 obtain⟨_,b1⟩:=K
 cases b1<;>kernel_rfl
end
noncomputable def tupB(c:Nat):Bool:=([173,847,6150,6155,6156,6157,8203,8204,8205,8288,65279]:List Int).any (·==Int.ofNat c)
def lawTold(c:Nat):Str:=
 if (Int.ofNat c).fmod 65536≥65534 then ⟨#[10]⟩
 else if 64976<=c/\c<=65007 then ⟨#[10]⟩
 else if tupB c then ⟨#[]⟩
 else if 65024<=c/\c<=65039 then ⟨#[]⟩
 else if lawBarred c then ⟨#[32,c]⟩
 else if 65<=c/\c<=90 then ⟨#[c+32]⟩
 else if 64256<=c/\c<=64262 then ltLig (c - 64256)
 else ⟨#[c]⟩
def WX{K:Wd}{W:List (Code × Pos)}{m:Nat}{c2:Nat}:∀F,Under (cfg K.P K.V W m []) F->∀e E,nth (ltX K c2) e=some E->ExtOk (cfg K.P K.V W m []) K.w F E:=λF U=>
 (AllOk.cons zn (.cons (.leaf U Z8) (.cons (.leaf U Zh) (.cons (uT U yz) .nil)))).nth
def LtF(q:LtQ)(tl:zb)(s:St):Prop:=∃t,s.cur=.pure (.done (.ret (.str (lawTold q.c) t)))/\s.fs=[]/\s.T=(q.y,q.o)::tl
def zC{K:Wd}{b:Bag}{q:LtQ}{c2:Nat}{pos:Pos}{N na i j:Nat}{tp:List Nat}{x:Str}{pc:(Nat->Ch)->Lg}{tl:zb}(htl:∀p∈tl,p.2.isFreed=false)
  (hr:∀D Z O,lhs 1 [i] (ltR K b q c2 pos N tp D Z O)=rhs na (ltEx q (ltR K b q c2 pos N tp D Z O) (.str x ((Z j).tok 0)) (pc Z)) (ltR K b q c2 pos N tp D Z O)) (hpc:∀Z,Lg.Ok (pc Z)) (hx:x=lawTold q.c) :
  Seg K (WK ([4,0,0,3],b)) ⟨denF (ltC q.c q.t),ltC q.c q.t,pos,[],(q.y,q.o)::tl⟩ (LtF q tl):=by
 have h:=Seg.run (K:=K) (ltS K b q c2 pos) (tl:=[]) rfl rfl WX _ [i] hr (by simp[distinct,notIn]) rfl (by decide) (λ_ Z _=>hpc Z) (λ_ _ _=>rfl)
 have h2:=Seg.frame tl htl h
 rw[List.append_nil] at h2
 refine h2.mono ?_
 rintro s ⟨s',⟨D,Z,O⟩⟩
 exact⟨(Z j).tok 0,by rw[<-hx];rfl,rfl,rfl⟩
def ok1{p:LV × LV}(h:p.1=p.2):Lg.Ok [p]:=za h zd
def le1{a:Int}{c:Nat}{v:Bool}(h:decide (a<=(c:Int))=v):Lg.Ok [leI a (.ofNat c) v]:=ok1 (by unfold leI;rw[<-h];rfl)
def le2{a:Int}{c:Nat}{v:Bool}(h:decide ((c:Int)<=a)=v):Lg.Ok [leI (.ofNat c) a v]:=ok1 (by unfold leI;rw[<-h];rfl)
def U9{K:Wd}{b:Bag}{q:LtQ}{pos:Pos}{tl:zb}(htl:∀p∈tl,p.2.isFreed=false)(hc:q.c<=1114111):Seg K (WK ([4,0,0,3],b)) ⟨denF (ltC q.c q.t),ltC q.c q.t,pos,[],(q.y,q.o)::tl⟩ (LtF q tl):=by
 have T:∀{L a:Nat},L<=q.c->Nat.ble a L=true->Lg.Ok [leI a (.ofNat q.c) true]:=λh e=>le1 (decide_eq_true (Int.ofNat_le.mpr (Nat.le_trans (Nat.le_of_ble_eq_true e) h)))
 have F:∀{U a:Nat},q.c < U->Nat.ble U a=true->Lg.Ok [leI a (.ofNat q.c) false]:=λh e=>le1 (decide_eq_false λg=>Nat.not_lt.mpr (Nat.le_trans (Nat.le_of_ble_eq_true e) (Int.ofNat_le.mp g)) h)
 have T':∀{U a:Nat},q.c < U->Nat.ble U (a+1)=true->Lg.Ok [leI (.ofNat q.c) a true]:=λh e=>le2 (decide_eq_true (Int.ofNat_le.mpr (Nat.le_of_lt_succ (Nat.le_trans h (Nat.le_of_ble_eq_true e)))))
 have F':∀{L a:Nat},L<=q.c->Nat.ble (a+1) L=true->Lg.Ok [leI (.ofNat q.c) a false]:=λh e=>le2 (decide_eq_false λg=>Nat.not_lt.mpr (Int.ofNat_le.mp g) (Nat.le_trans (Nat.le_of_ble_eq_true e) h))
 have hchr:Lg.Ok (ltChr (.ofNat q.c) q.c):=za rfl (za (by rw[decide_eq_true hc]) zd)
 by_cases hg:(Int.ofNat q.c).fmod 65536≥65534
 ·exact zC (c2:=0) htl (Tb K b q 0 pos) (λZ=>ok1 (by unfold ltGe;rw[decide_eq_true hg])) (by unfold lawTold;rw[if_pos hg])
 have G:Lg.Ok [ltGe q.c false]:=ok1 (by unfold ltGe;rw[decide_eq_false hg])
 have e0:∀{x},x=(if 64976<=q.c/\q.c<=65007 then (⟨#[10]⟩:Str) else if tupB q.c then ⟨#[]⟩ else if 65024<=q.c/\q.c<=65039 then ⟨#[]⟩ else if lawBarred q.c then ⟨#[32,q.c]⟩ else if 65<=q.c/\q.c<=90 then ⟨#[q.c+32]⟩ else if 64256<=q.c/\q.c<=64262 then ltLig (q.c - 64256) else ⟨#[q.c]⟩)->x=lawTold q.c:=λh=>by unfold lawTold;rw[if_neg hg];exact h
 by_cases hA:64976<=q.c/\q.c<=65007
 ·have l:64976<=q.c:=hA.1
  have df:q.c < 65008:=Nat.lt_succ_of_le hA.2
  exact zC (c2:=0) htl (Ta K b q 0 pos) (λZ=>((T' (a:=65007) df rfl).app (T (a:=64976) l rfl)).app G) (e0 (by rw[if_pos hA]))
 have e1:∀{x},x=(if tupB q.c then (⟨#[]⟩:Str) else if 65024<=q.c/\q.c<=65039 then ⟨#[]⟩ else if lawBarred q.c then ⟨#[32,q.c]⟩ else if 65<=q.c/\q.c<=90 then ⟨#[q.c+32]⟩ else if 64256<=q.c/\q.c<=64262 then ltLig (q.c - 64256) else ⟨#[q.c]⟩)->x=lawTold q.c:=λh=>e0 (by rw[if_neg hA];exact h)
 cases ht:tupB q.c with
 |true=>
  have ht':Lg.Ok [ltTup q.c true]:=ok1 (by unfold ltTup;rw[<-ht];rfl)
  by_cases h1:64976<=q.c
  ·have l:65008<=q.c:=Nat.lt_of_not_le λh=>hA ⟨h1,h⟩
   exact zC (c2:=0) htl (Tc K b q 0 pos) (λZ=>((ht'.app (F' (a:=65007) l rfl)).app (T (a:=64976) l rfl)).app G) (e1 (by rw[if_pos ht]))
  ·have df:q.c < 64976:=Nat.lt_of_not_le h1
   exact zC (c2:=0) htl (RC K b q 0 pos) (λZ=>(ht'.app (F (a:=64976) df rfl)).app G) (e1 (by rw[if_pos ht]))
 |false=>
  have ht':Lg.Ok [ltTup q.c false]:=ok1 (by unfold ltTup;rw[<-ht];rfl)
  have e2:∀{x},x=(if 65024<=q.c/\q.c<=65039 then (⟨#[]⟩:Str) else if lawBarred q.c then ⟨#[32,q.c]⟩ else if 65<=q.c/\q.c<=90 then ⟨#[q.c+32]⟩ else if 64256<=q.c/\q.c<=64262 then ltLig (q.c - 64256) else ⟨#[q.c]⟩)->x=lawTold q.c:=λh=>e1 (by rw[ht,if_neg Bool.false_ne_true];exact h)
  by_cases hB:65024<=q.c/\q.c<=65039
  ·have l:65024<=q.c:=hB.1
   have df:q.c < 65040:=Nat.lt_succ_of_le hB.2
   exact zC (c2:=0) htl (RA K b q 0 pos) (λZ=>(((((T' (a:=65039) df rfl).app (T (a:=65024) l rfl)).app ht').app (F' (a:=65007) l rfl)).app (T (a:=64976) l rfl)).app G) (e2 (by rw[if_pos hB]))
  cases hb:lawBarred q.c with
  |true=>
   have hb':Lg.Ok [pcT (lawBarred q.c) true,(.b false,.b false)]:=zv hb (ok1 rfl)
   have e3:(⟨#[32,q.c]⟩:Str)=lawTold q.c:=e2 (by rw[if_neg hB,if_pos hb])
   by_cases h1:64976<=q.c
   ·by_cases h2:65024<=q.c
    ·have l:65040<=q.c:=Nat.lt_of_not_le λh=>hB ⟨h2,h⟩
     exact zC (c2:=q.c) htl (WY K b q q.c pos) (λZ=>((((((hchr.app hb').app (F' (a:=65039) l rfl)).app (T (a:=65024) l rfl)).app ht').app (F' (a:=65007) l rfl)).app (T (a:=64976) l rfl)).app G) e3
    ·have l:65008<=q.c:=Nat.lt_of_not_le λh=>hA ⟨h1,h⟩
     have df:q.c < 65024:=Nat.lt_of_not_le h2
     exact zC (c2:=q.c) htl (WZ K b q q.c pos) (λZ=>(((((hchr.app hb').app (F (a:=65024) df rfl)).app ht').app (F' (a:=65007) l rfl)).app (T (a:=64976) l rfl)).app G) e3
   ·have df:q.c < 64976:=Nat.lt_of_not_le h1
    exact zC (c2:=q.c) htl (W0 K b q q.c pos) (λZ=>((((hchr.app hb').app (F (a:=65024) df rfl)).app ht').app (F (a:=64976) df rfl)).app G) e3
  |false=>
   have hb':Lg.Ok [pcT (lawBarred q.c) false,(.b false,.b false)]:=zv hb (ok1 rfl)
   have e3:∀{x},x=(if 65<=q.c/\q.c<=90 then (⟨#[q.c+32]⟩:Str) else if 64256<=q.c/\q.c<=64262 then ltLig (q.c - 64256) else ⟨#[q.c]⟩)->x=lawTold q.c:=λh=>e2 (by rw[if_neg hB,hb,if_neg Bool.false_ne_true];exact h)
   by_cases hC:65<=q.c/\q.c<=90
   ·have hchr2:Lg.Ok (ltChr (Int.ofNat q.c+32) (q.c+32)):=za rfl (za (by rw[decide_eq_true (Nat.le_trans (Nat.add_le_add_right hC.2 32) (by decide))]) zd)
    have l:65<=q.c:=hC.1
    have df:q.c < 91:=Nat.lt_succ_of_le hC.2
    exact zC (c2:=q.c+32) htl (YE K b q (q.c+32) pos) (λZ=>((((((hchr2.app (T' (a:=90) df rfl)).app (T (a:=65) l rfl)).app hb').app (F (a:=65024) df rfl)).app ht').app (F (a:=64976) df rfl)).app G) (e3 (by rw[if_pos hC]))
   have e4:∀{x},x=(if 64256<=q.c/\q.c<=64262 then ltLig (q.c - 64256) else (⟨#[q.c]⟩:Str))->x=lawTold q.c:=λh=>e3 (by rw[if_neg hC];exact h)
   by_cases hD:64256<=q.c/\q.c<=64262
   ·have lig:∀{j:Nat} (Z:Nat->Ch),q.c=64256+j->Lg.Ok ([ltSub q.c j ((Z 38).tok 0)]++[leI (.ofNat q.c) 64262 true]++[leI 64256 (.ofNat q.c) true]++[leI (.ofNat q.c) 90 false]++[leI 65 (.ofNat q.c) true]++[pcT (lawBarred q.c) false,(.b false,.b false)]++[leI 65024 (.ofNat q.c) false]++[ltTup q.c false]++[leI 64976 (.ofNat q.c) false]++[ltGe q.c false]):=λ{j} Z hj=>
     (((((((((ok1 (by unfold ltSub;rw[show (Int.ofNat q.c - 64256)=Int.ofNat j by rw[hj];show ((64256:Int)+(j:Int)) - 64256=j;rw[Int.add_comm];exact Int.add_sub_cancel ..])).app (T' (a:=64262) (Nat.lt_succ_of_le hD.2) rfl)).app (T (a:=64256) hD.1 rfl)).app (F' (a:=90) hD.1 rfl)).app (T (a:=65) hD.1 rfl)).app hb').app (F (a:=65024) (Nat.lt_succ_of_le hD.2) rfl)).app ht').app (F (a:=64976) (Nat.lt_succ_of_le hD.2) rfl)).app G
    obtain⟨j,h⟩:=Nat.le.dest hD.1
    have h:=h.symm
    rcases lt7 j (Nat.lt_of_add_lt_add_left (n:=64256) (h▸Nat.lt_succ_of_le hD.2)) with rfl|rfl|rfl|rfl|rfl|rfl|rfl
    ·exact zC (c2:=0) htl (WW K b q 0 pos) (λZ=>lig (j:=0) Z h) (e4 (by rw[if_pos hD,h]))
    ·exact zC (c2:=0) htl (WV K b q 0 pos) (λZ=>lig (j:=1) Z h) (e4 (by rw[if_pos hD,h]))
    ·exact zC (c2:=0) htl (WU K b q 0 pos) (λZ=>lig (j:=2) Z h) (e4 (by rw[if_pos hD,h]))
    ·exact zC (c2:=0) htl (WT K b q 0 pos) (λZ=>lig (j:=3) Z h) (e4 (by rw[if_pos hD,h]))
    ·exact zC (c2:=0) htl (WS K b q 0 pos) (λZ=>lig (j:=4) Z h) (e4 (by rw[if_pos hD,h]))
    ·exact zC (c2:=0) htl (WR K b q 0 pos) (λZ=>lig (j:=5) Z h) (e4 (by rw[if_pos hD,h]))
    ·exact zC (c2:=0) htl (WQ K b q 0 pos) (λZ=>lig (j:=6) Z h) (e4 (by rw[if_pos hD,h]))
   have e5:(⟨#[q.c]⟩:Str)=lawTold q.c:=e4 (by rw[if_neg hD])
   by_cases c1:65<=q.c
   ·by_cases c2:64256<=q.c
    ·by_cases c3:64976<=q.c
     ·by_cases c4:65024<=q.c
      ·have l:65040<=q.c:=Nat.lt_of_not_le λh=>hB ⟨c4,h⟩
       exact zC (c2:=q.c) htl (Xz K b q q.c pos) (λZ=>((((((((((hchr.app (F' (a:=64262) l rfl)).app (T (a:=64256) l rfl)).app (F' (a:=90) l rfl)).app (T (a:=65) l rfl)).app hb').app (F' (a:=65039) l rfl)).app (T (a:=65024) l rfl)).app ht').app (F' (a:=65007) l rfl)).app (T (a:=64976) l rfl)).app G) e5
      ·have l:65008<=q.c:=Nat.lt_of_not_le λh=>hA ⟨c3,h⟩
       have df:q.c < 65024:=Nat.lt_of_not_le c4
       exact zC (c2:=q.c) htl (XA K b q q.c pos) (λZ=>(((((((((hchr.app (F' (a:=64262) l rfl)).app (T (a:=64256) l rfl)).app (F' (a:=90) l rfl)).app (T (a:=65) l rfl)).app hb').app (F (a:=65024) df rfl)).app ht').app (F' (a:=65007) l rfl)).app (T (a:=64976) l rfl)).app G) e5
     ·have l:64263<=q.c:=Nat.lt_of_not_le λh=>hD ⟨c2,h⟩
      have df:q.c < 64976:=Nat.lt_of_not_le c3
      exact zC (c2:=q.c) htl (XB K b q q.c pos) (λZ=>((((((((hchr.app (F' (a:=64262) l rfl)).app (T (a:=64256) l rfl)).app (F' (a:=90) l rfl)).app (T (a:=65) l rfl)).app hb').app (F (a:=65024) df rfl)).app ht').app (F (a:=64976) df rfl)).app G) e5
    ·have l:91<=q.c:=Nat.lt_of_not_le λh=>hC ⟨c1,h⟩
     have df:q.c < 64256:=Nat.lt_of_not_le c2
     exact zC (c2:=q.c) htl (XC K b q q.c pos) (λZ=>(((((((hchr.app (F (a:=64256) df rfl)).app (F' (a:=90) l rfl)).app (T (a:=65) l rfl)).app hb').app (F (a:=65024) df rfl)).app ht').app (F (a:=64976) df rfl)).app G) e5
   ·have df:q.c < 65:=Nat.lt_of_not_le c1
    exact zC (c2:=q.c) htl (XD K b q q.c pos) (λZ=>((((((hchr.app (F (a:=64256) df rfl)).app (F (a:=65) df rfl)).app hb').app (F (a:=65024) df rfl)).app ht').app (F (a:=64976) df rfl)).app G) e5
noncomputable def lIt(l:Addr)(i:Nat):Obj:=⟨.type "list_iterator", none,.fields #[.ref l,.int (.ofNat i) 0],#[]⟩
def lcScope(e:Expr):Scope:=(exP e).2.2.1
def cmEnv(e:Expr)(dct:Addr)(qual:Str)(code fr:Addr):Env:={ scope:=lcScope e,locals:=dct,globals:=3,cells:=[],qual:=qual,func:=none,code:=.ref code,frame:=some fr,builtins:=0 }
structure CmA where
 a0:Addr
 src:Addr
 it:Addr
 acc:Addr
 dct:Addr
noncomputable def cmCode(e:Expr)(env:Env)(z:CmA):Code:=.compLoop e 0 (.ref z.it) (.ref z.acc) env
noncomputable def cmStart(e:Expr)(env:Env)(z:CmA):Code:=.compStart e 0 (.ref z.it) (.ref z.acc) env
noncomputable def qPage:Str:=⟨#[95,108,97,119,95,112,97,103,101,46,60,108,111,99,97,108,115,62,46]⟩
def binL(e:Expr):Expr:=(exP e).1
def forI(s:Stmt):Expr:=(stP s).2.2.2.2.2.1
def lpFor:Stmt:=sAt (fnBody (topS 25)) 2
def toldE:Expr:=binL (forI lpFor)
def toldEnv(z:CmA):Env:=cmEnv toldE z.dct qPage 349 z.a0
def cmD(P:Params)(s:Str):Option (Value × Tok)->Obj
 |none=>dictO [] 0
 |some (v,t)=>dictO [ent P s t v] 1
inductive CmEnd {β:Type} (K:Wd) (z:CmA) (nm:Str) (F:List (β × Tok)->Array Value) (rest:zb) (L:List β) (flag:List (β × Tok)->Option (Value × Tok)->Prop) (s:St):Prop
 |mk (x:Option (Value × Tok)) (ns:List (β × Tok)) (e:Nat) (h1:s.cur=.pure (.done .next)) (h2:s.fs=[]) (h3:s.T=(z.dct,cmD K.P nm x)::(z.acc,listO (F ns) e)::rest) (h4:ns.map (·.1)=L) (h5:flag ns x)
inductive CmFin {β:Type} (K:Wd) (z:CmA) (nm:Str) (F:List (β × Tok)->Array Value) (rest:zb) (L:List β) (s:St):Prop
 |mk (x:Value × Tok) (ns:List (β × Tok)) (e:Nat) (h1:s.cur=.pure (.done .next)) (h2:s.fs=[]) (h3:s.T=(z.dct,cmD K.P nm (some x))::(z.acc,listO (F ns) e)::rest) (h4:ns.map (·.1)=L)
def xTold(S:Str):Ext:=fnX 1 (λ_=>0) (shk [[4,0,0,3]]) ltRd (λ_ _ q=>ltC q.c q.t) (λ_ _ q=>[(q.y,q.o)]) (λd _ q=>[(.s (lawTold q.c),.s S),(.b (decide (q.c<=1114111)),.b true)])
 (λd _ q _ t=>⟨.ok (.ret (.str S (t.tok 0))),[q.o],[]⟩)
def YU{K:Wd}{W:List (Code × Pos)}{n:Nat}{tl:zb}{F:List Frame}{S:Str}(U:Under (cfg K.P K.V W n tl) F)(htl:∀p∈tl,p.2.isFreed=false):ExtOk (cfg K.P K.V W n tl) K.w F (xTold S):=by
 refine ExtOk.fn U htl WK (λx=>x.1∈[[4,0,0,3]]) (λwh x h=>z8 h) (λd c objs x q xs t h=>rfl) ?_
 rintro d ⟨ks,b⟩ q hk hpc _ pos
 have hk:ks=[4,0,0,3]:=by simpa using hk
 subst hk
 have e:=LV.s.inj (hpc _ (.head _))
 have e2:=of_decide_eq_true (LV.b.inj (hpc _ (.tail _ (.head _))))
 refine(U9 htl e2).mono ?_
 rintro s ⟨t,h1,h2,h3⟩
 refine⟨[],.of t,rfl,rfl,?_,h2,?_⟩
 ·rw[h1,e];rfl
 ·rw[h3];rfl
noncomputable def intsArr(cl:List (Nat × Tok)):Array Value:=(cl.map λp=>Value.int (.ofNat p.1) p.2).toArray
noncomputable def cmX(x:Option (Value × Tok))(v:Value)(t:Tok):Option (Value × Tok):=match x with
 |none=>some (v,t)
 |some (_,t')=>some (v,t')
structure TcQ where
 z:CmA
 x:Option (Value × Tok)
 vs:Array Value
 ep:Nat
 i:Nat
 xs:Array Value
 e2:Nat
 c:Nat
 tc:Tok
 S:Str
def tcS1(K:Wd)(b:Bag)(q:TcQ)(pos:Pos):Start:=
 mkS K (WK ([0,0,3],b)) 4 [] [xNext 2 (.int (.ofNat q.c) q.tc),xTold q.S,xAppend 1] [(q.z.dct,cmD K.P sCode q.x),(q.z.acc,listO q.vs q.ep),(q.z.it,lIt q.z.src q.i),(q.z.src,listO q.xs q.e2)] (cmCode toldE (toldEnv q.z) q.z) pos
def tcR(K:Wd)(b:Bag)(q:TcQ)(pos:Pos)(N:Nat)(tp:List Nat)(D:Nat->Addr)(Z:Nat->Ch)(O:Nat->Nat):Option Out:=(tcS1 K b q pos).run D Z O N tp
noncomputable def tpTc:List Nat:=[3,1,1,3,1,7,3,6,7,690,2,0,3,3,0,5]
noncomputable def TcQ.pcI(q:TcQ):LV × LV:=(.ov q.xs[q.i]?,.ov (some (.int (.ofNat q.c) q.tc)))
def tc_rX(K:Wd)(b:Bag)(q:TcQ)(Z:Nat->Ch):Exp:=⟨.pure (.again (cmCode toldE (toldEnv q.z) q.z)),cmCode toldE (toldEnv q.z) q.z,⟨171,17,171,32⟩,[],
  [(q.z.dct,cmD K.P sCode (cmX q.x (.int (.ofNat q.c) q.tc) ((Z 1).tok 0))),(q.z.acc,listO (q.vs.push (.str q.S ((Z 2).tok 0))) ((Z 3).tok 0)),(q.z.it,lIt q.z.src (q.i+1)),(q.z.src,listO q.xs q.e2)],[],[small q.vs.size,(.s (lawTold q.c),.s q.S),(.b (decide (q.c<=1114111)),.b true),q.pcI]⟩
def tc_r(K:Wd)(b:Bag)(q:TcQ)(pos:Pos)(D Z O):lhs 4 [0,1,2,3] (tcR K b q pos 19 tpTc D Z O)=rhs 0 (tc_rX K b q Z) (tcR K b q pos 19 tpTc D Z O):=by
 obtain⟨_,b1⟩:=K
 obtain⟨z,x,vs,ep,i,xs,e2,c,tc,S⟩:=q
 cases b1<;>cases x<;>kernel_rfl
def tc_rEX(K:Wd)(q:TcQ):Exp:=⟨.pure (.done .next),cmCode toldE (toldEnv q.z) q.z,⟨171,45,171,50⟩,[],
  [(q.z.dct,cmD K.P sCode q.x),(q.z.acc,listO q.vs q.ep)],[],[(.ov q.xs[q.i]?,.ov none)]⟩
def Sw(K:Wd)(b:Bag)(q:TcQ)(pos:Pos)(D Z O):lhs 4 [2,3] (tcR K b q pos 4 [3,1,0,3,1,11] D Z O)=rhs 2 (tc_rEX K q) (tcR K b q pos 4 [3,1,0,3,1,11] D Z O):=by
 obtain⟨_,b1⟩:=K
 obtain⟨z,x,vs,ep,i,xs,e2,c,tc,S⟩:=q
 cases b1<;>cases x<;>kernel_rfl
def Zo{K:Wd}{W:List (Code × Pos)}{m:Nat}{v:Value}{S:Str}:∀F,Under (cfg K.P K.V W m []) F->∀e E,nth [xNext 2 v,xTold S,xAppend 1] e=some E->ExtOk (cfg K.P K.V W m []) K.w F E:=λF U=>
 (AllOk.cons (.leaf U yg) (.cons (YU U yz) (.cons (.leaf U zm) .nil))).nth
def TcT(K:Wd)(z:CmA)(x:Option (Value × Tok))(sl:List (Str × Tok))(ep:Nat)(i:Nat)(cl:List (Nat × Tok))(e2:Nat):zb:=[(z.dct,cmD K.P sCode x),(z.acc,listO (rowsArr sl) ep),(z.it,lIt z.src i),(z.src,listO (intsArr cl) e2)]
def Wz{K:Wd}{b:Bag}{z:CmA}{e2:Nat}:∀(post pre:List (Nat × Tok)) (x:Option (Value × Tok)) (sl:List (Str × Tok)) (ep:Nat) (pos:Pos),(∀p∈post,p.1<=1114111)->sl.length+post.length<=1000->
  Seg K (WK ([0,0,3],b)) ⟨denF (cmCode toldE (toldEnv z) z),cmCode toldE (toldEnv z) z,pos,[],TcT K z x sl ep pre.length (pre++post) e2⟩ (CmEnd K z sCode rowsArr [] (sl.map (·.1)++post.map (λp=>lawTold p.1)) (λ_ x'=>(x.isSome=true\/post≠[]->x'.isSome=true))):=by
 intro post
 induction post with
 |nil=>
  rintro pre x sl ep pos _ _
  let q:TcQ:=⟨z,x,rowsArr sl,ep,pre.length,intsArr (pre++[]),e2,0,0,⟨#[]⟩⟩
  refine Seg.rM (K:=K) (tcS1 K b q pos) rfl rfl Zo _ [2,3] (Sw K b q pos) (by decide) rfl (by decide) (λ_ _ _=>za (by show LV.ov (intsArr (pre++[]))[pre.length]?=_;simp[intsArr]) zd) (λ_ _ _=>rfl) λD Z O=>?_
  exact⟨x,sl,ep,rfl,rfl,rfl,by simp,λh=>h.elim id λh=>absurd rfl h⟩
 |cons p post IH=>
  rintro pre x sl ep pos hc hl
  let q:TcQ:=⟨z,x,rowsArr sl,ep,pre.length,intsArr (pre++p::post),e2,p.1,p.2,lawTold p.1⟩
  have hpc:Lg.Ok [small q.vs.size,(.s (lawTold q.c),.s q.S),(.b (decide (q.c<=1114111)),.b true),q.pcI]:=za (zc (by show (rowsArr sl).size<=1000;rw[ze];simp at hl;lia)) (za rfl (za (by rw[decide_eq_true (hc p (.head _))]) (za (by
   show LV.ov (intsArr (pre++p::post))[pre.length]?=_
   simp[intsArr];rfl) zd)))
  refine Seg.rT (K:=K) (tcS1 K b q pos) rfl rfl Zo _ [0,1,2,3] (tc_r K b q pos) (by decide) rfl (by decide) (λ_ _ _=>hpc) (λ_ _ _=>rfl) λD Z O=>?_
  have e:pre++p::post=(pre++[p])++post:=by simp
  have el:pre.length+1=(pre++[p]).length:=by simp
  have ih:=IH (pre++[p]) (cmX x (.int (.ofNat p.1) p.2) ((Z 1).tok 0)) (sl++[(lawTold p.1,(Z 2).tok 0)]) ((Z 3).tok 0) ⟨171,17,171,32⟩ (λq hq=>hc q (.tail _ hq)) (by simp at hl ⊢;lia)
  refine Seg.again rfl (Seg.perm (a:=⟨_,_,_,[],_⟩) (List.Perm.of_eq ?_) (ih.mono ?_))
  ·show _++[]=_
   unfold TcT
   rw[List.append_nil,<-zi,<-e,<-el]
   rfl
  ·rintro s ⟨x',sl',ep',e1,e2,e3,e4,e5⟩
   exact⟨x',sl',ep',e1,e2,e3,by rw[e4];simp,λ_=>e5 (.inl (by cases x<;>rfl))⟩
structure PgQ where
 l:Addr
 cl:List (Nat × Tok)
 e2:Nat
 rm:Int
 tR:Tok
 wd:Int
 tW:Tok
noncomputable def pgC(q:PgQ):Code:=.call (.ref 350) ⟨[.ref q.l,.int q.rm q.tR,.int q.wd q.tW],[]⟩
def pgS(K:Wd)(b:Bag)(q:PgQ)(pos:Pos):Start:=mkS K (WK ([0,3],b)) 1 [] [] [(q.l,listO (intsArr q.cl) q.e2)] (pgC q) pos
noncomputable def tpPg1:List Nat:=[700,698,3,1,3,1,3,1,4,3,1,5,2,3,1,1,0,1,11]
noncomputable def sCodes:Str:=⟨#[99,111,100,101,115]⟩
noncomputable def sRows:Str:=⟨#[114,111,119,115]⟩
noncomputable def sTold:Str:=⟨#[116,111,108,100]⟩
noncomputable def sHeld:Str:=⟨#[104,101,108,100]⟩
noncomputable def sBlanks:Str:=⟨#[98,108,97,110,107,115]⟩
noncomputable def sRow:Str:=⟨#[114,111,119]⟩
noncomputable def sLine:Str:=⟨#[108,105,110,101]⟩
structure PgF where
 a0:Addr
 cell:Addr
 l:Addr
 t:Nat->Tok
 wd:Int
 tW:Tok
 ra:Addr
def PgF.ents(g:PgF)(P:Params)(rm:Int)(tR:Tok):List DictEntry:=[ent P sCodes (g.t 0) (.ref g.l),ent P sRoom (g.t 1) (.int rm tR),ent P sWidth (g.t 2) (.int g.wd g.tW),ent P sRows (g.t 3) (.ref g.ra)]
noncomputable def pgZ(q:PgQ)(D:Nat->Addr):CmA:=⟨D 0,q.l,D 4,D 5,D 6⟩
noncomputable def pgTk(Z:Nat->Ch)(i:Nat):Tok:=match i with
 |0=>(Z 0).tok 0
 |1=>(Z 1).tok 0
 |2=>(Z 2).tok 0
 | _=>(Z 3).tok 0
def pgG(q:PgQ)(D:Nat->Addr)(Z:Nat->Ch):PgF:=⟨D 0,D 1,q.l,pgTk Z,q.wd,q.tW,D 2⟩
section
variable (K:Wd) (b:Bag) (q:PgQ) (pos:Pos) (D:Nat->Addr) (Z:Nat->Ch) (O:Nat->Nat)
def pgR1:Option Out:=(pgS K b q pos).run D Z O 53 tpPg1
def pgX1:Exp:=⟨.call (cmStart toldE (toldEnv (pgZ q D)) (pgZ q D)) none true (lOf (pgR1 K b q pos D Z O)) (kOf (pgR1 K b q pos D Z O)),(eo (pgR1 K b q pos D Z O)).code,⟨171,45,171,50⟩,[],
 TcT K (pgZ q D) none [] 0 0 q.cl q.e2++[(D 0,frameO ((pgG q D Z).ents K.P q.rm q.tR) 4),(D 1,cellO (.ref (D 3))),(D 2,listO #[] 0),(D 3,listO #[] 0)],[],[]⟩
theorem SR:lhs 1 [0,1,2,7,6,5,4,3] (pgR1 K b q pos D Z O)=rhs 7 (pgX1 K b q pos D Z O) (pgR1 K b q pos D Z O):=by
 obtain⟨_,b1⟩:=K
 cases b1<;>kernel_rfl
end
def tcSS(K:Wd)(W:List (Code × Pos))(z:CmA)(pos:Pos):Start:=mkS K W 1 [] [] [(z.it,lIt z.src 0)] (cmStart toldE (toldEnv z) z) pos
def Sv(K:Wd)(W:List (Code × Pos))(z:CmA)(pos:Pos):∃N tp p,∀D Z O,lhs 1 [0] ((tcSS K W z pos).run D Z O N tp)=rhs 0 ⟨.pure (.again (cmCode toldE (toldEnv z) z)),cmStart toldE (toldEnv z) z,p,[],[(z.it,lIt z.src 0)],[],[]⟩ ((tcSS K W z pos).run D Z O N tp):=by
 obtain⟨w,b1,b2,V0,hw⟩:=K
 cases b2
 ·exact⟨11,[1,1,0,1,1],⟨171,45,171,50⟩,λD Z O=>by cases b1<;>kernel_rfl⟩
 ·exact⟨1,[],pos,λD Z O=>by cases b1<;>kernel_rfl⟩
structure L2M where
 a:Addr
 vs:Array Value
 n:Nat
 b:Addr
 vs2:Array Value
 n2:Nat
noncomputable def L2M.o(u:L2M):zb:=[(u.a,⟨.type "list", none,.seq u.vs u.n,#[]⟩),(u.b,⟨.type "list", none,.seq u.vs2 u.n2,#[]⟩)]
def rdL2(l:zb):L2M:=⟨obA l 0,sqO (obO l 0),epO (obO l 0),obA l 1,sqO (obO l 1),epO (obO l 1)⟩
def xLAdd:Ext:=cnX 2 (λ_=>1) (λ_ _ l=>rdL2 l) (λ_ u=>.call (.builtin "list.__add__") ⟨[.ref u.a,.ref u.b],[]⟩) (λ_ u=>u.o) (λ_ u=>[small (u.vs++u.vs2).size]) (λ_ u xs _=>⟨.ok (.ret (.ref (xs.headD 0))),[],[listO (u.vs++u.vs2) 0]⟩)
def x3{w:World}{tl:zb}:LeafOk w tl xLAdd:=by
 refine zt λprog s d ⟨a,vs,n,b,vs2,n2⟩ wh gs hg _ hp=>?_
 have hs:(vs++vs2).size<=sizeLine:=zW hp (.head _)
 rw[Array.size_append] at hs
 have h1:=hg _ (.head _)
 have h2:=hg _ (.tail _ (.head _))
 exact⟨[s.heap.objs.size],.of 0,{ s with heap:=s.heap.push (listO (vs++vs2) 0),toks:=s.toks },rfl,zK,zp PySem.F.slot_list_add ⟨_,h1,rfl⟩ PySem.F.entry_list_add (PySem.F.args_list_add_2 _ _) (list_addW a b vs vs2 n n2 none none #[] #[] hs) ⟨h1,h2,rfl,rfl⟩,Eff.push (tk:=s.toks) rfl⟩
noncomputable def isSv:Value->Bool
 | .str _ _=>true
 | _=>false
noncomputable def eqV(v df:Value):Bool:=match v with
 | .str x _=>match df with
  | .str y _=>x==y
  | _=>false
 | _=>false
noncomputable def leq:List Value->List Value->Bool
 |[],r=>match r with
  |[]=>true
  | _=>false
 |v::l,r=>match r with
  |[]=>false
  |df::r'=>eqV v df && leq l r'
noncomputable def leqOk:List Value->List Value->Bool
 |[],r=>match r with
  |[]=>true
  | _=>false
 |v::l,r=>match r with
  |[]=>false
  |df::r'=>isSv v && isSv df && leqOk l r'
def XG{l:List Value}:∀{r:List Value},l.length≠r.length->leq l r=false:=by
 induction l with
 |nil=>intro r h;cases r with
  |nil=>exact absurd rfl h
  |cons=>rfl
 |cons v l ih=>intro r h;cases r with
  |nil=>rfl
  |cons df r=>
   show (eqV v df && leq l r)=false
   rw[ih (λe=>h (by simp[e])),Bool.and_false]
def ZG{v:Value}(h:isSv v=true):∃x t,v=.str x t:=by cases v<;>first|exact⟨_,_,rfl⟩|cases h
def XH{l:List Value}:∀{r:List Value},leqOk l r=true->l.length=r.length/\∀j (h1:j < l.length) (h2:j < r.length),∃x t y df,l[j]=.str x t/\r[j]=.str y df:=by
 induction l with
 |nil=>intro r h;cases r with
  |nil=>exact⟨rfl,λj h=>absurd h (Nat.not_lt_zero _)⟩
  |cons=>cases h
 |cons v l ih=>intro r h;cases r with
  |nil=>cases h
  |cons df r=>
   have h:(isSv v && isSv df && leqOk l r)=true:=h
   simp only[Bool.and_eq_true] at h
   obtain⟨e,H⟩:=ih h.2
   refine⟨by simp[e],λj h1 h2=>?_⟩
   cases j with
   |zero=>
    obtain⟨x,t,rfl⟩:=ZG h.1.1
    obtain⟨y,u',rfl⟩:=ZG h.1.2
    exact⟨x,t,y,u',rfl,rfl⟩
   |succ j=>exact H j (by simpa using h1) (by simpa using h2)
def W6{l:List Value}:∀{r:List Value},leqOk l r=true->leq l r=(List.range l.length).all λj=>eqV (l[j]?.getD .none) (r[j]?.getD .none):=by
 induction l with
 |nil=>intro r h;cases r with
  |nil=>rfl
  |cons=>cases h
 |cons v l ih=>intro r h;cases r with
  |nil=>cases h
  |cons df r=>
   have h:(isSv v && isSv df && leqOk l r)=true:=h
   simp only[Bool.and_eq_true] at h
   show (eqV v df && leq l r)=_
   simp only[List.length_cons,List.range_succ_eq_map,List.all_cons,List.all_map]
   rw[ih h.2]
   rfl
def xLCmp(ne:Bool):Ext:=cnX 2 (λ_=>0) (λ_ _ l=>rdL2 l) (λ_ u=>.call (.builtin (bif ne then "list.__ne__" else "list.__eq__")) ⟨[.ref u.a,.ref u.b],[]⟩) (λ_ u=>u.o)
 (λd u=>[(.b (leq u.vs.toList u.vs2.toList),.b (ne != tfB d)),(.b (u.vs.size != u.vs2.size || leqOk u.vs.toList u.vs2.toList),.b true)]) (λd _ _ _=>⟨.ok (.ret (.bool (tfB d))),[],[]⟩)
def yH{w:World}{tl:zb}{ne:Bool}:LeafOk w tl (xLCmp ne):=by
 refine zt λprog s d ⟨a,vs,n,b,vs2,n2⟩ wh gs hg _ hp=>?_
 have e3:=LV.b.inj (hp _ (.head _))
 have e4:=LV.b.inj (hp _ (.tail _ (.head _)))
 have h1:=hg _ (.head _)
 have h2:=hg _ (.tail _ (.head _))
 dsimp only at e3 e4
 refine⟨[],.of 0,s,rfl,zh,?_,Eff.toks⟩
 dsimp only
 by_cases hs:(vs.size != vs2.size)=true
 ·have e5:leq vs.toList vs2.toList=false:=XG (by simpa using hs)
  rw[e5] at e3
  cases ne with
  |false=>
   rw[show tfB d=false by cases h:tfB d<;>rw[h] at e3<;>first|rfl|cases e3]
   exact zp PySem.F.slot_list_eq ⟨_,h1,rfl⟩ PySem.F.entry_list_eq (PySem.F.args_list_eq_2 _ _) (SeqAt.list_eq_lengthsAt a b vs vs2 n n2 none none #[] #[] hs) ⟨h1,h2,rfl,rfl⟩
  |true=>
   rw[show tfB d=true by cases h:tfB d<;>rw[h] at e3<;>first|rfl|cases e3]
   exact zp PySem.F.slot_list_ne ⟨_,h1,rfl⟩ PySem.F.entry_list_ne (PySem.F.args_list_ne_2 _ _) (SeqAt.list_ne_lengthsAt a b vs vs2 n n2 none none #[] #[] hs) ⟨h1,h2,rfl,rfl⟩
 ·have e5:leqOk vs.toList vs2.toList=true:=by
   rw[Bool.eq_false_iff.mpr hs] at e4;exact e4
  obtain⟨hl,H⟩:=XH e5
  have hsz:vs.size=vs2.size:=by simpa using hs
  have ha:=W6 e5
  rw[e3] at ha
  have hE:∀(A:Around) (j:Nat) (h1:j < vs.size) (h2:j < vs2.size),SeqAt.EqAt A s vs[j] vs2[j] (eqV (vs.toList[j]?.getD .none) (vs2.toList[j]?.getD .none)):=λA j h1 h2=>by
   obtain⟨x,t,y,df,e1,e2⟩:=H j (by simpa using h1) (by simpa using h2)
   have e1':vs[j]=.str x t:=by simpa using e1
   have e2':vs2[j]=.str y df:=by simpa using e2
   have f1:vs.toList[j]?.getD .none=.str x t:=by simp[h1,e1']
   have f2:vs2.toList[j]?.getD .none=.str y df:=by simp[h2,e2']
   rw[f1,f2,e1',e2']
   exact SeqAt.EqAt.str_str x t y df
  cases ne with
  |false=>
   refine zp PySem.F.slot_list_eq ⟨_,h1,rfl⟩ PySem.F.entry_list_eq (PySem.F.args_list_eq_2 _ _) (SeqAt.list_eqAt a b vs vs2 n n2 none none #[] #[] hsz λj=>eqV (vs.toList[j]?.getD .none) (vs2.toList[j]?.getD .none)) ⟨h1,h2,λj h1 h2=>hE _ j h1 h2,?_,rfl⟩
   rw[Array.length_toList] at ha
   rw[<-ha]
   simp
  |true=>
   refine zp PySem.F.slot_list_ne ⟨_,h1,rfl⟩ PySem.F.entry_list_ne (PySem.F.args_list_ne_2 _ _) (SeqAt.list_neAt a b vs vs2 n n2 none none #[] #[] hsz λj=>eqV (vs.toList[j]?.getD .none) (vs2.toList[j]?.getD .none)) ⟨h1,h2,λj h1 h2=>hE _ j h1 h2,?_,rfl⟩
   rw[Array.length_toList] at ha
   rw[<-ha]
   simp
noncomputable def sumV:List Value->Int
 | .int i _::r=>i+sumV r
 | _::r=>sumV r
 |[]=>0
noncomputable def isIv:Value->Bool
 | .int _ _=>true
 | _=>false
noncomputable def allI:List Value->Bool
 |v::r=>isIv v && allI r
 |[]=>true
noncomputable def atI(vs:Array Value)(i:Nat):Int:=match vs[i]? with
 |some (.int i _)=>i
 | _=>0
def VN{l:List Value}(h:allI l=true)(i:Nat)(v:Value)(e:l[i]?=some v):∃n t,v=Value.int n t:=by
 induction l generalizing i with
 |nil=>simp at e
 |cons df r ih=>
  have h:(isIv df && allI r)=true:=h
  simp only[Bool.and_eq_true] at h
  cases i with
  |zero=>
   have e:df=v:=by simpa using e
   subst e
   cases df<;>first|exact⟨_,_,rfl⟩|cases h.1
  |succ i=>exact ih h.2 i (by simpa using e)
def Y2:∀(l:List Value) (f:Nat->Int) (k:Nat),(∀i,f (k+i)=match l[i]? with|some (.int i _)=>i | _=>0)->preSum f (k+l.length)=preSum f k+sumV l:=by
 intro l
 induction l with
 |nil=>
  rintro f k _
  simp[sumV]
 |cons v r IH=>
  rintro f k h
  have ih:=IH f (k+1) λi=>by rw[Nat.add_assoc,Nat.add_comm 1 i,h (i+1)];simp
  have h0:=h 0
  rw[List.length_cons,Nat.add_comm r.length 1,<-Nat.add_assoc,ih]
  show preSum f k+f k+sumV r=_
  simp only[Nat.add_zero,List.getElem?_cons_zero] at h0
  rw[h0]
  cases v<;>simp[sumV,Int.add_assoc]
structure SuM where
 a:Addr
 vs:Array Value
 n:Nat
noncomputable def SuM.o(u:SuM):zb:=[(u.a,⟨.type "list", none,.seq u.vs u.n,#[]⟩)]
def rdSu(l:zb):SuM:=⟨obA l 0,sqO (obO l 0),epO (obO l 0)⟩
def suP(c:Code)(objs:zb):Option (Code × Lg × SuM):=match zipLg objs (rdSu objs).o with
 |some l=>some (c,l,rdSu objs)
 |none=>none
def xSumL:Ext:=mkG 1 (λ_=>0) false (λ_ c _ objs _=>suP c objs) (λy=>(.c y.1,.c (.call (.builtin "sum") ⟨[.ref y.2.2.a],[]⟩))::y.2.1) (λy=>[(.b (allI y.2.2.vs.toList),.b true)]) (λy _ t=>⟨.ok (.ret (.int (sumV y.2.2.vs.toList) (t.tok 0))),[],[]⟩)
def UA{c:Code}{objs:zb}{y:Code × Lg × SuM}(h:suP c objs=some y)(hl:Lg.Ok y.2.1):y.1=c/\objs=y.2.2.o:=by
 unfold suP at h
 cases hz:zipLg objs (rdSu objs).o with
 |none=>rw[hz] at h;cases h
 |some l=>
  rw[hz] at h
  cases h
  exact⟨rfl,yf hz hl⟩
def vK{C:Cfg}{w:World}{F:List Frame}(U:Under C F):ExtOk C w F xSumL:=by
 refine ExtOk.leafM U λprog s d c wh objs gs y hm hg hgs ht hy hlg hp=>?_
 obtain⟨c1,l,a,vs,n⟩:=y
 obtain⟨e1,e2⟩:=UA hy λq hq=>hlg q (.tail _ hq)
 have e0:c1=_:=LV.c.inj (hlg _ (.head _))
 dsimp only at e1 e2 e0
 subst e1 e2 e0
 clear hy hlg
 have e2:=LV.b.inj (hp _ (.head _))
 have h1:=hg _ (.head _)
 have hL:s.heap.IsList a vs:=⟨_,h1,rfl,n,rfl⟩
 have hlt:a < s.heap.objs.size:=Heap.lt_size h1
 have hpre:preSum (atI vs) vs.size=sumV vs.toList:=by
  have:=Y2 vs.toList (atI vs) 0 λi=>by
   simp only[Nat.zero_add,atI,Array.getElem?_toList]
  rw[Nat.zero_add,Array.length_toList] at this
  rw[this]
  show 0+_=_
  lia
 have key:wpAny (model prog w) (aroundOf wh) (call (.builtin "sum") [.ref a]) (λv s₁=>∃t,v=.int (sumV vs.toList) t/\Moved [s.heap.objs.size] (λa b=>b=a) s s₁) (λ_ _=>False) s:=by
  refine call_sum_walkAnyS (wpAny_pyIter_list hL ?_)
  refine⟨s.heap.objs.size,[s.heap.objs.size,a],[s.heap.objs.size],_,vs.size,_,_,atI vs,rfl,(Walks.list rfl s.heap.objs.size a (Nat.ne_of_lt hlt) vs).toS,⟨⟨_,Heap.get?_push_size _ rfl,rfl,rfl⟩,hL.push _⟩,λb hb=>?_,λi v hv=>?_,λs' t' hm=>⟨t',by rw[hpre],?_⟩⟩
  ·rw[show ({ s with heap:=s.heap.push _ }:Shared).heap.objs.size=s.heap.objs.size+1 from Heap.size_push ..]
   simp only[List.mem_cons,List.not_mem_nil,or_false] at hb
   rcases hb with rfl|rfl
   ·exact Nat.lt_succ_self _
   ·exact Nat.lt_succ_of_lt hlt
  ·obtain⟨m,t,rfl⟩:=VN e2 i v (by rw[Array.getElem?_toList];exact hv)
   exact⟨t,by simp only[atI,hv]⟩
  ·exact⟨λb o hb e=>hm.heap b o hb (Heap.get?_push_of_some _ e),hm.gens,hm.drawn,hm.os,hm.toks⟩
 intro Γ p hh hw
 refine wpCode_mono ?_ (CallsAt.of_wpAny key Γ p hh hw)
 rintro r s' ⟨v,rfl,t,rfl,hm⟩
 refine⟨[],.of t,rfl,λz hz=>(by cases hz),rfl,?_⟩
 exact⟨λx o h q=>hm.heap x o (λhb=>by
  rw[List.mem_singleton] at hb;subst hb
  exact absurd (Heap.lt_size h) (Nat.lt_irrefl _)) h,λp hp=>by simp at hp,λp hp=>by simp at hp,List.nodup_nil,λg st h _=>by rw[hm.gens];exact h,λh=>by rw[hm.gens];exact h,hm.os⟩
noncomputable def rngUp(v l:Nat):Obj:=⟨.type "range_iterator", none,.fields #[.int (.ofNat v) 0,.int (.ofNat l) 0,.int 1 0],#[]⟩
def xRIterU(n:Nat):Ext:=cnX 1 (λ_=>1) (λ_ _ l=>rdRg l) (λ_ u=>.call (.builtin "range.__iter__") ⟨[.ref u.y],[]⟩) (λ_ u=>[(u.y,u.o)])
 (λ_ u=>[(.i u.a,.i 1),(.i u.b,.i (.ofNat n)),(.i u.s,.i 1),small n]) (λ_ _ xs _=>⟨.ok (.ret (.ref (xs.headD 0))),[],[rngUp 1 (n - 1)]⟩)
def uR{w:World}{tl:zb}{n:Nat}:LeafOk w tl (xRIterU n):=by
 refine zt λprog s d ⟨y,a,ta,b,tb,st,ts⟩ wh gs hg _ hp=>?_
 have e2:a=1:=LV.i.inj (hp _ (.head _))
 have e3:b=.ofNat n:=LV.i.inj (hp _ (.tail _ (.head _)))
 have e4:st=1:=LV.i.inj (hp _ (.tail _ (.tail _ (.head _))))
 have hn:=of_decide_eq_true (LV.b.inj (hp _ (.tail _ (.tail _ (.tail _ (.head _))))))
 subst e2 e3 e4
 have h1:=hg _ (.head _)
 have hsz:Builtin.Range.rangeSize 1 (Int.ofNat n) 1=Int.ofNat (n - 1):=by
  simp only[Builtin.Range.rangeSize,Int.ofNat_eq_natCast]
  rw[if_pos (by decide)]
  by_cases h0:(1:Int) < n
  ·rw[if_pos h0];show ((n:Int) - 1 - 1) / 1+1=_;rw[Int.ediv_one,Int.sub_add_cancel];exact(Int.natCast_sub (n:=1) (Nat.le_of_lt (Int.ofNat_lt.mp h0))).symm
  ·rw[if_neg h0,Nat.sub_eq_zero_of_le (Nat.le_of_not_lt λq=>h0 (Int.ofNat_lt.mpr q))];rfl
 have hc0:(!(Builtin.Range.rangeFitsLong 1 && Builtin.Range.rangeFitsLong (Int.ofNat n) && Builtin.Range.rangeFitsLong 1 && Builtin.Range.rangeFitsLong (Builtin.Range.rangeSize 1 (Int.ofNat n) 1) && (Builtin.Range.rangeSize 1 (Int.ofNat n) 1==0 || if (1:Int) > 0 then Builtin.Range.rangeFitsLong (Int.ofNat n+(1 - 1)) else Builtin.Range.rangeFitsLong (Int.ofNat n+(1+1)))))=false:=by
  have fN:∀{n:Nat},n<=1000->Builtin.Range.rangeFitsLong (Int.ofNat n)=true:=λh=>w2 (Int.le_trans (by decide) (Int.natCast_nonneg _)) (Int.ofNat_le.mpr h)
  rw[hsz,if_pos (by decide)]
  rw[show Int.ofNat n+(1 - 1)=Int.ofNat n from Int.add_zero _,fN hn,w2 (i:=1) (by decide) (by decide),fN (Nat.le_trans (Nat.sub_le n 1) hn)]
  simp
 refine⟨[s.heap.objs.size],.of 0,{ s with heap:=s.heap.push (rngUp 1 (n - 1)) },rfl,zK,zp PySem.F.slot_range_iter ⟨_,h1,rfl⟩ PySem.F.entry_range_iter (PySem.F.args_range_iter_1 _) (AutoRange.range___iter___range_1 y _ _ _ ta tb ts (by rw[hc0];decide)) ⟨h1,?_⟩,Eff.push (tk:=s.toks) rfl⟩
 rw[Bool.not_eq_false'] at hc0
 rw[if_pos (by first|exact hc0|(rw[hsz] at hc0 ⊢;exact hc0)),hsz]
 exact⟨rfl,rfl⟩
def YY{M:Model}{wh:List (Code × Pos)}{s:Shared}{β:Type}{Q:β->Shared->Prop}{E:Value->Shared->Prop}(h:E (.ref (s.heap.objs.size+1)) { s with heap:=(s.heap.push tup0).push (stopO s.heap.objs.size) }) :
  wpAny M (aroundOf wh).in1 (newExc (.type "StopIteration") [] >>= raiseNew) Q E s:=by
 refine wpAny_bind ?_
 simp only[newExc,newTuple]
 refine wpAny_bind (wpAny_newObj_type ?_ (by size_fits))
 refine wpAny_bind (m:=firstArgMember _ _) (wpAny_of_eq (a:=Value.none) (by first|rfl|(simp only[firstArgMember];rfl)) ?_)
 refine wpAny_newObj_type ?_ (by size_fits)
 simp only[raiseNew]
 refine wpAny_bind (wpAny_handled ?_)
 refine wpAny_bind (wpAny_pure (wpAny_throw ?_))
 have e:(s.heap.push { cls:=.type "tuple", data:=.seq ([]:List Value).toArray }).objs.size=s.heap.objs.size+1:=by simp
 refine(?_:E (.ref (s.heap.push { cls:=.type "tuple", data:=.seq ([]:List Value).toArray }).objs.size) _)
 rw[e]
 exact h
structure RnM where
 a:Addr
 v:Nat
 l:Nat
 s:Int
noncomputable def RnM.o(u:RnM):Obj:=⟨.type "range_iterator", none,.fields #[.int (.ofNat u.v) 0,.int (.ofNat u.l) 0,.int u.s 0],#[]⟩
def rdRn(l:zb):RnM:=⟨obA l 0,(iV (vAt (flO (obO l 0)) 0)).toNat,(iV (vAt (flO (obO l 0)) 1)).toNat,iV (vAt (flO (obO l 0)) 2)⟩
def xRNextU:Ext:=cnX 1 k2 (λ_ _ l=>rdRn l) (λ_ u=>.call (.builtin "range_iterator.__next__") ⟨[.ref u.a],[]⟩) (λ_ u=>[(u.a,u.o)]) (λd u=>match is1 d with
  |true=>[(.i u.s,.i 1),(.b (decide (0 < u.l)),.b true)]
  |false=>[(.n u.l,.n 0)]) (λd u xs t=>match is1 d with
  |true=>⟨.ok (.ret (.int (.ofNat u.v) (t.tok 0))),[rngUp (u.v+1) (u.l - 1)],[]⟩
  |false=>⟨.error (.ref (xs.tail.headD 0)),[],[tup0,stopO (xs.headD 0)]⟩)
def uQ{w:World}{tl:zb}:LeafOk w tl xRNextU:=by
 refine zt λprog s d ⟨a,v,l,st⟩ wh gs hg _ hp=>?_
 have ha:=hg _ (.head _)
 unfold k2
 dsimp only at hp ⊢
 generalize is1 d=z at hp ⊢
 cases z with
 |true=>
  have e5:st=1:=LV.i.inj (hp _ (.head _))
  have e6:0 < l:=of_decide_eq_true (LV.b.inj (hp _ (.tail _ (.head _))))
  subst e5
  obtain⟨l,rfl⟩:∃k,l=k+1:=⟨l - 1,by lia⟩
  have hn:¬Int.ofNat (l+1)<=0:=nofun
  have g1:=Heap.get?_update_self (Obj.mapFields λx_1=>x_1.setIfInBounds 0 (rawInt (Int.ofNat v+1))) ha rfl
  have g2:=Heap.get?_update_self (Obj.mapFields λx=>x.setIfInBounds 1 (rawInt (Int.ofNat (l+1) - 1))) g1 rfl
  refine⟨[],.of s.toks,_,rfl,zh,zp PySem.F.slot_range_iterator_next ⟨_,ha,rfl⟩ PySem.F.entry_range_iterator_next (PySem.F.args_range_iterator_next_1 _) (AutoRange.range_iterator___next___range_iterator_1 a (Int.ofNat v) (Int.ofNat (l+1)) 1 hn) ⟨ha,⟨rfl,rfl⟩⟩,
   ⟨λx o hx hne=>(Heap.get?_update_other _ _ (hne _ (.head _))).trans ((Heap.get?_update_other _ _ (hne _ (.head _))).trans hx),λp hp _=>?_,λp hp=>(nomatch hp),List.nodup_nil,λ_ _ h _=>h,id,rfl⟩⟩
  rw[List.mem_singleton.mp hp]
  refine g2.trans ?_
  rw[show Int.ofNat (l+1) - 1=Int.ofNat l from by simp only[Int.ofNat_eq_natCast];lia]
  rfl
 |false=>
  have e5:l=0:=LV.n.inj (hp _ (.head _))
  subst e5
  refine⟨[s.heap.objs.size,s.heap.objs.size+1],.of 0,{ s with heap:=(s.heap.push tup0).push (stopO s.heap.objs.size) },rfl,ym,xo PySem.F.slot_range_iterator_next PySem.F.entry_range_iterator_next ha rfl (PySem.F.args_range_iterator_next_1 _) ?_,Eff.push2 (tk:=s.toks) rfl rfl⟩
  show wpAny _ _ (field (.ref a) 0 >>= _) _ _ s
  refine wpAny_bind (wpAny_field ha rfl (x:=rawInt (Int.ofNat v)) rfl ?_)
  show wpAny _ _ (field (.ref a) 1 >>= _) _ _ s
  refine wpAny_bind (wpAny_field ha rfl (x:=rawInt 0) rfl ?_)
  show wpAny _ _ (field (.ref a) 2 >>= _) _ _ s
  refine wpAny_bind (wpAny_field ha rfl (x:=rawInt st) rfl ?_)
  show wpAny _ _ (if (0:Int)<=0 then _ else _) _ _ s
  rw[if_pos (by lia)]
  refine wpAny_bind (wpAny_rule (wpAny_bind ?_))
  show wpAny _ _ (newExc (.type "StopIteration") [] >>= raiseNew) _ _ _
  refine YY ?_
  exact And.intro rfl rfl
def pgEnv(a0 cell:Addr):Env:={ scope:=fnScope (topS 25),locals:=a0,globals:=3,cells:=[(sLine,cell)],qual:=qPage,func:=some 350,code:=.ref 349,frame:=some a0,builtins:=0 }
def pgLoop(a0 cell it:Addr):Code:=.forLoop (forT lpFor) (.ref it) (forB lpFor) (forO lpFor) (pgEnv a0 cell)
inductive PgW where
 |o
 |b (v3:Value) (t3:Tok)
 |r (v3:Value) (t3:Tok)
 |br (v3:Value) (t3:Tok) (v4:Value) (t4:Tok)
 |rb (v3:Value) (t3:Tok) (v4:Value) (t4:Tok)
def PgW.ents(P:Params):PgW->List DictEntry
 | .o=>[]
 | .b v3 t3=>[ent P sBlanks t3 v3]
 | .r v3 t3=>[ent P sRow t3 v3]
 | .br v3 t3 v4 t4=>[ent P sBlanks t3 v3,ent P sRow t4 v4]
 | .rb v3 t3 v4 t4=>[ent P sRow t3 v3,ent P sBlanks t4 v4]
noncomputable def PgW.k:PgW->Nat
 | .o=>6
 | .b ..=>7
 | .r ..=>7
 | .br ..=>8
 | .rb ..=>8
noncomputable def PgW.blanks(x:Value)(t:Tok):PgW->PgW
 | .o=>.b x t
 | .b _ t3=>.b x t3
 | .r v3 t3=>.rb v3 t3 x t
 | .br _ t3 v4 t4=>.br x t3 v4 t4
 | .rb v3 t3 _ t4=>.rb v3 t3 x t4
noncomputable def PgW.row(x:Value)(t:Tok):PgW->PgW
 | .o=>.r x t
 | .b v3 t3=>.br v3 t3 x t
 | .r _ t3=>.r x t3
 | .br v3 t3 _ t4=>.br v3 t3 x t4
 | .rb _ t3 v4 t4=>.rb x t3 v4 t4
inductive PgV where
 |n
 |th (v1:Value) (t1:Tok) (v2:Value) (t2:Tok) (R:List DictEntry) (k:Nat)
def PgV.ents(P:Params):PgV->List DictEntry
 | .n=>[]
 | .th v1 t1 v2 t2 R _=>ent P sTold t1 v1::ent P sHeld t2 v2::R
noncomputable def PgV.k:PgV->Nat
 | .n=>4
 | .th _ _ _ _ _ k=>k
noncomputable def PgV.set(v h:Value)(ta tb:Tok):PgV->PgV
 | .n=>.th v ta h tb [] 6
 | .th _ t1 _ t2 R k=>.th v t1 h t2 R k
structure PgL where
 g:PgF
 it:Addr
 tl:Addr
 ln:Addr
 sl:List (Str × Tok)
 i:Nat
 rm:Int
 tR:Tok
 V:PgV
 rows:List (Str × Tok)
 er:Nat
 line:List (Str × Tok)
 el:Nat
def PgL.fr(q:PgL)(P:Params)(V:PgV):Addr × Obj:=(q.g.a0,frameO (q.g.ents P q.rm q.tR++V.ents P) V.k)
def PgL.code(q:PgL):Code:=pgLoop q.g.a0 q.g.cell q.it
def PgL.T(q:PgL)(P:Params):zb:=[(q.it,lIt q.tl q.i),(q.tl,listO (rowsArr q.sl) 0),q.fr P q.V,(q.g.cell,cellO (.ref q.ln)),(q.g.ra,listO (rowsArr q.rows) q.er),(q.ln,listO (rowsArr q.line) q.el)]
section
variable (K:Wd) (b:Bag) (q:PgQ) (pos:Pos) (fA:Nat->Addr) (fT:Nat->Ch) (x:Value × Tok) (sl:List (Str × Tok)) (ep:Nat) (g0:Nat->Nat) (D:Nat->Addr) (Z:Nat->Ch) (O:Nat->Nat)
def pgS2:Start:=⟨cfg K.P K.V (WK ([0,3],b)) 6 [],[xLAdd],[((pgZ q fA).dct,cmD K.P sCode (some x)),((pgZ q fA).acc,listO (rowsArr sl) ep),(fA 0,frameO ((pgG q fA fT).ents K.P q.rm q.tR) 4),(fA 1,cellO (.ref (fA 3))),(fA 2,listO #[] 0),(fA 3,listO #[] 0)],[],kOf (pgR1 K b q pos fA fT g0) (.ok .next),(eo (pgR1 K b q pos fA fT g0)).code,⟨171,45,171,50⟩,[]⟩
def pgR2:Option Out:=(pgS2 K b q pos fA fT x sl ep g0).run D Z O 25 [11,11,5,9,13,9,1,0,9,13,15,15,0,15,17]
noncomputable def nlT(t:Tok):Str × Tok:=(⟨#[10]⟩,t)
def pgL0(q:PgQ)(fA:Nat->Addr)(fT:Nat->Ch)(sl:List (Str × Tok))(D:Nat->Addr)(Z:Nat->Ch):PgL:=⟨pgG q fA fT,D 2,D 1,fA 3,sl++[nlT ((Z 0).tok 0)],0,q.rm,q.tR,.n,[],0,[],0⟩
def pgX2:Exp:=⟨.call (pgLoop (fA 0) (fA 1) (D 2)) none false [] (kOf (pgR2 K b q pos fA fT x sl ep g0 D Z O)),(eo (pgR2 K b q pos fA fT x sl ep g0 D Z O)).code,⟨171,16,171,60⟩,[],
 [(D 2,lIt (D 1) 0),(D 1,listO (rowsArr sl++#[Value.str ⟨#[10]⟩ ((Z 0).tok 0)]) 0),(fA 0,frameO ((pgG q fA fT).ents K.P q.rm q.tR) 4),(fA 1,cellO (.ref (fA 3))),(fA 2,listO #[] 0),(fA 3,listO #[] 0)],[],[small (rowsArr sl++#[Value.str ⟨#[10]⟩ ((Z 0).tok 0)]).size]⟩
theorem SQ:lhs 6 [0,1,5,6,7,8] (pgR2 K b q pos fA fT x sl ep g0 D Z O)=rhs 3 (pgX2 K b q pos fA fT x sl ep g0 D Z O) (pgR2 K b q pos fA fT x sl ep g0 D Z O):=by
 obtain⟨_,b1⟩:=K
 cases b1<;>kernel_rfl
end
noncomputable def pos0:Pos:=⟨0,0,0,0⟩
def plXs(K:Wd)(p:Str × Tok):List Ext:=[xNext 2 (.str p.1 p.2),xAppend 1,pureX K.P 8 []]
def plS(K:Wd)(b:Bag)(q:PgL)(p:Str × Tok)(pos:Pos):Start:=mkS K (WK ([0,0,3],b)) 6 [] (plXs K p) (q.T K.P) q.code pos
section
variable (K:Wd) (b:Bag) (q:PgL) (p:Str × Tok) (pos:Pos) (D:Nat->Addr) (Z:Nat->Ch) (O:Nat->Nat)
def plR(N:Nat)(tp:List Nat):Option Out:=(plS K b q p pos).run D Z O N tp
noncomputable def strEq(x y:Str)(v:Bool):LV × LV:=(.v (.bool (x.cps.toList==y.cps.toList)),.v (.bool v))
noncomputable def strNe(x y:Str)(v:Bool):LV × LV:=(.v (.bool (x.cps.toList != y.cps.toList)),.v (.bool v))
def PgL.pcN(q:PgL)(p:Str × Tok):LV × LV:=(.ov (rowsArr q.sl)[q.i]?,.ov (some (.str p.1 p.2)))
noncomputable def PgL.nx(q:PgL)(p:Str × Tok)(ta tb:Tok)(h:Addr):PgL:={ q with i:=q.i+1,V:=q.V.set (.str p.1 p.2) (.ref h) ta tb }
noncomputable def tpA1:List Nat:=[11,1,1,11,9,7,3,7,3,7,3,2]
noncomputable def tpA2:List Nat:=[11,1,1,11,9,7,3,7,3,7,3,1,7,3,2,5,1,1,1,1,7,2,0,1,7,3,2]
noncomputable def tpA3:List Nat:=[11,1,1,11,9,7,3,7,3,7,3,1,7,3,2,5,1,1,1,1,7,2,0,1,7,3,1,7,6,0,5,1,1,0,1,15]
noncomputable def tpA4:List Nat:=[11,1,1,11,9,7,3,7,3,7,3,1,7,3,1,5,0,1,1,1]
noncomputable def tpAE:List Nat:=[11,1,0,11,9,15]
noncomputable def cα(i:Nat):Addr:=7000+i
noncomputable def cτ(_:Nat):Ch:=.of 0
noncomputable def PgL.can(q:PgL):PgL:=⟨q.g,q.it,6001,q.ln,[],0,q.rm,q.tR,.th .none 0 .none 0 [] 6,[],0,[],0⟩
def pgK3:Result->Sem Fin:=kOf (plR K b q.can (⟨#[]⟩,0) pos0 D cτ id 74 tpA3)
def pgK4:Result->Sem Fin:=kOf (plR K b q.can (⟨#[]⟩,0) pos0 (λ_=>D 1) cτ id 48 tpA4)
def pg_aEX:Exp:=⟨.pure (.done .next),.block (forO lpFor) (pgEnv q.g.a0 q.g.cell),⟨171,8,171,12⟩,[],[q.fr K.P q.V,(q.g.cell,cellO (.ref q.ln)),(q.g.ra,listO (rowsArr q.rows) q.er),(q.ln,listO (rowsArr q.line) q.el)],[],[(.ov (rowsArr q.sl)[q.i]?,.ov none)]⟩
theorem SU:lhs 6 [4,5,6,7] (plR K b q p pos D Z O 5 tpAE)=rhs 2 (pg_aEX K q) (plR K b q p pos D Z O 5 tpAE):=by
 obtain⟨_,b1⟩:=K
 obtain⟨g,it,tl,ln,sl,i,rm,tR,V,rows,er,line,el⟩:=q
 cases b1<;>cases V<;>kernel_rfl
def pg_a1X:Exp:=⟨.pure (.again q.code),q.code,⟨174,12,174,20⟩,[],(q.nx p ((Z 1).tok 0) ((Z 2).tok 0) (D 0)).T K.P,[],[strEq p.1 ⟨#[]⟩ true,q.pcN p]⟩
theorem SY:lhs 6 [1,2,3,4,5,6] (plR K b q p pos D Z O 28 tpA1)=rhs 1 (pg_a1X K q p D Z) (plR K b q p pos D Z O 28 tpA1):=by
 obtain⟨_,b1⟩:=K
 obtain⟨g,it,tl,ln,sl,i,rm,tR,V,rows,er,line,el⟩:=q
 cases b1<;>cases V<;>kernel_rfl
noncomputable def PgL.fr'(q:PgL)(K:Wd)(p:Str × Tok)(ta tb:Tok)(h:Addr):Addr × Obj:=q.fr K.P (q.V.set (.str p.1 p.2) (.ref h) ta tb)
def PgL.T2(q:PgL)(K:Wd)(p:Str × Tok)(ta tb:Tok)(h:Addr)(e:Nat):zb:=[(q.it,lIt q.tl (q.i+1)),(q.tl,listO (rowsArr q.sl) 0),q.fr' K p ta tb h,(q.g.cell,cellO (.ref q.ln)),(q.g.ra,listO (rowsArr q.rows) q.er),(q.ln,listO ((rowsArr q.line).push (.str p.1 p.2)) e)]
def pg_a2X:Exp:=⟨.pure (.again q.code),q.code,⟨178,16,178,24⟩,[],q.T2 K p ((Z 1).tok 0) ((Z 2).tok 0) (D 0) ((Z 7).tok 0),[],[strEq p.1 ⟨#[32]⟩ true,small (rowsArr q.line).size,strNe p.1 ⟨#[10]⟩ true,strEq p.1 ⟨#[]⟩ false,q.pcN p]⟩
theorem SX:lhs 6 [1,2,3,4,5,6] (plR K b q p pos D Z O 56 tpA2)=rhs 1 (pg_a2X K q p D Z) (plR K b q p pos D Z O 56 tpA2):=by
 obtain⟨_,b1⟩:=K
 obtain⟨g,it,tl,ln,sl,i,rm,tR,V,rows,er,line,el⟩:=q
 cases b1<;>cases V<;>kernel_rfl
def ifE(s:Stmt):Expr:=(stP s).2.2.2.2.1
def boR(e:Expr):Expr:=(exP e).2.1
def cmL(e:Expr):Expr:=(exP e).1
def binR(e:Expr):Expr:=(exP e).2.1
def arg0(e:Expr):Expr:=exA e
def asgR(s:Stmt):Expr:=(stP s).2.2.2.2.1
def lpIf:Stmt:=sAt (forB lpFor) 2
def lensE:Expr:=arg0 (binR (cmL (boR (ifE (sAt (ifB lpIf) 1)))))
def lensEnv(z:CmA):Env:=cmEnv lensE z.dct qPage 349 z.a0
noncomputable def lensZ(q:PgL)(D:Nat->Addr):CmA:=⟨q.g.a0,q.ln,D 1,D 2,D 3⟩
def pg_a3X:Exp:=⟨.call (cmStart lensE (lensEnv (lensZ q D)) (lensZ q D)) none true (lOf (plR K b q p pos D Z O 74 tpA3)) (pgK3 K b q D),q.code,⟨177,66,177,70⟩,[],
  (D 1,lIt q.ln 0)::(D 2,listO #[] 0)::(D 3,dictO [] 0)::(q.ln,listO ((rowsArr q.line).push (.str p.1 p.2)) ((Z 7).tok 0))::(q.T2 K p ((Z 1).tok 0) ((Z 2).tok 0) (D 0) 0).take 5,[],[strEq p.1 ⟨#[32]⟩ false,small (rowsArr q.line).size,strNe p.1 ⟨#[10]⟩ true,strEq p.1 ⟨#[]⟩ false,q.pcN p]⟩
theorem SW:lhs 6 [2,1,0,9,4,5,6,7,8] (plR K b q p pos D Z O 74 tpA3)=rhs 4 (pg_a3X K b q p pos D Z O) (plR K b q p pos D Z O 74 tpA3):=by
 obtain⟨_,b1⟩:=K
 obtain⟨g,it,tl,ln,sl,i,rm,tR,V,rows,er,line,el⟩:=q
 cases b1<;>cases V<;>kernel_rfl
noncomputable def slO(l h:Value):Obj:=⟨.type "slice", none,.fields #[l,h,.none],#[]⟩
def PgL.T4(q:PgL)(K:Wd)(sa:Addr)(ts:Tok)(h:Addr):zb:=[(sa,slO (.int (.negSucc 0) ts) .none),(h,listO #[] 0)]++q.T K.P
def pg_a4X:Exp:=⟨.call (.call (.builtin "list.__getitem__") ⟨[.ref q.ln,.ref (D 1)],[]⟩) none false (lOf (plR K b q p pos D Z O 48 tpA4)) (pgK4 K b q D),q.code,⟨189,11,189,20⟩,[],
  (q.nx p ((Z 1).tok 0) ((Z 2).tok 0) (D 0)).T4 K (D 1) ((Z 8).tok 0) (D 0),[],[strNe p.1 ⟨#[10]⟩ false,strEq p.1 ⟨#[]⟩ false,q.pcN p]⟩
theorem SV:lhs 6 [0,1,2,3,4,5,6,7] (plR K b q p pos D Z O 48 tpA4)=rhs 2 (pg_a4X K b q p pos D Z O) (plR K b q p pos D Z O 48 tpA4):=by
 obtain⟨_,b1⟩:=K
 obtain⟨g,it,tl,ln,sl,i,rm,tR,V,rows,er,line,el⟩:=q
 cases b1<;>cases V<;>kernel_rfl
end
structure PfQ where
 q:PgL
 sa:Addr
 ts:Tok
 h:Addr
 ho:Obj
 ys1:Array Value
 ys2:Array Value
 rl:List (Str × Tok)
 S:Str
 l:List Value
def PfQ.T(z:PfQ)(K:Wd)(V:PgV):zb:=[(z.sa,slO (.int (.negSucc 0) z.ts) .none),(z.h,z.ho),(z.q.it,lIt z.q.tl z.q.i),(z.q.tl,listO (rowsArr z.q.sl) 0),z.q.fr K.P V,(z.q.g.cell,cellO (.ref z.q.ln)),(z.q.g.ra,listO (rowsArr z.q.rows) z.q.er),(z.q.ln,listO (rowsArr z.q.line) z.q.el)]
def pfXs(K:Wd)(z:PfQ):List Ext:=[xGetS 2 z.ys1,xLCmp false,xGetS 2 z.ys2,xJoinR z.rl z.S]
def pfCur(K:Wd)(b:Bag)(z:PfQ):Sem Fin:=.call (.call (.builtin "list.__getitem__") ⟨[.ref z.q.ln,.ref z.sa],[]⟩) none false z.l (pgK4 K b z.q λ_=>z.sa)
def pfS(K:Wd)(b:Bag)(z:PfQ)(V:PgV)(pos:Pos):Start:=⟨cfg K.P K.V (WK ([0,0,3],b)) 8 [],pfXs K z,z.T K V,[],pfCur K b z,z.q.code,pos,[]⟩
noncomputable def tpF0:List Nat:=[1,0,1,15,17,19,17,2,0,17,19,5,4,0,1,7,3,7,3,21,3]
noncomputable def tpF1:List Nat:=[1,0,1,15,17,19,17,2,1,17,19,5,0,1,1,1,3,0,1,21,5,2,5,4,0,23,7,3,7,3,25,3]
section
variable (K:Wd) (b:Bag) (z:PfQ) (v1:Value) (t1:Tok) (t2:Tok) (w:PgW) (pos:Pos) (D:Nat->Addr) (Z:Nat->Ch) (O:Nat->Nat)
noncomputable def PfQ.V(z:PfQ)(K:Wd)(v1:Value)(t1 t2:Tok)(w:PgW):PgV:=.th v1 t1 (.ref z.h) t2 (w.ents K.P) w.k
def pfR(N:Nat)(tp:List Nat):Option Out:=(pfS K b z (z.V K v1 t1 t2 w) pos).run D Z O N tp
def PfQ.can(q:PgL):PfQ:=⟨q.can,6003,0,6004,listO #[] 0,#[],#[],[],⟨#[]⟩,[]⟩
def pgKN(q:PgL)(na:Addr):Result->Sem Fin:=kOf ((pfS K b (PfQ.can q) ((PfQ.can q).V K .none 0 0 .o) pos0).run (λ_=>na) cτ id 40 tpF0)
def PfQ.T2(z:PfQ)(K:Wd)(v1:Value)(t1 t2:Tok)(w:PgW)(na ln:Addr):zb:=[(na,listO #[] 0),(z.h,z.ho),(z.q.it,lIt z.q.tl z.q.i),(z.q.tl,listO (rowsArr z.q.sl) 0),z.q.fr K.P (z.V K v1 t1 t2 w),(z.q.g.cell,cellO (.ref ln)),(z.q.g.ra,listO (rowsArr z.q.rows) z.q.er)]
noncomputable def spcL(t:Tok):List Value:=[.str ⟨#[32]⟩ t]
def PfQ.pcJ(rl:List (Str × Tok))(S:Str)(A:Array Value):Lg:=[(.a A,.a (rowsArr rl)),(.s (Txt.join ⟨#[]⟩ (rl.map (·.1))),.s S),(.b (decide (((rl.map (·.1)).map Str.length).sum+rl.length*(⟨#[]⟩:Str).length<=1000)),.b true)]
def PfQ.pcE(z:PfQ)(t:Tok)(v:Bool):Lg:=[(.b (leq z.ys1.toList (spcL t)),.b v),(.b (z.ys1.size != 1 || leqOk z.ys1.toList (spcL t)),.b true),(.a (slicePick (rowsArr z.q.line) (some (Int.negSucc 0)) none none),.a z.ys1),small (rowsArr z.q.line).size]
def pfX(N:Nat)(tp:List Nat)(i:Nat)(T:zb)(pc:Lg):Exp:=⟨.call (.call (.builtin "list.__ne__") ⟨[.ref z.q.g.ra,.ref (D i)],[]⟩) none false (lOf (pfR K b z v1 t1 t2 w pos D Z O N tp)) (pgKN K b z.q (D i)),z.q.code,⟨192,11,192,21⟩,[],T,[],pc⟩
theorem ST:lhs 8 [0,4,5,6,7,8,9] (pfR K b z v1 t1 t2 w pos D Z O 40 tpF0)=rhs 3 (pfX K b z v1 t1 t2 w pos D Z O 40 tpF0 2 (z.T2 K v1 t1 t2 (w.row (.str z.S ((Z 4).tok 0)) ((Z 5).tok 0)) (D 2) z.q.ln) (PfQ.pcJ z.rl z.S (rowsArr z.q.line)++z.pcE ((Z 1).tok 0) false)) (pfR K b z v1 t1 t2 w pos D Z O 40 tpF0):=by
 obtain⟨_,b1⟩:=K
 cases b1<;>cases w<;>kernel_rfl
theorem SS:lhs 8 [0,6,7,8,9,10,11] (pfR K b z v1 t1 t2 w pos D Z O 61 tpF1)=rhs 5 (pfX K b z v1 t1 t2 w pos D Z O 61 tpF1 4 (z.T2 K v1 t1 t2 (w.row (.str z.S ((Z 7).tok 0)) ((Z 8).tok 0)) (D 4) (D 3)) (PfQ.pcJ z.rl z.S z.ys2++[(.a (slicePick (rowsArr z.q.line) none (some (Int.negSucc 0)) none),.a z.ys2),small (rowsArr z.q.line).size]++z.pcE ((Z 1).tok 0) true)) (pfR K b z v1 t1 t2 w pos D Z O 61 tpF1):=by
 obtain⟨_,b1⟩:=K
 cases b1<;>cases w<;>kernel_rfl
end
noncomputable def sItA(x:Str)(tx:Tok)(i:Nat):Obj:=⟨.type "str_ascii_iterator", none,.fields #[.str x tx,.int (.ofNat i) 0],#[]⟩
def sItB:Bool->Str->Tok->Nat->Obj
 |true,x,tx,i=>sItA x tx i
 |false,x,tx,i=>sIt x tx i
def xStrIterB(asc:Bool):Ext:=cnX (M:=Str × Tok) 0 (λ_=>1) (λ_ c _=>(sV (vAt (argC c) 0),tkV (vAt (argC c) 0))) (λ_ u=>.call (.builtin "str.__iter__") ⟨[.str u.1 u.2],[]⟩) (λ_ _=>[]) (λ_ u=>[(.b (u.1.cps.all (· < 128)),.b asc)]) (λ_ u xs _=>⟨.ok (.ret (.ref (xs.headD 0))),[],[sItB asc u.1 u.2 0]⟩)
def Yq(asc:Bool)(x:Str)(t:Tok)(i:Nat):(sItB asc x t i).isFreed=false:=by cases asc<;>rfl
def vc{w:World}{tl:zb}{asc:Bool}:LeafOk w tl (xStrIterB asc):=by
 refine zt λprog s d ⟨x,t⟩ wh gs _ _ hp=>?_
 have e:=LV.b.inj (hp _ (.head _))
 refine⟨[s.heap.objs.size],.of 0,{ s with heap:=s.heap.push (sItB asc x t 0) },rfl,zK,codeAny_call_builtin PySem.F.slot_str_iter.plain PySem.F.entry_str_iter (PySem.F.slot_str_iter.check _ _ _ _ _ _ _ _ (typeIs_str s x t) (PySem.F.args_str_iter_1 _) ?_),Eff.push (tk:=s.toks) (Yq ..)⟩
 show wpAny _ _ (newFields (if (true && x.cps.all (· < 128))=true then "str_ascii_iterator" else "str_iterator") [.str x t,rawInt 0] >>= λr=>ret r) _ _ s
 rw[e]
 cases asc<;>exact wpAny_bind (wpAny_newObj_type (wpAny_pure ⟨rfl,rfl⟩))
def xSNextA(c:Nat):Ext:=cnX 1 k2 (λ_ _ l=>rdSi l) (λ_ u=>.call (.builtin "str_ascii_iterator.__next__") ⟨[.ref u.a],[]⟩) (λ_ u=>[u.o "str_ascii_iterator"]) (λd u=>[(.ov (signV u.x.cps[u.i]?),.ov (match is1 d with|true=>some (.int (.ofNat c) 0)|false=>none))]) (λd u xs t=>match is1 d with
  |true=>⟨.ok (.ret (.str ⟨#[c]⟩ (t.tok 0))),[⟨.type "str_ascii_iterator", u.dd,.fields #[.str u.x u.tx,.int (.ofNat (u.i+1)) 0],u.sl⟩],[]⟩
  |false=>⟨.error (.ref (xs.tail.headD 0)),[⟨.type "str_ascii_iterator", u.dd,.fields #[.none,.int (.ofNat u.i) u.ti],u.sl⟩],[tup0,stopO (xs.headD 0)]⟩)
def uP{w:World}{tl:zb}{c:Nat}:LeafOk w tl (xSNextA c):=by
 refine zt λprog s d ⟨a,dd,x,tx,i,ti,sl⟩ wh gs hg _ hp=>?_
 have ha:=hg _ (.head _)
 have hv:=hp _ (.head _)
 unfold SiM.o at ha
 unfold k2
 dsimp only at hv ha ⊢
 generalize is1 d=z at hv ⊢
 cases z with
 |true=>
  have hv:x.cps[i]?=some c:=xr hv
  refine⟨[],.of s.toks,{ s with heap:=s.heap.update a (Obj.mapFields λfs=>fs.setIfInBounds 1 (rawInt ((i:Int)+1))),toks:=s.toks+1 },rfl,zh,xo PySem.F.slot_str_ascii_iterator_next PySem.F.entry_str_ascii_iterator_next ha rfl (PySem.F.args_str_ascii_iterator_next_1 _) ?_,Eff.upd (tk:=s.toks+1) ha (by simp[Obj.mapFields,rawInt]) rfl⟩
  show wpAny _ _ (field (.ref a) 0 >>= _) _ _ s
  refine wpAny_bind (wpAny_field ha rfl (x:=.str x tx) rfl ?_)
  show wpAny _ _ (field (.ref a) 1 >>= _) _ _ s
  refine wpAny_bind (wpAny_field ha rfl (x:=.int i ti) rfl ?_)
  simp only[Int.toNat_natCast,hv]
  refine wpAny_bind (wpAny_setField ha rfl (by simp) (wpAny_bind (wpAny_mkStr (wpAny_pure ⟨_,rfl,?_,rfl⟩))))
  rfl
 |false=>
  have hv:x.cps[i]?=none:=wa hv
  refine⟨[s.heap.objs.size,s.heap.objs.size+1],.of 0,{ s with heap:=((s.heap.update a (Obj.mapFields λfs=>fs.setIfInBounds 0 .none)).push tup0).push (stopO s.heap.objs.size) },rfl,ym,xo PySem.F.slot_str_ascii_iterator_next PySem.F.entry_str_ascii_iterator_next ha rfl (PySem.F.args_str_ascii_iterator_next_1 _) ?_,Eff.upd_push2 (tk:=s.toks) ha (by simp[Obj.mapFields]) rfl rfl rfl⟩
  show wpAny _ _ (field (.ref a) 0 >>= _) _ _ s
  refine wpAny_bind (wpAny_field ha rfl (x:=.str x tx) rfl ?_)
  show wpAny _ _ (field (.ref a) 1 >>= _) _ _ s
  refine wpAny_bind (wpAny_field ha rfl (x:=.int i ti) rfl ?_)
  simp only[Int.toNat_natCast,hv]
  refine wpAny_bind (wpAny_rule (wpAny_bind (wpAny_setField ha rfl (by simp) (wpAny_bind (wpAny_letGo ?_)))))
  refine xS ⟨?_,?_⟩
  ·simp
  ·simp
def xStr0(c:Nat):Ext:=cnX (M:=Str × Tok × Tok) 0 (λ_=>0) (λ_ c _=>(sV (vAt (argC c) 0),tkV (vAt (argC c) 0),tkV (vAt (argC c) 1))) (λ_ u=>.call (.builtin "str.__getitem__") ⟨[.str u.1 u.2.1,.int (.ofNat 0) u.2.2],[]⟩) (λ_ _=>[]) (λ_ u=>[(.ov (signV u.1.cps[0]?),.ov (some (.int (.ofNat c) 0)))]) (λ_ _ _ t=>⟨.ok (.ret (.str ⟨#[c]⟩ (t.tok 0))),[],[]⟩)
def vM{w:World}{tl:zb}{c:Nat}:LeafOk w tl (xStr0 c):=by
 refine zt λprog s d ⟨x,tx,df⟩ wh gs _ _ hp=>?_
 have e1:=xr (hp _ (.head _))
 dsimp only at e1
 have hl':0 < x.length:=(Array.getElem?_eq_some_iff.mp e1).1
 refine⟨[],.of s.toks,{ s with toks:=s.toks+1 },rfl,zh,zU PySem.F.slot_str_getitem (typeIs_str s x tx) PySem.F.entry_str_getitem (PySem.F.args_str_getitem_2 _ _) (gives_str_getitem x (.ofNat 0) tx df c (by decide) ?_) ⟨(by show 1<=sizeLine;decide),rfl,rfl⟩,Eff.toks⟩
 have:seqIndex? (.ofNat 0) x.length=some 0:=by
  unfold seqIndex?
  simp[hl']
 rw[this]
 exact e1
structure PnQ where
 z:PfQ
 na:Addr
 ln:Addr
 v1:Value
 t1:Tok
 t2:Tok
 bl:Option (Value × Tok)
 t3:Tok
 t4:Tok
 R:List DictEntry
 k:Nat
def blE(P:Params):Option (Value × Tok)->List DictEntry->List DictEntry
 |none,l=>l
 |some (v,t),l=>ent P sBlanks t v::l
def PnQ.V(n:PnQ)(P:Params):PgV:=.th n.v1 n.t1 (.ref n.z.h) n.t2 (blE P n.bl (ent P sRow n.t3 (.str n.z.S n.t4)::n.R)) n.k
def PnQ.T(n:PnQ)(K:Wd):zb:=[(n.na,listO #[] 0),(n.z.h,n.z.ho),(n.z.q.it,lIt n.z.q.tl n.z.q.i),(n.z.q.tl,listO (rowsArr n.z.q.sl) 0),n.z.q.fr K.P (n.V K.P),(n.z.q.g.cell,cellO (.ref n.ln)),(n.z.q.g.ra,listO (rowsArr n.z.q.rows) n.z.q.er)]
def pnXs(K:Wd)(asc:Bool):List Ext:=[xLCmp true,pureX K.P 8 [],xAppend 1,xStrIterB asc]
def pnS(K:Wd)(b:Bag)(n:PnQ)(asc:Bool)(pos:Pos):Start:=⟨cfg K.P K.V (WK ([0,0,3],b)) 7 [],pnXs K asc,n.T K,[],.call (.call (.builtin "list.__ne__") ⟨[.ref n.z.q.g.ra,.ref n.na],[]⟩) none false n.z.l (pgKN K b n.z.q n.na),n.z.q.code,pos,[]⟩
noncomputable def tpNa:List Nat:=[1,0,1,13,5,2,2,5,1,1,1,1,5,3,0,1,5,3,1,5,2]
noncomputable def tpNb:List Nat:=[1,0,1,13,5,2,1,5,2,2,5,1,1,1,1,5,3,0,1,5,3,1,5,2]
noncomputable def tpNc:List Nat:=[1,0,1,13,5,2,1,5,2,1,5,3,1,5,2]
noncomputable def tpN1:List Nat:=[1,1,1,13,5,4,0,15]
def wsE:Expr:=cmL (boR (ifE (sAt (forB lpFor) 5)))
def wsEnv(z:CmA):Env:=cmEnv wsE z.dct qPage 349 z.a0
section
variable (K:Wd) (b:Bag) (n:PnQ) (asc:Bool) (pos:Pos) (D:Nat->Addr) (Z:Nat->Ch) (O:Nat->Nat)
def pnR(N:Nat)(tp:List Nat):Option Out:=(pnS K b n asc pos).run D Z O N tp
def PnQ.nx(n:PnQ)(t:Tok)(rows:Array Value)(e:Nat)(K:Wd):zb:=[(n.z.h,n.z.ho),(n.z.q.it,lIt n.z.q.tl n.z.q.i),(n.z.q.tl,listO (rowsArr n.z.q.sl) 0),{ n.z.q with rm:=0,tR:=t }.fr K.P (n.V K.P),(n.z.q.g.cell,cellO (.ref n.z.h)),(n.z.q.g.ra,listO rows e)]
noncomputable def gtI(a b:Int)(v:Bool):LV × LV:=(.v (.bool (decide (a > b))),.v (.bool v))
def PnQ.pcR(n:PnQ)(v:Bool):Lg:=[(.b (leq (rowsArr n.z.q.rows).toList []),.b (!v)),(.b ((rowsArr n.z.q.rows).size != 0 || leqOk (rowsArr n.z.q.rows).toList []),.b true)]
noncomputable def PnQ.X(n:PnQ)(T:zb)(pc:Lg):Exp:=⟨.pure (.again n.z.q.code),n.z.q.code,⟨197,8,197,12⟩,[],T,[],pc⟩
theorem pn_a:lhs 7 [1,2,3,4,5,6] (pnR K b n asc pos D Z O 40 tpNa)=rhs 0 (n.X (n.nx ((Z 4).tok 0) ((rowsArr n.z.q.rows).push (.str n.z.S n.t4)) ((Z 3).tok 0) K) (small (rowsArr n.z.q.rows).size::gtI n.z.q.rm 0 true::n.pcR false)) (pnR K b n asc pos D Z O 40 tpNa):=by
 obtain⟨_,b1⟩:=K
 obtain⟨z,na,ln,v1,t1,t2,bl,t3,t4,R,k⟩:=n
 cases b1<;>cases bl<;>kernel_rfl
theorem pn_b:lhs 7 [1,2,3,4,5,6] (pnR K b n asc pos D Z O 46 tpNb)=rhs 0 (n.X (n.nx ((Z 6).tok 0) ((rowsArr n.z.q.rows).push (.str n.z.S n.t4)) ((Z 5).tok 0) K) (small (rowsArr n.z.q.rows).size::strNe n.z.S ⟨#[]⟩ true::gtI n.z.q.rm 0 false::n.pcR false)) (pnR K b n asc pos D Z O 46 tpNb):=by
 obtain⟨_,b1⟩:=K
 obtain⟨z,na,ln,v1,t1,t2,bl,t3,t4,R,k⟩:=n
 cases b1<;>cases bl<;>kernel_rfl
theorem pn_c:lhs 7 [1,2,3,4,5,6] (pnR K b n asc pos D Z O 32 tpNc)=rhs 0 (n.X (n.nx ((Z 5).tok 0) (rowsArr n.z.q.rows) n.z.q.er K) (strNe n.z.S ⟨#[]⟩ false::gtI n.z.q.rm 0 false::n.pcR false)) (pnR K b n asc pos D Z O 32 tpNc):=by
 obtain⟨_,b1⟩:=K
 obtain⟨z,na,ln,v1,t1,t2,bl,t3,t4,R,k⟩:=n
 cases b1<;>cases bl<;>kernel_rfl
def PnQ.can(q:PgL):PnQ:=⟨PfQ.can q,6005,6006,.none,0,0,none,0,0,[],7⟩
def pgKC(q:PgL)(β:Nat->Addr):Result->Sem Fin:=kOf ((pnS K b (PnQ.can q) false pos0).run β cτ id 10 tpN1)
noncomputable def wsZ(q:PgL)(D:Nat->Addr):CmA:=⟨q.g.a0,0,D 0,D 1,D 2⟩
def pn_1X:Exp:=⟨.call (cmStart wsE (wsEnv (wsZ n.z.q D)) (wsZ n.z.q D)) none true (lOf (pnR K b n asc pos D Z O 10 tpN1)) (pgKC K b n.z.q D),n.z.q.code,⟨192,44,192,47⟩,[],
  (D 0,sItB asc n.z.S n.t4 0)::(D 1,listO #[] 0)::(D 2,dictO [] 0)::(n.T K).tail,[],(.b (n.z.S.cps.all (· < 128)),.b asc)::n.pcR true⟩
theorem pn_1:lhs 7 [2,1,0,4,5,6,7,8,9] (pnR K b n asc pos D Z O 10 tpN1)=rhs 3 (pn_1X K b n asc pos D Z O) (pnR K b n asc pos D Z O 10 tpN1):=by
 obtain⟨_,b1⟩:=K
 obtain⟨z,na,ln,v1,t1,t2,bl,t3,t4,R,k⟩:=n
 cases b1<;>cases bl<;>cases asc<;>kernel_rfl
end
structure PeQ where
 n:PnQ
 dct:Addr
 acc:Addr
 x:Option (Value × Tok)
 ws:Array Value
 e:Nat
 ys:Array Value
 F:Str
 tF:Tok
def PeQ.T(z:PeQ)(K:Wd):zb:=(z.dct,cmD K.P sSign z.x)::(z.acc,listO z.ws z.e)::(z.n.T K).tail
def peXs(K:Wd)(z:PeQ):List Ext:=[xLCmp false,pureX K.P 8 [],xAppend 1,xGet 1 (.str z.F z.tF),xStrAdd,xSetL 1 z.ys (.str z.F z.tF)]
noncomputable def pe3(it acc dct:Addr):Nat->Addr
 |0=>it
 |1=>acc
 | _=>dct
def peS(K:Wd)(b:Bag)(z:PeQ)(it:Addr)(pos:Pos):Start:=⟨cfg K.P K.V (WK ([0,0,3],b)) 8 [],peXs K z,z.T K,[],pgKC K b z.n.z.q (pe3 it z.acc z.dct) (.ok .next),z.n.z.q.code,pos,[]⟩
noncomputable def tpEa:List Nat:=[15,15,7,13,17,13,1,0,13,17,5,2,2,5,1,1,1,1,5,3,0,1,5,3,1,5,2]
noncomputable def tpEb:List Nat:=[15,15,7,13,17,13,1,0,13,17,5,2,1,5,2,2,5,1,1,1,1,5,3,0,1,5,3,1,5,2]
noncomputable def tpEc:List Nat:=[15,15,7,13,17,13,1,0,13,17,5,2,1,5,2,1,5,3,1,5,2]
noncomputable def tpE1:List Nat:=[15,15,7,13,17,13,1,1,13,17,5,0,1,1,1,4,0,1,5,5,0,5,0,1,1,6,0,1,5,3,1,5,2]
noncomputable def tpE2:List Nat:=[15,13,17,13,1,1,13,17,5,0,1,1,1,4,0,1,5,5,0,5,0,1,1,6,0,1,5,3,1,5,2]
section
variable (K:Wd) (b:Bag) (z:PeQ) (it:Addr) (pos:Pos) (D:Nat->Addr) (Z:Nat->Ch) (O:Nat->Nat)
def peR(N:Nat)(tp:List Nat):Option Out:=(peS K b z it pos).run D Z O N tp
def PeQ.pcW(z:PeQ)(v:Bool):Lg:=[(.b (leq z.ws.toList []),.b v),(.b (z.ws.size != 0 || leqOk z.ws.toList []),.b true)]
def PeQ.rw(z:PeQ):Array Value:=rowsArr z.n.z.q.rows
theorem pe_a(hx:z.x.isSome=true):lhs 8 [3,4,5,6,7,8] (peR K b z it pos D Z O 53 tpEa)=rhs 1 (z.n.X (z.n.nx ((Z 4).tok 0) (z.rw.push (.str z.n.z.S z.n.t4)) ((Z 3).tok 0) K) (small z.rw.size::gtI z.n.z.q.rm 0 true::z.pcW false)) (peR K b z it pos D Z O 53 tpEa):=by
 obtain⟨_,b1⟩:=K
 obtain⟨⟨z,na,ln,v1,t1,t2,bl,t3,t4,R,k⟩,dct,acc,x,ws,e,ys,F,tF⟩:=z
 cases x with
 |none=>cases hx
 |some v=>cases b1<;>cases bl<;>kernel_rfl
theorem pe_b(hx:z.x.isSome=true):lhs 8 [3,4,5,6,7,8] (peR K b z it pos D Z O 59 tpEb)=rhs 1 (z.n.X (z.n.nx ((Z 6).tok 0) (z.rw.push (.str z.n.z.S z.n.t4)) ((Z 5).tok 0) K) (small z.rw.size::strNe z.n.z.S ⟨#[]⟩ true::gtI z.n.z.q.rm 0 false::z.pcW false)) (peR K b z it pos D Z O 59 tpEb):=by
 obtain⟨_,b1⟩:=K
 obtain⟨⟨z,na,ln,v1,t1,t2,bl,t3,t4,R,k⟩,dct,acc,x,ws,e,ys,F,tF⟩:=z
 cases x with
 |none=>cases hx
 |some v=>cases b1<;>cases bl<;>kernel_rfl
theorem pe_c(hx:z.x.isSome=true):lhs 8 [3,4,5,6,7,8] (peR K b z it pos D Z O 45 tpEc)=rhs 1 (z.n.X (z.n.nx ((Z 5).tok 0) z.rw z.n.z.q.er K) (strNe z.n.z.S ⟨#[]⟩ false::gtI z.n.z.q.rm 0 false::z.pcW false)) (peR K b z it pos D Z O 45 tpEc):=by
 obtain⟨_,b1⟩:=K
 obtain⟨⟨z,na,ln,v1,t1,t2,bl,t3,t4,R,k⟩,dct,acc,x,ws,e,ys,F,tF⟩:=z
 cases x with
 |none=>cases hx
 |some v=>cases b1<;>cases bl<;>kernel_rfl
theorem pe_1(hx:z.x.isSome=true):lhs 8 [3,4,5,6,7,8] (peR K b z it pos D Z O 63 tpE1)=rhs 1 (z.n.X (z.n.nx ((Z 8).tok 0) (z.ys.push (.str (cat z.F z.n.z.S) ((Z 4).tok 0))) ((Z 7).tok 0) K) ((.a z.rw,.a (z.ys.push (.str z.F z.tF)))::small z.F.length::small z.n.z.S.length::(.ov (pyAt z.rw (.negSucc 0)),.ov (some (.str z.F z.tF)))::near (.negSucc 0)::z.pcW true)) (peR K b z it pos D Z O 63 tpE1):=by
 obtain⟨_,b1⟩:=K
 obtain⟨⟨z,na,ln,v1,t1,t2,bl,t3,t4,R,k⟩,dct,acc,x,ws,e,ys,F,tF⟩:=z
 cases x with
 |none=>cases hx
 |some v=>cases b1<;>cases bl<;>kernel_rfl
theorem pe_2(hx:z.x.isNone=true):lhs 8 [3,4,5,6,7,8] (peR K b z it pos D Z O 59 tpE2)=rhs 1 (z.n.X (z.n.nx ((Z 8).tok 0) (z.ys.push (.str (cat z.F z.n.z.S) ((Z 4).tok 0))) ((Z 7).tok 0) K) ((.a z.rw,.a (z.ys.push (.str z.F z.tF)))::small z.F.length::small z.n.z.S.length::(.ov (pyAt z.rw (.negSucc 0)),.ov (some (.str z.F z.tF)))::near (.negSucc 0)::z.pcW true)) (peR K b z it pos D Z O 59 tpE2):=by
 obtain⟨_,b1⟩:=K
 obtain⟨⟨z,na,ln,v1,t1,t2,bl,t3,t4,R,k⟩,dct,acc,x,ws,e,ys,F,tF⟩:=z
 cases x with
 |none=>cases b1<;>cases bl<;>kernel_rfl
 |some v=>cases hx
end
structure PbQ where
 q:PgL
 v1:Value
 t1:Tok
 v2:Value
 t2:Tok
 R:List DictEntry
 k:Nat
 β:Nat->Addr
 x:Value × Tok
 ls:Array Value
 e:Nat
noncomputable def sPiece:Str:=⟨#[112,105,101,99,101]⟩
noncomputable def PbQ.V(z:PbQ):PgV:=.th z.v1 z.t1 z.v2 z.t2 z.R z.k
noncomputable def PbQ.f(z:PbQ):PgL:={ z.q with V:=z.V }
def PbQ.T(z:PbQ)(K:Wd):zb:=(z.β 3,cmD K.P sPiece (some z.x))::(z.β 2,listO z.ls z.e)::z.f.T K.P
def pbXs(K:Wd)(z:PbQ):List Ext:=[xSumL,pureX K.P 8 [],xRIterU z.q.line.length,xBLen z.q.line.length]
def pbS(K:Wd)(b:Bag)(z:PbQ)(pos:Pos):Start:=⟨cfg K.P K.V (WK ([0,0,3],b)) 8 [],pbXs K z,z.T K,[],pgK3 K b z.q z.β (.ok .next),z.q.code,pos,[]⟩
noncomputable def tpB1:List Nat:=[15,15,7,1,0,13,2,0,7,2,2]
noncomputable def tpB2:List Nat:=[15,15,7,1,0,13,2,0,7,2,1,6,0,6,0,5,4,0,1,0,0,17,17,0,17,17,17,17,3,0,17,19]
def bkE:Expr:=asgR (sAt (ifB lpIf) 2)
noncomputable def freeCell:Str × NameKind->Str × NameKind
 |(s,.free)=>(s,.cell)
 |x=>x
def bkEnv(z:CmA)(cell:Addr):Env:={ cmEnv bkE z.dct qPage 349 z.a0 with cells:=[(sLine,cell)],scope:={ lcScope bkE with names:=(lcScope bkE).names.map freeCell } }
section
variable (K:Wd) (b:Bag) (z:PbQ) (pos:Pos) (D:Nat->Addr) (Z:Nat->Ch) (O:Nat->Nat)
def pbR(N:Nat)(tp:List Nat):Option Out:=(pbS K b z pos).run D Z O N tp
def PbQ.pcS(z:PbQ)(v:Bool):Lg:=[leI (z.q.rm+sumV z.ls.toList) z.q.g.wd v,(.b (allI z.ls.toList),.b true)]
noncomputable def pb_1X:Exp:=⟨.pure (.again z.q.code),z.q.code,⟨178,16,178,24⟩,[],z.f.T K.P,[],z.pcS true⟩
theorem pb_1:lhs 8 [2,3,4,5,6,7] (pbR K b z pos D Z O 16 tpB1)=rhs 0 (pb_1X K z) (pbR K b z pos D Z O 16 tpB1):=by
 obtain⟨_,b1⟩:=K
 cases b1<;>kernel_rfl
noncomputable def PbQ.can(q:PgL):PbQ:=⟨q.can,.none,0,.none,0,[],6,λi=>6100+i,(.none,0),#[],0⟩
def pgKB(q:PgL)(D:Nat->Addr):Result->Sem Fin:=kOf ((pbS K b (PbQ.can q) pos0).run D cτ id 54 tpB2)
noncomputable def bkZ(q:PgL)(D:Nat->Addr):CmA:=⟨q.g.a0,0,D 1,D 2,D 3⟩
def pb_2X:Exp:=⟨.call (cmStart bkE (bkEnv (bkZ z.q D) z.q.g.cell) (bkZ z.q D)) none true (lOf (pbR K b z pos D Z O 54 tpB2)) (pgKB K b z.q D),z.q.code,⟨179,21,179,74⟩,[],
  (D 1,rngUp 1 (z.q.line.length - 1))::(D 2,listO #[] 0)::(D 3,dictO [] 0)::z.f.T K.P,[],[(.i 1,.i 1),(.i ((rowsArr z.q.line).size:Int),.i (.ofNat z.q.line.length)),(.i 1,.i 1),small z.q.line.length,small (rowsArr z.q.line).size,(.i ((rowsArr z.q.line).size:Int),.i ((rowsArr z.q.line).size:Int))]++z.pcS false⟩
theorem pb_2:lhs 8 [2,1,0,6,7,8,9,10,11] (pbR K b z pos D Z O 54 tpB2)=rhs 4 (pb_2X K b z pos D Z O) (pbR K b z pos D Z O 54 tpB2):=by
 obtain⟨_,b1⟩:=K
 cases b1<;>kernel_rfl
end
structure PcQ where
 q:PgL
 S:Str
 c:Nat
 t0:Tok
 t1:Tok
 v2:Value
 t2:Tok
 β:Nat->Addr
 x:Option (Value × Tok)
 bs:Array Value
 e:Nat
 bk:Value
 ys1:Array Value
 rl:List (Str × Tok)
 J:Str
 ys2:Array Value
noncomputable def sK:Str:=⟨#[107]⟩
noncomputable def PcQ.V(z:PcQ)(P:Params)(w:PgW):PgV:=.th (.str z.S z.t0) z.t1 z.v2 z.t2 (w.ents P) w.k
noncomputable def PcQ.f(z:PcQ)(P:Params)(w:PgW):PgL:={ z.q with V:=z.V P w }
def PcQ.T(z:PcQ)(K:Wd)(w:PgW):zb:=(z.β 3,cmD K.P sK z.x)::(z.β 2,listO z.bs z.e)::(z.f K.P w).T K.P
def pcXs(K:Wd)(z:PcQ):List Ext:=[xLCmp true,pureX K.P 8 [],xGet 1 z.bk,xGetS 2 z.ys1,xJoinR z.rl z.J,xAppend 1,xGetS 2 z.ys2,xStrAdd,xStr0 z.c]
def pcS(K:Wd)(b:Bag)(z:PcQ)(w:PgW)(pos:Pos):Start:=⟨cfg K.P K.V (WK ([0,0,3],b)) 8 [],pcXs K z,z.T K w,[],pgKB K b z.q z.β (.ok .next),z.q.code,pos,[]⟩
noncomputable def tpC1:List Nat:=[7,3,15,15,7,7,13,17,13,1,1,13,17,7,3,3,3,3,5,7,0,13,13,13,3,0,13,1,1,1,4,0,1,19,5,0,21,6,0,3,5,7,0,13,13,13,3,0,13,1,1,1,7,0,1,23,5,2,7,3]
noncomputable def tpC2:List Nat:=[7,3,15,15,7,7,13,17,13,1,0,13,17,7,2,2]
noncomputable def tpC2n:List Nat:=[7,3,15,7,13,17,13,1,0,13,17,7,2,2]
noncomputable def tpC3a:List Nat:=[7,3,15,15,7,7,13,17,13,1,0,13,17,7,2,1,5,0,1,1,1,4,0,1,19,5,2,7,9,0,2,2,7,7,3,5,0,21,21,21]
noncomputable def tpC3an:List Nat:=[7,3,15,7,13,17,13,1,0,13,17,7,2,1,5,0,1,1,1,4,0,1,19,5,2,7,9,0,2,2,7,7,3,5,0,21,21,21]
noncomputable def tpC3b:List Nat:=[7,3,15,15,7,7,13,17,13,1,0,13,17,7,2,1,5,0,1,1,1,4,0,1,19,5,2,7,9,0,2,1,7,8,0,7,3,5,0,21,21,21]
noncomputable def tpC3bn:List Nat:=[7,3,15,7,13,17,13,1,0,13,17,7,2,1,5,0,1,1,1,4,0,1,19,5,2,7,9,0,2,1,7,8,0,7,3,5,0,21,21,21]
noncomputable def strEqI(a b:Int)(v:Bool):LV × LV:=(.v (.bool (a==b)),.v (.bool v))
section
variable (K:Wd) (b:Bag) (z:PcQ) (w:PgW) (pos:Pos) (D:Nat->Addr) (Z:Nat->Ch) (O:Nat->Nat)
def pcR(N:Nat)(tp:List Nat):Option Out:=(pcS K b z w pos).run D Z O N tp
def PcQ.pcB(z:PcQ)(v:Bool):Lg:=[(.b (leq z.bs.toList []),.b (!v)),(.b (z.bs.size != 0 || leqOk z.bs.toList []),.b true)]
def PcQ.pcG(z:PcQ):Lg:=[(.ov (pyAt z.bs (.negSucc 0)),.ov (some z.bk)),near (.negSucc 0)]
noncomputable def PcQ.wb(z:PcQ)(w:PgW)(t:Tok):PgW:=w.blanks (.ref (z.β 2)) t
def PcQ.nx(z:PcQ)(K:Wd)(w:PgW)(ln:Addr)(lo:Obj)(ro:Obj)(rm:Int)(tR:Tok):zb:=[(z.q.it,lIt z.q.tl z.q.i),(z.q.tl,listO (rowsArr z.q.sl) 0),{ z.q with rm:=rm,tR:=tR }.fr K.P (z.V K.P w),(z.q.g.cell,cellO (.ref ln)),(z.q.g.ra,ro),(ln,lo)]
def pc_1X(n:Nat):Exp:=⟨.pure (.again z.q.code),z.q.code,⟨184,16,184,24⟩,[],z.nx K (z.wb w ((Z 0).tok 0)) (D 4) (listO z.ys2 0) (listO ((rowsArr z.q.rows).push (.str z.J ((Z 7).tok 0))) ((Z 8).tok 0)) 0 ((Z 13).tok 0),[],
  [(.a (slicePick (rowsArr z.q.line) (some (n:Int)) none none),.a z.ys2),small (rowsArr z.q.line).size]++z.pcG++[small (rowsArr z.q.rows).size]++PfQ.pcJ z.rl z.J z.ys1++[(.a (slicePick (rowsArr z.q.line) none (some (n:Int)) none),.a z.ys1),small (rowsArr z.q.line).size]++z.pcG++z.pcB true⟩
theorem pc_1(hx:z.x.isSome=true)(n:Nat)(tn:Tok)(hn:z.bk=.int n tn):lhs 8 [7,8,9,10,11,0] (pcR K b z w pos D Z O 104 tpC1)=rhs 5 (pc_1X K z w D Z n) (pcR K b z w pos D Z O 104 tpC1):=by
 obtain⟨_,b1⟩:=K
 obtain⟨q,S,c,t0,t1,v2,t2,β,x,bs,e,bk,ys1,rl,J,ys2⟩:=z
 cases hn
 cases x with
 |none=>cases hx
 |some v=>cases b1<;>cases w<;>kernel_rfl
def pc_2X:Exp:=⟨.pure (.again z.q.code),z.q.code,⟨186,16,186,24⟩,[],z.nx K (z.wb w ((Z 0).tok 0)) z.q.ln (listO (rowsArr z.q.line) z.q.el) (listO (rowsArr z.q.rows) z.q.er) z.q.rm z.q.tR,[],
  strEqI z.q.rm 0 true::z.pcB false⟩
theorem pc_2(hx:z.x.isSome=true):lhs 8 [3,4,5,6,7,8] (pcR K b z w pos D Z O 34 tpC2)=rhs 1 (pc_2X K z w Z) (pcR K b z w pos D Z O 34 tpC2):=by
 obtain⟨_,b1⟩:=K
 obtain⟨q,S,c,t0,t1,v2,t2,β,x,bs,e,bk,ys1,rl,J,ys2⟩:=z
 cases x with
 |none=>cases hx
 |some v=>cases b1<;>cases w<;>kernel_rfl
def pc_2nX:Exp:=⟨.pure (.again z.q.code),z.q.code,⟨186,16,186,24⟩,[],z.nx K (z.wb w ((Z 0).tok 0)) z.q.ln (listO (rowsArr z.q.line) z.q.el) (listO (rowsArr z.q.rows) z.q.er) z.q.rm z.q.tR,[],
  strEqI z.q.rm 0 true::z.pcB false⟩
theorem S7(hx:z.x.isNone=true):lhs 8 [3,4,5,6,7,8] (pcR K b z w pos D Z O 30 tpC2n)=rhs 1 (pc_2nX K z w Z) (pcR K b z w pos D Z O 30 tpC2n):=by
 obtain⟨_,b1⟩:=K
 obtain⟨q,S,c,t0,t1,v2,t2,β,x,bs,e,bk,ys1,rl,J,ys2⟩:=z
 cases x with
 |none=>cases b1<;>cases w<;>kernel_rfl
 |some v=>cases hx
def PcQ.T3(z:PcQ)(K:Wd)(w:PgW)(sa h ln:Addr)(ts:Tok)(hv:Value):zb:=[(sa,slO (.int (.negSucc 0) ts) .none),(h,listO #[hv] 0),(z.q.it,lIt z.q.tl z.q.i),(z.q.tl,listO (rowsArr z.q.sl) 0),z.q.fr K.P (.th (.str z.S z.t0) z.t1 (.ref h) z.t2 (w.ents K.P) w.k),(z.q.g.cell,cellO (.ref ln)),(z.q.g.ra,listO (rowsArr z.q.rows) z.q.er),(ln,listO z.ys1 0)]
def pcXX(N:Nat)(tp:List Nat)(T:zb)(pc:Lg):Exp:=⟨.call (.call (.builtin "list.__getitem__") ⟨[.ref (D 2),.ref (D 4)],[]⟩) none false (lOf (pcR K b z w pos D Z O N tp)) (pgK4 K b { z.q with ln:=D 2 } λ_=>D 4),z.q.code,⟨189,11,189,20⟩,[],T,[],pc⟩
def PcQ.pc3(z:PcQ)(sp:Bool):Lg:=[strEq ⟨#[z.c]⟩ ⟨#[32]⟩ sp,(.ov (signV z.S.cps[0]?),.ov (some (.int (.ofNat z.c) 0))),(.a (slicePick (rowsArr z.q.line) none (some (.negSucc 0)) none),.a z.ys1),small (rowsArr z.q.line).size,strEqI z.q.rm 0 false]++z.pcB false
theorem S6(hx:z.x.isSome=true):lhs 8 [0,1,7,8,9,10,11,2] (pcR K b z w pos D Z O 89 tpC3a)=rhs 5 (pcXX K b z w pos D Z O 89 tpC3a (z.T3 K (z.wb w ((Z 0).tok 0)) (D 4) (D 3) (D 2) ((Z 13).tok 0) (.str z.S z.t0)) (z.pc3 true)) (pcR K b z w pos D Z O 89 tpC3a):=by
 obtain⟨_,b1⟩:=K
 obtain⟨q,S,c,t0,t1,v2,t2,β,x,bs,e,bk,ys1,rl,J,ys2⟩:=z
 cases x with
 |none=>cases hx
 |some v=>cases b1<;>cases w<;>kernel_rfl
theorem S5(hx:z.x.isSome=true):lhs 8 [0,1,7,8,9,10,11,2] (pcR K b z w pos D Z O 93 tpC3b)=rhs 5 (pcXX K b z w pos D Z O 93 tpC3b (z.T3 K (z.wb w ((Z 0).tok 0)) (D 4) (D 3) (D 2) ((Z 15).tok 0) (.str (cat ⟨#[32]⟩ z.S) ((Z 12).tok 0))) ([small (⟨#[32]⟩:Str).length,small z.S.length]++z.pc3 false)) (pcR K b z w pos D Z O 93 tpC3b):=by
 obtain⟨_,b1⟩:=K
 obtain⟨q,S,c,t0,t1,v2,t2,β,x,bs,e,bk,ys1,rl,J,ys2⟩:=z
 cases x with
 |none=>cases hx
 |some v=>cases b1<;>cases w<;>kernel_rfl
theorem UY(hx:z.x.isNone=true):lhs 8 [0,1,7,8,9,10,11,2] (pcR K b z w pos D Z O 85 tpC3an)=rhs 5 (pcXX K b z w pos D Z O 85 tpC3an (z.T3 K (z.wb w ((Z 0).tok 0)) (D 4) (D 3) (D 2) ((Z 13).tok 0) (.str z.S z.t0)) (z.pc3 true)) (pcR K b z w pos D Z O 85 tpC3an):=by
 obtain⟨_,b1⟩:=K
 obtain⟨q,S,c,t0,t1,v2,t2,β,x,bs,e,bk,ys1,rl,J,ys2⟩:=z
 cases x with
 |none=>cases b1<;>cases w<;>kernel_rfl
 |some v=>cases hx
theorem UX(hx:z.x.isNone=true):lhs 8 [0,1,7,8,9,10,11,2] (pcR K b z w pos D Z O 89 tpC3bn)=rhs 5 (pcXX K b z w pos D Z O 89 tpC3bn (z.T3 K (z.wb w ((Z 0).tok 0)) (D 4) (D 3) (D 2) ((Z 15).tok 0) (.str (cat ⟨#[32]⟩ z.S) ((Z 12).tok 0))) ([small (⟨#[32]⟩:Str).length,small z.S.length]++z.pc3 false)) (pcR K b z w pos D Z O 89 tpC3bn):=by
 obtain⟨_,b1⟩:=K
 obtain⟨q,S,c,t0,t1,v2,t2,β,x,bs,e,bk,ys1,rl,J,ys2⟩:=z
 cases x with
 |none=>cases b1<;>cases w<;>kernel_rfl
 |some v=>cases hx
end
def slP(c:Code):Option (Code × Str × Tok):=some (c,sV (vAt (argC c) 0),tkV (vAt (argC c) 0))
def xStrLen:Ext:=mkG 0 (λ_=>0) false (λ_ c _ _ _=>slP c) (λy=>[(.c y.1,.c (.call (.builtin "len") ⟨[.str y.2.1 y.2.2],[]⟩))]) (λy=>[small y.2.1.length]) (λy _ t=>⟨.ok (.ret (.int (.ofNat y.2.1.length) (t.tok 0))),[],[]⟩)
def uO{C:Cfg}{w:World}{F:List Frame}(U:Under C F):ExtOk C w F xStrLen:=by
 refine ExtOk.leafM U λprog s d c wh objs gs y hm hg hgs ht hy hlg hp=>?_
 obtain⟨c1,x,tx⟩:=y
 have e0:c1=_:=LV.c.inj (hlg _ (.head _))
 have e1:c=c1:=(Prod.mk.inj (Option.some.inj hy)).1
 dsimp only at e0
 subst e1 e0
 clear hy hlg
 have hs:=of_decide_eq_true (LV.b.inj (hp _ (.head _)))
 dsimp only at hs
 have key:wpAny (model prog w) (aroundOf wh) (call (.builtin "len") [.str x tx]) (λv s₁=>v=.int x.length (s.toks+1)/\s₁={ s with toks:=s.toks+1+1 }) (λ_ _=>False) s:=len_str (by lia) ⟨rfl,rfl⟩
 intro Γ p hh hw
 refine wpCode_mono ?_ (CallsAt.of_wpAny key Γ p hh hw)
 rintro r s' ⟨v,rfl,rfl,rfl⟩
 exact⟨[],.of (s.toks+1),rfl,λz hz=>(by cases hz),rfl,Eff.none⟩
noncomputable def strIn(x y:Str):Bool:=!(Builtin.Str.occurrences x y 0 x.length 1).isEmpty
def xStrIn:Ext:=cnX (M:=(Str × Tok) × Str × Tok) 0 (λ_=>0) (λ_ c _=>((sV (vAt (argC c) 0),tkV (vAt (argC c) 0)),sV (vAt (argC c) 1),tkV (vAt (argC c) 1))) (λ_ u=>.call (.builtin "str.__contains__") ⟨[.str u.1.1 u.1.2,.str u.2.1 u.2.2],[]⟩) (λ_ _=>[])
 (λd u=>[(.b (strIn u.1.1 u.2.1),.b (tfB d))]) (λd _ _ _=>⟨.ok (.ret (.bool (tfB d))),[],[]⟩)
def Ya{w:World}{tl:zb}:LeafOk w tl xStrIn:=by
 refine zt λprog s d ⟨⟨x,tx⟩,y,ty⟩ wh gs _ _ hp=>?_
 have e1:strIn x y=tfB d:=LV.b.inj (hp _ (.head _))
 refine⟨[],.of s.toks,{ s with toks:=s.toks },rfl,zh,?_,Eff.toks⟩
 dsimp only
 rw[<-e1]
 exact zU PySem.F.slot_str_contains (typeIs_str s x tx) PySem.F.entry_str_contains (PySem.F.args_str_contains_2 _ _) (gives_str_contains x y tx ty) ⟨rfl,rfl⟩
def lnCode(z:CmA):Code:=cmCode lensE (lensEnv z) z
def lnStart(z:CmA):Code:=cmStart lensE (lensEnv z) z
def lnSS(K:Wd)(W:List (Code × Pos))(z:CmA)(pos:Pos):Start:=mkS K W 1 [] [] [(z.it,lIt z.src 0)] (lnStart z) pos
def RG(K:Wd)(W:List (Code × Pos))(z:CmA)(pos:Pos):∃N tp p,∀D Z O,lhs 1 [0] ((lnSS K W z pos).run D Z O N tp)=rhs 0 ⟨.pure (.again (lnCode z)),lnStart z,p,[],[(z.it,lIt z.src 0)],[],[]⟩ ((lnSS K W z pos).run D Z O N tp):=by
 obtain⟨w,b1,b2,V0,hw⟩:=K
 cases b2
 ·exact⟨11,[1,1,0,1,1],⟨177,66,177,70⟩,λD Z O=>by cases b1<;>kernel_rfl⟩
 ·exact⟨1,[],pos,λD Z O=>by cases b1<;>kernel_rfl⟩
def lnS(K:Wd)(W:List (Code × Pos))(z:CmA)(x:Option (Value × Tok))(vs:Array Value)(e i:Nat)(xs:Array Value)(e2:Nat)(p:Str × Tok)(pos:Pos):Start:=
 mkS K W 4 [] [xNext 2 (.str p.1 p.2),xAppend 1,xStrLen] [(z.dct,cmD K.P sPiece x),(z.acc,listO vs e),(z.it,lIt z.src i),(z.src,listO xs e2)] (lnCode z) pos
section
variable (K:Wd) (W:List (Code × Pos)) (z:CmA) (x:Option (Value × Tok)) (vs:Array Value) (e i:Nat) (xs:Array Value) (e2:Nat) (p:Str × Tok) (pos:Pos) (D:Nat->Addr) (Z:Nat->Ch) (O:Nat->Nat)
def lnR(N:Nat)(tp:List Nat):Option Out:=(lnS K W z x vs e i xs e2 p pos).run D Z O N tp
noncomputable def tpLn:List Nat:=[3,1,1,3,1,7,3,6,0,7,3,0,2,0,5]
def ln_rX:Exp:=⟨.pure (.again (lnCode z)),lnCode z,⟨177,42,177,52⟩,[],
  [(z.dct,cmD K.P sPiece (cmX x (.str p.1 p.2) ((Z 1).tok 0))),(z.acc,listO (vs.push (.int (.ofNat p.1.length) ((Z 2).tok 0))) ((Z 3).tok 0)),(z.it,lIt z.src (i+1)),(z.src,listO xs e2)],[],[small vs.size,small p.1.length,(.ov xs[i]?,.ov (some (.str p.1 p.2)))]⟩
theorem ln_r:lhs 4 [0,1,2,3] (lnR K W z x vs e i xs e2 p pos D Z O 19 tpLn)=rhs 0 (ln_rX K z x vs i xs e2 p Z) (lnR K W z x vs e i xs e2 p pos D Z O 19 tpLn):=by
 obtain⟨_,b1⟩:=K
 cases b1<;>cases x<;>kernel_rfl
def ln_rEX:Exp:=⟨.pure (.done .next),lnCode z,⟨177,66,177,70⟩,[],[(z.dct,cmD K.P sPiece x),(z.acc,listO vs e),(z.src,listO xs e2)],[],[(.ov xs[i]?,.ov none)]⟩
theorem RH:lhs 4 [2,3,5] (lnR K W z x vs e i xs e2 p pos D Z O 4 [3,1,0,3,1,11])=rhs 2 (ln_rEX K z x vs e i xs e2) (lnR K W z x vs e i xs e2 p pos D Z O 4 [3,1,0,3,1,11]):=by
 obtain⟨_,b1⟩:=K
 cases b1<;>cases x<;>kernel_rfl
end
def bkCode(z:CmA)(cell:Addr):Code:=cmCode bkE (bkEnv z cell) z
def bkStart(z:CmA)(cell:Addr):Code:=cmStart bkE (bkEnv z cell) z
def bkSS(K:Wd)(W:List (Code × Pos))(z:CmA)(cell:Addr)(l:Nat)(pos:Pos):Start:=mkS K W 1 [] [] [(z.it,rngUp 1 l)] (bkStart z cell) pos
def QS(K:Wd)(W:List (Code × Pos))(z:CmA)(cell:Addr)(l:Nat)(pos:Pos):∃N tp p,∀D Z O,lhs 1 [0] ((bkSS K W z cell l pos).run D Z O N tp)=rhs 0 ⟨.pure (.again (bkCode z cell)),bkStart z cell,p,[],[(z.it,rngUp 1 l)],[],[]⟩ ((bkSS K W z cell l pos).run D Z O N tp):=by
 obtain⟨w,b1,b2,V0,hw⟩:=K
 cases b2
 ·exact⟨11,[1,1,0,1,1],⟨179,33,179,52⟩,λD Z O=>by cases b1<;>kernel_rfl⟩
 ·exact⟨1,[],pos,λD Z O=>by cases b1<;>kernel_rfl⟩
def bkS(K:Wd)(W:List (Code × Pos))(z:CmA)(cell ln:Addr)(x:Option (Value × Tok))(vs:Array Value)(e k l:Nat)(xs:Array Value)(e2:Nat)(p:Str × Tok)(c:Nat)(pos:Pos):Start:=
 mkS K W 5 [] [xRNextU,xGet 1 (.str p.1 p.2),xStr0 c,pureX K.P 8 [],xAppend 1] [(z.dct,cmD K.P sK x),(z.acc,listO vs e),(z.it,rngUp k l),(cell,cellO (.ref ln)),(ln,listO xs e2)] (bkCode z cell) pos
section
variable (K:Wd) (W:List (Code × Pos)) (z:CmA) (cell ln:Addr) (x:Option (Value × Tok)) (vs:Array Value) (e k l:Nat) (xs:Array Value) (e2:Nat) (p:Str × Tok) (c:Nat) (pos:Pos) (D:Nat->Addr) (Z:Nat->Ch) (O:Nat->Nat)
def YT(N:Nat)(tp:List Nat):Option Out:=(bkS K W z cell ln x vs e k l xs e2 p c pos).run D Z O N tp
noncomputable def tpBk1:List Nat:=[5,1,1,5,9,4,3,9,1,1,1,2,0,1,3,0,4,2,9,5,0,7]
noncomputable def tpBk2:List Nat:=[5,1,1,5,9,4,3,9,1,1,1,2,0,1,3,0,4,1]
def bkPc(xs:Array Value)(k l:Nat)(p:Str × Tok)(c:Nat)(v:Bool):Lg:=[strEq ⟨#[c]⟩ ⟨#[32]⟩ v,(.ov (signV p.1.cps[0]?),.ov (some (.int (.ofNat c) 0))),(.ov (pyAt xs (.ofNat k)),.ov (some (.str p.1 p.2))),near (.ofNat k),(.i 1,.i 1),(.b (decide (0 < l)),.b true)]
def bk_r1X:Exp:=⟨.pure (.again (bkCode z cell)),bkCode z cell,⟨179,22,179,23⟩,[],
  [(z.dct,cmD K.P sK (cmX x (.int (.ofNat k) ((Z 0).tok 0)) ((Z 1).tok 0))),(z.acc,listO (vs.push (.int (.ofNat k) ((Z 0).tok 0))) ((Z 7).tok 0)),(z.it,rngUp (k+1) (l - 1)),(cell,cellO (.ref ln)),(ln,listO xs e2)],[],small vs.size::bkPc xs k l p c true⟩
theorem QV:lhs 5 [0,1,2,3,4] (YT K W z cell ln x vs e k l xs e2 p c pos D Z O 29 tpBk1)=rhs 0 (bk_r1X K z cell ln x vs k l xs e2 p c Z) (YT K W z cell ln x vs e k l xs e2 p c pos D Z O 29 tpBk1):=by
 obtain⟨_,b1⟩:=K
 cases b1<;>cases x<;>kernel_rfl
def bk_r2X:Exp:=⟨.pure (.again (bkCode z cell)),bkCode z cell,⟨179,56,179,73⟩,[],
  [(z.dct,cmD K.P sK (cmX x (.int (.ofNat k) ((Z 0).tok 0)) ((Z 1).tok 0))),(z.acc,listO vs e),(z.it,rngUp (k+1) (l - 1)),(cell,cellO (.ref ln)),(ln,listO xs e2)],[],bkPc xs k l p c false⟩
theorem QU:lhs 5 [0,1,2,3,4] (YT K W z cell ln x vs e k l xs e2 p c pos D Z O 26 tpBk2)=rhs 0 (bk_r2X K z cell ln x vs e k l xs e2 p c Z) (YT K W z cell ln x vs e k l xs e2 p c pos D Z O 26 tpBk2):=by
 obtain⟨_,b1⟩:=K
 cases b1<;>cases x<;>kernel_rfl
def bk_rEX:Exp:=⟨.pure (.done .next),bkCode z cell,⟨179,33,179,52⟩,[],[(z.dct,cmD K.P sK x),(z.acc,listO vs e),(cell,cellO (.ref ln)),(ln,listO xs e2)],[],[(.n l,.n 0)]⟩
theorem QT:lhs 5 [2,3,5,6] (YT K W z cell ln x vs e k l xs e2 p c pos D Z O 4 [5,1,0,5,13])=rhs 2 (bk_rEX K z cell ln x vs e l xs e2) (YT K W z cell ln x vs e k l xs e2 p c pos D Z O 4 [5,1,0,5,13]):=by
 obtain⟨_,b1⟩:=K
 cases b1<;>cases x<;>kernel_rfl
end
def wsCode(z:CmA):Code:=cmCode wsE (wsEnv z) z
def wsStart(z:CmA):Code:=cmStart wsE (wsEnv z) z
def wsSS(K:Wd)(W:List (Code × Pos))(z:CmA)(asc:Bool)(S:Str)(tS:Tok)(pos:Pos):Start:=mkS K W 1 [] [] [(z.it,sItB asc S tS 0)] (wsStart z) pos
def Si(K:Wd)(W:List (Code × Pos))(z:CmA)(asc:Bool)(S:Str)(tS:Tok)(pos:Pos):∃N tp p,∀D Z O,lhs 1 [0] ((wsSS K W z asc S tS pos).run D Z O N tp)=rhs 0 ⟨.pure (.again (wsCode z)),wsStart z,p,[],[(z.it,sItB asc S tS 0)],[],[]⟩ ((wsSS K W z asc S tS pos).run D Z O N tp):=by
 obtain⟨w,b1,b2,V0,hw⟩:=K
 cases b2
 ·exact⟨11,[1,1,0,1,1],⟨192,44,192,47⟩,λD Z O=>by cases b1<;>cases asc<;>kernel_rfl⟩
 ·exact⟨1,[],pos,λD Z O=>by cases b1<;>cases asc<;>kernel_rfl⟩
noncomputable def wsC:Str:=⟨#[31,32,160,8202,8233,8239,8287]⟩
def wsS(K:Wd)(W:List (Code × Pos))(z:CmA)(asc:Bool)(x:Option (Value × Tok))(vs:Array Value)(e i:Nat)(S:Str)(tS:Tok)(c:Nat)(pos:Pos):Start:=
 mkS K W 3 [] [xSNext c,xSNextA c,xStrIn,xAppend 1] [(z.dct,cmD K.P sSign x),(z.acc,listO vs e),(z.it,sItB asc S tS i)] (wsCode z) pos
section
variable (K:Wd) (W:List (Code × Pos)) (z:CmA) (asc:Bool) (x:Option (Value × Tok)) (vs:Array Value) (e i:Nat) (S:Str) (tS:Tok) (c:Nat) (pos:Pos) (D:Nat->Addr) (Z:Nat->Ch) (O:Nat->Nat)
def wsR(N:Nat)(tp:List Nat):Option Out:=(wsS K W z asc x vs e i S tS c pos).run D Z O N tp
noncomputable def wsTp(asc:Bool)(l:List Nat):List Nat:=1::(bif asc then 2 else 1)::l
def isWs(c:Nat):Bool:=strIn wsC ⟨#[c]⟩
def wsPc(S:Str)(i c:Nat)(v:Bool):Lg:=[(.b (isWs c),.b v),(.ov (signV S.cps[i]?),.ov (some (.int (.ofNat c) 0)))]
def ws_r1X:Exp:=⟨.pure (.again (wsCode z)),wsCode z,⟨192,51,192,98⟩,[],
  [(z.dct,cmD K.P sSign (cmX x (.str ⟨#[c]⟩ ((Z 0).tok 0)) ((Z 1).tok 0))),(z.acc,listO vs e),(z.it,sItB asc S tS (i+1))],[],wsPc S i c true⟩
theorem Sl:lhs 3 [0,1,2] (wsR K W z asc x vs e i S tS c pos D Z O 15 (wsTp asc [1,1,5,2,5,3,1]))=rhs 0 (ws_r1X K z asc x vs e i S tS c Z) (wsR K W z asc x vs e i S tS c pos D Z O 15 (wsTp asc [1,1,5,2,5,3,1])):=by
 obtain⟨_,b1⟩:=K
 cases b1<;>cases x<;>cases asc<;>kernel_rfl
def ws_r2X:Exp:=⟨.pure (.again (wsCode z)),wsCode z,⟨192,27,192,31⟩,[],
  [(z.dct,cmD K.P sSign (cmX x (.str ⟨#[c]⟩ ((Z 0).tok 0)) ((Z 1).tok 0))),(z.acc,listO (vs.push (.str ⟨#[c]⟩ ((Z 0).tok 0))) ((Z 4).tok 0)),(z.it,sItB asc S tS (i+1))],[],small vs.size::wsPc S i c false⟩
theorem Sk:lhs 3 [0,1,2] (wsR K W z asc x vs e i S tS c pos D Z O 18 (wsTp asc [1,1,5,2,5,3,0,5,4,0,3]))=rhs 0 (ws_r2X K z asc x vs i S tS c Z) (wsR K W z asc x vs e i S tS c pos D Z O 18 (wsTp asc [1,1,5,2,5,3,0,5,4,0,3])):=by
 obtain⟨_,b1⟩:=K
 cases b1<;>cases x<;>cases asc<;>kernel_rfl
def ws_rEX:Exp:=⟨.pure (.done .next),wsCode z,⟨192,44,192,47⟩,[],[(z.dct,cmD K.P sSign x),(z.acc,listO vs e)],[],[(.ov (signV S.cps[i]?),.ov none)]⟩
theorem Sj:lhs 3 [2,3] (wsR K W z asc x vs e i S tS c pos D Z O 4 (wsTp asc [0,1,9]))=rhs 2 (ws_rEX K z x vs e i S) (wsR K W z asc x vs e i S tS c pos D Z O 4 (wsTp asc [0,1,9])):=by
 obtain⟨_,b1⟩:=K
 cases b1<;>cases x<;>cases asc<;>kernel_rfl
end
def yB(l:List (Nat × Tok))(p:Nat × Tok):intsArr (l++[p])=(intsArr l).push (.int (.ofNat p.1) p.2):=by simp[intsArr]
def zN(l:List (Nat × Tok)):(intsArr l).size=l.length:=by simp[intsArr]
def Seg.eqT{K:Wd}{W:List (Code × Pos)}{cur:Sem Fin}{code:Code}{pos:Pos}{fs:List Frame}{T T':zb}{B:St->Prop}(e:T=T')(h:Seg K W ⟨cur,code,pos,fs,T⟩ B):Seg K W ⟨cur,code,pos,fs,T'⟩ B:=e▸h
def zQ{K:Wd}{W:List (Code × Pos)}{c1 c2:Code}{pos:Pos}{o:Addr × Obj}{R:zb}(hr:∃N tp p,∀D Z O,lhs 1 [0] ((mkS K W 1 [] [] [o] c1 pos).run D Z O N tp)=rhs 0 ⟨.pure (.again c2),c1,p,[],[o],[],[]⟩ ((mkS K W 1 [] [] [o] c1 pos).run D Z O N tp))(hR:∀p∈R,p.2.isFreed=false) :
  Seg K W ⟨denF c1,c1,pos,[],o::R⟩ (λs=>∃p,s=⟨.pure (.again c2),c1,p,[],o::R⟩):=by
 obtain⟨N,tp,p,hr⟩:=hr
 have h:=Seg.run (K:=K) (mkS K W 1 [] [] [o] c1 pos) (tl:=[]) rfl rfl zH _ [0] hr (by decide) rfl (by decide) (λ_ _ _=>zd) (λ_ _ _=>rfl)
 have h2:=Seg.frame R hR h
 rw[List.append_nil] at h2
 refine h2.mono ?_
 rintro s ⟨s',⟨D,Z,O⟩⟩
 exact⟨p,rfl⟩
def ZB{K:Wd}{W:List (Code × Pos)}{m:Nat}{v:Value}:∀F,Under (cfg K.P K.V W m []) F->∀e E,nth [xNext 2 v,xAppend 1,xStrLen] e=some E->ExtOk (cfg K.P K.V W m []) K.w F E:=λF U=>
 (AllOk.cons (.leaf U yg) (.cons (.leaf U zm) (.cons (uO U) .nil))).nth
def W1{K:Wd}{W:List (Code × Pos)}{z:CmA}{e2:Nat}:∀(post pre:List (Str × Tok)) (x:Option (Value × Tok)) (ns:List (Nat × Tok)) (e:Nat) (pos:Pos),(∀p∈post,p.1.length<=1000)->ns.length+post.length<=1000->
  Seg K W ⟨denF (lnCode z),lnCode z,pos,[],[(z.dct,cmD K.P sPiece x),(z.acc,listO (intsArr ns) e),(z.it,lIt z.src pre.length),(z.src,listO (rowsArr (pre++post)) e2)]⟩ (CmEnd K z sPiece intsArr [(z.src,listO (rowsArr (pre++post)) e2)] (ns.map (·.1)++post.map (λp=>p.1.length)) (λ_ x'=>(x.isSome=true\/post≠[]->x'.isSome=true))):=by
 intro post
 induction post with
 |nil=>
  rintro pre x ns e pos _ _
  refine Seg.rM (K:=K) (lnS K W z x (intsArr ns) e pre.length (rowsArr (pre++[])) e2 (⟨#[]⟩,0) pos) rfl rfl ZB _ [2,3,5] (RH K W z x (intsArr ns) e pre.length (rowsArr (pre++[])) e2 (⟨#[]⟩,0) pos) (by decide) rfl (by decide) (λ_ _ _=>za (by show LV.ov (rowsArr (pre++[]))[pre.length]?=_;simp[rowsArr]) zd) (λ_ _ _=>rfl) λD Z O=>?_
  exact⟨x,ns,e,rfl,rfl,rfl,by simp,λh=>h.elim id λh=>absurd rfl h⟩
 |cons p post IH=>
  rintro pre x ns e pos hc hl
  have hpc:Lg.Ok [small (intsArr ns).size,small p.1.length,(.ov (rowsArr (pre++p::post))[pre.length]?,.ov (some (.str p.1 p.2)))]:=za (zc (by rw[zN];simp at hl;lia)) (za (zc (hc p (.head _))) (za (by
   simp[rowsArr]) zd))
  refine Seg.rT (K:=K) (lnS K W z x (intsArr ns) e pre.length (rowsArr (pre++p::post)) e2 p pos) rfl rfl ZB _ [0,1,2,3] (ln_r K W z x (intsArr ns) e pre.length (rowsArr (pre++p::post)) e2 p pos) (by decide) rfl (by decide) (λ_ _ _=>hpc) (λ_ _ _=>rfl) λD Z O=>?_
  have e0:pre++p::post=(pre++[p])++post:=by simp
  have el:pre.length+1=(pre++[p]).length:=by simp
  have ih:=IH (pre++[p]) (cmX x (.str p.1 p.2) ((Z 1).tok 0)) (ns++[(p.1.length,(Z 2).tok 0)]) ((Z 3).tok 0) ⟨177,42,177,52⟩ (λq hq=>hc q (.tail _ hq)) (by simp at hl ⊢;lia)
  refine Seg.again rfl (Seg.perm (a:=⟨_,_,_,[],_⟩) (List.Perm.of_eq ?_) (ih.mono ?_))
  ·show _++[]=_
   rw[List.append_nil,yB,<-e0,<-el]
   rfl
  ·rintro s ⟨x',ns',e',h1,h2,h3,h4,h5⟩
   exact⟨x',ns',e',h1,h2,by rw[h3,e0],by rw[h4];simp,λ_=>h5 (.inl (by cases x<;>rfl))⟩
def Te{K:Wd}{W:List (Code × Pos)}{z:CmA}{e2:Nat}{l:List (Str × Tok)}{pos:Pos}(hc:∀p∈l,p.1.length<=1000)(hl:l.length<=1000) :
  Seg K W ⟨denF (lnStart z),lnStart z,pos,[],[(z.it,lIt z.src 0),(z.acc,listO #[] 0),(z.dct,dictO [] 0),(z.src,listO (rowsArr l) e2)]⟩ (CmEnd K z sPiece intsArr [(z.src,listO (rowsArr l) e2)] (l.map (λp=>p.1.length)) (λ_ x'=>(l≠[]->x'.isSome=true))):=by
 refine Seg.trans (zQ (RG K W z pos) (R:=[(z.acc,listO #[] 0),(z.dct,dictO [] 0),(z.src,listO (rowsArr l) e2)]) (by intro p hp;simp only[List.mem_cons,List.not_mem_nil,or_false] at hp;rcases hp with rfl|rfl|rfl<;>rfl)) ?_
 rintro s ⟨p,rfl⟩
 have ih:=W1 (K:=K) (W:=W) (z:=z) (e2:=e2) l [] none [] 0 p hc (by simpa using hl)
 refine Seg.again rfl (Seg.perm (a:=⟨_,_,_,[],_⟩) ?_ (ih.mono ?_))
 ·show List.Perm [(z.it,lIt z.src 0),(z.acc,listO #[] 0),(z.dct,dictO [] 0),(z.src,listO (rowsArr l) e2)] [(z.dct,dictO [] 0),(z.acc,listO #[] 0),(z.it,lIt z.src 0),(z.src,listO (rowsArr l) e2)]
  exact(List.Perm.swap _ _ _).trans ((List.Perm.cons _ (List.Perm.swap _ _ _)).trans (List.Perm.swap _ _ _))
 ·rintro s ⟨x',ns',e',h1,h2,h3,h4,h5⟩
  exact⟨x',ns',e',h1,h2,h3,by simpa using h4,λh=>h5 (.inr h)⟩
def zV{x y:Str}{v:Bool}{l:Lg}(h:(x.cps.toList==y.cps.toList)=v)(hl:Lg.Ok l):Lg.Ok (strEq x y v::l):=za (by unfold strEq;rw[h]) hl
def z7{x y:Str}{v:Bool}{l:Lg}(h:(x.cps.toList != y.cps.toList)=v)(hl:Lg.Ok l):Lg.Ok (strNe x y v::l):=za (by unfold strNe;rw[h]) hl
noncomputable def bkFrom(k:Nat):List Str->List Nat
 |[]=>[]
 |p::r=>match p.cps[0]?==some 32 with
  |true=>k::bkFrom (k+1) r
  |false=>bkFrom (k+1) r
def vG{K:Wd}{W:List (Code × Pos)}{m:Nat}{v:Value}{c:Nat}:∀F,Under (cfg K.P K.V W m []) F->∀e E,nth [xRNextU,xGet 1 v,xStr0 c,pureX K.P 8 [],xAppend 1] e=some E->ExtOk (cfg K.P K.V W m []) K.w F E:=λF U=>
 (AllOk.cons (.leaf U uQ) (.cons (.leaf U y7) (.cons (.leaf U vM) (.cons zn (.cons (.leaf U zm) .nil))))).nth
def y3{x:Option Nat}{c:Nat}(h:x=some c):LV.ov (signV x)=.ov (some (.int (.ofNat c) 0)):=by subst h;rfl
def VI{K:Wd}{W:List (Code × Pos)}{z:CmA}{cell ln:Addr}{e2:Nat}:∀(post pre:List (Str × Tok)) (x:Option (Value × Tok)) (ns:List (Nat × Tok)) (e:Nat) (pos:Pos),(∀p∈post,p.1.cps[0]?≠none)->pre.length+post.length<=500->ns.length<=pre.length->
  Seg K W ⟨denF (bkCode z cell),bkCode z cell,pos,[],[(z.dct,cmD K.P sK x),(z.acc,listO (intsArr ns) e),(z.it,rngUp pre.length post.length),(cell,cellO (.ref ln)),(ln,listO (rowsArr (pre++post)) e2)]⟩ (CmEnd K z sK intsArr [(cell,cellO (.ref ln)),(ln,listO (rowsArr (pre++post)) e2)] (ns.map (·.1)++bkFrom pre.length (post.map (·.1))) (λ_ x'=>(x.isSome=true\/post≠[]->x'.isSome=true))):=by
 intro post
 induction post with
 |nil=>
  rintro pre x ns e pos _ _ _
  refine Seg.rM (K:=K) (bkS K W z cell ln x (intsArr ns) e pre.length 0 (rowsArr (pre++[])) e2 (⟨#[]⟩,0) 0 pos) rfl rfl vG _ [2,3,5,6] (QT K W z cell ln x (intsArr ns) e pre.length 0 (rowsArr (pre++[])) e2 (⟨#[]⟩,0) 0 pos) (by decide) rfl (by decide) (λ_ _ _=>za rfl zd) (λ_ _ _=>rfl) λD Z O=>?_
  exact⟨x,ns,e,rfl,rfl,rfl,by simp[bkFrom],λh=>h.elim id λh=>absurd rfl h⟩
 |cons p post IH=>
  rintro pre x ns e pos hc hl hn
  obtain⟨c,hp0⟩:∃c,p.1.cps[0]?=some c:=Option.ne_none_iff_exists'.mp (hc p (.head _))
  have hat:pyAt (rowsArr (pre++p::post)) (.ofNat pre.length)=some (.str p.1 p.2):=by
   have hs:seqIndex? (.ofNat pre.length) (rowsArr (pre++p::post)).size=some pre.length:=by
    unfold seqIndex?
    rw[ze]
    have h0:¬((pre.length:Int) < 0):=by lia
    simp only[Int.ofNat_eq_natCast,h0,if_false]
    simp
    lia
   unfold pyAt
   rw[hs]
   simp[rowsArr]
  have hpc:∀v,((#[c]:Array Nat).toList==(#[32]:Array Nat).toList)=v->Lg.Ok (bkPc (rowsArr (pre++p::post)) pre.length (post.length+1) p c v):=λv hv=>
   zV hv (za (y3 hp0) (za (by rw[hat]) (za (vm (by simp only[List.length_cons] at hl;lia)) (za rfl (za (by rw[decide_eq_true (by lia)]) zd)))))
  have e0:pre++p::post=(pre++[p])++post:=by simp
  have el:pre.length+1=(pre++[p]).length:=by simp
  cases hv:((#[c]:Array Nat).toList==(#[32]:Array Nat).toList) with
  |true=>
   have hb:(p.1.cps[0]?==some 32)=true:=by rw[hp0];simpa using hv
   refine Seg.rT (K:=K) (bkS K W z cell ln x (intsArr ns) e pre.length (post.length+1) (rowsArr (pre++p::post)) e2 p c pos) rfl rfl vG _ [0,1,2,3,4] (QV K W z cell ln x (intsArr ns) e pre.length (post.length+1) (rowsArr (pre++p::post)) e2 p c pos) (by decide) rfl (by decide) (λ_ _ _=>za (zc (by rw[zN];lia)) (hpc true hv)) (λ_ _ _=>rfl) λD Z O=>?_
   have ih:=IH (pre++[p]) (cmX x (.int (.ofNat pre.length) ((Z 0).tok 0)) ((Z 1).tok 0)) (ns++[(pre.length,(Z 0).tok 0)]) ((Z 7).tok 0) ⟨179,22,179,23⟩ (λq hq=>hc q (.tail _ hq)) (by simp at hl ⊢;lia) (by simp;lia)
   refine Seg.again rfl (Seg.perm (a:=⟨_,_,_,[],_⟩) (List.Perm.of_eq ?_) (ih.mono ?_))
   ·show _++[]=_
    rw[List.append_nil,yB,<-e0,<-el]
    rfl
   ·rintro s ⟨x',ns',e',h1,h2,h3,h4,h5⟩
    exact⟨x',ns',e',h1,h2,by rw[h3,e0],by rw[h4,<-el];simp[bkFrom,hb],λ_=>h5 (.inl (by cases x<;>rfl))⟩
  |false=>
   have hb:(p.1.cps[0]?==some 32)=false:=by rw[hp0];simpa using hv
   refine Seg.rT (K:=K) (bkS K W z cell ln x (intsArr ns) e pre.length (post.length+1) (rowsArr (pre++p::post)) e2 p c pos) rfl rfl vG _ [0,1,2,3,4] (QU K W z cell ln x (intsArr ns) e pre.length (post.length+1) (rowsArr (pre++p::post)) e2 p c pos) (by decide) rfl (by decide) (λ_ _ _=>hpc false hv) (λ_ _ _=>rfl) λD Z O=>?_
   have ih:=IH (pre++[p]) (cmX x (.int (.ofNat pre.length) ((Z 0).tok 0)) ((Z 1).tok 0)) ns e ⟨179,56,179,73⟩ (λq hq=>hc q (.tail _ hq)) (by simp at hl ⊢;lia) (by simp;lia)
   refine Seg.again rfl (Seg.perm (a:=⟨_,_,_,[],_⟩) (List.Perm.of_eq ?_) (ih.mono ?_))
   ·show _++[]=_
    rw[List.append_nil,<-e0,<-el]
    rfl
   ·rintro s ⟨x',ns',e',h1,h2,h3,h4,h5⟩
    exact⟨x',ns',e',h1,h2,by rw[h3,e0],by rw[h4,<-el];simp[bkFrom,hb],λ_=>h5 (.inl (by cases x<;>rfl))⟩
noncomputable def ch1(c:Nat):Str:=⟨#[c]⟩
def vd{K:Wd}{W:List (Code × Pos)}{m:Nat}{c:Nat}:∀F,Under (cfg K.P K.V W m []) F->∀e E,nth [xSNext c,xSNextA c,xStrIn,xAppend 1] e=some E->ExtOk (cfg K.P K.V W m []) K.w F E:=λF U=>
 (AllOk.cons (.leaf U wJ) (.cons (.leaf U uP) (.cons (.leaf U Ya) (.cons (.leaf U zm) .nil)))).nth
def Ws{K:Wd}{W:List (Code × Pos)}{z:CmA}{asc:Bool}{tS:Tok}:∀(post pre:List Nat) (x:Option (Value × Tok)) (ns:List (Str × Tok)) (e:Nat) (pos:Pos),pre.length+post.length<=1000->ns.length<=pre.length->
  Seg K W ⟨denF (wsCode z),wsCode z,pos,[],[(z.dct,cmD K.P sSign x),(z.acc,listO (rowsArr ns) e),(z.it,sItB asc ⟨⟨pre++post⟩⟩ tS pre.length)]⟩ (CmEnd K z sSign rowsArr [] (ns.map (·.1)++(post.filter λc=>!isWs c).map ch1) (λ_ x'=>(x.isSome=true\/post≠[]->x'.isSome=true)/\(x=none->post=[]->x'=none))):=by
 intro post
 induction post with
 |nil=>
  rintro pre x ns e pos _ _
  refine Seg.rM (K:=K) (wsS K W z asc x (rowsArr ns) e pre.length ⟨⟨pre++[]⟩⟩ tS 0 pos) rfl rfl vd _ [2,3] (Sj K W z asc x (rowsArr ns) e pre.length ⟨⟨pre++[]⟩⟩ tS 0 pos) (by decide) rfl (by decide) (λ_ _ _=>za (by
   have:(⟨pre++[]⟩:Array Nat)[pre.length]?=none:=by simp
   show LV.ov (signV (⟨pre++[]⟩:Array Nat)[pre.length]?)=_
   rw[this];rfl) zd) (λ_ _ _=>rfl) λD Z O=>?_
  exact⟨x,ns,e,rfl,rfl,rfl,by simp,λh=>h.elim id λh=>absurd rfl h,λh _=>h⟩
 |cons c post IH=>
  rintro pre x ns e pos hl hn
  have hS:(⟨pre++c::post⟩:Array Nat)[pre.length]?=some c:=by simp
  have e0:pre++c::post=(pre++[c])++post:=by simp
  have el:pre.length+1=(pre++[c]).length:=by simp
  have hpc:∀v,isWs c=v->Lg.Ok (wsPc ⟨⟨pre++c::post⟩⟩ pre.length c v):=λv hv=>za (by rw[hv]) (za (y3 hS) zd)
  cases hv:isWs c with
  |true=>
   refine Seg.rT (K:=K) (wsS K W z asc x (rowsArr ns) e pre.length ⟨⟨pre++c::post⟩⟩ tS c pos) rfl rfl vd _ [0,1,2] (Sl K W z asc x (rowsArr ns) e pre.length ⟨⟨pre++c::post⟩⟩ tS c pos) (by decide) rfl (by decide) (λ_ _ _=>hpc true hv) (λ_ _ _=>rfl) λD Z O=>?_
   have ih:=IH (pre++[c]) (cmX x (.str ⟨#[c]⟩ ((Z 0).tok 0)) ((Z 1).tok 0)) ns e ⟨192,51,192,98⟩ (by simp at hl ⊢;lia) (by simp;lia)
   refine Seg.again rfl (Seg.perm (a:=⟨_,_,_,[],_⟩) (List.Perm.of_eq ?_) (ih.mono ?_))
   ·show _++[]=_
    rw[List.append_nil,<-e0,<-el]
    rfl
   ·rintro s ⟨x',ns',e',h1,h2,h3,h4,h5,h6⟩
    exact⟨x',ns',e',h1,h2,h3,by rw[h4];simp[hv],λ_=>h5 (.inl (by cases x<;>rfl)),λ_ h=>by cases h⟩
  |false=>
   refine Seg.rT (K:=K) (wsS K W z asc x (rowsArr ns) e pre.length ⟨⟨pre++c::post⟩⟩ tS c pos) rfl rfl vd _ [0,1,2] (Sk K W z asc x (rowsArr ns) e pre.length ⟨⟨pre++c::post⟩⟩ tS c pos) (by decide) rfl (by decide) (λ_ _ _=>za (zc (by rw[ze];lia)) (hpc false hv)) (λ_ _ _=>rfl) λD Z O=>?_
   have ih:=IH (pre++[c]) (cmX x (.str ⟨#[c]⟩ ((Z 0).tok 0)) ((Z 1).tok 0)) (ns++[(⟨#[c]⟩,(Z 0).tok 0)]) ((Z 4).tok 0) ⟨192,27,192,31⟩ (by simp at hl ⊢;lia) (by simp;lia)
   refine Seg.again rfl (Seg.perm (a:=⟨_,_,_,[],_⟩) (List.Perm.of_eq ?_) (ih.mono ?_))
   ·show _++[]=_
    rw[List.append_nil,<-zi,<-e0,<-el]
    rfl
   ·rintro s ⟨x',ns',e',h1,h2,h3,h4,h5,h6⟩
    exact⟨x',ns',e',h1,h2,h3,by rw[h4];simp[hv,ch1],λ_=>h5 (.inl (by cases x<;>rfl)),λ_ h=>by cases h⟩
def V9{K:Wd}{W:List (Code × Pos)}{z:CmA}{asc:Bool}{S:Str}{tS:Tok}{pos:Pos}(hl:S.length<=1000) :
  Seg K W ⟨denF (wsStart z),wsStart z,pos,[],[(z.it,sItB asc S tS 0),(z.acc,listO #[] 0),(z.dct,dictO [] 0)]⟩ (CmEnd K z sSign rowsArr [] ((S.cps.toList.filter λc=>!isWs c).map ch1) (λ_ x'=>(x'=none↔S.cps.toList=[]))):=by
 refine Seg.trans (zQ (Si K W z asc S tS pos) (R:=[(z.acc,listO #[] 0),(z.dct,dictO [] 0)]) (by intro p hp;simp only[List.mem_cons,List.not_mem_nil,or_false] at hp;rcases hp with rfl|rfl<;>rfl)) ?_
 rintro s ⟨p,rfl⟩
 have ih:=Ws (K:=K) (W:=W) (z:=z) (asc:=asc) (tS:=tS) S.cps.toList [] none [] 0 p (by simpa using (show S.cps.size<=1000 from hl)) (Nat.le_refl _)
 refine Seg.again rfl (Seg.perm (a:=⟨_,_,_,[],_⟩) ?_ (ih.mono ?_))
 ·show List.Perm [(z.it,sItB asc S tS 0),(z.acc,listO #[] 0),(z.dct,dictO [] 0)] [(z.dct,dictO [] 0),(z.acc,listO #[] 0),(z.it,sItB asc S tS 0)]
  exact(List.Perm.cons _ (List.Perm.swap _ _ _)).trans ((List.Perm.swap _ _ _).trans (List.Perm.cons _ (List.Perm.swap _ _ _)))
 ·rintro s ⟨x',ns',e',h1,h2,h3,h4,h5,h6⟩
  refine⟨x',ns',e',h1,h2,h3,by simpa using h4,⟨λh=>Classical.byContradiction λh'=>?_,λh=>h6 rfl h⟩⟩
  have:=h5 (.inr h')
  rw[h] at this
  cases this
def T6{K:Wd}{W:List (Code × Pos)}{z:CmA}{cell ln:Addr}{e2:Nat}{l:List (Str × Tok)}{pos:Pos}(hc:∀p∈l,p.1.cps[0]?≠none)(hl:l.length<=500)(h0:l≠[]) :
  Seg K W ⟨denF (bkStart z cell),bkStart z cell,pos,[],[(z.it,rngUp 1 (l.length - 1)),(z.acc,listO #[] 0),(z.dct,dictO [] 0),(cell,cellO (.ref ln)),(ln,listO (rowsArr l) e2)]⟩ (CmEnd K z sK intsArr [(cell,cellO (.ref ln)),(ln,listO (rowsArr l) e2)] (bkFrom 1 ((l.map (·.1)).tail)) (λns' x'=>(ns'≠[]->x'.isSome=true))):=by
 refine Seg.trans (zQ (QS K W z cell (l.length - 1) pos) (R:=[(z.acc,listO #[] 0),(z.dct,dictO [] 0),(cell,cellO (.ref ln)),(ln,listO (rowsArr l) e2)]) (by intro p hp;simp only[List.mem_cons,List.not_mem_nil,or_false] at hp;rcases hp with rfl|rfl|rfl|rfl<;>rfl)) ?_
 rintro s ⟨p,rfl⟩
 match l,h0,hc,hl with
 |q::r,_,hc,hl=>
  have ih:=VI (K:=K) (W:=W) (z:=z) (cell:=cell) (ln:=ln) (e2:=e2) r [q] none [] 0 p (λp hp=>hc p (.tail _ hp)) (by simp at hl ⊢;lia) (Nat.zero_le _)
  refine Seg.again rfl (Seg.perm (a:=⟨_,_,_,[],_⟩) ?_ (ih.mono ?_))
  ·show List.Perm [(z.it,rngUp 1 ((q::r).length - 1)),(z.acc,listO #[] 0),(z.dct,dictO [] 0),(cell,cellO (.ref ln)),(ln,listO (rowsArr (q::r)) e2)] [(z.dct,dictO [] 0),(z.acc,listO #[] 0),(z.it,rngUp 1 ((q::r).length - 1)),(cell,cellO (.ref ln)),(ln,listO (rowsArr (q::r)) e2)]
   exact(List.Perm.cons _ (List.Perm.swap _ _ _)).trans ((List.Perm.swap _ _ _).trans (List.Perm.cons _ (List.Perm.swap _ _ _)))
  ·rintro s ⟨x',ns',e',h1,h2,h3,h4,h5⟩
   refine⟨x',ns',e',h1,h2,h3,by simpa using h4,λh=>h5 (.inr λhr=>h ?_)⟩
   subst hr
   have:ns'.map (·.1)=[]:=by simpa [bkFrom] using h4
   simpa using this
structure PS where
 rows:List Str
 line:List Str
 room:Int
def whiteS(row:Str):Bool:=(row.cps.toList.filter λc=>!isWs c).isEmpty
noncomputable def rowOf(line:List Str):Str:=Txt.join ⟨#[]⟩ (match line.getLast?==some ⟨#[32]⟩ with
 |true=>line.dropLast
 |false=>line)
def putRow(rows:List Str)(room:Int)(row:Str):List Str:=match rows.getLast?,whiteS row with
 |some l,true=>rows.dropLast++[cat l row]
 | _,_=>match decide (room > 0) || row.cps.toList != [] with
  |true=>rows++[row]
  |false=>rows
def flushP(held:List Str)(s:PS):PS:=⟨putRow s.rows s.room (rowOf s.line),held,0⟩
def PgVok(P:Params)(V:PgV):Prop:=V=.n\/∃v1 t1 v2 t2 w,V=.th v1 t1 v2 t2 (PgW.ents P w) w.k
def PgOk(K:Wd)(g:PgF)(it tl:Addr)(sl:List (Str × Tok))(i:Nat)(s:PS)(T:zb):Prop:=
 ∃q:PgL,q.g=g/\q.it=it/\q.tl=tl/\q.sl=sl/\q.i=i/\List.Perm T (q.T K.P)/\q.rm=s.room/\q.rows.map (·.1)=s.rows/\q.line.map (·.1)=s.line/\PgVok K.P q.V
def Yr(P:Params)(w:PgW)(x:Value)(t:Tok):∃bl t' R,(w.row x t).ents P=blE P bl (ent P sRow t' x::R):=by
 cases w with
 |o=>exact⟨none,t,[],rfl⟩
 |b v3 t3=>exact⟨some (v3,t3),t,[],rfl⟩
 |r v3 t3=>exact⟨none,t3,[],rfl⟩
 |br v3 t3 v4 t4=>exact⟨some (v3,t3),t4,[],rfl⟩
 |rb v3 t3 v4 t4=>exact⟨none,t3,_,rfl⟩
def xW{K:Wd}{W:List (Code × Pos)}{m:Nat}{asc:Bool}:∀F,Under (cfg K.P K.V W m []) F->∀e E,nth (pnXs K asc) e=some E->ExtOk (cfg K.P K.V W m []) K.w F E:=λF U=>
 (AllOk.cons (.leaf U yH) (.cons zn (.cons (.leaf U zm) (.cons (.leaf U vc) .nil)))).nth
def xe{K:Wd}{W:List (Code × Pos)}{m:Nat}{z:PeQ}:∀F,Under (cfg K.P K.V W m []) F->∀e E,nth (peXs K z) e=some E->ExtOk (cfg K.P K.V W m []) K.w F E:=λF U=>
 (AllOk.cons (.leaf U yH) (.cons zn (.cons (.leaf U zm) (.cons (.leaf U y7) (.cons (.leaf U yZ) (.cons (.leaf U vO) .nil)))))).nth
def NEnd(K:Wd)(n:PnQ)(hl:List (Str × Tok))(row:Str)(s:St):Prop:=s.cur=.pure (.again n.z.q.code)/\s.fs=[]/\s.code=n.z.q.code/\
 PgOk K n.z.q.g n.z.q.it n.z.q.tl n.z.q.sl n.z.q.i ⟨putRow (n.z.q.rows.map (·.1)) n.z.q.rm row,hl.map (·.1),0⟩ s.T
def wk{K:Wd}{n:PnQ}{hl:List (Str × Tok)}{eh:Nat}{w:PgW}{t:Tok}{rows:List (Str × Tok)}{e:Nat}{s:St}(hho:n.z.ho=listO (rowsArr hl) eh)(hV:n.V K.P=.th n.v1 n.t1 (.ref n.z.h) n.t2 (w.ents K.P) w.k)
  (hr:rows.map (·.1)=putRow (n.z.q.rows.map (·.1)) n.z.q.rm n.z.S) (h1:s.cur=.pure (.again n.z.q.code)) (h2:s.fs=[]) (h3:s.code=n.z.q.code) (h4:s.T=n.nx t (rowsArr rows) e K):NEnd K n hl n.z.S s:=by
 refine⟨h1,h2,h3,⟨n.z.q.g,n.z.q.it,n.z.q.tl,n.z.h,n.z.q.sl,n.z.q.i,0,t,n.V K.P,rows,e,hl,eh⟩,rfl,rfl,rfl,rfl,rfl,?_,rfl,hr,rfl,.inr ⟨_,_,_,_,w,hV⟩⟩
 rw[h4]
 unfold PnQ.nx
 rw[hho]
 exact(List.perm_append_comm (l₁:=[(n.z.h,listO (rowsArr hl) eh)]) (l₂:=[_,_,_,_,_]))
def we{l:List (Str × Tok)}(h:l≠[]):leq (rowsArr l).toList []=false:=by
 cases l with
 |nil=>exact absurd rfl h
 |cons p r=>rfl
def xa{l:List (Str × Tok)}(h:l≠[]):((rowsArr l).size != 0)=true:=by
 rw[ze]
 cases l with
 |nil=>exact absurd rfl h
 |cons p r=>simp
theorem yx(room:Int)(row:Str):putRow [] room row=match decide (room > 0) || row.cps.toList != [] with
 |true=>[row]
 |false=>[]:=by
 unfold putRow
 simp
def wW{a b:Int}{v:Bool}{l:Lg}(h:decide (a > b)=v)(hl:Lg.Ok l):Lg.Ok (gtI a b v::l):=za (by unfold gtI;rw[h]) hl
def Ro{K:Wd}{b:Bag}{n:PnQ}{hl:List (Str × Tok)}{eh:Nat}{w:PgW}{pos:Pos}(hho:n.z.ho=listO (rowsArr hl) eh)(hV:n.V K.P=.th n.v1 n.t1 (.ref n.z.h) n.t2 (w.ents K.P) w.k)(hrows:n.z.q.rows=[]) :
  Seg K (WK ([0,0,3],b)) ⟨(pnS K b n false pos).cur,n.z.q.code,pos,[],n.T K⟩ (NEnd K n hl n.z.S):=by
 have hR:Lg.Ok (n.pcR false):=za (by rw[hrows];rfl) (za (by rw[hrows];rfl) zd)
 cases hg:decide (n.z.q.rm > 0) with
 |true=>
  refine Seg.rM (K:=K) (pnS K b n false pos) rfl rfl xW _ [1,2,3,4,5,6] (pn_a K b n false pos) (by decide) rfl (by decide) (λ_ _ _=>za (zc (by rw[hrows];decide)) (wW hg hR)) (λ_ _ _=>rfl) λD Z O=>?_
  refine wk (rows:=n.z.q.rows++[(n.z.S,n.t4)]) (t:=(Z 4).tok 0) (e:=(Z 3).tok 0) hho hV ?_ rfl rfl rfl ?_
  ·rw[hrows];simp[yx,hg]
  ·rw[zi];exact List.append_nil _
 |false=>
  cases hs:(n.z.S.cps.toList != (⟨#[]⟩:Str).cps.toList) with
  |true=>
   refine Seg.rM (K:=K) (pnS K b n false pos) rfl rfl xW _ [1,2,3,4,5,6] (pn_b K b n false pos) (by decide) rfl (by decide) (λ_ _ _=>za (zc (by rw[hrows];decide)) (z7 hs (wW hg hR))) (λ_ _ _=>rfl) λD Z O=>?_
   refine wk (rows:=n.z.q.rows++[(n.z.S,n.t4)]) (t:=(Z 6).tok 0) (e:=(Z 5).tok 0) hho hV ?_ rfl rfl rfl ?_
   ·rw[hrows]
    have hs':(n.z.S.cps.toList != [])=true:=hs
    simp only[List.map_nil,yx,hs',Bool.or_true]
    rfl
   ·rw[zi];exact List.append_nil _
  |false=>
   refine Seg.rM (K:=K) (pnS K b n false pos) rfl rfl xW _ [1,2,3,4,5,6] (pn_c K b n false pos) (by decide) rfl (by decide) (λ_ _ _=>z7 hs (wW hg hR)) (λ_ _ _=>rfl) λD Z O=>?_
   refine wk (rows:=n.z.q.rows) (t:=(Z 5).tok 0) (e:=n.z.q.er) hho hV ?_ rfl rfl rfl ?_
   ·rw[hrows]
    have hs':(n.z.S.cps.toList != [])=false:=hs
    simp only[List.map_nil,yx,hs',hg,Bool.or_self]
   ·exact List.append_nil _
def yb{D:Type}{l:List D}(h:l≠[]):∃a x,l=a++[x]:=⟨l.dropLast,l.getLast h,(List.dropLast_concat_getLast h).symm⟩
theorem zX(a:List Str)(F:Str)(room:Int)(row:Str):putRow (a++[F]) room row=match whiteS row with
 |true=>a++[cat F row]
 |false=>match decide (room > 0) || row.cps.toList != [] with
  |true=>a++[F]++[row]
  |false=>a++[F]:=by
 unfold putRow
 simp only[List.getLast?_append,List.getLast?_singleton,Option.some_or,List.dropLast_concat]
 cases whiteS row<;>rfl
def Yt(l:List (Str × Tok))(p:Str × Tok):pyAt (rowsArr (l++[p])) (.negSucc 0)=some (.str p.1 p.2):=by
 have hs:seqIndex? (.negSucc 0) (rowsArr (l++[p])).size=some l.length:=by
  unfold seqIndex?
  rw[ze]
  have h0:((Int.negSucc 0) < 0):=by decide
  simp only[h0,if_true,List.length_append,List.length_singleton]
  have e:Int.negSucc 0+((l.length+1:Nat):Int)=(l.length:Int):=by
   show (-1:Int)+_=_
   lia
  rw[e]
  simp
  lia
 unfold pyAt
 rw[hs]
 simp[rowsArr]
def wU:(near (.negSucc 0)).1=(near (.negSucc 0)).2:=rfl
def U4{K:Wd}{b:Bag}{n:PnQ}{hl:List (Str × Tok)}{eh:Nat}{w:PgW}{pos:Pos}(hho:n.z.ho=listO (rowsArr hl) eh)(hV:n.V K.P=.th n.v1 n.t1 (.ref n.z.h) n.t2 (w.ents K.P) w.k)(hrows:n.z.q.rows≠[])
  (hS:n.z.S.length<=1000) (hL:∀p∈n.z.q.rows,p.1.length<=1000) (hn:n.z.q.rows.length<=1000) :
  Seg K (WK ([0,0,3],b)) ⟨(pnS K b n false pos).cur,n.z.q.code,pos,[],n.T K⟩ (NEnd K n hl n.z.S):=by
 have hR:Lg.Ok (n.pcR true):=za (by rw[we hrows];rfl) (za (by rw[xa hrows];rfl) zd)
 have hlive:∀p∈(n.T K).tail,p.2.isFreed=false:=λp hp=>by
  simp only[PnQ.T,List.tail_cons,List.mem_cons,List.not_mem_nil,or_false] at hp
  rcases hp with rfl|rfl|rfl|rfl|rfl|rfl<;>first|rfl|(rw[hho];rfl)
 have key:∀asc,(n.z.S.cps.all (· < 128))=asc->Seg K (WK ([0,0,3],b)) ⟨(pnS K b n false pos).cur,n.z.q.code,pos,[],n.T K⟩ (NEnd K n hl n.z.S):=λasc hasc=>by
  refine Seg.rT (K:=K) (pnS K b n asc pos) rfl rfl xW _ [2,1,0,4,5,6,7,8,9] (pn_1 K b n asc pos) (by decide) rfl (by decide) (λ_ _ _=>za (by rw[hasc]) hR) (λ_ _ _=>rfl) λD Z O=>?_
  have hc:=λW=>Seg.frame (n.T K).tail hlive (V9 (K:=K) (W:=W) (z:=wsZ n.z.q D) (asc:=asc) (S:=n.z.S) (tS:=n.t4) (pos:=⟨192,44,192,47⟩) hS)
  refine Seg.eqT (List.append_nil _).symm (Seg.call rfl (hc _) ?_)
  rintro s ⟨s',⟨x',ns',e',e1,e2,e3,e4,e5⟩⟩
  refine⟨e2,.ok .next,e1,?_⟩
  dsimp only
  rw[e3]
  have hwh:ns'=[]↔whiteS n.z.S=true:=by
   unfold whiteS
   rw[List.isEmpty_iff]
   have hl:ns'.length=(n.z.S.cps.toList.filter λc=>!isWs c).length:=by
    have:=congrArg List.length e4
    simpa using this
   rw[<-List.length_eq_zero_iff,<-List.length_eq_zero_iff (l:=n.z.S.cps.toList.filter λc=>!isWs c),hl]
  obtain⟨a,F,ha⟩:=yb hrows
  let z:PeQ:=⟨n,D 2,D 1,x',rowsArr ns',e',rowsArr a,F.1,F.2⟩
  have eT:z.T K=[((wsZ n.z.q D).dct,cmD K.P sSign x'),((wsZ n.z.q D).acc,listO (rowsArr ns') e')]++(n.T K).tail:=rfl
  have eβ:pe3 (D 0) z.acc z.dct=pe3 (D 0) (D 1) (D 2):=rfl
  have hcur:pgKC K b n.z.q D (.ok .next)=pgKC K b n.z.q (pe3 (D 0) z.acc z.dct) (.ok .next):=by
   obtain⟨w',b1,b2,V0,hw⟩:=K
   cases b1<;>kernel_rfl
  show Seg K _ ⟨pgKC K b n.z.q D (.ok .next),n.z.q.code,⟨192,44,192,47⟩,[],_⟩ _
  rw[hcur,<-eT]
  have hmap:n.z.q.rows.map (·.1)=a.map (·.1)++[F.1]:=by rw[ha];simp
  by_cases hw:whiteS n.z.S=true
  ·have hns:ns'=[]:=hwh.mpr hw
   have hW:Lg.Ok (z.pcW true):=by
    show Lg.Ok [(.b (leq (rowsArr ns').toList []),.b true),(.b ((rowsArr ns').size != 0 || leqOk (rowsArr ns').toList []),.b true)]
    rw[hns]
    exact za rfl (za rfl zd)
   have hpc:Lg.Ok ((.a z.rw,.a (z.ys.push (.str z.F z.tF)))::small z.F.length::small z.n.z.S.length::(.ov (pyAt z.rw (.negSucc 0)),.ov (some (.str z.F z.tF)))::near (.negSucc 0)::z.pcW true):=by
    have e:z.rw=rowsArr (a++[F]):=by show rowsArr n.z.q.rows=_;rw[ha]
    rw[e]
    exact za (by rw[zi]) (za (zc (hL F (by rw[ha];simp))) (za (zc hS) (za (by rw[Yt]) (za wU hW))))
   have fin:∀{t e1 e2:Tok} {s:St},s.cur=.pure (.again n.z.q.code)->s.fs=[]->s.code=n.z.q.code->s.T=n.nx t ((rowsArr a).push (.str (cat F.1 n.z.S) e1)) e2 K->NEnd K n hl n.z.S s:=λ{t e1 e2 s} h1 h2 h3 h4=>by
    refine wk (rows:=a++[(cat F.1 n.z.S,e1)]) (t:=t) (e:=e2) hho hV ?_ h1 h2 h3 (by rw[<-zi];exact h4)
    rw[hmap,zX,hw];simp
   cases hx:x' with
   |some v=>
    refine Seg.rM (K:=K) (peS K b z (D 0) ⟨192,44,192,47⟩) rfl rfl xe _ [3,4,5,6,7,8] (pe_1 K b z (D 0) ⟨192,44,192,47⟩ (hx:=by show x'.isSome=true;rw[hx];rfl)) (by decide) rfl (by decide) (λ_ _ _=>hpc) (λ_ _ _=>rfl) λα' τ' γ'=>?_
    exact fin rfl rfl rfl (List.append_nil _)
   |none=>
    refine Seg.rM (K:=K) (peS K b z (D 0) ⟨192,44,192,47⟩) rfl rfl xe _ [3,4,5,6,7,8] (pe_2 K b z (D 0) ⟨192,44,192,47⟩ (hx:=by show x'.isNone=true;rw[hx];rfl)) (by decide) rfl (by decide) (λ_ _ _=>hpc) (λ_ _ _=>rfl) λα' τ' γ'=>?_
    exact fin rfl rfl rfl (List.append_nil _)
  ·have hns:ns'≠[]:=λh=>hw (hwh.mp h)
   have hw':whiteS n.z.S=false:=by simpa using hw
   have hW:Lg.Ok (z.pcW false):=by
    show Lg.Ok [(.b (leq (rowsArr ns').toList []),.b false),(.b ((rowsArr ns').size != 0 || leqOk (rowsArr ns').toList []),.b true)]
    exact za (by rw[we hns]) (za (by rw[xa hns];rfl) zd)
   have hx:z.x.isSome=true:=by
    cases hx:x' with
    |some v=>show x'.isSome=true;rw[hx];rfl
    |none=>
     have:=e5.mp hx
     rw[this] at e4
     simp at e4
     exact absurd e4 hns
   have hsm:small z.rw.size=small n.z.q.rows.length:=by show small (rowsArr n.z.q.rows).size=_;rw[ze]
   cases hg:decide (n.z.q.rm > 0) with
   |true=>
    refine Seg.rM (K:=K) (peS K b z (D 0) ⟨192,44,192,47⟩) rfl rfl xe _ [3,4,5,6,7,8] (pe_a K b z (D 0) ⟨192,44,192,47⟩ (hx:=hx)) (by decide) rfl (by decide) (λ_ _ _=>za (by rw[hsm];exact zc hn) (wW hg hW)) (λ_ _ _=>rfl) λα' τ' γ'=>?_
    refine wk (rows:=n.z.q.rows++[(n.z.S,n.t4)]) (t:=(τ' 4).tok 0) (e:=(τ' 3).tok 0) hho hV ?_ rfl rfl rfl ?_
    ·rw[hmap,zX,hw',hg,List.map_append,hmap];rfl
    ·rw[<-zi];exact List.append_nil _
   |false=>
    cases hs:(n.z.S.cps.toList != (⟨#[]⟩:Str).cps.toList) with
    |true=>
     refine Seg.rM (K:=K) (peS K b z (D 0) ⟨192,44,192,47⟩) rfl rfl xe _ [3,4,5,6,7,8] (pe_b K b z (D 0) ⟨192,44,192,47⟩ (hx:=hx)) (by decide) rfl (by decide) (λ_ _ _=>za (by rw[hsm];exact zc hn) (z7 hs (wW hg hW))) (λ_ _ _=>rfl) λα' τ' γ'=>?_
     have hs':(n.z.S.cps.toList != [])=true:=hs
     refine wk (rows:=n.z.q.rows++[(n.z.S,n.t4)]) (t:=(τ' 6).tok 0) (e:=(τ' 5).tok 0) hho hV ?_ rfl rfl rfl ?_
     ·rw[hmap,zX,hw',hg,hs',List.map_append,hmap];rfl
     ·rw[<-zi];exact List.append_nil _
    |false=>
     refine Seg.rM (K:=K) (peS K b z (D 0) ⟨192,44,192,47⟩) rfl rfl xe _ [3,4,5,6,7,8] (pe_c K b z (D 0) ⟨192,44,192,47⟩ (hx:=hx)) (by decide) rfl (by decide) (λ_ _ _=>z7 hs (wW hg hW)) (λ_ _ _=>rfl) λα' τ' γ'=>?_
     have hs':(n.z.S.cps.toList != [])=false:=hs
     refine wk (rows:=n.z.q.rows) (t:=(τ' 5).tok 0) (e:=n.z.q.er) hho hV ?_ rfl rfl rfl ?_
     ·rw[hmap,zX,hw',hg,hs'];rfl
     ·exact List.append_nil _
 exact key _ rfl
noncomputable def lensSum(l:List Str):Nat:=(l.map Str.length).sum
def vr(l:List Str):(Txt.join ⟨#[]⟩ l).length=lensSum l:=by
 have h:=congrArg List.length (xy l)
 simp only[Array.length_toList,List.length_flatMap] at h
 exact h
def zo(a b:List Str):lensSum (a++b)=lensSum a+lensSum b:=by simp[lensSum]
def xP{l:List Str}{x:Str}(h:x∈l):x.length<=lensSum l:=by
 induction l with
 |nil=>cases h
 |cons y r ih=>
  rcases List.mem_cons.mp h with rfl|h
  ·simp[lensSum]
  ·have:=ih h
   simp only[lensSum,List.map_cons,List.sum_cons] at this ⊢
   lia
def zT(l:List Str):lensSum l.dropLast<=lensSum l:=by
 by_cases h:l=[]
 ·subst h;exact Nat.le_refl _
 ·obtain⟨a,x,rfl⟩:=yb h
  rw[List.dropLast_concat,zo];lia
def wR(l:List Str):(rowOf l).length<=lensSum l:=by
 unfold rowOf
 rw[vr]
 split
 ·exact zT l
 ·exact Nat.le_refl _
def v9(l:List (Str × Tok)):slicePick (rowsArr l) (some (.negSucc 0)) none none=rowsArr (l.drop (l.length - 1)):=by
 have:=slicePick_last (rowsArr l) 1 (by lia)
 rw[show (Int.negSucc 0)=-((1:Nat):Int) from rfl,this,ze]
 simp[rowsArr]
def x9(l:List (Str × Tok)):slicePick (rowsArr l) none (some (.negSucc 0)) none=rowsArr l.dropLast:=by
 have:=slicePick_butLast (rowsArr l) 1 (by lia)
 rw[show (Int.negSucc 0)=-((1:Nat):Int) from rfl,this,ze,List.dropLast_eq_take]
 simp[rowsArr]
def Vf(l:List (Str × Tok))(t:Tok):leq (rowsArr (l.drop (l.length - 1))).toList (spcL t)=((l.map (·.1)).getLast?==some ⟨#[32]⟩)/\((rowsArr (l.drop (l.length - 1))).size != 1 || leqOk (rowsArr (l.drop (l.length - 1))).toList (spcL t))=true:=by
 by_cases h:l=[]
 ·subst h
  exact⟨rfl,rfl⟩
 ·obtain⟨a,x,rfl⟩:=yb h
  have e:(a++[x]).drop ((a++[x]).length - 1)=[x]:=by simp
  rw[e]
  refine⟨?_,rfl⟩
  simp only[List.map_append,List.map_cons,List.map_nil,List.getLast?_append,List.getLast?_singleton,Option.some_or]
  show (x.1==⟨#[32]⟩ && true)=_
  rw[Bool.and_true]
  rfl
def Zs{K:Wd}{W:List (Code × Pos)}{m:Nat}{z:PfQ}:∀F,Under (cfg K.P K.V W m []) F->∀e E,nth (pfXs K z) e=some E->ExtOk (cfg K.P K.V W m []) K.w F E:=λF U=>
 (AllOk.cons (.leaf U yh) (.cons (.leaf U yH) (.cons (.leaf U yh) (.cons (.leaf U yU) .nil)))).nth
def u6{rl:List (Str × Tok)}(h:lensSum (rl.map (·.1))<=1000):Lg.Ok (PfQ.pcJ rl (Txt.join ⟨#[]⟩ (rl.map (·.1))) (rowsArr rl)):=by
 refine za rfl (za rfl (za ?_ zd))
 rw[decide_eq_true]
 show lensSum (rl.map (·.1))+rl.length*0<=1000
 lia
def w1{K:Wd}{b:Bag}{z:PfQ}{v1:Value}{t1 t2:Tok}{w:PgW}{hl:List (Str × Tok)}{eh:Nat}{pos:Pos}(hho:z.ho=listO (rowsArr hl) eh)(hJ:lensSum (z.q.line.map (·.1))<=1000)(hN:z.q.line.length<=1000)
  (hL:∀p∈z.q.rows,p.1.length<=1000) (hn:z.q.rows.length<=1000) :
  Seg K (WK ([0,0,3],b)) ⟨pfCur K b z,z.q.code,pos,[],z.T K (z.V K v1 t1 t2 w)⟩ (λs=>s.cur=.pure (.again z.q.code)/\s.fs=[]/\s.code=z.q.code/\
   PgOk K z.q.g z.q.it z.q.tl z.q.sl z.q.i (flushP (hl.map (·.1)) ⟨z.q.rows.map (·.1),z.q.line.map (·.1),z.q.rm⟩) s.T):=by
 have hsz:Lg.Ok [small (rowsArr z.q.line).size]:=za (zc (by rw[ze];exact hN)) zd
 have hE:∀(t:Tok) (v:Bool),((z.q.line.map (·.1)).getLast?==some ⟨#[32]⟩)=v->∀z':PfQ,z'.q=z.q->z'.ys1=rowsArr (z.q.line.drop (z.q.line.length - 1))->Lg.Ok (z'.pcE t v):=λt v hv z' e1 e2=>by
  obtain⟨h1,h2⟩:=Vf z.q.line t
  unfold PfQ.pcE
  rw[e1,e2,h1,h2,hv,v9]
  exact za rfl (za rfl (za rfl hsz))
 have go:∀{l:List Value} {na ln:Addr} {S:Str} {t t4:Tok} {pos':Pos},S=rowOf (z.q.line.map (·.1))->
   Seg K (WK ([0,0,3],b)) ⟨.call (.call (.builtin "list.__ne__") ⟨[.ref z.q.g.ra,.ref na],[]⟩) none false l (pgKN K b z.q na),z.q.code,pos',[],z.T2 K v1 t1 t2 (w.row (.str S t) t4) na ln⟩ (λs=>s.cur=.pure (.again z.q.code)/\s.fs=[]/\s.code=z.q.code/\
   PgOk K z.q.g z.q.it z.q.tl z.q.sl z.q.i (flushP (hl.map (·.1)) ⟨z.q.rows.map (·.1),z.q.line.map (·.1),z.q.rm⟩) s.T):=λ{l na ln S t t4 pos'} hS=>by
  obtain⟨bl,t',R,hw⟩:=Yr K.P w (.str S t) t4
  let n:PnQ:=⟨{ z with l:=l,S:=S },na,ln,v1,t1,t2,bl,t',t,R,(w.row (.str S t) t4).k⟩
  have hV:n.V K.P=.th n.v1 n.t1 (.ref n.z.h) n.t2 ((w.row (.str S t) t4).ents K.P) (w.row (.str S t) t4).k:=by
   show PgV.th v1 t1 (.ref z.h) t2 (blE K.P bl (ent K.P sRow t' (.str S t)::R)) _=_
   rw[<-hw]
  have hT:n.T K=z.T2 K v1 t1 t2 (w.row (.str S t) t4) na ln:=by
   show [_,_,_,_,z.q.fr K.P (n.V K.P),_,_]=_
   rw[hV];rfl
  have hSl:n.z.S.length<=1000:=by
   show S.length<=1000
   rw[hS];exact Nat.le_trans (wR _) hJ
  have key:Seg K (WK ([0,0,3],b)) ⟨(pnS K b n false pos').cur,n.z.q.code,pos',[],n.T K⟩ (NEnd K n hl n.z.S):=by
   by_cases hr:n.z.q.rows=[]
   ·exact Ro hho hV hr
   ·exact U4 hho hV hr hSl hL hn
  rw[hT] at key
  refine key.mono ?_
  rintro s ⟨h1,h2,h3,h4⟩
  refine⟨h1,h2,h3,?_⟩
  have e:flushP (hl.map (·.1)) ⟨z.q.rows.map (·.1),z.q.line.map (·.1),z.q.rm⟩=⟨putRow (n.z.q.rows.map (·.1)) n.z.q.rm n.z.S,hl.map (·.1),0⟩:=by
   show PS.mk (putRow _ _ (rowOf _)) _ _=PS.mk (putRow _ _ S) _ _
   rw[hS]
  rw[e]
  exact h4
 cases hv:((z.q.line.map (·.1)).getLast?==some ⟨#[32]⟩) with
 |false=>
  have hrow:rowOf (z.q.line.map (·.1))=Txt.join ⟨#[]⟩ (z.q.line.map (·.1)):=by unfold rowOf;rw[hv]
  let z':PfQ:={ z with ys1:=rowsArr (z.q.line.drop (z.q.line.length - 1)),ys2:=#[],rl:=z.q.line,S:=rowOf (z.q.line.map (·.1)) }
  refine Seg.rT (K:=K) (pfS K b z' (z'.V K v1 t1 t2 w) pos) rfl rfl Zs _ [0,4,5,6,7,8,9] (ST K b z' v1 t1 t2 w pos) (by decide) rfl (by decide) (λ_ Z _=>Lg.Ok.app (by show Lg.Ok (PfQ.pcJ z.q.line (rowOf (z.q.line.map (·.1))) (rowsArr z.q.line));rw[hrow];exact u6 hJ) (hE _ false hv z' rfl rfl)) (λ_ _ _=>rfl) λD Z O=>?_
  exact Seg.eqT (List.append_nil _).symm (go rfl)
 |true=>
  have hrow:rowOf (z.q.line.map (·.1))=Txt.join ⟨#[]⟩ (z.q.line.dropLast.map (·.1)):=by unfold rowOf;rw[hv,List.map_dropLast]
  let z':PfQ:={ z with ys1:=rowsArr (z.q.line.drop (z.q.line.length - 1)),ys2:=rowsArr z.q.line.dropLast,rl:=z.q.line.dropLast,S:=rowOf (z.q.line.map (·.1)) }
  have hJ':lensSum (z.q.line.dropLast.map (·.1))<=1000:=by
   rw[List.map_dropLast]
   exact Nat.le_trans (zT _) hJ
  refine Seg.rT (K:=K) (pfS K b z' (z'.V K v1 t1 t2 w) pos) rfl rfl Zs _ [0,6,7,8,9,10,11] (SS K b z' v1 t1 t2 w pos) (by decide) rfl (by decide) (λ_ Z _=>Lg.Ok.app (Lg.Ok.app (by show Lg.Ok (PfQ.pcJ z.q.line.dropLast (rowOf (z.q.line.map (·.1))) (rowsArr z.q.line.dropLast));rw[hrow];exact u6 hJ') (za (by show LV.a (slicePick (rowsArr z.q.line) none (some (.negSucc 0)) none)=LV.a (rowsArr z.q.line.dropLast);rw[x9]) hsz)) (hE _ true hv z' rfl rfl)) (λ_ _ _=>rfl) λD Z O=>?_
  exact Seg.eqT (List.append_nil _).symm (go rfl)
def heldP(t:Str):Str:=match t.cps[0]?==some 32 with
 |true=>t
 |false=>cat ⟨#[32]⟩ t
def pageStep(wd:Int)(s:PS)(t:Str):PS:=match t.cps.toList==[] with
 |true=>s
 |false=>match t.cps.toList != [10] with
  |false=>flushP [] s
  |true=>match t.cps.toList==[32] || decide (s.room+lensSum (s.line++[t])<=wd) with
   |true=>{ s with line:=s.line++[t] }
   |false=>match (bkFrom 1 (s.line++[t]).tail).getLast? with
    |some k=>⟨s.rows++[Txt.join ⟨#[]⟩ ((s.line++[t]).take k)],(s.line++[t]).drop k,0⟩
    |none=>match s.room==0 with
     |true=>{ s with line:=s.line++[t] }
     |false=>flushP [heldP t] s
def TurnEnd(K:Wd)(q:PgL)(s':PS)(s:St):Prop:=s.cur=.pure (.again q.code)/\s.fs=[]/\s.code=q.code/\PgOk K q.g q.it q.tl q.sl (q.i+1) s' s.T
noncomputable def PgL.ps(q:PgL):PS:=⟨q.rows.map (·.1),q.line.map (·.1),q.rm⟩
def y9{P:Params}{V:PgV}(h:PgVok P V)(v hv:Value)(ta tb:Tok):∃t1 t2 w,V.set v hv ta tb=.th v t1 hv t2 (PgW.ents P w) w.k:=by
 rcases h with rfl|⟨v1,t1,v2,t2,w,rfl⟩
 ·exact⟨ta,tb,.o,rfl⟩
 ·exact⟨t1,t2,w,rfl⟩
def xd{K:Wd}{W:List (Code × Pos)}{m:Nat}{p:Str × Tok}:∀F,Under (cfg K.P K.V W m []) F->∀e E,nth (plXs K p) e=some E->ExtOk (cfg K.P K.V W m []) K.w F E:=λF U=>
 (AllOk.cons (.leaf U yg) (.cons (.leaf U zm) (.cons zn .nil))).nth
def Zt{K:Wd}{W:List (Code × Pos)}{m:Nat}{z:PbQ}:∀F,Under (cfg K.P K.V W m []) F->∀e E,nth (pbXs K z) e=some E->ExtOk (cfg K.P K.V W m []) K.w F E:=λF U=>
 (AllOk.cons (vK U) (.cons zn (.cons (.leaf U uR) (.cons (.leaf U vT) .nil)))).nth
def yy{K:Wd}{W:List (Code × Pos)}{m:Nat}{z:PcQ}:∀F,Under (cfg K.P K.V W m []) F->∀e E,nth (pcXs K z) e=some E->ExtOk (cfg K.P K.V W m []) K.w F E:=λF U=>
 (AllOk.cons (.leaf U yH) (.cons zn (.cons (.leaf U y7) (.cons (.leaf U yh) (.cons (.leaf U yU) (.cons (.leaf U zm) (.cons (.leaf U yh) (.cons (.leaf U yZ) (.cons (.leaf U vM) .nil))))))))).nth
theorem wO:∀l:List (Nat × Tok),sumV (intsArr l).toList=((l.map (·.1)).sum:Nat)
 |[]=>rfl
 |p::r=>by
  have ih:=wO r
  show (p.1:Int)+sumV (intsArr r).toList=_
  rw[ih]
  simp
theorem xC:∀l:List (Nat × Tok),allI (intsArr l).toList=true
 |[]=>rfl
 |p::r=>xC r
def Su{K:Wd}{b:Bag}{q:PgL}{p:Str × Tok}{pos:Pos}(hp:q.sl[q.i]?=some p)(hV:PgVok K.P q.V)(h1:(p.1.cps.toList==[])=true):Seg K (WK ([0,0,3],b)) ⟨denF q.code,q.code,pos,[],q.T K.P⟩ (TurnEnd K q (pageStep q.g.wd q.ps p.1)):=by
 have hN:Lg.Ok [q.pcN p]:=za (by unfold PgL.pcN;simp[rowsArr,hp]) zd
 refine Seg.rM (K:=K) (plS K b q p pos) rfl rfl xd _ [1,2,3,4,5,6] (SY K b q p pos) (by decide) rfl (by decide) (λ_ _ _=>zV h1 hN) (λ_ _ _=>rfl) λD Z O=>?_
 obtain⟨t1,t2,w,hw⟩:=y9 hV (.str p.1 p.2) (.ref (D 0)) ((Z 1).tok 0) ((Z 2).tok 0)
 refine⟨rfl,rfl,rfl,q.nx p ((Z 1).tok 0) ((Z 2).tok 0) (D 0),rfl,rfl,rfl,rfl,rfl,List.Perm.of_eq (List.append_nil _),?_⟩
 have e:pageStep q.g.wd q.ps p.1=q.ps:=by unfold pageStep;rw[h1]
 rw[e]
 exact⟨rfl,rfl,rfl,.inr ⟨_,_,_,_,w,hw⟩⟩
def Ss{K:Wd}{b:Bag}{q:PgL}{p:Str × Tok}{pos:Pos}(hp:q.sl[q.i]?=some p)(hV:PgVok K.P q.V)(hl:q.line.length<=1000)(h1:(p.1.cps.toList==[])=false)(h2:(p.1.cps.toList != [10])=true)(h3:(p.1.cps.toList==[32])=true) :
  Seg K (WK ([0,0,3],b)) ⟨denF q.code,q.code,pos,[],q.T K.P⟩ (TurnEnd K q (pageStep q.g.wd q.ps p.1)):=by
 have hN:Lg.Ok [q.pcN p]:=za (by unfold PgL.pcN;simp[rowsArr,hp]) zd
 refine Seg.rM (K:=K) (plS K b q p pos) rfl rfl xd _ [1,2,3,4,5,6] (SX K b q p pos) (by decide) rfl (by decide) (λ_ _ _=>zV h3 (za (zc (by rw[ze];exact hl)) (z7 h2 (zV h1 hN)))) (λ_ _ _=>rfl) λD Z O=>?_
 obtain⟨t1,t2,w,hw⟩:=y9 hV (.str p.1 p.2) (.ref (D 0)) ((Z 1).tok 0) ((Z 2).tok 0)
 refine⟨rfl,rfl,rfl,{ q.nx p ((Z 1).tok 0) ((Z 2).tok 0) (D 0) with line:=q.line++[p],el:=(Z 7).tok 0 },rfl,rfl,rfl,rfl,rfl,List.Perm.of_eq ((List.append_nil _).trans ?_),?_⟩
 ·show q.T2 K p _ _ _ _=_
  unfold PgL.T2 PgL.T
  rw[zi]
  rfl
 have e:pageStep q.g.wd q.ps p.1={ q.ps with line:=q.ps.line++[p.1] }:=by unfold pageStep;rw[h1,h2,h3];rfl
 rw[e]
 exact⟨rfl,rfl,by show (q.line++[p]).map (·.1)=_;simp[PgL.ps],.inr ⟨_,_,_,_,w,hw⟩⟩
def Sq{K:Wd}{b:Bag}{q:PgL}{p:Str × Tok}{pos:Pos}(hp:q.sl[q.i]?=some p)(hV:PgVok K.P q.V)(hJ:lensSum (q.line.map (·.1))<=1000)(hN':q.line.length<=1000)
  (hL:∀p∈q.rows,p.1.length<=1000) (hn:q.rows.length<=1000) (h1:(p.1.cps.toList==[])=false) (h2:(p.1.cps.toList != [10])=false) :
  Seg K (WK ([0,0,3],b)) ⟨denF q.code,q.code,pos,[],q.T K.P⟩ (TurnEnd K q (pageStep q.g.wd q.ps p.1)):=by
 have hN:Lg.Ok [q.pcN p]:=za (by unfold PgL.pcN;simp[rowsArr,hp]) zd
 refine Seg.rT (K:=K) (plS K b q p pos) rfl rfl xd _ [0,1,2,3,4,5,6,7] (SV K b q p pos) (by decide) rfl (by decide) (λ_ _ _=>z7 h2 (zV h1 hN)) (λ_ _ _=>rfl) λD Z O=>?_
 obtain⟨t1,t2,w,hw⟩:=y9 hV (.str p.1 p.2) (.ref (D 0)) ((Z 1).tok 0) ((Z 2).tok 0)
 let z:PfQ:=⟨q.nx p ((Z 1).tok 0) ((Z 2).tok 0) (D 0),D 1,(Z 8).tok 0,D 0,listO #[] 0,#[],#[],[],⟨#[]⟩,lOf (plR K b q p pos D Z O 48 tpA4)⟩
 have hf:=w1 (K:=K) (b:=b) (z:=z) (v1:=.str p.1 p.2) (t1:=t1) (t2:=t2) (w:=w) (hl:=[]) (eh:=0) (pos:=⟨189,11,189,20⟩) rfl hJ hN' hL hn
 have eT:z.T K (z.V K (.str p.1 p.2) t1 t2 w)=(q.nx p ((Z 1).tok 0) ((Z 2).tok 0) (D 0)).T4 K (D 1) ((Z 8).tok 0) (D 0):=by
  have:z.V K (.str p.1 p.2) t1 t2 w=(q.nx p ((Z 1).tok 0) ((Z 2).tok 0) (D 0)).V:=hw.symm
  rw[this];rfl
 rw[eT] at hf
 have e:pageStep q.g.wd q.ps p.1=flushP [] q.ps:=by unfold pageStep;rw[h1,h2]
 rw[e]
 exact Seg.eqT (List.append_nil _).symm hf
def Yn(l:List (Str × Tok))(k:Nat):slicePick (rowsArr l) none (some (k:Int)) none=rowsArr (l.take k):=by
 rw[slicePick_upto'];simp[rowsArr]
def ua(l:List (Str × Tok))(k:Nat):slicePick (rowsArr l) (some (k:Int)) none none=rowsArr (l.drop k):=by
 rw[slicePick_from'];simp[rowsArr]
def vq(l:List Str)(k:Nat):lensSum (l.take k)<=lensSum l:=by
 have:=zo (l.take k) (l.drop k)
 rw[List.take_append_drop] at this
 lia
def uW(l:List (Nat × Tok))(p:Nat × Tok):pyAt (intsArr (l++[p])) (.negSucc 0)=some (.int (.ofNat p.1) p.2):=by
 have hs:seqIndex? (.negSucc 0) (intsArr (l++[p])).size=some l.length:=by
  unfold seqIndex?
  rw[zN]
  have h0:((Int.negSucc 0) < 0):=by decide
  simp only[h0,if_true,List.length_append,List.length_singleton]
  have e:Int.negSucc 0+((l.length+1:Nat):Int)=(l.length:Int):=by
   show (-1:Int)+_=_
   lia
  rw[e]
  simp
  lia
 unfold pyAt
 rw[hs]
 simp[intsArr]
def u8{l:List (Nat × Tok)}(h:l≠[]):leq (intsArr l).toList []=false/\((intsArr l).size != 0)=true:=by
 cases l with
 |nil=>exact absurd rfl h
 |cons p r=>exact⟨rfl,by rw[zN];simp⟩
def cStep(S:Str)(s:PS):PS:=match (bkFrom 1 s.line.tail).getLast? with
 |some k=>⟨s.rows++[Txt.join ⟨#[]⟩ (s.line.take k)],s.line.drop k,0⟩
 |none=>match s.room==0 with
  |true=>s
  |false=>flushP [heldP S] { s with line:=s.line.dropLast }
def y2{D:Type}(x:Option D):x.isSome=true\/x.isNone=true:=by cases x<;>simp
def Zc{a b:Int}{v:Bool}{l:Lg}(h:(a==b)=v)(hl:Lg.Ok l):Lg.Ok (strEqI a b v::l):=za (by unfold strEqI;rw[h]) hl
def Sp{K:Wd}{b:Bag}{q:PgL}{S:Str}{c:Nat}{t0 t1 t2:Tok}{h:Addr}{β:Nat->Addr}{x:Option (Value × Tok)}{ns:List (Nat × Tok)}{e:Nat}{w:PgW}{pos:Pos}
  (hns:ns.map (·.1)=bkFrom 1 (q.line.map (·.1)).tail) (hx:ns≠[]->x.isSome=true) (hS:S.cps[0]?=some c) (hSl:S.length<=1000) (hJ:lensSum (q.line.map (·.1))<=1000) (hN':q.line.length<=1000)
  (hL:∀p∈q.rows,p.1.length<=1000) (hn:q.rows.length<=1000) :
  Seg K (WK ([0,0,3],b)) ⟨pgKB K b q β (.ok .next),q.code,pos,[],(β 3,cmD K.P sK x)::(β 2,listO (intsArr ns) e)::({ q with V:=.th (.str S t0) t1 (.ref h) t2 (w.ents K.P) w.k }:PgL).T K.P⟩
   (λs=>s.cur=.pure (.again q.code)/\s.fs=[]/\s.code=q.code/\PgOk K q.g q.it q.tl q.sl q.i (cStep S q.ps) s.T):=by
 have hln:small (rowsArr q.line).size=small q.line.length:=by rw[ze]
 have hrw:small (rowsArr q.rows).size=small q.rows.length:=by rw[ze]
 by_cases hne:ns=[]
 ·have hb:bkFrom 1 (q.line.map (·.1)).tail=[]:=by rw[<-hns,hne];rfl
  have hcs:cStep S q.ps=match q.rm==0 with
   |true=>q.ps
   |false=>flushP [heldP S] { q.ps with line:=q.ps.line.dropLast }:=by
   unfold cStep
   show (match (bkFrom 1 (q.line.map (·.1)).tail).getLast? with|some k=>_|none=>_)=_
   rw[hb];rfl
  have hB:∀z:PcQ,z.bs=intsArr ns->Lg.Ok (z.pcB false):=λz hz=>by
   unfold PcQ.pcB
   rw[hz,hne]
   exact za rfl (za rfl zd)
  cases hr:(q.rm==0) with
  |true=>
   rw[hr] at hcs
   let z:PcQ:=⟨q,S,c,t0,t1,.ref h,t2,β,x,intsArr ns,e,.none,#[],[],⟨#[]⟩,#[]⟩
   have fin:∀s:St,∀t,s.cur=.pure (.again q.code)->s.fs=[]->s.code=q.code->s.T=z.nx K (z.wb w t) q.ln (listO (rowsArr q.line) q.el) (listO (rowsArr q.rows) q.er) q.rm q.tR->s.cur=.pure (.again q.code)/\s.fs=[]/\s.code=q.code/\PgOk K q.g q.it q.tl q.sl q.i (cStep S q.ps) s.T:=λs t h1 h2 h3 h4=>by
    refine⟨h1,h2,h3,{ q with V:=z.V K.P (z.wb w t) },rfl,rfl,rfl,rfl,rfl,List.Perm.of_eq h4,?_⟩
    rw[hcs]
    exact⟨rfl,rfl,rfl,.inr ⟨_,_,_,_,_,rfl⟩⟩
   rcases y2 x with hxx|hxx
   ·refine Seg.rM (K:=K) (pcS K b z w pos) rfl rfl yy _ [3,4,5,6,7,8] (pc_2 K b z w pos (hx:=hxx)) (by decide) rfl (by decide) (λ_ _ _=>Zc hr (hB z rfl)) (λ_ _ _=>rfl) λD Z O=>?_
    exact fin _ _ rfl rfl rfl (List.append_nil _)
   ·refine Seg.rM (K:=K) (pcS K b z w pos) rfl rfl yy _ [3,4,5,6,7,8] (S7 K b z w pos (hx:=hxx)) (by decide) rfl (by decide) (λ_ _ _=>Zc hr (hB z rfl)) (λ_ _ _=>rfl) λD Z O=>?_
    exact fin _ _ rfl rfl rfl (List.append_nil _)
  |false=>
   rw[hr] at hcs
   let z:PcQ:=⟨q,S,c,t0,t1,.ref h,t2,β,x,intsArr ns,e,.none,rowsArr q.line.dropLast,[],⟨#[]⟩,#[]⟩
   have hpc:∀v,((#[c]:Array Nat).toList==(#[32]:Array Nat).toList)=v->Lg.Ok (z.pc3 v):=λv hv=>
    Lg.Ok.app (zV hv (za (y3 hS) (za (by show LV.a (slicePick (rowsArr q.line) none (some (.negSucc 0)) none)=LV.a (rowsArr q.line.dropLast);rw[x9]) (za (by show (small (rowsArr q.line).size).1=_;rw[hln];exact zc hN') (Zc hr zd))))) (hB z rfl)
   have fl:∀(D:Nat->Addr) (l:List Value) (t ts tv:Tok) (hv:Str),heldP S=hv->
     Seg K (WK ([0,0,3],b)) ⟨.call (.call (.builtin "list.__getitem__") ⟨[.ref (D 2),.ref (D 4)],[]⟩) none false l (pgK4 K b { q with ln:=D 2 } λ_=>D 4),q.code,⟨189,11,189,20⟩,[],z.T3 K (z.wb w t) (D 4) (D 3) (D 2) ts (.str hv tv)⟩
      (λs=>s.cur=.pure (.again q.code)/\s.fs=[]/\s.code=q.code/\PgOk K q.g q.it q.tl q.sl q.i (cStep S q.ps) s.T):=λD l t ts tv hv hhv=>by
    let zf:PfQ:=⟨{ q with ln:=D 2,line:=q.line.dropLast,el:=0 },D 4,ts,D 3,listO #[.str hv tv] 0,#[],#[],[],⟨#[]⟩,l⟩
    have hf:=w1 (K:=K) (b:=b) (z:=zf) (v1:=.str S t0) (t1:=t1) (t2:=t2) (w:=z.wb w t) (hl:=[(hv,tv)]) (eh:=0) (pos:=⟨189,11,189,20⟩) rfl (by
     show lensSum (q.line.dropLast.map (·.1))<=1000
     rw[List.map_dropLast]
     exact Nat.le_trans (zT _) hJ) (by show q.line.dropLast.length<=1000;rw[List.length_dropLast];exact Nat.le_trans (Nat.sub_le _ _) (by assumption)) hL hn
    refine hf.mono ?_
    rintro s ⟨h1,h2,h3,h4⟩
    refine⟨h1,h2,h3,?_⟩
    rw[hcs,hhv]
    have:({ q.ps with line:=q.ps.line.dropLast }:PS)=⟨zf.q.rows.map (·.1),zf.q.line.map (·.1),zf.q.rm⟩:=by
     show PS.mk _ _ _=PS.mk _ (q.line.dropLast.map (·.1)) _
     rw[List.map_dropLast];rfl
    rw[this]
    exact h4
   cases hsp:((#[c]:Array Nat).toList==(#[32]:Array Nat).toList) with
   |true=>
    have hh:heldP S=S:=by
     have:(S.cps[0]?==some 32)=true:=by rw[hS];simpa using hsp
     unfold heldP;rw[this]
    rcases y2 x with hxx|hxx
    ·refine Seg.rT (K:=K) (pcS K b z w pos) rfl rfl yy _ [0,1,7,8,9,10,11,2] (S6 K b z w pos (hx:=hxx)) (by decide) rfl (by decide) (λ_ _ _=>hpc true hsp) (λ_ _ _=>rfl) λD Z O=>?_
     exact Seg.eqT (List.append_nil _).symm (fl D _ _ _ _ _ hh)
    ·refine Seg.rT (K:=K) (pcS K b z w pos) rfl rfl yy _ [0,1,7,8,9,10,11,2] (UY K b z w pos (hx:=hxx)) (by decide) rfl (by decide) (λ_ _ _=>hpc true hsp) (λ_ _ _=>rfl) λD Z O=>?_
     exact Seg.eqT (List.append_nil _).symm (fl D _ _ _ _ _ hh)
   |false=>
    have hh:heldP S=cat ⟨#[32]⟩ S:=by
     have:(S.cps[0]?==some 32)=false:=by rw[hS];simpa using hsp
     unfold heldP;rw[this]
    rcases y2 x with hxx|hxx
    ·refine Seg.rT (K:=K) (pcS K b z w pos) rfl rfl yy _ [0,1,7,8,9,10,11,2] (S5 K b z w pos (hx:=hxx)) (by decide) rfl (by decide) (λ_ _ _=>Lg.Ok.app (za (zc (by decide)) (za (zc hSl) zd)) (hpc false hsp)) (λ_ _ _=>rfl) λD Z O=>?_
     exact Seg.eqT (List.append_nil _).symm (fl D _ _ _ _ _ hh)
    ·refine Seg.rT (K:=K) (pcS K b z w pos) rfl rfl yy _ [0,1,7,8,9,10,11,2] (UX K b z w pos (hx:=hxx)) (by decide) rfl (by decide) (λ_ _ _=>Lg.Ok.app (za (zc (by decide)) (za (zc hSl) zd)) (hpc false hsp)) (λ_ _ _=>rfl) λD Z O=>?_
     exact Seg.eqT (List.append_nil _).symm (fl D _ _ _ _ _ hh)
 ·obtain⟨a,k,ha⟩:=yb hne
  have hb:(bkFrom 1 (q.line.map (·.1)).tail).getLast?=some k.1:=by
   rw[<-hns,ha];simp
  have hcs:cStep S q.ps=⟨q.ps.rows++[Txt.join ⟨#[]⟩ (q.ps.line.take k.1)],q.ps.line.drop k.1,0⟩:=by
   unfold cStep
   show (match (bkFrom 1 (q.line.map (·.1)).tail).getLast? with|some k=>_|none=>_)=_
   rw[hb]
  let z:PcQ:=⟨q,S,c,t0,t1,.ref h,t2,β,x,intsArr ns,e,.int (k.1:Int) k.2,rowsArr (q.line.take k.1),q.line.take k.1,Txt.join ⟨#[]⟩ ((q.line.take k.1).map (·.1)),rowsArr (q.line.drop k.1)⟩
  have hB:Lg.Ok (z.pcB true):=by
   obtain⟨g1,g2⟩:=u8 hne
   show Lg.Ok [(.b (leq (intsArr ns).toList []),.b false),(.b ((intsArr ns).size != 0 || leqOk (intsArr ns).toList []),.b true)]
   rw[g1,g2]
   exact za rfl (za rfl zd)
  have hG:Lg.Ok z.pcG:=by
   show Lg.Ok [(.ov (pyAt (intsArr ns) (.negSucc 0)),.ov (some (.int (k.1:Int) k.2))),near (.negSucc 0)]
   rw[ha,uW]
   exact za rfl (za wU zd)
  have hsz:Lg.Ok [small (rowsArr z.q.line).size]:=za (by show (small (rowsArr q.line).size).1=_;rw[hln];exact zc hN') zd
  have hpc:Lg.Ok ([(.a (slicePick (rowsArr z.q.line) (some (k.1:Int)) none none),.a z.ys2),small (rowsArr z.q.line).size]++z.pcG++[small (rowsArr z.q.rows).size]++PfQ.pcJ z.rl z.J z.ys1++[(.a (slicePick (rowsArr z.q.line) none (some (k.1:Int)) none),.a z.ys1),small (rowsArr z.q.line).size]++z.pcG++z.pcB true):=by
   refine Lg.Ok.app (Lg.Ok.app (Lg.Ok.app (Lg.Ok.app (Lg.Ok.app (Lg.Ok.app (za ?_ hsz) hG) (za ?_ zd)) (u6 ?_)) (za ?_ hsz)) hG) hB
   ·show LV.a (slicePick (rowsArr q.line) (some (k.1:Int)) none none)=LV.a (rowsArr (q.line.drop k.1))
    rw[ua]
   ·show (small (rowsArr q.rows).size).1=_
    rw[hrw];exact zc hn
   ·rw[List.map_take]
    exact Nat.le_trans (vq _ _) hJ
   ·show LV.a (slicePick (rowsArr q.line) none (some (k.1:Int)) none)=LV.a (rowsArr (q.line.take k.1))
    rw[Yn]
  refine Seg.rM (K:=K) (pcS K b z w pos) rfl rfl yy _ [7,8,9,10,11,0] (pc_1 K b z w pos (hx:=hx hne) (n:=k.1) (tn:=k.2) (hn:=rfl)) (by decide) rfl (by decide) (λ_ _ _=>hpc) (λ_ _ _=>rfl) λD Z O=>?_
  refine⟨rfl,rfl,rfl,{ q with ln:=D 4,rm:=0,tR:=(Z 13).tok 0,V:=z.V K.P (z.wb w ((Z 0).tok 0)),rows:=q.rows++[(z.J,(Z 7).tok 0)],er:=(Z 8).tok 0,line:=q.line.drop k.1,el:=0 },rfl,rfl,rfl,rfl,rfl,List.Perm.of_eq ((List.append_nil _).trans ?_),?_⟩
  ·show z.nx K _ _ _ _ _ _=_
   unfold PcQ.nx PgL.T
   rw[zi]
   rfl
  ·rw[hcs]
   refine⟨rfl,?_,?_,.inr ⟨_,_,_,_,_,rfl⟩⟩
   ·show (q.rows++[(z.J,(Z 7).tok 0)]).map (·.1)=_
    have ej:z.J=Txt.join ⟨#[]⟩ ((q.line.map (·.1)).take k.1):=by
     show Txt.join ⟨#[]⟩ ((q.line.take k.1).map (·.1))=_
     rw[List.map_take]
    rw[List.map_append]
    show _++[z.J]=_
    rw[ej]
    rfl
   ·show (q.line.drop k.1).map (·.1)=_
    rw[List.map_drop]
    rfl
def QH{S:Str}(h:(S.cps.toList==[])=false):∃c,S.cps[0]?=some c:=by
 cases hS:S.cps.toList with
 |nil=>rw[hS] at h;cases h
 |cons c r=>exact⟨c,by rw[<-Array.getElem?_toList,hS];rfl⟩
def Sr{K:Wd}{b:Bag}{q:PgL}{p:Str × Tok}{pos:Pos}(hp:q.sl[q.i]?=some p)(hV:PgVok K.P q.V)(hJ:lensSum (q.line.map (·.1))<=400)(hN':q.line.length<=400)
  (hL:∀p∈q.rows,p.1.length<=1000) (hn:q.rows.length<=1000) (hpl:p.1.length<=10) (hne:∀p∈q.line,(p.1.cps.toList==[])=false)
  (h1:(p.1.cps.toList==[])=false) (h2:(p.1.cps.toList != [10])=true) (h3:(p.1.cps.toList==[32])=false) :
  Seg K (WK ([0,0,3],b)) ⟨denF q.code,q.code,pos,[],q.T K.P⟩ (TurnEnd K q (pageStep q.g.wd q.ps p.1)):=by
 have hN:Lg.Ok [q.pcN p]:=za (by unfold PgL.pcN;simp[rowsArr,hp]) zd
 refine Seg.rT (K:=K) (plS K b q p pos) rfl rfl xd _ [2,1,0,9,4,5,6,7,8] (SW K b q p pos) (by decide) rfl (by decide) (λ_ _ _=>zV h3 (za (zc (by rw[ze];lia)) (z7 h2 (zV h1 hN)))) (λ_ _ _=>rfl) λD Z O=>?_
 obtain⟨t1,t2,w,hw⟩:=y9 hV (.str p.1 p.2) (.ref (D 0)) ((Z 1).tok 0) ((Z 2).tok 0)
 let q':PgL:={ q with i:=q.i+1,line:=q.line++[p],el:=(Z 7).tok 0,V:=.th (.str p.1 p.2) t1 (.ref (D 0)) t2 (w.ents K.P) w.k }
 have hlen:(q.line++[p]).length<=401:=by simp;lia
 have hsum:lensSum ((q.line++[p]).map (·.1))<=410:=by
  rw[List.map_append,zo]
  have:lensSum ([p].map (·.1))=p.1.length:=by simp[lensSum]
  lia
 have hmem:∀x∈q.line++[p],x.1.length<=1000:=λx hx=>by
  have:=xP (List.mem_map_of_mem (f:=(·.1)) hx)
  lia
 have eT2:(q.T2 K p ((Z 1).tok 0) ((Z 2).tok 0) (D 0) 0).take 5=(q'.T K.P).take 5:=by
  show [_,_,q.fr K.P (q.V.set (.str p.1 p.2) (.ref (D 0)) _ _),_,_]=_
  rw[hw];rfl
 have hlive:∀x∈(q'.T K.P).take 5,x.2.isFreed=false:=λx hx=>by
  have hx:x∈q'.T K.P:=List.mem_of_mem_take hx
  simp only[PgL.T,List.mem_cons,List.not_mem_nil,or_false] at hx
  rcases hx with rfl|rfl|rfl|rfl|rfl|rfl<;>rfl
 have hc:=λW=>Seg.frame ((q'.T K.P).take 5) hlive (Te (K:=K) (W:=W) (z:=lensZ q D) (e2:=(Z 7).tok 0) (l:=q.line++[p]) (pos:=⟨177,66,177,70⟩) hmem (by lia))
 have eT:[((lensZ q D).it,lIt (lensZ q D).src 0),((lensZ q D).acc,listO #[] 0),((lensZ q D).dct,dictO [] 0),((lensZ q D).src,listO (rowsArr (q.line++[p])) ((Z 7).tok 0))]++(q'.T K.P).take 5=(pg_a3X K b q p pos D Z O).T++[]:=by
  rw[List.append_nil]
  show _=(D 1,lIt q.ln 0)::(D 2,listO #[] 0)::(D 3,dictO [] 0)::(q.ln,listO ((rowsArr q.line).push (.str p.1 p.2)) ((Z 7).tok 0))::(q.T2 K p ((Z 1).tok 0) ((Z 2).tok 0) (D 0) 0).take 5
  rw[eT2,zi]<;>rfl
 refine Seg.eqT eT ?_
 refine Seg.call rfl (hc _) ?_
 rintro s ⟨s',⟨x',ns',e',e1,e2,e3,e4,e5⟩⟩
 refine⟨e2,.ok .next,e1,?_⟩
 dsimp only
 rw[e3]
 obtain⟨xv,hxv⟩:=Option.isSome_iff_exists.mp (e5 (by simp))
 subst hxv
 have hs:sumV (intsArr ns').toList=(lensSum (q.line.map (·.1)++[p.1]):Nat):=by
  rw[wO,e4]
  have:(q.line++[p]).map (λp=>p.1.length)=(q.line.map (·.1)++[p.1]).map Str.length:=by simp
  rw[this];rfl
 let z:PbQ:=⟨q',.str p.1 p.2,t1,.ref (D 0),t2,w.ents K.P,w.k,D,xv,intsArr ns',e'⟩
 have eTB:List.Perm ([((lensZ q D).dct,cmD K.P sPiece (some xv)),((lensZ q D).acc,listO (intsArr ns') e'),((lensZ q D).src,listO (rowsArr (q.line++[p])) ((Z 7).tok 0))]++(q'.T K.P).take 5) (z.T K):=by
  show List.Perm [(D 3,cmD K.P sPiece (some xv)),(D 2,listO (intsArr ns') e'),(q.ln,listO (rowsArr (q.line++[p])) ((Z 7).tok 0)),_,_,_,_,_] [(D 3,cmD K.P sPiece (some xv)),(D 2,listO (intsArr ns') e'),_,_,_,_,_,(q.ln,listO (rowsArr (q.line++[p])) ((Z 7).tok 0))]
  exact List.Perm.cons _ (List.Perm.cons _ (List.perm_append_comm (l₁:=[_]) (l₂:=[_,_,_,_,_])))
 have cur3:pgK3 K b q D (.ok .next)=(pbS K b z ⟨177,66,177,70⟩).cur:=rfl
 refine Seg.perm (a:=⟨_,_,_,[],_⟩) eTB ?_
 cases hle:decide (q.rm+lensSum (q.line.map (·.1)++[p.1])<=q.g.wd) with
 |true=>
  have hpc:Lg.Ok (z.pcS true):=y5 (by show decide (q.rm+sumV (intsArr ns').toList<=q.g.wd)=true;rw[hs];exact hle) (za (by show LV.b (allI (intsArr ns').toList)=_;rw[xC]) zd)
  refine Seg.rM (K:=K) (pbS K b z ⟨177,66,177,70⟩) rfl rfl Zt _ [2,3,4,5,6,7] (pb_1 K b z ⟨177,66,177,70⟩) (by decide) rfl (by decide) (λ_ _ _=>hpc) (λ_ _ _=>rfl) λα' τ' γ'=>?_
  refine⟨rfl,rfl,rfl,q',rfl,rfl,rfl,rfl,rfl,List.Perm.of_eq (List.append_nil _),?_⟩
  have e:pageStep q.g.wd q.ps p.1={ q.ps with line:=q.ps.line++[p.1] }:=by
   unfold pageStep
   rw[h1,h2,h3]
   show (match false || decide (q.rm+(lensSum (q.line.map (·.1)++[p.1]):Nat)<=q.g.wd) with|true=>_|false=>_)=_
   rw[hle];rfl
  rw[e]
  exact⟨rfl,rfl,by show (q.line++[p]).map (·.1)=_;simp[PgL.ps],.inr ⟨_,_,_,_,w,rfl⟩⟩
 |false=>
  have hpc:Lg.Ok (z.pcS false):=y5 (by show decide (q.rm+sumV (intsArr ns').toList<=q.g.wd)=false;rw[hs];exact hle) (za (by show LV.b (allI (intsArr ns').toList)=_;rw[xC]) zd)
  have hsz:(rowsArr (q.line++[p])).size=(q.line++[p]).length:=ze _
  have hpc2:Lg.Ok ([(.i 1,.i 1),(.i ((rowsArr z.q.line).size:Int),.i (.ofNat z.q.line.length)),(.i 1,.i 1),small z.q.line.length,small (rowsArr z.q.line).size,(.i ((rowsArr z.q.line).size:Int),.i ((rowsArr z.q.line).size:Int))]++z.pcS false):=by
   refine Lg.Ok.app (za rfl (za ?_ (za rfl (za (zc (by show (q.line++[p]).length<=1000;lia)) (za (zc (by show (rowsArr (q.line++[p])).size<=1000;rw[hsz];lia)) (za rfl zd)))))) hpc
   show LV.i ((rowsArr (q.line++[p])).size:Int)=LV.i (.ofNat (q.line++[p]).length)
   rw[hsz];rfl
  refine Seg.rT (K:=K) (pbS K b z ⟨177,66,177,70⟩) rfl rfl Zt _ [2,1,0,6,7,8,9,10,11] (pb_2 K b z ⟨177,66,177,70⟩) (by decide) rfl (by decide) (λ_ _ _=>hpc2) (λ_ _ _=>rfl) λβ τ' γ'=>?_
  refine Seg.eqT (List.append_nil _).symm ?_
  let R:zb:=[(q'.it,lIt q'.tl q'.i),(q'.tl,listO (rowsArr q'.sl) 0),q'.fr K.P q'.V,(q'.g.ra,listO (rowsArr q'.rows) q'.er)]
  have hliveR:∀x∈R,x.2.isFreed=false:=λx hx=>by
   simp only[R,List.mem_cons,List.not_mem_nil,or_false] at hx
   rcases hx with rfl|rfl|rfl|rfl<;>rfl
  have hne':∀x∈q.line++[p],x.1.cps[0]?≠none:=λx hx=>by
   have hx':(x.1.cps.toList==[])=false:=by
    rcases List.mem_append.mp hx with hx|hx
    ·exact hne x hx
    ·rw[List.mem_singleton] at hx;subst hx;exact h1
   obtain⟨c,hc⟩:=QH hx'
   rw[hc];exact Option.some_ne_none c
  have hbk:=λW=>Seg.frame R hliveR (T6 (K:=K) (W:=W) (z:=bkZ q' β) (cell:=q.g.cell) (ln:=q.ln) (e2:=(Z 7).tok 0) (l:=q.line++[p]) (pos:=⟨179,21,179,74⟩) hne' (by lia) (by simp))
  have eP:List.Perm ([((bkZ q' β).it,rngUp 1 ((q.line++[p]).length - 1)),((bkZ q' β).acc,listO #[] 0),((bkZ q' β).dct,dictO [] 0),(q.g.cell,cellO (.ref q.ln)),(q.ln,listO (rowsArr (q.line++[p])) ((Z 7).tok 0))]++R) ((β 1,rngUp 1 (z.q.line.length - 1))::(β 2,listO #[] 0)::(β 3,dictO [] 0)::z.f.T K.P):=by
   refine List.Perm.cons _ (List.Perm.cons _ (List.Perm.cons _ ?_))
   show List.Perm ([(q.g.cell,cellO (.ref q.ln)),(q.ln,listO (rowsArr (q.line++[p])) ((Z 7).tok 0))]++([(q'.it,lIt q'.tl q'.i),(q'.tl,listO (rowsArr q'.sl) 0),q'.fr K.P q'.V]++[(q'.g.ra,listO (rowsArr q'.rows) q'.er)])) ([(q'.it,lIt q'.tl q'.i),(q'.tl,listO (rowsArr q'.sl) 0),q'.fr K.P q'.V]++([(q.g.cell,cellO (.ref q.ln))]++([(q'.g.ra,listO (rowsArr q'.rows) q'.er)]++[(q.ln,listO (rowsArr (q.line++[p])) ((Z 7).tok 0))])))
   refine(List.perm_append_comm_assoc _ _ _).trans (List.Perm.append_left _ ?_)
   exact List.Perm.cons _ (List.perm_append_comm (l₁:=[_]) (l₂:=[_]))
  refine Seg.perm (a:=⟨_,_,_,[],_⟩) eP.symm ?_
  refine Seg.call rfl (hbk _) ?_
  rintro s ⟨s',⟨x2,ns2,e2',f1,f2,f3,f4,f5⟩⟩
  refine⟨f2,.ok .next,f1,?_⟩
  dsimp only
  rw[f3]
  obtain⟨c,hcS⟩:=QH h1
  have hC:=Sp (K:=K) (b:=b) (q:=q') (S:=p.1) (c:=c) (t0:=p.2) (t1:=t1) (t2:=t2) (h:=D 0) (β:=β) (x:=x2) (ns:=ns2) (e:=e2') (w:=w) (pos:=⟨179,21,179,74⟩)
   f4 f5 hcS (by lia) (by show lensSum ((q.line++[p]).map (·.1))<=1000;lia) (by show (q.line++[p]).length<=1000;lia) hL hn
  have eP2:List.Perm ([((bkZ q' β).dct,cmD K.P sK x2),((bkZ q' β).acc,listO (intsArr ns2) e2'),(q.g.cell,cellO (.ref q.ln)),(q.ln,listO (rowsArr (q.line++[p])) ((Z 7).tok 0))]++R) ((β 3,cmD K.P sK x2)::(β 2,listO (intsArr ns2) e2')::q'.T K.P):=by
   refine List.Perm.cons _ (List.Perm.cons _ ?_)
   show List.Perm ([(q.g.cell,cellO (.ref q.ln)),(q.ln,listO (rowsArr (q.line++[p])) ((Z 7).tok 0))]++([(q'.it,lIt q'.tl q'.i),(q'.tl,listO (rowsArr q'.sl) 0),q'.fr K.P q'.V]++[(q'.g.ra,listO (rowsArr q'.rows) q'.er)])) ([(q'.it,lIt q'.tl q'.i),(q'.tl,listO (rowsArr q'.sl) 0),q'.fr K.P q'.V]++([(q.g.cell,cellO (.ref q.ln))]++([(q'.g.ra,listO (rowsArr q'.rows) q'.er)]++[(q.ln,listO (rowsArr (q.line++[p])) ((Z 7).tok 0))])))
   refine(List.perm_append_comm_assoc _ _ _).trans (List.Perm.append_left _ ?_)
   exact List.Perm.cons _ (List.perm_append_comm (l₁:=[_]) (l₂:=[_]))
  refine Seg.perm (a:=⟨_,_,_,[],_⟩) eP2 (hC.mono ?_)
  rintro s ⟨g1,g2,g3,g4⟩
  refine⟨g1,g2,g3,?_⟩
  have e:pageStep q.g.wd q.ps p.1=cStep p.1 q'.ps:=by
   unfold pageStep
   rw[h1,h2,h3]
   show (match false || decide (q.rm+(lensSum (q.line.map (·.1)++[p.1]):Nat)<=q.g.wd) with|true=>_|false=>_)=_
   rw[hle]
   have el:q'.ps=⟨q.ps.rows,q.ps.line++[p.1],q.ps.room⟩:=by show PS.mk _ ((q.line++[p]).map (·.1)) _=_;rw[List.map_append];rfl
   unfold cStep
   rw[el]
   simp only[List.dropLast_concat]
   rfl
  rw[e]
  exact g4
def PS.M(s:PS):Nat:=lensSum s.line+s.line.length+(lensSum s.rows+s.rows.length)
def zy(x:Str):lensSum [x]=x.length:=by simp[lensSum]
def Xd(r:List Str)(m:Int)(w:Str):lensSum (putRow r m w)+(putRow r m w).length<=lensSum r+r.length+w.length+1:=by
 by_cases h:r=[]
 ·subst h
  rw[yx]
  split
  ·rw[zy];simp[lensSum]
  ·simp[lensSum]
 ·obtain⟨a,F,rfl⟩:=yb h
  rw[zX]
  split
  ·simp only[zo,zy,List.length_append,List.length_singleton,vF];lia
  ·split
   ·simp only[zo,zy,List.length_append,List.length_singleton];lia
   ·simp only[zo,zy,List.length_append,List.length_singleton];lia
def uy(held:List Str)(s:PS):(flushP held s).M<=s.M+1+lensSum held+held.length:=by
 have h1:=Xd s.rows s.room (rowOf s.line)
 have h2:=wR s.line
 unfold flushP PS.M
 dsimp only
 lia
def YH(t:Str):(heldP t).length<=t.length+1:=by
 unfold heldP
 split
 ·lia
 ·rw[vF];show 1+t.length<=_;lia
def uX(wd:Int)(s:PS)(t:Str)(h:t.length<=3):(pageStep wd s t).M<=s.M+8:=by
 unfold pageStep
 split
 ·lia
 split
 ·have:=uy [] s
  have e:lensSum ([]:List Str)=0:=rfl
  simp only[e,List.length_nil] at this
  lia
 split
 ·unfold PS.M
  dsimp only
  rw[zo,zy,List.length_append,List.length_singleton]
  lia
 split
 ·rename_i k _
  have h1:=zo ((s.line++[t]).take k) ((s.line++[t]).drop k)
  rw[List.take_append_drop,zo,zy] at h1
  have h2:((s.line++[t]).drop k).length<=s.line.length+1:=by rw[List.length_drop,List.length_append];exact Nat.sub_le _ _
  unfold PS.M
  dsimp only
  rw[zo,zy,vr,List.length_append,List.length_singleton]
  lia
 split
 ·unfold PS.M
  dsimp only
  rw[zo,zy,List.length_append,List.length_singleton]
  lia
 ·have:=uy [heldP t] s
  have h3:=YH t
  rw[zy,List.length_singleton] at this
  lia
def PS.full(s:PS):Prop:=∀x∈s.line,(x.cps.toList==[])=false
def u9{t:Str}(h:(t.cps.toList==[])=false):((heldP t).cps.toList==[])=false:=by
 unfold heldP
 split
 ·exact h
 ·unfold cat;simp
def wD(wd:Int)(s:PS)(t:Str)(h:s.full):(pageStep wd s t).full:=by
 unfold pageStep
 split
 ·exact h
 rename_i h1
 have hap:∀x∈s.line++[t],(x.cps.toList==[])=false:=λx hx=>by
  rcases List.mem_append.mp hx with hx|hx
  ·exact h x hx
  ·rw[List.mem_singleton] at hx;subst hx;exact h1
 split
 ·intro x hx;cases hx
 split
 ·exact hap
 split
 ·exact λx hx=>hap x (List.mem_of_mem_drop hx)
 split
 ·exact hap
 ·intro x hx
  have hx:x∈[heldP t]:=hx
  rw[List.mem_singleton] at hx
  subst hx
  exact u9 h1
def Y0{K:Wd}{b:Bag}{q:PgL}{p:Str × Tok}{pos:Pos}(hp:q.sl[q.i]?=some p)(hV:PgVok K.P q.V)(hM:q.ps.M<=390)(hF:q.ps.full)(hpl:p.1.length<=3) :
  Seg K (WK ([0,0,3],b)) ⟨denF q.code,q.code,pos,[],q.T K.P⟩ (TurnEnd K q (pageStep q.g.wd q.ps p.1)):=by
 have hM':lensSum (q.line.map (·.1))+(q.line.map (·.1)).length+(lensSum (q.rows.map (·.1))+(q.rows.map (·.1)).length)<=390:=hM
 rw[List.length_map,List.length_map] at hM'
 have hL:∀p∈q.rows,p.1.length<=1000:=λp hp=>by
  exact zu (Nat.le_trans (xP (List.mem_map_of_mem (f:=(·.1)) hp)) (wq hM').2.2.1) rfl
 obtain⟨m1,m2,m3,m4⟩:=wq hM'
 have m0:390<=400:=by decide
 have hne:∀p∈q.line,(p.1.cps.toList==[])=false:=λp hp=>hF p.1 (List.mem_map_of_mem (f:=(·.1)) hp)
 cases h1:(p.1.cps.toList==[]) with
 |true=>exact Su hp hV h1
 |false=>
  cases h2:(p.1.cps.toList != [10]) with
  |false=>exact Sq hp hV (by first|exact zu m1 rfl|exact zu m2 rfl|exact zu m4 rfl) (by first|exact zu m1 rfl|exact zu m2 rfl|exact zu m4 rfl) hL (by first|exact zu m1 rfl|exact zu m2 rfl|exact zu m4 rfl) h1 h2
  |true=>
   cases h3:(p.1.cps.toList==[32]) with
   |true=>exact Ss hp hV (by first|exact zu m1 rfl|exact zu m2 rfl|exact zu m4 rfl) h1 h2 h3
   |false=>exact Sr hp hV (by first|exact Nat.le_trans m1 m0|exact Nat.le_trans m2 m0|exact zu m4 rfl|lia) (by first|exact Nat.le_trans m1 m0|exact Nat.le_trans m2 m0|exact zu m4 rfl|lia) hL (by first|exact Nat.le_trans m1 m0|exact Nat.le_trans m2 m0|exact zu m4 rfl|lia) (by first|exact Nat.le_trans hpl (by decide)|exact Nat.le_trans m1 m0|exact Nat.le_trans m2 m0|exact zu m4 rfl|lia) hne h1 h2 h3
def LoopEnd(K:Wd)(g:PgF)(s':PS)(s:St):Prop:=s.cur=.pure (.done .next)/\s.fs=[]/\∃(q:PgL),q.g=g/\List.Perm s.T [q.fr K.P q.V,(q.g.cell,cellO (.ref q.ln)),(q.g.ra,listO (rowsArr q.rows) q.er),(q.ln,listO (rowsArr q.line) q.el)]/\q.rows.map (·.1)=s'.rows/\PgVok K.P q.V
def Yy{K:Wd}{b:Bag}{g:PgF}{it tl:Addr}{sl:List (Str × Tok)}:∀(n i:Nat) (s:PS) (T:zb) (pos:Pos),n+i=sl.length->(∀p∈sl,p.1.length<=3)->PgOk K g it tl sl i s T->s.M+8*n<=390->s.full->
  Seg K (WK ([0,0,3],b)) ⟨denF (pgLoop g.a0 g.cell it),pgLoop g.a0 g.cell it,pos,[],T⟩ (LoopEnd K g (((sl.drop i).map (·.1)).foldl (pageStep g.wd) s)):=by
 intro n
 induction n with
 |zero=>
  rintro i s T pos hn hsl ⟨q,e1,e2,e3,e4,e5,hT,e6,e7,e8,hV⟩ hM hF
  subst e1 e2 e3 e4 e5
  have hend:(q.sl.drop q.i)=[]:=List.drop_eq_nil_of_le (Nat.le_of_eq (by rw[<-hn,Nat.zero_add]))
  have h:=Seg.run (K:=K) (plS K b q (⟨#[]⟩,0) pos) (tl:=[]) rfl rfl xd _ [4,5,6,7] (SU K b q (⟨#[]⟩,0) pos) (by decide) rfl (by decide) (λ_ _ _=>za (by
   have:(rowsArr q.sl)[q.i]?=none:=by rw[Array.getElem?_eq_none_iff,ze];lia
   rw[this]) zd) (λ_ _ _=>rfl)
  have h:=Seg.eqT (List.append_nil _) h
  refine Seg.perm (a:=⟨_,_,_,[],_⟩) hT (h.mono ?_)
  rintro s' ⟨D,Z,O⟩
  refine⟨rfl,rfl,q,rfl,List.Perm.of_eq (List.append_nil _),?_,hV⟩
  rw[hend]
  exact e7
 |succ n IH=>
  rintro i s T pos hn hsl ⟨q,e1,e2,e3,e4,e5,hT,e6,e7,e8,hV⟩ hM hF
  subst e1 e2 e3 e4 e5
  have hi:q.i < q.sl.length:=by rw[<-hn,Nat.add_right_comm];exact Nat.lt_succ_of_le (Nat.le_add_left _ _)
  have hp:q.sl[q.i]?=some q.sl[q.i]:=List.getElem?_eq_getElem hi
  have hps:q.ps=s:=by
   obtain⟨r,l,m⟩:=s
   show PS.mk _ _ _=_
   rw[e6,e7,e8]
  have hpl:=hsl q.sl[q.i] (List.getElem_mem hi)
  have h:=Y0 (K:=K) (b:=b) (q:=q) (p:=q.sl[q.i]) (pos:=pos) hp hV (by rw[hps];exact Nat.le_trans (Nat.le_add_right _ _) hM) (by rw[hps];exact hF) hpl
  refine Seg.perm (a:=⟨_,_,_,[],_⟩) hT (Seg.trans h ?_)
  rintro⟨c',code',pos',fs',T'⟩ ⟨h1,h2,h3,h4⟩
  dsimp only at h1 h2 h3 h4
  subst h1 h2 h3
  rw[hps] at h4
  have hm:=uX q.g.wd s q.sl[q.i].1 hpl
  have ih:=IH (q.i+1) (pageStep q.g.wd s q.sl[q.i].1) T' pos' (by rw[<-hn,Nat.add_right_comm];rfl) hsl h4 (Nat.le_trans (Nat.add_le_add_right hm (8*n)) (by rw[Nat.add_assoc,Nat.add_comm 8];exact hM)) (wD _ _ _ hF)
  have ed:q.sl.drop q.i=q.sl[q.i]::q.sl.drop (q.i+1):=List.drop_eq_getElem_cons hi
  rw[ed]
  exact Seg.again rfl ih
structure PzQ where
 q:PgL
 fA:Nat->Addr
 fT:Nat->Ch
 x:Value × Tok
 sl:List (Str × Tok)
 ep:Nat
 gA:Nat->Addr
 gT:Nat->Ch
 g0:Nat->Nat
def PzQ.T(z:PzQ)(K:Wd):zb:=[z.q.fr K.P z.q.V,(z.q.g.cell,cellO (.ref z.q.ln)),(z.q.g.ra,listO (rowsArr z.q.rows) z.q.er),(z.q.ln,listO (rowsArr z.q.line) z.q.el)]
def pzS(K:Wd)(b:Bag)(q0:PgQ)(pos0:Pos)(z:PzQ)(O:Nat->Nat)(pos:Pos):Start:=⟨cfg K.P K.V (WK ([0,3],b)) 4 [],[],z.T K,[],kOf (pgR2 K b q0 pos0 z.fA z.fT z.x z.sl z.ep z.g0 z.gA z.gT O) (.ok .next),(eo (pgR2 K b q0 pos0 z.fA z.fT z.x z.sl z.ep z.g0 z.gA z.gT O)).code,pos,[]⟩
section
variable (K:Wd) (b:Bag) (q0:PgQ) (p0:Pos) (fA:Nat->Addr) (fT:Nat->Ch) (x:Value × Tok) (sl:List (Str × Tok)) (ep:Nat) (g0:Nat->Nat) (gA:Nat->Addr) (gT:Nat->Ch) (gm:Nat->Nat) (q:PgL) (pos:Pos) (D:Nat->Addr) (Z:Nat->Ch) (O:Nat->Nat)
def pzZ:PzQ:=⟨{ q with g:=pgG q0 fA fT },fA,fT,x,sl,ep,gA,gT,g0⟩
def pzR:Option Out:=(pzS K b q0 p0 (pzZ q0 fA fT x sl ep g0 gA gT q) gm pos).run D Z O 3 [7]
def pz_rX:Exp:=⟨.pure (.done (.ret (.ref (fA 2)))),(eo (pzR K b q0 p0 fA fT x sl ep g0 gA gT gm q pos D Z O)).code,⟨198,11,198,15⟩,[],[(fA 2,listO (rowsArr q.rows) q.er)],[],[]⟩
theorem pz_r:lhs 4 [2] (pzR K b q0 p0 fA fT x sl ep g0 gA gT gm q pos D Z O)=rhs 0 (pz_rX K b q0 p0 fA fT x sl ep g0 gA gT gm q pos D Z O) (pzR K b q0 p0 fA fT x sl ep g0 gA gT gm q pos D Z O):=by
 obtain⟨_,b1⟩:=K
 obtain⟨g,it,tl,ln,sl,i,rm,tR,V,rows,er,line,el⟩:=q
 cases b1<;>cases V<;>kernel_rfl
theorem SZ:shk [[0,0,3]] (((eo (pgR2 K b q0 p0 fA fT x sl ep g0 D Z O)).code,(⟨171,16,171,60⟩:Pos))::(([]:List Frame).map Frame.where_++WK ([0,3],b)))=some ([0,0,3],bagOf (((eo (pgR2 K b q0 p0 fA fT x sl ep g0 D Z O)).code,(⟨171,16,171,60⟩:Pos))::(([]:List Frame).map Frame.where_++WK ([0,3],b)))):=by
 obtain⟨_,b1⟩:=K
 cases b1<;>kernel_rfl
theorem UV:shk [[0,0,3]] (((eo (pgR1 K b q0 p0 D Z O)).code,(⟨171,45,171,50⟩:Pos))::(([]:List Frame).map Frame.where_++WK ([0,3],b)))=some ([0,0,3],bagOf (((eo (pgR1 K b q0 p0 D Z O)).code,(⟨171,45,171,50⟩:Pos))::(([]:List Frame).map Frame.where_++WK ([0,3],b)))):=by
 obtain⟨_,b1⟩:=K
 cases b1<;>kernel_rfl
end
def ut(c:Nat):(lawTold c).length<=3:=by
 unfold lawTold
 split;· exact(by decide)
 split;· exact(by decide)
 split;· exact(by decide)
 split;· exact(by decide)
 split;· exact(by show 2<=3;decide)
 split;· exact(by show 1<=3;decide)
 split
 ·generalize c - 64256=k
  unfold ltLig
  split<;>decide
 ·exact(by show 1<=3;decide)
def pageP(wd rm:Int)(told:List Str):List Str:=((told++[(⟨#[10]⟩:Str)]).foldl (pageStep wd) ⟨[],[],rm⟩).rows
inductive PageEnd (out:List Str) (s:St):Prop
 |mk (a:Addr) (rows:List (Str × Tok)) (e:Nat) (h1:s.cur=.pure (.done (.ret (.ref a)))) (h2:s.fs=[]) (h3:s.T=[(a,listO (rowsArr rows) e)]) (h4:rows.map (·.1)=out)
def Xl{K:Wd}{b:Bag}{q:PgQ}{pos:Pos}(hc:∀p∈q.cl,p.1<=1114111)(hn:q.cl.length<=40)(h0:q.cl≠[]) :
  Seg K (WK ([0,3],b)) ⟨denF (pgC q),pgC q,pos,[],[(q.l,listO (intsArr q.cl) q.e2)]⟩ (PageEnd (pageP q.wd q.rm (q.cl.map λp=>lawTold p.1))):=by
 refine Seg.rT (K:=K) (pgS K b q pos) rfl rfl zH _ [0,1,2,7,6,5,4,3] (SR K b q pos) (by decide) rfl (by decide) (λ_ _ _=>zd) (λ_ _ _=>rfl) λfA fT O=>?_
 refine Seg.eqT (List.append_nil _).symm ?_
 let R:zb:=[(fA 0,frameO ((pgG q fA fT).ents K.P q.rm q.tR) 4),(fA 1,cellO (.ref (fA 3))),(fA 2,listO #[] 0),(fA 3,listO #[] 0)]
 have hR:∀x∈R,x.2.isFreed=false:=λx hx=>by
  simp only[R,List.mem_cons,List.not_mem_nil,or_false] at hx
  rcases hx with rfl|rfl|rfl|rfl<;>rfl
 obtain⟨hW,_⟩:=z8 (UV K b q pos fA fT O)
 let z:=pgZ q fA
 have hin:∀b',Seg K (WK ([0,0,3],b')) ⟨denF (cmStart toldE (toldEnv z) z),cmStart toldE (toldEnv z) z,⟨171,45,171,50⟩,[],TcT K z none [] 0 0 q.cl q.e2++R⟩ (CmFin K z sCode rowsArr R (q.cl.map (λp=>lawTold p.1))):=λb'=>by
  have hlive:∀x∈[(z.dct,cmD K.P sCode none),(z.acc,listO #[] 0),(z.src,listO (intsArr q.cl) q.e2)]++R,x.2.isFreed=false:=λx hx=>by
   rcases List.mem_append.mp hx with hx|hx
   ·simp only[List.mem_cons,List.not_mem_nil,or_false] at hx
    rcases hx with rfl|rfl|rfl<;>rfl
   ·exact hR x hx
  have h1:=zQ (K:=K) (W:=WK ([0,0,3],b')) (Sv K (WK ([0,0,3],b')) z ⟨171,45,171,50⟩) hlive
  refine Seg.perm (a:=⟨_,_,_,[],_⟩) ?_ (Seg.trans h1 ?_)
  ·show List.Perm ([(z.dct,cmD K.P sCode none),(z.acc,listO #[] 0)]++(z.it,lIt z.src 0)::([(z.src,listO (intsArr q.cl) q.e2)]++R)) _
   exact List.perm_middle (l₁:=[(z.dct,cmD K.P sCode none),(z.acc,listO #[] 0)])
  ·rintro s ⟨p',rfl⟩
   have h2:=Seg.frame R hR (Wz (K:=K) (b:=b') (z:=z) (e2:=q.e2) q.cl [] none [] 0 p' hc (by simp;lia))
   refine Seg.again rfl (Seg.perm (a:=⟨_,_,_,[],_⟩) ?_ (h2.mono ?_))
   ·exact(List.perm_middle (l₁:=[(z.dct,cmD K.P sCode none),(z.acc,listO #[] 0)])).symm
   ·rintro s ⟨s',⟨x',sl',ep',e1,e2,e3,e4,e5⟩⟩
    obtain⟨xv,rfl⟩:=Option.isSome_iff_exists.mp (e5 (.inr h0))
    exact⟨xv,sl',ep',e1,e2,by rw[e3];rfl,by simpa using e4⟩
 refine Seg.call (B':=CmFin K z sCode rowsArr R (q.cl.map (λp=>lawTold p.1))) rfl ?_ ?_
 ·have:=hin (bagOf (((eo (pgR1 K b q pos fA fT O)).code,(⟨171,45,171,50⟩:Pos))::(([]:List Frame).map Frame.where_++WK ([0,3],b))))
  rw[<-hW] at this
  exact this
 rintro s ⟨x',sl,ep,e1,e2,e3,e4⟩
 refine⟨e2,.ok .next,e1,?_⟩
 rw[e3]
 have hsl:sl.length=q.cl.length:=by
  have:=congrArg List.length e4
  simpa using this
 have h2:=Seg.run (K:=K) (pgS2 K b q pos fA fT x' sl ep O) (tl:=[]) rfl rfl (λF U=>z0 (.leaf U x3)) _ [0,1,5,6,7,8] (SQ K b q pos fA fT x' sl ep O) (by decide) rfl (by decide) (λ_ _ _=>za (zc (by rw[Array.size_append,ze,hsl];simp;lia)) zd) (λ_ _ _=>rfl)
 have h2:=Seg.eqT (List.append_nil _) h2
 show Seg K _ ⟨kOf (pgR1 K b q pos fA fT O) (.ok .next),(eo (pgR1 K b q pos fA fT O)).code,⟨171,45,171,50⟩,[],_⟩ _
 refine Seg.trans h2 ?_
 rintro s ⟨gA,gT,gm⟩
 refine Seg.eqT (List.append_nil _).symm ?_
 obtain⟨hW2,_⟩:=z8 (SZ K b q pos fA fT x' sl ep O gA gT gm)
 let L:=pgL0 q fA fT sl gA gT
 have hsl':L.sl.map (·.1)=(q.cl.map λp=>lawTold p.1)++[(⟨#[10]⟩:Str)]:=by
  show (sl++[nlT _]).map (·.1)=_
  rw[List.map_append,e4];rfl
 have hlen:∀p∈L.sl,p.1.length<=3:=λp hp=>by
  have hm:p.1∈L.sl.map (·.1):=List.mem_map_of_mem hp
  rw[hsl'] at hm
  rcases List.mem_append.mp hm with hm|hm
  ·obtain⟨c,_,hc⟩:=List.mem_map.mp hm
   rw[<-hc];exact ut _
  ·rw[List.mem_singleton] at hm
   rw[hm];decide
 have hcount:L.sl.length=q.cl.length+1:=by
  show (sl++[nlT _]).length=_
  rw[List.length_append,hsl];rfl
 have hl:=λb'=>Yy (K:=K) (b:=b') (g:=L.g) (it:=L.it) (tl:=L.tl) (sl:=L.sl) L.sl.length 0 ⟨[],[],q.rm⟩ (L.T K.P) ⟨171,16,171,60⟩ (by lia) hlen ⟨L,rfl,rfl,rfl,rfl,rfl,List.Perm.refl _,rfl,rfl,rfl,.inl rfl⟩ (by
  have e:(⟨[],[],q.rm⟩:PS).M=0:=rfl
  rw[e,hcount];lia) (λx hx=>by cases hx)
 have eT:(pgX2 K b q pos fA fT x' sl ep O gA gT gm).T=L.T K.P:=by
  show [(gA 2,lIt (gA 1) 0),(gA 1,listO (rowsArr sl++#[Value.str ⟨#[10]⟩ ((gT 0).tok 0)]) 0),_,_,_,_]=[(gA 2,lIt (gA 1) 0),(gA 1,listO (rowsArr (sl++[nlT ((gT 0).tok 0)])) 0),_,_,_,_]
  have:rowsArr (sl++[nlT ((gT 0).tok 0)])=rowsArr sl++#[Value.str ⟨#[10]⟩ ((gT 0).tok 0)]:=by simp[rowsArr,nlT]
  rw[this]
  rfl
 refine Seg.call (B':=LoopEnd K L.g (((L.sl.drop 0).map (·.1)).foldl (pageStep L.g.wd) ⟨[],[],q.rm⟩)) rfl ?_ ?_
 ·have:=hl (bagOf (((eo (pgR2 K b q pos fA fT x' sl ep O gA gT gm)).code,(⟨171,16,171,60⟩:Pos))::(([]:List Frame).map Frame.where_++WK ([0,3],b))))
  rw[<-hW2,<-eT] at this
  exact this
 rintro s ⟨f1,f2,ql,f3,f4,f5,f6⟩
 refine⟨f2,.ok .next,f1,?_⟩
 have h3:=Seg.run (K:=K) (pzS K b q pos (pzZ q fA fT x' sl ep O gA gT ql) gm ⟨171,16,171,60⟩) (tl:=[]) rfl rfl zH _ [2] (pz_r K b q pos fA fT x' sl ep O gA gT gm ql ⟨171,16,171,60⟩) (by decide) rfl (by decide) (λ_ _ _=>zd) (λ_ _ _=>rfl)
 have h3:=Seg.eqT (List.append_nil _) h3
 have f3':ql.g=pgG q fA fT:=f3
 have eZ:(pzS K b q pos (pzZ q fA fT x' sl ep O gA gT ql) gm ⟨171,16,171,60⟩).T=[ql.fr K.P ql.V,(ql.g.cell,cellO (.ref ql.ln)),(ql.g.ra,listO (rowsArr ql.rows) ql.er),(ql.ln,listO (rowsArr ql.line) ql.el)]:=by
  show [PgL.fr { ql with g:=pgG q fA fT } K.P ql.V,((pgG q fA fT).cell,_),((pgG q fA fT).ra,_),_]=_
  rw[<-f3']
  rfl
 refine Seg.perm (a:=⟨_,_,_,[],_⟩) f4 ?_
 rw[<-eZ]
 refine h3.mono ?_
 rintro s ⟨D,Z,γ'⟩
 refine⟨fA 2,ql.rows,ql.er,rfl,rfl,List.append_nil _,?_⟩
 rw[f5,List.drop_zero,hsl']
 rfl
structure LwQ where
 l:Addr
 vs:Array Value
 ys:Array Value
 e:Nat
noncomputable def lwC(l:Addr):Code:=.call (.ref 362) ⟨[.ref l],[]⟩
def lwS(K:Wd)(b:Bag)(q:LwQ)(pos:Pos):Start:=mkS K (WK ([3],b)) 1 [] [xGetS 2 q.ys] [(q.l,listO q.vs q.e)] (lwC q.l) pos
def lwB(i:Nat):Stmt:=sAt (fnBody (topS 27)) i
def numE:Expr:=binL (asgR (lwB 0))
noncomputable def qLaw:Str:=⟨#[108,97,119,46,60,108,111,99,97,108,115,62,46]⟩
def numEnv(z:CmA):Env:=cmEnv numE z.dct qLaw 361 z.a0
noncomputable def sScript:Str:=⟨#[115,99,114,105,112,116]⟩
noncomputable def numZ(D:Nat->Addr):CmA:=⟨D 0,D 2,D 3,D 4,D 5⟩
noncomputable def tpLw1:List Nat:=[724,722,3,1,4,3,1,1,1,1,0,1,5,7,7,0,7,9]
section
variable (K:Wd) (b:Bag) (q:LwQ) (pos:Pos) (D:Nat->Addr) (Z:Nat->Ch) (O:Nat->Nat)
def lwR1:Option Out:=(lwS K b q pos).run D Z O 34 tpLw1
def lw_r1X:Exp:=⟨.call (cmStart numE (numEnv (numZ D)) (numZ D)) none true (lOf (lwR1 K b q pos D Z O)) (kOf (lwR1 K b q pos D Z O)),(eo (lwR1 K b q pos D Z O)).code,⟨211,36,211,47⟩,[],
  [(D 3,lIt (D 2) 0),(D 4,listO #[] 0),(D 5,dictO [] 0),(D 2,listO q.ys 0),(D 0,frameO [ent K.P sScript ((Z 0).tok 0) (.ref q.l)] 1),(q.l,listO q.vs q.e)],[],[(.a (slicePick q.vs none (some 12) none),.a q.ys),small q.vs.size]⟩
theorem Ru:lhs 1 [2,1,0,3,5,6] (lwR1 K b q pos D Z O)=rhs 6 (lw_r1X K b q pos D Z O) (lwR1 K b q pos D Z O):=by
 obtain⟨_,b1⟩:=K
 cases b1<;>kernel_rfl
end
noncomputable def sX:Str:=⟨#[120]⟩
noncomputable def zArr(l:List (Int × Tok)):Array Value:=(l.map λp=>Value.int p.1 p.2).toArray
def Z6(l:List (Int × Tok))(p:Int × Tok):zArr (l++[p])=(zArr l).push (.int p.1 p.2):=by simp[zArr]
def yT(l:List (Int × Tok)):(zArr l).size=l.length:=by simp[zArr]
def numCode(z:CmA):Code:=cmCode numE (numEnv z) z
def numStart(z:CmA):Code:=cmStart numE (numEnv z) z
def numSS(K:Wd)(W:List (Code × Pos))(z:CmA)(pos:Pos):Start:=mkS K W 1 [] [] [(z.it,lIt z.src 0)] (numStart z) pos
def U0(K:Wd)(W:List (Code × Pos))(z:CmA)(pos:Pos):∃N tp p,∀D Z O,lhs 1 [0] ((numSS K W z pos).run D Z O N tp)=rhs 0 ⟨.pure (.again (numCode z)),numStart z,p,[],[(z.it,lIt z.src 0)],[],[]⟩ ((numSS K W z pos).run D Z O N tp):=by
 obtain⟨w,b1,b2,V0,hw⟩:=K
 cases b2
 ·exact⟨11,[1,1,0,1,1],⟨211,36,211,47⟩,λD Z O=>by cases b1<;>kernel_rfl⟩
 ·exact⟨1,[],pos,λD Z O=>by cases b1<;>kernel_rfl⟩
def numS(K:Wd)(W:List (Code × Pos))(z:CmA)(x:Option (Value × Tok))(vs:Array Value)(e i:Nat)(xs:Array Value)(e2:Nat)(p:Int × Tok)(pos:Pos):Start:=
 mkS K W 4 [] [xNext 2 (.int p.1 p.2),pureX K.P 8 [],xAppend 1] [(z.dct,cmD K.P sX x),(z.acc,listO vs e),(z.it,lIt z.src i),(z.src,listO xs e2)] (numCode z) pos
section
variable (K:Wd) (W:List (Code × Pos)) (z:CmA) (x:Option (Value × Tok)) (vs:Array Value) (e i:Nat) (xs:Array Value) (e2:Nat) (p:Int × Tok) (pos:Pos) (D:Nat->Addr) (Z:Nat->Ch) (O:Nat->Nat)
def numR(N:Nat)(tp:List Nat):Option Out:=(numS K W z x vs e i xs e2 p pos).run D Z O N tp
noncomputable def tpNum:List Nat:=[3,1,1,3,1,7,3,7,2,0,3,0,5]
def num_rX:Exp:=⟨.pure (.again (numCode z)),numCode z,⟨211,15,211,26⟩,[],
  [(z.dct,cmD K.P sX (cmX x (.int p.1 p.2) ((Z 1).tok 0))),(z.acc,listO (vs.push (.int (p.1.fmod 1000000) ((Z 3).tok 0))) ((Z 4).tok 0)),(z.it,lIt z.src (i+1)),(z.src,listO xs e2)],[],[small vs.size,(.ov xs[i]?,.ov (some (.int p.1 p.2)))]⟩
theorem Rf:lhs 4 [0,1,2,3] (numR K W z x vs e i xs e2 p pos D Z O 16 tpNum)=rhs 0 (num_rX K z x vs i xs e2 p Z) (numR K W z x vs e i xs e2 p pos D Z O 16 tpNum):=by
 obtain⟨_,b1⟩:=K
 cases b1<;>cases x<;>kernel_rfl
def num_rEX:Exp:=⟨.pure (.done .next),numCode z,⟨211,36,211,47⟩,[],[(z.dct,cmD K.P sX x),(z.acc,listO vs e)],[],[(.ov xs[i]?,.ov none)]⟩
theorem U1:lhs 4 [2,3] (numR K W z x vs e i xs e2 p pos D Z O 4 [3,1,0,3,1,11])=rhs 2 (num_rEX K z x vs e i xs) (numR K W z x vs e i xs e2 p pos D Z O 4 [3,1,0,3,1,11]):=by
 obtain⟨_,b1⟩:=K
 cases b1<;>cases x<;>kernel_rfl
end
def uk{K:Wd}{W:List (Code × Pos)}{m:Nat}{v:Value}:∀F,Under (cfg K.P K.V W m []) F->∀e E,nth [xNext 2 v,pureX K.P 8 [],xAppend 1] e=some E->ExtOk (cfg K.P K.V W m []) K.w F E:=λF U=>
 (AllOk.cons (.leaf U yg) (.cons zn (.cons (.leaf U zm) .nil))).nth
def Xo{K:Wd}{W:List (Code × Pos)}{z:CmA}{e2:Nat}:∀(post pre:List (Int × Tok)) (x:Option (Value × Tok)) (ns:List (Int × Tok)) (e:Nat) (pos:Pos),ns.length+post.length<=1000->
  Seg K W ⟨denF (numCode z),numCode z,pos,[],[(z.dct,cmD K.P sX x),(z.acc,listO (zArr ns) e),(z.it,lIt z.src pre.length),(z.src,listO (zArr (pre++post)) e2)]⟩ (CmEnd K z sX zArr [] (ns.map (·.1)++post.map (λp=>p.1.fmod 1000000)) (λ_ x'=>(x'=none↔x=none/\post=[]))):=by
 intro post
 induction post with
 |nil=>
  rintro pre x ns e pos _
  refine Seg.rM (K:=K) (numS K W z x (zArr ns) e pre.length (zArr (pre++[])) e2 (0,0) pos) rfl rfl uk _ [2,3] (U1 K W z x (zArr ns) e pre.length (zArr (pre++[])) e2 (0,0) pos) (by decide) rfl (by decide) (λ_ _ _=>za (by show LV.ov (zArr (pre++[]))[pre.length]?=_;simp[zArr]) zd) (λ_ _ _=>rfl) λD Z O=>?_
  exact⟨x,ns,e,rfl,rfl,rfl,by simp,by simp⟩
 |cons p post IH=>
  rintro pre x ns e pos hl
  refine Seg.rT (K:=K) (numS K W z x (zArr ns) e pre.length (zArr (pre++p::post)) e2 p pos) rfl rfl uk _ [0,1,2,3] (Rf K W z x (zArr ns) e pre.length (zArr (pre++p::post)) e2 p pos) (by decide) rfl (by decide) (λ_ _ _=>za (zc (by rw[yT];simp at hl;lia)) (za (by simp[zArr]) zd)) (λ_ _ _=>rfl) λD Z O=>?_
  have e0:pre++p::post=(pre++[p])++post:=by simp
  have el:pre.length+1=(pre++[p]).length:=by simp
  have ih:=IH (pre++[p]) (cmX x (.int p.1 p.2) ((Z 1).tok 0)) (ns++[(p.1.fmod 1000000,(Z 3).tok 0)]) ((Z 4).tok 0) ⟨211,15,211,26⟩ (by simp at hl ⊢;lia)
  refine Seg.again rfl (Seg.perm (a:=⟨_,_,_,[],_⟩) (List.Perm.of_eq ?_) (ih.mono ?_))
  ·show _++[]=_
   rw[List.append_nil,Z6,<-e0,<-el]
   rfl
  ·rintro s ⟨x',ns',e',h1,h2,h3,h4,h5⟩
   exact⟨x',ns',e',h1,h2,h3,by rw[h4];simp,by rw[h5];cases x<;>simp[cmX]⟩
noncomputable def fixT(Z:Nat->Ch):List (Int × Tok):=[(4,(Z 0).tok 0),(5,(Z 1).tok 0),(44,(Z 2).tok 0),(163,(Z 3).tok 0),(2,(Z 4).tok 0),(9,(Z 5).tok 0),(1,(Z 6).tok 0),(2,(Z 7).tok 0),(203,(Z 8).tok 0),(12,(Z 9).tok 0)]
noncomputable def sNumbers:Str:=⟨#[110,117,109,98,101,114,115]⟩
def codE:Expr:=asgR (lwB 1)
def codEnv(z:CmA):Env:=cmEnv codE z.dct qLaw 361 z.a0
noncomputable def tpLw2:List Nat:=[5,5,2,3,7,3,1,0,3,7,1,0,1,9,9,0,9,11]
noncomputable def tpLw2n:List Nat:=[5,3,7,3,1,0,3,7,1,0,1,9,9,0,9,11]
section
variable (K:Wd) (b:Bag) (q:LwQ) (p0:Pos) (fA:Nat->Addr) (fT:Nat->Ch) (g0:Nat->Nat) (x:Option (Value × Tok)) (vs:Array Value) (e:Nat) (D:Nat->Addr) (Z:Nat->Ch) (O:Nat->Nat)
def lwS2:Start:=⟨cfg K.P K.V (WK ([3],b)) 3 [],[xLAdd],[((numZ fA).dct,cmD K.P sX x),((numZ fA).acc,listO vs e),(fA 0,frameO [ent K.P sScript ((fT 0).tok 0) (.ref q.l)] 1)],[],kOf (lwR1 K b q p0 fA fT g0) (.ok .next),(eo (lwR1 K b q p0 fA fT g0)).code,⟨211,36,211,47⟩,[]⟩
def lwR2(N:Nat)(tp:List Nat):Option Out:=(lwS2 K b q p0 fA fT g0 x vs e).run D Z O N tp
noncomputable def codZ(fA D:Nat->Addr):CmA:=⟨fA 0,D 1,D 2,D 3,D 4⟩
def lwX2(N:Nat)(tp:List Nat):Exp:=⟨.call (cmStart codE (codEnv (codZ fA D)) (codZ fA D)) none true (lOf (lwR2 K b q p0 fA fT g0 x vs e D Z O N tp)) (kOf (lwR2 K b q p0 fA fT g0 x vs e D Z O N tp)),(eo (lwR2 K b q p0 fA fT g0 x vs e D Z O N tp)).code,⟨212,12,212,53⟩,[],
 [(D 2,lIt (D 1) 0),(D 3,listO #[] 0),(D 4,dictO [] 0),(D 1,listO (vs++zArr (fixT Z)) 0),(fA 0,frameO [ent K.P sScript ((fT 0).tok 0) (.ref q.l),ent K.P sNumbers ((Z 11).tok 0) (.ref (D 1))] 2)],[],[small (vs++zArr (fixT Z)).size]⟩
theorem Rt(hx:x.isSome=true):lhs 3 [2,1,0,3,7] (lwR2 K b q p0 fA fT g0 x vs e D Z O 47 tpLw2)=rhs 5 (lwX2 K b q p0 fA fT g0 x vs e D Z O 47 tpLw2) (lwR2 K b q p0 fA fT g0 x vs e D Z O 47 tpLw2):=by
 obtain⟨_,b1⟩:=K
 cases x with
 |none=>cases hx
 |some v=>cases b1<;>kernel_rfl
theorem U6(hx:x.isNone=true):lhs 3 [2,1,0,3,7] (lwR2 K b q p0 fA fT g0 x vs e D Z O 43 tpLw2n)=rhs 5 (lwX2 K b q p0 fA fT g0 x vs e D Z O 43 tpLw2n) (lwR2 K b q p0 fA fT g0 x vs e D Z O 43 tpLw2n):=by
 obtain⟨_,b1⟩:=K
 cases x with
 |none=>cases b1<;>kernel_rfl
 |some v=>cases hx
end
noncomputable def lcRd(d:Nat)(c:Code)(objs:zb):Option LcQ:=match c with
 | .call _ ⟨[.int n t],[]⟩=>match objs with
  |[(y,o)]=>some ⟨n,t,y,o⟩
  | _=>none
 | _=>none
def xCode(c:Nat):Ext:=fnX 1 (λ_=>0) (shk [[4,0,3]]) lcRd (λ_ _ q=>lcC q.n q.t) (λ_ _ q=>[(q.y,q.o)]) (λd _ q=>[(.i (lawCodeZ q.n),.i (.ofNat c))])
 (λd _ q _ t=>⟨.ok (.ret (.int (.ofNat c) (t.tok 0))),[q.o],[]⟩)
def YW{K:Wd}{W:List (Code × Pos)}{n:Nat}{tl:zb}{F:List Frame}{c:Nat}(U:Under (cfg K.P K.V W n tl) F)(htl:∀p∈tl,p.2.isFreed=false):ExtOk (cfg K.P K.V W n tl) K.w F (xCode c):=by
 refine ExtOk.fn U htl WK (λx=>x.1∈[[4,0,3]]) (λwh x h=>z8 h) (λd c objs x q xs t h=>rfl) ?_
 rintro d ⟨ks,b⟩ q hk hpc _ pos
 have hk:ks=[4,0,3]:=by simpa using hk
 subst hk
 have e:=LV.i.inj (hpc _ (.head _))
 refine(Th htl).mono ?_
 rintro s ⟨t,h1,h2,h3⟩
 refine⟨[],.of t,rfl,rfl,?_,h2,?_⟩
 ·rw[h1,e];rfl
 ·rw[h3];rfl
noncomputable def sNumber:Str:=⟨#[110,117,109,98,101,114]⟩
def codCode(z:CmA):Code:=cmCode codE (codEnv z) z
def codStart(z:CmA):Code:=cmStart codE (codEnv z) z
def codSS(K:Wd)(W:List (Code × Pos))(z:CmA)(pos:Pos):Start:=mkS K W 1 [] [] [(z.it,lIt z.src 0)] (codStart z) pos
def TD(K:Wd)(W:List (Code × Pos))(z:CmA)(pos:Pos):∃N tp p,∀D Z O,lhs 1 [0] ((codSS K W z pos).run D Z O N tp)=rhs 0 ⟨.pure (.again (codCode z)),codStart z,p,[],[(z.it,lIt z.src 0)],[],[]⟩ ((codSS K W z pos).run D Z O N tp):=by
 obtain⟨w,b1,b2,V0,hw⟩:=K
 cases b2
 ·exact⟨11,[1,1,0,1,1],⟨212,45,212,52⟩,λD Z O=>by cases b1<;>kernel_rfl⟩
 ·exact⟨1,[],pos,λD Z O=>by cases b1<;>kernel_rfl⟩
def codS(K:Wd)(b:Bag)(z:CmA)(x:Option (Value × Tok))(vs:Array Value)(e i:Nat)(xs:Array Value)(e2:Nat)(p:Int × Tok)(c:Nat)(pos:Pos):Start:=
 mkS K (WK ([0,3],b)) 4 [] [xNext 2 (.int p.1 p.2),xCode c,xAppend 1] [(z.dct,cmD K.P sNumber x),(z.acc,listO vs e),(z.it,lIt z.src i),(z.src,listO xs e2)] (codCode z) pos
section
variable (K:Wd) (b:Bag) (z:CmA) (x:Option (Value × Tok)) (vs:Array Value) (e i:Nat) (xs:Array Value) (e2:Nat) (p:Int × Tok) (c:Nat) (pos:Pos) (D:Nat->Addr) (Z:Nat->Ch) (O:Nat->Nat)
def codR(N:Nat)(tp:List Nat):Option Out:=(codS K b z x vs e i xs e2 p c pos).run D Z O N tp
noncomputable def tpCod:List Nat:=[3,1,1,3,1,7,3,6,7,666,2,0,3,3,0,5]
def cod_rX:Exp:=⟨.pure (.again (codCode z)),codCode z,⟨212,13,212,30⟩,[],
  [(z.dct,cmD K.P sNumber (cmX x (.int p.1 p.2) ((Z 1).tok 0))),(z.acc,listO (vs.push (.int (.ofNat c) ((Z 2).tok 0))) ((Z 3).tok 0)),(z.it,lIt z.src (i+1)),(z.src,listO xs e2)],[],[small vs.size,(.i (lawCodeZ p.1),.i (.ofNat c)),(.ov xs[i]?,.ov (some (.int p.1 p.2)))]⟩
theorem QI:lhs 4 [0,1,2,3] (codR K b z x vs e i xs e2 p c pos D Z O 19 tpCod)=rhs 0 (cod_rX K z x vs i xs e2 p c Z) (codR K b z x vs e i xs e2 p c pos D Z O 19 tpCod):=by
 obtain⟨_,b1⟩:=K
 cases b1<;>cases x<;>kernel_rfl
end
def cod_rEX(K:Wd)(z:CmA)(x:Option (Value × Tok))(vs:Array Value)(e:Nat)(i:Nat)(xs:Array Value)(e2:Nat):Exp:=⟨.pure (.done .next),codCode z,⟨212,45,212,52⟩,[],[(z.dct,cmD K.P sNumber x),(z.acc,listO vs e),(z.src,listO xs e2)],[],[(.ov xs[i]?,.ov none)]⟩
def TE(K:Wd)(b:Bag)(z:CmA)(x:Option (Value × Tok))(vs:Array Value)(e i:Nat)(xs:Array Value)(e2:Nat)(p:Int × Tok)(c:Nat)(pos:Pos)(D:Nat->Addr)(Z:Nat->Ch)(O:Nat->Nat):lhs 4 [2,3,5] (codR K b z x vs e i xs e2 p c pos D Z O 4 [3,1,0,3,1,11])=rhs 2 (cod_rEX K z x vs e i xs e2) (codR K b z x vs e i xs e2 p c pos D Z O 4 [3,1,0,3,1,11]):=by
 obtain⟨_,b1⟩:=K
 cases b1<;>cases x<;>kernel_rfl
def uJ{K:Wd}{W:List (Code × Pos)}{m:Nat}{v:Value}{c:Nat}:∀F,Under (cfg K.P K.V W m []) F->∀e E,nth [xNext 2 v,xCode c,xAppend 1] e=some E->ExtOk (cfg K.P K.V W m []) K.w F E:=λF U=>
 (AllOk.cons (.leaf U yg) (.cons (YW U yz) (.cons (.leaf U zm) .nil))).nth
def Wb{K:Wd}{b:Bag}{z:CmA}{e2:Nat}:∀(post pre:List (Int × Tok)) (x:Option (Value × Tok)) (cl:List (Nat × Tok)) (e:Nat) (pos:Pos),(∀p∈post,0<=lawCodeZ p.1)->cl.length+post.length<=1000->
  Seg K (WK ([0,3],b)) ⟨denF (codCode z),codCode z,pos,[],[(z.dct,cmD K.P sNumber x),(z.acc,listO (intsArr cl) e),(z.it,lIt z.src pre.length),(z.src,listO (zArr (pre++post)) e2)]⟩ (CmEnd K z sNumber intsArr [(z.src,listO (zArr (pre++post)) e2)] (cl.map (·.1)++post.map (λp=>(lawCodeZ p.1).toNat)) (λ_ x'=>(x.isSome=true\/post≠[]->x'.isSome=true))):=by
 intro post
 induction post with
 |nil=>
  rintro pre x cl e pos _ _
  refine Seg.rM (K:=K) (codS K b z x (intsArr cl) e pre.length (zArr (pre++[])) e2 (0,0) 0 pos) rfl rfl uJ _ [2,3,5] (TE K b z x (intsArr cl) e pre.length (zArr (pre++[])) e2 (0,0) 0 pos) (by decide) rfl (by decide) (λ_ _ _=>za (by show LV.ov (zArr (pre++[]))[pre.length]?=_;simp[zArr]) zd) (λ_ _ _=>rfl) λD Z O=>?_
  exact⟨x,cl,e,rfl,rfl,rfl,by simp,λh=>h.elim id λh=>absurd rfl h⟩
 |cons p post IH=>
  rintro pre x cl e pos hc hl
  refine Seg.rT (K:=K) (codS K b z x (intsArr cl) e pre.length (zArr (pre++p::post)) e2 p (lawCodeZ p.1).toNat pos) rfl rfl uJ _ [0,1,2,3] (QI K b z x (intsArr cl) e pre.length (zArr (pre++p::post)) e2 p (lawCodeZ p.1).toNat pos) (by decide) rfl (by decide) (λ_ _ _=>za (zc (by rw[zN];simp at hl;lia)) (za (by
   have:=hc p (.head _)
   show LV.i (lawCodeZ p.1)=LV.i (Int.ofNat (lawCodeZ p.1).toNat)
   congr 1
   exact(Int.toNat_of_nonneg this).symm) (za (by simp[zArr]) zd))) (λ_ _ _=>rfl) λD Z O=>?_
  have e0:pre++p::post=(pre++[p])++post:=by simp
  have el:pre.length+1=(pre++[p]).length:=by simp
  have ih:=IH (pre++[p]) (cmX x (.int p.1 p.2) ((Z 1).tok 0)) (cl++[((lawCodeZ p.1).toNat,(Z 2).tok 0)]) ((Z 3).tok 0) ⟨212,13,212,30⟩ (λq hq=>hc q (.tail _ hq)) (by simp at hl ⊢;lia)
  refine Seg.again rfl (Seg.perm (a:=⟨_,_,_,[],_⟩) (List.Perm.of_eq ?_) (ih.mono ?_))
  ·show _++[]=_
   rw[List.append_nil,yB,<-e0,<-el]
   rfl
  ·rintro s ⟨x',cl',e',h1,h2,h3,h4,h5⟩
   exact⟨x',cl',e',h1,h2,by rw[h3,<-e0],by rw[h4];simp,λ_=>h5 (.inl (by cases x<;>rfl))⟩
noncomputable def lwα(a0 acc dct:Addr)(i:Nat):Addr:=match i with
 |0=>a0
 |3=>acc
 |4=>dct
 |n+1=>7000+n
noncomputable def lwCq:LwQ:=⟨6000,#[],#[],0⟩
def lwK(K:Wd)(b:Bag)(a0 acc dct:Addr):Result->Sem Fin:=kOf (lwR2 K b lwCq pos0 (lwα a0 acc dct) cτ id (some (.none,0)) #[] 0 (lwα a0 acc dct) cτ id 47 tpLw2)
def lwCd(K:Wd)(b:Bag)(a0:Addr):Code:=(eo (lwR1 K b lwCq pos0 (lwα a0 0 0) cτ id)).code
noncomputable def sTotal:Str:=⟨#[116,111,116,97,108]⟩
def chrE:Expr:=exA (exA (exP (stP (lwB 5)).2.2.2.2.1).1)
structure LvQ where
 l:Addr
 a0:Addr
 src:Addr
 t0:Tok
 t1:Tok
 z:CmA
 x:Value × Tok
 cl:List (Nat × Tok)
 e:Nat
 ns:List (Int × Tok)
 e2:Nat
def LvQ.total(q:LvQ):Int:=sumV (zArr q.ns).toList
def LvQ.wd(q:LvQ):Int:=q.total.fmod 9
def LvQ.rm(q:LvQ):Int:=(q.total.fdiv 9).fmod 4
def LvQ.fr(q:LvQ)(P:Params)(Z:Nat->Ch):Obj:=frameO [ent P sScript q.t0 (.ref q.l),ent P sNumbers q.t1 (.ref q.src),ent P sCodes ((Z 0).tok 0) (.ref q.z.acc),ent P sTotal ((Z 2).tok 0) (.int q.total ((Z 1).tok 0)),ent P sWidth ((Z 5).tok 0) (.int q.wd ((Z 4).tok 0)),ent P sRoom ((Z 10).tok 0) (.int q.rm ((Z 9).tok 0))] 6
noncomputable def tpLw3:List Nat:=[1,0,7,7,3,6,0,1,1,0,3,1,0,1,2,0,1,0,1,2,0,2,0,1,0,6,1,5,5,0,5,9]
section
variable (K:Wd) (b:Bag) (q:LvQ) (p0:Pos) (D:Nat->Addr) (Z:Nat->Ch) (O:Nat->Nat)
def lwS3:Start:=⟨cfg K.P K.V (WK ([3],b)) 4 [],[xSumL,pureX K.P 8 []],[(q.z.dct,cmD K.P sNumber (some q.x)),(q.z.acc,listO (intsArr q.cl) q.e),(q.src,listO (zArr q.ns) q.e2),(q.a0,frameO [ent K.P sScript q.t0 (.ref q.l),ent K.P sNumbers q.t1 (.ref q.src)] 2)],[],lwK K b q.a0 q.z.acc q.z.dct (.ok .next),lwCd K b q.a0,p0,[]⟩
def lwR3:Option Out:=(lwS3 K b q p0).run D Z O 78 tpLw3
noncomputable def chZ(q:LvQ)(D:Nat->Addr):CmA:=⟨q.a0,q.z.acc,D 0,D 1,D 2⟩
def chEnv(z:CmA):Env:=cmEnv chrE z.dct qLaw 361 z.a0
def lw_r3X:Exp:=⟨.call (cmStart chrE (chEnv (chZ q D)) (chZ q D)) none true (lOf (lwR3 K b q p0 D Z O)) (kOf (lwR3 K b q p0 D Z O)),lwCd K b q.a0,⟨216,52,216,57⟩,[],
  [(D 2,dictO [] 0),(D 1,listO #[] 0),(D 0,lIt q.z.acc 0),(q.z.acc,listO (intsArr q.cl) q.e),(q.a0,q.fr K.P Z)],[],[(.b (allI (zArr q.ns).toList),.b true)]⟩
theorem Rs:lhs 4 [0,1,2,4,6] (lwR3 K b q p0 D Z O)=rhs 3 (lw_r3X K b q p0 D Z O) (lwR3 K b q p0 D Z O):=by
 obtain⟨_,b1⟩:=K
 cases b1<;>kernel_rfl
theorem Ry{q:LwQ}{fA:Nat->Addr}{fT:Nat->Ch}{g0:Nat->Nat}{x:Option (Value × Tok)}{vs:Array Value}{e:Nat}(hx:x.isSome=true):kOf (lwR2 K b q p0 fA fT g0 x vs e D Z O 47 tpLw2)=lwK K b (fA 0) (D 3) (D 4):=by
 obtain⟨_,b1⟩:=K
 cases x with
 |none=>cases hx
 |some v=>cases b1<;>kernel_rfl
theorem U7{q:LwQ}{fA:Nat->Addr}{fT:Nat->Ch}{g0:Nat->Nat}{x:Option (Value × Tok)}{vs:Array Value}{e:Nat}(hx:x.isNone=true):kOf (lwR2 K b q p0 fA fT g0 x vs e D Z O 43 tpLw2n)=lwK K b (fA 0) (D 3) (D 4):=by
 obtain⟨_,b1⟩:=K
 cases x with
 |none=>cases b1<;>kernel_rfl
 |some v=>cases hx
theorem Rz{q:LwQ}{fA:Nat->Addr}{fT:Nat->Ch}{g0:Nat->Nat}{x:Option (Value × Tok)}{vs:Array Value}{e:Nat}(hx:x.isSome=true):(eo (lwR2 K b q p0 fA fT g0 x vs e D Z O 47 tpLw2)).code=lwCd K b (fA 0):=by
 obtain⟨_,b1⟩:=K
 cases x with
 |none=>cases hx
 |some v=>cases b1<;>kernel_rfl
theorem U8{q:LwQ}{fA:Nat->Addr}{fT:Nat->Ch}{g0:Nat->Nat}{x:Option (Value × Tok)}{vs:Array Value}{e:Nat}(hx:x.isNone=true):(eo (lwR2 K b q p0 fA fT g0 x vs e D Z O 43 tpLw2n)).code=lwCd K b (fA 0):=by
 obtain⟨_,b1⟩:=K
 cases x with
 |none=>cases b1<;>kernel_rfl
 |some v=>cases hx
end
def chrCode(z:CmA):Code:=cmCode chrE (chEnv z) z
def chrStart(z:CmA):Code:=cmStart chrE (chEnv z) z
def chrSS(K:Wd)(W:List (Code × Pos))(z:CmA)(pos:Pos):Start:=mkS K W 1 [] [] [(z.it,lIt z.src 0)] (chrStart z) pos
def TI(K:Wd)(W:List (Code × Pos))(z:CmA)(pos:Pos):∃N tp p,∀D Z O,lhs 1 [0] ((chrSS K W z pos).run D Z O N tp)=rhs 0 ⟨.pure (.again (chrCode z)),chrStart z,p,[],[(z.it,lIt z.src 0)],[],[]⟩ ((chrSS K W z pos).run D Z O N tp):=by
 obtain⟨w,b1,b2,V0,hw⟩:=K
 cases b2
 ·exact⟨11,[1,1,0,1,1],⟨216,52,216,57⟩,λD Z O=>by cases b1<;>kernel_rfl⟩
 ·exact⟨1,[],pos,λD Z O=>by cases b1<;>kernel_rfl⟩
def chrS(K:Wd)(W:List (Code × Pos))(z:CmA)(x:Option (Value × Tok))(vs:Array Value)(e i:Nat)(xs:Array Value)(e2:Nat)(p:Nat × Tok)(pos:Pos):Start:=
 mkS K W 4 [] [xNext 2 (.int (.ofNat p.1) p.2),xChr p.1,xAppend 1] [(z.dct,cmD K.P sCode x),(z.acc,listO vs e),(z.it,lIt z.src i),(z.src,listO xs e2)] (chrCode z) pos
section
variable (K:Wd) (W:List (Code × Pos)) (z:CmA) (x:Option (Value × Tok)) (vs:Array Value) (e i:Nat) (xs:Array Value) (e2:Nat) (p:Nat × Tok) (pos:Pos) (D:Nat->Addr) (Z:Nat->Ch) (O:Nat->Nat)
def chrR(N:Nat)(tp:List Nat):Option Out:=(chrS K W z x vs e i xs e2 p pos).run D Z O N tp
noncomputable def tpChr:List Nat:=[3,1,1,3,1,7,3,6,0,7,2,0,3,0,5]
def chr_rX:Exp:=⟨.pure (.again (chrCode z)),chrCode z,⟨216,30,216,39⟩,[],
  [(z.dct,cmD K.P sCode (cmX x (.int (.ofNat p.1) p.2) ((Z 1).tok 0))),(z.acc,listO (vs.push (.str ⟨#[p.1]⟩ ((Z 2).tok 0))) ((Z 3).tok 0)),(z.it,lIt z.src (i+1)),(z.src,listO xs e2)],[],[small vs.size,(.i (.ofNat p.1),.i (.ofNat p.1)),(.b (decide (p.1<=1114111)),.b true),(.ov xs[i]?,.ov (some (.int (.ofNat p.1) p.2)))]⟩
theorem QJ:lhs 4 [0,1,2,3] (chrR K W z x vs e i xs e2 p pos D Z O 19 tpChr)=rhs 0 (chr_rX K z x vs i xs e2 p Z) (chrR K W z x vs e i xs e2 p pos D Z O 19 tpChr):=by
 obtain⟨_,b1⟩:=K
 cases b1<;>cases x<;>kernel_rfl
def chr_rEX:Exp:=⟨.pure (.done .next),chrCode z,⟨216,52,216,57⟩,[],[(z.dct,cmD K.P sCode x),(z.acc,listO vs e),(z.src,listO xs e2)],[],[(.ov xs[i]?,.ov none)]⟩
theorem TJ:lhs 4 [2,3,5] (chrR K W z x vs e i xs e2 p pos D Z O 4 [3,1,0,3,1,11])=rhs 2 (chr_rEX K z x vs e i xs e2) (chrR K W z x vs e i xs e2 p pos D Z O 4 [3,1,0,3,1,11]):=by
 obtain⟨_,b1⟩:=K
 cases b1<;>cases x<;>kernel_rfl
end
def uK{K:Wd}{W:List (Code × Pos)}{m:Nat}{v:Value}{c:Nat}:∀F,Under (cfg K.P K.V W m []) F->∀e E,nth [xNext 2 v,xChr c,xAppend 1] e=some E->ExtOk (cfg K.P K.V W m []) K.w F E:=λF U=>
 (AllOk.cons (.leaf U yg) (.cons (.leaf U Zh) (.cons (.leaf U zm) .nil))).nth
def Wc{K:Wd}{W:List (Code × Pos)}{z:CmA}{e2:Nat}:∀(post pre:List (Nat × Tok)) (x:Option (Value × Tok)) (sl:List (Str × Tok)) (e:Nat) (pos:Pos),(∀p∈post,p.1<=1114111)->sl.length+post.length<=1000->
  Seg K W ⟨denF (chrCode z),chrCode z,pos,[],[(z.dct,cmD K.P sCode x),(z.acc,listO (rowsArr sl) e),(z.it,lIt z.src pre.length),(z.src,listO (intsArr (pre++post)) e2)]⟩ (CmEnd K z sCode rowsArr [(z.src,listO (intsArr (pre++post)) e2)] (sl.map (·.1)++post.map (λp=>(⟨#[p.1]⟩:Str))) (λ_ x'=>(x.isSome=true\/post≠[]->x'.isSome=true))):=by
 intro post
 induction post with
 |nil=>
  rintro pre x sl e pos _ _
  refine Seg.rM (K:=K) (chrS K W z x (rowsArr sl) e pre.length (intsArr (pre++[])) e2 (0,0) pos) rfl rfl uK _ [2,3,5] (TJ K W z x (rowsArr sl) e pre.length (intsArr (pre++[])) e2 (0,0) pos) (by decide) rfl (by decide) (λ_ _ _=>za (by show LV.ov (intsArr (pre++[]))[pre.length]?=_;simp[intsArr]) zd) (λ_ _ _=>rfl) λD Z O=>?_
  exact⟨x,sl,e,rfl,rfl,rfl,by simp,λh=>h.elim id λh=>absurd rfl h⟩
 |cons p post IH=>
  rintro pre x sl e pos hc hl
  refine Seg.rT (K:=K) (chrS K W z x (rowsArr sl) e pre.length (intsArr (pre++p::post)) e2 p pos) rfl rfl uK _ [0,1,2,3] (QJ K W z x (rowsArr sl) e pre.length (intsArr (pre++p::post)) e2 p pos) (by decide) rfl (by decide) (λ_ _ _=>za (zc (by rw[ze];simp at hl;lia)) (za rfl (za (by rw[decide_eq_true (hc p (.head _))]) (za (by simp[intsArr]) zd)))) (λ_ _ _=>rfl) λD Z O=>?_
  have e0:pre++p::post=(pre++[p])++post:=by simp
  have el:pre.length+1=(pre++[p]).length:=by simp
  have ih:=IH (pre++[p]) (cmX x (.int (.ofNat p.1) p.2) ((Z 1).tok 0)) (sl++[((⟨#[p.1]⟩:Str),(Z 2).tok 0)]) ((Z 3).tok 0) ⟨216,30,216,39⟩ (λq hq=>hc q (.tail _ hq)) (by simp at hl ⊢;lia)
  refine Seg.again rfl (Seg.perm (a:=⟨_,_,_,[],_⟩) (List.Perm.of_eq ?_) (ih.mono ?_))
  ·show _++[]=_
   rw[List.append_nil,<-zi,<-e0,<-el]
   rfl
  ·rintro s ⟨x',sl',e',h1,h2,h3,h4,h5⟩
   exact⟨x',sl',e',h1,h2,by rw[h3,<-e0],by rw[h4];simp,λ_=>h5 (.inl (by cases x<;>rfl))⟩
noncomputable def lwβ(acc dct:Addr)(i:Nat):Addr:=match i with
 |1=>acc
 |2=>dct
 |n=>7000+n
noncomputable def lwCv(a0:Addr):LvQ:=⟨6000,a0,6002,0,0,⟨0,6003,6004,6005,6006⟩,(.none,0),[],0,[],0⟩
def lwK4(K:Wd)(b:Bag)(a0 acc dct:Addr)(t:Tok):Result->Sem Fin:=kOf (lwR3 K b (lwCv a0) pos0 (lwβ acc dct) (λ_=>.of t) id)
structure LxQ where
 z:CmA
 t:Tok
 x:Value × Tok
 sl:List (Str × Tok)
 S:Str
 e:Nat
 cl:List (Nat × Tok)
 e2:Nat
 v:LvQ
 Z:Nat->Ch
noncomputable def LxQ.fr(q:LxQ)(P:Params):Obj:=q.v.fr P q.Z
noncomputable def tpLw4:List Nat:=[7,7,3,1,0,5,1,1,714]
section
variable (K:Wd) (b:Bag) (q:LxQ) (p0:Pos) (D:Nat->Addr) (Z:Nat->Ch) (O:Nat->Nat)
theorem Rx{v:LvQ}:kOf (lwR3 K b v p0 D Z O)=lwK4 K b v.a0 (D 1) (D 2) ((Z 11).tok 0):=by
 obtain⟨_,b1⟩:=K
 cases b1<;>kernel_rfl
def lwS4:Start:=⟨cfg K.P K.V (WK ([3],b)) 4 [],[xJoinR q.sl q.S],[(q.z.dct,cmD K.P sCode (some q.x)),(q.z.acc,listO (rowsArr q.sl) q.e),(q.z.src,listO (intsArr q.cl) q.e2),(q.z.a0,q.fr K.P)],[],lwK4 K b q.z.a0 q.z.acc q.z.dct q.t (.ok .next),lwCd K b q.z.a0,p0,[]⟩
def lwR4:Option Out:=(lwS4 K b q p0).run D Z O 14 tpLw4
def lwLa(q:LxQ)(t:Tok):LaQ:=⟨q.S,t,q.v.rm,(q.Z 9).tok 0,q.v.wd,(q.Z 4).tok 0,284,oMem 124 19 none⟩
def lw_r4X:Exp:=⟨.call (laC (lwLa q ((Z 0).tok 0))) none false (lOf (lwR4 K b q p0 D Z O)) (kOf (lwR4 K b q p0 D Z O)),lwCd K b q.z.a0,⟨216,11,216,73⟩,[],
  [(q.z.src,listO (intsArr q.cl) q.e2),(q.z.a0,q.fr K.P)],[],[(.a (rowsArr q.sl),.a (rowsArr q.sl)),(.s (Txt.join ⟨#[]⟩ (q.sl.map (·.1))),.s q.S),(.b (decide (((q.sl.map (·.1)).map Str.length).sum+q.sl.length*Str.length ⟨#[]⟩<=1000)),.b true)]⟩
theorem Rr:lhs 4 [2,3] (lwR4 K b q p0 D Z O)=rhs 0 (lw_r4X K b q p0 D Z O) (lwR4 K b q p0 D Z O):=by
 obtain⟨_,b1⟩:=K
 cases b1<;>kernel_rfl
end
def lwCx(a0:Addr):LxQ:=⟨⟨a0,6001,6002,6003,6004⟩,0,(.none,0),[],⟨#[]⟩,0,[],0,lwCv a0,λ_=>.of 0⟩
def lwK5(K:Wd)(b:Bag)(a0:Addr):Result->Sem Fin:=kOf (lwR4 K b (lwCx a0) pos0 cα cτ id)
structure LyQ where
 a:Addr
 rl:List (Str × Tok)
 e3:Nat
 cl:List (Nat × Tok)
 e2:Nat
 v:LvQ
 Z:Nat->Ch
section
variable (K:Wd) (b:Bag) (q:LyQ) (p0:Pos) (D:Nat->Addr) (Z:Nat->Ch) (O:Nat->Nat)
theorem Rw{x:LxQ}:kOf (lwR4 K b x p0 D Z O)=lwK5 K b x.z.a0:=by
 obtain⟨_,b1⟩:=K
 cases b1<;>kernel_rfl
def lwS5:Start:=⟨cfg K.P K.V (WK ([3],b)) 3 [],[],[(q.a,listO (rowsArr q.rl) q.e3),(q.v.z.acc,listO (intsArr q.cl) q.e2),(q.v.a0,q.v.fr K.P q.Z)],[],lwK5 K b q.v.a0 (.ok (.ret (.ref q.a))),lwCd K b q.v.a0,p0,[]⟩
def lwR5:Option Out:=(lwS5 K b q p0).run D Z O 11 [6,1,1,1,700]
noncomputable def lwPg(q:LyQ):PgQ:=⟨q.v.z.acc,q.cl,q.e2,q.v.rm,(q.Z 9).tok 0,q.v.wd,(q.Z 4).tok 0⟩
def lw_r5X:Exp:=⟨.call (pgC (lwPg q)) none false (lOf (lwR5 K b q p0 D Z O)) (kOf (lwR5 K b q p0 D Z O)),lwCd K b q.v.a0,⟨216,77,216,106⟩,[],
  [(q.a,listO (rowsArr q.rl) q.e3),(q.v.z.acc,listO (intsArr q.cl) q.e2)],[],[]⟩
theorem Rq:lhs 3 [0,1] (lwR5 K b q p0 D Z O)=rhs 0 (lw_r5X K b q p0 D Z O) (lwR5 K b q p0 D Z O):=by
 obtain⟨_,b1⟩:=K
 cases b1<;>kernel_rfl
def lwCy(a0 a:Addr):LyQ:=⟨a,[],0,[],0,lwCv a0,λ_=>.of 0⟩
def lwK6(a0 a:Addr):Result->Sem Fin:=kOf (lwR5 K b (lwCy a0 a) pos0 cα cτ id)
theorem Rv:kOf (lwR5 K b q p0 D Z O)=lwK6 K b q.v.a0 q.a:=by
 obtain⟨_,b1⟩:=K
 cases b1<;>kernel_rfl
end
section
variable (K:Wd) (b:Bag) (a0 a a2:Addr) (rl rl2:List (Str × Tok)) (e3 e4:Nat) (p0:Pos) (D:Nat->Addr) (Z:Nat->Ch) (O:Nat->Nat)
def lwS6:Start:=⟨cfg K.P K.V (WK ([3],b)) 2 [],[xLCmp false],[(a2,listO (rowsArr rl2) e4),(a,listO (rowsArr rl) e3)],[],lwK6 K b a0 a (.ok (.ret (.ref a2))),lwCd K b a0,p0,[]⟩
def lwR6(d:Nat):Option Out:=(lwS6 K b a0 a a2 rl rl2 e3 e4 p0).run D Z O 9 [1,3,1,1,d,1,3]
def lw_r6X(d:Nat):Exp:=⟨.pure (.done (.ret (.bool (tfB d)))),lwCd K b a0,⟨216,11,216,106⟩,[],[(a2,listO (rowsArr rl2) e4)],[],
  [(.b (leq (rowsArr rl).toList (rowsArr rl2).toList),.b (false != tfB d)),(.b ((rowsArr rl).size != (rowsArr rl2).size || leqOk (rowsArr rl).toList (rowsArr rl2).toList),.b true)]⟩
theorem Rp(d:Nat):lhs 2 [0] (lwR6 K b a0 a a2 rl rl2 e3 e4 p0 D Z O d)=rhs 0 (lw_r6X K b a0 a2 rl rl2 e4 d) (lwR6 K b a0 a a2 rl rl2 e3 e4 p0 D Z O d):=by
 obtain⟨_,b1⟩:=K
 cases b1<;>kernel_rfl
end
section
variable (K:Wd) (b:Bag) (p0:Pos) (fA:Nat->Addr) (fT:Nat->Ch) (g0:Nat->Nat) (q:LwQ) (x:Option (Value × Tok)) (vs:Array Value) (e:Nat) (D:Nat->Addr) (Z:Nat->Ch) (O:Nat->Nat)
theorem Xy(a0:Addr)(pos:Pos):shk [[0,3]] ((lwCd K b a0,pos)::(([]:List Frame).map Frame.where_++WK ([3],b)))=some ([0,3],bagOf ((lwCd K b a0,pos)::(([]:List Frame).map Frame.where_++WK ([3],b)))):=by
 obtain⟨_,b1⟩:=K
 cases b1<;>kernel_rfl
end
def Uz(l:List (Int × Tok)):slicePick (zArr l) none (some 12) none=zArr (l.take 12):=by
 rw[show (12:Int)=((12:Nat):Int) from rfl,slicePick_upto'];simp[zArr]
noncomputable def numsOf(l:List (Int × Tok)):List Int:=(l.take 12).map λp=>p.1.fmod 1000000
noncomputable def fixN:List Int:=[4,5,44,163,2,9,1,2,203,12]
def vf{D:Type}{a b c:D}{R:List D}:(a::b::c::R).Perm (c::b::a::R):=((List.Perm.swap b a _).trans ((List.Perm.swap c a _).cons b)).trans (List.Perm.swap c b _)
def WN{K:Wd}{W:List (Code × Pos)}{z:CmA}{e2:Nat}{l:List (Int × Tok)}{R:zb}{pos:Pos}(hl:l.length<=900)(hR:∀p∈R,p.2.isFreed=false) :
  Seg K W ⟨denF (numStart z),numStart z,pos,[],[(z.it,lIt z.src 0),(z.acc,listO #[] 0),(z.dct,dictO [] 0),(z.src,listO (zArr l) e2)]++R⟩
   (CmEnd K z sX zArr R (l.map (λp=>p.1.fmod 1000000)) (λ_ x'=>(x'=none↔l=[]))):=by
 have hlive:∀x∈[(z.acc,listO #[] 0),(z.dct,dictO [] 0),(z.src,listO (zArr l) e2)]++R,x.2.isFreed=false:=λx hx=>by
  rcases List.mem_append.mp hx with hx|hx
  ·simp only[List.mem_cons,List.not_mem_nil,or_false] at hx
   rcases hx with rfl|rfl|rfl<;>rfl
  ·exact hR x hx
 refine(zQ (K:=K) (W:=W) (U0 K W z pos) hlive).trans ?_
 rintro s ⟨p',rfl⟩
 have h2:=Seg.frame R hR (Xo (K:=K) (W:=W) (z:=z) (e2:=e2) l [] none [] 0 p' (by simp;lia))
 refine Seg.again rfl (Seg.perm (a:=⟨_,_,_,[],_⟩) ?_ (h2.mono ?_))
 ·show List.Perm ((z.it,lIt z.src 0)::(z.acc,listO #[] 0)::(z.dct,dictO [] 0)::(z.src,listO (zArr l) e2)::R) ((z.dct,dictO [] 0)::(z.acc,listO #[] 0)::(z.it,lIt z.src 0)::(z.src,listO (zArr l) e2)::R)
  exact vf
 ·rintro s ⟨s',⟨x',ns',e',h1,h2,h3,h4,h5⟩⟩
  exact⟨x',ns',e',h1,h2,by rw[h3];rfl,by simpa using h4,by simpa using h5⟩
def Vz{K:Wd}{b:Bag}{z:CmA}{e2:Nat}{l:List (Int × Tok)}{R:zb}{pos:Pos}(hl:l.length<=900)(h0:l≠[])(hc:∀p∈l,0<=lawCodeZ p.1)(hR:∀p∈R,p.2.isFreed=false) :
  Seg K (WK ([0,3],b)) ⟨denF (codStart z),codStart z,pos,[],[(z.it,lIt z.src 0),(z.acc,listO #[] 0),(z.dct,dictO [] 0),(z.src,listO (zArr l) e2)]++R⟩
   (CmFin K z sNumber intsArr ((z.src,listO (zArr l) e2)::R) (l.map (λp=>(lawCodeZ p.1).toNat))):=by
 have hlive:∀x∈[(z.acc,listO #[] 0),(z.dct,dictO [] 0),(z.src,listO (zArr l) e2)]++R,x.2.isFreed=false:=λx hx=>by
  rcases List.mem_append.mp hx with hx|hx
  ·simp only[List.mem_cons,List.not_mem_nil,or_false] at hx
   rcases hx with rfl|rfl|rfl<;>rfl
  ·exact hR x hx
 refine(zQ (K:=K) (W:=WK ([0,3],b)) (TD K (WK ([0,3],b)) z pos) hlive).trans ?_
 rintro s ⟨p',rfl⟩
 have h2:=Seg.frame R hR (Wb (K:=K) (b:=b) (z:=z) (e2:=e2) l [] none [] 0 p' hc (by simp;lia))
 refine Seg.again rfl (Seg.perm (a:=⟨_,_,_,[],_⟩) ?_ (h2.mono ?_))
 ·show List.Perm ((z.it,lIt z.src 0)::(z.acc,listO #[] 0)::(z.dct,dictO [] 0)::(z.src,listO (zArr l) e2)::R) ((z.dct,dictO [] 0)::(z.acc,listO #[] 0)::(z.it,lIt z.src 0)::(z.src,listO (zArr l) e2)::R)
  exact vf
 ·rintro s ⟨s',⟨x',cl',e',h1,h2,h3,h4,h5⟩⟩
  obtain⟨xv,rfl⟩:=Option.isSome_iff_exists.mp (h5 (.inr h0))
  exact⟨xv,cl',e',h1,h2,by rw[h3];rfl,by simpa using h4⟩
def VA{K:Wd}{W:List (Code × Pos)}{z:CmA}{e2:Nat}{l:List (Nat × Tok)}{R:zb}{pos:Pos}(hl:l.length<=900)(h0:l≠[])(hc:∀p∈l,p.1<=1114111)(hR:∀p∈R,p.2.isFreed=false) :
  Seg K W ⟨denF (chrStart z),chrStart z,pos,[],[(z.it,lIt z.src 0),(z.acc,listO #[] 0),(z.dct,dictO [] 0),(z.src,listO (intsArr l) e2)]++R⟩
   (CmFin K z sCode rowsArr ((z.src,listO (intsArr l) e2)::R) (l.map (λp=>(⟨#[p.1]⟩:Str)))):=by
 have hlive:∀x∈[(z.acc,listO #[] 0),(z.dct,dictO [] 0),(z.src,listO (intsArr l) e2)]++R,x.2.isFreed=false:=λx hx=>by
  rcases List.mem_append.mp hx with hx|hx
  ·simp only[List.mem_cons,List.not_mem_nil,or_false] at hx
   rcases hx with rfl|rfl|rfl<;>rfl
  ·exact hR x hx
 refine(zQ (K:=K) (W:=W) (TI K W z pos) hlive).trans ?_
 rintro s ⟨p',rfl⟩
 have h2:=Seg.frame R hR (Wc (K:=K) (W:=W) (z:=z) (e2:=e2) l [] none [] 0 p' hc (by simp;lia))
 refine Seg.again rfl (Seg.perm (a:=⟨_,_,_,[],_⟩) ?_ (h2.mono ?_))
 ·show List.Perm ((z.it,lIt z.src 0)::(z.acc,listO #[] 0)::(z.dct,dictO [] 0)::(z.src,listO (intsArr l) e2)::R) ((z.dct,dictO [] 0)::(z.acc,listO #[] 0)::(z.it,lIt z.src 0)::(z.src,listO (intsArr l) e2)::R)
  exact vf
 ·rintro s ⟨s',⟨x',cl',e',h1,h2,h3,h4,h5⟩⟩
  obtain⟨xv,rfl⟩:=Option.isSome_iff_exists.mp (h5 (.inr h0))
  exact⟨xv,cl',e',h1,h2,by rw[h3];rfl,by simpa using h4⟩
theorem uq:∀(a b:List (Str × Tok)),leq (rowsArr a).toList (rowsArr b).toList=decide (a.map (·.1)=b.map (·.1))
 |[],[]=>rfl
 |[],_::_=>by simp[rowsArr,leq]
 | _::_,[]=>by simp[rowsArr,leq]
 |p::a,q::b=>by
  have ih:=uq a b
  show (p.1==q.1 && leq (rowsArr a).toList (rowsArr b).toList)=_
  rw[ih]
  by_cases h:p.1=q.1<;>simp[h]
theorem wl:∀(a b:List (Str × Tok)),a.length=b.length->leqOk (rowsArr a).toList (rowsArr b).toList=true
 |[],[],_=>rfl
 |[],_::_,h=>by cases h
 | _::_,[],h=>by cases h
 |p::a,q::b,h=>wl a b (Nat.succ.inj h)
def RX(a b:List (Str × Tok))(d:Nat)(h:tfB d=decide (a.map (·.1)=b.map (·.1))):Lg.Ok [(.b (leq (rowsArr a).toList (rowsArr b).toList),.b (false != tfB d)),(.b ((rowsArr a).size != (rowsArr b).size || leqOk (rowsArr a).toList (rowsArr b).toList),.b true)]:=by
 refine za (by rw[uq,h,Bool.false_bne]) (za ?_ zd)
 rw[ze,ze]
 by_cases hl:a.length=b.length
 ·rw[wl a b hl,Bool.or_true]
 ·simp[hl]
def lwNums(script:List (Int × Tok)):List Int:=numsOf script++fixN
def lwCodes(script:List (Int × Tok)):List Nat:=(lwNums script).map λn=>(lawCodeZ n).toNat
def lwTotal(script:List (Int × Tok)):Int:=(lwNums script).sum
def lwWd(script:List (Int × Tok)):Int:=(lwTotal script).fmod 9
def lwRm(script:List (Int × Tok)):Int:=((lwTotal script).fdiv 9).fmod 4
theorem wN:∀l:List (Int × Tok),sumV (zArr l).toList=(l.map (·.1)).sum
 |[]=>rfl
 |p::r=>by
  have ih:=wN r
  show p.1+sumV (zArr r).toList=_
  rw[ih];simp
theorem w9:∀l:List (Int × Tok),allI (zArr l).toList=true
 |[]=>rfl
 |p::r=>w9 r
def XN:∀(l:List (Str × Tok)) (cl:List (Nat × Tok)),l.map (·.1)=cl.map (λp=>(⟨#[p.1]⟩:Str))->Txt.join ⟨#[]⟩ (l.map (·.1))=⟨(cl.map (·.1)).toArray⟩:=λl cl h=>by
 have e:=xy (l.map (·.1))
 have e2:(l.map (·.1)).flatMap (·.cps.toList)=cl.map (·.1):=by
  rw[h]
  clear e h
  induction cl with
  |nil=>rfl
  |cons p r ih=>simp only[List.map_cons,List.flatMap_cons,ih];rfl
 rw[e2] at e
 generalize Txt.join ⟨#[]⟩ (l.map (·.1))=x at e ⊢
 obtain⟨x⟩:=x
 dsimp only at e
 rw[<-e]
structure LawOk (K:Wd) (S:Nat->Int->Bool) (tab:Int->Option Str) (script:List (Int × Tok)):Prop where
 len:script.length<=900
 nn:∀n∈lwNums script,0<=lawCodeZ n
 hi:∀c∈lwCodes script,c<=1114111
 ok:∀c∈lwCodes script,SignQ S tab c
 wide:((lwCodes script).all (· < 128))=false
def lawAns(S:Nat->Int->Bool)(tab:Int->Option Str)(script:List (Int × Tok)):Bool:=decide (laidOut S tab (lwCodes script) (lwRm script) (lwWd script)=pageP (lwWd script) (lwRm script) ((lwCodes script).map lawTold))
def LawEnd(S:Nat->Int->Bool)(tab:Int->Option Str)(script:List (Int × Tok))(l:Addr)(e:Nat)(s:St):Prop:=
 s.cur=.pure (.done (.ret (.bool (lawAns S tab script))))/\s.fs=[]/\∃a rows e2 m1 m2,s.T=(a,listO rows e2)::[(284,oMem 124 19 m1),(291,oMem 127 32 m2),(l,listO (zArr script) e)]
theorem Ra:∀cl:List (Nat × Tok),((cl.map λp=>(⟨#[p.1]⟩:Str)).map Str.length).sum=cl.length
 |[]=>rfl
 |p::r=>by
  have ih:=Ra r
  rw[List.map_cons,List.map_cons,List.sum_cons,ih,List.length_cons]
  show 1+r.length=_
  lia
def Y1{D:Type}{a b c d e:D}:List.Perm [a,b,c,d,e] [c,d,a,b,e]:=by
 have h:List.Perm ([a,b]++[c,d]) ([c,d]++[a,b]):=List.perm_append_comm
 exact h.append_right [e]
section
variable {K:Wd} {b:Bag} {S:Nat->Int->Bool} {fd:Int->Option Value} {tab:Int->Option Str} (T:TopOk K S fd tab) {script:List (Int × Tok)} (dc:LawOk K S tab script) {l:Addr} {e:Nat}
include T dc
theorem Qd{v:LvQ}{e1:Nat}{p0:Pos}(hl:v.l=l)(hns:v.ns.map (·.1)=lwNums script)(hcl:v.cl.map (·.1)=lwCodes script) :
  Seg K (WK ([3],b)) ⟨lwK K b v.a0 v.z.acc v.z.dct (.ok .next),lwCd K b v.a0,p0,[],(lwS3 K b v p0).T++[(284,oMem 124 19 none),(291,oMem 127 32 none),(l,listO (zArr script) e)]⟩ (LawEnd S tab script l e):=by
 let R0:zb:=[(284,oMem 124 19 none),(291,oMem 127 32 none),(l,listO (zArr script) e)]
 have hR0:∀p∈R0,p.2.isFreed=false:=λp hp=>by
  simp only[R0,List.mem_cons,List.not_mem_nil,or_false] at hp
  rcases hp with rfl|rfl|rfl<;>rfl
 have htot:v.total=lwTotal script:=by unfold LvQ.total;rw[wN,hns];rfl
 have hwd:v.wd=lwWd script:=by unfold LvQ.wd;rw[htot];rfl
 have hrm:v.rm=lwRm script:=by unfold LvQ.rm;rw[htot];rfl
 have hclen:v.cl.length<=22:=by
  have:=congrArg List.length hcl
  rw[List.length_map] at this
  rw[this]
  simp[lwCodes,lwNums,numsOf,fixN]
  lia
 have hcl0:v.cl≠[]:=λh=>by
  rw[h] at hcl
  have:=congrArg List.length hcl
  simp[lwCodes,lwNums,numsOf,fixN] at this
 refine Seg.fT (K:=K) R0 hR0 (lwS3 K b v p0) rfl rfl (λF U=>xU (vK U) zn) _ [0,1,2,4,6] (Rs K b v p0) (by decide) rfl (by decide) (λ_ _ _=>za (by rw[w9]) zd) (λ_ _ _=>rfl) λD Z O=>?_
 dsimp only[lw_r3X]
 rw[Rx]
 let z:=chZ v D
 have hcs:=VA (K:=K) (W:=(lwCd K b v.a0,(⟨216,52,216,57⟩:Pos))::(([]:List Frame).map Frame.where_++WK ([3],b))) (z:=z) (e2:=v.e) (l:=v.cl) (R:=(v.a0,v.fr K.P Z)::R0) (pos:=⟨216,52,216,57⟩) (by lia) hcl0 (λp hp=>dc.hi _ (by rw[<-hcl];exact List.mem_map_of_mem hp)) (λp hp=>by
  rcases List.mem_cons.mp hp with rfl|hp
  ·rfl
  ·exact hR0 p hp)
 refine Seg.call rfl (Seg.perm (a:=⟨_,_,_,[],_⟩) ?_ hcs) ?_
 ·show List.Perm ((D 2,dictO [] 0)::(D 1,listO #[] 0)::(D 0,lIt v.z.acc 0)::(v.z.acc,listO (intsArr v.cl) v.e)::(v.a0,v.fr K.P Z)::([]++R0)) ((D 0,lIt v.z.acc 0)::(D 1,listO #[] 0)::(D 2,dictO [] 0)::(v.z.acc,listO (intsArr v.cl) v.e)::(v.a0,v.fr K.P Z)::R0)
  exact vf
 rintro s ⟨x',sl,e',c1,c2,c3,c4⟩
 refine⟨c2,.ok .next,c1,?_⟩
 rw[c3]
 have hsl:sl.length=v.cl.length:=by simpa using congrArg List.length c4
 have hS:=XN sl v.cl c4
 let x:LxQ:=⟨z,(Z 11).tok 0,x',sl,Txt.join ⟨#[]⟩ (sl.map (·.1)),e',v.cl,v.e,v,Z⟩
 refine Seg.fT (K:=K) R0 hR0 (lwS4 K b x ⟨216,52,216,57⟩) rfl rfl (λF U=>z0 (.leaf U yU)) _ [2,3] (Rr K b x ⟨216,52,216,57⟩) (by decide) rfl (by decide) (λ_ _ _=>za rfl (za rfl (za (by
  have e0:Str.length ⟨#[]⟩=0:=rfl
  show LV.b (decide (((sl.map (·.1)).map Str.length).sum+sl.length*Str.length ⟨#[]⟩<=1000))=_
  rw[c4,Ra,e0,decide_eq_true (by lia)]) zd))) (λ_ _ _=>rfl) λα4 τ4 γ4=>?_
 dsimp only[lw_r4X]
 rw[Rw]
 have eW:=vJ (Xy K b v.a0 ⟨216,11,216,73⟩)
 let q:=lwLa x ((τ4 0).tok 0)
 have htx:q.tx=⟨(v.cl.map (·.1)).toArray⟩:=hS
 have hrm0:=zA (v.total.fdiv 9) 4 (by decide)
 have hla:=XL (K:=K) (b:=bagOf ((lwCd K b v.a0,(⟨216,11,216,73⟩:Pos))::(([]:List Frame).map Frame.where_++WK ([3],b)))) (q:=q) (pos:=⟨216,11,216,73⟩) (m1:=none) (m2:=none) T rfl rfl (by
  rw[htx,<-dc.wide,<-hcl];simp) (by rw[htx];simpa using hclen) (λc hc=>dc.ok c (by rw[htx] at hc;rw[<-hcl];exact hc)) hrm0.1 (Int.le_of_lt_add_one (show v.rm < 3+1 from hrm0.2))
 let R4:zb:=[(v.z.acc,listO (intsArr v.cl) v.e),(v.a0,v.fr K.P Z),(l,listO (zArr script) e)]
 have hR4:∀p∈R4,p.2.isFreed=false:=λp hp=>by
  simp only[R4,List.mem_cons,List.not_mem_nil,or_false] at hp
  rcases hp with rfl|rfl|rfl<;>rfl
 have hla:=Seg.frame R4 hR4 hla
 rw[<-eW] at hla
 refine Seg.call rfl (Seg.perm (a:=⟨_,_,_,[],_⟩) Y1 hla) ?_
 rintro s ⟨s',⟨a,tk,m1,m2,d1,d2,d3⟩⟩
 refine⟨d2,.ok (.ret (.ref a)),d1,?_⟩
 have hout:laidOut S tab q.tx.cps.toList q.rm q.wd=laidOut S tab (lwCodes script) (lwRm script) (lwWd script):=by
  have e1:q.rm=lwRm script:=hrm
  have e2:q.wd=lwWd script:=hwd
  rw[htx,e1,e2,<-hcl]
 rw[hout] at d3
 let y:LyQ:=⟨a,tokd tk (laidOut S tab (lwCodes script) (lwRm script) (lwWd script)) 0,0,v.cl,v.e,v,Z⟩
 let R5:zb:=[(284,oMem 124 19 m1),(291,oMem 127 32 m2),(l,listO (zArr script) e)]
 have hR5:∀p∈R5,p.2.isFreed=false:=λp hp=>by
  simp only[R5,List.mem_cons,List.not_mem_nil,or_false] at hp
  rcases hp with rfl|rfl|rfl<;>rfl
 have eT5:List.Perm (s'.T++R4) ((lwS5 K b y ⟨216,11,216,73⟩).T++R5):=by
  rw[d3]
  show List.Perm [(a,_),(284,_),(291,_),(v.z.acc,_),(v.a0,_),(l,_)] [(a,_),(v.z.acc,_),(v.a0,_),(284,_),(291,_),(l,_)]
  exact List.Perm.cons _ Y1
 refine Seg.perm (a:=⟨_,_,_,[],_⟩) eT5 (Seg.fT (K:=K) R5 hR5 (lwS5 K b y ⟨216,11,216,73⟩) rfl rfl zH _ [0,1] (Rq K b y ⟨216,11,216,73⟩) (by decide) rfl (by decide) (λ_ _ _=>zd) (λ_ _ _=>rfl) λα5 τ5 γ5=>?_)
 dsimp only[lw_r5X]
 rw[Rv]
 have eW2:=vJ (Xy K b v.a0 ⟨216,77,216,106⟩)
 have hpg:=Xl (K:=K) (b:=bagOf ((lwCd K b v.a0,(⟨216,77,216,106⟩:Pos))::(([]:List Frame).map Frame.where_++WK ([3],b)))) (q:=lwPg y) (pos:=⟨216,77,216,106⟩) (λp hp=>dc.hi _ (by rw[<-hcl];exact List.mem_map_of_mem hp)) (by show v.cl.length<=40;lia) hcl0
 let R6:zb:=[(a,listO (rowsArr y.rl) 0),(284,oMem 124 19 m1),(291,oMem 127 32 m2),(l,listO (zArr script) e)]
 have hR6:∀p∈R6,p.2.isFreed=false:=λp hp=>by
  simp only[R6,List.mem_cons,List.not_mem_nil,or_false] at hp
  rcases hp with rfl|rfl|rfl|rfl<;>rfl
 have hpg:=Seg.frame R6 hR6 hpg
 rw[<-eW2] at hpg
 refine Seg.call rfl (Seg.perm (a:=⟨_,_,_,[],_⟩) (List.Perm.swap _ _ _) hpg) ?_
 rintro s ⟨s3,⟨a2,rows,e4,f1,f2,f3,f4⟩⟩
 refine⟨f2,.ok (.ret (.ref a2)),f1,?_⟩
 rw[f3]
 have hpage:rows.map (·.1)=pageP (lwWd script) (lwRm script) ((lwCodes script).map lawTold):=by
  rw[f4]
  show pageP v.wd v.rm (v.cl.map λp=>lawTold p.1)=_
  rw[hwd,hrm,<-hcl,List.map_map]
  rfl
 have hrl:y.rl.map (·.1)=laidOut S tab (lwCodes script) (lwRm script) (lwWd script):=vY _ _ _
 have hans:lawAns S tab script=decide (y.rl.map (·.1)=rows.map (·.1)):=by rw[hrl,hpage];rfl
 have hd:tfB (if y.rl.map (·.1)=rows.map (·.1) then 1 else 0)=decide (y.rl.map (·.1)=rows.map (·.1)):=by
  by_cases h:y.rl.map (·.1)=rows.map (·.1)
  ·rw[if_pos h,decide_eq_true h];rfl
  ·rw[if_neg h,decide_eq_false h];rfl
 refine Seg.fT (K:=K) R5 hR5 (lwS6 K b v.a0 a a2 y.rl rows 0 e4 ⟨216,77,216,106⟩) rfl rfl (λF U=>z0 (.leaf U yH)) _ [0] (λD Z O=>Rp K b v.a0 a a2 y.rl rows 0 e4 ⟨216,77,216,106⟩ D Z O (if y.rl.map (·.1)=rows.map (·.1) then 1 else 0)) (by decide) rfl (by decide) (λ_ _ _=>RX _ _ _ hd) (λ_ _ _=>rfl) λα6 τ6 γ6=>?_
 refine Seg.refl ⟨?_,rfl,a2,rowsArr rows,e4,m1,m2,rfl⟩
 rw[hans,<-hd]
 rfl
end
def chOk(x:Nat):Prop:=x≠10/\isWs x=Unicode.isSpace x
noncomputable def emS:Str:=⟨#[]⟩
structure PcOk (S:Str):Prop where
 ne:S.cps.toList≠[]
 hd:S.cps[0]?≠some 32
 ch:∀x∈S.cps.toList,chOk x
def TxP(p:Str × Str):Prop:=(p.1=spc/\p.2=emS)\/((p.1=spc\/p.1=emS)/\PcOk p.2)
def ctL(tx:List (Str × Str)):List Str:=tx.map λp=>cat p.1 p.2
def zE{x y:Str}(h:x.cps.toList=y.cps.toList):x=y:=by
 obtain⟨x⟩:=x
 obtain⟨y⟩:=y
 exact congrArg Str.mk (Array.toList_inj.mp h)
def zZ(x y:Str):(cat x y).cps.toList=x.cps.toList++y.cps.toList:=by simp[cat]
def TL(x:Str):cat x emS=x:=zE (by rw[zZ];exact List.append_nil _)
def XZ(x:Str):cat emS x=x:=zE (by rw[zZ];rfl)
def vW(tx:List (Str × Str)):txText tx=Txt.join ⟨#[]⟩ (ctL tx):=rfl
def wK{p:Str × Str}(h:TxP p):(cat p.1 p.2=spc↔(p.1=spc/\p.2=emS)):=by
 constructor
 ·intro e
  rcases h with h|⟨h1,h2⟩
  ·exact h
  ·exfalso
   have e2:(cat p.1 p.2).cps.toList=spc.cps.toList:=congrArg (λs:Str=>s.cps.toList) e
   rw[zZ] at e2
   rcases h1 with h1|h1
   ·rw[h1] at e2
    have:=congrArg List.length e2
    have hn:=h2.ne
    cases hq:p.2.cps.toList with
    |nil=>exact hn hq
    |cons a r=>rw[hq] at this;simp[spc] at this
   ·rw[h1] at e2
    have e3:p.2.cps.toList=[32]:=e2
    refine h2.hd ?_
    rw[<-Array.getElem?_toList,e3];rfl
 ·rintro⟨h1,h2⟩
  rw[h1,h2];rfl
def vV{p:Str × Str}(h:TxP p):((cat p.1 p.2).cps[0]?==some 32)=(p.1==spc):=by
 rcases h with ⟨h1,h2⟩|⟨h1,h2⟩
 ·rw[h1,h2];decide
 ·rcases h1 with h1|h1
  ·rw[h1,beq_self_eq_true]
   have:(cat spc p.2).cps[0]?=some 32:=by rw[<-Array.getElem?_toList,zZ];rfl
   rw[this];rfl
  ·rw[h1,XZ]
   have e1:(p.2.cps[0]?==some 32)=false:=by
    have:=h2.hd
    simpa using this
   have e2:(emS==spc)=false:=by decide
   rw[e1,e2]
def Ud{p:Str × Str}(h:TxP p):cat p.1 p.2≠emS:=by
 intro e
 have e2:(cat p.1 p.2).cps.toList=emS.cps.toList:=congrArg (λs:Str=>s.cps.toList) e
 rw[zZ] at e2
 have e3:=List.append_eq_nil_iff.mp e2
 rcases h with ⟨h1,h2⟩|⟨h1,h2⟩
 ·rw[h1] at e3;exact absurd e3.1 (by decide)
 ·exact h2.ne e3.2
def X1(tx:List (Str × Str)):(ctL tx).getLast?=tx.getLast?.map λp=>cat p.1 p.2:=by
 unfold ctL;rw[List.getLast?_map]
def vB(tx:List (Str × Str)):(ctL tx).dropLast=ctL tx.dropLast:=by
 unfold ctL;rw[List.map_dropLast]
def Xa{tx:List (Str × Str)}(h:∀p∈tx,TxP p):rowOf (ctL tx)=txText (norm1 tx):=by
 unfold rowOf norm1
 rw[X1,vW]
 cases hl:tx.getLast? with
 |none=>
  rw[List.getLast?_eq_none_iff] at hl
  subst hl
  rfl
 |some p=>
  have hp:=h p (List.mem_of_getLast? hl)
  have hb:=wK hp
  by_cases hc:p.1=spc/\p.2=emS
  ·have e1:(Option.map (λp:Str × Str=>cat p.1 p.2) (some p)==some ⟨#[32]⟩)=true:=by
    show (some (cat p.1 p.2)==some spc)=true
    rw[hb.mpr hc,beq_self_eq_true]
   have e2:(p.1==spc && p.2==⟨#[]⟩)=true:=by
    rw[hc.1,hc.2];decide
   rw[e1]
   dsimp only
   rw[if_pos e2,vB]
  ·have e1:(Option.map (λp:Str × Str=>cat p.1 p.2) (some p)==some ⟨#[32]⟩)=false:=by
    show (some (cat p.1 p.2)==some spc)=false
    have hn:cat p.1 p.2≠spc:=λe=>hc (hb.mp e)
    simpa using hn
   have e2:¬((p.1==spc && p.2==⟨#[]⟩)=true):=by
    intro e
    rw[Bool.and_eq_true] at e
    exact hc ⟨eq_of_beq e.1,eq_of_beq e.2⟩
   rw[e1]
   dsimp only
   rw[if_neg e2]
def ch32:chOk 32:=⟨by decide,by decide +kernel⟩
def okL(l:List Nat):Prop:=∀x∈l,chOk x
def uU{p:Str × Str}(h:TxP p):okL (p.1.cps.toList++p.2.cps.toList):=by
 intro x hx
 have hs:∀x∈spc.cps.toList,chOk x:=λx hx=>by
  have:x=32:=by simpa [spc] using hx
  subst this;exact ch32
 rcases List.mem_append.mp hx with hx|hx
 ·rcases h with ⟨h1,_⟩|⟨h1|h1,_⟩
  ·rw[h1] at hx;exact hs x hx
  ·rw[h1] at hx;exact hs x hx
  ·rw[h1] at hx;cases hx
 ·rcases h with ⟨_,h2⟩|⟨_,h2⟩
  ·rw[h2] at hx;cases hx
  ·exact h2.ch x hx
def Yz{tx:List (Str × Str)}{p:Str × Str}(h:p∈norm1 tx):p∈tx\/p=(⟨#[]⟩,⟨#[]⟩):=by
 unfold norm1 at h
 cases hl:tx.getLast? with
 |none=>rw[hl] at h;exact .inr (by simpa using h)
 |some q=>
  rw[hl] at h
  dsimp only at h
  split at h
  ·exact .inl (List.dropLast_subset _ h)
  ·exact .inl h
def Wy{tx:List (Str × Str)}(h:∀p∈tx,TxP p):okL (txText tx).cps.toList:=by
 rw[yK]
 intro x hx
 obtain⟨p,hp,hx⟩:=List.mem_flatMap.mp hx
 exact uU (h p hp) x hx
def Y9{tx:List (Str × Str)}(h:∀p∈tx,TxP p):okL (txText (norm1 tx)).cps.toList:=by
 rw[yK]
 intro x hx
 obtain⟨p,hp,hx⟩:=List.mem_flatMap.mp hx
 rcases Yz hp with hp|rfl
 ·exact uU (h p hp) x hx
 ·cases hx
def YZ{T:Str}(h:okL T.cps.toList):T.cps.all Unicode.isSpace=whiteS T:=by
 rw[<-Array.all_toList]
 unfold whiteS
 generalize T.cps.toList=l at h ⊢
 induction l with
 |nil=>rfl
 |cons a r ih=>
  have h1:=h a (.head _)
  have ih:=ih λx hx=>h x (.tail _ hx)
  rw[List.all_cons,List.filter_cons,ih,<-h1.2]
  cases isWs a<;>simp
def wV{D:Type}{l:List D}{x:D}(h:l.getLast?=some x):l.dropLast++[x]=l:=by
 obtain⟨ys,rfl⟩:=List.getLast?_eq_some_iff.mp h
 simp
def U2{n:Int}{tx:List (Str × Str)}{rows:List Str}(h:∀p∈tx,TxP p)(h0:0<=n)(h1:0 < n->rows=[]):nlRows n tx rows=putRow rows n (rowOf (ctL tx)):=by
 rw[Xa h]
 have hw:=YZ (Y9 h)
 have hlen:=z6 (norm1 tx)
 unfold nlRows putRow spB
 generalize txText (norm1 tx)=T at hw hlen ⊢
 rw[hw,<-hlen]
 have hl:T.length=T.cps.toList.length:=by simp[Str.length]
 by_cases hT:T.cps.toList=[]
 ·have hl0:T.length=0:=by rw[hl,hT];rfl
  have hTe:T=emS:=zE hT
  have hws:whiteS T=true:=by rw[hTe];decide
  rw[hl0,hws,hT]
  by_cases hn:n=0
  ·subst hn
   simp only[Int.ofNat_zero,Int.add_zero,gt_iff_lt,Int.lt_irrefl,if_false]
   cases hg:rows.getLast? with
   |none=>simp
   |some l=>
    dsimp only
    rw[hTe,TL,wV hg]
  ·have hp:0 < n:=by lia
   rw[h1 hp]
   have e1:n+((0:Nat):Int) > 0:=by lia
   have e2:(n==0)=false:=by simpa using hn
   rw[if_pos e1,e2]
   simp[hp]
 ·have hl1:0 < T.length:=by
   rw[hl]
   cases hc:T.cps.toList with
   |nil=>exact absurd hc hT
   |cons a r=>simp
  have e1:n+(T.length:Int) > 0:=by lia
  have e3:decide (T.length > 0)=true:=decide_eq_true hl1
  have e4:(T.cps.toList != [])=true:=by simpa using hT
  rw[if_pos e1,e3,e4,Bool.true_and,Bool.or_true]
  by_cases hn:n=0
  ·subst hn
   rw[beq_self_eq_true,Bool.true_and]
   cases hwt:whiteS T with
   |false=>
    rw[if_neg (by decide)]
    cases rows.getLast?<;>rfl
   |true=>
    rw[if_pos rfl]
    cases hg:rows.getLast? with
    |none=>
     rw[List.getLast?_eq_none_iff] at hg
     subst hg;rfl
    |some l=>rfl
  ·have hp:0 < n:=by lia
   rw[h1 hp]
   have e2:(n==0)=false:=by simpa using hn
   rw[e2,Bool.false_and,if_neg (by decide)]
   rfl
theorem wz:∀(k:Nat) (a:List Str) (x:Str),bkFrom k (a++[x])=bkFrom k a++(match x.cps[0]?==some 32 with|true=>[k+a.length]|false=>[])
 |k,[],x=>by
  show bkFrom k [x]=_
  unfold bkFrom
  cases x.cps[0]?==some 32<;>simp[bkFrom]
 |k,p::r,x=>by
  rw[List.cons_append]
  unfold bkFrom
  rw[wz (k+1) r x,show k+1+r.length=k+(p::r).length by rw[List.length_cons];lia]
  cases p.cps[0]?==some 32<;>rfl
theorem xk{F G:Nat->Str}:∀(m:Nat),(∀i,i<=m->F i=G i)->findBk F m=findBk G m
 |0,_=>rfl
 |m+1,h=>by
  unfold findBk
  rw[h (m+1) (Nat.le_refl _),xk m λi hi=>h i (by lia)]
def VJ(p0:Str × Str):∀(m:Nat) (q:List (Str × Str)),q.length=m->(∀p∈q,TxP p)->(bkFrom 1 (ctL q)).getLast?=findBk (fwsAt (p0::q)) m:=by
 intro m
 induction m with
 |zero=>
  rintro q hq _
  have:q=[]:=List.length_eq_zero_iff.mp hq
  subst this;rfl
 |succ m IH=>
  rintro q hq h
  obtain⟨q',x,rfl⟩:∃q' x,q=q'++[x]:=by
   have hne:q≠[]:=λe=>by rw[e] at hq;cases hq
   exact⟨q.dropLast,q.getLast hne,(List.dropLast_concat_getLast hne).symm⟩
  have hm:q'.length=m:=by simpa using hq
  have ih:=IH q' hm λp hp=>h p (List.mem_append_left _ hp)
  have e1:ctL (q'++[x])=ctL q'++[cat x.1 x.2]:=by unfold ctL;simp
  have e2:fwsAt (p0::(q'++[x])) (m+1)=x.1:=by
   unfold fwsAt
   rw[List.getElem?_cons_succ,<-hm,List.getElem?_append_right (Nat.le_refl _),Nat.sub_self];rfl
  have e3:findBk (fwsAt (p0::(q'++[x]))) m=findBk (fwsAt (p0::q')) m:=xk m λi hi=>by
   unfold fwsAt
   rw[show p0::(q'++[x])=(p0::q')++[x] from rfl,List.getElem?_append_left (by rw[List.length_cons];lia)]
  rw[e1,wz,vV (h x (by simp))]
  unfold findBk
  rw[e2,e3,<-ih]
  have e4:(ctL q').length=m:=by unfold ctL;rw[List.length_map,hm]
  rw[e4,Nat.add_comm 1 m]
  cases hx:(x.1==spc) with
  |true=>simp
  |false=>simp
inductive Tell (S:Nat->Int->Bool) (tab:Int->Option Str) (c:Nat):Prop where
 |nl (h:c4P c=true) (t:lawTold c=⟨#[10]⟩)
 |bl (h:c4P c=false) (h2:c11P c=true) (t:lawTold c=spc)
 |no (h:c4P c=false) (h2:c11P c=false) (h3:S 29 c=true) (t:lawTold c=emS)
 |ch (h:c4P c=false) (h2:c11P c=false) (h3:S 29 c=false) (t:lawTold c=cat (if barP S c then spc else emS) (b3P tab c)) (ok:PcOk (b3P tab c))
structure Inv (z:LnSt) (s:PS):Prop where
 room:s.room=z.n
 n0:0<=z.n
 line:s.line=ctL z.tx
 rows:s.rows=z.rows
 first:0 < z.n->z.rows=[]
 tx:∀p∈z.tx,TxP p
 free:∀r∈z.rows,10∉r.cps.toList
def W7(tx:List (Str × Str)):((lensSum (ctL tx):Nat):Int)=txLen tx:=by
 rw[<-vr,<-z6];rfl
def vj{n:Int}{tx:List (Str × Str)}{rows:List Str}(h:∀p∈tx,TxP p)(hr:∀r∈rows,10∉r.cps.toList):∀r∈nlRows n tx rows,10∉r.cps.toList:=by
 have ht:10∉(txText (norm1 tx)).cps.toList:=λhx=>(Y9 h 10 hx).1 rfl
 unfold nlRows
 split
 ·split
  ·cases hg:rows.getLast? with
   |none=>intro r hm;dsimp only at hm;rw[List.mem_singleton] at hm;subst hm;exact ht
   |some R=>
    intro r hm
    dsimp only at hm
    rcases List.mem_append.mp hm with hm|hm
    ·exact hr r (List.dropLast_subset _ hm)
    ·rw[List.mem_singleton] at hm
     subst hm
     rw[zZ]
     intro hx
     rcases List.mem_append.mp hx with hx|hx
     ·exact hr R (List.mem_of_getLast? hg) hx
     ·exact ht hx
  ·intro r hm
   rcases List.mem_append.mp hm with hm|hm
   ·exact hr r hm
   ·rw[List.mem_singleton] at hm;subst hm;exact ht
 ·exact hr
def xz{z:LnSt}{s:PS}(I:Inv z s):s.rows=z.rows/\putRow s.rows s.room (rowOf s.line)=nlRows z.n z.tx z.rows:=by
 refine⟨I.rows,?_⟩
 rw[I.rows,I.room,I.line,U2 I.tx I.n0 I.first]
def Vi{F S:Str}(hF:F=spc\/F=emS)(hS:PcOk S):heldP (cat F S)=cat spc S:=by
 have hh:=vV (p:=(F,S)) (.inr ⟨hF,hS⟩)
 unfold heldP
 dsimp only at hh
 rw[hh]
 rcases hF with rfl|rfl
 ·rw[beq_self_eq_true]
 ·have e:(emS==spc)=false:=by decide
  rw[e,XZ];rfl
def v8{S:Nat->Int->Bool}{tab:Int->Option Str}{wd:Int}{c:Nat}{z:LnSt}{s:PS}(h:Tell S tab c)(I:Inv z s):Inv (signStep S tab wd z c) (pageStep wd s (lawTold c)):=by
 cases h with
 |nl h t=>
  unfold signStep pageStep
  rw[if_pos h,t]
  obtain⟨h1,h2⟩:=xz I
  show Inv _ (flushP [] s)
  unfold flushP
  rw[h2]
  exact⟨rfl,Int.le_refl _,rfl,rfl,λh=>absurd h (Int.lt_irrefl 0),λp hp=>(by cases hp),vj I.tx I.free⟩
 |bl h h2 t=>
  unfold signStep pageStep
  rw[if_neg (by rw[h];decide),if_pos h2,t]
  show Inv _ { s with line:=s.line++[spc] }
  refine⟨I.room,I.n0,?_,I.rows,I.first,λp hp=>?_,I.free⟩
  ·show s.line++[spc]=ctL (z.tx++[(spc,⟨#[]⟩)])
   rw[I.line];unfold ctL;rw[List.map_append];rfl
  ·rcases List.mem_append.mp hp with hp|hp
   ·exact I.tx p hp
   ·rw[List.mem_singleton] at hp;subst hp;exact .inl ⟨rfl,rfl⟩
 |no h h2 h3 t=>
  unfold signStep pageStep
  rw[if_neg (by rw[h];decide),if_neg (by rw[h2];decide),if_pos h3,t]
  exact I
 |ch h h2 h3 t ok=>
  have hF:(if barP S c then spc else (⟨#[]⟩:Str))=spc\/(if barP S c then spc else (⟨#[]⟩:Str))=emS:=by
   cases barP S c
   ·exact .inr rfl
   ·exact .inl rfl
  unfold signStep
  rw[if_neg (by rw[h];decide),if_neg (by rw[h2];decide),if_neg (by rw[h3];decide),t]
  show Inv (chunkP wd z (if barP S c then spc else ⟨#[]⟩) (b3P tab c)) (pageStep wd s (cat (if barP S c then spc else ⟨#[]⟩) (b3P tab c)))
  generalize (if barP S c then spc else (⟨#[]⟩:Str))=F at hF ⊢
  generalize b3P tab c=X at ok ⊢
  have hp:TxP (F,X):=.inr ⟨hF,ok⟩
  have hX:X≠emS:=λe=>ok.ne (by rw[e];rfl)
  have t1:((cat F X).cps.toList==[])=false:=by
   cases hq:(cat F X).cps.toList with
   |nil=>exact absurd (zE hq) (Ud hp)
   |cons a r=>rfl
  have t2:((cat F X).cps.toList != [10])=true:=by
   have:(cat F X).cps.toList≠[10]:=λe=>(uU hp 10 (by rw[<-zZ,e];exact .head _)).1 rfl
   simpa using this
  have t3:((cat F X).cps.toList==[32])=false:=by
   have:(cat F X).cps.toList≠[32]:=λe=>hX ((wK hp).mp (zE e)).2
   simpa using this
  have hall:∀p∈z.tx++[(F,X)],TxP p:=λp hm=>by
   rcases List.mem_append.mp hm with hm|hm
   ·exact I.tx p hm
   ·rw[List.mem_singleton] at hm;subst hm;exact hp
  have hline:s.line++[cat F X]=ctL (z.tx++[(F,X)]):=by rw[I.line];unfold ctL;rw[List.map_append];rfl
  unfold pageStep chunkP
  rw[t1,t2,t3,Bool.false_or,I.room,hline,W7]
  dsimp only
  by_cases hw:z.n+txLen (z.tx++[(F,X)]) > wd
  ·have hd:decide (z.n+txLen (z.tx++[(F,X)])<=wd)=false:=decide_eq_false (by lia)
   rw[if_pos hw,hd]
   dsimp only
   have hbk:(bkFrom 1 (ctL (z.tx++[(F,X)])).tail).getLast?=findBk (fwsAt (z.tx++[(F,X)])) z.tx.length:=by
    cases hz:z.tx with
    |nil=>rfl
    |cons p0 q=>
     have e1:(ctL (p0::q++[(F,X)])).tail=ctL (q++[(F,X)]):=rfl
     rw[e1]
     refine(VJ p0 (q++[(F,X)]).length (q++[(F,X)]) rfl λp hm=>hall p (by rw[hz];exact .tail _ hm)).trans ?_
     rw[List.length_append,List.length_singleton,List.length_cons];rfl
   rw[hbk]
   cases hfb:findBk (fwsAt (z.tx++[(F,X)])) z.tx.length with
   |some j=>
    dsimp only
    have ht:ctL (z.tx++[(F,X)])=ctL ((z.tx++[(F,X)]).take j)++ctL ((z.tx++[(F,X)]).drop j):=by
     unfold ctL;rw[<-List.map_append,List.take_append_drop]
    have hd1:(ctL (z.tx++[(F,X)])).drop j=ctL ((z.tx++[(F,X)]).drop j):=by unfold ctL;rw[List.map_drop]
    have ht1:(ctL (z.tx++[(F,X)])).take j=ctL ((z.tx++[(F,X)]).take j):=by unfold ctL;rw[List.map_take]
    refine⟨rfl,Int.le_refl _,hd1,?_,λh=>absurd h (Int.lt_irrefl 0),λp hm=>hall p (List.mem_of_mem_drop hm),λr hm=>?_⟩
    ·show s.rows++[Txt.join ⟨#[]⟩ ((ctL (z.tx++[(F,X)])).take j)]=_
     rw[I.rows,ht1];rfl
    ·rcases List.mem_append.mp hm with hm|hm
     ·exact I.free r hm
     ·rw[List.mem_singleton] at hm
      subst hm
      exact λhx=>(Wy (λp hp=>hall p (List.mem_of_mem_take hp)) 10 hx).1 rfl
   |none=>
    dsimp only
    by_cases hn:z.n=0
    ·have e1:(z.n==0)=true:=by rw[hn];rfl
     rw[e1,if_neg (by lia)]
     exact⟨rfl,I.n0,rfl,I.rows,I.first,hall,I.free⟩
    ·have e1:(z.n==0)=false:=by simpa using hn
     have hn0:=I.n0
     rw[e1,if_pos (by lia)]
     dsimp only
     obtain⟨h1,h2⟩:=xz I
     unfold flushP
     rw[h2,Vi hF ok]
     refine⟨rfl,Int.le_refl _,rfl,rfl,λh=>absurd h (Int.lt_irrefl 0),λp hm=>?_,vj I.tx I.free⟩
     rw[List.mem_singleton] at hm
     subst hm
     exact .inr ⟨.inl rfl,ok⟩
  ·have hd:decide (z.n+txLen (z.tx++[(F,X)])<=wd)=true:=decide_eq_true (by lia)
   rw[if_neg hw,hd]
   exact⟨rfl,I.n0,rfl,I.rows,I.first,hall,I.free⟩
theorem V6:∀{x y X Y:List Nat},10∉x->10∉y->x++10::X=y++10::Y->x=y/\X=Y
 |[],[],_,_,_,_,h=>⟨rfl,(List.cons.inj h).2⟩
 |[],b::y,_,_,_,h2,h=>absurd (List.cons.inj h).1 λe=>h2 (e▸.head _)
 |a::x,[],_,_,h1,_,h=>absurd (List.cons.inj h).1 λe=>h1 (e▸.head _)
 |a::x,b::y,_,_,h1,h2,h=>by
  obtain⟨e1,e2⟩:=List.cons.inj h
  obtain⟨e3,e4⟩:=V6 (λq=>h1 (.tail _ q)) (λq=>h2 (.tail _ q)) e2
  exact⟨by rw[e1,e3],e4⟩
def yX(x y:Str)(r:List Str):(Str.join sNL (x::y::r)).cps.toList=x.cps.toList++10::(Str.join sNL (y::r)).cps.toList:=by
 show (x++sNL++Str.join sNL (y::r)).cps.toList=_
 show ((x.cps++sNL.cps)++(Str.join sNL (y::r)).cps).toList=_
 simp[sNL]
theorem uu:∀(A B:List Str),A≠[]->B≠[]->(∀r∈A,10∉r.cps.toList)->(∀r∈B,10∉r.cps.toList)->(Str.join sNL A).cps.toList=(Str.join sNL B).cps.toList->A=B
 |[],_,h,_,_,_,_=>absurd rfl h
 | _::_,[],_,h,_,_,_=>absurd rfl h
 |[x],[y],_,_,_,_,e=>by rw[zE (x:=x) (y:=y) e]
 |[x],y::z::r,_,_,hA,_,e=>by
  rw[yX] at e
  have e:x.cps.toList=y.cps.toList++10::_:=e
  exact absurd (show 10∈x.cps.toList by rw[e];simp) (hA x (.head _))
 |x::z::r,[y],_,_,_,hB,e=>by
  rw[yX] at e
  have e:x.cps.toList++10::_=y.cps.toList:=e
  exact absurd (show 10∈y.cps.toList by rw[<-e];simp) (hB y (.head _))
 |x::x'::r,y::y'::r',_,_,hA,hB,e=>by
  rw[yX,yX] at e
  obtain⟨e1,e2⟩:=V6 (hA x (.head _)) (hB y (.head _)) e
  rw[zE e1,uu (x'::r) (y'::r') (by simp) (by simp) (λq hq=>hA q (.tail _ hq)) (λq hq=>hB q (.tail _ hq)) e2]
def uV{A:List Str}(h0:A≠[])(h:∀r∈A,10∉r.cps.toList):Txt.split (Txt.join sNL A) sNL=A:=by
 have ej:Txt.join sNL A=Str.join sNL A:=StrLaws.glued_eq_join sNL A
 have hs:Str.join sNL (Txt.split (Txt.join sNL A) sNL)=Txt.join sNL A:=StrLaws.join_split _ _
 have hf:∀p∈Txt.split (Txt.join sNL A) sNL,10∉p.cps.toList:=StrLaws.split_free _ _
 have hn:Txt.split (Txt.join sNL A) sNL≠[]:=λe=>by
  rw[e] at hs
  have e2:Txt.join sNL A=emS:=hs.symm
  rw[e2] at e
  exact absurd e (by decide)
 exact uu _ A hn h0 hf h (by rw[hs,ej])
theorem uv{S:Nat->Int->Bool}{tab:Int->Option Str}{wd:Int}:∀(cs:List Nat) (z:LnSt) (s:PS),(∀c∈cs,Tell S tab c)->Inv z s->Inv (cs.foldl (signStep S tab wd) z) ((cs.map lawTold).foldl (pageStep wd) s)
 |[],_,_,_,I=>I
 |c::cs,z,s,h,I=>by
  have I2:Inv (signStep S tab wd z c) (pageStep wd s (lawTold c)):=v8 (h c (.head _)) I
  rw[List.map_cons,List.foldl_cons,List.foldl_cons]
  exact uv cs (signStep S tab wd z c) (pageStep wd s (lawTold c)) (λd hd=>h d (.tail _ hd)) I2
def Some'(z:LnSt):Prop:=z.rows≠[]\/∃p∈z.tx,p.2≠emS
def VY{n:Int}{tx:List (Str × Str)}{rows:List Str}(h0:0<=n)(h:rows≠[]\/∃p∈tx,p.2≠emS):nlRows n tx rows≠[]:=by
 unfold nlRows
 by_cases hc:n+txLen (norm1 tx) > 0
 ·rw[if_pos hc]
  split
  ·cases rows.getLast?<;>simp
  ·simp
 ·rw[if_neg hc]
  rcases h with h|⟨p,hp,h2⟩
  ·exact h
  ·exfalso
   have hm:p∈norm1 tx:=by
    unfold norm1
    cases hl:tx.getLast? with
    |none=>
     rw[List.getLast?_eq_none_iff] at hl
     subst hl;cases hp
    |some q=>
     dsimp only
     split
     ·rename_i hq
      have e:=wV hl
      rw[<-e] at hp
      rcases List.mem_append.mp hp with hp|hp
      ·exact hp
      ·rw[List.mem_singleton] at hp
       subst hp
       rw[Bool.and_eq_true] at hq
       exact absurd (eq_of_beq hq.2) h2
     ·exact hp
   have hlen:0 < p.2.length:=by
    rcases Nat.eq_zero_or_pos p.2.length with e|e
    ·exfalso
     refine h2 (zE ?_)
     have:p.2.cps.toList.length=0:=by simpa [Str.length] using e
     exact List.length_eq_zero_iff.mp this
    ·exact e
   obtain⟨a,b,hab⟩:=List.append_of_mem hm
   rw[hab,zw] at hc
   have e1:txLen (p::b)=((p.1.length:Int)+p.2.length)+txLen b:=by simp[txLen]
   have:=zs a
   have:=zs b
   lia
def wP{S:Nat->Int->Bool}{tab:Int->Option Str}{wd:Int}{c:Nat}{z:LnSt}{s:PS}(h:Tell S tab c)(I:Inv z s)(J:Some' z\/(c4P c=false/\c11P c=false/\S 29 c=false)):Some' (signStep S tab wd z c):=by
 cases h with
 |nl h t=>
  have J:Some' z:=J.elim id λq=>by rw[h] at q;cases q.1
  unfold signStep
  rw[if_pos h]
  exact .inl (VY I.n0 J)
 |bl h h2 t=>
  have J:Some' z:=J.elim id λq=>by rw[h2] at q;cases q.2.1
  unfold signStep
  rw[if_neg (by rw[h];decide),if_pos h2]
  rcases J with J|⟨p,hp,J⟩
  ·exact .inl J
  ·exact .inr ⟨p,List.mem_append_left _ hp,J⟩
 |no h h2 h3 t=>
  have J:Some' z:=J.elim id λq=>by rw[h3] at q;cases q.2.2
  unfold signStep
  rw[if_neg (by rw[h];decide),if_neg (by rw[h2];decide),if_pos h3]
  exact J
 |ch h h2 h3 t ok=>
  unfold signStep
  rw[if_neg (by rw[h];decide),if_neg (by rw[h2];decide),if_neg (by rw[h3];decide)]
  generalize (if barP S c then spc else (⟨#[]⟩:Str))=F
  generalize b3P tab c=X at ok ⊢
  have hX:X≠emS:=λe=>ok.ne (by rw[e];rfl)
  unfold chunkP
  split
  ·split
   ·exact .inl (by simp)
   ·split
    ·exact .inr ⟨_,.head _,hX⟩
    ·exact .inr ⟨(F,X),by simp,hX⟩
  ·exact .inr ⟨(F,X),by simp,hX⟩
theorem w0{S:Nat->Int->Bool}{tab:Int->Option Str}{wd:Int}:∀(cs:List Nat) (z:LnSt) (s:PS),(∀c∈cs,Tell S tab c)->Inv z s->(Some' z\/∃c∈cs,c4P c=false/\c11P c=false/\S 29 c=false)->Some' (cs.foldl (signStep S tab wd) z)
 |[],_,_,_,_,J=>J.elim id λ⟨c,hc,_⟩=>(by cases hc)
 |c::cs,z,s,h,I,J=>by
  have I2:Inv (signStep S tab wd z c) (pageStep wd s (lawTold c)):=v8 (h c (.head _)) I
  rw[List.foldl_cons]
  refine w0 cs (signStep S tab wd z c) (pageStep wd s (lawTold c)) (λd hd=>h d (.tail _ hd)) I2 ?_
  rcases J with J|⟨d,hd,J⟩
  ·exact .inl (wP (h c (.head _)) I (.inl J))
  ·rcases List.mem_cons.mp hd with rfl|hd
   ·exact .inl (wP (h d (.head _)) I (.inr J))
   ·exact .inr ⟨d,hd,J⟩
def Yu{S:Nat->Int->Bool}{tab:Int->Option Str}{wd rm:Int}{cs:List Nat}(h:∀c∈cs,Tell S tab c)(hs:∃c∈cs,c4P c=false/\c11P c=false/\S 29 c=false)(h0:0<=rm):laidOut S tab cs rm wd=pageP wd rm (cs.map lawTold):=by
 have I0:Inv ⟨rm,[],[]⟩ ⟨[],[],rm⟩:=⟨rfl,h0,rfl,rfl,λ_=>rfl,λp hp=>(by cases hp),λr hr=>(by cases hr)⟩
 have I:=uv (wd:=wd) cs _ _ h I0
 have J:=w0 (wd:=wd) cs _ _ h I0 (.inr hs)
 have hl:laidRows S tab cs rm wd=nlRows (cs.foldl (signStep S tab wd) ⟨rm,[],[]⟩).n (cs.foldl (signStep S tab wd) ⟨rm,[],[]⟩).tx (cs.foldl (signStep S tab wd) ⟨rm,[],[]⟩).rows:=rfl
 have hp:pageP wd rm (cs.map lawTold)=nlRows (cs.foldl (signStep S tab wd) ⟨rm,[],[]⟩).n (cs.foldl (signStep S tab wd) ⟨rm,[],[]⟩).tx (cs.foldl (signStep S tab wd) ⟨rm,[],[]⟩).rows:=by
  unfold pageP
  rw[List.foldl_append]
  generalize (cs.map lawTold).foldl (pageStep wd) ⟨[],[],rm⟩=s at I ⊢
  obtain⟨h1,h2⟩:=xz I
  rw[<-h2]
  rfl
 rw[hp]
 unfold laidOut
 rw[hl]
 exact uV (VY I.n0 J) (vj I.tx I.free)
noncomputable def seM(l:List (Int × Value))(k:Int):Bool:=l.any λe=>Value.isInt k e.2
def hS(n:Nat)(k:Int):Bool:=seM (match n with
 |29=>seL29
 |101=>seL101
 |113=>seL113
 |137=>seL137
 | _=>seL155) k
def hTab(k:Int):Option Str:=(dL.find? λp=>p.1==k).map (·.2)
def pcB(S:Str):Bool:=S.cps.toList != [] && S.cps[0]? != some 32 && S.cps.toList.all λx=>x != 10 && (isWs x==Unicode.isSpace x)
noncomputable def skB(S:Str):Bool:=match S.cps.toList with
 |[a]=>a != 32
 |[_,b]=>b != 32
 |[_,_,c]=>c != 32
 | _=>false
def tellB(c:Nat):Bool:=match c4P c with
 |true=>(lawTold c).cps.toList==[10]
 |false=>match c11P c with
  |true=>(lawTold c).cps.toList==[32]
  |false=>match hS 29 c with
   |true=>(lawTold c).cps.toList==[]
   |false=>(lawTold c).cps.toList==(match barP hS c with|true=>32::(b3P hTab c).cps.toList|false=>(b3P hTab c).cps.toList) && pcB (b3P hTab c) && skB (b3P hTab c)
noncomputable def cdQ:List (Nat × Nat):=[(97,26),(65,26),(64256,7),(32,1),(160,1),(8287,1),(64976,32),(31,3),(172,3),(831,4),(846,3),(6149,3),(6154,5),(8202,7),(8233,7),(8287,3),(8297,8),(12271,14),(64975,34),(65023,18),(65278,3),(65528,8),(917504,3),(917535,98)]++(List.range 17).map λk=>(65533+65536*k,3)
noncomputable def rgB(f:Nat->Bool)(a:Nat):Nat->Bool
 |0=>true
 |n+1=>match f a with
  |true=>rgB f (a+1) n
  |false=>false
theorem zM(f:Nat->Bool):∀(n a m:Nat),rgB f a n=true->rgB f (a+n) m=true->rgB f a (n+m)=true
 |0,a,m,_,h=>by rw[Nat.zero_add];exact h
 |n+1,a,m,h,k=>by
  rw[Nat.succ_add]
  unfold rgB at h ⊢
  cases e:f a with
  |false=>rw[e] at h;cases h
  |true=>
   rw[e] at h
   exact zM f n (a+1) m h (by rw[Nat.add_right_comm];exact k)
def SL:rgB tellB 97 17=true:=by kernel_rfl
def SJ:rgB tellB 114 9=true:=by kernel_rfl
def td0:rgB tellB 97 26=true:=(zM tellB 17 97 9 SL SJ)
def SI:rgB tellB 65 17=true:=by kernel_rfl
def SH:rgB tellB 82 9=true:=by kernel_rfl
def td1:rgB tellB 65 26=true:=(zM tellB 17 65 9 SI SH)
def SG:rgB tellB 64256 7=true:=by kernel_rfl
def SF:rgB tellB 32 1=true:=by kernel_rfl
def SE:rgB tellB 160 1=true:=by kernel_rfl
def SD:rgB tellB 8287 1=true:=by kernel_rfl
def SB:rgB tellB 64976 17=true:=by kernel_rfl
def SA:rgB tellB 64993 15=true:=by kernel_rfl
def td6:rgB tellB 64976 32=true:=(zM tellB 17 64976 15 SB SA)
def Sz:rgB tellB 31 3=true:=by kernel_rfl
def Sy:rgB tellB 172 3=true:=by kernel_rfl
def Sx:rgB tellB 831 4=true:=by kernel_rfl
def Uy:rgB tellB 846 3=true:=by kernel_rfl
def Ux:rgB tellB 6149 3=true:=by kernel_rfl
def Uw:rgB tellB 6154 5=true:=by kernel_rfl
def Uv:rgB tellB 8202 7=true:=by kernel_rfl
def Uu:rgB tellB 8233 7=true:=by kernel_rfl
def Ut:rgB tellB 8287 3=true:=by kernel_rfl
def Us:rgB tellB 8297 8=true:=by kernel_rfl
def Ur:rgB tellB 12271 14=true:=by kernel_rfl
def Uq:rgB tellB 64975 17=true:=by kernel_rfl
def Up:rgB tellB 64992 17=true:=by kernel_rfl
def td18:rgB tellB 64975 34=true:=(zM tellB 17 64975 17 Uq Up)
def Uo:rgB tellB 65023 17=true:=by kernel_rfl
def Un:rgB tellB 65040 1=true:=by kernel_rfl
def td19:rgB tellB 65023 18=true:=(zM tellB 17 65023 1 Uo Un)
def Um:rgB tellB 65278 3=true:=by kernel_rfl
def Ul:rgB tellB 65528 8=true:=by kernel_rfl
def Uk:rgB tellB 917504 3=true:=by kernel_rfl
def Uj:rgB tellB 917535 17=true:=by kernel_rfl
def Ui:rgB tellB 917552 17=true:=by kernel_rfl
def Uh:rgB tellB 917569 17=true:=by kernel_rfl
def Ug:rgB tellB 917586 17=true:=by kernel_rfl
def Uf:rgB tellB 917603 17=true:=by kernel_rfl
def Ue:rgB tellB 917620 13=true:=by kernel_rfl
def td23:rgB tellB 917535 98=true:=(zM tellB 17 917535 81 Uj (zM tellB 17 917552 64 Ui (zM tellB 17 917569 47 Uh (zM tellB 17 917586 30 Ug (zM tellB 17 917603 13 Uf Ue)))))
def tz0:(((List.range 9).map λk=>(65533+65536*k,3)).all λp=>rgB tellB p.1 p.2)=true:=by kernel_rfl
def tz1:(((List.range 8).map λk=>(65533+65536*(k+9),3)).all λp=>rgB tellB p.1 p.2)=true:=by kernel_rfl
def tz2:((List.range 17).map λk=>(65533+65536*k,3))=((List.range 9).map λk=>(65533+65536*k,3))++((List.range 8).map λk=>(65533+65536*(k+9),3)):=by kernel_rfl
def SM:(cdQ.all λp=>rgB tellB p.1 p.2)=true:=by
 unfold cdQ
 rw[tz2,List.all_append,List.all_append,tz0,tz1,Bool.and_true,Bool.and_true]
 simp only[List.all_cons,List.all_nil,Bool.and_true,td0,td1,SG,SF,SE,SD,td6,Sz,Sy,Sx,Uy,Ux,Uw,Uv,Uu,Ut,Us,Ur,td18,td19,Um,Ul,Uk,td23]
theorem Xb{f:Nat->Bool}:∀{n a c:Nat},rgB f a n=true->a<=c->c < a+n->f c=true
 |0,a,c,_,h1,h2=>by lia
 |n+1,a,c,h,h1,h2=>by
  unfold rgB at h
  split at h
  ·rename_i hf
   rcases Nat.eq_or_lt_of_le h1 with e|e
   ·rw[<-e];exact hf
   ·exact Xb h (by lia) (by lia)
  ·cases h
def InR(c:Nat):Prop:=∃p∈cdQ,p.1<=c/\c < p.1+p.2
def Zn{c:Nat}(h:InR c):tellB c=true:=by
 obtain⟨p,hp,h1,h2⟩:=h
 have:=List.all_eq_true.mp SM p hp
 exact Xb this h1 h2
def UZ{S:Str}(h:pcB S=true):PcOk S:=by
 unfold pcB at h
 simp only[Bool.and_eq_true,bne_iff_ne,ne_eq,List.all_eq_true,beq_iff_eq] at h
 exact⟨h.1.1,h.1.2,λx hx=>h.2 x hx⟩
def UG{S:Str}(h:skB S=true):∃sk:SK,S=sk.str/\(sk≠.s0->sk.last≠32):=by
 have go:∀l:List Nat,S.cps.toList=l->(match l with|[a]=>a != 32|[_,b]=>b != 32|[_,_,c]=>c != 32 | _=>false)=true->∃sk:SK,S=sk.str/\(sk≠.s0->sk.last≠32):=λl e h=>by
  cases l with
  |nil=>cases h
  |cons a l=>
   cases l with
   |nil=>exact⟨.s1 a,zE e,λ_=>by simpa [SK.last] using h⟩
   |cons b l=>
    cases l with
    |nil=>exact⟨.s2 a b,zE e,λ_=>by simpa [SK.last] using h⟩
    |cons c l=>
     cases l with
     |nil=>exact⟨.s3 a b c,zE e,λ_=>by simpa [SK.last] using h⟩
     |cons d l=>cases h
 exact go _ rfl h
def Zm{c:Nat}(h:tellB c=true):Tell hS hTab c/\SignQ hS hTab c:=by
 unfold tellB at h
 cases h1:c4P c with
 |true=>
  rw[h1] at h
  exact⟨.nl h1 (zE (by simpa using h)),λg=>by rw[h1] at g;cases g⟩
 |false=>
  rw[h1] at h
  cases h2:c11P c with
  |true=>
   rw[h2] at h
   exact⟨.bl h1 h2 (zE (by simpa [spc] using h)),λ_ g=>by rw[h2] at g;cases g⟩
  |false=>
   rw[h2] at h
   cases h3:hS 29 c with
   |true=>
    rw[h3] at h
    exact⟨.no h1 h2 h3 (zE (by simpa [emS] using h)),λ_ _ g=>by rw[h3] at g;cases g⟩
   |false=>
    rw[h3] at h
    simp only[Bool.and_eq_true] at h
    obtain⟨⟨ht,hp⟩,hk⟩:=h
    refine⟨.ch h1 h2 h3 (zE ?_) (UZ hp),λ_ _ _=>UG hk⟩
    have ht:=eq_of_beq ht
    rw[ht,zZ]
    cases barP hS c<;>rfl
def XQ{c a n:Nat}(hm:(a,n)∈cdQ)(h1:a<=c)(h2:c < a+n):InR c:=⟨_,hm,h1,h2⟩
def Sg{r:Int}{a n:Nat}(hm:(a,n)∈cdQ)(h:0<=r/\r < n):0<=(a:Int)+r/\InR ((a:Int)+r).toNat:=by
 obtain⟨m,rfl⟩:=Int.eq_ofNat_of_zero_le h.1
 exact⟨Int.natCast_nonneg (a+m),XQ hm (Nat.le_add_right a m) (Nat.add_lt_add_left (Int.ofNat_lt.mp h.2) a)⟩
def inC{a:Nat}(hm:(a,1)∈cdQ):0<=(a:Int)/\InR (a:Int).toNat:=⟨Int.natCast_nonneg a,XQ hm (Nat.le_refl a) (Nat.lt_succ_self a)⟩
def vC(n:Int):0<=lawCodeZ n/\InR (lawCodeZ n).toNat:=by
 unfold lawCodeZ
 generalize n.fdiv 4=p
 split
 ·have hj:=zA p 3 (by decide)
  obtain⟨j,hj'⟩:∃j:Nat,p.fmod 3=j:=⟨_,(Int.toNat_of_nonneg hj.1).symm⟩
  rw[hj',Int.toNat_natCast]
  rw[hj'] at hj
  rcases lt3 j (Int.ofNat_lt.mp hj.2) with rfl|rfl|rfl
  ·exact Sg (a:=97) (n:=26) (by decide) (zA (p.fdiv 3) 26 (by decide))
  ·exact Sg (a:=65) (n:=26) (by decide) (zA (p.fdiv 3) 26 (by decide))
  ·exact Sg (a:=64256) (n:=7) (by decide) (zA (p.fdiv 3) 7 (by decide))
 split
 ·have hj:=zA p 4 (by decide)
  obtain⟨j,hj'⟩:∃j:Nat,p.fmod 4=j:=⟨_,(Int.toNat_of_nonneg hj.1).symm⟩
  rw[hj',Int.toNat_natCast]
  rw[hj'] at hj
  rcases lt4 j (Int.ofNat_lt.mp hj.2) with rfl|rfl|rfl|rfl
  ·exact inC (a:=32) (by decide)
  ·exact inC (a:=32) (by decide)
  ·exact inC (a:=160) (by decide)
  ·exact inC (a:=8287) (by decide)
 split
 ·split
  ·exact Sg (a:=64976) (n:=32) (by decide) (zA (p.fdiv 2) 32 (by decide))
  ·have h2:=zA (p.fdiv 6) 17 (by decide)
   obtain⟨k,hk⟩:∃k:Nat,(p.fdiv 6).fmod 17=k:=⟨_,(Int.toNat_of_nonneg h2.1).symm⟩
   rw[hk] at h2 ⊢
   rw[Int.add_right_comm]
   exact Sg (a:=65533+65536*k) (n:=3) (List.mem_append_right _ (List.mem_map.mpr ⟨k,List.mem_range.mpr (Int.ofNat_lt.mp h2.2),rfl⟩)) (zA (p.fdiv 2) 3 (by decide))
 ·have hj:=zA p 17 (by decide)
  obtain⟨j,hj'⟩:∃j:Nat,p.fmod 17=j:=⟨_,(Int.toNat_of_nonneg hj.1).symm⟩
  rw[hj',Int.toNat_natCast]
  rw[hj'] at hj
  have key:∀a n:Nat,(a,n)∈cdQ->nthI lB3 j=a->nthI lL3 j=n->0 < n->0<=nthI lB3 j+(p.fdiv 17).fmod (nthI lL3 j)/\InR (nthI lB3 j+(p.fdiv 17).fmod (nthI lL3 j)).toNat:=λa n hm e1 e2 hn=>by
   rw[e1,e2]
   exact Sg hm (zA (p.fdiv 17) n (Int.ofNat_lt.mpr hn))
  have hk:∀j,j < 17->((nthI lB3 j).toNat,(nthI lL3 j).toNat)∈cdQ/\0<=nthI lB3 j/\0 < nthI lL3 j:=by decide
  obtain⟨k1,k2,k3⟩:=hk j (Int.ofNat_lt.mp hj.2)
  exact key _ _ k1 (Int.toNat_of_nonneg k2).symm (Int.toNat_of_nonneg (Int.le_of_lt k3)).symm (Int.pos_iff_toNat_pos.mp k3)
def Tp{c:Nat}(h:InR c):c<=1114111:=by
 obtain⟨p,hp,h1,h2⟩:=h
 have:∀p∈cdQ,p.1+p.2<=1114112:=by decide
 exact Nat.le_of_lt_succ (Nat.lt_of_lt_of_le h2 (this p hp))
def Tm{K:Wd}{script:List (Int × Tok)}(h:script.length<=900):LawOk K hS hTab script:=by
 have hc:∀c∈lwCodes script,InR c:=λc hm=>by
  obtain⟨n,_,rfl⟩:=List.mem_map.mp hm
  exact(vC n).2
 refine⟨h,λn _=>(vC n).1,λc hm=>Tp (hc c hm),λc hm=>(Zm (Zn (hc c hm))).2,?_⟩
 have hm:(163:Int)∈lwNums script:=List.mem_append_right _ (by decide)
 have hm2:(lawCodeZ 163).toNat∈lwCodes script:=List.mem_map_of_mem (f:=λn=>(lawCodeZ n).toNat) hm
 have e:¬(lawCodeZ 163).toNat < 128:=by decide
 rw[Bool.eq_false_iff]
 intro ha
 have:=List.all_eq_true.mp ha _ hm2
 exact e (of_decide_eq_true this)
def XJ(script:List (Int × Tok)):lawAns hS hTab script=true:=by
 have hc:∀c∈lwCodes script,InR c:=λc hm=>by
  obtain⟨n,_,rfl⟩:=List.mem_map.mp hm
  exact(vC n).2
 unfold lawAns
 refine decide_eq_true (Yu (λc hm=>(Zm (Zn (hc c hm))).1) ?_ (zA _ 4 (by decide)).1)
 have hm:(4:Int)∈lwNums script:=List.mem_append_right _ (by decide)
 exact⟨_,List.mem_map_of_mem (f:=λn=>(lawCodeZ n).toNat) hm,by decide,by decide,by decide +kernel⟩
def VH(P:Params):TopV where
 av n:=n
 tk t:=t
 se L:=match L with
  |29=>seL29.toArray
  |101=>seL101.toArray
  |113=>seL113.toArray
  |137=>seL137.toArray
  | _=>seL155.toArray
 sp L:=match L with
  |29=>29
  |101=>6
  |113=>13
  |137=>16
  | _=>100
 st L:=match L with
  |29=>stL29 P
  |101=>stL101 P
  |113=>stL113 P
  |137=>stL137 P
  | _=>stL155 P
 de:=deL.toArray
 dp:=650
noncomputable def mrg:X.KT->BT->BT
 | .nil,t=>t
 | .node v l r,.nil=>.node (v.getD default) (mrg l .nil) (mrg r .nil)
 | .node v l r,.node v' l' r'=>.node (match v with|some o=>o|none=>v') (mrg l l') (mrg r r')
theorem xg:∀(k:X.KT) (t:BT) (L:Nat) (o:Obj),k.get L=some o->(mrg k t).get L=some o
 | .nil,_,_,_,h=>by cases h
 | .node v l r,.nil,L,o,h=>by
  unfold mrg
  rw[X.KT.get_node] at h
  rw[BT.get_node]
  by_cases h0:L=0
  ·rw[if_pos h0] at h ⊢;rw[h];rfl
  ·rw[if_neg h0] at h ⊢
   by_cases h1:L % 2=1
   ·rw[if_pos h1] at h ⊢;exact xg l _ _ _ h
   ·rw[if_neg h1] at h ⊢;exact xg r _ _ _ h
 | .node v l r,.node v' l' r',L,o,h=>by
  unfold mrg
  rw[X.KT.get_node] at h
  rw[BT.get_node]
  by_cases h0:L=0
  ·rw[if_pos h0] at h ⊢;rw[h]
  ·rw[if_neg h0] at h ⊢
   by_cases h1:L % 2=1
   ·rw[if_pos h1] at h ⊢;exact xg l _ _ _ h
   ·rw[if_neg h1] at h ⊢;exact xg r _ _ _ h
def Wl(P:Params):mrg (baseT P (VH P)) ((hSt 28).tree P)=(hSt 28).tree P:=by kernel_rfl
noncomputable def ktAll(f:Obj->Bool)(n:Nat):X.KT->Nat->Nat->Bool
 | .nil,_,_=>true
 | .node v l r,a,b=>(match v with|some o=>Nat.blt b n && f o|none=>true) && (ktAll f n l (2*a) (a+b) && ktAll f n r (2*a) (2*a+b))
theorem yW{f:Obj->Bool}{n:Nat}:∀(k:X.KT) (a b L:Nat) (o:Obj),ktAll f n k a b=true->k.get L=some o->b+a*L < n/\f o=true
 | .nil,_,_,_,_,_,h=>by cases h
 | .node v l r,a,b,L,o,hk,h=>by
  have hk:((match (generalizing:=false) v with|some o=>Nat.blt b n && f o|none=>true) && (ktAll f n l (2*a) (a+b) && ktAll f n r (2*a) (2*a+b)))=true:=hk
  rw[Bool.and_eq_true,Bool.and_eq_true] at hk
  obtain⟨h1,h2,h3⟩:=hk
  rw[X.KT.get_node] at h
  by_cases h0:L=0
  ·rw[if_pos h0] at h
   subst h h0
   dsimp only at h1
   rw[Bool.and_eq_true,Nat.blt_eq] at h1
   exact⟨by simpa using h1.1,h1.2⟩
  ·rw[if_neg h0] at h
   by_cases hp:L % 2=1
   ·rw[if_pos hp] at h
    obtain⟨q1,q2⟩:=yW l (2*a) (a+b) (L / 2) o h2 h
    refine⟨?_,q2⟩
    have e:2*(L / 2)+1=L:=by
     have:=Nat.div_add_mod L 2
     rw[hp] at this
     exact this
    rw[<-e,Nat.mul_add,<-Nat.mul_assoc,Nat.mul_comm a 2,Nat.mul_one,Nat.add_comm _ a,<-Nat.add_assoc,Nat.add_comm b a]
    exact q1
   ·rw[if_neg hp] at h
    obtain⟨q1,q2⟩:=yW r (2*a) (2*a+b) (L / 2 - 1) o h3 h
    refine⟨?_,q2⟩
    have e:2*(L / 2 - 1)+2=L:=by
     have h2:=Nat.div_add_mod L 2
     rw[(Nat.mod_two_eq_zero_or_one L).resolve_right hp,Nat.add_zero] at h2
     show 2*(L / 2 - 1+1)=L
     rw[Nat.sub_add_cancel (Nat.pos_of_ne_zero λq=>h0 (by rw[<-h2,q]))]
     exact h2
    rw[<-e,Nat.mul_add,<-Nat.mul_assoc,Nat.mul_comm a 2,Nat.add_comm _ (2*a),<-Nat.add_assoc,Nat.add_comm b (2*a)]
    exact q1
def w8(P:Params):ktAll (λo=>!o.isFreed) 363 (baseT P (VH P)) 1 0=true:=by kernel_rfl
def Wm{P:Params}{L:Nat}{p:Addr × Obj}(h:base P (VH P) L=some p):(hH P).get? p.1=some p.2:=by
 unfold base at h
 cases ho:(baseT P (VH P)).get L with
 |none=>rw[ho] at h;cases h
 |some o=>
  rw[ho] at h
  simp only[Option.some.injEq] at h
  subst h
  have ea:adOf (VH P) L=L:=by unfold adOf;split<;>rfl
  dsimp only
  rw[ea]
  have h1:=xg _ ((hSt 28).tree P) L o ho
  rw[Wl] at h1
  obtain⟨h2,h3⟩:=yW _ 1 0 L o (w8 P) ho
  unfold hH
  rw[abs_get (by lia) h1]
  obtain⟨c,d,dt,sl⟩:=o
  cases dt<;>first|rfl|cases h3
noncomputable def seB(l:List (Int × Value)):Bool:=l.all λe=>match e.2 with
 | .int i _=>e.1==hashInt i
 | _=>false
def UI{l:List (Int × Value)}(h:seB l=true):∀e∈l,(∃k,Value.isInt k e.2=true/\e.1=hashInt k)/\e.2.scannable=true:=λe he=>by
 have:=List.all_eq_true.mp h e he
 obtain⟨a,v⟩:=e
 cases v with
 |int i t=>exact⟨⟨i,beq_self_eq_true i,eq_of_beq this⟩,rfl⟩
 | _=>cases this
def yp{l:List (Int × Value)}{n:Nat}{t:SetTable}{S:Int->Bool}(h:seB l=true)(hS:∀k,S k=seM l k)(hl:l.length < scanBound)(hf:t.fits l.length=true):Obj.IntSet ⟨.type "set", none,.set l.toArray n t,#[]⟩ S:=by
 refine⟨l.toArray,n,t,⟨rfl,rfl,rfl⟩,rfl,UI h,λk=>?_,by rw[List.size_toArray];exact hl,by rw[List.size_toArray];exact hf⟩
 rw[hS]
 unfold seM
 rw[List.any_eq_true]
def fdH(k:Int):Option Value:=findBy Value.isInt deL.toArray k
def uB{t:Nat}{p:Int × Str}{k:Int}:Value.isInt k (enE t p).key=(p.1==k):=rfl
theorem uA:∀(t:Nat) (l:List (Int × Str)) (k:Int),match ((enL t l).find? λe=>Value.isInt k e.key).map (·.val) with
  |none=>(l.find? λp=>p.1==k)=none
  |some v=>∃S df,v=.str S df/\(l.find? λp=>p.1==k).map (·.2)=some S
 | _,[],_=>rfl
 |t,p::l,k=>by
  rw[enL,List.find?_cons,List.find?_cons,uB]
  cases h:p.1==k with
  |true=>exact⟨p.2,t+1,rfl,rfl⟩
  |false=>exact uA (t+3) l k
theorem uz:∀(t:Nat) (l:List (Int × Str)) (k:Int),match ((enV t l).find? λe=>Value.isInt k e.key).map (·.val) with
  |none=>(l.find? λp=>p.1==k)=none
  |some v=>∃S df,v=.str S df/\(l.find? λp=>p.1==k).map (·.2)=some S
 | _,[],_=>rfl
 |t,p::l,k=>by
  rw[enV,List.find?_cons,List.find?_cons,uB]
  cases h:p.1==k with
  |true=>exact⟨p.2,t+1,rfl,rfl⟩
  |false=>exact uz (t+2) l k
def Vm(k:Int):match fdH k with|none=>hTab k=none|some v=>∃S t,v=.str S t/\hTab k=some S:=by
 unfold fdH findBy hTab
 rw[List.find?_toArray]
 have e1:deL=enL 263 (dL.take 646)++enV 2201 (dL.drop 646):=rfl
 have e3:(dL.find? λp=>p.1==k)=((dL.take 646)++(dL.drop 646)).find? (λp=>p.1==k):=by rw[List.take_append_drop]
 have h1:=uA 263 (dL.take 646) k
 have h2:=uz 2201 (dL.drop 646) k
 rw[e1,List.find?_append,e3,List.find?_append]
 generalize (enL 263 (dL.take 646)).find? (λe=>Value.isInt k e.key)=x at h1 ⊢
 generalize (enV 2201 (dL.drop 646)).find? (λe=>Value.isInt k e.key)=y at h2 ⊢
 generalize (dL.take 646).find? (λp=>p.1==k)=df at h1 ⊢
 generalize (dL.drop 646).find? (λp=>p.1==k)=v at h2 ⊢
 cases x with
 |some x=>
  obtain⟨S,t,h3,h4⟩:=h1
  refine⟨S,t,h3,?_⟩
  cases df with
  |none=>cases h4
  |some df=>exact h4
 |none=>
  have h1:df=none:=h1
  subst h1
  cases y with
  |some y=>exact h2
  |none=>
   have h2:v=none:=h2
   subst h2
   rfl
theorem ZP{P:DictEntry->Prop}:∀(t:Nat) (l:List (Int × Str)),(∀t p,P (enE t p))->∀e∈enL t l,P e
 | _,[],_,e,he=>by cases he
 |t,p::l,h,e,he=>by
  rcases List.mem_cons.mp he with rfl|he
  ·exact h t p
  ·exact ZP (t+3) l h e he
theorem ZN{P:DictEntry->Prop}:∀(t:Nat) (l:List (Int × Str)),(∀t p,P (enE t p))->∀e∈enV t l,P e
 | _,[],_,e,he=>by cases he
 |t,p::l,h,e,he=>by
  rcases List.mem_cons.mp he with rfl|he
  ·exact h t p
  ·exact ZN (t+2) l h e he
def Vr:∀e∈deL,∃k,Value.isInt k e.key=true/\e.hash=hashInt k:=λe he=>by
 have hE:∀(t:Nat) (p:Int × Str),∃k,Value.isInt k (enE t p).key=true/\(enE t p).hash=hashInt k:=λt p=>⟨p.1,beq_self_eq_true _,rfl⟩
 rcases List.mem_append.mp he with he|he
 ·exact ZP (P:=λe=>∃k,Value.isInt k e.key=true/\e.hash=hashInt k) _ _ hE e he
 ·exact ZN (P:=λe=>∃k,Value.isInt k e.key=true/\e.hash=hashInt k) _ _ hE e he
def hK(w:World)(b1 b2:Bool)(hw:w=rowW w b1 b2):Wd:=⟨w,b1,b2,VH (rowW w b1 b2).params,hw⟩
def Vj{w:World}{b1 b2:Bool}{hw:w=rowW w b1 b2}:TopOk (hK w b1 b2 hw) hS fdH hTab:=by
 refine⟨yp (l:=seL29) (by kernel_rfl) (λ_=>rfl) (by decide +kernel) (by kernel_rfl),yp (l:=seL101) (by kernel_rfl) (λ_=>rfl) (by decide +kernel) (by kernel_rfl),yp (l:=seL113) (by kernel_rfl) (λ_=>rfl) (by decide +kernel) (by kernel_rfl),
  yp (l:=seL137) (by kernel_rfl) (λ_=>rfl) (by decide +kernel) (by kernel_rfl),yp (l:=seL155) (by kernel_rfl) (λ_=>rfl) (by decide +kernel) (by kernel_rfl),?_,Vm⟩
 refine⟨deL.toArray,650,⟨rfl,rfl,rfl⟩,rfl,λe he=>Vr e (by simpa using he),λk=>rfl⟩
section
variable {K:Wd} {b:Bag} {S:Nat->Int->Bool} {fd:Int->Option Value} {tab:Int->Option Str} (T:TopOk K S fd tab) {script:List (Int × Tok)} (dc:LawOk K S tab script) {l:Addr} {e:Nat}
include T dc
theorem V1{a0 src dct it acc:Addr}{t0 t1:Tok}{ns:List (Int × Tok)}{k:Result->Sem Fin}{lv:List Value}{pos:Pos}(hk:k=lwK K b a0 acc dct)(hns:ns.map (·.1)=lwNums script) :
  Seg K (WK ([3],b)) ⟨.call (codStart ⟨a0,src,it,acc,dct⟩) none true lv k,lwCd K b a0,pos,[],[(it,lIt src 0),(acc,listO #[] 0),(dct,dictO [] 0),(src,listO (zArr ns) 0)]++((a0,frameO [ent K.P sScript t0 (.ref l),ent K.P sNumbers t1 (.ref src)] 2)::[(284,oMem 124 19 none),(291,oMem 127 32 none),(l,listO (zArr script) e)])⟩ (LawEnd S tab script l e):=by
 have hlen:ns.length<=22:=by
  have:=congrArg List.length hns
  rw[List.length_map] at this
  rw[this]
  simp[lwNums,numsOf,fixN]
  lia
 have h0:ns≠[]:=λh=>by
  rw[h] at hns
  have:=congrArg List.length hns
  simp[lwNums,numsOf,fixN] at this
 let R:zb:=(a0,frameO [ent K.P sScript t0 (.ref l),ent K.P sNumbers t1 (.ref src)] 2)::[(284,oMem 124 19 none),(291,oMem 127 32 none),(l,listO (zArr script) e)]
 have hR:∀p∈R,p.2.isFreed=false:=λp hp=>by
  simp only[R,List.mem_cons,List.not_mem_nil,or_false] at hp
  rcases hp with rfl|rfl|rfl|rfl<;>rfl
 have eW:=vJ (Xy K b a0 pos)
 have hc:=Vz (K:=K) (b:=bagOf ((lwCd K b a0,pos)::(([]:List Frame).map Frame.where_++WK ([3],b)))) (z:=⟨a0,src,it,acc,dct⟩) (e2:=0) (l:=ns) (R:=R) (pos:=pos) (by lia) h0 (λp hp=>dc.nn _ (by rw[<-hns];exact List.mem_map_of_mem hp)) hR
 rw[<-eW] at hc
 refine Seg.call rfl hc ?_
 rintro s ⟨x',cl,e',c1,c2,c3,c4⟩
 refine⟨c2,.ok .next,c1,?_⟩
 rw[c3,hk]
 have hcl:cl.map (·.1)=lwCodes script:=by
  rw[c4]
  unfold lwCodes
  rw[<-hns,List.map_map]
  rfl
 let v:LvQ:=⟨l,a0,src,t0,t1,⟨a0,src,it,acc,dct⟩,x',cl,e',ns,0⟩
 exact Qd (K:=K) (b:=b) T dc (l:=l) (e:=e) (v:=v) (e1:=0) (p0:=pos) rfl hns hcl
theorem Ve{pos:Pos}:Seg K (WK ([3],b)) ⟨denF (lwC l),lwC l,pos,[],[(l,listO (zArr script) e),(284,oMem 124 19 none),(291,oMem 127 32 none)]⟩ (LawEnd S tab script l e):=by
 let q:LwQ:=⟨l,zArr script,zArr (script.take 12),e⟩
 let R0:zb:=[(284,oMem 124 19 none),(291,oMem 127 32 none)]
 have hR0:∀p∈R0,p.2.isFreed=false:=λp hp=>by
  simp only[R0,List.mem_cons,List.not_mem_nil,or_false] at hp
  rcases hp with rfl|rfl<;>rfl
 refine Seg.fT (K:=K) R0 hR0 (lwS K b q pos) rfl rfl (λF U=>z0 (.leaf U yh)) _ [2,1,0,3,5,6] (Ru K b q pos) (by decide) rfl (by decide) (λ_ _ _=>za (by rw[Uz]) (za (zc (by rw[yT];have:=dc.len;lia)) zd)) (λ_ _ _=>rfl) λfA fT O=>?_
 let z:=numZ fA
 let R1:zb:=[(fA 0,frameO [ent K.P sScript ((fT 0).tok 0) (.ref l)] 1),(l,listO (zArr script) e),(284,oMem 124 19 none),(291,oMem 127 32 none)]
 have hR1:∀p∈R1,p.2.isFreed=false:=λp hp=>by
  simp only[R1,List.mem_cons,List.not_mem_nil,or_false] at hp
  rcases hp with rfl|rfl|rfl|rfl<;>rfl
 have hn:=WN (K:=K) (W:=((eo (lwR1 K b q pos fA fT O)).code,(⟨211,36,211,47⟩:Pos))::(([]:List Frame).map Frame.where_++WK ([3],b))) (z:=z) (e2:=0) (l:=script.take 12) (R:=R1) (pos:=⟨211,36,211,47⟩) (by simp;lia) hR1
 refine Seg.call rfl hn ?_
 rintro s ⟨x',ns,e',c1,c2,c3,c4,c5⟩
 refine⟨c2,.ok .next,c1,?_⟩
 rw[c3]
 have hnl:ns.length<=12:=by
  have:=congrArg List.length c4
  simp at this
  lia
 let R2:zb:=[(l,listO (zArr script) e),(284,oMem 124 19 none),(291,oMem 127 32 none)]
 have hR2:∀p∈R2,p.2.isFreed=false:=λp hp=>by
  simp only[R2,List.mem_cons,List.not_mem_nil,or_false] at hp
  rcases hp with rfl|rfl|rfl<;>rfl
 have hsz:∀Z:Nat->Ch,(zArr ns++zArr (fixT Z)).size<=1000:=λZ=>by
  rw[Array.size_append,yT,yT]
  show ns.length+10<=_
  lia
 have hap:∀Z:Nat->Ch,zArr ns++zArr (fixT Z)=zArr (ns++fixT Z):=λZ=>by simp[zArr]
 have hns:∀Z:Nat->Ch,(ns++fixT Z).map (·.1)=lwNums script:=λZ=>by
  rw[List.map_append,c4];rfl
 have hperm:∀X:zb,List.Perm (X++R2) (X++[(284,oMem 124 19 none),(291,oMem 127 32 none),(l,listO (zArr script) e)]):=λX=>
  List.Perm.append_left X ((List.Perm.swap ((284:Addr),oMem 124 19 none) (l,listO (zArr script) e) [(291,oMem 127 32 none)]).trans (List.Perm.cons _ (List.Perm.swap ((291:Addr),oMem 127 32 none) (l,listO (zArr script) e) [])))
 cases hx:x' with
 |some xv=>
  refine Seg.fT (K:=K) R2 hR2 (lwS2 K b q pos fA fT O (some xv) (zArr ns) e') rfl rfl (λF U=>z0 (.leaf U x3)) _ [2,1,0,3,7] (λD Z γ'=>Rt K b q pos fA fT O (some xv) (zArr ns) e' D Z γ' rfl) (by decide) rfl (by decide) (λ_ Z _=>za (zc (hsz Z)) zd) (λ_ _ _=>rfl) λD Z O2=>?_
  have hcd:=Rz K b pos D Z O2 (q:=q) (fA:=fA) (fT:=fT) (g0:=O) (x:=some xv) (vs:=zArr ns) (e:=e') rfl
  have hk2:=Ry K b pos D Z O2 (q:=q) (fA:=fA) (fT:=fT) (g0:=O) (x:=some xv) (vs:=zArr ns) (e:=e') rfl
  have hB:=V1 (K:=K) (b:=b) T dc (l:=l) (e:=e) (a0:=fA 0) (src:=D 1) (dct:=D 4) (it:=D 2) (acc:=D 3) (t0:=(fT 0).tok 0) (t1:=(Z 11).tok 0) (ns:=ns++fixT Z) (lv:=lOf (lwR2 K b q pos fA fT O (some xv) (zArr ns) e' D Z O2 47 tpLw2)) (pos:=⟨212,12,212,53⟩) hk2 (hns Z)
  rw[<-hcd] at hB
  refine Seg.perm (a:=⟨_,_,_,[],_⟩) ?_ hB
  rw[<-hap Z]
  exact hperm [(D 2,lIt (D 1) 0),(D 3,listO #[] 0),(D 4,dictO [] 0),(D 1,listO (zArr ns++zArr (fixT Z)) 0),(fA 0,frameO [ent K.P sScript ((fT 0).tok 0) (.ref l),ent K.P sNumbers ((Z 11).tok 0) (.ref (D 1))] 2)]
 |none=>
  refine Seg.fT (K:=K) R2 hR2 (lwS2 K b q pos fA fT O none (zArr ns) e') rfl rfl (λF U=>z0 (.leaf U x3)) _ [2,1,0,3,7] (λD Z γ'=>U6 K b q pos fA fT O none (zArr ns) e' D Z γ' rfl) (by decide) rfl (by decide) (λ_ Z _=>za (zc (hsz Z)) zd) (λ_ _ _=>rfl) λD Z O2=>?_
  have hcd:=U8 K b pos D Z O2 (q:=q) (fA:=fA) (fT:=fT) (g0:=O) (x:=none) (vs:=zArr ns) (e:=e') rfl
  have hk2:=U7 K b pos D Z O2 (q:=q) (fA:=fA) (fT:=fT) (g0:=O) (x:=none) (vs:=zArr ns) (e:=e') rfl
  have hB:=V1 (K:=K) (b:=b) T dc (l:=l) (e:=e) (a0:=fA 0) (src:=D 1) (dct:=D 4) (it:=D 2) (acc:=D 3) (t0:=(fT 0).tok 0) (t1:=(Z 11).tok 0) (ns:=ns++fixT Z) (lv:=lOf (lwR2 K b q pos fA fT O none (zArr ns) e' D Z O2 43 tpLw2n)) (pos:=⟨212,12,212,53⟩) hk2 (hns Z)
  rw[<-hcd] at hB
  refine Seg.perm (a:=⟨_,_,_,[],_⟩) ?_ hB
  rw[<-hap Z]
  exact hperm [(D 2,lIt (D 1) 0),(D 3,listO #[] 0),(D 4,dictO [] 0),(D 1,listO (zArr ns++zArr (fixT Z)) 0),(fA 0,frameO [ent K.P sScript ((fT 0).tok 0) (.ref l),ent K.P sNumbers ((Z 11).tok 0) (.ref (D 1))] 2)]
end
abbrev lawRow:RowW:=PySem.Challenge.rw_pe0284_01.row.toRowW
theorem wn{R:WRecords}:∀ds:List WData,WShape.hasItems R ds .int=true->∃xs:List Int,ds=xs.map .int
 |[],_=>⟨[],rfl⟩
 |d::ds,h=>by
  simp only[WShape.hasItems,Bool.and_eq_true] at h
  obtain⟨i,rfl⟩:=hasW_int h.1
  obtain⟨xs,rfl⟩:=wn ds h.2
  exact⟨i::xs,rfl⟩
def WH{args:List WData}(h:lawRow.claim.pre args=true):∃xs:List Int,args=[.list (xs.map .int)]/\xs.length<=63:=by
 obtain⟨h1,h2⟩:=pre_splitW h
 obtain⟨d,r,rfl,h3,h4⟩:=hasAllW_cons (R:=lawRow.records) (e:=.list .int) (es:=[]) h1
 have h5:r=[]:=by
  cases r with
  |nil=>rfl
  |cons _ _=>simp[WShape.hasAll] at h4
 subst h5
 obtain⟨ds,rfl,h6⟩:=hasW_list h3
 obtain⟨xs,rfl⟩:=wn ds h6
 refine⟨xs,rfl,?_⟩
 have e:lawRow.pre=.and (.not (.lt (.lit (.int ((63:Nat):Int))) (.len (.arg 0)))) (.lit (.bool true)):=rfl
 rw[e] at h2
 by_cases hx:xs.length<=63
 ·exact hx
 ·exfalso
  have hl:less? (.int ((63:Nat):Int)) (.int ((xs.length:Nat):Int))=some true:=by
   have:((63:Nat):Int) < ((xs.length:Nat):Int):=by omega
   show some (decide (((63:Nat):Int) < ((xs.length:Nat):Int)))=some true
   rw[decide_eq_true this]
  simp[WTm.holds,WTm.value,List.length_map] at h2
  rw[show (63:Int)=((63:Nat):Int) from rfl,hl] at h2
  simp at h2
noncomputable def tkI:Nat->List Int->List (Int × Tok)
 | _,[]=>[]
 |t,x::xs=>(x,t)::tkI (t+1) xs
theorem Zl:∀(t:Nat) (xs:List Int),(tkI t xs).length=xs.length
 | _,[]=>rfl
 |t,x::xs=>by rw[tkI,List.length_cons,Zl (t+1) xs,List.length_cons]
theorem us{R:WRecords}{cl:Str->Option Addr}{P:Params}{ord:List DictEntry->List DictEntry}:∀(xs:List Int) (s:Shared),layAllW R cl P ord (xs.map .int) s=some ((tkI s.toks xs).map (λp=>.int p.1 p.2),{ s with toks:=s.toks+xs.length })
 |[],s=>rfl
 |x::xs,s=>by
  have ih:=us (R:=R) (cl:=cl) (P:=P) (ord:=ord) xs { s with toks:=s.toks+1 }
  rw[List.map_cons]
  unfold layAllW layW
  dsimp only
  rw[ih]
  dsimp only
  rw[tkI,List.map_cons,List.length_cons,Nat.add_assoc s.toks 1,Nat.add_comm 1]
def lsD(xs:List Int)(t:Nat):Obj:=listO (zArr (tkI t xs)) 0
def Vd{R:WRecords}{cl:Str->Option Addr}{P:Params}{ord:List DictEntry->List DictEntry}(xs:List Int)(s:Shared):layAllW R cl P ord [.list (xs.map .int)] s=some ([.ref s.heap.objs.size],{ s with heap:=s.heap.push (lsD xs s.toks),toks:=s.toks+xs.length }):=by
 unfold layAllW layW
 dsimp only
 rw[us]
 rfl
section
variable (K:Wd) (l:Addr) (vs:Array Value) (D:Nat->Addr) (Z:Nat->Ch) (O:Nat->Nat)
def stS:Start:=⟨cfg K.P K.V [] 1 [],[],[(l,listO vs 0)],[],(callStub "law" [.ref l]).cur,.builtin "claim.caller" {},default,[]⟩
def stR:Option Out:=(stS K l vs).run D Z O 1 [6]
def st_rX:Exp:=⟨.call (lwC l) none false (lOf (stR K l vs D Z O)) (kOf (stR K l vs D Z O)),.builtin "claim.caller" {},default,[],[(l,listO vs 0)],[],[]⟩
theorem st_r:lhs 1 [0] (stR K l vs D Z O)=rhs 0 (st_rX K l vs D Z O) (stR K l vs D Z O):=by
 obtain⟨_,b1⟩:=K
 cases b1<;>kernel_rfl
theorem st_k(v:Value):kOf (stR K l vs D Z O) (.ok (.ret v))=.pure (.done (.ret v)):=by
 obtain⟨_,b1⟩:=K
 cases b1<;>kernel_rfl
theorem st_W:shk [[3]] ((.builtin "claim.caller" {},default)::(([]:List Frame).map Frame.where_++[]))=some ([3],bagOf ((.builtin "claim.caller" {},default)::(([]:List Frame).map Frame.where_++[]))):=by kernel_rfl
end
def Y3{K:Wd}{S:Nat->Int->Bool}{fd:Int->Option Value}{tab:Int->Option Str}(T:TopOk K S fd tab){script:List (Int × Tok)}(dc:LawOk K S tab script){l:Addr} :
  Seg K [] ⟨(callStub "law" [.ref l]).cur,.builtin "claim.caller" {},default,[],[(l,listO (zArr script) 0),(284,oMem 124 19 none),(291,oMem 127 32 none)]⟩ (LawEnd S tab script l 0):=by
 let R0:zb:=[(284,oMem 124 19 none),(291,oMem 127 32 none)]
 have hR0:∀p∈R0,p.2.isFreed=false:=λp hp=>by
  simp only[R0,List.mem_cons,List.not_mem_nil,or_false] at hp
  rcases hp with rfl|rfl<;>rfl
 have h1:=Seg.frame R0 hR0 (Seg.eqT (List.append_nil _) (Seg.run (K:=K) (W:=[]) (stS K l (zArr script)) (tl:=[]) rfl rfl zH _ [0] (st_r K l (zArr script)) (by decide) rfl (by decide) (λ_ _ _=>zd) (λ_ _ _=>rfl)))
 refine Seg.trans (a:=⟨_,_,_,[],_⟩) h1 ?_
 rintro s ⟨s',⟨D,Z,O⟩⟩
 have hl:=Ve (b:=bagOf ((.builtin "claim.caller" {},default)::(([]:List Frame).map Frame.where_++[]))) T dc (l:=l) (e:=0) (pos:=default)
 rw[<-vJ st_W] at hl
 refine Seg.call rfl hl ?_
 rintro s ⟨h1,h2,h3⟩
 refine⟨h2,.ok (.ret (.bool (lawAns S tab script))),h1,?_⟩
 rw[st_k]
 exact Seg.refl ⟨rfl,rfl,h3⟩
def Comes.halts{M:Model}{s s':Shared}{th:Thread}{r:Result}{c:Code}{p:Pos}(h:Comes M s th s' ⟨leafOf r,c,p,[]⟩)(hl:leftWithCleanup s'.gens=false):∃n,M.runN n s th=.halted (outcomeOf r) s':=by
 obtain⟨n,hn⟩:=h
 induction n generalizing s th with
 |zero=>
  have e:Run.running s th=.running s' ⟨leafOf r,c,p,[]⟩:=hn
  injection e with e1 e2
  subst e1 e2
  refine⟨1,?_⟩
  rw[runN_succ,step_leaf_nil]
  unfold finish
  rw[if_neg (by rw[hl];decide)]
 |succ n ih=>
  rw[runN_succ] at hn
  cases hs:M.step s th with
  |go s₂ t₂=>
   simp only[hs] at hn
   obtain⟨m,hm⟩:=ih hn
   exact⟨m+1,by rw[runN_succ,hs];exact hm⟩
  |halt o s₂=>simp only[hs] at hn;cases hn
def hF(w:World)(os:OsState):Shared:=((hSt 28).at w.params os).abs
def hArg(w:World)(os:OsState)(xs:List Int):Shared:={ hF w os with heap:=(hH w.params).push (lsD xs 2806),toks:=2806+xs.length }
def ZI(P:Params):(hH P).objs.size=363:=absHeap_size _ _ _
def lawT(xs:List Int):zb:=[(363,lsD xs 2806),(284,oMem 124 19 none),(291,oMem 127 32 none)]
def Zz(P:Params):(hH P).get? 284=some (oMem 124 19 none)/\(hH P).get? 291=some (oMem 127 32 none):=by
 constructor
 ·kernel_rfl
 ·kernel_rfl
def ZY(P:Params):(baseT P (VH P)).get 284=none/\(baseT P (VH P)).get 291=none:=by
 constructor
 ·kernel_rfl
 ·kernel_rfl
def VK{P:Params}{L:Nat}{q:Addr × Obj}(h:base P (VH P) L=some q):q.1=L/\(baseT P (VH P)).get L=some q.2:=by
 unfold base at h
 cases ho:(baseT P (VH P)).get L with
 |none=>rw[ho] at h;cases h
 |some o=>
  rw[ho] at h
  simp only[Option.some.injEq] at h
  subst h
  refine⟨?_,rfl⟩
  show adOf (VH P) L=L
  unfold adOf;split<;>rfl
def VL(w:World)(b1 b2:Bool)(hw:w=rowW w b1 b2)(os:OsState)(xs:List Int):RB (hK w b1 b2 hw) (lawT xs) (hArg w os xs):=by
 have eP:(hK w b1 b2 hw).P=w.params:=by show (rowW w b1 b2).params=w.params;rw[<-hw]
 have eV:(hK w b1 b2 hw).V=VH w.params:=by
  show ({ VH (rowW w b1 b2).params with av:=λn=>n }:TopV)=VH w.params
  rw[<-hw];rfl
 have hsz:=ZI w.params
 have hm:=Zz w.params
 have old:∀x o,(hH w.params).get? x=some o->(hArg w os xs).heap.get? x=some o:=λx o h=>by
  have hlt:x < (hH w.params).objs.size:=Heap.lt_size h
  show ((hH w.params).push _).get? x=_
  rw[Heap.get?_push_ne _ _ _ (Nat.ne_of_lt hlt)];exact h
 have new:(hArg w os xs).heap.get? 363=some (lsD xs 2806):=by
  have:=zJ (h:=hH w.params) (o:=lsD xs 2806) rfl
  rw[hsz] at this
  exact this
 have hsize:(hArg w os xs).heap.objs.size=364:=by
  show ((hH w.params).push _).objs.size=_
  rw[Heap.size_push,hsz]
 have hbase:∀L q,(cfg (hK w b1 b2 hw).P (hK w b1 b2 hw).V [] 1 []).base L=some q->base w.params (VH w.params) L=some q:=λL q h=>by
  have h:base (hK w b1 b2 hw).P (hK w b1 b2 hw).V L=some q:=h
  rw[eP,eV] at h;exact h
 refine⟨λp hp _=>?_,λp hp=>?_,(by decide:[363,284,291].Nodup),λL p h=>old _ _ (Wm (hbase L p h)),λp hp L q h=>?_,λp hp=>(by cases hp),List.nodup_nil,AllBare.empty⟩
 ·simp only[lawT,List.mem_cons,List.not_mem_nil,or_false] at hp
  rcases hp with rfl|rfl|rfl
  ·exact new
  ·exact old _ _ hm.1
  ·exact old _ _ hm.2
 ·rw[hsize]
  simp only[lawT,List.mem_cons,List.not_mem_nil,or_false] at hp
  rcases hp with rfl|rfl|rfl
  ·exact(by decide:(363:Nat) < 364)
  ·exact(by decide:(284:Nat) < 364)
  ·exact(by decide:(291:Nat) < 364)
 ·obtain⟨h1,h2⟩:=VK (hbase L q h)
  rw[h1]
  simp only[lawT,List.mem_cons,List.not_mem_nil,or_false] at hp
  rcases hp with rfl|rfl|rfl
  ·have:=yW _ 1 0 L q.2 (w8 w.params) h2
   show L≠363
   lia
  ·show L≠284
   rintro rfl
   rw[(ZY w.params).1] at h2;cases h2
  ·show L≠291
   rintro rfl
   rw[(ZY w.params).2] at h2;cases h2
def YQ(w:World)(os:OsState)(xs:List Int)(hx:xs.length<=63)(hz:(hArg w os xs).asleep) :
  ∃n s' σ,schedN (denote table) progP w n (.single (hArg w os xs) (callStub "law" [.ref 363]))=.halted (.done (.ret (.bool true))) σ/\runN (denote table) progP w n (hArg w os xs) (callStub "law" [.ref 363])=.halted (.done (.ret (.bool true))) σ/\σ.forget=s'.forget/\
   Kp (lawT xs) [] (hArg w os xs) s'/\AllBare s'.gens/\s'.heap.get? 363=some (lsD xs 2806)/\∃m1 m2,s'.heap.get? 284=some (oMem 124 19 m1)/\s'.heap.get? 291=some (oMem 127 32 m2):=by
 refine cps λGo hGo=>?_
 obtain⟨b1,b2,hw⟩:=Ys w
 have hseg:=Y3 (K:=hK w b1 b2 hw) Vj (Tm (K:=hK w b1 b2 hw) (script:=tkI 2806 xs) (by rw[Zl];lia)) (l:=363)
 obtain⟨⟨cur,code,pos,fs,T⟩,s',⟨h1,h2,a,rows,e2,m1,m2,h3⟩,hc,R,K,_⟩:=hseg (hArg w os xs) [] ⟨rfl,rfl,rfl⟩ (VL w b1 b2 hw os xs)
 dsimp only at h1 h2 h3 hc R
 subst h1 h2 h3
 rw[XJ] at hc
 have hl:leftWithCleanup s'.gens=false:=leftWithCleanup_false_of_bare R.bare
 obtain⟨n,hn⟩:=Comes.halts (r:=.ok (.ret (.bool true))) hc hl
 obtain⟨σ,hs,hr,hf⟩:=runNI_full (denote table) progP w hn (outcomeOf_ends _) hz
 exact hGo ⟨n,s',σ,hs,hr,hf,K,R.bare,R.slots (363,lsD xs 2806) (by simp[lsD]) rfl,m1,m2,R.slots (284,oMem 124 19 m1) (by simp) (by cases m1<;>rfl),R.slots (291,oMem 127 32 m2) (by simp) (by cases m2<;>rfl)⟩
end Mine
end
noncomputable section
open PySem PySem.W
namespace Mine
def hp_0(w:World):(λos=>hRun w os 30 0 [topS 0])=λos=>hEnd w os 1:=by kernel_rfl
def hp_1(w:World):(λos=>hRun w os 10 1 [topS 1])=λos=>hEnd w os 2:=by kernel_rfl
def hp_3(w:World):(λos=>hRun w os 30 3 [topS 3])=λos=>hEnd w os 4:=by kernel_rfl
def hp_5(w:World):(λos=>hRun w os 31 5 [topS 5])=λos=>hEnd w os 6:=by kernel_rfl
def hp_6(w:World):(λos=>hRun w os 30 6 [topS 6])=λos=>hEnd w os 7:=by kernel_rfl
def hp_7(w:World):(λos=>hRun w os 31 7 [topS 7])=λos=>hEnd w os 8:=by kernel_rfl
def hp_9(w:World):(λos=>hRun w os 30 9 [topS 9])=λos=>hEnd w os 10:=by kernel_rfl
def QA(w:World):(λos=>hRun w os 30 11 [topS 11])=λos=>hEnd w os 12:=by kernel_rfl
def Qz(w:World):(λos=>hRun w os 30 13 [topS 13])=λos=>hEnd w os 14:=by kernel_rfl
def Qy(w:World):(λos=>hRun w os 30 15 [topS 15])=λos=>hEnd w os 16:=by kernel_rfl
def Qx(w:World):(λos=>hRun w os 10 16 [topS 16])=λos=>hEnd w os 17:=by kernel_rfl
def Qw(w:World):(λos=>hRun w os 10 17 [topS 17])=λos=>hEnd w os 18:=by kernel_rfl
def Qv(w:World):(λos=>hRun w os 10 18 [topS 18])=λos=>hEnd w os 19:=by kernel_rfl
def Qu(w:World):(λos=>hRun w os 494 19 [topS 19])=λos=>hEnd w os 20:=by kernel_rfl
def Qt(w:World):(λos=>hRun w os 505 20 [topS 20])=λos=>hEnd w os 21:=by kernel_rfl
def Qs(w:World):(λos=>hRun w os 10 21 [topS 21])=λos=>hEnd w os 22:=by kernel_rfl
def Qr(w:World):(λos=>hRun w os 32 22 [topS 22])=λos=>hEnd w os 23:=by kernel_rfl
def Qq(w:World):(λos=>hRun w os 27 23 [topS 23])=λos=>hEnd w os 24:=by kernel_rfl
def Qp(w:World):(λos=>hRun w os 30 24 [topS 24])=λos=>hEnd w os 25:=by kernel_rfl
def Qo(w:World):(λos=>hRun w os 27 25 [topS 25])=λos=>hEnd w os 26:=by kernel_rfl
def Qn(w:World):(λos=>hRun w os 35 26 [topS 26])=λos=>hEnd w os 27:=by kernel_rfl
def Qm(w:World):(λos=>hRun w os 27 27 [topS 27])=λos=>hEnd w os 28:=by kernel_rfl
end Mine
end
noncomputable section
open PyProof.Rows PySem PySem.W
namespace Mine
noncomputable def seO(es:List (Int × Value))(n:Nat)(t:SetTable):Obj:=⟨.type "set", none,.set es.toArray n t,#[]⟩
def YR{l:List Nat}{j:Nat}(h:∀x∈l,x < j):SetTable.below l.toArray j=l.length:=by
 have go:∀f lo,lo<=l.length->l.length - lo<=f->SetTable.below.go l.toArray j f lo l.length=l.length:=by
  intro f
  induction f with
  |zero=>exact λlo h1 h2=>Nat.le_antisymm h1 (Nat.sub_eq_zero_iff_le.mp (Nat.le_zero.mp h2))
  |succ f IH=>
   intro lo h1 h2
   show (if lo < l.length then if l.toArray.getD ((lo+l.length) / 2) j < j then SetTable.below.go l.toArray j f ((lo+l.length) / 2+1) l.length else _ else lo)=_
   by_cases hl:lo < l.length
   ·have hm:(lo+l.length) / 2 < l.length:=Nat.div_lt_of_lt_mul (by rw[Nat.two_mul];exact Nat.add_lt_add_right hl _)
    have hm2:lo<=(lo+l.length) / 2:=(Nat.le_div_iff_mul_le (by decide)).mpr (by rw[Nat.mul_two];exact Nat.add_le_add_left h1 lo)
    have hg:l.toArray.getD ((lo+l.length) / 2) j < j:=by
     rw[Array.getD_eq_getD_getElem?,List.getElem?_toArray,List.getElem?_eq_getElem hm]
     exact h _ (List.getElem_mem hm)
    rw[if_pos hl,if_pos hg]
    exact IH _ hm (Nat.le_trans (Nat.sub_le_sub_left (Nat.succ_le_succ hm2) _) (Nat.pred_le_pred h2))
   ·rw[if_neg hl]
    exact Nat.le_antisymm h1 (Nat.le_of_not_lt hl)
 have:=go l.length 0 (Nat.zero_le _) (Nat.sub_le _ _)
 exact this
def wp{D:Type}{xs:Array D}{x:D}:SetTable.insertAt xs xs.size x=xs.push x:=by
 unfold SetTable.insertAt
 rw[Array.extract_size,Array.extract_empty_of_stop_le_start (Nat.le_refl _),Array.append_empty]
noncomputable def tbO(M:Nat × Nat)(b:Bool)(pl:List Nat):SetTable:=⟨M.1,pl.toArray,#[],0,b,M.2,true⟩
def Zp{M:Nat × Nat}{b:Bool}{pl:List Nat}(h:pl.length<=M.1):(tbO M b pl).fits pl.length=true:=by
 show (pl.toArray.size==pl.length && decide (pl.toArray.size+0<=M.1))=true
 rw[List.size_toArray,beq_self_eq_true,Nat.add_zero,decide_eq_true h]
 rfl
def u5{M:Nat × Nat}{b:Bool}{pl:List Nat}{es:List (Int × Value)}{h:Int}{x:Value}{j:Nat}(hs:pl.length=es.length)(hm:pl.length+1<=M.1)(hj:SetTable.bits h % (M.1+1)=j)(hp:∀x∈pl,x < j) :
  layNew (tbO M b pl) es.toArray h x=((es++[(h,x)]).toArray,tbO M b (pl++[j]),false,false):=by
 have hb:=YR hp
 have h0:pl.toArray[pl.length]?=none:=by rw[List.getElem?_toArray];exact List.getElem?_eq_none (Nat.le_refl _)
 have hsl:(tbO M b pl).slot j=.empty:=by
  show (if (pl.toArray[SetTable.below pl.toArray j]?==some j)=true then SetTable.Slot.live _ else .empty)=_
  rw[hb,h0]
  rfl
 have hf:(tbO M b pl).freeSlot h=some (j,false):=by
  have hq:∃n,10*SetTable.turns (tbO M b pl).mask=n+1:=⟨10*M.1+149,by unfold SetTable.turns;rw[Nat.mul_add];rfl⟩
  obtain⟨n,hn⟩:=hq
  unfold SetTable.freeSlot SetTable.probe
  rw[hn]
  show (match (match (tbO M b pl).slot (SetTable.bits h % (M.1+1)) with | .empty=>some (SetTable.Met.empty (SetTable.bits h % (M.1+1)) none) | .dummy=>_ | .live i=>_) with|some (.empty j dummy)=>some (dummy.getD j,dummy.isSome) | _=>none)=_
  rw[hj,hsl]
  rfl
 have hput:(tbO M b pl).put j=(tbO M b (pl++[j]),es.length):=by
  show (({ tbO M b pl with place:=SetTable.insertAt pl.toArray (SetTable.below pl.toArray j) j }:SetTable),SetTable.below pl.toArray j)=_
  have hi:=wp (xs:=pl.toArray) (x:=j)
  rw[List.size_toArray,List.push_toArray] at hi
  rw[hb,hi,hs]
  rfl
 have hi:=wp (xs:=es.toArray) (x:=(h,x))
 rw[List.size_toArray,List.push_toArray] at hi
 have hfit:(tbO M b (pl++[j])).fits (es++[(h,x)]).toArray.size=true:=by
  have:=Zp (M:=M) (b:=b) (pl:=pl++[j]) (by rw[List.length_append];exact hm)
  rw[List.length_append] at this
  rw[List.size_toArray,List.length_append,<-hs]
  exact this
 unfold layNew
 rw[hf]
 dsimp only
 rw[hput]
 dsimp only
 rw[hi]
 unfold SetTable.orStandIn
 rw[hfit]
 rfl
section
variable {w:World} {s:Shared} {a:Addr} {es es':List (Int × Value)} {n:Nat} {t t':SetTable}
theorem X4(g:s.heap.get? a=some (seO es n t))(hf:t.fits es.length=true):CS w (setState a) s (es.toArray,n,t) s:=by
 refine CS.bind (CS.load g) ?_
 have h1:(t.place.size != es.toArray.size || decide (t.fill > t.mask))=false:=by
  obtain⟨h1,h2⟩:=Bool.and_eq_true_iff.mp hf
  rw[show es.toArray.size=es.length from rfl,bne,h1,decide_eq_false (Nat.not_lt.mpr (of_decide_eq_true h2))]
  rfl
 show CS w (if (t.place.size != es.toArray.size || decide (t.fill > t.mask))=true then _ else _) _ _ _
 rw[h1]
 exact CS.pure
theorem ZR{k h:Int}{tk:Tok}:∀(l:List (Int × Value)) (i:Nat),(∀e∈l,e.1≠h)->CS w (setScanFrom a (.int k tk) h true l i) s .absent s
 |[],i,_=>CS.pure
 |(h',y)::l,i,hn=>by
  show CS w (if (h'==h)=true then _ else _) _ _ _
  rw[if_neg (λq=>hn _ (.head _) (eq_of_beq q))]
  exact CS.bind CS.pure (ZR l (i+1) λe he=>hn e (.tail _ he))
noncomputable def putS(s:Shared)(a:Addr)(o:Obj):Shared:={ s with heap:=s.heap.update a λ_=>o }
theorem w6(hx:11<=a)(g:s.heap.get? a=some (seO es n t))(hl:es'.length<=1000):CS w (storeSet a es'.toArray t') s () (putS s a (seO es' (n+1) t')):=by
 have e:putS s a (seO es' (n+1) t')={ s with heap:=s.heap.update a (Obj.putSet es'.toArray t') }:=by
  unfold putS
  rw[yj g (Obj.putSet es'.toArray t')]
  rfl
 rw[e]
 refine CS.bind (CS.load g) ?_
 show CS w (if es'.toArray.size > sizeLine then _ else _) _ _ _
 rw[if_neg (by rw[List.size_toArray];exact Nat.not_lt.mpr (Nat.le_trans hl (by decide)))]
 exact CS.upd hx (by rw[g];rfl)
theorem YL{k h:Int}{tk:Tok}{o:Obj}(hx:11<=a)(g:s.heap.get? a=some (seO es n t))(hL:layNew t es.toArray h (.int k tk)=(es'.toArray,t',false,false))(hl:es'.length<=1000)(hp:t'.plain=true)(hn:∀e∈es,e.1≠h)
  (ho:t'.tooFull=false/\o=seO es' (n+1) t'\/∃e2 t2,t'.tooFull=true/\relayAll t' es'.toArray (SetTable.grown es'.length)=(e2.toArray,t2,false)/\e2.length<=1000/\o=seO e2 (n+2) t2) :
  CS w (setAddByScan a (.int k tk) h es.toArray t) s (some true) (putS s a o):=by
 unfold setAddByScan
 refine CS.bind CS.rule (CS.bind (show CS w (setScan a (.int k tk) h true es.toArray) _ _ _ from ZR es 0 hn) ?_)
 dsimp only
 rw[hL]
 refine CS.bind CS.pure ?_
 dsimp only
 rw[hp,if_pos rfl]
 refine CS.bind (show CS w (hashByValue 8 (Value.int k tk)) _ true _ from CS.pure) ?_
 rw[if_pos rfl]
 refine CS.bind (w6 hx g hl) ?_
 rw[List.size_toArray]
 rcases ho with ⟨h1,rfl⟩|⟨e2,t2,h1,h2,h3,rfl⟩
 ·rw[h1]
  exact CS.pure
 ·rw[h1,h2]
  have g2:(putS s a (seO es' (n+1) t')).heap.get? a=some (seO es' (n+1) t'):=vt g rfl
  have e:putS (putS s a (seO es' (n+1) t')) a (seO e2 (n+1+1) t2)=putS s a (seO e2 (n+2) t2):=by
   unfold putS
   dsimp only
   rw[xT]
  have:=w6 (w:=w) hx g2 h3 (t':=t2)
  rw[e] at this
  exact CS.bind CS.pure (CS.bind this CS.pure)
theorem Vy{k:Int}{tk:Tok}{o:Obj}(hx:11<=a)(g:s.heap.get? a=some (seO es n t))(hl:es.length<=1000)(hf:t.fits es.length=true)(hsc:∀e∈es,e.2.scannable=true)
  (H:∀s:Shared,s.heap.get? a=some (seO es n t)->CS w (setAddByScan a (.int k tk) (hashInt k) es.toArray t) s (some true) (putS s a o)) :
  CS w (setAdd a (.int k tk)) s true { putS s a o with toks:=s.toks+1 }:=by
 have g':({ s with toks:=s.toks+1 }:Shared).heap.get? a=some (seO es n t):=g
 have hby:byScan (.int k tk) es.toArray=true:=by
  show (true && decide (es.toArray.size < scanBound) && es.toArray.all _)=true
  rw[<-Array.all_toList,List.all_eq_true.mpr hsc,List.size_toArray,decide_eq_true (Nat.lt_of_le_of_lt hl (by decide))]
  rfl
 refine CS.hold (CS.bind ZV (CS.hold (CS.bind (X4 g' hf) ?_)))
 dsimp only
 rw[hby,if_pos rfl]
 exact CS.bind (H _ g') CS.pure
end
end Mine
end
noncomputable section
open PySem PySem.W
namespace Mine
noncomputable def gR(w:World)(b:Bool):World:=w.withFollow "special-get-raises" b
def hs_2(b:Bool)(w:World):(λos=>hRun (gR w b) os 999 2 [topS 2])=λos=>hEnd (gR w b) os 3:=by cases b<;>kernel_rfl
def hs_8(b:Bool)(w:World):(λos=>hRun (gR w b) os 200 8 [topS 8])=λos=>hEnd (gR w b) os 9:=by cases b<;>kernel_rfl
def Ql(b:Bool)(w:World):(λos=>hRun (gR w b) os 361 10 [topS 10])=λos=>hEnd (gR w b) os 11:=by cases b<;>kernel_rfl
def Qk(b:Bool)(w:World):(λos=>hRun (gR w b) os 775 12 [topS 12])=λos=>hEnd (gR w b) os 13:=by cases b<;>kernel_rfl
def c9V(n:Nat):List Value:=(List.range n).map λi=>vI (917536+i) (2347+i)
def c9L(i:Nat):Obj:=lsO (c9V i) (2+i)
def c9R(i:Nat):Obj:=fdO (.type "range_iterator") [vI (917536+i) 0,vI (96 - i) 0,vI 1 0]
noncomputable def c9p:Nat->Nat
 |0=>1
 |i+1=>32+i
noncomputable def c9M(k:Nat):Nat × Nat:=match Nat.blt k 77 with
 |true=>(127,2)
 |false=>(511,3)
def c9T(b:Bool)(k:Nat):SetTable:=tbO (c9M k) b ((List.range k).map c9p)
def c9S(b:Bool)(k:Nat):Obj:=seO (c9E k) (k+(c9M k).2) (c9T b k)
def c9I(k:Nat):Obj:=fdO (.type "list_iterator") [vR 154,vI k 0]
def c9Ob(P:Params)(dc:Obj)(i k L:Nat):Obj:=match Nat.beq L 150 with
 |true=>c9L i
 |false=>match Nat.beq L 151 with
  |true=>c9R i
  |false=>match Nat.beq L 155 with
   |true=>dc
   |false=>match Nat.beq L 156 with
    |true=>c9I k
    |false=>hO P (hSt 14).nm (hSt 14).k (hSt 14).c L
def c9A(P:Params)(os:OsState)(n:Nat)(dc:Obj)(i k t:Nat):SharedT:=⟨hB (c9Ob P dc i k) n 12 1 0,n,(boot_heap P).life,#[],boot_drawn,t,os⟩
def c9a(P:Params)(os:OsState)(i:Nat):SharedT:=c9A P os 152 default i 0 (2347+i)
def c9H(P:Params)(os:OsState)(dc:Obj)(k t:Nat):SharedT:=c9A P os 157 dc 96 k t
def c9b(P:Params)(os:OsState)(k:Nat):SharedT:=c9H P os (c9S (!(P.followText "set-order")) k) k (2443+k)
def thOf(o:Option (SharedT × Thread)):Thread:=match o with
 |some (_,t)=>t
 |none=>ddTh
def c9t1(w:World)(os:OsState):Thread:=thOf (hGo w 103 ((hSt 14).at w.params os) (hTh 14 [topS 14]))
def c9t2(w:World)(os:OsState):Thread:=thOf (hGo w 99 (c9a w.params os 96) (c9t1 w os))
def c9G:Args:=⟨[vR 155,vR 156],[]⟩
def c9c:Code:=.builtin "set.update.loop" c9G
def c9f(w:World)(os:OsState):Frame:=(c9t2 w os).stack.headD (topFrame default)
def c9F(w:World)(os:OsState):List Frame:=(c9t2 w os).stack.tail
def c9_0(b:Bool)(w:World):(λos=>hGo (gR w b) 103 ((hSt 14).at (gR w b).params os) (hTh 14 [topS 14]))=λos=>some (c9a (gR w b).params os 1,c9t1 (gR w b) os):=by cases b<;>kernel_rfl
def QN(b:Bool)(w:World):(λos=>hGo (gR w b) 408 (c9a (gR w b).params os 1) (c9t1 (gR w b) os))=λos=>some (c9a (gR w b).params os 25,c9t1 (gR w b) os):=by cases b<;>kernel_rfl
def TV(b:Bool)(w:World):(λos=>hGo (gR w b) 408 (c9a (gR w b).params os 25) (c9t1 (gR w b) os))=λos=>some (c9a (gR w b).params os 49,c9t1 (gR w b) os):=by cases b<;>kernel_rfl
def TU(b:Bool)(w:World):(λos=>hGo (gR w b) 408 (c9a (gR w b).params os 49) (c9t1 (gR w b) os))=λos=>some (c9a (gR w b).params os 73,c9t1 (gR w b) os):=by cases b<;>kernel_rfl
def TT(b:Bool)(w:World):(λos=>hGo (gR w b) 391 (c9a (gR w b).params os 73) (c9t1 (gR w b) os))=λos=>some (c9a (gR w b).params os 96,c9t1 (gR w b) os):=by cases b<;>kernel_rfl
def c9_m(b:Bool)(w:World):(λos=>hGo (gR w b) 463 (c9a (gR w b).params os 96) (c9t1 (gR w b) os))=λos=>some (c9b (gR w b).params os 20,c9t2 (gR w b) os):=by cases b<;>kernel_rfl
def QK(b:Bool)(w:World):(λos=>c9t2 (gR w b) os)=λos=>⟨.pure (.again c9c),c9c,(c9t2 (gR w b) os).pos,c9f (gR w b) os::c9F (gR w b) os⟩:=by cases b<;>kernel_rfl
def c9_e(b:Bool)(w:World)(pos:Pos):(λos=>segD denF progP (gR w b) 11 none 1 40 (c9b (gR w b).params os 97) ⟨.pure (.again c9c),c9c,pos,c9f (gR w b) os::c9F (gR w b) os⟩)=λos=>hEnd (gR w b) os 15:=by cases b<;>kernel_rfl
def QM(w:World)(os:OsState)(dc:Obj)(t:Nat)(c:Option Args)(f:Frame)(F:List Frame)(K:Option Value->Sem PySem.Fin)(H:Value->Sem PySem.Fin)(gd:Bool->Bool)(lv:List Value->List Value)(pos:Pos) :
  (List.range 97).map (λk=>goS denF progP w 11 none 10 (c9H w.params os dc k t).abs ⟨(pyNext (vR 156)).wrap K H gd lv,cod c,pos,f::F⟩)=(List.range 97).map λk=>some ((c9H w.params os dc (k+1) t).abs,⟨K (some (c9v k)),cod c,pos,f::F⟩):=by
 cases c<;>kernel_rfl
def VD{w:World}{os:OsState}{dc:Obj}{t k:Nat}(hk:k < 97):CS w (pyNext (vR 156)) (c9H w.params os dc k t).abs (some (c9v k)) (c9H w.params os dc (k+1) t).abs:=
 λc f F K H gd lv pos=>⟨pos,.fast 10 (u0 (QM w os dc t c f F K H gd lv pos) k hk)⟩
def TQ{P:Params}{os:OsState}{es:List (Int × Value)}{n:Nat}{T:SetTable}{k t:Nat}:(c9H P os (seO es n T) k t).abs.heap.get? 155=some (seO es n T):=by kernel_rfl
def TO(P:Params)(os:OsState)(dc O':Obj)(k t:Nat):({ putS (c9H P os dc k t).abs 155 O' with toks:=t+1 }:Shared)=(c9H P os O' k (t+1)).abs:=by kernel_rfl
def Wh:∀k,k < 97->hashInt (.ofNat (c9k k))=.ofNat (c9k k)/\SetTable.bits (.ofNat (c9k k)) % ((c9M k).1+1)=c9p k/\k+1<=(c9M k).1/\(k=76\/decide ((k+1+0)*5≥(c9M k).1*3)=false/\c9M (k+1)=c9M k):=by decide +kernel
noncomputable def c9ow(j:Nat):Option Nat:=match Nat.beq j 1 with
 |true=>some 0
 |false=>match Nat.ble 32 j,Nat.blt j 108 with
  |true,true=>some (j - 31)
  | _,_=>none
def TP:SetTable.layClean 511 ((c9E 77).toArray.map (·.1))=some ((List.range 512).map c9ow).toArray:=by kernel_rfl
theorem ux{D β:Type}{f g:D->Option β}:∀{l:List D},(∀x∈l,f x=g x)->l.filterMap f=l.filterMap g
 |[],_=>rfl
 |x::l,h=>by rw[List.filterMap_cons,List.filterMap_cons,h x (.head _),ux λy hy=>h y (.tail _ hy)]
def XM{f:Nat->Option Nat}{n:Nat}:(List.range n).filterMap (λj=>((((List.range n).map f).toArray).getD j none).map (j,·))=(List.range n).filterMap λj=>(f j).map (j,·):=ux λj hj=>by
 rw[Array.getD_eq_getD_getElem?,List.getElem?_toArray,List.getElem?_map,List.getElem?_range (List.mem_range.mp hj)]
 rfl
def VE:(List.range 512).filterMap (λj=>(c9ow j).map (j,·))=(List.range 77).map λi=>(c9p i,i):=by kernel_rfl
def TN(b:Bool):relayAll (tbO (c9M 76) b ((List.range 76).map c9p++[107])) (c9E 77).toArray 308=((c9E 77).toArray,c9T b 77,false):=by
 have h:(tbO (c9M 76) b ((List.range 76).map c9p++[107])).relaid ((c9E 77).toArray.map (·.1)) 308=some (c9T b 77,((List.range 77).map id).toArray):=by
  unfold SetTable.relaid SetTable.laid
  rw[show SetTable.sizeAbove 308 - 1=511 by decide,TP]
  dsimp only[Option.bind_eq_bind,Option.bind_some]
  rw[XM,VE,List.map_map,List.map_map]
  cases b<;>rfl
 unfold relayAll
 rw[h]
 cases b<;>kernel_rfl
def V5{i k:Nat}(h:i < k):c9k i < c9k k/\c9p i < c9p k:=by
 cases k with
 |zero=>exact absurd h (Nat.not_lt_zero _)
 |succ k=>
  cases i with
  |zero=>exact⟨Nat.lt_of_lt_of_le (by decide) (Nat.le_add_right 917536 k),Nat.lt_of_lt_of_le (by decide) (Nat.le_add_right 32 k)⟩
  |succ i=>exact⟨Nat.add_lt_add_left (Nat.lt_of_succ_lt_succ h) _,Nat.add_lt_add_left (Nat.lt_of_succ_lt_succ h) _⟩
def Wg{k:Nat}{e:Int × Value}(h:e∈c9E k):∃i,i < k/\e=(.ofNat (c9k i),c9v i):=by
 obtain⟨i,h2,rfl⟩:=List.mem_map.mp h
 exact⟨i,List.mem_range.mp h2,rfl⟩
def ZX(k:Nat):∃tk,c9v k=.int (.ofNat (c9k k)) tk:=by cases k<;>exact⟨_,rfl⟩
def xp(k:Nat):(c9E k).length=k:=by unfold c9E;rw[List.length_map,List.length_range]
def Wi(k:Nat):c9E (k+1)=c9E k++[(.ofNat (c9k k),c9v k)]:=by unfold c9E;rw[List.range_succ,List.map_append];rfl
def TS{w:World}{b:Bool}{k:Nat}{s:Shared}{tk:Tok}(hk:k < 97)(hv:c9v k=.int (.ofNat (c9k k)) tk)(g:s.heap.get? 155=some (c9S b k)) :
  CS w (setAddByScan 155 (.int (.ofNat (c9k k)) tk) (.ofNat (c9k k)) (c9E k).toArray (c9T b k)) s (some true) (putS s 155 (c9S b (k+1))):=by
 obtain⟨_,h2,h3,h4⟩:=Wh k hk
 have hpl:((List.range k).map c9p).length=k:=by rw[List.length_map,List.length_range]
 have hL:=u5 (b:=b) (es:=c9E k) (x:=c9v k) (by rw[hpl,xp]) (by rw[hpl];exact h3) h2 (λx hx=>by
  obtain⟨i,h,rfl⟩:=List.mem_map.mp hx
  exact(V5 (List.mem_range.mp h)).2)
 rw[<-Wi,hv] at hL
 refine YL (by decide) g hL (by rw[xp];exact Nat.le_trans hk (by decide)) rfl (λe he q=>?_) ?_
 ·obtain⟨i,h,rfl⟩:=Wg he
  exact Nat.ne_of_lt (V5 h).1 (Int.ofNat.inj q)
 ·rcases h4 with rfl|⟨h4,h5⟩
  ·exact .inr ⟨_,_,by cases b<;>rfl,TN b,by rw[xp];decide,rfl⟩
  ·refine .inl ⟨?_,?_⟩
   ·have:((List.range k).map c9p++[c9p k]).toArray.size=k+1:=by rw[List.size_toArray,List.length_append,hpl];rfl
    show decide ((((List.range k).map c9p++[c9p k]).toArray.size+0)*5≥(c9M k).1*3)=false
    rw[this]
    exact h4
   ·unfold c9S c9T
    rw[h5,List.range_succ,List.map_append,Nat.add_right_comm]
    rfl
def VF{w:World}{os:OsState}{k:Nat}(hk:k < 97):CS w (Builtin.«set.update.loop» c9G) (c9b w.params os k).abs (.again c9c) (c9b w.params os (k+1)).abs:=by
 obtain⟨tk,hv⟩:=ZX k
 have hall:=Wh k hk
 unfold c9b
 refine CS.bind (VD hk) ?_
 generalize (!(w.params.followText "set-order"))=b
 have hf:(c9T b k).fits (c9E k).length=true:=by
  have:=Zp (M:=c9M k) (b:=b) (pl:=(List.range k).map c9p) (by rw[List.length_map,List.length_range];exact Nat.le_of_succ_le hall.2.2.1)
  rw[List.length_map,List.length_range] at this
  rw[xp]
  exact this
 have:CS w (setAdd 155 (c9v k)) (c9H w.params os (c9S b k) (k+1) (2443+k)).abs true (c9H w.params os (c9S b (k+1)) (k+1) (2443+k+1)).abs:=by
  rw[<-TO w.params os (c9S b k),hv]
  refine Vy (by decide) TQ (by rw[xp];exact Nat.le_trans (Nat.le_of_lt hk) (by decide)) hf (λe he=>?_) λs hs=>by rw[hall.1];exact TS hk hv hs
  obtain⟨i,_,rfl⟩:=Wg he
  obtain⟨_,h⟩:=ZX i
  rw[h];rfl
 exact CS.bind (CS.hold this) CS.pure
def TR:denote treeTable c9c=Builtin.«set.update.loop» c9G:=by
 show (match entryFor treeTable "set.update.loop" with|some b=>b c9G|none=>unsupported ((withoutEnding? "set.update.loop" "#data").getD "set.update.loop"))=_
 rw[<-table_eq_tree,PyProof.Rows.F.entry_set_update_loop]
def VC{w:World}{os:OsState}{k:Nat}(hk:k < 97)(f:Frame)(F:List Frame)(pos:Pos):∃pos',Go w (c9b w.params os k).abs ⟨.pure (.again c9c),c9c,pos,f::F⟩ (c9b w.params os (k+1)).abs ⟨.pure (.again c9c),c9c,pos',f::F⟩:=by
 obtain⟨pos',g⟩:=VF (w:=w) (os:=os) hk (some c9G) f F .pure .raise id id pos
 have e:(Builtin.«set.update.loop» c9G).wrap Sem.pure Sem.raise id id=Builtin.«set.update.loop» c9G:=by rw[<-Sem.bind_eq_wrap'];exact bind_pure _
 rw[e,<-TR] at g
 exact⟨pos',(Go.one (zF rfl) (by kernel_rfl) rfl).trans g⟩
theorem uM{w:World}{os:OsState}(f:Frame)(F:List Frame):∀(n k:Nat) (pos:Pos),k+n=97->∃pos',Go w (c9b w.params os k).abs ⟨.pure (.again c9c),c9c,pos,f::F⟩ (c9b w.params os 97).abs ⟨.pure (.again c9c),c9c,pos',f::F⟩
 |0,k,pos,h=>⟨pos,by rw[show k=97 from h];exact .refl⟩
 |n+1,k,pos,h=>by
  obtain⟨p1,g1⟩:=VC (w:=w) (os:=os) (Nat.lt_of_lt_of_eq (Nat.lt_add_of_pos_right (Nat.succ_pos n)) h) f F pos
  obtain⟨p2,g2⟩:=uM f F n (k+1) p1 (by rw[Nat.add_right_comm];exact h)
  exact⟨p2,g1.trans g2⟩
end Mine
end
noncomputable section
open PyProof.Rows PySem PySem.W
namespace Mine
def hS0(w:World)(os:OsState)(i:Nat):Shared:=((hSt i).at w.params os).abs
def RS(w:World)(os:OsState)(i:Nat):Prop:=∃N,topRun treeTable progP w 11 none N (hS0 w os i) (restOf (((List.range 28).map topS).drop i) hEnv hC (hPos i) tF)=some (hS0 w os 28)
def UJ{w:World}{os:OsState}:RS w os 28:=⟨2,piece_nil (env:=hEnv) (QD w (hS0 w os 28) (hPos 28))⟩
def UH{w:World}{os:OsState}{N i:Nat}{l:List Stmt}(h:hRun w os N i l=hEnd w os (i+1)):segRun treeTable progP w 11 none 1 N (hS0 w os i) (piecesOf l hEnv hC (hPos i) tF)=some (.next,hS0 w os (i+1),hC,hPos (i+1)):=by
 unfold hRun hEnd at h
 rw[yY,xV] at h
 exact segRun_of h
def zq{w:World}{os:OsState}{N i:Nat}(hd:((List.range 28).map topS).drop i=[topS i]++((List.range 28).map topS).drop (i+1))(h:(λos=>hRun w os N i [topS i])=λos=>hEnd w os (i+1))(R:RS w os (i+1)):RS w os i:=by
 obtain⟨M,hM⟩:=R
 refine⟨N+M,?_⟩
 rw[hd]
 exact piece_app (UH (congrFun h os)) hM
def yw{w:World}{N i:Nat}(h:∀(b:Bool) (w:World),(λos=>hRun (gR w b) os N i [topS i])=λos=>hEnd (gR w b) os (i+1)):(λos=>hRun w os N i [topS i])=λos=>hEnd w os (i+1):=by
 have:=h (w.params.followText "special-get-raises") w
 unfold gR at this
 rw[World.withFollow_self] at this
 exact this
def st4(w:World)(os:OsState):∃N,segRun treeTable progP w 11 none 1 N (hS0 w os 4) (pieceOf (topS 4) hEnv hC (hPos 4) tF)=some (.next,hS0 w os 5,hC,hPos 5):=by
 have g1:Go w (hS0 w os 4) ⟨(PySem.exec (topS 4) hEnv).wrap doneF deadEnd id id,hC,hPos 4,tF⟩ (hS0 w os 4) ddTh:=Go.tree 2 (QF w os)
 have hc:=X2 (w:=w) (h:=absHeap ((hSt 4).tree w.params) 40 (boot_heap w.params).life) (gens:=#[]) (drawn:=boot_drawn) (os:=os) (absHeap_size _ _ _)
 rw[Vl] at hc
 obtain⟨pos',g2⟩:=hc none (topFrame default) [] (λv=>(ddG v).wrap doneF deadEnd id id) (λe=>(Sem.raise e:Sem Flow).wrap doneF deadEnd id id) (λg=>id (id g)) (λl=>id (id l)) b3E.pos
 have g2':Go w (hS0 w os 4) ddTh (h4S.at w.params os).abs ⟨(ddG (.ref 40)).wrap doneF deadEnd id id,hC,pos',tF⟩:=by
  unfold ddTh
  rw[Sem.bind_eq_wrap' (forIn ddI (none,[]) ddX.1.1 >>= ddX.1.2) ddG,Sem.wrap_wrap]
  exact g2
 have g3:segRun treeTable progP w 11 none 1 9 (h4S.at w.params os).abs ⟨(ddG (.ref 40)).wrap doneF deadEnd id id,hC,pos',tF⟩=some (.next,hS0 w os 5,hC,hPos 5):=by
  have h:=Tr w os pos'
  unfold hEnd at h
  rw[yY,xV] at h
  exact segRun_of h
 obtain⟨n,hn⟩:=g1.trans g2'
 exact⟨n+9,seg_go hn g3⟩
def rs_4{w:World}{os:OsState}(hd:((List.range 28).map topS).drop 4=topS 4::((List.range 28).map topS).drop 5)(R:RS w os 5):RS w os 4:=by
 obtain⟨M,hM⟩:=R
 obtain⟨N,hN⟩:=st4 w os
 refine⟨N+M,?_⟩
 rw[hd]
 exact piece_cons hN hM
def SN(b:Bool)(w:World)(os:OsState):∃N,segRun treeTable progP (gR w b) 11 none 1 N (hS0 (gR w b) os 14) (piecesOf [topS 14] hEnv hC (hPos 14) tF)=some (.next,hS0 (gR w b) os 15,hC,hPos 15):=by
 have g:=(((((Go.tree _ (congrFun (c9_0 b w) os)).trans (Go.tree _ (congrFun (QN b w) os))).trans (Go.tree _ (congrFun (TV b w) os))).trans (Go.tree _ (congrFun (TU b w) os))).trans (Go.tree _ (congrFun (TT b w) os))).trans (Go.tree _ (congrFun (c9_m b w) os))
 rw[congrFun (QK b w) os] at g
 obtain⟨pos,g2⟩:=uM (w:=gR w b) (os:=os) (c9f (gR w b) os) (c9F (gR w b) os) 77 20 (c9t2 (gR w b) os).pos rfl
 have h:=congrFun (c9_e b w pos) os
 unfold hEnd at h
 rw[yY,xV] at h
 obtain⟨n,hn⟩:=g.trans g2
 exact⟨_,seg_go hn (segRun_of h)⟩
def st14(w:World)(os:OsState):∃N,segRun treeTable progP w 11 none 1 N (hS0 w os 14) (piecesOf [topS 14] hEnv hC (hPos 14) tF)=some (.next,hS0 w os 15,hC,hPos 15):=by
 have:=SN (w.params.followText "special-get-raises") w os
 unfold gR at this
 rw[World.withFollow_self] at this
 exact this
def SP{w:World}{os:OsState}(hd:((List.range 28).map topS).drop 14=[topS 14]++((List.range 28).map topS).drop 15)(R:RS w os 15):RS w os 14:=by
 obtain⟨M,hM⟩:=R
 obtain⟨N,hN⟩:=st14 w os
 refine⟨N+M,?_⟩
 rw[hd]
 exact piece_app hN hM
def UK(w:World)(os:OsState):RS w os 0:=
 zq rfl (hp_0 w) (zq rfl (hp_1 w) (zq rfl (yw λb w=>hs_2 b w) (zq rfl (hp_3 w) (rs_4 rfl (zq rfl (hp_5 w) (zq rfl (hp_6 w) (zq rfl (hp_7 w)
 (zq rfl (yw λb w=>hs_8 b w) (zq rfl (hp_9 w) (zq rfl (yw λb w=>Ql b w) (zq rfl (QA w) (zq rfl (yw λb w=>Qk b w) (zq rfl (Qz w) (SP rfl (zq rfl (Qy w)
 (zq rfl (Qx w) (zq rfl (Qw w) (zq rfl (Qv w) (zq rfl (Qu w) (zq rfl (Qt w) (zq rfl (Qs w) (zq rfl (Qr w) (zq rfl (Qq w) (zq rfl (Qp w) (zq rfl (Qo w) (zq rfl (Qn w) (zq rfl (Qm w) UJ)))))))))))))))))))))))))))
def Ww(w:World)(os:OsState):∃N,topRun treeTable progP w 11 none N (hBoot w.params os) (topStub progP)=some (hS0 w os 28):=by
 obtain⟨M,hM⟩:=UK w os
 rw[List.drop_zero,<-Tq] at hM
 have h1:=piece_block (Vk w (hS0 w os 0)) hM
 have h2:=QC w os
 rw[yY,Zk] at h2
 exact⟨_,go_top h2 h1⟩
def uY:opening progP=plainProg progP.main.scope.names:=by kernel_rfl
def XX(s:Shared):fenceModules? progP s=some s:=by kernel_rfl
def Zj(w:World):(∃s,AfterRun (opening progP) w s)/\∀s,AfterRun (opening progP) w s->∃s₀,fenceModules? progP s=some s₀/\s₀.gens=#[]/\∃os,TopRan progP w s₀ (hS0 w os 28)/\(hS0 w os 28).asleep:=by
 have h:=boot_open (p:=progP) (N:=600) uY (by decide) XX w
 rw[<-table_eq_tree] at h
 obtain⟨s₀,h2,e⟩:=Option.map_eq_some_iff.mp h
 obtain⟨s,h4,h5⟩:=Option.bind_eq_some_iff.mp h2
 have A:=AfterImport.of_importEnds h4
 refine⟨⟨s,A⟩,λs' hs'=>?_⟩
 obtain rfl:s'=s:=AfterImport.unique hs' A
 have z:s₀.asleep:=Shared.asleep_of_life (fence_lifeW h5) A.life
 obtain⟨heap,gens,drawn,toks,os⟩:=s₀
 simp only[Prod.mk.injEq] at e
 obtain⟨rfl,rfl,rfl,rfl⟩:=e
 refine⟨_,h5,rfl,os,?_⟩
 obtain⟨N,hN⟩:=Ww w os
 rw[<-table_eq_tree] at hN
 obtain⟨a,l,o,fr⟩:=topRun_spec N (hBoot w.params os) (topStub progP) (hS0 w os 28) z hN
 have hg0:=VU w.params
 obtain⟨hg,hg1⟩:=Bool.and_eq_true_iff.mp hg0
 have hb:=Sm w.params
 have hm:=Ub
 have size:(boot_heap w.params).objs.size=11:=by kernel_rfl
 refine⟨⟨a,l,Shared.rest_eq o,λb ob hb hn=>fr b ob (by have:=Heap.lt_size hb;rw[size] at this;exact this) (λq=>hn (.inl q)) (λq=>hn (.inr (.inl q))) (λq=>by cases q) hb,
  ?_,?_,Pin.keysAreStrs_of hg1,λx hx=>(Pin.builtinOf_eq hb x).trans (Heap.of_bltView hb (Sn w.params) x hx),?_,gens_of_done (s:=hS0 w os 28) rfl,names_of_bound (Wu w.params),laid_of_kept (Uc w.params)⟩,Shared.asleep_of_life l z⟩
 ·rw[hm];exact Heap.accountedI_of_ok (So w.params)
 ·rw[hm];exact statics_of_ok (Ua w.params)
 ·obtain⟨bm,ob,a,_,c,d,f,_⟩:=Heap.bmainOk_spec (Wv w.params)
  exact⟨bm,ob,(Pin.globalOf_eq hg1 _).trans a,c,d,f⟩
def QE(w:World)(os:OsState):hS0 w os 28=hF w os:=rfl
def Wa(P:Params):isCodeTable (hH P) 284/\isCodeTable (hH P) 291:=by
 refine⟨⟨288,_,_,(by kernel_rfl:(hH P).get? 288=some (o_288 P (VH P))),rfl,rfl,rfl⟩,⟨295,_,_,(by kernel_rfl:(hH P).get? 295=some (o_295 P (VH P))),rfl,rfl,rfl⟩⟩
def Wx(P:Params):isTheDefsW progP (hH P) "law" :=by
 have hg:=(Bool.and_eq_true_iff.mp (VU P)).2
 refine⟨362,o_362 P (VH P),fnD (topS 27) ⟨#[108,97,119]⟩ [] .none (.str ⟨#[108,97,119,95,112,101,48,50,56,52,95,48,49]⟩ 2758) (.ref 361) .none,fnArgs (topS 27),fnBody (topS 27),fnScope (topS 27),
  (Pin.globalOf_eq hg _).trans (by kernel_rfl),by kernel_rfl,by kernel_rfl,by kernel_rfl,by kernel_rfl,by kernel_rfl,rfl,rfl,rfl,rfl,rfl,rfl,?_⟩
 exact⟨.inl ⟨by kernel_rfl,rfl⟩,[],by kernel_rfl,.inl ⟨rfl,rfl⟩⟩
def VM(w:World)(os:OsState)(xs:List Int):(hArg w os xs).heap.get? 363=some (lsD xs 2806):=by
 have:=zJ (h:=hH w.params) (o:=lsD xs 2806) rfl
 rw[ZI] at this
 exact this
def w7{h h':Heap}{b:Addr}(k:∀b o,h.get? b=some o->h'.get? b=some o)(x:isCodeTable h b):isCodeTable h' b:=by
 obtain⟨c,o,vs,h1,h2,h3,h4⟩:=x
 exact⟨c,o,vs,k _ _ h1,h2,h3,h4⟩
abbrev lawC:ClaimW:=lawRow.claim
def Rb{w:World}{os:OsState}{xs:List Int}{s':Shared}{m1 m2:Option Addr}(keeps:∀b o,(hF w os).heap.get? b=some o->(hArg w os xs).heap.get? b=some o)(K:Kp (lawT xs) [] (hArg w os xs) s')
  (g1:s'.heap.get? 363=some (lsD xs 2806)) (g2:s'.heap.get? 284=some (oMem 124 19 m1)) (g3:s'.heap.get? 291=some (oMem 127 32 m2)):OldK (hArg w os xs).heap s'.heap:=by
 have htab:=Wa w.params
 have hm:=Zz w.params
 have old:∀b o,(hArg w os xs).heap.get? b=some o->asItWas (hArg w os xs).heap s'.heap b o:=λb o hb=>by
  by_cases e1:b=363
  ·subst e1
   have:=(VM w os xs).symm.trans hb
   cases this
   exact .inl g1
  by_cases e2:b=284
  ·subst e2
   have:=(keeps _ _ hm.1).symm.trans hb
   cases this
   exact .inr (.inl ⟨w7 keeps htab.1,rfl,#[],memArr 124 19 m1,rfl,by rw[g2,Array.empty_append];rfl⟩)
  by_cases e3:b=291
  ·subst e3
   have:=(keeps _ _ hm.2).symm.trans hb
   cases this
   exact .inr (.inl ⟨w7 keeps htab.2,rfl,#[],memArr 127 32 m2,rfl,by rw[g3,Array.empty_append];rfl⟩)
  exact .inl (K.heap b o hb λp hp=>by
   simp only[lawT,List.mem_cons,List.not_mem_nil,or_false] at hp
   rcases hp with rfl|rfl|rfl
   ·exact Ne.symm e1
   ·exact Ne.symm e2
   ·exact Ne.symm e3)
 exact⟨old,λb o hb=>by
  rcases old b o hb with h|⟨_,_,vs,more,_,h⟩|⟨_,_,⟨o',_,_,h,_⟩,_⟩
  ·exact⟨_,h⟩
  ·exact⟨_,h⟩
  ·exact⟨_,h⟩⟩
def XK{w:World}{os:OsState}{xs:List Int}{ord:List DictEntry->List DictEntry}(hord:∀l,(ord l).Perm l)(hlay:WData.layableAll [.list (xs.map .int)]=true)
  (hlaid:layAllW lawC.records (classAt (hF w os).heap) w.params ord [.list (xs.map .int)] (hF w os)=some ([.ref 363],hArg w os xs)):∃as,Laid lawC.records w (hF w os) (hArg w os xs) [.list (xs.map .int)] [.ref 363] as:=by
 obtain⟨as,hrd,hin,hold⟩:=reads_layAllW hord _ _ _ hlaid hlay (hArg w os xs).heap (λ_ _ e=>e)
 exact⟨as,⟨ord,hord,hlaid⟩,hrd,hin,hold,layAllW_keeps _ _ _ hlaid,rfl,(layAllW_rest _ _ _ hlaid).2.2.1⟩
def YP(w:World)(os:OsState)(hz:(hF w os).asleep){free:Addr->Prop}{gens:Prop}{kept:Heap->Prop}(hk:∀h,kept h):lawC.CallFrom (callStub "law") w free gens kept (hF w os):=by
 intro args hpre hlay ord hord
 refine cps λG hGo=>?_
 obtain⟨xs,rfl,hx⟩:=WH hpre
 have hlaid:layAllW lawC.records (classAt (hF w os).heap) w.params ord [.list (xs.map .int)] (hF w os)=some ([.ref 363],hArg w os xs):=by
  rw[Vd]
  rfl
 have hal:=layAllW_rest _ _ _ hlaid
 obtain⟨as,L⟩:=XK hord hlay hlaid
 have hz1:(hArg w os xs).asleep:=Shared.asleep_of_life hal.2.2.2 hz
 obtain⟨n,s',σ,hs,hr,hf,K,hbare,g1,m1,m2,g2,g3⟩:=YQ w os xs hx hz1
 have hO:OldK (hArg w os xs).heap s'.heap:=Rb L.keeps K g1 g2 g3
 have hpost:lawC.post [.list (xs.map .int)] (.bool true) [.list (xs.map .int)]=true:=by kernel_rfl
 obtain⟨hsame,hu,ha,hap,hmk⟩:=frees_parts (r:=lawRow) (by kernel_rfl)
 have hG:GoodWG lawC (classAt (hF w os).heap) (ExcName.means (hF w os).heap) [.list (xs.map .int)] (hArg w os xs) (.ok (.ret (.bool true))) s':=
  ⟨.inl ⟨.bool true,.bool true,[],rfl,λ_=>rfl,.bool true,hpost,λ_=>⟨List.nodup_nil,λa ha=>by cases ha⟩⟩,hO,K.os,hbare⟩
 have hE:=hG.laid (c:=lawC) rfl rfl (ident_freeW hu ha hap) L
 obtain⟨eh,_,_,eo,_⟩:=Shared.forget_eq hf
 have hcase:=hE.1.congr eh
 have hos:σ.os=(hF w os).os:=eo.trans hE.2.1
 have hlife:σ.heap.life=(hF w os).heap.life:=(runN_life _ _ _ hr).trans hal.2.2.2
 rcases hcase with ⟨v,hv,d1,d2,d3,d4,d5⟩|⟨e,ob,cls,hv,_⟩
 ·cases hv
  exact hGo ⟨_,_,hlaid,n,_,σ,hs,.inl ⟨_,rfl,d1,d2,d3,λb o y _=>d4 b o y,d5⟩,(λ_ i x hx=>by cases hx),hk _,by rw[hlife],Shared.rest_eq hos⟩
 ·cases hv
def holds_by:lawC.HoldsOpenBy (callStub "law") ["law"] PySem.Challenge.rw_pe0284_01.row.keeps false:=by
 refine⟨⟨⟨rfl,rfl,rfl,rfl,rfl,by decide +kernel⟩,by decide +kernel,rfl⟩,⟨[.list []],by decide +kernel,by decide +kernel⟩,λw=>⟨(Zj w).1,λs hs=>?_⟩⟩
 obtain⟨s₀,h1,h2,os,h3,h4⟩:=(Zj w).2 s hs
 refine⟨s₀,h1,h2,hS0 w os 28,h3,λn hn=>?_,λx hx=>(by cases hx),λx hx=>(by cases hx),?_⟩
 ·rw[List.mem_singleton] at hn
  subst hn
  exact Wx w.params
 ·rw[QE] at h4 ⊢
  exact YP w os h4 λh hw=>absurd hw (by decide)
end Mine
end
open PySem PySem.W PyProof.Rows
set_option genCtorIdx false
set_option bootstrap.genMatcherCode false
def Mine.said:PySem.Challenge.rw_pe0284_01.wellSaid=true:=by kernel_rfl
set_option maxRecDepth 100000 in
set_option maxHeartbeats 8000000 in
theorem PySem.Challenge.cw_pe0284_01_holds : PySem.Challenge.rw_pe0284_01.Holds := by
  refine holds_law Mine.said fun said => ?_
  exact ⟨said, ⟨[.list [.int 3, .int 1]], by decide +kernel, by decide +kernel⟩, Mine.holds_by⟩
