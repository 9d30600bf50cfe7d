import PyProof.Rows.All
import Wide.All
import OpenK.AllK
import Wide.FinOn
import PySem.Challenge.RW_pe0284_01
set_option Elab.async false
set_option linter.all false
noncomputable section
open PySem PySem.W
namespace Mine
def nth{α:Type}:List α→Nat→Option α
 |[],_=>none
 |x::_,0=>some x
 | _::l,n+1=>nth l n
def upd{α:Type}:List α→Nat→α→List α
 |[],_,_=>[]
 | _::l,0,y=>y::l
 |x::l,n+1,y=>x::upd l n y
inductive LV where
 |n (x:Nat)|v (x:Value)|o (x:Obj)|a (x:Array Value)|c (x:Code)|i (x:Int)|s (x:Str)|b (x:Bool)|w (x:List (Code × Pos))|ov (x:Option Value)|lv (x:List Value)
abbrev Lg:=List (LV × LV)
def Lg.Ok(l:Lg):Prop:=∀p∈l,p.1=p.2
abbrev zh:=List (Addr × Obj)
abbrev zM:=List (Nat × GenState)
structure Ch where
 tok:Nat→Tok
 obj:Nat→Obj
def Ch.of(n:Nat):Ch:=⟨fun _=>n,fun _=>⟨.none,none,.plain,#[]⟩⟩
structure ExtOut where
 res:Result
 posts:List Obj
 news:List Obj
 lg:Lg
 pc:Lg
structure Ext where
 m:Nat
 k:Nat→Nat
 mg:Bool
 f:Nat→Code→List (Code × Pos)→List (Addr × Obj)→zM→List Addr→Ch→Option ExtOut
structure Cfg where
 den:Code→Sem Fin
 prog:Program
 params:Params
 base:Nat→Option (Addr × Obj)
 W:List (Code × Pos)
 n:Nat
 tail:List (Addr × Obj)
structure Out where
 T:zh
 a:Nat
 i:Nat
 G:zM
 b:Nat
 lg:Lg
 pc:Lg
 cur:Sem Fin
 code:Code
 pos:Pos
 fs:List Frame
def zL(T:zh):List Nat→List Obj→Option zh
 | _,[]=>some T
 |j::js,o::r=>match Nat.beq (j % 2) 1 with
  |true=>match nth T (j / 2) with
   |some (x,_)=>zL (upd T (j / 2) (x,o)) js r
   |none=>none
  |false=>none
 |[],_::_=>none
def vA(m:Nat):List Nat→List Nat
 |[]=>[]
 |j::js=>(match Nat.beq (j % 2) 0 with
  |true=>j
  |false=>2*(m - 1 - j / 2)+1)::vA m js
def notIn(j:Nat):List Nat→Bool
 |[]=>true
 |i::l=>match Nat.beq i j with
  |true=>false
  |false=>notIn j l
def ym:List Nat→Bool
 |[]=>true
 |j::l=>match notIn j l with
  |true=>ym l
  |false=>false
def cut:Nat→List Nat→Option (List Nat × List Nat)
 |0,l=>some ([],l)
 |n+1,j::l=>match cut n l with
  |some (a,b)=>some (j::a,b)
  |none=>none
 | _+1,[]=>none
def xU:List Obj→Bool
 |[]=>true
 |o::l=>match o.isFreed with
  |false=>xU l
  |true=>false
def zZ(T:zh):List Addr→List Obj→Option zh
 |[],[]=>some T
 |x::xs,o::r=>zZ ((x,o)::T) xs r
 | _,_=>none
def adrs(α:Nat→Addr)(a:Nat):Nat→List Addr
 |0=>[]
 |k+1=>α a::adrs α (a+1) k
def hdOf(fs:List Frame):Option Value:=(marksOver fs (none,none)).1
def hdOk(fs:List Frame):Bool:=match marksOver fs (none,none) with
 |(none,none)=>true
 | _=>false
def look(C:Cfg)(m:Nat)(T:zh)(j:Nat):Option (Addr × Obj):=match Nat.beq (j % 2) 0 with
 |true=>C.base (j / 2)
 |false=>nth T (m - 1 - j / 2)
def xV(C:Cfg)(T:zh)(j:Nat):Option (Addr × Obj):=match Nat.beq (j % 2) 0 with
 |true=>C.base (j / 2)
 |false=>nth T (j / 2)
def yv(C:Cfg)(T:zh):List Nat→Option zh
 |[]=>some []
 |j::js=>match xV C T j with
  |some x=>match x.2.isFreed with
   |false=>match yv C T js with
    |some xs=>some (x::xs)
    |none=>none
   |true=>none
  |none=>none
def xD:Bool→zM→Option (zM × zM)
 |false,G=>some ([],G)
 |true,g::G=>some ([g],G)
 |true,[]=>none
abbrev ExTy:=List Nat→zh→Nat→Nat→zM→Nat→Lg→Lg→Sem Fin→Code→Pos→List Frame→Option Out
def st1(C:Cfg)(X:List Ext)(α:Nat→Addr)(τ:Nat→Ch)(γ:Nat→Nat)(ih:ExTy)(tp:List Nat)(T:zh)(a i:Nat)(G:zM)(b:Nat)(lg pc:Lg)(cur:Sem Fin)(code:Code)(pos:Pos)(fs:List Frame):Option Out:=
 match cur with
 | .pure fin=>match fin with
  | .again c=>match c.quiet with
   |true=>ih tp T a i G b lg pc (C.den c) c pos fs
   |false=>none
  | .done f=>match fs with
   | .ret k _ _ _ c p _::rest=>ih tp T a i G b lg pc (k (.ok f)) c p rest
   | .gen g k _ c p::rest=>match tp with
    |j::tp=>match nth G j with
     |some (y,_)=>ih tp T a i (upd G j (y,.finished)) b ((.n g,.n y)::lg) pc (k (.returned (match f with | .ret v=>v | _=>.none))) c p rest
     |none=>none
    |[]=>none
   |[]=>none
 | .raise e=>match fs with
  | .ret k _ _ _ c p _::rest=>ih tp T a i G b lg pc (k (.error e)) c p rest
  | .gen g k _ c p::rest=>match tp with
   |j::tp=>match nth G j with
    |some (y,_)=>ih tp T a i (upd G j (y,.finished)) b ((.n g,.n y)::lg) pc (k (.raised e)) c p rest
    |none=>none
   |[]=>none
  |[]=>none
 | .rule _ k=>ih tp T a i G b lg pc (k ()) code pos fs
 | .at p k=>ih tp T a i G b lg pc (k ()) code p fs
 | .point _ k=>ih tp T a i G b lg pc (k ()) code pos fs
 | .ask k=>ih tp T a i G b lg pc (k ⟨C.prog,C.params⟩) code pos fs
 | .fresh k=>ih tp T a (i+1) G b lg pc (k ((τ i).tok 0)) code pos fs
 | .load x _ k=>match tp with
  |j::tp=>match look C (C.n+a) T j with
   |some (y,o)=>match o.isFreed with
    |false=>ih tp T a i G b ((.n x,.n y)::lg) pc (k o) code pos fs
    |true=>none
   |none=>none
  |[]=>none
 | .update x _ f k=>match tp with
  |j::tp=>match nth T (C.n+a - 1 - j) with
   |some (y,o)=>match o.isFreed with
    |false=>match (f o).isFreed with
     |false=>ih tp (upd T (C.n+a - 1 - j) (y,f o)) a i G b ((.n x,.n y)::lg) pc (k ()) code pos fs
     |true=>none
    |true=>none
   |none=>none
  |[]=>none
 | .alloc o k=>match o.isFreed with
  |false=>ih tp ((α a,o)::T) (a+1) i G b lg pc (k (α a)) code pos fs
  |true=>none
 | .handled own k=>match own with
  |false=>ih tp T a i G b lg pc (k (hdOf fs)) code pos fs
  |true=>none
 | .stack k=>ih tp T a i G b lg pc (k ((code,pos)::(fs.map Frame.where_++C.W))) code pos fs
 | .call c h g l k=>match tp with
  |0::tp=>ih tp T a i G b lg pc (C.den c) c pos (.ret k h g l code pos []::fs)
  |(e+1)::d::tp=>match nth X e with
   |some E=>match cut E.m tp with
    |some (js,tp)=>match ym (vA (C.n+a) js) with
     |true=>match h with
      |none=>match hdOk fs with
       |true=>match yv C T (vA (C.n+a) js) with
        |some objs=>match xD E.mg G with
         |some (gs,G)=>match E.f d c ((code,pos)::(fs.map Frame.where_++C.W)) objs gs (adrs α a (E.k d)) (τ i) with
          |some r=>match zL T (vA (C.n+a) js) r.posts with
           |some T'=>match xU r.news with
            |true=>match zZ T' (adrs α a (E.k d)) r.news with
             |some T''=>ih tp T'' (a+E.k d) (i+1) G b (r.lg++lg) (r.pc++pc) (k r.res) code pos fs
             |none=>none
            |false=>none
           |none=>none
          |none=>none
         |none=>none
        |none=>none
       |false=>none
      |some _=>none
     |false=>none
    |none=>none
   |none=>none
  | _=>none
 | .newGen c k=>ih tp T a i ((γ b,.fresh c)::G) (b+1) lg pc (k (γ b)) code pos fs
 | .genState g k=>match tp with
  |j::tp=>match nth G j with
   |some (y,st)=>ih tp T a i G b ((.n g,.n y)::lg) pc (k st.seen) code pos fs
   |none=>none
  |[]=>none
 | .resume g r l k=>match tp with
  |j::tp=>match nth G j with
   |some (y,st)=>match st with
    | .fresh c=>match r with
     | .send v=>match v with
      | .none=>ih tp T a i (upd G j (y,.running)) b ((.n g,.n y)::lg) pc (C.den c) c pos (.gen g k l code pos::fs)
      | _=>none
     | _=>none
    | .suspended kk _ c p frames _=>ih tp T a i (upd G j (y,.running)) b ((.n g,.n y)::lg) pc (kk r) c p (frames++.gen g k l code pos::fs)
    | _=>none
   |none=>none
  |[]=>none
 | .yield v g0 l kk=>match splitAtGen fs with
  |some (frames,(g,k,c,p),rest)=>match g0 || frames.any Frame.guarded with
   |false=>match tp with
    |j::tp=>match nth G j with
     |some (y,_)=>ih tp T a i (upd G j (y,.suspended kk l code pos frames (g0 || frames.any Frame.guarded))) b ((.n g,.n y)::lg) pc (k (.yielded v)) c p rest
     |none=>none
    |[]=>none
   |true=>none
  |none=>none
 | _=>none
@[irreducible] def exec (C:Cfg) (X:List Ext) (α:Nat→Addr) (τ:Nat→Ch) (γ:Nat→Nat) (n:Nat):ExTy:=
 @Nat.rec (fun _=>ExTy) (fun _ T a i G b lg pc cur code pos fs=>some ⟨T,a,i,G,b,lg,pc,cur,code,pos,fs⟩) (fun _ ih=>st1 C X α τ γ ih) n
def execM(C:Cfg)(X:List Ext)(α:Nat→Addr)(τ:Nat→Ch)(γ:Nat→Nat)(n:Nat):ExTy:=
 @Nat.rec (fun _=>ExTy) (fun _ T a i G b lg pc cur code pos fs=>some ⟨T,a,i,G,b,lg,pc,cur,code,pos,fs⟩) (fun _ ih=>st1 C X α τ γ ih) n
theorem exec_eq{C:Cfg}{X:List Ext}{α:Nat→Addr}{τ:Nat→Ch}{γ:Nat→Nat}{n:Nat}:exec C X α τ γ n=execM C X α τ γ n:=by unfold exec;rfl
section
variable {C:Cfg} {X:List Ext} {α:Nat→Addr} {τ:Nat→Ch} {γ:Nat→Nat}
theorem exec_zero:exec C X α τ γ 0=fun _ T a i G b lg pc cur code pos fs=>some ⟨T,a,i,G,b,lg,pc,cur,code,pos,fs⟩:=by unfold exec;rfl
theorem zj{n:Nat}:exec C X α τ γ (n+1)=st1 C X α τ γ (exec C X α τ γ n):=by unfold exec;rfl
end
end Mine
end
noncomputable section
open PyProof.Rows PySem PySem.W
namespace Mine
theorem zY{α:Type}:∀{l:List α} {j:Nat} {x:α},nth l j=some x→x∈l
 |[],_,_,h=>by simp[nth] at h
 |y::l,0,x,h=>by simp only[nth,Option.some.injEq] at h;subst h;exact .head _
 |y::l,j+1,x,h=>.tail _ (zY (l:=l) h)
theorem v8{α:Type}:∀{l:List α} {j:Nat} {y x:α},x∈upd l j y→x=y∨x∈l
 |[],_,_,_,h=>by simp[upd] at h
 |z::l,0,y,x,h=>by
  simp only[upd,List.mem_cons] at h
  exact h.imp id (fun h=>.tail _ h)
 |z::l,j+1,y,x,h=>by
  simp only[upd,List.mem_cons] at h
  rcases h with h|h
  ·exact .inr (h▸.head _)
  ·exact(v8 h).imp id (fun h=>.tail _ h)
theorem wG{α:Type}(q:α→Nat):∀{l:List α} {j:Nat} {x y:α},nth l j=some x→q y=q x→(upd l j y).map q=l.map q
 |[],_,_,_,h,_=>by simp[nth] at h
 |z::l,0,x,y,h,e=>by
  simp only[nth,Option.some.injEq] at h
  subst h
  simp[upd,e]
 |z::l,j+1,x,y,h,e=>by
  simp only[upd,List.map_cons]
  rw[wG q (l:=l) h e]
theorem xG{α:Type}(q:α→Nat):∀{l:List α} {j:Nat} {x y z:α},nth l j=some x→q y=q x→(l.map q).Nodup→z∈upd l j y→z=y∨(z∈l∧q z≠q x)
 |[],_,_,_,_,h,_,_,_=>by simp[nth] at h
 |w::l,0,x,y,z,h,e,nd,hz=>by
  simp only[nth,Option.some.injEq] at h
  subst h
  simp only[upd,List.mem_cons] at hz
  rcases hz with hz|hz
  ·exact .inl hz
  ·refine .inr ⟨.tail _ hz,fun e'=>?_⟩
   simp only[List.map_cons,List.nodup_cons] at nd
   exact nd.1 (e'▸List.mem_map_of_mem hz)
 |w::l,j+1,x,y,z,h,e,nd,hz=>by
  simp only[List.map_cons,List.nodup_cons] at nd
  simp only[upd,List.mem_cons] at hz
  rcases hz with hz|hz
  ·subst hz
   refine .inr ⟨.head _,fun e'=>nd.1 (e'▸List.mem_map_of_mem (zY h))⟩
  ·exact(xG q (l:=l) h e nd.2 hz).imp id fun⟨a,b⟩=>⟨.tail _ a,b⟩
section
variable {C:Cfg} {X:List Ext} {α:Nat→Addr} {τ:Nat→Ch} {γ:Nat→Nat}
theorem xI:∀(n:Nat) {tp T a i G b lg pc cur code pos fs out},exec C X α τ γ n tp T a i G b lg pc cur code pos fs=some out→lg <:+ out.lg∧pc <:+ out.pc
 |0,tp,T,a,i,G,b,lg,pc,cur,code,pos,fs,out,h=>by
  simp only[exec_zero,Option.some.injEq] at h
  subst h;exact⟨List.suffix_rfl,List.suffix_rfl⟩
 |n+1,tp,T,a,i,G,b,lg,pc,cur,code,pos,fs,out,h=>by
  rw[zj] at h
  unfold st1 at h
  (repeat' split at h)<;>first
   |(cases h;done)
   |exact xI n h
   |exact⟨(List.suffix_cons _ _).trans (xI n h).1,(xI n h).2⟩
   |exact⟨(List.suffix_append _ _).trans (xI n h).1,(List.suffix_append _ _).trans (xI n h).2⟩
end
theorem takeG_mem{b:Bool}{G gs G':zM}(h:xD b G=some (gs,G')):∀p∈G',p∈G:=by
 unfold xD at h
 (split at h)<;>simp only[Option.some.injEq,Prod.mk.injEq,reduceCtorEq] at h
 ·exact fun p hp=>h.2▸hp
 ·exact fun p hp=>.tail _ (h.2▸hp)
theorem vx{b:Bool}{G gs G':zM}(h:xD b G=some (gs,G')):∀p∈gs,p∈G:=by
 unfold xD at h
 (split at h)<;>simp only[Option.some.injEq,Prod.mk.injEq,reduceCtorEq] at h
 ·intro p hp;rw[←h.1] at hp;cases hp
 ·intro p hp
  rw[←h.1] at hp
  rcases List.mem_cons.mp hp with rfl|hp
  ·exact .head _
  ·cases hp
structure Rel (C:Cfg) (T:zh) (G:zM) (s:Shared):Prop where
 slots:∀p∈T,p.2.isFreed=false→s.heap.get? p.1=some p.2
 bound:∀p∈T,p.1 < s.heap.objs.size
 nodup:(T.map (·.1)).Nodup
 base:∀L p,C.base L=some p→s.heap.get? p.1=some p.2
 apart:∀p∈T,∀L q,C.base L=some q→q.1≠p.1
 gslots:∀p∈G,s.gens[p.1]?=some p.2
 gnodup:(G.map (·.1)).Nodup
 bare:AllBare s.gens
def Sh(C:Cfg)(a:Nat)(T:zh):Prop:=∃E,T=E++C.tail∧E.length=C.n+a
structure Kp (T:zh) (G:zM) (s s':Shared):Prop where
 heap:∀x o,s.heap.get? x=some o→(∀p∈T,p.1≠x)→s'.heap.get? x=some o
 gens:∀g st,s.gens[g]?=some st→(∀p∈G,p.1≠g)→s'.gens[g]?=some st
 os:s'.os=s.os
 size:s.heap.objs.size≤s'.heap.objs.size
theorem Kp.refl(T G s):Kp T G s s:=⟨fun _ _ h _=>h,fun _ _ h _=>h,rfl,Nat.le_refl _⟩
structure Under (C:Cfg) (F:List Frame):Prop where
 wh:F.map Frame.where_=C.W
 hd:topHandled F=none
 past:topHandled.go true F=none
theorem Under.hdOf{C:Cfg}{F:List Frame}(U:Under C F)(fs:List Frame):topHandled (fs++F)=Mine.hdOf fs:=by
 rw[topHandled_append,U.hd,U.past];rfl
structure Cfg.Ok (C:Cfg) (w:World):Prop where
 den:C.den=denote table
 par:C.params=w.params
 pos:0 < C.n
def ExtOk(C:Cfg)(w:World)(F:List Frame)(E:Ext):Prop:=
 ∀(s:Shared) (a:Nat) (T:zh) (G:zM) (code:Code) (pos:Pos) (fs:List Frame) (c:Code) (g:Bool) (l:List Value) (k:Result→Sem Fin) (objs:zh) (d:Nat) (js:List Nat) (gs G':zM),
  Rel C T G s→xD E.mg G=some (gs,G')→Sh C a T→js.length=E.m→ym js=true→hdOk fs=true→yv C T js=some objs→(∀j∈js,j % 2=1→j / 2 < C.n+a)→
  ∃(xs:List Addr) (t:Ch),xs.length=E.k d∧(∀y∈xs,s.heap.objs.size≤y)∧∀r,E.f d c ((code,pos)::(fs.map Frame.where_++C.W)) objs gs xs t=some r→Lg.Ok r.lg→Lg.Ok r.pc→
   xU r.news=true→∀T' T'',zL T js r.posts=some T'→zZ T' xs r.news=some T''→
   ∃s',Comes (model C.prog w) s ⟨.call c none g l k,code,pos,fs++F⟩ s' ⟨k r.res,code,pos,fs++F⟩∧Rel C T'' G' s'∧Kp T G s s'
theorem Kp.trans_sub{T T':zh}{G G':zM}{s s₁ s':Shared}(h:Kp T G s s₁)(h':Kp T' G' s₁ s')
  (hT:∀x o,s.heap.get? x=some o→(∀p∈T,p.1≠x)→∀p∈T',p.1≠x) (hG:∀g st,s.gens[g]?=some st→(∀p∈G,p.1≠g)→∀p∈G',p.1≠g):Kp T G s s':=
 ⟨fun x o e q=>h'.heap x o (h.heap x o e q) (hT x o e q),fun g st e q=>h'.gens g st (h.gens g st e q) (hG g st e q),h'.os.trans h.os,Nat.le_trans h.size h'.size⟩
theorem Rel.lt{C:Cfg}{T G s}(R:Rel C T G s){p}(hp:p∈T):p.1 < s.heap.objs.size:=R.bound p hp
theorem Rel.alloc{C:Cfg}{T G s}(R:Rel C T G s){o:Obj}(ho:o.isFreed=false):Rel C ((s.heap.objs.size,o)::T) G { s with heap:=s.heap.push o } where
 slots p hp hf:=by
  rcases List.mem_cons.mp hp with rfl|hp
  ·exact Heap.get?_push_size _ ho
  ·exact Heap.get?_push_of_some _ (R.slots p hp hf)
 bound p hp:=by
  show p.1 < (s.heap.push o).objs.size
  rw[Heap.size_push]
  rcases List.mem_cons.mp hp with rfl|hp
  ·exact Nat.lt_succ_self _
  ·exact Nat.lt_succ_of_lt (R.bound p hp)
 nodup:=by
  simp only[List.map_cons,List.nodup_cons]
  refine⟨fun h=>?_,R.nodup⟩
  obtain⟨p,hp,e⟩:=List.mem_map.mp h
  exact absurd (R.lt hp) (by rw[show p.1=s.heap.objs.size from e];exact Nat.lt_irrefl _)
 base L p h:=Heap.get?_push_of_some _ (R.base L p h)
 apart p hp L q hq:=by
  rcases List.mem_cons.mp hp with rfl|hp
  ·exact Nat.ne_of_lt (Heap.lt_size (R.base L q hq))
  ·exact R.apart p hp L q hq
 gslots:=R.gslots
 gnodup:=R.gnodup
 bare:=R.bare
theorem Kp.alloc{T G s}(o:Obj):Kp T G s { s with heap:=s.heap.push o }:=
 ⟨fun _ _ h _=>Heap.get?_push_of_some _ h,fun _ _ h _=>h,rfl,by simp⟩
theorem Rel.update{C:Cfg}{T G s}(R:Rel C T G s){j x o}{f:Obj→Obj}(hj:nth T j=some (x,o))(ho:o.isFreed=false)(hf:(f o).isFreed=false) :
  Rel C (upd T j (x,f o)) G { s with heap:=s.heap.update x f } where
 slots p hp hfr:=by
  rcases xG (·.1) (y:=(x,f o)) hj rfl R.nodup hp with rfl|⟨hp,hne⟩
  ·exact Heap.get?_update_self f (R.slots _ (zY hj) ho) hf
  ·show (s.heap.update x f).get? p.1=_
   rw[Heap.get?_update_other _ _ (Ne.symm hne)];exact R.slots p hp hfr
 bound p hp:=by
  show p.1 < (s.heap.update x f).objs.size
  rw[Heap.size_update]
  rcases v8 hp with e|hp
  ·rw[e];exact R.bound (x,o) (zY hj)
  ·exact R.bound p hp
 nodup:=by rw[wG (·.1) (y:=(x,f o)) hj rfl];exact R.nodup
 base L p h:=by
  show (s.heap.update x f).get? p.1=_
  rw[Heap.get?_update_other _ _ (Ne.symm (R.apart _ (zY hj) L p h))];exact R.base L p h
 apart p hp L q hq:=by
  rcases v8 hp with e|hp
  ·rw[e];exact R.apart (x,o) (zY hj) L q hq
  ·exact R.apart p hp L q hq
 gslots:=R.gslots
 gnodup:=R.gnodup
 bare:=R.bare
theorem Kp.update{T G s}{j x o}{f:Obj→Obj}(hj:nth T j=some (x,o)):Kp T G s { s with heap:=s.heap.update x f }:=
 ⟨fun y o' h q=>by
  show (s.heap.update x f).get? y=_
  rw[Heap.get?_update_other _ _ (q _ (zY hj))];exact h,fun _ _ h _=>h,rfl,by simp⟩
theorem v7{T:zh}{j x o y}(hj:nth T j=some (x,o)){z:Nat}(h:∀p∈T,p.1≠z):∀p∈upd T j (x,y),p.1≠z:=fun p hp=>by
 rcases v8 hp with e|hp
 ·rw[e];exact h (x,o) (zY hj)
 ·exact h p hp
theorem yz{T:zM}{j x o y}(hj:nth T j=some (x,o)){z:Nat}(h:∀p∈T,p.1≠z):∀p∈upd T j (x,y),p.1≠z:=fun p hp=>by
 rcases v8 hp with e|hp
 ·rw[e];exact h (x,o) (zY hj)
 ·exact h p hp
theorem AllBare.set{a:Array GenState}(h:AllBare a)(g:Nat){x:GenState}(hx:x.bare=true):AllBare (a.setIfInBounds g x):=fun y hy=>by
 rcases Array.mem_or_eq_of_mem_setIfInBounds hy with hy|rfl
 ·exact h y hy
 ·exact hx
theorem Rel.setGen{C:Cfg}{T G s}(R:Rel C T G s){j g o}{x:GenState}(hj:nth G j=some (g,o))(hx:x.bare=true):Rel C T (upd G j (g,x)) (s.setGen g x) where
 slots:=R.slots
 bound:=R.bound
 nodup:=R.nodup
 base:=R.base
 apart:=R.apart
 gslots p hp:=by
  have hlt:=R.gslots _ (zY hj)
  show (s.gens.setIfInBounds g x)[p.1]?=_
  rcases xG (·.1) (y:=(g,x)) hj rfl R.gnodup hp with rfl|⟨hp,hne⟩
  ·rw[Array.getElem?_setIfInBounds_self]
   have:g < s.gens.size:=(Array.getElem?_eq_some_iff.mp hlt).1
   simp[this]
  ·rw[Array.getElem?_setIfInBounds_ne (Ne.symm hne)];exact R.gslots p hp
 gnodup:=by rw[wG (·.1) (y:=(g,x)) hj rfl];exact R.gnodup
 bare:=AllBare.set R.bare g hx
theorem Kp.setGen{T G s}{j g o}{x:GenState}(hj:nth G j=some (g,o)):Kp T G s (s.setGen g x):=
 ⟨fun _ _ h _=>h,fun y st h q=>by
  show (s.gens.setIfInBounds g x)[y]?=_
  rw[Array.getElem?_setIfInBounds_ne (q _ (zY hj))];exact h,rfl,Nat.le_refl _⟩
theorem Rel.newGen{C:Cfg}{T G s}(R:Rel C T G s)(c:Code):Rel C T ((s.gens.size,.fresh c)::G) { s with gens:=s.gens.push (.fresh c) } where
 slots:=R.slots
 bound:=R.bound
 nodup:=R.nodup
 base:=R.base
 apart:=R.apart
 gslots p hp:=by
  rcases List.mem_cons.mp hp with rfl|hp
  ·simp
  ·have h:=R.gslots p hp
   have:p.1 < s.gens.size:=(Array.getElem?_eq_some_iff.mp h).1
   rw[Array.getElem?_push]
   rw[if_neg (Nat.ne_of_lt this)];exact h
 gnodup:=by
  simp only[List.map_cons,List.nodup_cons]
  refine⟨fun h=>?_,R.gnodup⟩
  obtain⟨p,hp,e⟩:=List.mem_map.mp h
  have:p.1 < s.gens.size:=(Array.getElem?_eq_some_iff.mp (R.gslots p hp)).1
  exact absurd this (by rw[show p.1=s.gens.size from e];exact Nat.lt_irrefl _)
 bare:=R.bare.push rfl
theorem Kp.newGen{T G s}(c:Code):Kp T G s { s with gens:=s.gens.push (.fresh c) }:=
 ⟨fun _ _ h _=>h,fun y st h _=>by
  have:y < s.gens.size:=(Array.getElem?_eq_some_iff.mp h).1
  show (s.gens.push _)[y]?=_
  rw[Array.getElem?_push,if_neg (Nat.ne_of_lt this)];exact h,rfl,Nat.le_refl _⟩
theorem look_get{C:Cfg}{T G s}{m j:Nat}{p:Addr × Obj}(R:Rel C T G s)(h:look C m T j=some p)(hf:p.2.isFreed=false):s.heap.get? p.1=some p.2:=by
 unfold look at h
 split at h
 ·exact R.base _ _ h
 ·exact R.slots _ (zY h) hf
def At{β:Type}(f:Nat→β)(n:Nat)(x:β):Nat→β:=fun j=>if j=n then x else f j
theorem At.self{β:Type}(f:Nat→β)(n:Nat)(x:β):At f n x n=x:=by simp[At]
theorem At.lt{β:Type}(f:Nat→β){n:Nat}(x:β){j:Nat}(h:j < n):At f n x j=f j:=by simp[At,Nat.ne_of_lt h]
def Ats(f:Nat→Addr)(n:Nat)(xs:List Addr):Nat→Addr:=fun j=>if j < n then f j else xs.getD (j - n) (f j)
theorem Ats.lt(f:Nat→Addr){n:Nat}(xs:List Addr){j:Nat}(h:j < n):Ats f n xs j=f j:=by simp[Ats,h]
theorem adrs_of:∀(xs:List Addr) (α:Nat→Addr) (a:Nat),(∀j,j < xs.length→α (a+j)=xs.getD j 0)→adrs α a xs.length=xs
 |[],_,_,_=>rfl
 |x::xs,α,a,h=>by
  show α a::adrs α (a+1) xs.length=_
  rw[adrs_of xs α (a+1) (fun j hj=>by
   have:=h (j+1) (by simpa using hj)
   rw[show a+1+j=a+(j+1) by omega,this];rfl)]
  have h0:=h 0 (by simp)
  rw[Nat.add_zero] at h0
  rw[h0];rfl
theorem upd_length{α:Type}:∀(l:List α) (j:Nat) (y:α),(upd l j y).length=l.length
 |[],_,_=>rfl
 | _::_,0,_=>rfl
 | _::l,j+1,y=>by simp only[upd,List.length_cons,upd_length l j y]
theorem upd_append{α:Type}:∀(l r:List α) (j:Nat) (y:α),j < l.length→upd (l++r) j y=upd l j y++r
 |[],_,_,_,h=>by simp at h
 | _::_,_,0,_,_=>rfl
 |x::l,r,j+1,y,h=>by
  simp only[List.cons_append,upd]
  rw[upd_append l r j y (by simpa using h)]
theorem Sh.upd{C:Cfg}{a:Nat}{T:zh}(h:Sh C a T){j:Nat}(hj:j < C.n+a)(y):Sh C a (Mine.upd T j y):=by
 obtain⟨E,rfl,e⟩:=h
 exact⟨Mine.upd E j y,upd_append _ _ _ _ (by omega),by rw[upd_length,e]⟩
theorem Sh.cons{C:Cfg}{a:Nat}{T:zh}(h:Sh C a T)(y):Sh C (a+1) (y::T):=by
 obtain⟨E,rfl,e⟩:=h
 exact⟨y::E,rfl,by simp only[List.length_cons];omega⟩
theorem Sh.put{C:Cfg}{a:Nat}:∀{js:List Nat} {os:List Obj} {T T':zh},(∀j∈js,j % 2=1→j / 2 < C.n+a)→Sh C a T→zL T js os=some T'→Sh C a T'
 |[],[],_,_,_,h,e=>by simp only[zL,Option.some.injEq] at e;exact e▸h
 | _::_,[],_,_,_,h,e=>by simp only[zL,Option.some.injEq] at e;exact e▸h
 |[],_::_,_,_,_,_,e=>by simp[zL] at e
 |j::js,o::os,T,T',hj,h,e=>by
  unfold zL at e
  split at e
  ·rename_i hb
   have h1:j % 2=1:=Nat.eq_of_beq_eq_true hb
   (repeat' split at e)<;>first
    |(cases e;done)
    |exact Sh.put (fun i hi=>hj i (.tail _ hi)) (h.upd (hj j (.head _) h1) _) e
  ·cases e
theorem norm_lt{m:Nat}(h0:0 < m):∀{js:List Nat},∀j∈vA m js,j % 2=1→j / 2 < m
 |[],_,h,_=>by simp[vA] at h
 |i::js,j,h,h1=>by
  simp only[vA,List.mem_cons] at h
  rcases h with h|h
  ·split at h
   ·rename_i hb
    have:=Nat.eq_of_beq_eq_true hb
    omega
   ·omega
  ·exact norm_lt h0 j h h1
theorem uW(m:Nat):∀(js:List Nat),(vA m js).length=js.length
 |[]=>rfl
 | _::js=>by simp only[vA,List.length_cons,uW m js]
theorem Sh.new{C:Cfg}:∀{xs:List Addr} {os:List Obj} {a:Nat} {T T':zh},Sh C a T→zZ T xs os=some T'→Sh C (a+xs.length) T'
 |[],[],_,_,_,h,e=>by simp only[zZ,Option.some.injEq] at e;exact e▸h
 |[],_::_,_,_,_,_,e=>by simp[zZ] at e
 | _::_,[],_,_,_,_,e=>by simp[zZ] at e
 |x::xs,o::os,a,T,T',h,e=>by
  have:=Sh.new (xs:=xs) (os:=os) (h.cons (x,o)) e
  rw[List.length_cons,show a+(xs.length+1)=a+1+xs.length by omega];exact this
def Old(T T':zh)(n:Nat):Prop:=∀p∈T',p.1 < n→∃q∈T,q.1=p.1
theorem Old.keys{T T':zh}{n:Nat}(h:∀x,(∀p∈T,p.1≠x)→∀p∈T',p.1≠x):Old T T' n:=fun p hp _=>Classical.byContradiction fun k=>h p.1 (fun q hq e=>k ⟨q,hq,e⟩) p hp rfl
theorem Old.trans{T T₁ T':zh}{n n₁:Nat}(h:Old T T₁ n)(h':Old T₁ T' n₁)(hn:n≤n₁):Old T T' n:=fun p hp hl=>by
 obtain⟨q,hq,e⟩:=h' p hp (Nat.lt_of_lt_of_le hl hn)
 obtain⟨r,hr,e'⟩:=h q hq (e▸hl)
 exact⟨r,hr,e'.trans e⟩
theorem Old.ne{T T':zh}{s:Shared}(h:Old T T' s.heap.objs.size):∀x o,s.heap.get? x=some o→(∀p∈T,p.1≠x)→∀p∈T',p.1≠x:=fun x o hx q p hp e=>by
 obtain⟨r,hr,e'⟩:=h p hp (e▸Heap.lt_size hx)
 exact q r hr (e'.trans e)
abbrev Goes(C:Cfg)(w:World)(F:List Frame)(α:Nat→Addr)(a:Nat)(T:zh)(G:zM)(s:Shared)(cur:Sem Fin)(code:Code)(pos:Pos)(fs:List Frame)(out:Out):Prop:=
 ∃s',Comes (model C.prog w) s ⟨cur,code,pos,fs++F⟩ s' ⟨out.cur,out.code,out.pos,out.fs++F⟩∧Rel C out.T out.G s'∧Sh C out.a out.T∧Kp T G s s'∧(∀j,a≤j→j < out.a→s.heap.objs.size≤α j)∧Old T out.T s.heap.objs.size
theorem Goes.step{C:Cfg}{w F α a a₁ T G s cur code pos fs out T₁ G₁ s₁ cur₁ code₁ pos₁ fs₁}(h:Goes C w F α a₁ T₁ G₁ s₁ cur₁ code₁ pos₁ fs₁ out)
  (st:(model C.prog w).step s ⟨cur,code,pos,fs++F⟩=.go s₁ ⟨cur₁,code₁,pos₁,fs₁++F⟩) (k:Kp T G s s₁)
  (hT:Old T T₁ s.heap.objs.size) (hG:∀g st,s.gens[g]?=some st→(∀p∈G,p.1≠g)→∀p∈G₁,p.1≠g)
  (hα:∀j,a≤j→j < a₁→s.heap.objs.size≤α j):Goes C w F α a T G s cur code pos fs out:=
 let ⟨s',c,r,q,k',f,ol⟩:=h;⟨s',.step st c,r,q,k.trans_sub k' hT.ne hG,fun j h1 h2=>if h3:j < a₁ then hα j h1 h3 else Nat.le_trans k.size (f j (Nat.le_of_not_lt h3) h2),hT.trans ol k.size⟩
theorem noNew{α:Nat→Addr}{a n:Nat}:∀j,a≤j→j < a→n≤α j:=fun _ h1 h2=>absurd (Nat.lt_of_le_of_lt h1 h2) (Nat.lt_irrefl _)
theorem uX:∀{xs:List Addr} {os:List Obj} {T T':zh},zZ T xs os=some T'→∀p∈T',p∈T∨p.1∈xs
 |[],[],T,T',h,p,hp=>by simp only[zZ,Option.some.injEq] at h;exact .inl (h▸hp)
 |x::xs,o::os,T,T',h,p,hp=>by
  rcases uX (xs:=xs) (os:=os) h p hp with h|h
  ·rcases List.mem_cons.mp h with rfl|h
   ·exact .inr (.head _)
   ·exact .inl h
  ·exact .inr (.tail _ h)
 |[],_::_,_,_,h,_,_=>by simp[zZ] at h
 | _::_,[],_,_,h,_,_=>by simp[zZ] at h
theorem vV:∀{js:List Nat} {ps:List Obj} {T T':zh},zL T js ps=some T'→∀{x:Nat},(∀p∈T,p.1≠x)→∀p∈T',p.1≠x
 |[],[],T,T',h,x,q,p,hp=>by simp only[zL,Option.some.injEq] at h;exact q p (h▸hp)
 | _::_,[],T,T',h,x,q,p,hp=>by simp only[zL,Option.some.injEq] at h;exact q p (h▸hp)
 |[],_::_,_,_,h,_,_,_,_=>by simp[zL] at h
 |j::js,o::ps,T,T',h,x,q,p,hp=>by
  unfold zL at h
  split at h
  ·cases hj:nth T (j / 2) with
   |none=>rw[hj] at h;cases h
   |some y=>
    obtain⟨y,o'⟩:=y
    rw[hj] at h
    dsimp only at h
    exact vV h (v7 hj q) p hp
  ·cases h
section
variable {C:Cfg} {X:List Ext} {w:World} {F:List Frame}
theorem cut_length:∀{n:Nat} {l a b:List Nat},cut n l=some (a,b)→a.length=n
 |0,_,_,_,h=>by simp only[cut,Option.some.injEq,Prod.mk.injEq] at h;rw[←h.1];rfl
 |n+1,[],_,_,h=>by simp[cut] at h
 |n+1,j::l,a,b,h=>by
  unfold cut at h
  cases hc:cut n l with
  |none=>rw[hc] at h;cases h
  |some z=>
   obtain⟨x,y⟩:=z
   rw[hc] at h
   simp only[Option.some.injEq,Prod.mk.injEq] at h
   rw[←h.1,List.length_cons,cut_length hc]
theorem soundN(O:C.Ok w)(U:Under C F)(HX:∀e E,nth X e=some E→ExtOk C w F E) :
  ∀(n:Nat) (tp:List Nat) (T:zh) (a i:Nat) (G:zM) (b:Nat) (lg pc:Lg) (cur:Sem Fin) (code:Code) (pos:Pos) (fs:List Frame) (s:Shared) (α₀:Nat→Addr) (τ₀:Nat→Ch) (γ₀:Nat→Nat),
   Rel C T G s→Sh C a T→∀N,N≤s.heap.objs.size→(∀j,N≤α₀ j)→∃α τ γ,(∀j,j < a→α j=α₀ j)∧(∀j,j < i→τ j=τ₀ j)∧(∀j,j < b→γ j=γ₀ j)∧(∀j,N≤α j)∧
    ∀out,exec C X α τ γ n tp T a i G b lg pc cur code pos fs=some out→Lg.Ok out.lg→Lg.Ok out.pc→Goes C w F α a T G s cur code pos fs out:=by
 intro n
 induction n with
 |zero=>
  intro tp T a i G b lg pc cur code pos fs s α₀ τ₀ γ₀ R S N hN hα₀
  refine⟨α₀,τ₀,γ₀,fun _ _=>rfl,fun _ _=>rfl,fun _ _=>rfl,hα₀,fun out h _ _=>?_⟩
  simp only[exec_zero,Option.some.injEq] at h
  subst h
  exact⟨s,.refl _ _,R,S,.refl ..,noNew,.keys fun _ q=>q⟩
 |succ n ih=>
  intro tp T a i G b lg pc cur code pos fs s α₀ τ₀ γ₀ R S N hN hα₀
  have no:(∀α τ γ,exec C X α τ γ (n+1) tp T a i G b lg pc cur code pos fs=none)→∃α τ γ,(∀j,j < a→α j=α₀ j)∧(∀j,j < i→τ j=τ₀ j)∧(∀j,j < b→γ j=γ₀ j)∧(∀j,N≤α j)∧
    ∀out,exec C X α τ γ (n+1) tp T a i G b lg pc cur code pos fs=some out→Lg.Ok out.lg→Lg.Ok out.pc→Goes C w F α a T G s cur code pos fs out:=fun h=>
   ⟨α₀,τ₀,γ₀,fun _ _=>rfl,fun _ _=>rfl,fun _ _=>rfl,hα₀,fun out e _ _=>by rw[h] at e;cases e⟩
  have goX:∀{tp₁ T₁ G₁ lg₁ cur₁ code₁ pos₁ fs₁ s₁},(∀α τ γ,exec C X α τ γ (n+1) tp T a i G b lg pc cur code pos fs=exec C X α τ γ n tp₁ T₁ a i G₁ b lg₁ pc cur₁ code₁ pos₁ fs₁)→
    Rel C T₁ G₁ s₁→Sh C a T₁→Kp T G s s₁→(∀x,(∀p∈T,p.1≠x)→∀p∈T₁,p.1≠x)→(∀g,(∀p∈G,p.1≠g)→∀p∈G₁,p.1≠g)→
    (Lg.Ok lg₁→(model C.prog w).step s ⟨cur,code,pos,fs++F⟩=.go s₁ ⟨cur₁,code₁,pos₁,fs₁++F⟩)→∃α τ γ,(∀j,j < a→α j=α₀ j)∧(∀j,j < i→τ j=τ₀ j)∧(∀j,j < b→γ j=γ₀ j)∧(∀j,N≤α j)∧
    ∀out,exec C X α τ γ (n+1) tp T a i G b lg pc cur code pos fs=some out→Lg.Ok out.lg→Lg.Ok out.pc→Goes C w F α a T G s cur code pos fs out:=fun {tp₁ T₁ G₁ lg₁ cur₁ code₁ pos₁ fs₁ s₁} he R₁ S₁ k hT hG hs=>by
   obtain⟨α,τ,γ,h1,h2,h3,hα,h⟩:=ih tp₁ T₁ a i G₁ b lg₁ pc cur₁ code₁ pos₁ fs₁ s₁ α₀ τ₀ γ₀ R₁ S₁ N (Nat.le_trans hN k.size) hα₀
   refine⟨α,τ,γ,h1,h2,h3,hα,fun out e l lp=>?_⟩
   rw[he] at e
   have hl:Lg.Ok lg₁:=fun p hp=>l p ((xI n e).1.subset hp)
   exact(h out e l lp).step (hs hl) k (.keys hT) (fun g _ _ q=>hG g q) noNew
  have go:∀{tp₁ lg₁ cur₁ code₁ pos₁ fs₁},(∀α τ γ,exec C X α τ γ (n+1) tp T a i G b lg pc cur code pos fs=exec C X α τ γ n tp₁ T a i G b lg₁ pc cur₁ code₁ pos₁ fs₁)→
    (Lg.Ok lg₁→(model C.prog w).step s ⟨cur,code,pos,fs++F⟩=.go s ⟨cur₁,code₁,pos₁,fs₁++F⟩)→∃α τ γ,(∀j,j < a→α j=α₀ j)∧(∀j,j < i→τ j=τ₀ j)∧(∀j,j < b→γ j=γ₀ j)∧(∀j,N≤α j)∧
    ∀out,exec C X α τ γ (n+1) tp T a i G b lg pc cur code pos fs=some out→Lg.Ok out.lg→Lg.Ok out.pc→Goes C w F α a T G s cur code pos fs out:=fun {tp₁ lg₁ cur₁ code₁ pos₁ fs₁} he hs=>
   goX he R S (.refl ..) (fun _ q=>q) (fun _ q=>q) hs
  have hden:∀c,C.den c=(model C.prog w).den c:=fun c=>by rw[O.den];rfl
  have eqn:∀{x y:Nat} {l:Lg},Lg.Ok ((.n x,.n y)::l)→x=y:=fun h=>LV.n.inj (h _ (.head _))
  cases cur with
  |pure fin=>cases fin with
   |again c=>cases hq:c.quiet with
    |true=>exact go (fun _ _ _=>by rw[zj];simp only[st1,hq];rfl) (fun _=>by rw[hden];exact step_again _ _ _ _ _ _ hq)
    |false=>exact no fun _ _ _=>by rw[zj];simp only[st1,hq]
   |done f=>cases fs with
    |nil=>exact no fun _ _ _=>by rw[zj];rfl
    |cons fr rest=>cases fr with
     |ret k h g l c p kp=>exact go (fun _ _ _=>by rw[zj];rfl) (fun _=>step_leaf_ret _ _ _ _ _ (.ok f) ..)
     |gen g k l c p=>cases tp with
      |nil=>exact no fun _ _ _=>by rw[zj];rfl
      |cons j tp=>cases hj:nth G j with
       |none=>exact no fun _ _ _=>by rw[zj];simp only[st1,hj]
       |some y=>
             obtain⟨y,st⟩:=y
             exact goX (fun _ _ _=>by rw[zj];simp only[st1,hj];rfl) (R.setGen hj rfl) S (.setGen hj) (fun _ q=>q) (fun _ q=>yz hj q)
              (fun hl=>by have:=eqn hl;subst this;exact step_leaf_gen _ _ _ _ _ (.ok f) ..)
  |raise e=>cases fs with
    |nil=>exact no fun _ _ _=>by rw[zj];rfl
    |cons fr rest=>cases fr with
     |ret k h g l c p kp=>exact go (fun _ _ _=>by rw[zj];rfl) (fun _=>step_leaf_ret _ _ _ _ _ (.error e) ..)
     |gen g k l c p=>cases tp with
      |nil=>exact no fun _ _ _=>by rw[zj];rfl
      |cons j tp=>cases hj:nth G j with
       |none=>exact no fun _ _ _=>by rw[zj];simp only[st1,hj]
       |some y=>
             obtain⟨y,st⟩:=y
             exact goX (fun _ _ _=>by rw[zj];simp only[st1,hj];rfl) (R.setGen hj rfl) S (.setGen hj) (fun _ q=>q) (fun _ q=>yz hj q)
              (fun hl=>by have:=eqn hl;subst this;exact step_leaf_gen _ _ _ _ _ (.error e) ..)
  |rule t k=>exact go (fun _ _ _=>by rw[zj];rfl) (fun _=>step_rule ..)
  |«at» p k=>exact go (fun _ _ _=>by rw[zj];rfl) (fun _=>step_at ..)
  |point l k=>exact go (fun _ _ _=>by rw[zj];rfl) (fun _=>step_point ..)
  |ask k=>exact go (fun _ _ _=>by rw[zj];rfl) (fun _=>by rw[O.par];exact step_ask ..)
  |fresh k=>
   obtain⟨α,τ,γ,h1,h2,h3,hα,h⟩:=ih tp T a (i+1) G b lg pc (k s.toks) code pos fs { s with toks:=s.toks+1 } α₀ (At τ₀ i (.of s.toks)) γ₀ ⟨R.slots,R.bound,R.nodup,R.base,R.apart,R.gslots,R.gnodup,R.bare⟩ S N hN hα₀
   refine⟨α,τ,γ,h1,fun j hj=>by rw[h2 j (by omega),At.lt _ _ hj],h3,hα,fun out e l lp=>?_⟩
   have e':exec C X α τ γ n tp T a (i+1) G b lg pc (k ((τ i).tok 0)) code pos fs=some out:=by rw[zj] at e;exact e
   rw[h2 i (by omega),At.self] at e'
   exact(h out e' l lp).step (step_fresh ..) ⟨fun _ _ h _=>h,fun _ _ h _=>h,rfl,Nat.le_refl _⟩ (.keys fun _ q=>q) (fun _ _ _ q=>q) noNew
  |load x part k=>cases tp with
   |nil=>exact no fun _ _ _=>by rw[zj];rfl
   |cons j tp=>cases hj:look C (C.n+a) T j with
    |none=>exact no fun _ _ _=>by rw[zj];simp only[st1,hj]
    |some y=>
     obtain⟨y,o⟩:=y
     cases ho:o.isFreed with
     |true=>exact no fun _ _ _=>by rw[zj];simp only[st1,hj,ho]
     |false=>exact go (fun _ _ _=>by rw[zj];simp only[st1,hj,ho];rfl) (fun hl=>by have:=eqn hl;subst this;exact step_load _ _ _ _ _ _ _ (look_get R hj ho))
  |update x part f k=>cases tp with
   |nil=>exact no fun _ _ _=>by rw[zj];rfl
   |cons j tp=>cases hj:nth T (C.n+a - 1 - j) with
    |none=>exact no fun _ _ _=>by rw[zj];simp only[st1,hj]
    |some y=>
     obtain⟨y,o⟩:=y
     cases ho:o.isFreed with
     |true=>exact no fun _ _ _=>by rw[zj];simp only[st1,hj,ho]
     |false=>cases hf:(f o).isFreed with
      |true=>exact no fun _ _ _=>by rw[zj];simp only[st1,hj,ho,hf]
      |false=>
           exact goX (fun _ _ _=>by rw[zj];simp only[st1,hj,ho,hf];rfl) (R.update hj ho hf) (S.upd (by have:=O.pos;omega) _) (.update hj) (fun _ q=>v7 hj q) (fun _ q=>q)
             (fun hl=>by have:=eqn hl;subst this;exact step_update _ _ _ _ _ _ _ _ (by rw[R.slots _ (zY hj) ho];rfl))
  |alloc o k=>cases hf:o.isFreed with
   |true=>exact no fun _ _ _=>by rw[zj];simp only[st1,hf]
   |false=>
    obtain⟨α,τ,γ,h1,h2,h3,hα,h⟩:=ih tp ((s.heap.objs.size,o)::T) (a+1) i G b lg pc (k s.heap.objs.size) code pos fs { s with heap:=s.heap.push o } (At α₀ a s.heap.objs.size) τ₀ γ₀ (R.alloc hf) (S.cons _) N (by show N≤(s.heap.push o).objs.size;rw[Heap.size_push];omega) (fun j=>by unfold At;split<;>first|exact hN|exact hα₀ j)
    refine⟨α,τ,γ,fun j hj=>by rw[h1 j (by omega),At.lt _ _ hj],h2,h3,hα,fun out e l lp=>?_⟩
    have e':exec C X α τ γ n tp ((α a,o)::T) (a+1) i G b lg pc (k (α a)) code pos fs=some out:=by
     rw[zj] at e;simp only[st1,hf] at e;exact e
    rw[h1 a (by omega),At.self] at e'
    refine(h out e' l lp).step (step_alloc ..) (.alloc o) (fun p hp hl=>?_) (fun _ _ _ q=>q) (fun j h1' h2'=>by rw[show j=a by omega,h1 a (by omega),At.self];exact Nat.le_refl _)
    rcases List.mem_cons.mp hp with rfl|hp
    ·exact absurd hl (Nat.lt_irrefl _)
    ·exact⟨p,hp,rfl⟩
  |handled own k=>cases own with
   |true=>exact no fun _ _ _=>by rw[zj];rfl
   |false=>exact go (fun _ _ _=>by rw[zj];rfl) (fun _=>by rw[step_handled];simp only[Bool.false_eq_true,if_false];rw[U.hdOf])
  |stack k=>exact go (fun _ _ _=>by rw[zj];rfl) (fun _=>by rw[step_stack,List.map_append,U.wh])
  |call c h g l k=>cases tp with
   |nil=>exact no fun _ _ _=>by rw[zj];rfl
   |cons j tp=>cases j with
    |zero=>exact go (fun _ _ _=>by rw[zj];rfl) (fun _=>by rw[hden];exact step_call ..)
    |succ e=>cases tp with
     |nil=>exact no fun _ _ _=>by rw[zj];rfl
     |cons d tp=>cases hE:nth X e with
      |none=>exact no fun _ _ _=>by rw[zj];simp only[st1,hE]
      |some E=>cases hc:cut E.m tp with
       |none=>exact no fun _ _ _=>by rw[zj];simp only[st1,hE,hc]
       |some z=>
        obtain⟨js,tp'⟩:=z
        cases hd:ym (vA (C.n+a) js) with
        |false=>exact no fun _ _ _=>by rw[zj];simp only[st1,hE,hc,hd]
        |true=>cases h with
         |some _=>exact no fun _ _ _=>by rw[zj];simp only[st1,hE,hc,hd]
         |none=>cases hh:hdOk fs with
          |false=>exact no fun _ _ _=>by rw[zj];simp only[st1,hE,hc,hd,hh]
          |true=>cases ho:yv C T (vA (C.n+a) js) with
           |none=>exact no fun _ _ _=>by rw[zj];simp only[st1,hE,hc,hd,hh,ho]
           |some objs=>cases hg:xD E.mg G with
            |none=>exact no fun _ _ _=>by rw[zj];simp only[st1,hE,hc,hd,hh,ho,hg]
            |some zg=>
            obtain⟨gs,G'⟩:=zg
            obtain⟨xs,t,hx,hfresh,H⟩:=HX e E hE s a T G code pos fs c g l k objs d (vA (C.n+a) js) gs G' R hg S ((uW _ _).trans (cut_length hc)) hd hh ho (norm_lt (by have:=O.pos;omega))
            have hAts:∀j,N≤Ats α₀ a xs j:=fun j=>by
             unfold Ats
             split
             ·exact hα₀ j
             ·rw[List.getD_eq_getElem?_getD]
              cases hz:xs[j - a]? with
              |none=>exact hα₀ j
              |some y=>exact Nat.le_trans hN (hfresh y (List.mem_of_getElem? hz))
            have ga:∀(α:Nat→Addr),(∀j,j < a+E.k d→α j=Ats α₀ a xs j)→adrs α a (E.k d)=xs:=fun α hα=>by
             rw[←hx]
             refine adrs_of xs α a fun j hj=>?_
             rw[hα _ (by omega)]
             simp only[Ats]
             rw[if_neg (by omega),Nat.add_sub_cancel_left,List.getD_eq_getElem?_getD,List.getD_eq_getElem?_getD,List.getElem?_eq_getElem hj];rfl
            have un:∀{α τ γ},(∀j,j < a+E.k d→α j=Ats α₀ a xs j)→τ i=t→∀{out},exec C X α τ γ (n+1) ((e+1)::d::tp) T a i G b lg pc (.call c none g l k) code pos fs=some out→Lg.Ok out.lg→Lg.Ok out.pc→
              ∃r T' T'',E.f d c ((code,pos)::(fs.map Frame.where_++C.W)) objs gs xs t=some r∧zL T (vA (C.n+a) js) r.posts=some T'∧xU r.news=true∧zZ T' xs r.news=some T''∧
               exec C X α τ γ n tp' T'' (a+E.k d) (i+1) G' b (r.lg++lg) (r.pc++pc) (k r.res) code pos fs=some out∧Lg.Ok r.lg∧Lg.Ok r.pc:=by
             intro α τ γ hα hτ out e l lp
             rw[zj] at e
             simp only[st1,hE,hc,hd,hh,ho,hg,ga α hα,hτ] at e
             cases hr:E.f d c ((code,pos)::(fs.map Frame.where_++C.W)) objs gs xs t with
             |none=>rw[hr] at e;cases e
             |some r=>
              rw[hr] at e
              dsimp only at e
              cases hp:zL T (vA (C.n+a) js) r.posts with
              |none=>rw[hp] at e;cases e
              |some T'=>
               rw[hp] at e
               dsimp only at e
               cases hf:xU r.news with
               |false=>rw[hf] at e;cases e
               |true=>
                rw[hf] at e
                dsimp only at e
                cases hn:zZ T' xs r.news with
                |none=>rw[hn] at e;cases e
                |some T''=>
                 rw[hn] at e
                 dsimp only at e
                 exact⟨r,T',T'',rfl,hp,hf,hn,e,fun p hq=>l p ((xI n e).1.subset (List.mem_append_left _ hq)),fun p hq=>lp p ((xI n e).2.subset (List.mem_append_left _ hq))⟩
            by_cases hq:∃r T' T'',E.f d c ((code,pos)::(fs.map Frame.where_++C.W)) objs gs xs t=some r∧zL T (vA (C.n+a) js) r.posts=some T'∧xU r.news=true∧zZ T' xs r.news=some T''∧Lg.Ok r.lg∧Lg.Ok r.pc
            ·obtain⟨r,T',T'',hr,hp,hf,hn,hl,hlp⟩:=hq
             obtain⟨s₁,c₁,R₁,k₁⟩:=H r hr hl hlp hf T' T'' hp hn
             obtain⟨α,τ,γ,h1,h2,h3,hα,h⟩:=ih tp' T'' (a+E.k d) (i+1) G' b (r.lg++lg) (r.pc++pc) (k r.res) code pos fs s₁ (Ats α₀ a xs) (At τ₀ i t) γ₀ R₁ (hx▸Sh.new (Sh.put (norm_lt (by have:=O.pos;omega)) S hp) hn) N (Nat.le_trans hN k₁.size) hAts
             refine⟨α,τ,γ,fun j hj=>by rw[h1 j (by omega),Ats.lt _ _ hj],fun j hj=>by rw[h2 j (by omega),At.lt _ _ hj],h3,hα,fun out e l lp=>?_⟩
             obtain⟨r',U',U'',er,ep,_,en,e,_⟩:=un h1 (by rw[h2 i (by omega),At.self]) e l lp
             rw[hr] at er;cases er
             rw[hp] at ep;cases ep
             rw[hn] at en;cases en
             obtain⟨s',c₂,R₂,S₂,k₂,f₂,ol₂⟩:=h out e l lp
             have ol:Old T T'' s.heap.objs.size:=fun p hp' hl=>by
              rcases uX hn p hp' with hp'|hp'
              ·exact(Old.keys (n:=s.heap.objs.size) fun x q=>vV hp q) p hp' hl
              ·exact absurd hl (Nat.not_lt.mpr (hfresh _ hp'))
             refine⟨s',.trans c₁ c₂,R₂,S₂,k₁.trans_sub k₂ ol.ne (fun _ _ _ q p hp=>q p (takeG_mem hg p hp)),fun j hj1 hj2=>?_,ol.trans ol₂ k₁.size⟩
             by_cases hj3:j < a+E.k d
             ·rw[h1 j hj3]
              simp only[Ats]
              rw[if_neg (by omega)]
              have hj4:j - a < xs.length:=by omega
              rw[List.getD_eq_getElem?_getD,List.getElem?_eq_getElem hj4,Option.getD_some]
              exact hfresh _ (List.getElem_mem _)
             ·exact Nat.le_trans k₁.size (f₂ j (by omega) hj2)
            ·refine⟨Ats α₀ a xs,At τ₀ i t,γ₀,fun j hj=>Ats.lt _ _ hj,fun j hj=>At.lt _ _ hj,fun _ _=>rfl,hAts,fun out e l lp=>?_⟩
             obtain⟨r,T',T'',hr,hp,hf,hn,_,hl,hlp⟩:=un (fun _ _=>rfl) (At.self ..) e l lp
             exact absurd ⟨r,T',T'',hr,hp,hf,hn,hl,hlp⟩ hq
  |newGen c k=>
   obtain⟨α,τ,γ,h1,h2,h3,hα,h⟩:=ih tp T a i ((s.gens.size,.fresh c)::G) (b+1) lg pc (k s.gens.size) code pos fs { s with gens:=s.gens.push (.fresh c) } α₀ τ₀ (At γ₀ b s.gens.size) (R.newGen c) S N hN hα₀
   refine⟨α,τ,γ,h1,h2,fun j hj=>by rw[h3 j (by omega),At.lt _ _ hj],hα,fun out e l lp=>?_⟩
   have e':exec C X α τ γ n tp T a i ((γ b,.fresh c)::G) (b+1) lg pc (k (γ b)) code pos fs=some out:=by rw[zj] at e;exact e
   rw[h3 b (by omega),At.self] at e'
   refine(h out e' l lp).step (step_newGen ..) (.newGen c) (.keys fun _ q=>q) (fun g st hx q p hp=>?_) noNew
   rcases List.mem_cons.mp hp with rfl|hp
   ·exact Nat.ne_of_gt (Array.getElem?_eq_some_iff.mp hx).1
   ·exact q p hp
  |genState g k=>cases tp with
   |nil=>exact no fun _ _ _=>by rw[zj];rfl
   |cons j tp=>cases hj:nth G j with
    |none=>exact no fun _ _ _=>by rw[zj];simp only[st1,hj]
    |some y=>
          obtain⟨y,st⟩:=y
          exact go (fun _ _ _=>by rw[zj];simp only[st1,hj];rfl) (fun hl=>by have:=eqn hl;subst this;exact step_genState _ _ _ _ _ _ (R.gslots _ (zY hj)))
  |resume g r l k=>cases tp with
   |nil=>exact no fun _ _ _=>by rw[zj];rfl
   |cons j tp=>cases hj:nth G j with
    |none=>exact no fun _ _ _=>by rw[zj];simp only[st1,hj]
    |some y=>
     obtain⟨y,st⟩:=y
     have hg:=R.gslots _ (zY hj)
     cases st with
     |fresh c=>cases r with
      |throw x=>exact no fun _ _ _=>by rw[zj];simp only[st1,hj]
      |send v=>cases v with
       |none=>
            exact goX (fun _ _ _=>by rw[zj];simp only[st1,hj];rfl) (R.setGen hj rfl) S (.setGen hj) (fun _ q=>q) (fun _ q=>yz hj q)
             (fun hl=>by have:=eqn hl;subst this;rw[hden];exact step_resume_fresh _ _ _ _ _ _ _ hg)
       | _=>exact no fun _ _ _=>by rw[zj];simp only[st1,hj]
     |suspended kk ll c p frames cl=>
      exact goX (fun _ _ _=>by rw[zj];simp only[st1,hj];rfl) (R.setGen hj rfl) S (.setGen hj) (fun _ q=>q) (fun _ q=>yz hj q)
       (fun hl=>by have:=eqn hl;subst this;simpa only[List.append_assoc,List.cons_append] using step_resume_suspended _ _ _ _ _ _ _ _ hg)
     |running=>exact no fun _ _ _=>by rw[zj];simp only[st1,hj]
     |finished=>exact no fun _ _ _=>by rw[zj];simp only[st1,hj]
  |yield v g0 l kk=>cases hsp:splitAtGen fs with
   |none=>exact no fun _ _ _=>by rw[zj];simp only[st1,hsp]
   |some z=>
    obtain⟨frames,⟨g,k,c,p⟩,rest⟩:=z
    cases hgd:(g0 || frames.any Frame.guarded) with
    |true=>exact no fun _ _ _=>by rw[zj];simp only[st1,hsp,hgd]
    |false=>cases tp with
     |nil=>exact no fun _ _ _=>by rw[zj];simp only[st1,hsp,hgd]
     |cons j tp=>cases hj:nth G j with
      |none=>exact no fun _ _ _=>by rw[zj];simp only[st1,hsp,hgd,hj]
      |some y=>
       obtain⟨y,st⟩:=y
       have hx:(GenState.suspended kk l code pos frames (g0 || frames.any Frame.guarded)).bare=true:=by simp[GenState.bare,hgd]
       refine goX (fun _ _ _=>by rw[zj];simp only[st1,hsp,hgd,hj];rfl) (R.setGen hj (x:=.suspended kk l code pos frames false) rfl) S (.setGen hj) (fun _ q=>q) (fun _ q=>yz hj q) (fun hl=>?_)
       have:=eqn hl
       subst this
       have q:=step_yield (model C.prog w) s code pos (fs++F) v g0 l kk (splitAtGen_append_some F hsp) (by simp[End.quiet,hgd])
       simpa only[End.genState,hgd] using q
  | _=>exact no fun _ _ _=>by rw[zj];rfl
theorem sound(O:C.Ok w)(U:Under C F)(HX:∀e E,nth X e=some E→ExtOk C w F E)(n:Nat)(tp:List Nat)(T:zh)(a i:Nat)(G:zM)(b:Nat)(lg pc:Lg)(cur:Sem Fin)(code:Code)(pos:Pos)(fs:List Frame)(s:Shared)(α₀:Nat→Addr)(τ₀:Nat→Ch)(γ₀:Nat→Nat)
  (R:Rel C T G s) (S:Sh C a T):∃α τ γ,(∀j,j < a→α j=α₀ j)∧(∀j,j < i→τ j=τ₀ j)∧(∀j,j < b→γ j=γ₀ j)∧
    ∀out,exec C X α τ γ n tp T a i G b lg pc cur code pos fs=some out→Lg.Ok out.lg→Lg.Ok out.pc→Goes C w F α a T G s cur code pos fs out:=by
 obtain⟨α,τ,γ,h1,h2,h3,_,h⟩:=soundN O U HX n tp T a i G b lg pc cur code pos fs s α₀ τ₀ γ₀ R S 0 (Nat.zero_le _) (fun _=>Nat.zero_le _)
 exact⟨α,τ,γ,h1,h2,h3,h⟩
end
def yf(wh:List (Code × Pos)):Around:={ handled:=none,depth:=frameCount wh,frames:=none,guards:=none,units:=unitsOf wh }
theorem uN{M:Model}{Γ:Ctx}{p:Pos}{t:Sem Fin}{fs:List Frame}{s s':Shared}{e:End}(h:Runs M Γ p t fs s e s'):s.heap.objs.size≤s'.heap.objs.size:=by
 induction h<;>(try simp only[Shared.setGen,Heap.size_push,Heap.size_update] at *)<;>omega
theorem codeAny_comes{M:Model}{c:Code}{R:Result→Shared→Prop}{s:Shared}{code:Code}{pos:Pos}{F:List Frame}(hd:topHandled F=none)
  (h:codeAny M (yf ((code,pos)::F.map Frame.where_)) c R s) :
  ∃r s₁,R r s₁∧s.heap.objs.size≤s₁.heap.objs.size∧∀(g:Bool) (l:List Value) (k:Result→Sem Fin),Comes M s ⟨.call c none g l k,code,pos,F⟩ s₁ ⟨k r,code,pos,F⟩:=by
 have hf:=Ctx.fits_of code F
 obtain⟨r,s₁,hr,hR⟩:=h ((Ctx.of code F).enter c none pos) pos rfl ⟨hd,Nat.le_refl _,(fun l hl=>by cases hl),(fun l hl=>by cases hl),Nat.le_refl _⟩
 refine⟨r,s₁,hR,uN hr,fun g l k=>?_⟩
 obtain⟨t',c',p',pre',hc₁,hx⟩:=(runs_reach hr _ (hf.enter c k none g l pos [])).comes
 obtain⟨rfl,rfl⟩:=hx
 exact .step (step_call ..) (.trans hc₁ (.step (step_leaf_ret ..) (.refl _ _)))
structure Eff (s s':Shared) (objs:zh) (gs:zM) (posts:List Obj) (xs:List Addr) (news:List Obj):Prop where
 heap:∀x o,s.heap.get? x=some o→(∀p∈objs.take posts.length,p.1≠x)→s'.heap.get? x=some o
 posts:∀p∈(objs.map (·.1)).zip posts,p.2.isFreed=false→s'.heap.get? p.1=some p.2
 news:∀p∈xs.zip news,s'.heap.get? p.1=some p.2
 nodup:xs.Nodup
 gens:∀g st,s.gens[g]?=some st→(∀p∈gs,p.1≠g)→s'.gens[g]?=some st
 bare:AllBare s.gens→AllBare s'.gens
 os:s'.os=s.os
def zH(w:World)(tl:zh)(E:Ext):Prop:=
 ∀(prog:Program) (s:Shared) (d:Nat) (c:Code) (wh:List (Code × Pos)) (objs:zh) (gs:zM),objs.length=E.m→(∀p∈objs,s.heap.get? p.1=some p.2)→(∀p∈gs,s.gens[p.1]?=some p.2)→(∀p∈tl,p.2.isFreed=false→s.heap.get? p.1=some p.2)→
  ∃(xs:List Addr) (t:Ch),xs.length=E.k d∧(∀y∈xs,s.heap.objs.size≤y)∧∀r,E.f d c wh objs gs xs t=some r→Lg.Ok r.lg→Lg.Ok r.pc→
   ∃s',codeAny (model prog w) (yf wh) c (fun res s₁=>res=r.res∧s₁=s') s∧Eff s s' objs gs r.posts xs r.news
theorem yW{C:Cfg}{T:zh}{j:Nat}{js:List Nat}{objs:zh}(h:yv C T (j::js)=some objs):∃x xs,xV C T j=some x∧x.2.isFreed=false∧yv C T js=some xs∧objs=x::xs:=by
 unfold yv at h
 cases h1:xV C T j with
 |none=>rw[h1] at h;cases h
 |some x=>
  rw[h1] at h
  dsimp only at h
  cases hf:x.2.isFreed with
  |true=>rw[hf] at h;cases h
  |false=>
   rw[hf] at h
   dsimp only at h
   cases h2:yv C T js with
   |none=>rw[h2] at h;cases h
   |some xs=>
    rw[h2] at h
    simp only[Option.some.injEq] at h
    exact⟨x,xs,rfl,hf,rfl,h.symm⟩
theorem uE{C:Cfg}{T G s}(R:Rel C T G s):∀{js:List Nat} {objs:zh},yv C T js=some objs→∀p∈objs,s.heap.get? p.1=some p.2
 |[],objs,h,p,hp=>by simp only[yv,Option.some.injEq] at h;subst h;cases hp
 |j::js,objs,h,p,hp=>by
  obtain⟨x,xs,h1,hf,h2,rfl⟩:=yW h
  rcases List.mem_cons.mp hp with rfl|hp
  ·unfold xV at h1
   split at h1
   ·exact R.base _ _ h1
   ·exact R.slots _ (zY h1) hf
  ·exact uE R h2 p hp
theorem xj{C:Cfg}{T}:∀{js:List Nat} {objs:zh},yv C T js=some objs→objs.length=js.length
 |[],objs,h=>by simp only[yv,Option.some.injEq] at h;subst h;rfl
 |j::js,objs,h=>by
  obtain⟨x,xs,h1,hf,h2,rfl⟩:=yW h
  rw[List.length_cons,List.length_cons,xj h2]
theorem wR:∀{xs:List Addr} {os:List Obj} {T T':zh},zZ T xs os=some T'→T'=(xs.zip os).reverse++T∧xs.length=os.length
 |[],[],T,T',h=>by simp only[zZ,Option.some.injEq] at h;subst h;exact⟨rfl,rfl⟩
 |x::xs,o::os,T,T',h=>by
  obtain⟨e,l⟩:=wR (xs:=xs) (os:=os) h
  exact⟨by rw[e];simp,by simp[l]⟩
 |[],_::_,_,_,h=>by simp[zZ] at h
 | _::_,[],_,_,h=>by simp[zZ] at h
theorem notIn_ne{j:Nat}:∀{l:List Nat},notIn j l=true→j∉l
 |[],_,h=>by cases h
 |i::l,hn,h=>by
  unfold notIn at hn
  split at hn
  ·cases hn
  ·rename_i hb
   rcases List.mem_cons.mp h with rfl|h
   ·simp at hb
   ·exact notIn_ne hn h
theorem yi:∀{l:List Nat},ym l=true→l.Nodup
 |[],_=>List.nodup_nil
 |j::l,h=>by
  unfold ym at h
  split at h
  ·rename_i hn
   exact List.nodup_cons.mpr ⟨notIn_ne hn,yi h⟩
  ·cases h
theorem nth_upd_ne{α:Type}:∀{l:List α} {i j:Nat} {y:α},i≠j→nth (upd l i y) j=nth l j
 |[],_,_,_,_=>rfl
 | _::_,0,0,_,h=>absurd rfl h
 | _::_,0,_+1,_,_=>rfl
 | _::_,_+1,0,_,_=>rfl
 | _::l,i+1,j+1,y,h=>nth_upd_ne (l:=l) (fun e=>h (by rw[e]))
theorem look1_upd{C:Cfg}{T:zh}{i j:Nat}{y}(hi:i % 2=1)(h:i≠j):xV C (upd T (i / 2) y) j=xV C T j:=by
 unfold xV
 split
 ·rfl
 ·rename_i hb
  have:j % 2≠0:=fun e=>by rw[e] at hb;cases hb
  exact nth_upd_ne (by omega)
theorem uD{C:Cfg}{T:zh}{i:Nat}{y}(hi:i % 2=1):∀{js:List Nat},i∉js→yv C (upd T (i / 2) y) js=yv C T js
 |[],_=>rfl
 |j::js,h=>by
  unfold yv
  rw[look1_upd hi (fun e=>h (e▸.head _)),uD hi (fun q=>h (.tail _ q))]
theorem wT{C:Cfg}:∀{js:List Nat} {ps:List Obj} {T T':zh} {objs:zh},zL T js ps=some T'→yv C T js=some objs→js.Nodup→(T.map (·.1)).Nodup→
  (T'.map (·.1)=T.map (·.1))∧∀p∈T',p∈(objs.map (·.1)).zip ps∨(p∈T∧∀q∈objs.take ps.length,q.1≠p.1)
 |[],[],T,T',objs,h,_,_,_=>by
  simp only[zL,Option.some.injEq] at h
  subst h
  exact⟨rfl,fun p hp=>.inr ⟨hp,fun q hq=>by simp at hq⟩⟩
 | _::_,[],T,T',objs,h,_,_,_=>by
  simp only[zL,Option.some.injEq] at h
  subst h
  exact⟨rfl,fun p hp=>.inr ⟨hp,fun q hq=>by simp at hq⟩⟩
 |[],_::_,_,_,_,h,_,_,_=>by simp[zL] at h
 |j::js,o::ps,T,T',objs,h,hl,hj,nd=>by
  unfold zL at h
  split at h
  ·rename_i hb
   have h1:j % 2=1:=Nat.eq_of_beq_eq_true hb
   cases hn:nth T (j / 2) with
   |none=>rw[hn] at h;cases h
   |some y=>
    obtain⟨y,o'⟩:=y
    rw[hn] at h
    dsimp only at h
    have h3:xV C T j=some (y,o'):=by
     unfold xV
     have:Nat.beq (j % 2) 0=false:=by rw[h1];rfl
     rw[this];exact hn
    obtain⟨x,xs,e1,hf,h2,rfl⟩:=yW hl
    rw[h3] at e1
    cases e1
    have hj':=List.nodup_cons.mp hj
    have ek:(upd T (j / 2) (y,o)).map (·.1)=T.map (·.1):=wG (·.1) (y:=(y,o)) hn rfl
    obtain⟨e,H⟩:=wT (C:=C) (objs:=xs) h (by rw[uD h1 hj'.1];exact h2) hj'.2 (by rw[ek];exact nd)
    refine⟨e.trans ek,fun p hp=>?_⟩
    rcases H p hp with hp|⟨hp,hq⟩
    ·exact .inl (by rw[List.map_cons,List.zip_cons_cons];exact .tail _ hp)
    ·rcases xG (·.1) (y:=(y,o)) hn rfl nd hp with rfl|⟨hp,hne⟩
     ·exact .inl (by rw[List.map_cons,List.zip_cons_cons];exact .head _)
     ·refine .inr ⟨hp,fun q hq'=>?_⟩
      rw[List.length_cons,List.take_succ_cons] at hq'
      rcases List.mem_cons.mp hq' with rfl|hq'
      ·exact Ne.symm hne
      ·exact hq q hq'
  ·cases h
theorem uV{C:Cfg}:∀{js:List Nat} {ps:List Obj} {T T':zh} {objs:zh},yv C T js=some objs→js.Nodup→zL T js ps=some T'→∀q∈objs.take ps.length,∃p∈T,p.1=q.1
 |[],_,T,T',objs,hl,_,_=>by
  simp only[yv,Option.some.injEq] at hl
  subst hl
  intro q hq
  simp at hq
 | _::_,[],_,_,_,_,_,_=>by intro q hq;simp at hq
 |j::js,o::ps,T,T',objs,hl,hd,hp=>by
  unfold zL at hp
  split at hp
  ·rename_i hb
   have h1:j % 2=1:=Nat.eq_of_beq_eq_true hb
   cases hnn:nth T (j / 2) with
   |none=>rw[hnn] at hp;cases hp
   |some y=>
    obtain⟨y,o'⟩:=y
    rw[hnn] at hp
    dsimp only at hp
    have h3:xV C T j=some (y,o'):=by
     unfold xV
     have:Nat.beq (j % 2) 0=false:=by rw[h1];rfl
     rw[this];exact hnn
    obtain⟨x,xs',e1,hf,h2,rfl⟩:=yW hl
    rw[h3] at e1
    cases e1
    intro q hq
    rw[List.length_cons,List.take_succ_cons] at hq
    rcases List.mem_cons.mp hq with rfl|hq
    ·exact⟨_,zY hnn,rfl⟩
    ·have hj':=List.nodup_cons.mp hd
     have ek:(upd T (j / 2) (y,o)).map (·.1)=T.map (·.1):=wG (·.1) (y:=(y,o)) hnn rfl
     have key:∀{T₁:zh} {x:Nat},(∃p∈T₁,p.1=x)↔x∈T₁.map (·.1):=fun {T₁ x}=>by simp
     rw[key,←ek,←key]
     exact uV (by rw[uD h1 hj'.1];exact h2) hj'.2 hp q hq
  ·cases hp
theorem takeG_apart{b:Bool}{G gs G':zM}(h:xD b G=some (gs,G'))(nd:(G.map (·.1)).Nodup):∀p∈G',∀q∈gs,q.1≠p.1:=by
 unfold xD at h
 (split at h)<;>simp only[Option.some.injEq,Prod.mk.injEq,reduceCtorEq] at h
 ·intro p _ q hq;rw[←h.1] at hq;cases hq
 ·intro p hp q hq e
  rw[←h.1] at hq
  rw[←h.2] at hp
  rcases List.mem_cons.mp hq with rfl|hq
  ·exact(List.nodup_cons.mp nd).1 (List.mem_map.mpr ⟨p,hp,e.symm⟩)
  ·cases hq
theorem takeG_nodup{b:Bool}{G gs G':zM}(h:xD b G=some (gs,G'))(nd:(G.map (·.1)).Nodup):(G'.map (·.1)).Nodup:=by
 unfold xD at h
 (split at h)<;>simp only[Option.some.injEq,Prod.mk.injEq,reduceCtorEq] at h
 ·exact h.2▸nd
 ·exact h.2▸(List.nodup_cons.mp nd).2
theorem Rel.after{C:Cfg}{T G s s'}(R:Rel C T G s){js:List Nat}{objs:zh}{posts news:List Obj}{xs:List Addr}{T' T'':zh}(hl:yv C T js=some objs)(hd:js.Nodup)
  (hp:zL T js posts=some T') (hn:zZ T' xs news=some T'') (hx:∀y∈xs,s.heap.objs.size≤y) {gs G':zM} {mg:Bool} (hg:xD mg G=some (gs,G')) (E:Eff s s' objs gs posts xs news) (hsz:s.heap.objs.size≤s'.heap.objs.size):Rel C T'' G' s'∧Kp T G s s':=by
 obtain⟨e,H⟩:=wT hp hl hd R.nodup
 obtain⟨rfl,hlen⟩:=wR hn
 have own:=uV hl hd hp
 refine⟨⟨fun p hpm hfr=>?_,fun p hpm=>?_,?_,fun L p h=>?_,fun p hpm L q hq=>?_,fun p hpm=>E.gens _ _ (R.gslots p (takeG_mem hg p hpm)) (takeG_apart hg R.gnodup p hpm),takeG_nodup hg R.gnodup,E.bare R.bare⟩,⟨fun x o hx' hT=>?_,fun g st h hne=>E.gens _ _ h fun p hp=>hne p (vx hg p hp),E.os,hsz⟩⟩
 ·rcases List.mem_append.mp hpm with hpm|hpm
  ·exact E.news p (List.mem_reverse.mp hpm)
  ·rcases H p hpm with h|⟨h,hne⟩
   ·exact E.posts p h hfr
   ·exact E.heap _ _ (R.slots p h hfr) hne
 ·rcases List.mem_append.mp hpm with hpm|hpm
  ·exact Heap.lt_size (E.news p (List.mem_reverse.mp hpm))
  ·have:p.1∈T.map (·.1):=by rw[←e];exact List.mem_map_of_mem hpm
   obtain⟨r,hr,er⟩:=List.mem_map.mp this
   rw[←er];exact Nat.lt_of_lt_of_le (R.bound r hr) hsz
 ·rw[List.map_append,List.nodup_append]
  refine⟨?_,by rw[e];exact R.nodup,?_⟩
  ·rw[List.map_reverse]
   refine(List.reverse_perm _).nodup_iff.mpr ?_
   rw[List.map_fst_zip (by omega)];exact E.nodup
  ·intro a ha b hb hab
   subst hab
   rw[e] at hb
   obtain⟨p,hp1,hp2⟩:=List.mem_map.mp ha
   have h1:p.1∈xs:=(List.of_mem_zip (List.mem_reverse.mp hp1)).1
   obtain⟨q,hq1,hq2⟩:=List.mem_map.mp hb
   have h3:=R.lt hq1
   have h4:=hx _ h1
   rw[hp2] at h4;rw[hq2] at h3;exact absurd h3 (Nat.not_lt.mpr h4)
 ·refine E.heap _ _ (R.base L p h) fun q hq=>?_
  obtain⟨r,hr,er⟩:=own q hq
  rw[←er];exact Ne.symm (R.apart r hr L p h)
 ·rcases List.mem_append.mp hpm with hpm|hpm
  ·have h1:p.1∈xs:=(List.of_mem_zip (List.mem_reverse.mp hpm)).1
   have h2:=Heap.lt_size (R.base L q hq)
   exact Nat.ne_of_lt (Nat.lt_of_lt_of_le h2 (hx _ h1))
  ·have:p.1∈T.map (·.1):=by rw[←e];exact List.mem_map_of_mem hpm
   obtain⟨r,hr,er⟩:=List.mem_map.mp this
   rw[←er];exact R.apart r hr L q hq
 ·refine E.heap _ _ hx' fun q hq=>?_
  obtain⟨r,hr,er⟩:=own q hq
  rw[←er];exact hT r hr
theorem ExtOk.leaf{C:Cfg}{w:World}{F:List Frame}{E:Ext}(U:Under C F)(h:zH w C.tail E):ExtOk C w F E:=by
 intro s a T G code pos fs c g l k objs d js gs G' R hg S hm hd hh hl _
 obtain⟨xs,t,hx,hf,H⟩:=h C.prog s d c ((code,pos)::(fs.map Frame.where_++C.W)) objs gs ((xj hl).trans hm) (uE R hl) (fun p hp=>R.gslots p (vx hg p hp)) (fun p hp hf=>by
  obtain⟨Ex,hEx,_⟩:=S
  exact R.slots p (by rw[hEx];exact List.mem_append_right _ hp) hf)
 refine⟨xs,t,hx,hf,fun r hr lo po nf T' T'' hp hn=>?_⟩
 obtain⟨s',hc,E'⟩:=H r hr lo po
 have hw:(code,pos)::(fs.map Frame.where_++C.W)=(code,pos)::(fs++F).map Frame.where_:=by rw[List.map_append,U.wh]
 rw[hw] at hc
 have ht:topHandled (fs++F)=none:=by
  rw[U.hdOf]
  unfold hdOk at hh
  unfold hdOf
  generalize marksOver fs (none,none)=z at hh
  obtain⟨x,y⟩:=z
  cases x<;>cases y<;>first|rfl|cases hh
 obtain⟨res,s₁,⟨e1,e2⟩,hsz,hcm⟩:=codeAny_comes ht hc
 subst e1 e2
 exact⟨s₁,hcm g l k,R.after hl (yi hd) hp hn hf hg E' hsz⟩
structure Exp where
 cur:Sem Fin
 code:Code
 pos:Pos
 fs:List Frame
 T:zh
 G:zM
 pc:Lg
def vY(m:Nat)(T:zh):List Nat→Option zh
 |[]=>some []
 |j::js=>match Nat.blt j m with
  |true=>match nth T j with
   |some x=>match vY m T js with
    |some xs=>some (x::xs)
    |none=>none
   |none=>none
  |false=>none
abbrev View:=Option (List LV × (Sem Fin × Code × Pos × List Frame) × Option zh × zM × Lg × Nat) × Bool
def lhs(n:Nat)(sel:List Nat)(E:Option Out):View:=match E with
 |some o=>(some (o.lg.map (·.1),(o.cur,o.code,o.pos,o.fs),vY (n+o.a) o.T sel,o.G,o.pc,o.a),true)
 |none=>(none,true)
def rhs(a:Nat)(x:Exp)(E:Option Out):View:=match E with
 |some o=>(some (o.lg.map (·.2),(x.cur,x.code,x.pos,x.fs),some x.T,x.G,x.pc,a),true)
 |none=>(none,false)
theorem Lg.ok_of:∀{l:Lg},l.map (·.1)=l.map (·.2)→Lg.Ok l
 |[],_,p,h=>by cases h
 |q::l,e,p,h=>by
  simp only[List.map_cons,List.cons.injEq] at e
  rcases List.mem_cons.mp h with rfl|h
  ·exact e.1
  ·exact Lg.ok_of e.2 p h
theorem lhs_rhs{n a:Nat}{sel:List Nat}{x:Exp}{E:Option Out}(h:lhs n sel E=rhs a x E) :
  ∃o,E=some o∧Lg.Ok o.lg∧o.cur=x.cur∧o.code=x.code∧o.pos=x.pos∧o.fs=x.fs∧vY (n+o.a) o.T sel=some x.T∧o.G=x.G∧o.pc=x.pc∧o.a=a:=by
 cases E with
 |none=>exact absurd (congrArg Prod.snd h) (by simp[lhs,rhs])
 |some o=>
  simp only[lhs,rhs,Prod.mk.injEq,Option.some.injEq,and_true] at h
  obtain⟨h1,⟨h2,h3,h4,h5⟩,h6,h7,h8,h9⟩:=h
  exact⟨o,rfl,Lg.ok_of h1,h2,h3,h4,h5,h6,h7,h8,h9⟩
theorem xT{m:Nat}{T:zh}:∀{sel:List Nat} {P:zh},vY m T sel=some P→∀p∈P,∃j∈sel,j < m∧nth T j=some p
 |[],P,h,p,hp=>by simp only[vY,Option.some.injEq] at h;subst h;cases hp
 |j::js,P,h,p,hp=>by
  unfold vY at h
  split at h
  ·rename_i hb
   split at h
   ·rename_i x hx
    split at h
    ·rename_i xs hxs
     simp only[Option.some.injEq] at h
     subst h
     rcases List.mem_cons.mp hp with rfl|hp
     ·refine⟨j,.head _,?_,hx⟩
      have:Nat.ble (j+1) m=true:=hb
      exact Nat.le_of_ble_eq_true this
     ·obtain⟨i,hi,h1,h2⟩:=xT hxs p hp
      exact⟨i,.tail _ hi,h1,h2⟩
    ·cases h
   ·cases h
  ·cases h
theorem xa{α:Type}:∀{l:List α} {j:Nat} {x:α},nth l j=some x→l[j]?=some x
 |[],_,_,h=>by simp[nth] at h
 |y::l,0,x,h=>by simpa [nth] using h
 |y::l,j+1,x,h=>by simpa using xa (l:=l) h
theorem nth_inj{T:zh}(nd:(T.map (·.1)).Nodup){i j:Nat}{p q:Addr × Obj}(hi:nth T i=some p)(hj:nth T j=some q)(h:p.1=q.1):i=j:=by
 have h1:(T.map (·.1))[i]?=some p.1:=by simp[xa hi]
 have h2:(T.map (·.1))[j]?=some q.1:=by simp[xa hj]
 have hl:i < (T.map (·.1)).length:=by
  rcases Nat.lt_or_ge i (T.map (·.1)).length with hl|hl
  ·exact hl
  ·rw[List.getElem?_eq_none hl] at h1;cases h1
 exact(List.getElem?_inj hl nd).mp (by rw[h1,h2,h])
theorem uU{m:Nat}{T:zh}(nd:(T.map (·.1)).Nodup):∀{sel:List Nat} {P:zh},vY m T sel=some P→sel.Nodup→(P.map (·.1)).Nodup
 |[],P,h,_=>by simp only[vY,Option.some.injEq] at h;subst h;exact List.nodup_nil
 |j::js,P,h,hs=>by
  have h0:=h
  unfold vY at h
  split at h
  ·split at h
   ·rename_i x hx
    split at h
    ·rename_i xs hxs
     simp only[Option.some.injEq] at h
     subst h
     have hs':=List.nodup_cons.mp hs
     refine List.nodup_cons.mpr ⟨fun hm=>?_,uU nd hxs hs'.2⟩
     obtain⟨p,hp,e⟩:=List.mem_map.mp hm
     obtain⟨i,hi,_,hn⟩:=xT hxs p hp
     exact hs'.1 (nth_inj nd hn hx e▸hi)
    ·cases h
   ·cases h
  ·cases h
theorem Rel.sub{C:Cfg}{T T' G G' s}(R:Rel C T G s)(h:∀p∈T',p∈T)(nd:(T'.map (·.1)).Nodup)(hG:∀p∈G',p∈G)(nG:(G'.map (·.1)).Nodup):Rel C T' G' s:=
 ⟨fun p hp=>R.slots p (h p hp),fun p hp=>R.bound p (h p hp),nd,R.base,fun p hp=>R.apart p (h p hp),fun p hp=>R.gslots p (hG p hp),nG,R.bare⟩
section
variable {C:Cfg} {X:List Ext} {w:World} {F:List Frame}
theorem go_of(O:C.Ok w)(U:Under C F)(HX:∀e E,nth X e=some E→ExtOk C w F E){n na:Nat}{tp:List Nat}{T:zh}{G:zM}{cur:Sem Fin}{code:Code}{pos:Pos}{fs:List Frame}{s:Shared}
  (x:(Nat→Addr)→(Nat→Ch)→(Nat→Nat)→Exp) (sel:List Nat)
  (h:∀α τ γ,lhs C.n sel (exec C X α τ γ n tp (T++C.tail) 0 0 G 0 [] [] cur code pos fs)=rhs na (x α τ γ) (exec C X α τ γ n tp (T++C.tail) 0 0 G 0 [] [] cur code pos fs))
  (hsel:ym sel=true) (hT:T.length=C.n) (hpc:∀α τ γ,Lg.Ok (x α τ γ).pc) (R:Rel C (T++C.tail) G s) :
  ∃α τ γ s',Comes (model C.prog w) s ⟨cur,code,pos,fs++F⟩ s' ⟨(x α τ γ).cur,(x α τ γ).code,(x α τ γ).pos,(x α τ γ).fs++F⟩∧Rel C ((x α τ γ).T++C.tail) (x α τ γ).G s'∧
   Kp (T++C.tail) G s s'∧(∀j,j < na→s.heap.objs.size≤α j)∧Old (T++C.tail) ((x α τ γ).T++C.tail) s.heap.objs.size:=by
 obtain⟨α,τ,γ,_,_,_,H⟩:=sound O U HX n tp (T++C.tail) 0 0 G 0 [] [] cur code pos fs s (fun _=>0) (fun _=>.of 0) (fun _=>0) R ⟨T,rfl,by rw[hT];rfl⟩
 obtain⟨o,e,hl,h1,h2,h3,h4,h5,h6,h7,h8⟩:=lhs_rhs (h α τ γ)
 obtain⟨s',c,R',S',K,f,ol⟩:=H o e hl (by rw[h7];exact hpc α τ γ)
 obtain⟨E,hE,hlen⟩:=S'
 have hnd:=R'.nodup
 have sb:∀p∈(x α τ γ).T++C.tail,p∈o.T:=fun p hp=>by
  rcases List.mem_append.mp hp with hp|hp
  ·obtain⟨j,_,_,hn⟩:=xT h5 p hp
   exact zY hn
  ·rw[hE];exact List.mem_append_right _ hp
 refine⟨α,τ,γ,s',by rw[h1,h2,h3,h4] at c;exact c,?_,K,fun j hj=>f j (Nat.zero_le _) (by rw[h8];exact hj),fun p hp hl=>ol p (sb p hp) hl⟩
 rw[←h6]
 have inE:∀{j p},j < C.n+o.a→nth o.T j=some p→p∈E:=fun {j p} hj hn=>by
  have:=xa hn
  rw[hE,List.getElem?_append_left (by omega)] at this
  exact List.mem_of_getElem? this
 refine R'.sub (fun p hp=>?_) ?_ (fun _ hp=>hp) R'.gnodup
 ·rcases List.mem_append.mp hp with hp|hp
  ·obtain⟨j,_,_,hn⟩:=xT h5 p hp
   exact zY hn
  ·rw[hE];exact List.mem_append_right _ hp
 ·rw[List.map_append,List.nodup_append]
  refine⟨uU hnd h5 (yi hsel),?_,fun a ha b hb hab=>?_⟩
  ·rw[hE,List.map_append] at hnd;exact(List.nodup_append.mp hnd).2.1
  ·subst hab
   obtain⟨p,hp,rfl⟩:=List.mem_map.mp ha
   obtain⟨j,_,hj,hn⟩:=xT h5 p hp
   rw[hE,List.map_append] at hnd
   exact(List.nodup_append.mp hnd).2.2 _ (List.mem_map_of_mem (inE hj hn)) _ hb rfl
end
structure UOut where
 res:Result
 posts:List Obj
 news:List Obj
def mkE(m:Nat)(k:Nat→Nat){Y:Type}(pre:Nat→Code→List (Code × Pos)→zh→Option Y)(lg pc:Y→Lg)(out:Y→List Addr→Ch→UOut):Ext:=
 ⟨m,k,false,fun d c wh objs _ xs t=>match pre d c wh objs with
  |some y=>some ⟨(out y xs t).res,(out y xs t).posts,(out y xs t).news,lg y,pc y⟩
  |none=>none⟩
def Cfg.at(C:Cfg)(wh:List (Code × Pos))(m:Nat):Cfg:={ C with W:=wh,n:=m }
theorem Rel.cfg{C C':Cfg}{T G s}(h:C'.base=C.base)(R:Rel C T G s):Rel C' T G s:=
 ⟨R.slots,R.bound,R.nodup,fun L p e=>R.base L p (h▸e),fun p hp L q e=>R.apart p hp L q (h▸e),R.gslots,R.gnodup,R.bare⟩
theorem wV{C:Cfg}{T:zh}:∀{js:List Nat} {objs:zh},yv C T js=some objs→(∀j∈js,j % 2=1)→∀p∈objs,∃j∈js,nth T (j / 2)=some p
 |[],objs,h,_,p,hp=>by simp only[yv,Option.some.injEq] at h;subst h;cases hp
 |j::js,objs,h,ho,p,hp=>by
  obtain⟨x,xs,h1,hf,h2,rfl⟩:=yW h
  rcases List.mem_cons.mp hp with rfl|hp
  ·refine⟨j,.head _,?_⟩
   unfold xV at h1
   rw[show Nat.beq (j % 2) 0=false by rw[ho j (.head _)];rfl] at h1
   exact h1
  ·obtain⟨i,hi,e⟩:=wV h2 (fun j hj=>ho j (.tail _ hj)) p hp
   exact⟨i,.tail _ hi,e⟩
theorem uZ{C:Cfg}{T:zh}(nd:(T.map (·.1)).Nodup):∀{js:List Nat} {objs:zh},yv C T js=some objs→(∀j∈js,j % 2=1)→js.Nodup→(objs.map (·.1)).Nodup
 |[],objs,h,_,_=>by simp only[yv,Option.some.injEq] at h;subst h;exact List.nodup_nil
 |j::js,objs,h,ho,hj=>by
  obtain⟨x,xs,h1,hf,h2,rfl⟩:=yW h
  have hj':=List.nodup_cons.mp hj
  refine List.nodup_cons.mpr ⟨fun hm=>?_,uZ nd h2 (fun j hj=>ho j (.tail _ hj)) hj'.2⟩
  obtain⟨p,hp,e⟩:=List.mem_map.mp hm
  obtain⟨i,hi,hn⟩:=wV h2 (fun j hj=>ho j (.tail _ hj)) p hp
  unfold xV at h1
  rw[show Nat.beq (j % 2) 0=false by rw[ho j (.head _)];rfl] at h1
  have h3:nth T (j / 2)=some x:=h1
  have:=nth_inj nd hn h3 e
  have o1:=ho i (.tail _ hi)
  have o2:=ho j (.head _)
  exact hj'.1 ((show j=i by omega)▸hi)
theorem uS:∀{js:List Nat} {ps:List Obj} {T T':zh},zL T js ps=some T'→js.length=ps.length→∀j∈js,j % 2=1
 |[],_,_,_,_,_,_,h=>by cases h
 | _::_,[],_,_,_,h,_,_=>by simp at h
 |j::js,o::ps,T,T',h,hl,i,hi=>by
  unfold zL at h
  split at h
  ·rename_i hb
   (repeat' split at h)<;>first
    |(cases h;done)
    |(rcases List.mem_cons.mp hi with rfl|hi
      ·exact Nat.eq_of_beq_eq_true hb
      ·exact uS h (by simpa using hl) i hi)
  ·cases h
theorem ExtOk.user{C:Cfg}{w:World}{F:List Frame}(U:Under C F)(hden:C.den=denote table)(tl:∀p∈C.tail,p.2.isFreed=false){m:Nat}{k:Nat→Nat}{Y:Type}{pre:Nat→Code→List (Code × Pos)→zh→Option Y}{lg pc:Y→Lg}{out:Y→List Addr→Ch→UOut}
  (odd:∀d c wh objs y xs t,pre d c wh objs=some y→(out y xs t).posts.length=m)
  (H:∀d c wh objs y,objs.length=m→pre d c wh objs=some y→Lg.Ok (lg y)→Lg.Ok (pc y)→∀s pos F',Under (C.at wh m) F'→Rel (C.at wh m) (objs++C.tail) [] s→
   ∃xs t,xs.length=k d∧(∀z∈xs,s.heap.objs.size≤z)∧∃s' code' pos',Comes (model C.prog w) s ⟨C.den c,c,pos,F'⟩ s' ⟨leafOf (out y xs t).res,code',pos',F'⟩∧
    Rel (C.at wh m) ((xs.zip (out y xs t).news)++((objs.map (·.1)).zip (out y xs t).posts++C.tail)) [] s'∧xs.length=(out y xs t).news.length∧Kp (objs++C.tail) [] s s') :
  ExtOk C w F (mkE m k pre lg pc out):=by
 intro s a T G code pos fs c g l k' objs d js gs G' R hg S hm hd hh hl hlt
 have hG:gs=[]∧G=G':=by simpa [mkE,xD,eq_comm] using hg
 obtain⟨rfl,rfl⟩:=hG
 have e0:∀xs t r,(mkE m k pre lg pc out).f d c ((code,pos)::(fs.map Frame.where_++C.W)) objs [] xs t=some r→∃y,pre d c ((code,pos)::(fs.map Frame.where_++C.W)) objs=some y∧
   r=⟨(out y xs t).res,(out y xs t).posts,(out y xs t).news,lg y,pc y⟩:=fun xs t r h=>by
  simp only[mkE] at h
  split at h
  ·rename_i y hy
   exact⟨y,hy,(Option.some.inj h).symm⟩
  ·cases h
 by_cases hq:∃y,pre d c ((code,pos)::(fs.map Frame.where_++C.W)) objs=some y∧Lg.Ok (lg y)∧Lg.Ok (pc y)∧∀j∈js,j % 2=1
 ·obtain⟨y,hy,lo,po,ho⟩:=hq
  have hlen:objs.length=m:=(xj hl).trans hm
  have inT:∀p∈objs,∃j∈js,nth T (j / 2)=some p:=wV hl ho
  obtain⟨Ex,hEx,hEl⟩:=id S
  have inE:∀p∈objs,p∈Ex:=fun p hp=>by
   obtain⟨j,hj,hn⟩:=inT p hp
   have h1:=xa hn
   rw[hEx,List.getElem?_append_left (by rw[hEl];exact hlt j hj (ho j hj))] at h1
   exact List.mem_of_getElem? h1
  have hnd:=R.nodup
  rw[hEx,List.map_append] at hnd
  have R':Rel (C.at ((code,pos)::(fs.map Frame.where_++C.W)) m) (objs++C.tail) [] s:=by
   refine Rel.cfg (C:=C) rfl (R.sub (T':=objs++C.tail) (G':=[]) (fun p hp=>?_) ?_ (fun p hp=>by cases hp) List.nodup_nil)
   ·rcases List.mem_append.mp hp with hp|hp
    ·rw[hEx];exact List.mem_append_left _ (inE p hp)
    ·rw[hEx];exact List.mem_append_right _ hp
   ·rw[List.map_append,List.nodup_append]
    refine⟨uZ R.nodup hl ho (yi hd),(List.nodup_append.mp hnd).2.1,fun x hx z hz=>?_⟩
    obtain⟨p,hp,rfl⟩:=List.mem_map.mp hx
    exact(List.nodup_append.mp hnd).2.2 _ (List.mem_map_of_mem (inE p hp)) _ hz
  have U':Under (C.at ((code,pos)::(fs.map Frame.where_++C.W)) m) (.ret k' none g l code pos []::(fs++F)):=by
   have hz:marksOver fs (none,none)=(none,none):=by
    unfold hdOk at hh
    generalize marksOver fs (none,none)=z at hh
    obtain⟨x,y⟩:=z
    cases x<;>cases y<;>first|rfl|cases hh
   have h1:topHandled (fs++F)=none:=by rw[topHandled_append,U.hd,U.past,hz]
   have h2:topHandled.go true (fs++F)=none:=by rw[past_append,U.hd,U.past,hz]
   exact⟨by simp only[List.map_cons,List.map_append,U.wh];rfl,h1,h2⟩
  obtain⟨xs,t,hx,hf,s',code',pos',hc,R₂,hn₂,K⟩:=H d c _ objs y hlen hy lo po s pos _ U' R'
  refine⟨xs,t,hx,hf,fun r hr _ _ nf T' T'' hp hn=>?_⟩
  obtain⟨y',hy',rfl⟩:=e0 xs t r hr
  rw[hy] at hy';cases hy'
  refine⟨s',.step (step_call ..) (.trans (by have:=hc;rw[hden] at this;exact this) (.step (step_leaf_ret ..) (.refl _ _))),?_⟩
  have hpl:(out y xs t).posts.length=m:=odd _ _ _ _ _ _ _ hy
  obtain⟨e,Hm⟩:=wT hp hl (yi hd) R.nodup
  obtain⟨rfl,hlen'⟩:=wR hn
  have htk:objs.take (out y xs t).posts.length=objs:=by rw[hpl,←hlen,List.take_length]
  rw[htk] at Hm
  have nd2:=R₂.nodup
  rw[List.map_append,List.map_fst_zip (by omega)] at nd2
  have keep:∀x o,s.heap.get? x=some o→(∀p∈objs,p.1≠x)→s'.heap.get? x=some o:=fun x o hx' hne=>by
   by_cases ht:∃p∈C.tail,p.1=x
   ·obtain⟨p,hp,rfl⟩:=ht
    have hpf:=tl p hp
    have h1:=R'.slots p (List.mem_append_right _ hp) hpf
    rw[h1] at hx'
    cases hx'
    exact R₂.slots p (List.mem_append_right _ (List.mem_append_right _ hp)) hpf
   ·refine K.heap x o hx' fun p hp=>?_
    rcases List.mem_append.mp hp with hp|hp
    ·exact hne p hp
    ·exact fun e=>ht ⟨p,hp,e⟩
  have objT:∀p∈objs,p∈T:=fun p hp=>by obtain⟨j,_,hn⟩:=inT p hp;exact zY hn
  refine⟨⟨fun p hpm hfr=>?_,fun p hpm=>?_,?_,fun L p h=>?_,fun p hpm L q hq=>?_,fun p hpm=>?_,R.gnodup,R₂.bare⟩,⟨fun x o hx' hT=>?_,fun g st hg _=>K.gens g st hg (fun p hp=>by cases hp),K.os,K.size⟩⟩
  ·rcases List.mem_append.mp hpm with hpm|hpm
   ·exact R₂.slots p (List.mem_append_left _ (List.mem_reverse.mp hpm)) hfr
   ·rcases Hm p hpm with h|⟨h,hne⟩
    ·exact R₂.slots p (List.mem_append_right _ (List.mem_append_left _ h)) hfr
    ·exact keep _ _ (R.slots p h hfr) hne
  ·rcases List.mem_append.mp hpm with hpm|hpm
   ·exact R₂.bound p (List.mem_append_left _ (List.mem_reverse.mp hpm))
   ·rcases Hm p hpm with h|⟨h,hne⟩
    ·exact R₂.bound p (List.mem_append_right _ (List.mem_append_left _ h))
    ·exact Nat.lt_of_lt_of_le (R.bound p h) K.size
  ·rw[List.map_append,List.nodup_append]
   refine⟨?_,by rw[e];exact R.nodup,?_⟩
   ·rw[List.map_reverse]
    refine(List.reverse_perm _).nodup_iff.mpr ?_
    rw[List.map_fst_zip (by omega)];exact(List.nodup_append.mp nd2).1
   ·intro a ha b hb hab
    subst hab
    rw[e] at hb
    obtain⟨p,hp1,hp2⟩:=List.mem_map.mp ha
    have h1:p.1∈xs:=(List.of_mem_zip (List.mem_reverse.mp hp1)).1
    obtain⟨q,hq1,hq2⟩:=List.mem_map.mp hb
    have h3:=R.lt hq1
    have h4:=hf _ h1
    rw[hp2] at h4;rw[hq2] at h3;exact absurd h3 (Nat.not_lt.mpr h4)
  ·exact R₂.base L p h
  ·rcases List.mem_append.mp hpm with hpm|hpm
   ·exact R₂.apart p (List.mem_append_left _ (List.mem_reverse.mp hpm)) L q hq
   ·have:p.1∈T.map (·.1):=by rw[←e];exact List.mem_map_of_mem hpm
    obtain⟨r,hr,er⟩:=List.mem_map.mp this
    rw[←er];exact R.apart r hr L q hq
  ·exact K.gens _ _ (R.gslots p hpm) (fun p hp=>by cases hp)
  ·exact keep x o hx' fun p hp=>hT p (objT p hp)
 ·refine⟨(List.range (k d)).map (s.heap.objs.size+·),.of 0,by simp;rfl,fun z hz=>by
   obtain⟨i,_,rfl⟩:=List.mem_map.mp hz;exact Nat.le_add_right _ _,fun r hr lo po nf T' T'' hp hn=>?_⟩
  obtain⟨y,hy,rfl⟩:=e0 _ _ r hr
  exact absurd ⟨y,hy,lo,po,uS hp (by rw[hm];exact(odd _ _ _ _ _ _ _ hy).symm)⟩ hq
end Mine
end
noncomputable section
open PySem PySem.W
namespace Mine
structure TopV where
 av:Nat→Addr
 tk:Nat→Tok
 se:Nat→Array (Int × Value)
 sp:Nat→Nat
 st:Nat→SetTable
 de:Array DictEntry
 dp:Nat
def progP:Program:=PySem.Challenge.pw_pe0284_01
def sAt(l:List Stmt)(i:Nat):Stmt:=match nth l i with
 |some s=>s
 |none=>.Pass ⟨0,0,0,0⟩
def zs(i:Nat):Stmt:=sAt progP.main.body i
def inS(i j:Nat):Stmt:=match zs i with
 | .ClassDef _ _ _ b _ _ _ _ _ _ _=>sAt b j
 | _=>.Pass ⟨0,0,0,0⟩
def fnArgs(s:Stmt):Arguments:=match s with
 | .FunctionDef _ a _ _ _ _ _ _ _ _=>a
 | _=>⟨[],[],none,[],[],none,[]⟩
def wY(s:Stmt):List Stmt:=match s with
 | .FunctionDef _ _ b _ _ _ _ _ _ _=>b
 | _=>[]
def uc(s:Stmt):Scope:=match s with
 | .FunctionDef _ _ _ _ _ _ sc _ _ _=>sc
 | _=>progP.main.scope
def fnName(s:Stmt):Str:=match s with
 | .FunctionDef n _ _ _ _ _ _ _ _ _=>n
 | _=>⟨#[]⟩
def fnD(s:Stmt)(q:Str)(clos:List (Str × Addr))(dflt pyM code ct:Value):FuncData:=
 { name:=fnName s,qualname:=q,params:=fnArgs s,body:=.stmts (wY s),scope:=uc s,globals:=3,closure:=clos,defaults:=dflt,kwdefaults:=.none,doc:=.none,pyModule:=pyM,annotations:=none,code:=code,closureTuple:=ct,builtins:=0 }
def o_0(P:Params)(V:TopV):Obj:=PySem.W.boot_o_0 P
def o_2(P:Params)(V:TopV):Obj:=PySem.W.boot_o_2 P
def o_3(P:Params)(V:TopV):Obj:=⟨.type "dict", none,.dict #[⟨PyData.keyHash P ⟨#[95,95,110,97,109,101,95,95]⟩,.str ⟨#[95,95,110,97,109,101,95,95]⟩ 165,.str ⟨#[108,97,119,95,112,101,48,50,56,52,95,48,49]⟩ (V.tk 2758)⟩,⟨PyData.keyHash P ⟨#[95,95,100,111,99,95,95]⟩,.str ⟨#[95,95,100,111,99,95,95]⟩ 166,.none⟩,⟨PyData.keyHash P ⟨#[95,95,112,97,99,107,97,103,101,95,95]⟩,.str ⟨#[95,95,112,97,99,107,97,103,101,95,95]⟩ 167,.none⟩,⟨PyData.keyHash P ⟨#[95,95,108,111,97,100,101,114,95,95]⟩,.str ⟨#[95,95,108,111,97,100,101,114,95,95]⟩ 168,.builtin "__main__.__loader__#opaque"⟩,⟨PyData.keyHash P ⟨#[95,95,115,112,101,99,95,95]⟩,.str ⟨#[95,95,115,112,101,99,95,95]⟩ 169,.none⟩,⟨PyData.keyHash P ⟨#[95,95,97,110,110,111,116,97,116,105,111,110,115,95,95]⟩,.str ⟨#[95,95,97,110,110,111,116,97,116,105,111,110,115,95,95]⟩ 170,.ref 6⟩,⟨PyData.keyHash P ⟨#[95,95,98,117,105,108,116,105,110,115,95,95]⟩,.str ⟨#[95,95,98,117,105,108,116,105,110,115,95,95]⟩ 171,.ref 4⟩,⟨PyData.keyHash P ⟨#[95,95,102,105,108,101,95,95]⟩,.str ⟨#[95,95,102,105,108,101,95,95]⟩ 173,.str ⟨#[47,99,108,97,105,109,47,99,117,116,46,112,121]⟩ 172⟩,⟨PyData.keyHash P ⟨#[95,95,99,97,99,104,101,100,95,95]⟩,.str ⟨#[95,95,99,97,99,104,101,100,95,95]⟩ 174,.none⟩,⟨PyData.keyHash P ⟨#[95,119,97,108,108]⟩,.str ⟨#[95,119,97,108,108]⟩ (V.tk 193),.ref (V.av 21)⟩,⟨PyData.keyHash P ⟨#[98,49,95,115,101,116]⟩,.str ⟨#[98,49,95,115,101,116]⟩ (V.tk 255),.ref (V.av 29)⟩,⟨PyData.keyHash P ⟨#[105,110,95,116,97,98,108,101,95,98,49]⟩,.str ⟨#[105,110,95,116,97,98,108,101,95,98,49]⟩ (V.tk 262),.ref (V.av 39)⟩,⟨PyData.keyHash P ⟨#[98,51,95,101,120,99,101,112,116,105,111,110,115]⟩,.str ⟨#[98,51,95,101,120,99,101,112,116,105,111,110,115]⟩ (V.tk 2213),.ref (V.av 40)⟩,⟨PyData.keyHash P ⟨#[109,97,112,95,116,97,98,108,101,95,98,51]⟩,.str ⟨#[109,97,112,95,116,97,98,108,101,95,98,51]⟩ (V.tk 2221),.ref (V.av 85)⟩,⟨PyData.keyHash P ⟨#[105,110,95,116,97,98,108,101,95,99,49,49]⟩,.str ⟨#[105,110,95,116,97,98,108,101,95,99,49,49]⟩ (V.tk 2228),.ref (V.av 92)⟩,⟨PyData.keyHash P ⟨#[105,110,95,116,97,98,108,101,95,99,52]⟩,.str ⟨#[105,110,95,116,97,98,108,101,95,99,52]⟩ (V.tk 2236),.ref (V.av 99)⟩,⟨PyData.keyHash P ⟨#[99,54,95,115,101,116]⟩,.str ⟨#[99,54,95,115,101,116]⟩ (V.tk 2250),.ref (V.av 101)⟩,⟨PyData.keyHash P ⟨#[105,110,95,116,97,98,108,101,95,99,54]⟩,.str ⟨#[105,110,95,116,97,98,108,101,95,99,54]⟩ (V.tk 2257),.ref (V.av 111)⟩,⟨PyData.keyHash P ⟨#[99,55,95,115,101,116]⟩,.str ⟨#[99,55,95,115,101,116]⟩ (V.tk 2285),.ref (V.av 113)⟩,⟨PyData.keyHash P ⟨#[105,110,95,116,97,98,108,101,95,99,55]⟩,.str ⟨#[105,110,95,116,97,98,108,101,95,99,55]⟩ (V.tk 2292),.ref (V.av 123)⟩,⟨PyData.keyHash P ⟨#[99,56,95,115,101,116]⟩,.str ⟨#[99,56,95,115,101,116]⟩ (V.tk 2333),.ref (V.av 137)⟩,⟨PyData.keyHash P ⟨#[105,110,95,116,97,98,108,101,95,99,56]⟩,.str ⟨#[105,110,95,116,97,98,108,101,95,99,56]⟩ (V.tk 2340),.ref (V.av 147)⟩,⟨PyData.keyHash P ⟨#[99,57,95,115,101,116]⟩,.str ⟨#[99,57,95,115,101,116]⟩ (V.tk 2540),.ref (V.av 155)⟩,⟨PyData.keyHash P ⟨#[105,110,95,116,97,98,108,101,95,99,57]⟩,.str ⟨#[105,110,95,116,97,98,108,101,95,99,57]⟩ (V.tk 2547),.ref (V.av 165)⟩,⟨PyData.keyHash P ⟨#[78,76]⟩,.str ⟨#[78,76]⟩ (V.tk 2551),.str ⟨#[10]⟩ (V.tk 2550)⟩,⟨PyData.keyHash P ⟨#[69,77,80,84,89,83,84,82,73,78,71]⟩,.str ⟨#[69,77,80,84,89,83,84,82,73,78,71]⟩ (V.tk 2553),.str ⟨#[]⟩ (V.tk 2552)⟩,⟨PyData.keyHash P ⟨#[95,86,97,108,117,101,70,111,114,109,97,116,116,101,114]⟩,.str ⟨#[95,86,97,108,117,101,70,111,114,109,97,116,116,101,114]⟩ (V.tk 2661),.ref (V.av 238)⟩,⟨PyData.keyHash P ⟨#[95,65,99,99,117,109,117,108,97,116,111,114]⟩,.str ⟨#[95,65,99,99,117,109,117,108,97,116,111,114]⟩ (V.tk 2757),.ref (V.av 322)⟩,⟨PyData.keyHash P ⟨#[95,108,97,119,95,99,111,100,101]⟩,.str ⟨#[95,108,97,119,95,99,111,100,101]⟩ (V.tk 2768),.ref (V.av 333)⟩,⟨PyData.keyHash P ⟨#[95,108,97,119,95,105,115,95,98,97,114,114,101,100]⟩,.str ⟨#[95,108,97,119,95,105,115,95,98,97,114,114,101,100]⟩ (V.tk 2774),.ref (V.av 338)⟩,⟨PyData.keyHash P ⟨#[95,108,97,119,95,116,111,108,100]⟩,.str ⟨#[95,108,97,119,95,116,111,108,100]⟩ (V.tk 2781),.ref (V.av 345)⟩,⟨PyData.keyHash P ⟨#[95,108,97,119,95,112,97,103,101]⟩,.str ⟨#[95,108,97,119,95,112,97,103,101]⟩ (V.tk 2787),.ref (V.av 350)⟩,⟨PyData.keyHash P ⟨#[95,108,97,119,95,108,97,105,100]⟩,.str ⟨#[95,108,97,119,95,108,97,105,100]⟩ (V.tk 2799),.ref (V.av 357)⟩,⟨PyData.keyHash P ⟨#[108,97,119]⟩,.str ⟨#[108,97,119]⟩ (V.tk 2805),.ref (V.av 362)⟩] 34,#[]⟩
def o_4(P:Params)(V:TopV):Obj:=PySem.W.boot_o_4 P
def o_29(P:Params)(V:TopV):Obj:=⟨.type "set", none,.set (V.se 29) (V.sp 29) (V.st 29),#[]⟩
def o_38(P:Params)(V:TopV):Obj:=⟨.type "code", none,.fields #[.str ⟨#[105,110,95,116,97,98,108,101,95,98,49]⟩ (V.tk 256),.str ⟨#[105,110,95,116,97,98,108,101,95,98,49]⟩ (V.tk 257),.str ⟨#[47,99,108,97,105,109,47,99,117,116,46,112,121]⟩ (V.tk 258),.int (6) 0,.int (1) 0,.int (0) 0,.int (0) 0,.int (3) 0,.ref (V.av 33),.bool true,.int (181) 0,.ref (V.av 34),.none,.ref (V.av 35),.ref (V.av 36),.ref (V.av 37),.int (260) 0,.int (6) 0,.str ⟨#[47,99,108,97,105,109,47,99,117,116,46,112,121]⟩ (V.tk 261)],#[]⟩
def o_39(P:Params)(V:TopV):Obj:=⟨.type "function", none,.func (fnD (zs 3) ⟨#[105,110,95,116,97,98,108,101,95,98,49]⟩ [] (.none) (.str ⟨#[99,112,121,51,49,51,46,115,116,114,105,110,103,112,114,101,112]⟩ (V.tk 194)) (.ref (V.av 38)) (.none)),#[]⟩
def o_40(P:Params)(V:TopV):Obj:=⟨.type "dict", none,.dict V.de V.dp,#[]⟩
def o_84(P:Params)(V:TopV):Obj:=⟨.type "code", none,.fields #[.str ⟨#[109,97,112,95,116,97,98,108,101,95,98,51]⟩ (V.tk 2214),.str ⟨#[109,97,112,95,116,97,98,108,101,95,98,51]⟩ (V.tk 2215),.str ⟨#[47,99,108,97,105,109,47,99,117,116,46,112,121]⟩ (V.tk 2216),.int (9) 0,.int (1) 0,.int (0) 0,.int (0) 0,.int (3) 0,.ref (V.av 79),.bool true,.int (181) 0,.ref (V.av 80),.none,.ref (V.av 81),.ref (V.av 82),.ref (V.av 83),.int (2219) 0,.int (9) 0,.str ⟨#[47,99,108,97,105,109,47,99,117,116,46,112,121]⟩ (V.tk 2220)],#[]⟩
def o_85(P:Params)(V:TopV):Obj:=⟨.type "function", none,.func (fnD (zs 5) ⟨#[109,97,112,95,116,97,98,108,101,95,98,51]⟩ [] (.none) (.str ⟨#[99,112,121,51,49,51,46,115,116,114,105,110,103,112,114,101,112]⟩ (V.tk 194)) (.ref (V.av 84)) (.none)),#[]⟩
def o_91(P:Params)(V:TopV):Obj:=⟨.type "code", none,.fields #[.str ⟨#[105,110,95,116,97,98,108,101,95,99,49,49]⟩ (V.tk 2222),.str ⟨#[105,110,95,116,97,98,108,101,95,99,49,49]⟩ (V.tk 2223),.str ⟨#[47,99,108,97,105,109,47,99,117,116,46,112,121]⟩ (V.tk 2224),.int (14) 0,.int (1) 0,.int (0) 0,.int (0) 0,.int (3) 0,.ref (V.av 86),.bool true,.int (181) 0,.ref (V.av 87),.none,.ref (V.av 88),.ref (V.av 89),.ref (V.av 90),.int (2226) 0,.int (14) 0,.str ⟨#[47,99,108,97,105,109,47,99,117,116,46,112,121]⟩ (V.tk 2227)],#[]⟩
def o_92(P:Params)(V:TopV):Obj:=⟨.type "function", none,.func (fnD (zs 6) ⟨#[105,110,95,116,97,98,108,101,95,99,49,49]⟩ [] (.none) (.str ⟨#[99,112,121,51,49,51,46,115,116,114,105,110,103,112,114,101,112]⟩ (V.tk 194)) (.ref (V.av 91)) (.none)),#[]⟩
def o_98(P:Params)(V:TopV):Obj:=⟨.type "code", none,.fields #[.str ⟨#[105,110,95,116,97,98,108,101,95,99,52]⟩ (V.tk 2229),.str ⟨#[105,110,95,116,97,98,108,101,95,99,52]⟩ (V.tk 2230),.str ⟨#[47,99,108,97,105,109,47,99,117,116,46,112,121]⟩ (V.tk 2231),.int (16) 0,.int (1) 0,.int (0) 0,.int (0) 0,.int (3) 0,.ref (V.av 93),.bool true,.int (181) 0,.ref (V.av 94),.none,.ref (V.av 95),.ref (V.av 96),.ref (V.av 97),.int (2234) 0,.int (16) 0,.str ⟨#[47,99,108,97,105,109,47,99,117,116,46,112,121]⟩ (V.tk 2235)],#[]⟩
def o_99(P:Params)(V:TopV):Obj:=⟨.type "function", none,.func (fnD (zs 7) ⟨#[105,110,95,116,97,98,108,101,95,99,52]⟩ [] (.none) (.str ⟨#[99,112,121,51,49,51,46,115,116,114,105,110,103,112,114,101,112]⟩ (V.tk 194)) (.ref (V.av 98)) (.none)),#[]⟩
def o_101(P:Params)(V:TopV):Obj:=⟨.type "set", none,.set (V.se 101) (V.sp 101) (V.st 101),#[]⟩
def o_110(P:Params)(V:TopV):Obj:=⟨.type "code", none,.fields #[.str ⟨#[105,110,95,116,97,98,108,101,95,99,54]⟩ (V.tk 2251),.str ⟨#[105,110,95,116,97,98,108,101,95,99,54]⟩ (V.tk 2252),.str ⟨#[47,99,108,97,105,109,47,99,117,116,46,112,121]⟩ (V.tk 2253),.int (24) 0,.int (1) 0,.int (0) 0,.int (0) 0,.int (3) 0,.ref (V.av 105),.bool true,.int (181) 0,.ref (V.av 106),.none,.ref (V.av 107),.ref (V.av 108),.ref (V.av 109),.int (2255) 0,.int (24) 0,.str ⟨#[47,99,108,97,105,109,47,99,117,116,46,112,121]⟩ (V.tk 2256)],#[]⟩
def o_111(P:Params)(V:TopV):Obj:=⟨.type "function", none,.func (fnD (zs 9) ⟨#[105,110,95,116,97,98,108,101,95,99,54]⟩ [] (.none) (.str ⟨#[99,112,121,51,49,51,46,115,116,114,105,110,103,112,114,101,112]⟩ (V.tk 194)) (.ref (V.av 110)) (.none)),#[]⟩
def o_113(P:Params)(V:TopV):Obj:=⟨.type "set", none,.set (V.se 113) (V.sp 113) (V.st 113),#[]⟩
def o_122(P:Params)(V:TopV):Obj:=⟨.type "code", none,.fields #[.str ⟨#[105,110,95,116,97,98,108,101,95,99,55]⟩ (V.tk 2286),.str ⟨#[105,110,95,116,97,98,108,101,95,99,55]⟩ (V.tk 2287),.str ⟨#[47,99,108,97,105,109,47,99,117,116,46,112,121]⟩ (V.tk 2288),.int (27) 0,.int (1) 0,.int (0) 0,.int (0) 0,.int (3) 0,.ref (V.av 117),.bool true,.int (181) 0,.ref (V.av 118),.none,.ref (V.av 119),.ref (V.av 120),.ref (V.av 121),.int (2290) 0,.int (27) 0,.str ⟨#[47,99,108,97,105,109,47,99,117,116,46,112,121]⟩ (V.tk 2291)],#[]⟩
def o_123(P:Params)(V:TopV):Obj:=⟨.type "function", none,.func (fnD (zs 11) ⟨#[105,110,95,116,97,98,108,101,95,99,55]⟩ [] (.none) (.str ⟨#[99,112,121,51,49,51,46,115,116,114,105,110,103,112,114,101,112]⟩ (V.tk 194)) (.ref (V.av 122)) (.none)),#[]⟩
def o_137(P:Params)(V:TopV):Obj:=⟨.type "set", none,.set (V.se 137) (V.sp 137) (V.st 137),#[]⟩
def o_146(P:Params)(V:TopV):Obj:=⟨.type "code", none,.fields #[.str ⟨#[105,110,95,116,97,98,108,101,95,99,56]⟩ (V.tk 2334),.str ⟨#[105,110,95,116,97,98,108,101,95,99,56]⟩ (V.tk 2335),.str ⟨#[47,99,108,97,105,109,47,99,117,116,46,112,121]⟩ (V.tk 2336),.int (30) 0,.int (1) 0,.int (0) 0,.int (0) 0,.int (3) 0,.ref (V.av 141),.bool true,.int (181) 0,.ref (V.av 142),.none,.ref (V.av 143),.ref (V.av 144),.ref (V.av 145),.int (2338) 0,.int (30) 0,.str ⟨#[47,99,108,97,105,109,47,99,117,116,46,112,121]⟩ (V.tk 2339)],#[]⟩
def o_147(P:Params)(V:TopV):Obj:=⟨.type "function", none,.func (fnD (zs 13) ⟨#[105,110,95,116,97,98,108,101,95,99,56]⟩ [] (.none) (.str ⟨#[99,112,121,51,49,51,46,115,116,114,105,110,103,112,114,101,112]⟩ (V.tk 194)) (.ref (V.av 146)) (.none)),#[]⟩
def o_155(P:Params)(V:TopV):Obj:=⟨.type "set", none,.set (V.se 155) (V.sp 155) (V.st 155),#[]⟩
def o_164(P:Params)(V:TopV):Obj:=⟨.type "code", none,.fields #[.str ⟨#[105,110,95,116,97,98,108,101,95,99,57]⟩ (V.tk 2541),.str ⟨#[105,110,95,116,97,98,108,101,95,99,57]⟩ (V.tk 2542),.str ⟨#[47,99,108,97,105,109,47,99,117,116,46,112,121]⟩ (V.tk 2543),.int (33) 0,.int (1) 0,.int (0) 0,.int (0) 0,.int (3) 0,.ref (V.av 159),.bool true,.int (181) 0,.ref (V.av 160),.none,.ref (V.av 161),.ref (V.av 162),.ref (V.av 163),.int (2545) 0,.int (33) 0,.str ⟨#[47,99,108,97,105,109,47,99,117,116,46,112,121]⟩ (V.tk 2546)],#[]⟩
def o_165(P:Params)(V:TopV):Obj:=⟨.type "function", none,.func (fnD (zs 15) ⟨#[105,110,95,116,97,98,108,101,95,99,57]⟩ [] (.none) (.str ⟨#[99,112,121,51,49,51,46,115,116,114,105,110,103,112,114,101,112]⟩ (V.tk 194)) (.ref (V.av 164)) (.none)),#[]⟩
def o_178(P:Params)(V:TopV):Obj:=⟨.type "code", none,.fields #[.str ⟨#[95,95,105,110,105,116,95,95]⟩ (V.tk 2566),.str ⟨#[95,86,97,108,117,101,70,111,114,109,97,116,116,101,114,46,95,95,105,110,105,116,95,95]⟩ (V.tk 2567),.str ⟨#[47,99,108,97,105,109,47,99,117,116,46,112,121]⟩ (V.tk 2568),.int (40) 0,.int (5) 0,.int (0) 0,.int (0) 0,.int (3) 0,.ref (V.av 173),.bool true,.int (181) 0,.ref (V.av 174),.none,.ref (V.av 175),.ref (V.av 176),.ref (V.av 177),.int (2574) 0,.int (40) 0,.str ⟨#[47,99,108,97,105,109,47,99,117,116,46,112,121]⟩ (V.tk 2575)],#[]⟩
def o_179(P:Params)(V:TopV):Obj:=⟨.type "function", none,.func (fnD (inS 19 0) ⟨#[95,86,97,108,117,101,70,111,114,109,97,116,116,101,114,46,95,95,105,110,105,116,95,95]⟩ [] (.none) (.str ⟨#[99,112,121,51,49,51,46,101,109,97,105,108,46,104,101,97,100,101,114]⟩ (V.tk 2548)) (.ref (V.av 178)) (.none)),#[]⟩
def o_185(P:Params)(V:TopV):Obj:=⟨.type "code", none,.fields #[.str ⟨#[95,115,116,114]⟩ (V.tk 2577),.str ⟨#[95,86,97,108,117,101,70,111,114,109,97,116,116,101,114,46,95,115,116,114]⟩ (V.tk 2578),.str ⟨#[47,99,108,97,105,109,47,99,117,116,46,112,121]⟩ (V.tk 2579),.int (48) 0,.int (2) 0,.int (0) 0,.int (0) 0,.int (3) 0,.ref (V.av 180),.bool true,.int (181) 0,.ref (V.av 181),.none,.ref (V.av 182),.ref (V.av 183),.ref (V.av 184),.int (2582) 0,.int (48) 0,.str ⟨#[47,99,108,97,105,109,47,99,117,116,46,112,121]⟩ (V.tk 2583)],#[]⟩
def o_186(P:Params)(V:TopV):Obj:=⟨.type "function", none,.func (fnD (inS 19 1) ⟨#[95,86,97,108,117,101,70,111,114,109,97,116,116,101,114,46,95,115,116,114]⟩ [] (.none) (.str ⟨#[99,112,121,51,49,51,46,101,109,97,105,108,46,104,101,97,100,101,114]⟩ (V.tk 2548)) (.ref (V.av 185)) (.none)),#[]⟩
def o_199(P:Params)(V:TopV):Obj:=⟨.type "code", none,.fields #[.str ⟨#[110,101,119,108,105,110,101]⟩ (V.tk 2592),.str ⟨#[95,86,97,108,117,101,70,111,114,109,97,116,116,101,114,46,110,101,119,108,105,110,101]⟩ (V.tk 2593),.str ⟨#[47,99,108,97,105,109,47,99,117,116,46,112,121]⟩ (V.tk 2594),.int (55) 0,.int (1) 0,.int (0) 0,.int (0) 0,.int (3) 0,.ref (V.av 194),.bool true,.int (181) 0,.ref (V.av 195),.none,.ref (V.av 196),.ref (V.av 197),.ref (V.av 198),.int (2597) 0,.int (55) 0,.str ⟨#[47,99,108,97,105,109,47,99,117,116,46,112,121]⟩ (V.tk 2598)],#[]⟩
def o_200(P:Params)(V:TopV):Obj:=⟨.type "function", none,.func (fnD (inS 19 3) ⟨#[95,86,97,108,117,101,70,111,114,109,97,116,116,101,114,46,110,101,119,108,105,110,101]⟩ [] (.none) (.str ⟨#[99,112,121,51,49,51,46,101,109,97,105,108,46,104,101,97,100,101,114]⟩ (V.tk 2548)) (.ref (V.av 199)) (.none)),#[]⟩
def o_206(P:Params)(V:TopV):Obj:=⟨.type "code", none,.fields #[.str ⟨#[97,100,100,95,116,114,97,110,115,105,116,105,111,110]⟩ (V.tk 2600),.str ⟨#[95,86,97,108,117,101,70,111,114,109,97,116,116,101,114,46,97,100,100,95,116,114,97,110,115,105,116,105,111,110]⟩ (V.tk 2601),.str ⟨#[47,99,108,97,105,109,47,99,117,116,46,112,121]⟩ (V.tk 2602),.int (66) 0,.int (1) 0,.int (0) 0,.int (0) 0,.int (3) 0,.ref (V.av 201),.bool true,.int (181) 0,.ref (V.av 202),.none,.ref (V.av 203),.ref (V.av 204),.ref (V.av 205),.int (2604) 0,.int (66) 0,.str ⟨#[47,99,108,97,105,109,47,99,117,116,46,112,121]⟩ (V.tk 2605)],#[]⟩
def o_207(P:Params)(V:TopV):Obj:=⟨.type "function", none,.func (fnD (inS 19 4) ⟨#[95,86,97,108,117,101,70,111,114,109,97,116,116,101,114,46,97,100,100,95,116,114,97,110,115,105,116,105,111,110]⟩ [] (.none) (.str ⟨#[99,112,121,51,49,51,46,101,109,97,105,108,46,104,101,97,100,101,114]⟩ (V.tk 2548)) (.ref (V.av 206)) (.none)),#[]⟩
def o_234(P:Params)(V:TopV):Obj:=⟨.type "code", none,.fields #[.str ⟨#[95,97,112,112,101,110,100,95,99,104,117,110,107]⟩ (V.tk 2634),.str ⟨#[95,86,97,108,117,101,70,111,114,109,97,116,116,101,114,46,95,97,112,112,101,110,100,95,99,104,117,110,107]⟩ (V.tk 2635),.str ⟨#[47,99,108,97,105,109,47,99,117,116,46,112,121]⟩ (V.tk 2636),.int (78) 0,.int (3) 0,.int (0) 0,.int (0) 0,.int (3) 0,.ref (V.av 229),.bool true,.int (181) 0,.ref (V.av 230),.none,.ref (V.av 231),.ref (V.av 232),.ref (V.av 233),.int (2645) 0,.int (78) 0,.str ⟨#[47,99,108,97,105,109,47,99,117,116,46,112,121]⟩ (V.tk 2646)],#[]⟩
def o_235(P:Params)(V:TopV):Obj:=⟨.type "function", none,.func (fnD (inS 19 8) ⟨#[95,86,97,108,117,101,70,111,114,109,97,116,116,101,114,46,95,97,112,112,101,110,100,95,99,104,117,110,107]⟩ [] (.none) (.str ⟨#[99,112,121,51,49,51,46,101,109,97,105,108,46,104,101,97,100,101,114]⟩ (V.tk 2548)) (.ref (V.av 234)) (.none)),#[]⟩
def o_237(P:Params)(V:TopV):Obj:=⟨.type "dict", none,.dict #[⟨PyData.keyHash P ⟨#[95,95,109,111,100,117,108,101,95,95]⟩,.str ⟨#[95,95,109,111,100,117,108,101,95,95]⟩ (V.tk 2561),.str ⟨#[99,112,121,51,49,51,46,101,109,97,105,108,46,104,101,97,100,101,114]⟩ (V.tk 2548)⟩,⟨PyData.keyHash P ⟨#[95,95,102,105,114,115,116,108,105,110,101,110,111,95,95]⟩,.str ⟨#[95,95,102,105,114,115,116,108,105,110,101,110,111,95,95]⟩ (V.tk 2565),.int (38) (V.tk 2564)⟩,⟨PyData.keyHash P ⟨#[95,95,105,110,105,116,95,95]⟩,.str ⟨#[95,95,105,110,105,116,95,95]⟩ (V.tk 2576),.ref (V.av 179)⟩,⟨PyData.keyHash P ⟨#[95,115,116,114]⟩,.str ⟨#[95,115,116,114]⟩ (V.tk 2584),.ref (V.av 186)⟩,⟨PyData.keyHash P ⟨#[95,95,115,116,114,95,95]⟩,.str ⟨#[95,95,115,116,114,95,95]⟩ (V.tk 2591),.ref (V.av 193)⟩,⟨PyData.keyHash P ⟨#[110,101,119,108,105,110,101]⟩,.str ⟨#[110,101,119,108,105,110,101]⟩ (V.tk 2599),.ref (V.av 200)⟩,⟨PyData.keyHash P ⟨#[97,100,100,95,116,114,97,110,115,105,116,105,111,110]⟩,.str ⟨#[97,100,100,95,116,114,97,110,115,105,116,105,111,110]⟩ (V.tk 2606),.ref (V.av 207)⟩,⟨PyData.keyHash P ⟨#[102,101,101,100]⟩,.str ⟨#[102,101,101,100]⟩ (V.tk 2616),.ref (V.av 214)⟩,⟨PyData.keyHash P ⟨#[95,109,97,120,108,101,110,103,116,104,115]⟩,.str ⟨#[95,109,97,120,108,101,110,103,116,104,115]⟩ (V.tk 2623),.ref (V.av 221)⟩,⟨PyData.keyHash P ⟨#[95,97,115,99,105,105,95,115,112,108,105,116]⟩,.str ⟨#[95,97,115,99,105,105,95,115,112,108,105,116]⟩ (V.tk 2633),.ref (V.av 228)⟩,⟨PyData.keyHash P ⟨#[95,97,112,112,101,110,100,95,99,104,117,110,107]⟩,.str ⟨#[95,97,112,112,101,110,100,95,99,104,117,110,107]⟩ (V.tk 2647),.ref (V.av 235)⟩,⟨PyData.keyHash P ⟨#[95,95,115,116,97,116,105,99,95,97,116,116,114,105,98,117,116,101,115,95,95]⟩,.str ⟨#[95,95,115,116,97,116,105,99,95,97,116,116,114,105,98,117,116,101,115,95,95]⟩ (V.tk 2654),.ref (V.av 236)⟩,⟨PyData.keyHash P ⟨#[95,95,100,105,99,116,95,95]⟩,.str ⟨#[95,95,100,105,99,116,95,95]⟩ (V.tk 2656),.ref (V.av 239)⟩,⟨PyData.keyHash P ⟨#[95,95,119,101,97,107,114,101,102,95,95]⟩,.str ⟨#[95,95,119,101,97,107,114,101,102,95,95]⟩ (V.tk 2658),.ref (V.av 240)⟩,⟨PyData.keyHash P ⟨#[95,95,100,111,99,95,95]⟩,.str ⟨#[95,95,100,111,99,95,95]⟩ (V.tk 2659),.none⟩] 4,#[]⟩
def o_238(P:Params)(V:TopV):Obj:=⟨.type "type", none,.cls { name:=⟨#[95,86,97,108,117,101,70,111,114,109,97,116,116,101,114]⟩,bases:=[.type "object"],mro:=[.ref (V.av 238),.type "object"],ns:=(V.av 237),qualname:=⟨#[95,86,97,108,117,101,70,111,114,109,97,116,116,101,114]⟩,hasDict:=true,slotNames:=[],subclasses:=[],abstract:=false,collection:=none,hasDel:=false },#[none,none,(some (.str ⟨#[95,86,97,108,117,101,70,111,114,109,97,116,116,101,114]⟩ (V.tk 2554))),(some (.str ⟨#[95,86,97,108,117,101,70,111,114,109,97,116,116,101,114]⟩ (V.tk 2562))),(some (.builtin "object.__new__")),(some (.bool true))]⟩
def o_246(P:Params)(V:TopV):Obj:=⟨.type "cell", none,.cell (some (.ref (V.av 322))),#[]⟩
def o_251(P:Params)(V:TopV):Obj:=⟨.type "tuple", none,.seq #[.int (0) (V.tk 2674)] 0,#[]⟩
def o_258(P:Params)(V:TopV):Obj:=⟨.type "code", none,.fields #[.str ⟨#[95,95,105,110,105,116,95,95]⟩ (V.tk 2675),.str ⟨#[95,65,99,99,117,109,117,108,97,116,111,114,46,95,95,105,110,105,116,95,95]⟩ (V.tk 2676),.str ⟨#[47,99,108,97,105,109,47,99,117,116,46,112,121]⟩ (V.tk 2677),.int (106) 0,.int (2) 0,.int (0) 0,.int (0) 0,.int (3) 0,.ref (V.av 253),.bool true,.int (181) 0,.ref (V.av 254),.none,.ref (V.av 255),.ref (V.av 256),.ref (V.av 257),.int (2681) 0,.int (106) 0,.str ⟨#[47,99,108,97,105,109,47,99,117,116,46,112,121]⟩ (V.tk 2682)],#[]⟩
def o_259(P:Params)(V:TopV):Obj:=⟨.type "function", none,.func (fnD (inS 20 0) ⟨#[95,65,99,99,117,109,117,108,97,116,111,114,46,95,95,105,110,105,116,95,95]⟩ [(⟨#[95,95,99,108,97,115,115,95,95]⟩,(V.av 246))] (.ref (V.av 251)) (.str ⟨#[99,112,121,51,49,51,46,101,109,97,105,108,46,104,101,97,100,101,114]⟩ (V.tk 2548)) (.ref (V.av 258)) (.ref (V.av 252))),#[]⟩
def o_265(P:Params)(V:TopV):Obj:=⟨.type "code", none,.fields #[.str ⟨#[112,117,115,104]⟩ (V.tk 2684),.str ⟨#[95,65,99,99,117,109,117,108,97,116,111,114,46,112,117,115,104]⟩ (V.tk 2685),.str ⟨#[47,99,108,97,105,109,47,99,117,116,46,112,121]⟩ (V.tk 2686),.int (110) 0,.int (3) 0,.int (0) 0,.int (0) 0,.int (3) 0,.ref (V.av 260),.bool true,.int (181) 0,.ref (V.av 261),.none,.ref (V.av 262),.ref (V.av 263),.ref (V.av 264),.int (2690) 0,.int (110) 0,.str ⟨#[47,99,108,97,105,109,47,99,117,116,46,112,121]⟩ (V.tk 2691)],#[]⟩
def o_266(P:Params)(V:TopV):Obj:=⟨.type "function", none,.func (fnD (inS 20 1) ⟨#[95,65,99,99,117,109,117,108,97,116,111,114,46,112,117,115,104]⟩ [] (.none) (.str ⟨#[99,112,121,51,49,51,46,101,109,97,105,108,46,104,101,97,100,101,114]⟩ (V.tk 2548)) (.ref (V.av 265)) (.none)),#[]⟩
def o_267(P:Params)(V:TopV):Obj:=⟨.type "tuple", none,.seq #[.int (0) (V.tk 2693)] 0,#[]⟩
def o_273(P:Params)(V:TopV):Obj:=⟨.type "code", none,.fields #[.str ⟨#[112,111,112,95,102,114,111,109]⟩ (V.tk 2694),.str ⟨#[95,65,99,99,117,109,117,108,97,116,111,114,46,112,111,112,95,102,114,111,109]⟩ (V.tk 2695),.str ⟨#[47,99,108,97,105,109,47,99,117,116,46,112,121]⟩ (V.tk 2696),.int (113) 0,.int (2) 0,.int (0) 0,.int (0) 0,.int (3) 0,.ref (V.av 268),.bool true,.int (181) 0,.ref (V.av 269),.none,.ref (V.av 270),.ref (V.av 271),.ref (V.av 272),.int (2700) 0,.int (113) 0,.str ⟨#[47,99,108,97,105,109,47,99,117,116,46,112,121]⟩ (V.tk 2701)],#[]⟩
def o_274(P:Params)(V:TopV):Obj:=⟨.type "function", none,.func (fnD (inS 20 2) ⟨#[95,65,99,99,117,109,117,108,97,116,111,114,46,112,111,112,95,102,114,111,109]⟩ [] (.ref (V.av 267)) (.str ⟨#[99,112,121,51,49,51,46,101,109,97,105,108,46,104,101,97,100,101,114]⟩ (V.tk 2548)) (.ref (V.av 273)) (.none)),#[]⟩
def o_281(P:Params)(V:TopV):Obj:=⟨.type "code", none,.fields #[.str ⟨#[112,111,112]⟩ (V.tk 2703),.str ⟨#[95,65,99,99,117,109,117,108,97,116,111,114,46,112,111,112]⟩ (V.tk 2704),.str ⟨#[47,99,108,97,105,109,47,99,117,116,46,112,121]⟩ (V.tk 2705),.int (118) 0,.int (1) 0,.int (0) 0,.int (0) 0,.int (3) 0,.ref (V.av 276),.bool true,.int (181) 0,.ref (V.av 277),.none,.ref (V.av 278),.ref (V.av 279),.ref (V.av 280),.int (2708) 0,.int (118) 0,.str ⟨#[47,99,108,97,105,109,47,99,117,116,46,112,121]⟩ (V.tk 2709)],#[]⟩
def o_282(P:Params)(V:TopV):Obj:=⟨.type "function", none,.func (fnD (inS 20 3) ⟨#[95,65,99,99,117,109,117,108,97,116,111,114,46,112,111,112]⟩ [(⟨#[95,95,99,108,97,115,115,95,95]⟩,(V.av 246))] (.none) (.str ⟨#[99,112,121,51,49,51,46,101,109,97,105,108,46,104,101,97,100,101,114]⟩ (V.tk 2548)) (.ref (V.av 281)) (.ref (V.av 275))),#[]⟩
def o_288(P:Params)(V:TopV):Obj:=⟨.type "code", none,.fields #[.str ⟨#[95,95,108,101,110,95,95]⟩ (V.tk 2711),.str ⟨#[95,65,99,99,117,109,117,108,97,116,111,114,46,95,95,108,101,110,95,95]⟩ (V.tk 2712),.str ⟨#[47,99,108,97,105,109,47,99,117,116,46,112,121]⟩ (V.tk 2713),.int (123) 0,.int (1) 0,.int (0) 0,.int (0) 0,.int (3) 0,.ref (V.av 283),.bool true,.int (181) 0,.ref (V.av 284),.none,.ref (V.av 285),.ref (V.av 286),.ref (V.av 287),.int (2715) 0,.int (123) 0,.str ⟨#[47,99,108,97,105,109,47,99,117,116,46,112,121]⟩ (V.tk 2716)],#[]⟩
def o_289(P:Params)(V:TopV):Obj:=⟨.type "function", none,.func (fnD (inS 20 4) ⟨#[95,65,99,99,117,109,117,108,97,116,111,114,46,95,95,108,101,110,95,95]⟩ [] (.none) (.str ⟨#[99,112,121,51,49,51,46,101,109,97,105,108,46,104,101,97,100,101,114]⟩ (V.tk 2548)) (.ref (V.av 288)) (.none)),#[]⟩
def o_295(P:Params)(V:TopV):Obj:=⟨.type "code", none,.fields #[.str ⟨#[95,95,115,116,114,95,95]⟩ (V.tk 2718),.str ⟨#[95,65,99,99,117,109,117,108,97,116,111,114,46,95,95,115,116,114,95,95]⟩ (V.tk 2719),.str ⟨#[47,99,108,97,105,109,47,99,117,116,46,112,121]⟩ (V.tk 2720),.int (126) 0,.int (1) 0,.int (0) 0,.int (0) 0,.int (3) 0,.ref (V.av 290),.bool true,.int (181) 0,.ref (V.av 291),.none,.ref (V.av 292),.ref (V.av 293),.ref (V.av 294),.int (2722) 0,.int (126) 0,.str ⟨#[47,99,108,97,105,109,47,99,117,116,46,112,121]⟩ (V.tk 2723)],#[]⟩
def o_296(P:Params)(V:TopV):Obj:=⟨.type "function", none,.func (fnD (inS 20 5) ⟨#[95,65,99,99,117,109,117,108,97,116,111,114,46,95,95,115,116,114,95,95]⟩ [] (.none) (.str ⟨#[99,112,121,51,49,51,46,101,109,97,105,108,46,104,101,97,100,101,114]⟩ (V.tk 2548)) (.ref (V.av 295)) (.none)),#[]⟩
def o_297(P:Params)(V:TopV):Obj:=⟨.type "tuple", none,.seq #[.none] 0,#[]⟩
def o_303(P:Params)(V:TopV):Obj:=⟨.type "code", none,.fields #[.str ⟨#[114,101,115,101,116]⟩ (V.tk 2725),.str ⟨#[95,65,99,99,117,109,117,108,97,116,111,114,46,114,101,115,101,116]⟩ (V.tk 2726),.str ⟨#[47,99,108,97,105,109,47,99,117,116,46,112,121]⟩ (V.tk 2727),.int (129) 0,.int (2) 0,.int (0) 0,.int (0) 0,.int (3) 0,.ref (V.av 298),.bool true,.int (181) 0,.ref (V.av 299),.none,.ref (V.av 300),.ref (V.av 301),.ref (V.av 302),.int (2730) 0,.int (129) 0,.str ⟨#[47,99,108,97,105,109,47,99,117,116,46,112,121]⟩ (V.tk 2731)],#[]⟩
def o_304(P:Params)(V:TopV):Obj:=⟨.type "function", none,.func (fnD (inS 20 6) ⟨#[95,65,99,99,117,109,117,108,97,116,111,114,46,114,101,115,101,116]⟩ [] (.ref (V.av 297)) (.str ⟨#[99,112,121,51,49,51,46,101,109,97,105,108,46,104,101,97,100,101,114]⟩ (V.tk 2548)) (.ref (V.av 303)) (.none)),#[]⟩
def o_310(P:Params)(V:TopV):Obj:=⟨.type "code", none,.fields #[.str ⟨#[105,115,95,111,110,108,121,119,115]⟩ (V.tk 2733),.str ⟨#[95,65,99,99,117,109,117,108,97,116,111,114,46,105,115,95,111,110,108,121,119,115]⟩ (V.tk 2734),.str ⟨#[47,99,108,97,105,109,47,99,117,116,46,112,121]⟩ (V.tk 2735),.int (135) 0,.int (1) 0,.int (0) 0,.int (0) 0,.int (3) 0,.ref (V.av 305),.bool true,.int (181) 0,.ref (V.av 306),.none,.ref (V.av 307),.ref (V.av 308),.ref (V.av 309),.int (2737) 0,.int (135) 0,.str ⟨#[47,99,108,97,105,109,47,99,117,116,46,112,121]⟩ (V.tk 2738)],#[]⟩
def o_311(P:Params)(V:TopV):Obj:=⟨.type "function", none,.func (fnD (inS 20 7) ⟨#[95,65,99,99,117,109,117,108,97,116,111,114,46,105,115,95,111,110,108,121,119,115]⟩ [] (.none) (.str ⟨#[99,112,121,51,49,51,46,101,109,97,105,108,46,104,101,97,100,101,114]⟩ (V.tk 2548)) (.ref (V.av 310)) (.none)),#[]⟩
def o_318(P:Params)(V:TopV):Obj:=⟨.type "code", none,.fields #[.str ⟨#[112,97,114,116,95,99,111,117,110,116]⟩ (V.tk 2740),.str ⟨#[95,65,99,99,117,109,117,108,97,116,111,114,46,112,97,114,116,95,99,111,117,110,116]⟩ (V.tk 2741),.str ⟨#[47,99,108,97,105,109,47,99,117,116,46,112,121]⟩ (V.tk 2742),.int (138) 0,.int (1) 0,.int (0) 0,.int (0) 0,.int (3) 0,.ref (V.av 313),.bool true,.int (181) 0,.ref (V.av 314),.none,.ref (V.av 315),.ref (V.av 316),.ref (V.av 317),.int (2745) 0,.int (138) 0,.str ⟨#[47,99,108,97,105,109,47,99,117,116,46,112,121]⟩ (V.tk 2746)],#[]⟩
def o_319(P:Params)(V:TopV):Obj:=⟨.type "function", none,.func (fnD (inS 20 8) ⟨#[95,65,99,99,117,109,117,108,97,116,111,114,46,112,97,114,116,95,99,111,117,110,116]⟩ [(⟨#[95,95,99,108,97,115,115,95,95]⟩,(V.av 246))] (.none) (.str ⟨#[99,112,121,51,49,51,46,101,109,97,105,108,46,104,101,97,100,101,114]⟩ (V.tk 2548)) (.ref (V.av 318)) (.ref (V.av 312))),#[]⟩
def o_321(P:Params)(V:TopV):Obj:=⟨.type "dict", none,.dict #[⟨PyData.keyHash P ⟨#[95,95,109,111,100,117,108,101,95,95]⟩,.str ⟨#[95,95,109,111,100,117,108,101,95,95]⟩ (V.tk 2669),.str ⟨#[99,112,121,51,49,51,46,101,109,97,105,108,46,104,101,97,100,101,114]⟩ (V.tk 2548)⟩,⟨PyData.keyHash P ⟨#[95,95,102,105,114,115,116,108,105,110,101,110,111,95,95]⟩,.str ⟨#[95,95,102,105,114,115,116,108,105,110,101,110,111,95,95]⟩ (V.tk 2673),.int (104) (V.tk 2672)⟩,⟨PyData.keyHash P ⟨#[95,95,105,110,105,116,95,95]⟩,.str ⟨#[95,95,105,110,105,116,95,95]⟩ (V.tk 2683),.ref (V.av 259)⟩,⟨PyData.keyHash P ⟨#[112,117,115,104]⟩,.str ⟨#[112,117,115,104]⟩ (V.tk 2692),.ref (V.av 266)⟩,⟨PyData.keyHash P ⟨#[112,111,112,95,102,114,111,109]⟩,.str ⟨#[112,111,112,95,102,114,111,109]⟩ (V.tk 2702),.ref (V.av 274)⟩,⟨PyData.keyHash P ⟨#[112,111,112]⟩,.str ⟨#[112,111,112]⟩ (V.tk 2710),.ref (V.av 282)⟩,⟨PyData.keyHash P ⟨#[95,95,108,101,110,95,95]⟩,.str ⟨#[95,95,108,101,110,95,95]⟩ (V.tk 2717),.ref (V.av 289)⟩,⟨PyData.keyHash P ⟨#[95,95,115,116,114,95,95]⟩,.str ⟨#[95,95,115,116,114,95,95]⟩ (V.tk 2724),.ref (V.av 296)⟩,⟨PyData.keyHash P ⟨#[114,101,115,101,116]⟩,.str ⟨#[114,101,115,101,116]⟩ (V.tk 2732),.ref (V.av 304)⟩,⟨PyData.keyHash P ⟨#[105,115,95,111,110,108,121,119,115]⟩,.str ⟨#[105,115,95,111,110,108,121,119,115]⟩ (V.tk 2739),.ref (V.av 311)⟩,⟨PyData.keyHash P ⟨#[112,97,114,116,95,99,111,117,110,116]⟩,.str ⟨#[112,97,114,116,95,99,111,117,110,116]⟩ (V.tk 2747),.ref (V.av 319)⟩,⟨PyData.keyHash P ⟨#[95,95,115,116,97,116,105,99,95,97,116,116,114,105,98,117,116,101,115,95,95]⟩,.str ⟨#[95,95,115,116,97,116,105,99,95,97,116,116,114,105,98,117,116,101,115,95,95]⟩ (V.tk 2749),.ref (V.av 320)⟩,⟨PyData.keyHash P ⟨#[95,95,100,105,99,116,95,95]⟩,.str ⟨#[95,95,100,105,99,116,95,95]⟩ (V.tk 2752),.ref (V.av 323)⟩,⟨PyData.keyHash P ⟨#[95,95,119,101,97,107,114,101,102,95,95]⟩,.str ⟨#[95,95,119,101,97,107,114,101,102,95,95]⟩ (V.tk 2754),.ref (V.av 324)⟩,⟨PyData.keyHash P ⟨#[95,95,100,111,99,95,95]⟩,.str ⟨#[95,95,100,111,99,95,95]⟩ (V.tk 2755),.none⟩] 5,#[]⟩
def o_322(P:Params)(V:TopV):Obj:=⟨.type "type", none,.cls { name:=⟨#[95,65,99,99,117,109,117,108,97,116,111,114]⟩,bases:=[.type "list"],mro:=[.ref (V.av 322),.type "list", .type "object"],ns:=(V.av 321),qualname:=⟨#[95,65,99,99,117,109,117,108,97,116,111,114]⟩,hasDict:=true,slotNames:=[],subclasses:=[],abstract:=false,collection:=none,hasDel:=false },#[(some (.ref (V.av 243))),none,(some (.str ⟨#[95,65,99,99,117,109,117,108,97,116,111,114]⟩ (V.tk 2662))),(some (.str ⟨#[95,65,99,99,117,109,117,108,97,116,111,114]⟩ (V.tk 2670))),(some (.builtin "list.__new__")),(some (.bool true))]⟩
def o_332(P:Params)(V:TopV):Obj:=⟨.type "code", none,.fields #[.str ⟨#[95,108,97,119,95,99,111,100,101]⟩ (V.tk 2760),.str ⟨#[95,108,97,119,95,99,111,100,101]⟩ (V.tk 2761),.str ⟨#[47,99,108,97,105,109,47,99,117,116,46,112,121]⟩ (V.tk 2762),.int (141) 0,.int (1) 0,.int (0) 0,.int (0) 0,.int (3) 0,.ref (V.av 327),.bool true,.int (181) 0,.ref (V.av 328),.none,.ref (V.av 329),.ref (V.av 330),.ref (V.av 331),.int (2766) 0,.int (141) 0,.str ⟨#[47,99,108,97,105,109,47,99,117,116,46,112,121]⟩ (V.tk 2767)],#[]⟩
def o_333(P:Params)(V:TopV):Obj:=⟨.type "function", none,.func (fnD (zs 22) ⟨#[95,108,97,119,95,99,111,100,101]⟩ [] (.none) (.str ⟨#[108,97,119,95,112,101,48,50,56,52,95,48,49]⟩ (V.tk 2758)) (.ref (V.av 332)) (.none)),#[]⟩
def o_337(P:Params)(V:TopV):Obj:=⟨.type "code", none,.fields #[.str ⟨#[95,108,97,119,95,105,115,95,98,97,114,114,101,100]⟩ (V.tk 2769),.str ⟨#[95,108,97,119,95,105,115,95,98,97,114,114,101,100]⟩ (V.tk 2770),.str ⟨#[47,99,108,97,105,109,47,99,117,116,46,112,121]⟩ (V.tk 2771),.int (153) 0,.int (1) 0,.int (0) 0,.int (0) 0,.int (3) 0,.ref (V.av 334),.bool true,.int (181) 0,.ref (V.av 335),.none,.none,.none,.ref (V.av 336),.int (2772) 0,.int (153) 0,.str ⟨#[47,99,108,97,105,109,47,99,117,116,46,112,121]⟩ (V.tk 2773)],#[]⟩
def o_338(P:Params)(V:TopV):Obj:=⟨.type "function", none,.func (fnD (zs 23) ⟨#[95,108,97,119,95,105,115,95,98,97,114,114,101,100]⟩ [] (.none) (.str ⟨#[108,97,119,95,112,101,48,50,56,52,95,48,49]⟩ (V.tk 2758)) (.ref (V.av 337)) (.none)),#[]⟩
def o_344(P:Params)(V:TopV):Obj:=⟨.type "code", none,.fields #[.str ⟨#[95,108,97,119,95,116,111,108,100]⟩ (V.tk 2775),.str ⟨#[95,108,97,119,95,116,111,108,100]⟩ (V.tk 2776),.str ⟨#[47,99,108,97,105,109,47,99,117,116,46,112,121]⟩ (V.tk 2777),.int (156) 0,.int (1) 0,.int (0) 0,.int (0) 0,.int (3) 0,.ref (V.av 339),.bool true,.int (181) 0,.ref (V.av 340),.none,.ref (V.av 341),.ref (V.av 342),.ref (V.av 343),.int (2779) 0,.int (156) 0,.str ⟨#[47,99,108,97,105,109,47,99,117,116,46,112,121]⟩ (V.tk 2780)],#[]⟩
def o_345(P:Params)(V:TopV):Obj:=⟨.type "function", none,.func (fnD (zs 24) ⟨#[95,108,97,119,95,116,111,108,100]⟩ [] (.none) (.str ⟨#[108,97,119,95,112,101,48,50,56,52,95,48,49]⟩ (V.tk 2758)) (.ref (V.av 344)) (.none)),#[]⟩
def o_349(P:Params)(V:TopV):Obj:=⟨.type "code", none,.fields #[.str ⟨#[95,108,97,119,95,112,97,103,101]⟩ (V.tk 2782),.str ⟨#[95,108,97,119,95,112,97,103,101]⟩ (V.tk 2783),.str ⟨#[47,99,108,97,105,109,47,99,117,116,46,112,121]⟩ (V.tk 2784),.int (168) 0,.int (3) 0,.int (0) 0,.int (0) 0,.int (3) 0,.ref (V.av 346),.bool true,.int (181) 0,.ref (V.av 347),.none,.none,.none,.ref (V.av 348),.int (2785) 0,.int (168) 0,.str ⟨#[47,99,108,97,105,109,47,99,117,116,46,112,121]⟩ (V.tk 2786)],#[]⟩
def o_350(P:Params)(V:TopV):Obj:=⟨.type "function", none,.func (fnD (zs 25) ⟨#[95,108,97,119,95,112,97,103,101]⟩ [] (.none) (.str ⟨#[108,97,119,95,112,101,48,50,56,52,95,48,49]⟩ (V.tk 2758)) (.ref (V.av 349)) (.none)),#[]⟩
def o_356(P:Params)(V:TopV):Obj:=⟨.type "code", none,.fields #[.str ⟨#[95,108,97,119,95,108,97,105,100]⟩ (V.tk 2788),.str ⟨#[95,108,97,119,95,108,97,105,100]⟩ (V.tk 2789),.str ⟨#[47,99,108,97,105,109,47,99,117,116,46,112,121]⟩ (V.tk 2790),.int (199) 0,.int (3) 0,.int (0) 0,.int (0) 0,.int (3) 0,.ref (V.av 351),.bool true,.int (181) 0,.ref (V.av 352),.none,.ref (V.av 353),.ref (V.av 354),.ref (V.av 355),.int (2797) 0,.int (199) 0,.str ⟨#[47,99,108,97,105,109,47,99,117,116,46,112,121]⟩ (V.tk 2798)],#[]⟩
def o_357(P:Params)(V:TopV):Obj:=⟨.type "function", none,.func (fnD (zs 26) ⟨#[95,108,97,119,95,108,97,105,100]⟩ [] (.none) (.str ⟨#[108,97,119,95,112,101,48,50,56,52,95,48,49]⟩ (V.tk 2758)) (.ref (V.av 356)) (.none)),#[]⟩
def o_361(P:Params)(V:TopV):Obj:=⟨.type "code", none,.fields #[.str ⟨#[108,97,119]⟩ (V.tk 2800),.str ⟨#[108,97,119]⟩ (V.tk 2801),.str ⟨#[47,99,108,97,105,109,47,99,117,116,46,112,121]⟩ (V.tk 2802),.int (210) 0,.int (1) 0,.int (0) 0,.int (0) 0,.int (3) 0,.ref (V.av 358),.bool true,.int (181) 0,.ref (V.av 359),.none,.none,.none,.ref (V.av 360),.int (2803) 0,.int (210) 0,.str ⟨#[47,99,108,97,105,109,47,99,117,116,46,112,121]⟩ (V.tk 2804)],#[]⟩
def o_362(P:Params)(V:TopV):Obj:=⟨.type "function", none,.func (fnD (zs 27) ⟨#[108,97,119]⟩ [] (.none) (.str ⟨#[108,97,119,95,112,101,48,50,56,52,95,48,49]⟩ (V.tk 2758)) (.ref (V.av 361)) (.none)),#[]⟩
def u7(P:Params)(V:TopV):X.KT:=(.node (some (o_0 P V)) (.node none (.node (some (o_3 P V)) (.node none (.node none (.node none (.node none .nil (.node none (.node (some (o_319 P V)) .nil .nil) .nil)) .nil) (.node none (.node none .nil (.node (some (o_207 P V)) .nil .nil)) (.node (some (o_111 P V)) (.node none (.node (some (o_303 P V)) .nil .nil) .nil) .nil))) (.node none (.node (some (o_39 P V)) (.node none .nil (.node (some (o_199 P V)) .nil .nil)) (.node none (.node none (.node (some (o_295 P V)) .nil .nil) .nil) .nil)) (.node none .nil (.node none (.node none (.node (some (o_311 P V)) .nil .nil) .nil) .nil)))) (.node none (.node none (.node none (.node none (.node none (.node (some (o_259 P V)) .nil .nil) .nil) .nil) (.node (some (o_99 P V)) .nil .nil)) (.node none (.node none (.node (some (o_147 P V)) .nil .nil) .nil) (.node none (.node (some (o_179 P V)) .nil .nil) .nil))) (.node none (.node none (.node none (.node none (.node (some (o_267 P V)) .nil .nil) .nil) .nil) (.node none .nil (.node (some (o_235 P V)) .nil .nil))) (.node none (.node (some (o_91 P V)) (.node (some (o_155 P V)) .nil .nil) .nil) (.node (some (o_123 P V)) .nil (.node (some (o_251 P V)) .nil .nil)))))) (.node none (.node none (.node none (.node none (.node none .nil (.node none (.node (some (o_321 P V)) .nil .nil) .nil)) (.node none (.node none (.node (some (o_289 P V)) .nil .nil) .nil) .nil)) (.node none (.node none (.node none (.node (some (o_273 P V)) .nil .nil) .nil) (.node none (.node (some (o_337 P V)) .nil .nil) .nil)) (.node (some (o_113 P V)) .nil .nil))) (.node none (.node none (.node none (.node (some (o_137 P V)) (.node (some (o_265 P V)) .nil .nil) .nil) .nil) (.node none (.node none (.node (some (o_297 P V)) .nil .nil) .nil) (.node none (.node (some (o_361 P V)) .nil .nil) .nil))) (.node none (.node none (.node none (.node (some (o_281 P V)) .nil .nil) .nil) (.node none (.node (some (o_345 P V)) .nil .nil) .nil)) (.node none (.node (some (o_185 P V)) .nil .nil) .nil)))) (.node none (.node none (.node none .nil (.node (some (o_101 P V)) (.node (some (o_165 P V)) .nil .nil) (.node none (.node (some (o_357 P V)) .nil .nil) .nil))) (.node none (.node (some (o_85 P V)) .nil .nil) .nil)) (.node (some (o_29 P V)) (.node none (.node none .nil (.node none (.node (some (o_333 P V)) .nil .nil) .nil)) (.node none .nil (.node (some (o_237 P V)) .nil .nil))) (.node none (.node none .nil (.node none (.node (some (o_349 P V)) .nil .nil) .nil)) .nil))))) (.node (some (o_2 P V)) (.node (some (o_4 P V)) (.node none (.node none (.node none .nil (.node none (.node none (.node (some (o_288 P V)) .nil .nil) .nil) .nil)) (.node none .nil (.node none (.node none (.node (some (o_304 P V)) .nil .nil) .nil) .nil))) (.node none (.node (some (o_40 P V)) (.node none .nil (.node (some (o_200 P V)) .nil .nil)) (.node none (.node none (.node (some (o_296 P V)) .nil .nil) .nil) .nil)) (.node none (.node none .nil (.node none (.node (some (o_344 P V)) .nil .nil) .nil)) .nil))) (.node none (.node none (.node none .nil (.node none (.node (some (o_164 P V)) .nil .nil) (.node none (.node (some (o_356 P V)) .nil .nil) .nil))) (.node none (.node (some (o_84 P V)) .nil .nil) .nil)) (.node none (.node none (.node none .nil (.node none (.node (some (o_332 P V)) .nil .nil) .nil)) .nil) (.node none (.node (some (o_92 P V)) .nil .nil) .nil)))) (.node none (.node none (.node none (.node none (.node none (.node none (.node (some (o_258 P V)) .nil .nil) .nil) (.node none (.node (some (o_322 P V)) .nil .nil) .nil)) (.node (some (o_98 P V)) .nil .nil)) (.node none (.node none (.node (some (o_146 P V)) (.node (some (o_274 P V)) .nil .nil) .nil) (.node none (.node (some (o_338 P V)) .nil .nil) .nil)) (.node none (.node (some (o_178 P V)) .nil .nil) .nil))) (.node none (.node none (.node none (.node none (.node (some (o_266 P V)) .nil .nil) .nil) .nil) (.node none .nil (.node (some (o_234 P V)) (.node (some (o_362 P V)) .nil .nil) .nil))) (.node none (.node none (.node none (.node (some (o_282 P V)) .nil .nil) .nil) .nil) (.node (some (o_122 P V)) (.node (some (o_186 P V)) .nil .nil) .nil)))) (.node none (.node none (.node (some (o_38 P V)) .nil .nil) (.node none .nil (.node none (.node none (.node (some (o_310 P V)) .nil .nil) .nil) (.node (some (o_246 P V)) .nil .nil)))) (.node none (.node none (.node none .nil (.node (some (o_206 P V)) .nil .nil)) (.node (some (o_110 P V)) .nil (.node (some (o_238 P V)) .nil .nil))) (.node none (.node none .nil (.node none (.node (some (o_350 P V)) .nil .nil) .nil)) (.node none (.node none (.node (some (o_318 P V)) .nil .nil) .nil) .nil)))))))
def adOf(V:TopV)(L:Nat):Addr:=match Nat.blt L 11 with
 |true=>L
 |false=>V.av L
def base(P:Params)(V:TopV)(L:Nat):Option (Addr × Obj):=match (u7 P V).get L with
 |some o=>some (adOf V L,o)
 |none=>none
def zx:Code→Sem PySem.Fin:=PySem.W.Fast.tw11892475500146522536 PySem.W.Fast.tw14364793385576792824
def vU(w:World)(b1 b2:Bool):World:=(w.withFollow "special-get-raises" b1).withFollow "comprehension-iter-twice" b2
def cfg(P:Params)(V:TopV)(W:List (Code × Pos))(n:Nat)(tl:zh:=[]):Cfg:=⟨zx,progP,P,base P V,W,n,tl⟩
def idB(id:String)(n:Nat):Bool:=Nat.beq (S.codeS id) n
structure Start where
 C:Cfg
 X:List Ext
 T:zh
 G:zM
 cur:Sem PySem.Fin
 code:Code
 pos:Pos
 fs:List Frame
def Start.run(S:Start)(α:Nat→Addr)(τ:Nat→Ch)(γ:Nat→Nat)(N:Nat)(tape:List Nat):Option Out:=
 exec S.C S.X α τ γ N tape (S.T++S.C.tail) 0 0 S.G 0 [] [] S.cur S.code S.pos S.fs
theorem zv{id s:String}{n:Nat}(h:idB id n=true)(hs:S.codeS s=n):id=s:=by
 have h2:PySem.code id=PySem.code s:=by
  have:=Nat.eq_of_beq_eq_true h
  show PySem.code id=PySem.code s
  rw[S.codeS_fn,this,hs]
 exact PySem.code_inj _ _ h2
end Mine
end
noncomputable section
open PyProof.Rows PySem PySem.W
namespace Mine
theorem wm:zx=denote table:=by
 unfold zx
 rw[←PySem.W.Fast.te11892475500146522536,table_eq_tree]
 exact congrArg denote PySem.W.Fast.te14364793385576792824.symm
theorem cfg_ok{w:World}{b1 b2:Bool}(hw:w=vU w b1 b2){V:TopV}{W:List (Code × Pos)}{n:Nat}{tl:zh}(hn:0 < n):(cfg (vU w b1 b2).params V W n tl).Ok w:=
 ⟨wm,by show (vU w b1 b2).params=w.params;rw[←hw],hn⟩
theorem rowW_self(w:World):∃b1 b2,w=vU w b1 b2:=by
 refine⟨w.params.followText "special-get-raises", w.params.followText "comprehension-iter-twice", ?_⟩
 unfold vU
 rw[World.withFollow_self,World.withFollow_self]
end Mine
end
noncomputable section
open PySem PySem.W
set_option maxRecDepth 100000
namespace Mine
def sL(l:List Nat):Str:=⟨l.toArray⟩
def vI(n:Nat)(t:Tok):Value:=.int (.ofNat n) t
def vS(l:List Nat)(t:Tok):Value:=.str ⟨l.toArray⟩ t
def vR(a:Addr):Value:=.ref a
def sR(a:Addr):Option Value:=some (.ref a)
def dE(P:Params)(l:List Nat)(t:Tok)(v:Value):DictEntry:=⟨PyData.keyHash P ⟨l.toArray⟩,.str ⟨l.toArray⟩ t,v⟩
def tuO(l:List Value):Obj:=⟨.type "tuple", none,.seq l.toArray 0,#[]⟩
def lsO(l:List Value)(e:Nat):Obj:=⟨.type "list", none,.seq l.toArray e,#[]⟩
def fdO(c:Value)(l:List Value):Obj:=⟨c,none,.fields l.toArray,#[]⟩
def fuO(c:Value)(s:Stmt)(q:List Nat)(cl:List (Str × Addr))(d m k t:Value):Obj:=⟨c,none,.func (fnD s ⟨q.toArray⟩ cl d m k t),#[]⟩
def fuN(s:Stmt)(q:List Nat)(cl:List (Str × Addr))(d m k t:Value):Obj:=⟨.none,none,.func { fnD s ⟨q.toArray⟩ cl d m k t with globals:=0 },#[]⟩
def cutS:List Nat:=[47,99,108,97,105,109,47,99,117,116,46,112,121]
def cdO(n q:List Nat)(t l a f:Nat)(r1:Addr)(b:Bool)(x:Nat)(r2:Addr)(u v w:Value)(t2:Nat):Obj:=
 fdO (.type "code") [vS n t,vS q (t+1),vS cutS (t+2),vI l 0,vI a 0,vI 0 0,vI 0 0,vI f 0,vR r1,.bool b,vI x 0,vR r2,.none,u,v,w,vI t2 0,vI l 0,vS cutS (t2+1)]
def zR(es:List DictEntry)(n:Nat):Obj:=⟨.type "dict", none,.dict es.toArray n,#[]⟩
def h_13:Obj:=cdO [60,109,111,100,117,108,101,62] [60,109,111,100,117,108,101,62] 182 1 0 0 11 false 181 12 (.none) (.none) (.none) 185
def h_14:Obj:=⟨.type "frame", none,.plain,#[(sR 13),(sR 3),(sR 3),none,(some (vS [95,95,109,97,105,110,95,95] 164)),none,(sR 0)]⟩
def h_22:Obj:=lsO [vI 173 196,vI 847 197,vI 6150 198,vI 6155 199,vI 6156 200,vI 6157 201,vI 8203 202,vI 8204 203,vI 8205 204,vI 8288 205,vI 65279 206] 0
def h_24:Obj:=lsO [vI 65024 212,vI 65025 213,vI 65026 214,vI 65027 215,vI 65028 216,vI 65029 217,vI 65030 218,vI 65031 219,vI 65032 220,vI 65033 221,vI 65034 222,vI 65035 223,vI 65036 224,vI 65037 225,vI 65038 226,vI 65039 227] 18
def h_28:Obj:=lsO [vI 173 196,vI 847 197,vI 6150 198,vI 6155 199,vI 6156 200,vI 6157 201,vI 8203 202,vI 8204 203,vI 8205 204,vI 8288 205,vI 65279 206,vI 65024 212,vI 65025 213,vI 65026 214,vI 65027 215,vI 65028 216,vI 65029 217,vI 65030 218,vI 65031 219,vI 65032 220,vI 65033 221,vI 65034 222,vI 65035 223,vI 65036 224,vI 65037 225,vI 65038 226,vI 65039 227] 0
def seL29:List (Int × Value):=[(65024,vI 65024 212),(65025,vI 65025 213),(65026,vI 65026 214),(65027,vI 65027 215),(65028,vI 65028 216),(65029,vI 65029 217),(6150,vI 6150 198),(65030,vI 65030 218),(65031,vI 65031 219),(65032,vI 65032 220),(65033,vI 65033 221),(6155,vI 6155 199),(6156,vI 6156 200),(6157,vI 6157 201),(8203,vI 8203 202),(8204,vI 8204 203),(8205,vI 8205 204),(65034,vI 65034 222),(65035,vI 65035 223),(65036,vI 65036 224),(65037,vI 65037 225),(65038,vI 65038 226),(65039,vI 65039 227),(173,vI 173 196),(847,vI 847 197),(8288,vI 8288 205),(65279,vI 65279 206)]
def stL29(P:Params):SetTable:=⟨127,#[0,1,2,3,4,5,6,7,8,9,10,11,12,13,14,15,16,17,18,19,20,21,22,45,79,96,127],#[],0,!(P.followText "set-order"),2,true⟩
def h_29(P:Params):Obj:=⟨.type "set", none,.set seL29.toArray 29 (stL29 P),#[]⟩
def h_38:Obj:=cdO [105,110,95,116,97,98,108,101,95,98,49] [105,110,95,116,97,98,108,101,95,98,49] 256 6 1 3 33 true 181 34 (vR 35) (vR 36) (vR 37) 260
def h_39:Obj:=fuO (.type "function") (zs 3) [105,110,95,116,97,98,108,101,95,98,49] [] (.none) (vS [99,112,121,51,49,51,46,115,116,114,105,110,103,112,114,101,112] 194) (vR 38) (.none)
def h_84:Obj:=cdO [109,97,112,95,116,97,98,108,101,95,98,51] [109,97,112,95,116,97,98,108,101,95,98,51] 2214 9 1 3 79 true 181 80 (vR 81) (vR 82) (vR 83) 2219
def h_85:Obj:=fuO (.type "function") (zs 5) [109,97,112,95,116,97,98,108,101,95,98,51] [] (.none) (vS [99,112,121,51,49,51,46,115,116,114,105,110,103,112,114,101,112] 194) (vR 84) (.none)
def h_91:Obj:=cdO [105,110,95,116,97,98,108,101,95,99,49,49] [105,110,95,116,97,98,108,101,95,99,49,49] 2222 14 1 3 86 true 181 87 (vR 88) (vR 89) (vR 90) 2226
def h_92:Obj:=fuO (.type "function") (zs 6) [105,110,95,116,97,98,108,101,95,99,49,49] [] (.none) (vS [99,112,121,51,49,51,46,115,116,114,105,110,103,112,114,101,112] 194) (vR 91) (.none)
def h_98:Obj:=cdO [105,110,95,116,97,98,108,101,95,99,52] [105,110,95,116,97,98,108,101,95,99,52] 2229 16 1 3 93 true 181 94 (vR 95) (vR 96) (vR 97) 2234
def h_99:Obj:=fuO (.type "function") (zs 7) [105,110,95,116,97,98,108,101,95,99,52] [] (.none) (vS [99,112,121,51,49,51,46,115,116,114,105,110,103,112,114,101,112] 194) (vR 98) (.none)
def seL101:List (Int × Value):=[(65529,vI 65529 2240),(65530,vI 65530 2242),(65531,vI 65531 2244),(65532,vI 65532 2246),(65533,vI 65533 2248)]
def stL101(P:Params):SetTable:=⟨31,#[25,26,27,28,29],#[],0,!(P.followText "set-order"),1,true⟩
def h_101(P:Params):Obj:=⟨.type "set", none,.set seL101.toArray 6 (stL101 P),#[]⟩
def h_110:Obj:=cdO [105,110,95,116,97,98,108,101,95,99,54] [105,110,95,116,97,98,108,101,95,99,54] 2251 24 1 3 105 true 181 106 (vR 107) (vR 108) (vR 109) 2255
def h_111:Obj:=fuO (.type "function") (zs 9) [105,110,95,116,97,98,108,101,95,99,54] [] (.none) (vS [99,112,121,51,49,51,46,115,116,114,105,110,103,112,114,101,112] 194) (vR 110) (.none)
def seL113:List (Int × Value):=[(12272,vI 12272 2261),(12273,vI 12273 2263),(12274,vI 12274 2265),(12275,vI 12275 2267),(12276,vI 12276 2269),(12277,vI 12277 2271),(12278,vI 12278 2273),(12279,vI 12279 2275),(12280,vI 12280 2277),(12281,vI 12281 2279),(12282,vI 12282 2281),(12283,vI 12283 2283)]
def stL113(P:Params):SetTable:=⟨31,#[16,17,18,19,20,21,22,23,24,25,26,27],#[],0,!(P.followText "set-order"),1,true⟩
def h_113(P:Params):Obj:=⟨.type "set", none,.set seL113.toArray 13 (stL113 P),#[]⟩
def h_122:Obj:=cdO [105,110,95,116,97,98,108,101,95,99,55] [105,110,95,116,97,98,108,101,95,99,55] 2286 27 1 3 117 true 181 118 (vR 119) (vR 120) (vR 121) 2290
def h_123:Obj:=fuO (.type "function") (zs 11) [105,110,95,116,97,98,108,101,95,99,55] [] (.none) (vS [99,112,121,51,49,51,46,115,116,114,105,110,103,112,114,101,112] 194) (vR 122) (.none)
def h_130:Obj:=lsO [vI 832 2293,vI 833 2294,vI 8206 2295,vI 8207 2296,vI 8234 2302,vI 8235 2303,vI 8236 2304,vI 8237 2305,vI 8238 2306] 0
def h_136:Obj:=lsO [vI 832 2293,vI 833 2294,vI 8206 2295,vI 8207 2296,vI 8234 2302,vI 8235 2303,vI 8236 2304,vI 8237 2305,vI 8238 2306,vI 8298 2312,vI 8299 2313,vI 8300 2314,vI 8301 2315,vI 8302 2316,vI 8303 2317] 0
def seL137:List (Int × Value):=[(832,vI 832 2293),(833,vI 833 2294),(8234,vI 8234 2302),(8235,vI 8235 2303),(8236,vI 8236 2304),(8237,vI 8237 2305),(8206,vI 8206 2295),(8207,vI 8207 2296),(8238,vI 8238 2306),(8298,vI 8298 2312),(8299,vI 8299 2313),(8300,vI 8300 2314),(8301,vI 8301 2315),(8302,vI 8302 2316),(8303,vI 8303 2317)]
def stL137(P:Params):SetTable:=⟨31,#[0,1,10,11,12,13,14,15,16,17,18,19,20,21,22],#[],0,!(P.followText "set-order"),1,true⟩
def h_137(P:Params):Obj:=⟨.type "set", none,.set seL137.toArray 16 (stL137 P),#[]⟩
def h_146:Obj:=cdO [105,110,95,116,97,98,108,101,95,99,56] [105,110,95,116,97,98,108,101,95,99,56] 2334 30 1 3 141 true 181 142 (vR 143) (vR 144) (vR 145) 2338
def h_147:Obj:=fuO (.type "function") (zs 13) [105,110,95,116,97,98,108,101,95,99,56] [] (.none) (vS [99,112,121,51,49,51,46,115,116,114,105,110,103,112,114,101,112] 194) (vR 146) (.none)
def h_150:Obj:=lsO [vI 917536 2347,vI 917537 2348,vI 917538 2349,vI 917539 2350,vI 917540 2351,vI 917541 2352,vI 917542 2353,vI 917543 2354,vI 917544 2355,vI 917545 2356,vI 917546 2357,vI 917547 2358,vI 917548 2359,vI 917549 2360,vI 917550 2361,vI 917551 2362,vI 917552 2363,vI 917553 2364,vI 917554 2365,vI 917555 2366,vI 917556 2367,vI 917557 2368,vI 917558 2369,vI 917559 2370,vI 917560 2371,vI 917561 2372,vI 917562 2373,vI 917563 2374,vI 917564 2375,vI 917565 2376,vI 917566 2377,vI 917567 2378,vI 917568 2379,vI 917569 2380,vI 917570 2381,vI 917571 2382,vI 917572 2383,vI 917573 2384,vI 917574 2385,vI 917575 2386,vI 917576 2387,vI 917577 2388,vI 917578 2389,vI 917579 2390,vI 917580 2391,vI 917581 2392,vI 917582 2393,vI 917583 2394,vI 917584 2395,vI 917585 2396,vI 917586 2397,vI 917587 2398,vI 917588 2399,vI 917589 2400,vI 917590 2401,vI 917591 2402,vI 917592 2403,vI 917593 2404,vI 917594 2405,vI 917595 2406,vI 917596 2407,vI 917597 2408,vI 917598 2409,vI 917599 2410,vI 917600 2411,vI 917601 2412,vI 917602 2413,vI 917603 2414,vI 917604 2415,vI 917605 2416,vI 917606 2417,vI 917607 2418,vI 917608 2419,vI 917609 2420,vI 917610 2421,vI 917611 2422,vI 917612 2423,vI 917613 2424,vI 917614 2425,vI 917615 2426,vI 917616 2427,vI 917617 2428,vI 917618 2429,vI 917619 2430,vI 917620 2431,vI 917621 2432,vI 917622 2433,vI 917623 2434,vI 917624 2435,vI 917625 2436,vI 917626 2437,vI 917627 2438,vI 917628 2439,vI 917629 2440,vI 917630 2441,vI 917631 2442] 98
def h_154:Obj:=lsO [vI 917505 2341,vI 917536 2347,vI 917537 2348,vI 917538 2349,vI 917539 2350,vI 917540 2351,vI 917541 2352,vI 917542 2353,vI 917543 2354,vI 917544 2355,vI 917545 2356,vI 917546 2357,vI 917547 2358,vI 917548 2359,vI 917549 2360,vI 917550 2361,vI 917551 2362,vI 917552 2363,vI 917553 2364,vI 917554 2365,vI 917555 2366,vI 917556 2367,vI 917557 2368,vI 917558 2369,vI 917559 2370,vI 917560 2371,vI 917561 2372,vI 917562 2373,vI 917563 2374,vI 917564 2375,vI 917565 2376,vI 917566 2377,vI 917567 2378,vI 917568 2379,vI 917569 2380,vI 917570 2381,vI 917571 2382,vI 917572 2383,vI 917573 2384,vI 917574 2385,vI 917575 2386,vI 917576 2387,vI 917577 2388,vI 917578 2389,vI 917579 2390,vI 917580 2391,vI 917581 2392,vI 917582 2393,vI 917583 2394,vI 917584 2395,vI 917585 2396,vI 917586 2397,vI 917587 2398,vI 917588 2399,vI 917589 2400,vI 917590 2401,vI 917591 2402,vI 917592 2403,vI 917593 2404,vI 917594 2405,vI 917595 2406,vI 917596 2407,vI 917597 2408,vI 917598 2409,vI 917599 2410,vI 917600 2411,vI 917601 2412,vI 917602 2413,vI 917603 2414,vI 917604 2415,vI 917605 2416,vI 917606 2417,vI 917607 2418,vI 917608 2419,vI 917609 2420,vI 917610 2421,vI 917611 2422,vI 917612 2423,vI 917613 2424,vI 917614 2425,vI 917615 2426,vI 917616 2427,vI 917617 2428,vI 917618 2429,vI 917619 2430,vI 917620 2431,vI 917621 2432,vI 917622 2433,vI 917623 2434,vI 917624 2435,vI 917625 2436,vI 917626 2437,vI 917627 2438,vI 917628 2439,vI 917629 2440,vI 917630 2441,vI 917631 2442] 0
def seL155:List (Int × Value):=[(917505,vI 917505 2341),(917536,vI 917536 2347),(917537,vI 917537 2348),(917538,vI 917538 2349),(917539,vI 917539 2350),(917540,vI 917540 2351),(917541,vI 917541 2352),(917542,vI 917542 2353),(917543,vI 917543 2354),(917544,vI 917544 2355),(917545,vI 917545 2356),(917546,vI 917546 2357),(917547,vI 917547 2358),(917548,vI 917548 2359),(917549,vI 917549 2360),(917550,vI 917550 2361),(917551,vI 917551 2362),(917552,vI 917552 2363),(917553,vI 917553 2364),(917554,vI 917554 2365),(917555,vI 917555 2366),(917556,vI 917556 2367),(917557,vI 917557 2368),(917558,vI 917558 2369),(917559,vI 917559 2370),(917560,vI 917560 2371),(917561,vI 917561 2372),(917562,vI 917562 2373),(917563,vI 917563 2374),(917564,vI 917564 2375),(917565,vI 917565 2376),(917566,vI 917566 2377),(917567,vI 917567 2378),(917568,vI 917568 2379),(917569,vI 917569 2380),(917570,vI 917570 2381),(917571,vI 917571 2382),(917572,vI 917572 2383),(917573,vI 917573 2384),(917574,vI 917574 2385),(917575,vI 917575 2386),(917576,vI 917576 2387),(917577,vI 917577 2388),(917578,vI 917578 2389),(917579,vI 917579 2390),(917580,vI 917580 2391),(917581,vI 917581 2392),(917582,vI 917582 2393),(917583,vI 917583 2394),(917584,vI 917584 2395),(917585,vI 917585 2396),(917586,vI 917586 2397),(917587,vI 917587 2398),(917588,vI 917588 2399),(917589,vI 917589 2400),(917590,vI 917590 2401),(917591,vI 917591 2402),(917592,vI 917592 2403),(917593,vI 917593 2404),(917594,vI 917594 2405),(917595,vI 917595 2406),(917596,vI 917596 2407),(917597,vI 917597 2408),(917598,vI 917598 2409),(917599,vI 917599 2410),(917600,vI 917600 2411),(917601,vI 917601 2412),(917602,vI 917602 2413),(917603,vI 917603 2414),(917604,vI 917604 2415),(917605,vI 917605 2416),(917606,vI 917606 2417),(917607,vI 917607 2418),(917608,vI 917608 2419),(917609,vI 917609 2420),(917610,vI 917610 2421),(917611,vI 917611 2422),(917612,vI 917612 2423),(917613,vI 917613 2424),(917614,vI 917614 2425),(917615,vI 917615 2426),(917616,vI 917616 2427),(917617,vI 917617 2428),(917618,vI 917618 2429),(917619,vI 917619 2430),(917620,vI 917620 2431),(917621,vI 917621 2432),(917622,vI 917622 2433),(917623,vI 917623 2434),(917624,vI 917624 2435),(917625,vI 917625 2436),(917626,vI 917626 2437),(917627,vI 917627 2438),(917628,vI 917628 2439),(917629,vI 917629 2440),(917630,vI 917630 2441),(917631,vI 917631 2442)]
def stL155(P:Params):SetTable:=⟨511,#[1,32,33,34,35,36,37,38,39,40,41,42,43,44,45,46,47,48,49,50,51,52,53,54,55,56,57,58,59,60,61,62,63,64,65,66,67,68,69,70,71,72,73,74,75,76,77,78,79,80,81,82,83,84,85,86,87,88,89,90,91,92,93,94,95,96,97,98,99,100,101,102,103,104,105,106,107,108,109,110,111,112,113,114,115,116,117,118,119,120,121,122,123,124,125,126,127],#[],0,!(P.followText "set-order"),3,true⟩
def h_155(P:Params):Obj:=⟨.type "set", none,.set seL155.toArray 100 (stL155 P),#[]⟩
def h_164:Obj:=cdO [105,110,95,116,97,98,108,101,95,99,57] [105,110,95,116,97,98,108,101,95,99,57] 2541 33 1 3 159 true 181 160 (vR 161) (vR 162) (vR 163) 2545
def h_165:Obj:=fuO (.type "function") (zs 15) [105,110,95,116,97,98,108,101,95,99,57] [] (.none) (vS [99,112,121,51,49,51,46,115,116,114,105,110,103,112,114,101,112] 194) (vR 164) (.none)
def h_168(P:Params):Obj:=zR [dE P [95,95,109,111,100,117,108,101,95,95] 2561 (vS [99,112,121,51,49,51,46,101,109,97,105,108,46,104,101,97,100,101,114] 2548),dE P [95,95,113,117,97,108,110,97,109,101,95,95] 2563 (vS [95,86,97,108,117,101,70,111,114,109,97,116,116,101,114] 2562),dE P [95,95,102,105,114,115,116,108,105,110,101,110,111,95,95] 2565 (vI 38 2564),dE P [95,95,105,110,105,116,95,95] 2576 (vR 179),dE P [95,115,116,114] 2584 (vR 186),dE P [95,95,115,116,114,95,95] 2591 (vR 193),dE P [110,101,119,108,105,110,101] 2599 (vR 200),dE P [97,100,100,95,116,114,97,110,115,105,116,105,111,110] 2606 (vR 207),dE P [102,101,101,100] 2616 (vR 214),dE P [95,109,97,120,108,101,110,103,116,104,115] 2623 (vR 221),dE P [95,97,115,99,105,105,95,115,112,108,105,116] 2633 (vR 228),dE P [95,97,112,112,101,110,100,95,99,104,117,110,107] 2647 (vR 235),dE P [95,95,115,116,97,116,105,99,95,97,116,116,114,105,98,117,116,101,115,95,95] 2654 (vR 236)] 13
def h_170:Obj:=fdO .none [vI 40 0,vI 4 0,vR 178,vI 48 0,vI 4 0,vR 185,vI 52 0,vI 4 0,vR 192,vI 55 0,vI 4 0,vR 199,vI 66 0,vI 4 0,vR 206,vI 69 0,vI 4 0,vR 213,vI 72 0,vI 4 0,vR 220,vI 75 0,vI 4 0,vR 227,vI 78 0,vI 4 0,vR 234]
def h_171:Obj:=cdO [95,86,97,108,117,101,70,111,114,109,97,116,116,101,114] [95,86,97,108,117,101,70,111,114,109,97,116,116,101,114] 2556 38 0 0 169 false 181 170 (.none) (.none) (.none) 2559
def h_172:Obj:=⟨.type "frame", none,.plain,#[(sR 171),(sR 3),(sR 168),none,(some (vS [99,112,121,51,49,51,46,101,109,97,105,108,46,104,101,97,100,101,114] 2548)),none,(sR 0)]⟩
def h_175:Obj:=tuO [vS [115,101,108,102] 2569,vS [104,101,97,100,101,114,108,101,110] 2570,vS [109,97,120,108,101,110] 2571,vS [99,111,110,116,105,110,117,97,116,105,111,110,95,119,115] 2572,vS [115,112,108,105,116,99,104,97,114,115] 2573]
def h_177:Obj:=fuN (inS 19 0) [95,86,97,108,117,101,70,111,114,109,97,116,116,101,114,46,95,95,105,110,105,116,95,95] [] (.none) (.none) (.none) (.none)
def h_178:Obj:=cdO [95,95,105,110,105,116,95,95] [95,86,97,108,117,101,70,111,114,109,97,116,116,101,114,46,95,95,105,110,105,116,95,95] 2566 40 5 3 173 true 181 174 (vR 175) (vR 176) (vR 177) 2574
def h_179:Obj:=fuO (.type "function") (inS 19 0) [95,86,97,108,117,101,70,111,114,109,97,116,116,101,114,46,95,95,105,110,105,116,95,95] [] (.none) (vS [99,112,121,51,49,51,46,101,109,97,105,108,46,104,101,97,100,101,114] 2548) (vR 178) (.none)
def h_184:Obj:=fuN (inS 19 1) [95,86,97,108,117,101,70,111,114,109,97,116,116,101,114,46,95,115,116,114] [] (.none) (.none) (.none) (.none)
def h_185:Obj:=cdO [95,115,116,114] [95,86,97,108,117,101,70,111,114,109,97,116,116,101,114,46,95,115,116,114] 2577 48 2 3 180 true 181 181 (vR 182) (vR 183) (vR 184) 2582
def h_186:Obj:=fuO (.type "function") (inS 19 1) [95,86,97,108,117,101,70,111,114,109,97,116,116,101,114,46,95,115,116,114] [] (.none) (vS [99,112,121,51,49,51,46,101,109,97,105,108,46,104,101,97,100,101,114] 2548) (vR 185) (.none)
def h_191:Obj:=fuN (inS 19 2) [95,86,97,108,117,101,70,111,114,109,97,116,116,101,114,46,95,95,115,116,114,95,95] [] (.none) (.none) (.none) (.none)
def h_192:Obj:=cdO [95,95,115,116,114,95,95] [95,86,97,108,117,101,70,111,114,109,97,116,116,101,114,46,95,95,115,116,114,95,95] 2585 52 1 3 187 true 181 188 (vR 189) (vR 190) (vR 191) 2589
def h_193:Obj:=fuO (.type "function") (inS 19 2) [95,86,97,108,117,101,70,111,114,109,97,116,116,101,114,46,95,95,115,116,114,95,95] [] (.none) (vS [99,112,121,51,49,51,46,101,109,97,105,108,46,104,101,97,100,101,114] 2548) (vR 192) (.none)
def h_198:Obj:=fuN (inS 19 3) [95,86,97,108,117,101,70,111,114,109,97,116,116,101,114,46,110,101,119,108,105,110,101] [] (.none) (.none) (.none) (.none)
def h_199:Obj:=cdO [110,101,119,108,105,110,101] [95,86,97,108,117,101,70,111,114,109,97,116,116,101,114,46,110,101,119,108,105,110,101] 2592 55 1 3 194 true 181 195 (vR 196) (vR 197) (vR 198) 2597
def h_200:Obj:=fuO (.type "function") (inS 19 3) [95,86,97,108,117,101,70,111,114,109,97,116,116,101,114,46,110,101,119,108,105,110,101] [] (.none) (vS [99,112,121,51,49,51,46,101,109,97,105,108,46,104,101,97,100,101,114] 2548) (vR 199) (.none)
def h_205:Obj:=fuN (inS 19 4) [95,86,97,108,117,101,70,111,114,109,97,116,116,101,114,46,97,100,100,95,116,114,97,110,115,105,116,105,111,110] [] (.none) (.none) (.none) (.none)
def h_206:Obj:=cdO [97,100,100,95,116,114,97,110,115,105,116,105,111,110] [95,86,97,108,117,101,70,111,114,109,97,116,116,101,114,46,97,100,100,95,116,114,97,110,115,105,116,105,111,110] 2600 66 1 3 201 true 181 202 (vR 203) (vR 204) (vR 205) 2604
def h_207:Obj:=fuO (.type "function") (inS 19 4) [95,86,97,108,117,101,70,111,114,109,97,116,116,101,114,46,97,100,100,95,116,114,97,110,115,105,116,105,111,110] [] (.none) (vS [99,112,121,51,49,51,46,101,109,97,105,108,46,104,101,97,100,101,114] 2548) (vR 206) (.none)
def h_210:Obj:=tuO [vS [115,101,108,102] 2610,vS [102,119,115] 2611,vS [115,116,114,105,110,103] 2612,vS [99,104,97,114,115,101,116] 2613]
def h_212:Obj:=fuN (inS 19 5) [95,86,97,108,117,101,70,111,114,109,97,116,116,101,114,46,102,101,101,100] [] (.none) (.none) (.none) (.none)
def h_213:Obj:=cdO [102,101,101,100] [95,86,97,108,117,101,70,111,114,109,97,116,116,101,114,46,102,101,101,100] 2607 69 4 3 208 true 181 209 (vR 210) (vR 211) (vR 212) 2614
def h_214:Obj:=fuO (.type "function") (inS 19 5) [95,86,97,108,117,101,70,111,114,109,97,116,116,101,114,46,102,101,101,100] [] (.none) (vS [99,112,121,51,49,51,46,101,109,97,105,108,46,104,101,97,100,101,114] 2548) (vR 213) (.none)
def h_219:Obj:=fuN (inS 19 6) [95,86,97,108,117,101,70,111,114,109,97,116,116,101,114,46,95,109,97,120,108,101,110,103,116,104,115] [] (.none) (.none) (.none) (.none)
def h_220:Obj:=cdO [95,109,97,120,108,101,110,103,116,104,115] [95,86,97,108,117,101,70,111,114,109,97,116,116,101,114,46,95,109,97,120,108,101,110,103,116,104,115] 2617 72 1 3 215 true 181 216 (vR 217) (vR 218) (vR 219) 2621
def h_221:Obj:=fuO (.type "function") (inS 19 6) [95,86,97,108,117,101,70,111,114,109,97,116,116,101,114,46,95,109,97,120,108,101,110,103,116,104,115] [] (.none) (vS [99,112,121,51,49,51,46,101,109,97,105,108,46,104,101,97,100,101,114] 2548) (vR 220) (.none)
def h_224:Obj:=tuO [vS [115,101,108,102] 2627,vS [102,119,115] 2628,vS [115,116,114,105,110,103] 2629,vS [115,112,108,105,116,99,104,97,114,115] 2630]
def h_226:Obj:=fuN (inS 19 7) [95,86,97,108,117,101,70,111,114,109,97,116,116,101,114,46,95,97,115,99,105,105,95,115,112,108,105,116] [] (.none) (.none) (.none) (.none)
def h_227:Obj:=cdO [95,97,115,99,105,105,95,115,112,108,105,116] [95,86,97,108,117,101,70,111,114,109,97,116,116,101,114,46,95,97,115,99,105,105,95,115,112,108,105,116] 2624 75 4 3 222 true 181 223 (vR 224) (vR 225) (vR 226) 2631
def h_228:Obj:=fuO (.type "function") (inS 19 7) [95,86,97,108,117,101,70,111,114,109,97,116,116,101,114,46,95,97,115,99,105,105,95,115,112,108,105,116] [] (.none) (vS [99,112,121,51,49,51,46,101,109,97,105,108,46,104,101,97,100,101,114] 2548) (vR 227) (.none)
def h_231:Obj:=tuO [vS [115,101,108,102] 2637,vS [102,119,115] 2638,vS [115,116,114,105,110,103] 2639,vS [99,104] 2640,vS [105] 2641,vS [112,114,101,118,112,97,114,116] 2642,vS [112,97,114,116] 2643,vS [114,101,109,97,105,110,100,101,114] 2644]
def h_233:Obj:=fuN (inS 19 8) [95,86,97,108,117,101,70,111,114,109,97,116,116,101,114,46,95,97,112,112,101,110,100,95,99,104,117,110,107] [] (.none) (.none) (.none) (.none)
def h_234:Obj:=cdO [95,97,112,112,101,110,100,95,99,104,117,110,107] [95,86,97,108,117,101,70,111,114,109,97,116,116,101,114,46,95,97,112,112,101,110,100,95,99,104,117,110,107] 2634 78 3 3 229 true 181 230 (vR 231) (vR 232) (vR 233) 2645
def h_235:Obj:=fuO (.type "function") (inS 19 8) [95,86,97,108,117,101,70,111,114,109,97,116,116,101,114,46,95,97,112,112,101,110,100,95,99,104,117,110,107] [] (.none) (vS [99,112,121,51,49,51,46,101,109,97,105,108,46,104,101,97,100,101,114] 2548) (vR 234) (.none)
def h_236:Obj:=tuO [vS [95,99,111,110,116,105,110,117,97,116,105,111,110,95,119,115] 2648,vS [95,99,111,110,116,105,110,117,97,116,105,111,110,95,119,115,95,108,101,110] 2649,vS [95,99,117,114,114,101,110,116,95,108,105,110,101] 2650,vS [95,108,105,110,101,115] 2651,vS [95,109,97,120,108,101,110] 2652,vS [95,115,112,108,105,116,99,104,97,114,115] 2653]
def h_237(P:Params):Obj:=zR [dE P [95,95,109,111,100,117,108,101,95,95] 2561 (vS [99,112,121,51,49,51,46,101,109,97,105,108,46,104,101,97,100,101,114] 2548),dE P [95,95,102,105,114,115,116,108,105,110,101,110,111,95,95] 2565 (vI 38 2564),dE P [95,95,105,110,105,116,95,95] 2576 (vR 179),dE P [95,115,116,114] 2584 (vR 186),dE P [95,95,115,116,114,95,95] 2591 (vR 193),dE P [110,101,119,108,105,110,101] 2599 (vR 200),dE P [97,100,100,95,116,114,97,110,115,105,116,105,111,110] 2606 (vR 207),dE P [102,101,101,100] 2616 (vR 214),dE P [95,109,97,120,108,101,110,103,116,104,115] 2623 (vR 221),dE P [95,97,115,99,105,105,95,115,112,108,105,116] 2633 (vR 228),dE P [95,97,112,112,101,110,100,95,99,104,117,110,107] 2647 (vR 235),dE P [95,95,115,116,97,116,105,99,95,97,116,116,114,105,98,117,116,101,115,95,95] 2654 (vR 236),dE P [95,95,100,105,99,116,95,95] 2656 (vR 239),dE P [95,95,119,101,97,107,114,101,102,95,95] 2658 (vR 240),dE P [95,95,100,111,99,95,95] 2659 (.none)] 4
def h_238:Obj:=⟨.type "type", none,.cls { name:=(sL [95,86,97,108,117,101,70,111,114,109,97,116,116,101,114]),bases:=[.type "object"],mro:=[vR 238,.type "object"],ns:=237,qualname:=(sL [95,86,97,108,117,101,70,111,114,109,97,116,116,101,114]),hasDict:=true,slotNames:=[],subclasses:=[],abstract:=false,collection:=none,hasDel:=false },#[none,none,(some (vS [95,86,97,108,117,101,70,111,114,109,97,116,116,101,114] 2554)),(some (vS [95,86,97,108,117,101,70,111,114,109,97,116,116,101,114] 2562)),(some (.builtin "object.__new__")),(some (.bool true))]⟩
def h_239:Obj:=fdO (.type "getset_descriptor") [vS [95,95,100,105,99,116,95,95] 2655,vR 238,.builtin "function.__dict__", .builtin "function.__dict__#set"]
def h_240:Obj:=fdO (.type "getset_descriptor") [vS [95,95,119,101,97,107,114,101,102,95,95] 2657,vR 238,.builtin "ExceptionGroup.__weakref__", .none]
def h_245(P:Params):Obj:=zR [dE P [95,95,109,111,100,117,108,101,95,95] 2669 (vS [99,112,121,51,49,51,46,101,109,97,105,108,46,104,101,97,100,101,114] 2548),dE P [95,95,113,117,97,108,110,97,109,101,95,95] 2671 (vS [95,65,99,99,117,109,117,108,97,116,111,114] 2670),dE P [95,95,102,105,114,115,116,108,105,110,101,110,111,95,95] 2673 (vI 104 2672),dE P [95,95,105,110,105,116,95,95] 2683 (vR 259),dE P [112,117,115,104] 2692 (vR 266),dE P [112,111,112,95,102,114,111,109] 2702 (vR 274),dE P [112,111,112] 2710 (vR 282),dE P [95,95,108,101,110,95,95] 2717 (vR 289),dE P [95,95,115,116,114,95,95] 2724 (vR 296),dE P [114,101,115,101,116] 2732 (vR 304),dE P [105,115,95,111,110,108,121,119,115] 2739 (vR 311),dE P [112,97,114,116,95,99,111,117,110,116] 2747 (vR 319),dE P [95,95,115,116,97,116,105,99,95,97,116,116,114,105,98,117,116,101,115,95,95] 2749 (vR 320),dE P [95,95,99,108,97,115,115,99,101,108,108,95,95] 2750 (vR 246)] 14
def h_248:Obj:=fdO .none [vI 106 0,vI 4 0,vR 258,vI 110 0,vI 4 0,vR 265,vI 113 0,vI 4 0,vR 273,vI 118 0,vI 4 0,vR 281,vI 123 0,vI 4 0,vR 288,vI 126 0,vI 4 0,vR 295,vI 129 0,vI 4 0,vR 303,vI 135 0,vI 4 0,vR 310,vI 138 0,vI 4 0,vR 318]
def h_249:Obj:=cdO [95,65,99,99,117,109,117,108,97,116,111,114] [95,65,99,99,117,109,117,108,97,116,111,114] 2664 104 0 0 247 false 181 248 (.none) (.none) (.none) 2667
def h_250:Obj:=⟨.type "frame", none,.plain,#[(sR 249),(sR 3),(sR 245),none,(some (vS [99,112,121,51,49,51,46,101,109,97,105,108,46,104,101,97,100,101,114] 2548)),none,(sR 0)]⟩
def h_257:Obj:=fuN (inS 20 0) [95,65,99,99,117,109,117,108,97,116,111,114,46,95,95,105,110,105,116,95,95] [] (.none) (.none) (.none) (.none)
def h_258:Obj:=cdO [95,95,105,110,105,116,95,95] [95,65,99,99,117,109,117,108,97,116,111,114,46,95,95,105,110,105,116,95,95] 2675 106 2 3 253 true 181 254 (vR 255) (vR 256) (vR 257) 2681
def h_259:Obj:=fuO (.type "function") (inS 20 0) [95,65,99,99,117,109,117,108,97,116,111,114,46,95,95,105,110,105,116,95,95] [((sL [95,95,99,108,97,115,115,95,95]),246)] (vR 251) (vS [99,112,121,51,49,51,46,101,109,97,105,108,46,104,101,97,100,101,114] 2548) (vR 258) (vR 252)
def h_265:Obj:=cdO [112,117,115,104] [95,65,99,99,117,109,117,108,97,116,111,114,46,112,117,115,104] 2684 110 3 3 260 true 181 261 (vR 262) (vR 263) (vR 264) 2690
def h_266:Obj:=fuO (.type "function") (inS 20 1) [95,65,99,99,117,109,117,108,97,116,111,114,46,112,117,115,104] [] (.none) (vS [99,112,121,51,49,51,46,101,109,97,105,108,46,104,101,97,100,101,114] 2548) (vR 265) (.none)
def h_272:Obj:=fuN (inS 20 2) [95,65,99,99,117,109,117,108,97,116,111,114,46,112,111,112,95,102,114,111,109] [] (.none) (.none) (.none) (.none)
def h_273:Obj:=cdO [112,111,112,95,102,114,111,109] [95,65,99,99,117,109,117,108,97,116,111,114,46,112,111,112,95,102,114,111,109] 2694 113 2 3 268 true 181 269 (vR 270) (vR 271) (vR 272) 2700
def h_274:Obj:=fuO (.type "function") (inS 20 2) [95,65,99,99,117,109,117,108,97,116,111,114,46,112,111,112,95,102,114,111,109] [] (vR 267) (vS [99,112,121,51,49,51,46,101,109,97,105,108,46,104,101,97,100,101,114] 2548) (vR 273) (.none)
def h_281:Obj:=cdO [112,111,112] [95,65,99,99,117,109,117,108,97,116,111,114,46,112,111,112] 2703 118 1 3 276 true 181 277 (vR 278) (vR 279) (vR 280) 2708
def h_282:Obj:=fuO (.type "function") (inS 20 3) [95,65,99,99,117,109,117,108,97,116,111,114,46,112,111,112] [((sL [95,95,99,108,97,115,115,95,95]),246)] (.none) (vS [99,112,121,51,49,51,46,101,109,97,105,108,46,104,101,97,100,101,114] 2548) (vR 281) (vR 275)
def h_287:Obj:=fuN (inS 20 4) [95,65,99,99,117,109,117,108,97,116,111,114,46,95,95,108,101,110,95,95] [] (.none) (.none) (.none) (.none)
def h_288:Obj:=cdO [95,95,108,101,110,95,95] [95,65,99,99,117,109,117,108,97,116,111,114,46,95,95,108,101,110,95,95] 2711 123 1 3 283 true 181 284 (vR 285) (vR 286) (vR 287) 2715
def h_289:Obj:=fuO (.type "function") (inS 20 4) [95,65,99,99,117,109,117,108,97,116,111,114,46,95,95,108,101,110,95,95] [] (.none) (vS [99,112,121,51,49,51,46,101,109,97,105,108,46,104,101,97,100,101,114] 2548) (vR 288) (.none)
def h_294:Obj:=fuN (inS 20 5) [95,65,99,99,117,109,117,108,97,116,111,114,46,95,95,115,116,114,95,95] [] (.none) (.none) (.none) (.none)
def h_295:Obj:=cdO [95,95,115,116,114,95,95] [95,65,99,99,117,109,117,108,97,116,111,114,46,95,95,115,116,114,95,95] 2718 126 1 3 290 true 181 291 (vR 292) (vR 293) (vR 294) 2722
def h_296:Obj:=fuO (.type "function") (inS 20 5) [95,65,99,99,117,109,117,108,97,116,111,114,46,95,95,115,116,114,95,95] [] (.none) (vS [99,112,121,51,49,51,46,101,109,97,105,108,46,104,101,97,100,101,114] 2548) (vR 295) (.none)
def h_303:Obj:=cdO [114,101,115,101,116] [95,65,99,99,117,109,117,108,97,116,111,114,46,114,101,115,101,116] 2725 129 2 3 298 true 181 299 (vR 300) (vR 301) (vR 302) 2730
def h_304:Obj:=fuO (.type "function") (inS 20 6) [95,65,99,99,117,109,117,108,97,116,111,114,46,114,101,115,101,116] [] (vR 297) (vS [99,112,121,51,49,51,46,101,109,97,105,108,46,104,101,97,100,101,114] 2548) (vR 303) (.none)
def h_309:Obj:=fuN (inS 20 7) [95,65,99,99,117,109,117,108,97,116,111,114,46,105,115,95,111,110,108,121,119,115] [] (.none) (.none) (.none) (.none)
def h_310:Obj:=cdO [105,115,95,111,110,108,121,119,115] [95,65,99,99,117,109,117,108,97,116,111,114,46,105,115,95,111,110,108,121,119,115] 2733 135 1 3 305 true 181 306 (vR 307) (vR 308) (vR 309) 2737
def h_311:Obj:=fuO (.type "function") (inS 20 7) [95,65,99,99,117,109,117,108,97,116,111,114,46,105,115,95,111,110,108,121,119,115] [] (.none) (vS [99,112,121,51,49,51,46,101,109,97,105,108,46,104,101,97,100,101,114] 2548) (vR 310) (.none)
def h_317:Obj:=fuN (inS 20 8) [95,65,99,99,117,109,117,108,97,116,111,114,46,112,97,114,116,95,99,111,117,110,116] [] (.none) (.none) (.none) (.none)
def h_318:Obj:=cdO [112,97,114,116,95,99,111,117,110,116] [95,65,99,99,117,109,117,108,97,116,111,114,46,112,97,114,116,95,99,111,117,110,116] 2740 138 1 3 313 true 181 314 (vR 315) (vR 316) (vR 317) 2745
def h_319:Obj:=fuO (.type "function") (inS 20 8) [95,65,99,99,117,109,117,108,97,116,111,114,46,112,97,114,116,95,99,111,117,110,116] [((sL [95,95,99,108,97,115,115,95,95]),246)] (.none) (vS [99,112,121,51,49,51,46,101,109,97,105,108,46,104,101,97,100,101,114] 2548) (vR 318) (vR 312)
def h_321(P:Params):Obj:=zR [dE P [95,95,109,111,100,117,108,101,95,95] 2669 (vS [99,112,121,51,49,51,46,101,109,97,105,108,46,104,101,97,100,101,114] 2548),dE P [95,95,102,105,114,115,116,108,105,110,101,110,111,95,95] 2673 (vI 104 2672),dE P [95,95,105,110,105,116,95,95] 2683 (vR 259),dE P [112,117,115,104] 2692 (vR 266),dE P [112,111,112,95,102,114,111,109] 2702 (vR 274),dE P [112,111,112] 2710 (vR 282),dE P [95,95,108,101,110,95,95] 2717 (vR 289),dE P [95,95,115,116,114,95,95] 2724 (vR 296),dE P [114,101,115,101,116] 2732 (vR 304),dE P [105,115,95,111,110,108,121,119,115] 2739 (vR 311),dE P [112,97,114,116,95,99,111,117,110,116] 2747 (vR 319),dE P [95,95,115,116,97,116,105,99,95,97,116,116,114,105,98,117,116,101,115,95,95] 2749 (vR 320),dE P [95,95,100,105,99,116,95,95] 2752 (vR 323),dE P [95,95,119,101,97,107,114,101,102,95,95] 2754 (vR 324),dE P [95,95,100,111,99,95,95] 2755 (.none)] 5
def h_322:Obj:=⟨.type "type", none,.cls { name:=(sL [95,65,99,99,117,109,117,108,97,116,111,114]),bases:=[.type "list"],mro:=[vR 322,.type "list", .type "object"],ns:=321,qualname:=(sL [95,65,99,99,117,109,117,108,97,116,111,114]),hasDict:=true,slotNames:=[],subclasses:=[],abstract:=false,collection:=none,hasDel:=false },#[(sR 243),none,(some (vS [95,65,99,99,117,109,117,108,97,116,111,114] 2662)),(some (vS [95,65,99,99,117,109,117,108,97,116,111,114] 2670)),(some (.builtin "list.__new__")),(some (.bool true))]⟩
def h_323:Obj:=fdO (.type "getset_descriptor") [vS [95,95,100,105,99,116,95,95] 2751,vR 322,.builtin "function.__dict__", .builtin "function.__dict__#set"]
def h_324:Obj:=fdO (.type "getset_descriptor") [vS [95,95,119,101,97,107,114,101,102,95,95] 2753,vR 322,.builtin "ExceptionGroup.__weakref__", .none]
def h_332:Obj:=cdO [95,108,97,119,95,99,111,100,101] [95,108,97,119,95,99,111,100,101] 2760 141 1 3 327 true 181 328 (vR 329) (vR 330) (vR 331) 2766
def h_333:Obj:=fuO (.type "function") (zs 22) [95,108,97,119,95,99,111,100,101] [] (.none) (vS [108,97,119,95,112,101,48,50,56,52,95,48,49] 2758) (vR 332) (.none)
def h_337:Obj:=cdO [95,108,97,119,95,105,115,95,98,97,114,114,101,100] [95,108,97,119,95,105,115,95,98,97,114,114,101,100] 2769 153 1 3 334 true 181 335 (.none) (.none) (vR 336) 2772
def h_338:Obj:=fuO (.type "function") (zs 23) [95,108,97,119,95,105,115,95,98,97,114,114,101,100] [] (.none) (vS [108,97,119,95,112,101,48,50,56,52,95,48,49] 2758) (vR 337) (.none)
def h_344:Obj:=cdO [95,108,97,119,95,116,111,108,100] [95,108,97,119,95,116,111,108,100] 2775 156 1 3 339 true 181 340 (vR 341) (vR 342) (vR 343) 2779
def h_345:Obj:=fuO (.type "function") (zs 24) [95,108,97,119,95,116,111,108,100] [] (.none) (vS [108,97,119,95,112,101,48,50,56,52,95,48,49] 2758) (vR 344) (.none)
def h_349:Obj:=cdO [95,108,97,119,95,112,97,103,101] [95,108,97,119,95,112,97,103,101] 2782 168 3 3 346 true 181 347 (.none) (.none) (vR 348) 2785
def h_350:Obj:=fuO (.type "function") (zs 25) [95,108,97,119,95,112,97,103,101] [] (.none) (vS [108,97,119,95,112,101,48,50,56,52,95,48,49] 2758) (vR 349) (.none)
def h_353:Obj:=tuO [vS [116,101,120,116] 2791,vS [114,111,111,109] 2792,vS [119,105,100,116,104] 2793,vS [109,97,107,101,114] 2794,vS [115,105,103,110] 2795,vS [105,115,95,98,97,114,114,101,100] 2796]
def h_356:Obj:=cdO [95,108,97,119,95,108,97,105,100] [95,108,97,119,95,108,97,105,100] 2788 199 3 3 351 true 181 352 (vR 353) (vR 354) (vR 355) 2797
def h_357:Obj:=fuO (.type "function") (zs 26) [95,108,97,119,95,108,97,105,100] [] (.none) (vS [108,97,119,95,112,101,48,50,56,52,95,48,49] 2758) (vR 356) (.none)
def h_362:Obj:=fuO (.type "function") (zs 27) [108,97,119] [] (.none) (vS [108,97,119,95,112,101,48,50,56,52,95,48,49] 2758) (vR 361) (.none)
def glE(P:Params):List DictEntry:=[dE P [95,95,110,97,109,101,95,95] 165 (vS [108,97,119,95,112,101,48,50,56,52,95,48,49] 2758),dE P [95,95,100,111,99,95,95] 166 (.none),dE P [95,95,112,97,99,107,97,103,101,95,95] 167 (.none),dE P [95,95,108,111,97,100,101,114,95,95] 168 (.builtin "__main__.__loader__#opaque"),dE P [95,95,115,112,101,99,95,95] 169 (.none),dE P [95,95,97,110,110,111,116,97,116,105,111,110,115,95,95] 170 (vR 6),dE P [95,95,98,117,105,108,116,105,110,115,95,95] 171 (vR 4),dE P [95,95,102,105,108,101,95,95] 173 (vS [47,99,108,97,105,109,47,99,117,116,46,112,121] 172),dE P [95,95,99,97,99,104,101,100,95,95] 174 (.none),dE P [95,119,97,108,108] 193 (vR 21),dE P [98,49,95,115,101,116] 255 (vR 29),dE P [105,110,95,116,97,98,108,101,95,98,49] 262 (vR 39),dE P [98,51,95,101,120,99,101,112,116,105,111,110,115] 2213 (vR 40),dE P [109,97,112,95,116,97,98,108,101,95,98,51] 2221 (vR 85),dE P [105,110,95,116,97,98,108,101,95,99,49,49] 2228 (vR 92),dE P [105,110,95,116,97,98,108,101,95,99,52] 2236 (vR 99),dE P [99,54,95,115,101,116] 2250 (vR 101),dE P [105,110,95,116,97,98,108,101,95,99,54] 2257 (vR 111),dE P [99,55,95,115,101,116] 2285 (vR 113),dE P [105,110,95,116,97,98,108,101,95,99,55] 2292 (vR 123),dE P [99,56,95,115,101,116] 2333 (vR 137),dE P [105,110,95,116,97,98,108,101,95,99,56] 2340 (vR 147),dE P [99,57,95,115,101,116] 2540 (vR 155),dE P [105,110,95,116,97,98,108,101,95,99,57] 2547 (vR 165),dE P [78,76] 2551 (vS [10] 2550),dE P [69,77,80,84,89,83,84,82,73,78,71] 2553 (vS [] 2552),dE P [95,86,97,108,117,101,70,111,114,109,97,116,116,101,114] 2661 (vR 238),dE P [95,65,99,99,117,109,117,108,97,116,111,114] 2757 (vR 322),dE P [95,108,97,119,95,99,111,100,101] 2768 (vR 333),dE P [95,108,97,119,95,105,115,95,98,97,114,114,101,100] 2774 (vR 338),dE P [95,108,97,119,95,116,111,108,100] 2781 (vR 345),dE P [95,108,97,119,95,112,97,103,101] 2787 (vR 350),dE P [95,108,97,119,95,108,97,105,100] 2799 (vR 357),dE P [108,97,119] 2805 (vR 362)]
def mlE:List Value:=[vI 1 0,vI 0 0,vR 20,vI 6 0,vI 0 0,vR 38,vI 9 0,vI 0 0,vR 84,vI 14 0,vI 0 0,vR 91,vI 16 0,vI 0 0,vR 98,vI 24 0,vI 0 0,vR 110,vI 27 0,vI 0 0,vR 122,vI 30 0,vI 0 0,vR 146,vI 33 0,vI 0 0,vR 164,vI 38 0,vI 0 0,vR 171,vI 104 0,vI 0 0,vR 249,vI 141 0,vI 0 0,vR 332,vI 153 0,vI 0 0,vR 337,vI 156 0,vI 0 0,vR 344,vI 168 0,vI 0 0,vR 349,vI 199 0,vI 0 0,vR 356,vI 210 0,vI 0 0,vR 361]
def glN:Nat→Value
 |0=>vS [95,95,109,97,105,110,95,95] 164
 |1=>vS [99,112,121,51,49,51,46,115,116,114,105,110,103,112,114,101,112] 194
 |2=>vS [99,112,121,51,49,51,46,101,109,97,105,108,46,104,101,97,100,101,114] 2548
 | _=>vS [108,97,119,95,112,101,48,50,56,52,95,48,49] 2758
def mapG(P:Params)(nm k:Nat):Obj:=zR (dE P [95,95,110,97,109,101,95,95] 165 (glN nm)::((glE P).drop 1).take k) (k+1)
def mlO(k:Nat):Obj:=fdO .none (mlE.take (3*k))
structure HSt where
 nm:Nat
 k:Nat
 c:Nat
 n:Nat
 t:Nat
def hSt:Nat→HSt
 |0=>⟨0,8,0,15,187⟩
 |1=>⟨0,9,1,22,194⟩
 |2=>⟨1,9,1,22,196⟩
 |3=>⟨1,10,1,33,256⟩
 |4=>⟨1,11,2,40,263⟩
 |5=>⟨1,12,2,79,2214⟩
 |6=>⟨1,13,3,86,2222⟩
 |7=>⟨1,14,4,93,2229⟩
 |8=>⟨1,15,5,100,2237⟩
 |9=>⟨1,16,5,105,2251⟩
 |10=>⟨1,17,6,112,2258⟩
 |11=>⟨1,18,6,117,2286⟩
 |12=>⟨1,19,7,124,2293⟩
 |13=>⟨1,20,7,141,2334⟩
 |14=>⟨1,21,8,148,2341⟩
 |15=>⟨1,22,8,159,2541⟩
 |16=>⟨1,23,9,166,2548⟩
 |17=>⟨2,23,9,166,2550⟩
 |18=>⟨2,24,9,166,2552⟩
 |19=>⟨2,25,9,166,2554⟩
 |20=>⟨2,26,10,243,2662⟩
 |21=>⟨2,27,11,327,2758⟩
 |22=>⟨3,27,11,327,2760⟩
 |23=>⟨3,28,12,334,2769⟩
 |24=>⟨3,29,13,339,2775⟩
 |25=>⟨3,30,14,346,2782⟩
 |26=>⟨3,31,15,351,2788⟩
 |27=>⟨3,32,16,358,2800⟩
 | _=>⟨3,33,17,363,2806⟩
def wy:Nat→Pos
 |0=>⟨0,0,0,0⟩
 |1=>⟨1,0,3,12⟩
 |2=>⟨4,0,4,8⟩
 |3=>⟨5,0,5,6⟩
 |4=>⟨6,0,7,30⟩
 |5=>⟨8,0,8,13⟩
 |6=>⟨9,0,13,23⟩
 |7=>⟨14,0,15,22⟩
 |8=>⟨16,0,22,46⟩
 |9=>⟨23,0,23,6⟩
 |10=>⟨24,0,25,30⟩
 |11=>⟨26,0,26,6⟩
 |12=>⟨27,0,28,30⟩
 |13=>⟨29,0,29,6⟩
 |14=>⟨30,0,31,30⟩
 |15=>⟨32,0,32,6⟩
 |16=>⟨33,0,34,30⟩
 |17=>⟨35,0,35,8⟩
 |18=>⟨36,0,36,2⟩
 |19=>⟨37,0,37,11⟩
 |20=>⟨38,0,103,47⟩
 |21=>⟨104,0,139,32⟩
 |22=>⟨140,0,140,8⟩
 |23=>⟨141,0,152,76⟩
 |24=>⟨153,0,155,72⟩
 |25=>⟨156,0,167,20⟩
 |26=>⟨168,0,198,15⟩
 |27=>⟨199,0,209,39⟩
 | _=>⟨210,0,216,106⟩
def b3E:Expr:=match zs 4 with
 | .Assign _ e _=>e
 | _=>.Constant .none 0 ⟨0,0,0,0⟩
def dKs:Expr→List (Option Expr)
 | .Dict ks _ _=>ks
 | _=>[]
def dVs:Expr→List Expr
 | .Dict _ vs _=>vs
 | _=>[]
def dlMk:List (Option Expr)→List Expr→List (Int × Str)
 |some (.Constant (.int k) _ _)::ks,.Constant (.str s) _ _::vs=>(k,s)::dlMk ks vs
 | _,_=>[]
@[irreducible] def dL:List (Int × Str):=dlMk (dKs b3E) (dVs b3E)
def enE(t:Nat)(p:Int × Str):DictEntry:=⟨hashInt p.1,.int p.1 t,.str p.2 (t+1)⟩
def enL:Nat→List (Int × Str)→List DictEntry
 | _,[]=>[]
 |t,p::l=>enE t p::enL (t+3) l
def enV:Nat→List (Int × Str)→List DictEntry
 | _,[]=>[]
 |t,p::l=>enE t p::enV (t+2) l
def deL:List DictEntry:=enL 263 (dL.take 646)++enV 2201 (dL.drop 646)
def deO(i:Nat):Obj:=zR (enL (263+51*i) ((dL.drop (17*i)).take 17)) 17
def deS:Obj:=zR (enV 2201 (dL.drop 646)) 4
def deN(n:Nat):Obj:=zR (enL 263 (dL.take n)) n
def deM:Obj:=zR deL 650
inductive MT where
 |l
 |n (o:Obj) (a b:MT)
def MT.get:MT→Nat→Obj
 | .l,_=>default
 | .n v x y,i=>match Nat.beq i 0 with
  |true=>v
  |false=>match Nat.beq (i % 2) 1 with
   |true=>x.get (i / 2)
   |false=>y.get (i / 2 - 1)
def hT(P:Params):MT:=(.n (boot_o_0 P) (.n (boot_o_1 P) (.n (boot_o_3 P) (.n (boot_o_7 P) (.n (tuO []) (.n (tuO []) (.n (deO 23) (.n (fdO (.type "range_iterator") [vI 8239 0,vI 0 0,vI 1 0]) (.n (tuO [vS [115,101,108,102] 2679,vS [105,110,105,116,105,97,108,95,115,105,122,101] 2680]) .l .l) .l) (.n (h_191) (.n (h_319) .l .l) .l)) (.n (tuO [vS [99,111,100,101] 2232,vS [99] 2233]) (.n (tuO []) (.n (h_287) .l .l) .l) (.n (fdO .none []) (.n (tuO []) .l .l) .l))) (.n (deO 7) (.n (tuO []) (.n (tuO [vS [99,111,100,101] 2337]) (.n (tuO []) .l .l) .l) (.n (h_207) (.n (fdO .none []) .l .l) .l)) (.n (h_111) (.n (h_175) (.n (h_303) .l .l) .l) (.n (h_239) .l .l)))) (.n (fdO (.type "range") [vI 65024 207,vI 65040 208,vI 1 209]) (.n (h_39) (.n (deO 31) (.n (fdO (.type "StopIteration") [vR 134,.none,.none,.none,.bool false,.none]) (.n (tuO []) .l .l) .l) (.n (h_199) (.n (tuO []) .l .l) .l)) (.n (tuO []) (.n (fdO (.type "builtin_function_or_method") [.builtin "type.__prepare__", .type "type"]) (.n (h_295) .l .l) .l) (.n (h_231) (.n (fdO .none []) .l .l) .l))) (.n (deO 15) (.n (fdO .none []) (.n (fdO (.type "range_iterator") [vI 917632 0,vI 0 0,vI 1 0]) (.n (tuO []) .l .l) .l) (.n (tuO []) (.n (fuN (zs 24) [95,108,97,119,95,116,111,108,100] [] (.none) (.none) (.none) (.none)) .l .l) .l)) (.n (tuO [vS [99,111,100,101] 2289]) (.n (tuO []) (.n (h_311) .l .l) .l) (.n (tuO []) .l .l))))) (.n (tuO []) (.n (fuN (zs 0) [95,119,97,108,108] [] (.none) (.none) (.none) (.none)) (.n (tuO [vS [99,111,100,101] 259]) (.n (deO 27) (.n (fdO (.type "range") [vI 8298 2307,vI 8304 2308,vI 1 2309]) (.n (h_259) .l .l) .l) (.n (fdO .none []) (.n (h_323) .l .l) .l)) (.n (h_99) (.n (fuN (zs 15) [105,110,95,116,97,98,108,101,95,99,57] [] (.none) (.none) (.none) (.none)) (.n (fdO .none []) .l .l) .l) (.n (h_227) (.n (fuN (zs 26) [95,108,97,119,95,108,97,105,100] [] (.none) (.none) (.none) (.none)) .l .l) .l))) (.n (deO 11) (.n (fuN (zs 5) [109,97,112,95,116,97,98,108,101,95,98,51] [] (.none) (.none) (.none) (.none)) (.n (h_147) (.n (tuO [vR 246]) .l .l) .l) (.n (tuO []) (.n (tuO []) .l .l) .l)) (.n (tuO []) (.n (h_179) (.n (tuO [vS [115,101,108,102] 2736]) .l .l) .l) (.n (tuO [.type "list"]) .l .l)))) (.n (fdO (.type "StopIteration") [vR 26,.none,.none,.none,.bool false,.none]) (.n (deO 3) (.n (deO 35) (.n (tuO []) (.n (tuO [vI 0 2693]) .l .l) .l) (.n (tuO [vS [115,101,108,102] 2603]) (.n (fuN (zs 22) [95,108,97,119,95,99,111,100,101] [] (.none) (.none) (.none) (.none)) .l .l) .l)) (.n (tuO [vS [99,111,100,101] 2254]) (.n (h_171) (.n (fdO .none []) .l .l) .l) (.n (h_235) .l .l))) (.n (deO 19) (.n (h_91) (.n (h_155 P) (.n (tuO []) .l .l) .l) (.n (h_219) (.n (fdO .none []) .l .l) .l)) (.n (h_123) (.n (tuO []) (.n (tuO [vS [115,101,108,102] 2744]) .l .l) .l) (.n (tuO [vI 0 2674]) .l .l)))))) (.n (boot_o_5 P) (.n (boot_o_9 P) (.n (tuO [vS [107] 190]) (.n (tuO []) (.n (deO 25) (.n (fdO (.type "StopIteration") [vR 128,.none,.none,.none,.bool false,.none]) (.n (h_257) .l .l) .l) (.n (h_193) (.n (h_321 P) .l .l) .l)) (.n (fuN (zs 7) [105,110,95,116,97,98,108,101,95,99,52] [] (.none) (.none) (.none) (.none)) (.n (tuO [vS [99,111,100,101] 2544]) (.n (h_289) .l .l) .l) (.n (tuO []) (.n (h_353) .l .l) .l))) (.n (deO 9) (.n (tuO [vS [99,111,100,101] 2217,vS [114] 2218]) (.n (fuN (zs 13) [105,110,95,116,97,98,108,101,95,99,56] [] (.none) (.none) (.none) (.none)) (.n (h_273) .l .l) .l) (.n (fdO .none []) (.n (h_337) .l .l) .l)) (.n (h_113 P) (.n (h_177) (.n (tuO []) .l .l) .l) (.n (fdO (.type "super") [vR 238,vR 238,vR 238]) .l .l)))) (.n (fdO (.type "range_iterator") [vI 65040 0,vI 0 0,vI 1 0]) (.n (deO 1) (.n (deO 33) (.n (h_137 P) (.n (h_265) .l .l) .l) (.n (tuO []) (.n (tuO [vS [110,117,109,98,101,114] 2763,vS [112,108,97,99,101] 2764,vS [115,116,114,101,116,99,104,101,115] 2765]) .l .l) .l)) (.n (tuO []) (.n (tuO []) (.n (tuO [.none]) .l .l) .l) (.n (h_233) (.n (cdO [108,97,119] [108,97,119] 2800 210 1 3 358 true 181 359 (.none) (.none) (vR 360) 2803) .l .l) .l))) (.n (deO 17) (.n (tuO []) (.n (fdO (.type "StopIteration") [vR 152,.none,.none,.none,.bool false,.none]) (.n (h_281) .l .l) .l) (.n (tuO [vS [115,101,108,102] 2620]) (.n (h_345) .l .l) .l)) (.n (fuN (zs 11) [105,110,95,116,97,98,108,101,95,99,55] [] (.none) (.none) (.none) (.none)) (.n (h_185) (.n (tuO [vS [95,95,99,108,97,115,115,95,95] 2743]) .l .l) .l) (.n (h_249) .l .l))))) (.n (h_13) (.n (fuO (.type "function") (zs 0) [95,119,97,108,108] [] (.none) (vS [95,95,109,97,105,110,95,95] 164) (vR 20) (.none)) (.n (fuN (zs 3) [105,110,95,116,97,98,108,101,95,98,49] [] (.none) (.none) (.none) (.none)) (.n (deO 29) (.n (fdO (.type "range_iterator") [vI 8304 0,vI 0 0,vI 1 0]) (.n (fdO .none []) .l .l) .l) (.n (tuO []) (.n (fdO (.type "super") [vR 322,vR 322,vR 322]) .l .l) .l)) (.n (h_101 P) (.n (h_165) (.n (tuO []) .l .l) .l) (.n (tuO []) (.n (h_357) .l .l) .l))) (.n (deO 13) (.n (h_85) (.n (fdO (.type "range") [vI 917536 2342,vI 917632 2343,vI 1 2344]) (.n (fdO .none []) .l .l) .l) (.n (h_213) (.n (tuO [vS [99,111,100,101] 2778]) .l .l) .l)) (.n (tuO []) (.n (fdO .none []) (.n (h_309) .l .l) .l) (.n (h_245 P) .l .l)))) (.n (h_29 P) (.n (deO 5) (.n (deO 37) (.n (tuO []) (.n (fdO .none []) .l .l) .l) (.n (h_205) (.n (h_333) .l .l) .l)) (.n (fuN (zs 9) [105,110,95,116,97,98,108,101,95,99,54] [] (.none) (.none) (.none) (.none)) (.n (tuO []) (.n (tuO []) .l .l) .l) (.n (h_237 P) .l .l))) (.n (deO 21) (.n (tuO []) (.n (tuO []) (.n (tuO [vS [115,101,108,102] 2714]) .l .l) .l) (.n (h_221) (.n (h_349) .l .l) .l)) (.n (fdO (.type "range") [vI 8234 2297,vI 8239 2298,vI 1 2299]) (.n (tuO [vS [115,101,108,102] 2588]) (.n (h_317) .l .l) .l) (.n (tuO [vS [95,95,99,108,97,115,115,95,95] 2678]) .l .l))))))) (.n (boot_o_2 P) (.n (boot_o_4 P) (.n (boot_o_8 P) (.n (fdO .none []) (.n (fdO (.type "StopIteration") [vR 31,.none,.none,.none,.bool false,.none]) (.n (deO 24) (.n (tuO []) (.n (tuO []) .l .l) .l) (.n (h_192) (.n (tuO [vS [95,105,110,105,116,105,97,108,95,115,105,122,101] 2748]) .l .l) .l)) (.n (tuO []) (.n (fdO .none []) (.n (h_288) .l .l) .l) (.n (h_224) (.n (fdO .none []) .l .l) .l))) (.n (deO 8) (.n (fdO .none []) (.n (tuO []) (.n (h_272) .l .l) .l) (.n (tuO []) (.n (fuN (zs 23) [95,108,97,119,95,105,115,95,98,97,114,114,101,100] [] (.none) (.none) (.none) (.none)) .l .l) .l)) (.n (fdO (.type "range") [vI 12272 2258,vI 12284 2259,vI 1 2260]) (.n (tuO []) (.n (h_304) .l .l) .l) (.n (h_240) .l .l)))) (.n (h_24) (.n (deM) (.n (deO 32) (.n (h_136) (.n (fuN (inS 20 1) [95,65,99,99,117,109,117,108,97,116,111,114,46,112,117,115,104] [] (.none) (.none) (.none) (.none)) .l .l) .l) (.n (h_200) (.n (fdO .none []) .l .l) .l)) (.n (fdO (.type "StopIteration") [vR 103,.none,.none,.none,.bool false,.none]) (.n (h_168 P) (.n (h_296) .l .l) .l) (.n (tuO []) (.n (fuN (zs 27) [108,97,119] [] (.none) (.none) (.none) (.none)) .l .l) .l))) (.n (deO 16) (.n (tuO [vS [99,111,100,101] 2225]) (.n (tuO []) (.n (fuN (inS 20 3) [95,65,99,99,117,109,117,108,97,116,111,114,46,112,111,112] [] (.none) (.none) (.none) (.none)) .l .l) .l) (.n (fdO .none []) (.n (h_344) .l .l) .l)) (.n (tuO []) (.n (h_184) (.n (tuO [vR 246]) .l .l) .l) (.n (h_248) .l .l))))) (.n default (.n (cdO [95,119,97,108,108] [95,119,97,108,108] 187 1 1 3 15 true 181 16 (vR 17) (vR 18) (vR 19) 191) (.n (tuO []) (.n (deO 28) (.n (lsO [vI 8298 2312,vI 8299 2313,vI 8300 2314,vI 8301 2315,vI 8302 2316,vI 8303 2317] 8) (.n (tuO []) .l .l) .l) (.n (tuO [vS [115,101,108,102] 2595,vS [101,110,100,95,111,102,95,108,105,110,101] 2596]) (.n (h_324) .l .l) .l)) (.n (fdO (.type "range") [vI 65529 2237,vI 65534 2238,vI 1 2239]) (.n (h_164) (.n (tuO [vS [115,101,108,102] 2721]) .l .l) .l) (.n (h_228) (.n (h_356) .l .l) .l))) (.n (deO 12) (.n (h_84) (.n (lsO [vI 917505 2341] 0) (.n (tuO [vS [95,95,99,108,97,115,115,95,95] 2706]) .l .l) .l) (.n (h_212) (.n (fdO .none []) .l .l) .l)) (.n (fdO (.type "StopIteration") [vR 115,.none,.none,.none,.bool false,.none]) (.n (tuO []) (.n (tuO []) .l .l) .l) (.n (fdO (.type "builtin_function_or_method") [.builtin "type.__prepare__", .type "type"]) .l .l)))) (.n (h_28) (.n (deO 4) (.n (deO 36) (.n (fdO (.type "StopIteration") [vR 139,.none,.none,.none,.bool false,.none]) (.n (tuO []) .l .l) .l) (.n (tuO []) (.n (h_332) .l .l) .l)) (.n (tuO []) (.n (h_172) (.n (tuO [vS [115,101,108,102] 2728,vS [115,116,97,114,116,118,97,108] 2729]) .l .l) .l) (.n (h_236) .l .l))) (.n (deO 20) (.n (h_92) (.n (fdO (.type "list_iterator") [.none,vI 97 0]) (.n (fdO .none []) .l .l) .l) (.n (h_220) (.n (fuN (zs 25) [95,108,97,119,95,112,97,103,101] [] (.none) (.none) (.none) (.none)) .l .l) .l)) (.n (lsO [vI 832 2293,vI 833 2294,vI 8206 2295,vI 8207 2296] 0) (.n (fdO .none []) (.n (tuO []) .l .l) .l) (.n (tuO [vR 246]) .l .l)))))) (.n (boot_o_6 P) (.n (boot_o_10 P) (.n (tuO []) (.n (fdO .none []) (.n (deO 26) (.n (h_130) (.n (h_258) .l .l) .l) (.n (tuO []) (.n (h_322) .l .l) .l)) (.n (h_98) (.n (tuO []) (.n (tuO []) .l .l) .l) (.n (h_226) (.n (tuO []) .l .l) .l))) (.n (deO 10) (.n (tuO []) (.n (h_146) (.n (h_274) .l .l) .l) (.n (h_210) (.n (h_338) .l .l) .l)) (.n (fdO (.type "range_iterator") [vI 12284 0,vI 0 0,vI 1 0]) (.n (h_178) (.n (fdO .none []) .l .l) .l) (.n (fdO (.type "builtin_function_or_method") [.builtin "object.__init_subclass__", vR 238]) .l .l)))) (.n (tuO []) (.n (deO 2) (.n (deO 34) (.n (fdO (.type "list_iterator") [.none,vI 15 0]) (.n (h_266) .l .l) .l) (.n (fdO .none []) (.n (tuO []) .l .l) .l)) (.n (fdO .none []) (.n (h_170) (.n (tuO []) .l .l) .l) (.n (h_234) (.n (h_362) .l .l) .l))) (.n (deO 18) (.n (fuN (zs 6) [105,110,95,116,97,98,108,101,95,99,49,49] [] (.none) (.none) (.none) (.none)) (.n (h_154) (.n (h_282) .l .l) .l) (.n (tuO []) (.n (tuO []) .l .l) .l)) (.n (h_122) (.n (h_186) (.n (fdO .none []) .l .l) .l) (.n (h_250) .l .l))))) (.n (h_14) (.n (h_22) (.n (h_38) (.n (deO 30) (.n (tuO []) (.n (tuO [vS [115,101,108,102] 2687,vS [102,119,115] 2688,vS [115,116,114,105,110,103] 2689]) .l .l) .l) (.n (h_198) (.n (fdO (.type "builtin_function_or_method") [.builtin "object.__init_subclass__", vR 322]) .l .l) .l)) (.n (fdO (.type "range_iterator") [vI 65534 0,vI 0 0,vI 1 0]) (.n (tuO []) (.n (h_294) .l .l) .l) (.n (fdO .none []) (.n (tuO []) .l .l) .l))) (.n (deO 14) (.n (tuO []) (.n (h_150) (.n (tuO [vS [115,101,108,102] 2707]) .l .l) .l) (.n (h_214) (.n (tuO []) .l .l) .l)) (.n (fdO .none []) (.n (tuO [vS [115,101,108,102] 2580,vS [108,105,110,101,115,101,112] 2581]) (.n (h_310) .l .l) .l) (.n (⟨.type "cell", none,.cell (sR 322),#[]⟩) .l .l)))) (.n (fdO (.type "list_iterator") [.none,vI 27 0]) (.n (deO 6) (.n (deS) (.n (fdO .none []) (.n (tuO [vS [115,101,108,102] 2697,vS [105] 2698,vS [112,111,112,112,101,100] 2699]) .l .l) .l) (.n (h_206) (.n (tuO []) .l .l) .l)) (.n (h_110) (.n (fdO .none []) (.n (fuN (inS 20 6) [95,65,99,99,117,109,117,108,97,116,111,114,46,114,101,115,101,116] [] (.none) (.none) (.none) (.none)) .l .l) .l) (.n (h_238) .l .l))) (.n (deO 22) (.n (fdO .none []) (.n (fdO (.type "StopIteration") [vR 157,.none,.none,.none,.bool false,.none]) (.n (tuO []) .l .l) .l) (.n (tuO []) (.n (h_350) .l .l) .l)) (.n (lsO [vI 8234 2302,vI 8235 2303,vI 8236 2304,vI 8237 2305,vI 8238 2306] 7) (.n (tuO []) (.n (h_318) .l .l) .l) (.n (fdO .none []) .l .l))))))))
def hO(P:Params)(nm k c L:Nat):Obj:=match Nat.beq L 3 with
 |true=>mapG P nm k
 |false=>match Nat.beq L 12 with
  |true=>mlO c
  |false=>(hT P).get L
def hB(ob:Nat→Obj)(n:Nat):Nat→Nat→Nat→BT
 |0,_,_=>.nil
 |d+1,a,b=>match Nat.blt b n with
  |true=>.node (ob b) (hB ob n d (2*a) (a+b)) (hB ob n d (2*a) (2*a+b))
  |false=>.nil
def HSt.tree(s:HSt)(P:Params):BT:=hB (hO P s.nm s.k s.c) s.n 12 1 0
def HSt.at(s:HSt)(P:Params)(os:OsState):SharedT:=⟨s.tree P,s.n,(boot_heap P).life,#[],boot_drawn,s.t,os⟩
end Mine
end
noncomputable section
open PySem PySem.W
set_option maxRecDepth 100000
set_option maxHeartbeats 0
namespace Mine
def segD(den:Code→Sem PySem.Fin)(p:Program)(w:World)(n₀:Nat)(ann:Option Value)(b:Nat):Nat→SharedT→Thread→Option (Flow × SharedT × Code × Pos)
 |0,_,_=>none
 |n+1,s,t=>match endAt b t with
  |some f=>some (f,s,t.code,t.pos)
  |none=>match stepOk n₀ ann t with
   |false=>none
   |true=>match stepT den p w s t with
    |some (s',t')=>segD den p w n₀ ann b n s' t'
    |none=>none
theorem segD_eq{tb:String→Option Builtin}{p:Program}{w:World}{n₀:Nat}{ann:Option Value}{b:Nat}:∀(n:Nat) (s:SharedT) (t:Thread),segD (denote tb) p w n₀ ann b n s t=segRunT tb p w n₀ ann b n s t
 |0,_,_=>rfl
 |n+1,s,t=>by
  unfold segD segRunT
  cases endAt b t with
  |some f=>rfl
  |none=>
   cases stepOk n₀ ann t with
   |false=>rfl
   |true=>
    cases stepT (denote tb) p w s t with
    |none=>rfl
    |some r=>exact segD_eq n r.1 r.2
def vg:Env:={ scope:=progP.main.scope,locals:=mainNs,globals:=mainNs,cells:=[],code:=.ref 13,frame:=some 14 }
def hC:Code:=.body progP.main.body vg
def hTh(i:Nat)(l:List Stmt):Thread:=⟨(execs l vg).wrap doneF deadEnd id id,hC,wy i,[topFrame default]⟩
def yE(w:World)(os:OsState)(N i:Nat)(l:List Stmt):Option (Flow × SharedT × Code × Pos):=segD zx progP w 11 none 1 N ((hSt i).at w.params os) (hTh i l)
def yw(w:World)(os:OsState)(i:Nat):Option (Flow × SharedT × Code × Pos):=some (.next,(hSt i).at w.params os,hC,wy i)
abbrev DdS:=Option Addr × List (Sem Value × Sem Value)
def ddX:{ x:(Option (Sem Value) × Sem Value→DdS→Sem (ForInStep DdS)) × (DdS→Sem Value) //
  ∀items,dictDisplay items=(forIn items (none,[]) x.1) >>= x.2 }:=⟨(_,_),fun items=>by unfold dictDisplay;exact rfl⟩
def ddI:List (Option (Sem Value) × Sem Value):=(evalEachOpt (dKs b3E) vg).zip ((evalEach (dVs b3E) vg).map fun v=>do let x ←v;standAt b3E.pos;pure x)
def ddT:List Expr:=match zs 4 with
 | .Assign ts _ _=>ts
 | _=>[]
def ddG(v:Value):Sem Flow:=do assignStores vg v (←swappedStores ddT b3E vg) ((assignEach ddT vg).map (·.2))
def ddTh:Thread:=⟨(((forIn ddI (none,[]) ddX.1.1 >>= ddX.1.2) >>= ddG):Sem Flow).wrap doneF deadEnd id id,hC,b3E.pos,[topFrame default]⟩
def goD(den:Code→Sem PySem.Fin)(p:Program)(w:World)(n₀:Nat)(ann:Option Value)(b:Nat):Nat→SharedT→Thread→Option (SharedT × Thread)
 |0,s,t=>some (s,t)
 |n+1,s,t=>match endAt b t with
  |some _=>none
  |none=>match stepOk n₀ ann t with
   |false=>none
   |true=>match stepT den p w s t with
    |some (s',t')=>goD den p w n₀ ann b n s' t'
    |none=>none
def hGo(w:World)(N:Nat)(s:SharedT)(t:Thread):Option (SharedT × Thread):=goD zx progP w 11 none 1 N s t
end Mine
end
noncomputable section
open PyProof.Rows PySem PySem.W
set_option maxRecDepth 100000
set_option maxHeartbeats 0
namespace Mine
def Go(w:World)(s:Shared)(t:Thread)(s':Shared)(t':Thread):Prop:=∃n,segGo treeTable progP w 11 none 1 n s t=some (s',t')
theorem Go.refl{w:World}{s:Shared}{t:Thread}:Go w s t s t:=⟨0,rfl⟩
theorem segGo_add{w:World}:∀(n m:Nat) (s s':Shared) (t t':Thread),segGo treeTable progP w 11 none 1 n s t=some (s',t')→segGo treeTable progP w 11 none 1 (n+m) s t=segGo treeTable progP w 11 none 1 m s' t'
 |0,m,s,s',t,t',h=>by
  obtain⟨rfl,rfl⟩:s=s'∧t=t':=by simpa [segGo] using h
  rw[Nat.zero_add]
 |n+1,m,s,s',t,t',h=>by
  rw[show n+1+m=n+m+1 by omega]
  unfold segGo at h
  conv=>lhs;unfold segGo
  cases h1:endAt 1 t with
  |some f=>rw[h1] at h;cases h
  |none=>
   rw[h1] at h
   cases h2:stepOk 11 none t with
   |false=>rw[h2] at h;cases h
   |true=>
    rw[h2] at h
    cases h3:step (denote treeTable) progP w s t with
    |halt o s2=>rw[h3] at h;cases h
    |go s2 t2=>rw[h3] at h;exact segGo_add n m s2 s' t2 t' h
theorem Go.trans{w:World}{s s₁ s':Shared}{t t₁ t':Thread}(h:Go w s t s₁ t₁)(h':Go w s₁ t₁ s' t'):Go w s t s' t':=by
 obtain⟨n,hn⟩:=h
 obtain⟨m,hm⟩:=h'
 exact⟨n+m,by rw[segGo_add n m _ _ _ _ hn];exact hm⟩
theorem Go.one{w:World}{s s':Shared}{t t':Thread}(h1:endAt 1 t=none)(h2:stepOk 11 none t=true)(h3:step (denote treeTable) progP w s t=.go s' t'):Go w s t s' t':=⟨1,by unfold segGo;rw[h1,h2,h3];rfl⟩
def tF:List Frame:=[topFrame default]
def CS(w:World){α:Type}(x:Sem α)(s:Shared)(a:α)(s':Shared):Prop:=
 ∀(K:α→Sem PySem.Fin) (H:Value→Sem PySem.Fin) (gd:Bool→Bool) (lv:List Value→List Value) (pos:Pos),∃pos',Go w s ⟨x.wrap K H gd lv,hC,pos,tF⟩ s' ⟨K a,hC,pos',tF⟩
section
variable {w:World} {α β:Type} {s s₁ s':Shared} {a:α} {b:β}
theorem CS.pure:CS w (Pure.pure a:Sem α) s a s:=fun K H gd lv pos=>⟨pos,.refl⟩
theorem CS.bind{x:Sem α}{f:α→Sem β}(h:CS w x s a s₁)(h':CS w (f a) s₁ b s'):CS w (x >>= f) s b s':=fun K H gd lv pos=>by
 obtain⟨p1,g1⟩:=h (fun a=>(f a).wrap K H gd lv) (fun e=>(Sem.raise e:Sem β).wrap K H gd lv) (fun g=>gd (id g)) (fun l=>lv (id l)) pos
 obtain⟨p2,g2⟩:=h' K H gd lv p1
 refine⟨p2,?_⟩
 rw[Sem.bind_eq_wrap',Sem.wrap_wrap]
 exact g1.trans g2
theorem CS.eq{x y:Sem α}(e:x=y)(h:CS w y s a s'):CS w x s a s':=e▸h
theorem CS.hold{vs:List Value}{x:Sem α}(h:CS w x s a s'):CS w (holding vs x) s a s':=by
 unfold holding
 split
 ·exact h
 ·intro K H gd lv pos
  rw[Sem.keep_eq_wrap,Sem.wrap_wrap]
  exact h _ _ _ _ pos
theorem CS.onRaise{x:Sem α}{f:Value→Sem Unit}(h:CS w x s a s'):CS w (x.onRaise f) s a s':=by
 intro K H gd lv pos
 rw[Sem.onRaise_eq_wrap,Sem.wrap_wrap]
 exact h _ _ _ _ pos
theorem CS.rule{t:String}:CS w (PySem.rule t) s () s:=fun K H gd lv pos=>⟨pos,.one rfl rfl rfl⟩
theorem CS.at{p:Pos}:CS w (standAt p) s () s:=fun K H gd lv pos=>⟨p,.one rfl rfl rfl⟩
theorem CS.load{x:Addr}{p:Option Value}{o:Obj}(h:s.heap.get? x=some o):CS w (loadPart x p) s o s:=fun K H gd lv pos=>⟨pos,.one rfl rfl (by
 obtain⟨heap,gens,drawn,toks,os⟩:=s
 simp only[loadPart,Sem.wrap,step]
 dsimp only at h
 rw[h])⟩
theorem CS.upd{x:Addr}{p:Option Value}{f:Obj→Obj}(hx:11≤x)(h:(s.heap.get? x).isSome=true):CS w (updatePart x p f) s () { s with heap:=s.heap.update x f }:=fun K H gd lv pos=>⟨pos,.one rfl (by
 have:Nat.ble 11 x=true:=Nat.ble_eq_true_of_le hx
 simp only[updatePart,Sem.wrap,stepOk,this];rfl) (by
 obtain⟨heap,gens,drawn,toks,os⟩:=s
 simp only[updatePart,Sem.wrap,step]
 dsimp only at h
 rw[h];rfl)⟩
theorem CS.alloc{o:Obj}:CS w (PySem.alloc o) s s.heap.objs.size { s with heap:=s.heap.push o }:=fun K H gd lv pos=>⟨pos,.one rfl rfl (by
 obtain⟨heap,gens,drawn,toks,os⟩:=s
 rfl)⟩
end
theorem mapO_push{es:List DictEntry}{n:Nat}{e:DictEntry}:Obj.mapDictKeys (·.push e) (zR es n)=zR (es++[e]) (n+1):=by
 simp[zR,Obj.mapDictKeys]
def goS(den:Code→Sem PySem.Fin)(p:Program)(w:World)(n₀:Nat)(ann:Option Value)(b:Nat):Nat→Shared→Thread→Option (Shared × Thread)
 |0,s,t=>some (s,t)
 |n+1,s,t=>match endAt b t with
  |some _=>none
  |none=>match stepOk n₀ ann t with
   |false=>none
   |true=>match step den p w s t with
    | .go s' t'=>goS den p w n₀ ann b n s' t'
    | .halt _ _=>none
theorem goS_eq{tb:String→Option Builtin}{p:Program}{w:World}{n₀:Nat}{ann:Option Value}{b:Nat}:∀(n:Nat) (s:Shared) (t:Thread),goS (denote tb) p w n₀ ann b n s t=segGo tb p w n₀ ann b n s t
 |0,_,_=>rfl
 |n+1,s,t=>by
  unfold goS segGo
  cases endAt b t with
  |some f=>rfl
  |none=>
   cases stepOk n₀ ann t with
   |false=>rfl
   |true=>
    cases step (denote tb) p w s t with
    |halt o s=>rfl
    |go s' t'=>exact goS_eq n s' t'
theorem vc:zx=denote treeTable:=by rw[wm,table_eq_tree]
theorem Go.fast{w:World}{s s':Shared}{t t':Thread}(n:Nat)(h:goS zx progP w 11 none 1 n s t=some (s',t')):Go w s t s' t':=⟨n,by rw[vc,goS_eq] at h;exact h⟩
section
variable {w:World} {s:Shared}
theorem reduced_raw{k:Int}:pyHashByItsType.reduced (rawHash k)=pure (hashInt k):=by
 have hr:=rawHash_range k
 unfold pyHashByItsType.reduced
 rw[if_pos (by rw[decide_eq_true hr.1,decide_eq_true hr.2];rfl)]
 rfl
theorem cs_hash{k:Int}{t:Tok}:CS w (pyHash (.int k t)) s (hashInt k) { s with toks:=s.toks+1 }:=by
 obtain⟨heap,gens,drawn,toks,os⟩:=s
 have H:∀b,∀(K:Int→Sem PySem.Fin) (H:Value→Sem PySem.Fin) (gd:Bool→Bool) (lv:List Value→List Value) (pos:Pos),Go (w.withFollow "special-get-raises" b) ⟨heap,gens,drawn,toks,os⟩ ⟨(pyHash (.int k t)).wrap K H gd lv,hC,pos,tF⟩ ⟨heap,gens,drawn,toks+1,os⟩ ⟨(pyHashByItsType.reduced (rawHash k)).wrap K H gd lv,hC,pos,tF⟩:=fun b K H gd lv pos=>.fast 5 (by cases b<;>kernel_rfl)
 have:=H (w.params.followText "special-get-raises")
 rw[World.withFollow_self] at this
 intro K H gd lv pos
 have h:=this K H gd lv pos
 rw[reduced_raw] at h
 exact⟨pos,h⟩
theorem cs_int{k:Int}:CS w (mkInt k) s (.int k s.toks) { s with toks:=s.toks+1 }:=by
 obtain⟨heap,gens,drawn,toks,os⟩:=s
 exact fun K H gd lv pos=>⟨pos,.one rfl rfl rfl⟩
theorem cs_text{x:Str}:CS w (mkText x) s (.str x s.toks) { s with toks:=s.toks+1 }:=by
 obtain⟨heap,gens,drawn,toks,os⟩:=s
 exact fun K H gd lv pos=>⟨pos,.one rfl rfl rfl⟩
end
section
variable {w:World} {s:Shared} {d:Addr} {es:List DictEntry} {n:Nat}
theorem wn{p:Option Value}(h:s.heap.get? d=some (zR es n)):CS w (dictEntries d p) s es.toArray s:=by
 unfold dictEntries
 exact CS.bind (CS.load h) CS.pure
theorem places_none{es:List DictEntry}{h:Int}(hn:∀e∈es,e.hash≠h):placesWithHash es.toArray.size (fun i=>es.toArray[i]?.map (·.hash)) h=[]:=by
 unfold placesWithHash
 rw[List.filter_eq_nil_iff]
 intro i hi
 rw[List.mem_range,List.size_toArray] at hi
 simp only[List.getElem?_toArray,List.getElem?_eq_getElem hi,Option.map_some,beq_iff_eq,Option.some.injEq]
 exact hn _ (List.getElem_mem hi)
theorem cs_find{k h:Int}{t:Tok}(hd:s.heap.get? d=some (zR es n))(hn:∀e∈es,e.hash≠h):CS w (dictFind d (.int k t) h) s none s:=by
 unfold dictFind
 refine CS.hold (CS.bind (wn hd) ?_)
 dsimp only
 rw[places_none hn]
 exact CS.pure
theorem w5{h:Heap}{o:Obj}(g:h.get? d=some o)(f:Obj→Obj):h.update d f=h.update d fun _=>f o:=by
 obtain⟨objs,life⟩:=h
 have hx:objs[d]?=some o:=by
  unfold Heap.get? at g
  split at g
  ·cases g
  ·exact g
 show Heap.mk _ _=Heap.mk _ _
 refine congrArg (Heap.mk · life) ?_
 apply Array.ext_getElem?
 intro i
 rw[Array.getElem?_modify,Array.getElem?_modify]
 by_cases e:d=i
 ·subst e;simp[hx]
 ·simp[e]
theorem get_upd{h:Heap}{o o':Obj}(g:h.get? d=some o)(hf:o'.isFreed=false):(h.update d fun _=>o').get? d=some o':=by
 obtain⟨objs,life⟩:=h
 have hx:objs[d]?=some o:=by
  unfold Heap.get? at g
  split at g
  ·cases g
  ·exact g
 unfold Heap.update Heap.get?
 dsimp only
 rw[Array.getElem?_modify,hx]
 simp only[if_true,Option.map_some]
 split
 ·rename_i e;cases e;cases hf
 ·rfl
theorem upd_upd{h:Heap}{o o':Obj}:(h.update d fun _=>o).update d (fun _=>o')=h.update d fun _=>o':=by
 obtain⟨objs,life⟩:=h
 show Heap.mk _ _=Heap.mk _ _
 refine congrArg (Heap.mk · life) ?_
 apply Array.ext_getElem?
 intro i
 rw[Array.getElem?_modify,Array.getElem?_modify,Array.getElem?_modify]
 by_cases e:d=i
 ·subst e;cases objs[d]?<;>simp
 ·simp[e]
def z8(s:Shared)(d:Addr)(es:List DictEntry)(n:Nat):Shared:={ s with heap:=s.heap.update d fun _=>zR es n }
theorem vW(hd:s.heap.get? d=some (zR es n)){es':List DictEntry}{n':Nat}:(z8 s d es' n').heap.get? d=some (zR es' n'):=get_upd hd rfl
theorem putD_put{es es':List DictEntry}{n n':Nat}:z8 (z8 s d es n) d es' n'=z8 s d es' n':=by
 unfold z8;dsimp only;rw[upd_upd]
theorem cs_push{p:Option Value}{e:DictEntry}(hx:11≤d)(hd:s.heap.get? d=some (zR es n))(hl:es.length≤1000):CS w (updateDictKeys d (·.push e) p) s () (z8 s d (es++[e]) (n+1)):=by
 unfold updateDictKeys
 refine CS.bind (CS.load hd) ?_
 show CS w (updatePart d p _ >>= fun _=>lookBehind d p) s () _
 have e1:{ s with heap:=s.heap.update d (Obj.mapDictKeys (·.push e)) }=z8 s d (es++[e]) (n+1):=by
  unfold z8
  rw[w5 hd,mapO_push]
 refine CS.bind (CS.upd hx (by rw[hd];rfl)) ?_
 rw[e1]
 unfold lookBehind
 refine CS.bind (CS.load (vW hd)) ?_
 have:(zR (es++[e]) (n+1)).data.pastItsLine=none:=by
  unfold zR Data.pastItsLine
  dsimp only
  rw[if_neg]
  rw[List.size_toArray,List.length_append]
  have:sizeLine=16777216:=by decide
  rw[this];simp;omega
 rw[this]
 exact CS.pure
theorem cs_put{k h:Int}{t:Tok}{v:Value}(hx:11≤d)(hd:s.heap.get? d=some (zR es n))(hl:es.length≤1000)(hn:∀e∈es,e.hash≠h):CS w (dictPut d h (.int k t) v) s () (z8 s d (es++[⟨h,.int k t,v⟩]) (n+1)):=by
 unfold dictPut
 exact CS.bind (cs_find hd hn) (cs_push hx hd hl)
theorem cs_setH{k h:Int}{t:Tok}{v:Value}(hx:11≤d)(hd:s.heap.get? d=some (zR es n))(hl:es.length≤1000)(hn:∀e∈es,e.hash≠h):CS w (dictSetHashed d (.int k t) h v) s () (z8 s d (es++[⟨h,.int k t,v⟩]) (n+1)):=by
 unfold dictSetHashed
 exact CS.hold (CS.bind (cs_find hd hn) (CS.bind CS.rule (cs_push hx hd hl)))
theorem cs_set{k:Int}{t:Tok}{v:Value}(hx:11≤d)(hd:s.heap.get? d=some (zR es n))(hl:es.length≤1000)(hn:∀e∈es,e.hash≠hashInt k):CS w (dictSet d (.int k t) v) s () { z8 s d (es++[⟨hashInt k,.int k t,v⟩]) (n+1) with toks:=s.toks+1 }:=by
 unfold dictSet
 exact CS.hold (CS.bind cs_hash (cs_setH (s:={ s with toks:=s.toks+1 }) hx hd hl hn))
end
def pr(p:Int × Str):Sem Value × Sem Value:=(mkInt p.1,(do let x ←mkText p.2;standAt b3E.pos;pure x))
theorem ue:∀(t:Nat) (l:List (Int × Str)),(enL t l).length=l.length
 | _,[]=>rfl
 |t,p::l=>by rw[enL,List.length_cons,ue (t+3) l,List.length_cons]
theorem uf:∀(t:Nat) (l:List (Int × Str)),(enL t l).map (·.hash)=l.map fun p=>hashInt p.1
 | _,[]=>rfl
 |t,p::l=>by rw[enL,List.map_cons,uf (t+3) l,List.map_cons];rfl
section
variable {w:World} {s:Shared} {d:Addr} {es:List DictEntry} {n:Nat}
theorem cs_pairs{B:Sem Value × Sem Value→PUnit→Sem (ForInStep PUnit)}(hB:∀x,B x ⟨⟩=(do let kv ←x.1;let vv ←holding [kv] x.2;holding [kv,vv] (dictSet d kv vv);pure (.yield ⟨⟩)))(hx:11≤d) :
  ∀(l:List (Int × Str)) (s:Shared) (es:List DictEntry) (n:Nat),s.heap.get? d=some (zR es n)→es.length+l.length≤1000→(es.map (·.hash)++l.map (fun p=>hashInt p.1)).Nodup→
   CS w (forIn (l.map pr) ⟨⟩ B) s ⟨⟩ { z8 s d (es++enL s.toks l) (n+l.length) with toks:=s.toks+3*l.length }
 |[],s,es,n,hd,hl,hn=>by
  have e:({ z8 s d (es++enL s.toks []) (n+([]:List (Int × Str)).length) with toks:=s.toks+3*([]:List (Int × Str)).length }:Shared)=s:=by
   have h1:s.heap.update d (fun _=>zR es n)=s.heap:=by
    refine(w5 hd id).symm.trans ?_
    obtain⟨objs,life⟩:=s.heap
    show Heap.mk _ _=Heap.mk _ _
    refine congrArg (Heap.mk · life) ?_
    apply Array.ext_getElem?
    intro i
    rw[Array.getElem?_modify]
    split<;>simp
   obtain⟨heap,gens,drawn,toks,os⟩:=s
   unfold z8 enL
   simp only[List.append_nil,List.length_nil,Nat.add_zero,Nat.mul_zero,Shared.mk.injEq,and_true]
   exact h1
  rw[e]
  exact CS.pure
 |p::l,s,es,n,hd,hl,hn=>by
  rw[List.map_cons,List.forIn_cons,hB]
  have hf:∀e∈es,e.hash≠hashInt p.1:=fun e he q=>by
   have:=List.nodup_append.mp hn
   exact this.2.2 _ (List.mem_map_of_mem he) _ (.head _) q
  rw[List.length_cons] at hl
  refine CS.bind (CS.bind cs_int (CS.bind (CS.hold (CS.bind cs_text (CS.bind CS.at CS.pure))) (CS.bind (CS.hold (cs_set (s:={ s with toks:=s.toks+1+1 }) hx hd (by omega) hf)) CS.pure))) ?_
  have ih:=cs_pairs hB hx l { z8 s d (es++[enE s.toks p]) (n+1) with toks:=s.toks+3 } (es++[enE s.toks p]) (n+1) (vW hd) (by rw[List.length_append,List.length_singleton];omega) (by
   rw[List.map_append,List.append_assoc]
   exact hn)
  have e:({ z8 ({ z8 s d (es++[enE s.toks p]) (n+1) with toks:=s.toks+3 }:Shared) d (es++[enE s.toks p]++enL (s.toks+3) l) (n+1+l.length) with toks:=s.toks+3+3*l.length }:Shared)={ z8 s d (es++enL s.toks (p::l)) (n+(p::l).length) with toks:=s.toks+3*(p::l).length }:=by
   unfold z8
   dsimp only
   rw[upd_upd,List.append_assoc,List.length_cons,Nat.add_assoc n 1,Nat.add_comm 1 l.length,Nat.mul_add,Nat.mul_one,Nat.add_assoc s.toks 3,Nat.add_comm 3]
   rfl
  rw[←e]
  exact ih
theorem cs_sub{l:List (Int × Str)}(hl:l.length=17)(hs:11≤s.heap.objs.size)(hn:(l.map fun p=>hashInt p.1).Nodup) :
  CS w (subDict (l.map pr)) s s.heap.objs.size { s with heap:=s.heap.push (zR (enL s.toks l) 17),toks:=s.toks+51 }:=by
 unfold subDict
 refine CS.bind CS.alloc (CS.bind (a:=()) (CS.hold ?_) CS.pure)
 rw[if_neg (by rw[List.length_map,hl];decide)]
 refine CS.bind CS.rule ?_
 have h0:(s.heap.push (zR [] 0)).get? s.heap.objs.size=some (zR [] 0):=by
  obtain⟨⟨objs,life⟩,gens,drawn,toks,os⟩:=s
  show Heap.get? ⟨objs.push _,life⟩ objs.size=_
  unfold Heap.get?
  rw[Array.getElem?_push_size];rfl
 have h:=cs_pairs (w:=w) (d:=s.heap.objs.size) (B:=fun x _=>match x with|(k,v)=>do let kv ←k;let vv ←holding [kv] v;holding [kv,vv] (dictSet s.heap.objs.size kv vv);pure (.yield ⟨⟩)) (fun x=>rfl) hs l { s with heap:=s.heap.push (zR [] 0) } [] 0 h0 (by rw[hl];decide) hn
 have e:({ z8 ({ s with heap:=s.heap.push (zR [] 0) }:Shared) s.heap.objs.size ([]++enL s.toks l) (0+l.length) with toks:=s.toks+3*l.length }:Shared)={ s with heap:=s.heap.push (zR (enL s.toks l) 17),toks:=s.toks+51 }:=by
  unfold z8
  dsimp only
  rw[hl,List.nil_append]
  refine congrArg (fun h=>Shared.mk h s.gens s.drawn (s.toks+51) s.os) ?_
  obtain⟨⟨objs,life⟩,gens,drawn,toks,os⟩:=s
  show Heap.mk _ _=Heap.mk _ _
  refine congrArg (Heap.mk · life) ?_
  apply Array.ext_getElem?
  intro i
  show ((objs.push _).modify objs.size _)[i]?=(objs.push _)[i]?
  rw[Array.getElem?_modify,Array.getElem?_push,Array.getElem?_push]
  by_cases h:i=objs.size
  ·subst h;simp
  ·simp[h,Ne.symm h]
 rw[e] at h
 exact CS.bind h CS.pure
end
section
variable {w:World}
theorem cs_isDict{s:Shared}{a:Addr}{es:List DictEntry}{n:Nat}(h:s.heap.get? a=some (zR es n)):CS w (isInstance (.ref a) (.type "dict")) s true s:=by
 unfold isInstance typeOf
 refine CS.bind (CS.bind (CS.load h) CS.pure) (CS.eq ?_ CS.pure)
 show isSubtype (.type "dict") (.type "dict")=_
 rw[isSubtype_type]
 kernel_rfl
theorem cs_iter{s:Shared}{a:Addr}{es:List DictEntry}{n:Nat}(h:s.heap.get? a=some (zR es n)):CS w (specialOf (.ref a) "__iter__") s (some (.builtin "dict.__iter__")) s:=by
 unfold specialOf typeOf
 refine CS.bind (CS.bind (CS.load h) CS.pure) (CS.eq ?_ CS.pure)
 show typeLookup (.type "dict") "__iter__" = _
 rw[typeLookup_type,builtinLookup_eq_fast]
 kernel_rfl
theorem cs_epoch{s:Shared}{a:Addr}{es:List DictEntry}{n:Nat}{p:Option Value}(h:s.heap.get? a=some (zR es n)):CS w (dictEpoch a p) s n s:=by
 unfold dictEpoch
 exact CS.bind (CS.load h) CS.pure
theorem putD_ne{s:Shared}{a d:Addr}{es:List DictEntry}{n:Nat}(h:a≠d):(z8 s d es n).heap.get? a=s.heap.get? a:=Heap.get?_update_ne _ _ _ _ h
theorem cs_range{a d:Addr}{L:List DictEntry}{m:Nat}{B:Nat→PUnit→Sem (ForInStep PUnit)}(hne:a≠d)
  (hB:∀(i:Nat) (e:DictEntry) (s:Shared) (es:List DictEntry) (n:Nat),L[i]?=some e→s.heap.get? a=some (zR L m)→s.heap.get? d=some (zR es n)→es.length≤1000→(∀x∈es,x.hash≠e.hash)→CS w (B i ⟨⟩) s (.yield ⟨⟩) (z8 s d (es++[e]) (n+1))) :
  ∀(k i:Nat) (s:Shared) (es:List DictEntry) (n:Nat),i+k=L.length→s.heap.get? a=some (zR L m)→s.heap.get? d=some (zR es n)→es.length+k≤1000→(es.map (·.hash)++(L.drop i).map (·.hash)).Nodup→
   CS w (forIn (List.range' i k) ⟨⟩ B) s ⟨⟩ (z8 s d (es++L.drop i) (n+k))
 |0,i,s,es,n,hi,ha,hd,hl,hn=>by
  have e:z8 s d (es++L.drop i) (n+0)=s:=by
   rw[List.drop_eq_nil_of_le (by omega),List.append_nil]
   have h1:s.heap.update d (fun _=>zR es n)=s.heap:=by
    refine(w5 hd id).symm.trans ?_
    obtain⟨objs,life⟩:=s.heap
    show Heap.mk _ _=Heap.mk _ _
    refine congrArg (Heap.mk · life) ?_
    apply Array.ext_getElem?
    intro i
    rw[Array.getElem?_modify]
    split<;>simp
   unfold z8
   rw[Nat.add_zero,h1]
  rw[e]
  exact CS.pure
 |k+1,i,s,es,n,hi,ha,hd,hl,hn=>by
  have hi':i < L.length:=by omega
  rw[List.range'_succ,List.forIn_cons]
  have ed:L.drop i=L[i]::L.drop (i+1):=List.drop_eq_getElem_cons hi'
  rw[ed,List.map_cons] at hn
  have hf:∀x∈es,x.hash≠L[i].hash:=fun x hx q=>(List.nodup_append.mp hn).2.2 _ (List.mem_map_of_mem hx) _ (.head _) q
  refine CS.bind (hB i L[i] s es n (List.getElem?_eq_getElem hi') ha hd (by omega) hf) ?_
  have ih:=cs_range hne hB k (i+1) (z8 s d (es++[L[i]]) (n+1)) (es++[L[i]]) (n+1) (by omega) (by rw[putD_ne hne];exact ha) (vW hd) (by rw[List.length_append,List.length_singleton];omega) (by
   rw[List.map_append,List.append_assoc];exact hn)
  rw[putD_put,List.append_assoc,Nat.add_assoc n 1,Nat.add_comm 1 k] at ih
  rw[ed]
  exact ih
theorem enL_key:∀(t:Nat) (l:List (Int × Str)),∀e∈enL t l,∃k tk,e.key=.int k tk
 | _,[],e,h=>by cases h
 |t,p::l,e,h=>by
  rcases List.mem_cons.mp h with rfl|h
  ·exact⟨_,_,rfl⟩
  ·exact enL_key (t+3) l e h
theorem cs_merge{s:Shared}{a d:Addr}{L:List DictEntry}{m:Nat}{es:List DictEntry}{n:Nat}(hx:11≤d)(hne:a≠d)(hs:(a==sysModules)=false)(h0:es≠[])(hk:∀e∈L,∃k tk,e.key=.int k tk)(ha:s.heap.get? a=some (zR L m))(hd:s.heap.get? d=some (zR es n))
  (hl:es.length+L.length≤1000) (hn:(es.map (·.hash)++L.map (·.hash)).Nodup):CS w (mergeMapping d (.ref a) false) s () (z8 s d (es++L) (n+L.length)):=by
 unfold mergeMapping
 refine CS.bind (cs_isDict ha) ?_
 dsimp only
 rw[if_pos rfl]
 refine CS.bind (cs_iter ha) ?_
 rw[show (some (Value.builtin "dict.__iter__")==some (Value.builtin "dict.__iter__"))=true from beq_self_eq_true _]
 refine CS.bind CS.pure ?_
 dsimp only
 rw[hs,if_neg (by decide)]
 refine CS.bind (wn hd) ?_
 rw[if_neg (by
  cases es with
  |nil=>exact absurd rfl h0
  |cons e es=>simp)]
 refine CS.bind (wn ha) (CS.bind (cs_epoch ha) (CS.bind (a:=PUnit.unit) (s₁:=z8 s d (es++L) (n+L.length)) ?_ CS.pure))
 rw[List.size_toArray,List.range_eq_range']
 refine cs_range hne ?_ L.length 0 s es n (Nat.zero_add _) ha hd hl (by rw[List.drop_zero];exact hn)
 intro i e s es n he ha hd hl hn
 refine CS.bind (wn ha) ?_
 rw[List.getElem?_toArray,he]
 dsimp only
 obtain⟨k,tk,hk⟩:=hk e (List.mem_of_getElem? he)
 refine CS.bind (a:=()) (s₁:=z8 s d (es++[e]) (n+1)) (CS.hold ?_) (CS.bind (cs_epoch (by rw[putD_ne hne];exact ha)) ?_)
 ·rw[if_neg (by decide)]
  obtain⟨h,key,v⟩:=e
  dsimp only at hk hn
  subst hk
  exact cs_put hx hd hl hn
 ·rw[if_neg (by simp)]
  exact CS.pure
end
def itm(p:Int × Str):Option (Sem Value) × Sem Value:=(some (pr p).1,(pr p).2)
section
variable {w:World}
theorem dd_yield{k v:Sem Value}{m:Option Addr}{run:List (Sem Value × Sem Value)}(h:run.length+1≠17):ddX.1.1 (some k,v) (m,run)=pure (.yield (m,run++[(k,v)])):=by
 show (if ((run++[(k,v)]).length==17)=true then _ else _)=_
 rw[if_neg (by rw[List.length_append,List.length_singleton];simpa using h)]
theorem cs_flush0{k v:Sem Value}{run:List (Sem Value × Sem Value)}{s s':Shared}{d:Addr}(h:run.length+1=17)(hs:CS w (subDict (run++[(k,v)])) s d s'):CS w (ddX.1.1 (some k,v) (none,run)) s (.yield (some d,[])) s':=by
 show CS w (if ((run++[(k,v)]).length==17)=true then _ else _) _ _ _
 rw[if_pos (by rw[List.length_append,List.length_singleton,h];rfl)]
 refine CS.bind (a:=some d) (s₁:=s') ?_ CS.pure
 show CS w (if (run++[(k,v)]).isEmpty=true then _ else _) _ _ _
 rw[if_neg (by simp)]
 exact CS.bind hs CS.pure
theorem cs_flush1{k v:Sem Value}{run:List (Sem Value × Sem Value)}{s s₁ s':Shared}{a d:Addr}(h:run.length+1=17)(hs:CS w (subDict (run++[(k,v)])) s a s₁)(hm:CS w (mergeMapping d (.ref a) false) s₁ () s'):CS w (ddX.1.1 (some k,v) (some d,run)) s (.yield (some d,[])) s':=by
 show CS w (if ((run++[(k,v)]).length==17)=true then _ else _) _ _ _
 rw[if_pos (by rw[List.length_append,List.length_singleton,h];rfl)]
 refine CS.bind (a:=some d) (s₁:=s') ?_ CS.pure
 show CS w (if (run++[(k,v)]).isEmpty=true then _ else _) _ _ _
 rw[if_neg (by simp)]
 exact CS.bind (CS.hold hs) (CS.bind (CS.onRaise (CS.hold hm)) CS.pure)
theorem cs_chunk{m m':Option Addr}{rest:List (Option (Sem Value) × Sem Value)}{s s₁ s':Shared}{r:DdS}(hr:CS w (forIn rest (m',[]) ddX.1.1) s₁ r s'):∀(l:List (Int × Str)) (run:List (Sem Value × Sem Value)),run.length+l.length=17→l≠[]→
  (∀k v run',run'.length+1=17→run'++[(k,v)]=run++l.map pr→CS w (ddX.1.1 (some k,v) (m,run')) s (.yield (m',[])) s₁)→CS w (forIn (l.map itm++rest) (m,run) ddX.1.1) s r s'
 |[],_,_,h,_=>absurd rfl h
 |[p],run,hl,_,H=>by
  show CS w (forIn (itm p::rest) _ _) _ _ _
  rw[List.forIn_cons]
  exact CS.bind (H (pr p).1 (pr p).2 run hl rfl) hr
 |p::p'::l,run,hl,_,H=>by
  rw[List.map_cons,List.cons_append,List.forIn_cons]
  show CS w (ddX.1.1 (some (pr p).1,(pr p).2) (m,run) >>= _) _ _ _
  rw[dd_yield (by simp only[List.length_cons] at hl;omega)]
  refine CS.bind CS.pure ?_
  refine cs_chunk hr (p'::l) (run++[((pr p).1,(pr p).2)]) (by simp only[List.length_cons,List.length_append,List.length_nil] at hl ⊢;omega) (by simp) ?_
  intro k v run' h1 h2
  refine H k v run' h1 ?_
  rw[h2,List.append_assoc];rfl
theorem cs_first{l:List (Int × Str)}{rest:List (Option (Sem Value) × Sem Value)}{s s':Shared}{r:DdS}(hl:l.length=17)(hs:11≤s.heap.objs.size)(hn:(l.map fun p=>hashInt p.1).Nodup)
  (hr:CS w (forIn rest (some s.heap.objs.size,[]) ddX.1.1) { s with heap:=s.heap.push (zR (enL s.toks l) 17),toks:=s.toks+51 } r s'):CS w (forIn (l.map itm++rest) (none,[]) ddX.1.1) s r s':=by
 refine cs_chunk hr l [] (by rw[hl];rfl) (by rintro rfl;cases hl) ?_
 intro k v run' h1 h2
 refine cs_flush0 h1 ?_
 rw[h2,List.nil_append]
 exact cs_sub hl hs hn
theorem yx{h:Heap}{o:Obj}(hf:o.isFreed=false):(h.push o).get? h.objs.size=some o:=by
 obtain⟨objs,life⟩:=h
 show Heap.get? ⟨objs.push _,life⟩ objs.size=_
 unfold Heap.get?
 rw[Array.getElem?_push_size]
 split
 ·rename_i e;cases e;cases hf
 ·rfl
theorem cs_next{l:List (Int × Str)}{rest:List (Option (Sem Value) × Sem Value)}{s s':Shared}{r:DdS}{d:Addr}{es:List DictEntry}{n:Nat}(hl:l.length=17)(hs:11≤s.heap.objs.size)(hx:11≤d)(hd:s.heap.get? d=some (zR es n))(h0:es≠[])(hle:es.length≤900)(hsm:(s.heap.objs.size==sysModules)=false)
  (hn:(es.map (·.hash)++l.map fun p=>hashInt p.1).Nodup)
  (hr:CS w (forIn rest (some d,[]) ddX.1.1) (z8 { s with heap:=s.heap.push (zR (enL s.toks l) 17),toks:=s.toks+51 } d (es++enL s.toks l) (n+17)) r s'):CS w (forIn (l.map itm++rest) (some d,[]) ddX.1.1) s r s':=by
 have hlt:d < s.heap.objs.size:=Heap.lt_size hd
 refine cs_chunk hr l [] (by rw[hl];rfl) (by rintro rfl;cases hl) ?_
 intro k v run' h1 h2
 refine cs_flush1 h1 (s₁:={ s with heap:=s.heap.push (zR (enL s.toks l) 17),toks:=s.toks+51 }) (a:=s.heap.objs.size) ?_ ?_
 ·rw[h2,List.nil_append]
  exact cs_sub hl hs (List.nodup_append.mp hn).2.1
 ·have:=cs_merge (w:=w) (s:={ s with heap:=s.heap.push (zR (enL s.toks l) 17),toks:=s.toks+51 }) (a:=s.heap.objs.size) (L:=enL s.toks l) (m:=17) hx (Nat.ne_of_gt hlt) hsm h0 (enL_key _ _) (yx rfl) (by
   show (s.heap.push _).get? d=_
   rw[Heap.get?_push_ne _ _ _ (Nat.ne_of_lt hlt)];exact hd) (by rw[ue,hl];omega) (by rw[uf];exact hn)
  rw[ue,hl] at this
  exact this
end
def vaL:Nat→List (Int × Str)→List (Value × Value)
 | _,[]=>[]
 |t,p::l=>(.int p.1 t,.str p.2 (t+1))::vaL (t+2) l
theorem enV_len:∀(t:Nat) (l:List (Int × Str)),(enV t l).length=l.length
 | _,[]=>rfl
 |t,p::l=>by rw[enV,List.length_cons,enV_len (t+2) l,List.length_cons]
theorem enV_hash:∀(t:Nat) (l:List (Int × Str)),(enV t l).map (·.hash)=l.map fun p=>hashInt p.1
 | _,[]=>rfl
 |t,p::l=>by rw[enV,List.map_cons,enV_hash (t+2) l,List.map_cons];rfl
theorem enV_key:∀(t:Nat) (l:List (Int × Str)),∀e∈enV t l,∃k tk,e.key=.int k tk
 | _,[],e,h=>by cases h
 |t,p::l,e,h=>by
  rcases List.mem_cons.mp h with rfl|h
  ·exact⟨_,_,rfl⟩
  ·exact enV_key (t+2) l e h
section
variable {w:World}
theorem ug:∀(l:List (Int × Str)) (s:Shared),CS w (evalPairs (l.map pr)) s (vaL s.toks l) { s with toks:=s.toks+2*l.length }
 |[],s=>CS.pure
 |p::l,s=>by
  rw[List.map_cons]
  show CS w (evalPairs (((pr p).1,(pr p).2)::l.map pr)) _ _ _
  unfold evalPairs
  refine CS.bind cs_int (CS.bind (CS.hold (CS.bind cs_text (CS.bind CS.at CS.pure))) ?_)
  have ih:=ug l { s with toks:=s.toks+1+1 }
  have e:s.toks+2*(p::l).length=s.toks+1+1+2*l.length:=by rw[List.length_cons];omega
  rw[e]
  exact CS.bind (CS.hold ih) CS.pure
theorem put_self{s:Shared}{d:Addr}{es:List DictEntry}{n:Nat}(hd:s.heap.get? d=some (zR es n)):z8 s d es n=s:=by
 have h1:s.heap.update d (fun _=>zR es n)=s.heap:=by
  refine(w5 hd id).symm.trans ?_
  obtain⟨objs,life⟩:=s.heap
  show Heap.mk _ _=Heap.mk _ _
  refine congrArg (Heap.mk · life) ?_
  apply Array.ext_getElem?
  intro i
  rw[Array.getElem?_modify]
  split<;>simp
 unfold z8
 rw[h1]
theorem cs_vals{d:Addr}{B:Value × Value→PUnit→Sem (ForInStep PUnit)}(hB:∀x,B x ⟨⟩=(do dictSet d x.1 x.2;pure (.yield ⟨⟩)))(hx:11≤d) :
  ∀(l:List (Int × Str)) (t:Nat) (s:Shared) (es:List DictEntry) (n:Nat),s.heap.get? d=some (zR es n)→es.length+l.length≤1000→(es.map (·.hash)++l.map (fun p=>hashInt p.1)).Nodup→
   CS w (forIn (vaL t l) ⟨⟩ B) s ⟨⟩ { z8 s d (es++enV t l) (n+l.length) with toks:=s.toks+l.length }
 |[],t,s,es,n,hd,hl,hn=>by
  have e:({ z8 s d (es++enV t []) (n+([]:List (Int × Str)).length) with toks:=s.toks+([]:List (Int × Str)).length }:Shared)=s:=by
   show ({ z8 s d (es++[]) n with toks:=s.toks }:Shared)=s
   rw[List.append_nil,put_self hd]
  rw[e]
  exact CS.pure
 |p::l,t,s,es,n,hd,hl,hn=>by
  show CS w (forIn (((.int p.1 t,.str p.2 (t+1)):Value × Value)::vaL (t+2) l) ⟨⟩ B) _ _ _
  rw[List.forIn_cons,hB]
  have hf:∀e∈es,e.hash≠hashInt p.1:=fun e he q=>(List.nodup_append.mp hn).2.2 _ (List.mem_map_of_mem he) _ (.head _) q
  rw[List.length_cons] at hl
  refine CS.bind (CS.bind (cs_set hx hd (by omega) hf) CS.pure) ?_
  have ih:=cs_vals hB hx l (t+2) { z8 s d (es++[enE t p]) (n+1) with toks:=s.toks+1 } (es++[enE t p]) (n+1) (vW hd) (by rw[List.length_append,List.length_singleton];omega) (by
   rw[List.map_append,List.append_assoc];exact hn)
  have e:({ z8 ({ z8 s d (es++[enE t p]) (n+1) with toks:=s.toks+1 }:Shared) d (es++[enE t p]++enV (t+2) l) (n+1+l.length) with toks:=s.toks+1+l.length }:Shared)={ z8 s d (es++enV t (p::l)) (n+(p::l).length) with toks:=s.toks+(p::l).length }:=by
   unfold z8
   dsimp only
   rw[upd_upd,List.append_assoc,List.length_cons,Nat.add_assoc n 1,Nat.add_comm 1 l.length,Nat.add_assoc s.toks 1,Nat.add_comm 1]
   rfl
  rw[←e]
  exact ih
theorem cs_subS{l:List (Int × Str)}{s:Shared}(hl:l.length≤15)(hs:11≤s.heap.objs.size)(hn:(l.map fun p=>hashInt p.1).Nodup) :
  CS w (subDict (l.map pr)) s s.heap.objs.size { s with heap:=s.heap.push (zR (enV s.toks l) l.length),toks:=s.toks+2*l.length+l.length }:=by
 unfold subDict
 refine CS.bind CS.alloc (CS.bind (a:=()) (CS.hold ?_) CS.pure)
 rw[if_pos (by rw[List.length_map];exact hl)]
 refine CS.bind (ug l _) (CS.hold ?_)
 have h0:(s.heap.push (zR [] 0)).get? s.heap.objs.size=some (zR [] 0):=yx rfl
 have h:=cs_vals (w:=w) (d:=s.heap.objs.size) (B:=fun x _=>match x with|(k,v)=>do dictSet s.heap.objs.size k v;pure (.yield ⟨⟩)) (fun x=>rfl) hs l s.toks { s with heap:=s.heap.push (zR [] 0),toks:=s.toks+2*l.length } [] 0 h0 (by simp;omega) hn
 have e:({ z8 ({ s with heap:=s.heap.push (zR [] 0),toks:=s.toks+2*l.length }:Shared) s.heap.objs.size ([]++enV s.toks l) (0+l.length) with toks:=s.toks+2*l.length+l.length }:Shared)={ s with heap:=s.heap.push (zR (enV s.toks l) l.length),toks:=s.toks+2*l.length+l.length }:=by
  unfold z8
  dsimp only
  rw[List.nil_append,Nat.zero_add]
  refine congrArg (fun h=>Shared.mk h s.gens s.drawn (s.toks+2*l.length+l.length) s.os) ?_
  obtain⟨⟨objs,life⟩,gens,drawn,toks,os⟩:=s
  show Heap.mk _ _=Heap.mk _ _
  refine congrArg (Heap.mk · life) ?_
  apply Array.ext_getElem?
  intro i
  show ((objs.push _).modify objs.size _)[i]?=(objs.push _)[i]?
  rw[Array.getElem?_modify,Array.getElem?_push,Array.getElem?_push]
  by_cases h:i=objs.size
  ·subst h;simp
  ·simp[h,Ne.symm h]
 rw[e] at h
 exact CS.bind h CS.pure
theorem cs_rest{m:Option Addr}{s:Shared}:∀(l:List (Int × Str)) (run:List (Int × Str)),run.length+l.length < 17→CS w (forIn (l.map itm) (m,run.map pr) ddX.1.1) s (m,(run++l).map pr) s
 |[],run,hl=>by rw[List.append_nil];exact CS.pure
 |p::l,run,hl=>by
  rw[List.map_cons,List.forIn_cons]
  show CS w (ddX.1.1 (some (pr p).1,(pr p).2) (m,run.map pr) >>= _) _ _ _
  rw[dd_yield (by rw[List.length_map];simp only[List.length_cons] at hl;omega)]
  refine CS.bind CS.pure ?_
  have:CS w (forIn (l.map itm) (m,(run++[p]).map pr) ddX.1.1) s (m,((run++[p])++l).map pr) s:=cs_rest l (run++[p]) (by simp only[List.length_cons,List.length_append,List.length_nil] at hl ⊢;omega)
  rw[List.map_append,List.append_assoc] at this
  exact this
theorem cs_post{run:List (Sem Value × Sem Value)}{s s₁ s':Shared}{a d:Addr}(h:run≠[])(hs:CS w (subDict run) s a s₁)(hm:CS w (mergeMapping d (.ref a) false) s₁ () s'):CS w (ddX.1.2 (some d,run)) s (.ref d) s':=by
 refine CS.bind (a:=some d) (s₁:=s') ?_ CS.pure
 show CS w (if run.isEmpty=true then _ else _) _ _ _
 rw[if_neg (by cases run with|nil=>exact absurd rfl h|cons _ _=>simp)]
 exact CS.bind (CS.hold hs) (CS.bind (CS.onRaise (CS.hold hm)) CS.pure)
end
theorem ddI_eq:ddI=dL.map itm:=by kernel_rfl
theorem uK:dL.length=650:=by kernel_rfl
def incN:Nat→List Nat→Bool
 | _,[]=>true
 |a,b::l=>match Nat.blt a b with
  |true=>incN b l
  |false=>false
theorem incN_lt:∀{a:Nat} {l:List Nat},incN a l=true→(∀x∈l,a < x)∧l.Pairwise (· < ·)
 |a,[],_=>⟨fun x h=>(by cases h),.nil⟩
 |a,b::l,h=>by
  unfold incN at h
  split at h
  ·rename_i hb
   have hb:a < b:=by rw[Nat.blt_eq] at hb;exact hb
   obtain⟨h1,h2⟩:=incN_lt h
   refine⟨fun x hx=>?_,List.pairwise_cons.mpr ⟨h1,h2⟩⟩
   rcases List.mem_cons.mp hx with rfl|hx
   ·exact hb
   ·exact Nat.lt_trans hb (h1 x hx)
  ·cases h
theorem v5{α β:Type}{f:α→β}:∀{l:List α},(l.map f).Nodup→l.Nodup
 |[],_=>List.nodup_nil
 |a::l,h=>by
  rw[List.map_cons,List.nodup_cons] at h
  exact List.nodup_cons.mpr ⟨fun hm=>h.1 (List.mem_map_of_mem hm),v5 h.2⟩
theorem dL_nodup:(dL.map fun p=>hashInt p.1).Nodup:=by
 have h:incN 0 ((dL.map fun p=>hashInt p.1).map Int.toNat)=true:=by kernel_rfl
 exact v5 (f:=Int.toNat) ((incN_lt h).2.imp Nat.ne_of_lt)
theorem enL_append:∀(t:Nat) (a b:List (Int × Str)),enL t (a++b)=enL t a++enL (t+3*a.length) b
 |t,[],b=>rfl
 |t,p::a,b=>by
  rw[List.cons_append,enL,enL_append (t+3) a b,enL,List.cons_append,List.length_cons]
  congr 3
  omega
theorem deN_next(j:Nat)(hj:j < 37):enL 263 (dL.take (17*(j+1)))++enL (263+51*(j+1)) ((dL.drop (17*(j+1))).take 17)=enL 263 (dL.take (17*(j+2))):=by
 have e:dL.take (17*(j+2))=dL.take (17*(j+1))++(dL.drop (17*(j+1))).take 17:=by
  rw[show 17*(j+2)=17*(j+1)+17 by omega,List.take_add]
 have el:(dL.take (17*(j+1))).length=17*(j+1):=by rw[List.length_take,uK];omega
 rw[e,enL_append,el,show 263+3*(17*(j+1))=263+51*(j+1) by omega]
def ddH(h:Heap):Nat→Heap
 |0=>h.push (deN 17)
 |j+1=>((ddH h j).push (deO (j+1))).update 40 fun _=>deN (17*(j+2))
section
variable {h:Heap} (hs:h.objs.size=40)
include hs
theorem w0:∀j,(ddH h j).objs.size=41+j
 |0=>by rw[ddH,Heap.size_push,hs]
 |j+1=>by rw[ddH,Heap.size_update,Heap.size_push,w0 j];omega
theorem ddH_get:∀j,(ddH h j).get? 40=some (deN (17*(j+1)))
 |0=>by
  have:=yx (h:=h) (o:=deN 17) rfl
  rw[hs] at this
  exact this
 |j+1=>by
  rw[ddH]
  refine get_upd (o:=deN (17*(j+1))) ?_ rfl
  have hne:40≠(ddH h j).objs.size:=by rw[w0 hs];omega
  rw[Heap.get?_push_ne _ _ _ hne]
  exact ddH_get j
end
section
variable {w:World} {h:Heap} {gens:Array GenState} {drawn:Drawn} {os:OsState} (hs:h.objs.size=40)
include hs
theorem cs_loop{r:DdS}{s':Shared}(hr:CS w (forIn ((dL.drop 646).map itm) (some 40,[]) ddX.1.1) ⟨ddH h 37,gens,drawn,2201,os⟩ r s'):∀(k j:Nat),j+k=37→CS w (forIn ((dL.drop (17*(j+1))).map itm) (some 40,[]) ddX.1.1) ⟨ddH h j,gens,drawn,263+51*(j+1),os⟩ r s'
 |0,j,hj=>by
  have:j=37:=by omega
  subst this
  exact hr
 |k+1,j,hj=>by
  have ih:=cs_loop hr k (j+1) (by omega)
  have e:dL.drop (17*(j+1))=(dL.drop (17*(j+1))).take 17++dL.drop (17*(j+2)):=by
   rw[show 17*(j+2)=17*(j+1)+17 by omega,←List.drop_drop,List.take_append_drop]
  have hl:((dL.drop (17*(j+1))).take 17).length=17:=by rw[List.length_take,List.length_drop,uK];omega
  rw[e,List.map_append]
  have hn:((enL 263 (dL.take (17*(j+1)))).map (·.hash)++((dL.drop (17*(j+1))).take 17).map fun p=>hashInt p.1).Nodup:=by
   rw[uf,←List.map_append]
   have e2:dL=(dL.take (17*(j+1))++(dL.drop (17*(j+1))).take 17)++dL.drop (17*(j+2)):=by
    rw[List.append_assoc,←e,List.take_append_drop]
   have hd:=dL_nodup
   rw[e2,List.map_append] at hd
   exact(List.nodup_append.mp hd).1
  have hlen:(enL 263 (dL.take (17*(j+1)))).length=17*(j+1):=by rw[ue,List.length_take,uK];omega
  refine cs_next (es:=enL 263 (dL.take (17*(j+1)))) (n:=17*(j+1)) hl (by show 11≤(ddH h j).objs.size;rw[w0 hs];omega) (by decide) (ddH_get hs j) (by
   intro q;rw[q] at hlen;simp at hlen) (by rw[hlen];omega) (by
   show ((ddH h j).objs.size==sysModules)=false
   rw[w0 hs]
   exact beq_eq_false_iff_ne.mpr (by unfold sysModules;omega)) hn ?_
  have e3:z8 { (⟨ddH h j,gens,drawn,263+51*(j+1),os⟩:Shared) with heap:=(ddH h j).push (zR (enL (263+51*(j+1)) ((dL.drop (17*(j+1))).take 17)) 17),toks:=263+51*(j+1)+51 } 40 (enL 263 (dL.take (17*(j+1)))++enL (263+51*(j+1)) ((dL.drop (17*(j+1))).take 17)) (17*(j+1)+17)=⟨ddH h (j+1),gens,drawn,263+51*(j+2),os⟩:=by
   unfold z8
   dsimp only
   rw[deN_next j (by omega),show 17*(j+1)+17=17*(j+2) by omega,show 263+51*(j+1)+51=263+51*(j+2) by omega]
   rfl
  rw[e3]
  exact ih
theorem cs_table:CS w (forIn ddI (none,[]) ddX.1.1 >>= ddX.1.2) ⟨h,gens,drawn,263,os⟩ (.ref 40) ⟨((ddH h 37).push deS).update 40 fun _=>deM,gens,drawn,2213,os⟩:=by
 have hl4:(dL.drop 646).length=4:=by rw[List.length_drop,uK]
 have hlen:(enL 263 (dL.take 646)).length=646:=by rw[ue,List.length_take,uK];rfl
 have hn:((enL 263 (dL.take 646)).map (·.hash)++(enV 2201 (dL.drop 646)).map (·.hash)).Nodup:=by
  rw[uf,enV_hash,←List.map_append,List.take_append_drop]
  exact dL_nodup
 have hn4:((dL.drop 646).map fun p=>hashInt p.1).Nodup:=by rw[←enV_hash 2201];exact(List.nodup_append.mp hn).2.1
 refine CS.bind (a:=(some 40,(dL.drop 646).map pr)) (s₁:=⟨ddH h 37,gens,drawn,2201,os⟩) ?_ ?_
 ·rw[ddI_eq]
  have e':dL.map itm=(dL.take 17).map itm++(dL.drop 17).map itm:=by rw[←List.map_append,List.take_append_drop]
  have e:dL=dL.take 17++dL.drop 17:=(List.take_append_drop _ _).symm
  rw[e']
  refine cs_first (by rw[List.length_take,uK];rfl) (by show 11≤h.objs.size;rw[hs];decide) (by
   have hd:=dL_nodup
   rw[e,List.map_append] at hd
   exact(List.nodup_append.mp hd).1) ?_
  show CS w (forIn ((dL.drop 17).map itm) (some h.objs.size,[]) ddX.1.1) _ _ _
  rw[hs]
  refine cs_loop (r:=(some 40,(dL.drop 646).map pr)) hs ?_ 37 0 rfl
  exact cs_rest (dL.drop 646) [] (by rw[hl4];decide)
 ·have hsz:(ddH h 37).objs.size=78:=w0 hs 37
  have hget:(ddH h 37).get? 40=some (zR (enL 263 (dL.take 646)) 646):=ddH_get hs 37
  have hS:deS=zR (enV 2201 (dL.drop 646)) 4:=rfl
  have hM:deM=zR (enL 263 (dL.take 646)++enV 2201 (dL.drop 646)) 650:=rfl
  generalize deS=S at hS ⊢
  generalize deM=M at hM ⊢
  generalize ddH h 37=H at hsz hget ⊢
  generalize dL.drop 646=l4 at hl4 hn hn4 hS hM ⊢
  generalize enL 263 (dL.take 646)=es at hlen hn hget hM ⊢
  subst hS hM
  have hsub:=cs_subS (w:=w) (s:=⟨H,gens,drawn,2201,os⟩) (l:=l4) (by rw[hl4];decide) (by show 11≤H.objs.size;rw[hsz];decide) hn4
  rw[hl4] at hsub
  have hm:=cs_merge (w:=w) (s:=⟨H.push (zR (enV 2201 l4) 4),gens,drawn,2213,os⟩) (a:=H.objs.size) (d:=40) (L:=enV 2201 l4) (m:=4) (es:=es) (n:=646) (by decide) (by rw[hsz];decide) (by rw[hsz];rfl) (by intro q;rw[q] at hlen;cases hlen) (enV_key _ _) (yx rfl) (by
   show (H.push _).get? 40=_
   rw[Heap.get?_push_ne _ _ _ (by rw[hsz];decide)];exact hget) (by rw[hlen,enV_len,hl4];decide) hn
  have e:(646:Nat)+(enV 2201 l4).length=650:=by rw[enV_len,hl4]
  rw[e] at hm
  exact cs_post (by intro q;have:=congrArg List.length q;rw[List.length_map,hl4] at this;cases this) hsub hm
end
theorem goD_eq{tb:String→Option Builtin}{p:Program}{w:World}{n₀:Nat}{ann:Option Value}{b:Nat}:∀(n:Nat) (s:SharedT) (t:Thread),goD (denote tb) p w n₀ ann b n s t=segGoT tb p w n₀ ann b n s t
 |0,_,_=>rfl
 |n+1,s,t=>by
  unfold goD segGoT
  cases endAt b t with
  |some f=>rfl
  |none=>
   cases stepOk n₀ ann t with
   |false=>rfl
   |true=>
    cases stepT (denote tb) p w s t with
    |none=>rfl
    |some r=>exact goD_eq n r.1 r.2
theorem Go.tree{w:World}{s s':SharedT}{t t':Thread}(n:Nat)(h:hGo w n s t=some (s',t')):Go w s.abs t s'.abs t':=⟨n,by
 unfold hGo at h
 rw[vc,goD_eq] at h
 exact segGo_of h⟩
def h4S:HSt:=⟨1,11,2,79,2213⟩
theorem h4_in(w:World)(os:OsState):hGo w 2 ((hSt 4).at w.params os) ⟨(PySem.exec (zs 4) vg).wrap doneF deadEnd id id,hC,wy 4,tF⟩=some ((hSt 4).at w.params os,ddTh):=by kernel_rfl
theorem h4_heap(P:Params):(((ddH (absHeap ((hSt 4).tree P) 40 (boot_heap P).life) 37).push deS).update 40 fun _=>deM)=absHeap (h4S.tree P) 79 (boot_heap P).life:=by kernel_rfl
theorem h4_out(w:World)(os:OsState)(pos:Pos):segD zx progP w 11 none 1 9 (h4S.at w.params os) ⟨(ddG (.ref 40)).wrap doneF deadEnd id id,hC,pos,tF⟩=yw w os 5:=by kernel_rfl
def topD(den:Code→Sem PySem.Fin)(p:Program)(w:World)(n₀:Nat)(ann:Option Value):Nat→Shared→Thread→Option (Shared × Thread)
 |0,s,t=>some (s,t)
 |n+1,s,t=>match through t with
  |true=>none
  |false=>match stepOk n₀ ann t with
   |false=>none
   |true=>match step den p w s t with
    | .go s' t'=>topD den p w n₀ ann n s' t'
    | .halt _ _=>none
theorem topD_eq{tb:String→Option Builtin}{p:Program}{w:World}{n₀:Nat}{ann:Option Value}:∀(n:Nat) (s:Shared) (t:Thread),topD (denote tb) p w n₀ ann n s t=topGo tb p w n₀ ann n s t
 |0,_,_=>rfl
 |n+1,s,t=>by
  unfold topD topGo
  cases through t with
  |true=>rfl
  |false=>
   cases stepOk n₀ ann t with
   |false=>rfl
   |true=>
    cases step (denote tb) p w s t with
    |halt o s=>rfl
    |go s' t'=>exact topD_eq n s' t'
def hBoot(P:Params)(os:OsState):Shared:=⟨boot_heap P,Array.mk [],boot_drawn,boot_toks,os⟩
theorem h_pre(w:World)(os:OsState):topD zx progP w 11 none 12 (hBoot w.params os) (topStub progP)=some (((hSt 0).at w.params os).abs,⟨zx hC,hC,wy 0,tF⟩):=by kernel_rfl
theorem h_block(w:World)(s:Shared):segRun treeTable progP w 11 none 1 1 s (blockOf progP.main.body vg hC (wy 0) tF)=some (.next,s,hC,wy 0):=by kernel_rfl
theorem h_fin(w:World)(s:Shared)(pos:Pos):topRun treeTable progP w 11 none 2 s ⟨doneF .next,hC,pos,tF⟩=some s:=by
 obtain⟨heap,gens,drawn,toks,os⟩:=s
 kernel_rfl
theorem h_body:progP.main.body=(List.range 28).map zs:=by kernel_rfl
def hH(P:Params):Heap:=absHeap ((hSt 28).tree P) 363 (boot_heap P).life
theorem u_mods:importedModules progP.main.body=[]:=by kernel_rfl
theorem u_isg(P:Params):((boot_heap P).isNs mainGlobals && (hH P).isNs mainGlobals)=true:=by kernel_rfl
theorem u_isb(P:Params):(hH P).isNs builtinsNs=true:=by kernel_rfl
theorem u_laid(P:Params):laidKept (boot_heap P) (hH P)=true:=by kernel_rfl
theorem u_names(P:Params):namesBound progP (hH P)=true:=by kernel_rfl
theorem u_stat(P:Params):staticsOk [] (boot_heap P) (hH P)=true:=by kernel_rfl
theorem u_acc(P:Params):(hH P).accountedOkI []=true:=by kernel_rfl
theorem u_blt(P:Params):(hH P).bltView=bltViewBooted:=by kernel_rfl
theorem u_bmain(P:Params):(hH P).bmainOk=true:=by kernel_rfl
end Mine
end
noncomputable section
open PySem PySem.W
namespace Mine
def z5(V:TopV)(ad:Addr)(xs:Array Value)(ep:Nat):Obj:=⟨.ref (V.av 322),some ad,.seq xs ep,#[]⟩
def sInitial:Str:=⟨#[95,105,110,105,116,105,97,108,95,115,105,122,101]⟩
def wt(P:Params)(t:Tok)(n:Int)(tn:Tok)(ep:Nat):Obj:=⟨.type "dict", none,.dict #[⟨PyData.keyHash P sInitial,.str sInitial t,.int n tn⟩] ep,#[]⟩
def vd(F:Str)(tF:Tok)(S:Str)(tS:Tok):Obj:=⟨.type "tuple", none,.seq #[.str F tF,.str S tS] 0,#[]⟩
end Mine
end
noncomputable section
open PyProof.Rows PySem PySem.W
set_option maxRecDepth 100000
namespace Mine
structure IsL (s:Shared) (a:Addr) (o:Obj):Prop where
 get:s.heap.get? a=some o
 cls:o.cls=.type "list" ∨∃c oc cd,o.cls=.ref c∧s.heap.get? c=some oc∧oc.data=.cls cd∧cd.mro.isEmpty=false∧cd.mro.contains (.type "list")=true
theorem wpAny_isInst{M:Model}{A:Around}{E:Value→Shared→Prop}{s:Shared}{a:Addr}{o:Obj}(h:IsL s a o){Q:Bool→Shared→Prop}(hQ:Q true s) :
  wpAny M A (isInstance (.ref a) (.type "list")) Q E s:=by
 rcases h.cls with hc|⟨c,oc,cd,hc,hC,hd,hm,hl⟩
 ·exact wpAny_isInstance (T:= "list") (b:=true) ⟨o,h.get,hc⟩ AutoSeq1.sub_list_list hQ
 ·unfold isInstance
  refine wpAny_bind ?_
  show wpAny M A (loadPart a (some headPart) >>= fun o=>pure o.cls) _ _ _
  refine wpAny_bind (wpAny_loadPart h.get (wpAny_pure ?_))
  rw[hc]
  unfold isSubtype
  refine wpAny_bind ?_
  show wpAny M A (classData c >>= fun d=>pure d.mro) _ _ _
  have key:∀{Q':ClassData→Shared→Prop},Q' cd s→wpAny M A (classData c) Q' E s:=fun hq=>by
   unfold classData
   refine wpAny_bind (wpAny_load hC ?_)
   rw[hd];exact wpAny_pure hq
  refine wpAny_bind (key (wpAny_pure ?_))
  dsimp only
  rw[hm]
  simp only[Bool.false_eq_true,if_false]
  rw[hl];exact wpAny_pure hQ
theorem codeAny_callL{w:World}{prog:Program}{A:Around}{s:Shared}{R:Result→Shared→Prop}{id n:String}{b:Builtin}{a:Addr}{o:Obj}{rest:List Value}
  (hk:builtinKind id=some .slot∨builtinKind id=some .method) (hs:splitId id=some ("list", n)) (hq:plainId id=true) (hb:entryFor table id=some b)
  (ha:argsOk id ⟨.ref a::rest,[]⟩) (hL:IsL s a o)
  (h:wpAny (model prog w) A.in1 (b ⟨.ref a::rest,[]⟩) (fun fin s'=>match fin with | .done f=>R (.ok f) s' | .again c'=>c'.quiet=true∧codeAny (model prog w) A c' R s') (fun e s'=>R (.error e) s') s) :
  codeAny (model prog w) A (.call (.builtin id) ⟨.ref a::rest,[]⟩) R s:=by
 refine codeAny_call_builtin hq hb ?_
 rcases hk with hk|hk <;>
 ·simp only[checkBuiltinCall,hk,hs]
  refine wpAny_bind (wpAny_isInst hL ?_)
  simp only[Bool.not_true,Bool.false_eq_true,if_false]
  cases hsig:Manifest.signature? id with
  |none=>exact wpAny_pure h
  |some sig=>
   simp only[argsOk,hsig] at ha
   show wpAny _ _ (Bind.checkArgs id sig ⟨.ref a::rest,[]⟩) _ _ s
   rw[ha];exact wpAny_pure h
theorem Eff.none{s:Shared}{tk:Nat}{objs gs}:Eff s { s with toks:=tk } objs gs [] [] []:=
 ⟨fun _ _ h _=>h,fun p hp=>by simp at hp,fun p hp=>by simp at hp,List.nodup_nil,fun _ _ h _=>h,id,rfl⟩
theorem Eff.push{s:Shared}{tk:Nat}{objs gs}{o:Obj}(ho:o.isFreed=false):Eff s { s with heap:=s.heap.push o,toks:=tk } objs gs [] [s.heap.objs.size] [o]:=
 ⟨fun _ _ h _=>Heap.get?_push_of_some _ h,fun p hp=>by simp at hp,fun p hp=>by
  simp only[List.zip_cons_cons,List.zip_nil_right,List.mem_singleton] at hp
  subst hp;exact Heap.get?_push_size _ ho,by simp,fun _ _ h _=>h,id,rfl⟩
theorem Eff.push2{s:Shared}{tk:Nat}{objs gs}{o o':Obj}(ho:o.isFreed=false)(ho':o'.isFreed=false) :
  Eff s { s with heap:=(s.heap.push o).push o',toks:=tk } objs gs [] [s.heap.objs.size,s.heap.objs.size+1] [o,o']:=
 ⟨fun _ _ h _=>Heap.get?_push_of_some _ (Heap.get?_push_of_some _ h),fun p hp=>by simp at hp,fun p hp=>by
  simp only[List.zip_cons_cons,List.zip_nil_right,List.mem_cons,List.not_mem_nil,or_false] at hp
  rcases hp with rfl|rfl
  ·exact Heap.get?_push_of_some _ (Heap.get?_push_size _ ho)
  ·have h:=Heap.get?_push_size (s.heap.push o) ho'
   rw[Heap.size_push] at h;exact h,by simp,fun _ _ h _=>h,id,rfl⟩
theorem Eff.upd{s:Shared}{tk:Nat}{a:Addr}{o o':Obj}{f:Obj→Obj}{more gs}(hg:s.heap.get? a=some o)(hf:f o=o')(ho:o'.isFreed=false) :
  Eff s { s with heap:=s.heap.update a f,toks:=tk } ((a,o)::more) gs [o'] [] []:=
 ⟨fun x o' h q=>by
  show (s.heap.update a f).get? x=_
  rw[Heap.get?_update_other _ _ (q (a,o) (by simp))];exact h,fun p hp=>by
  simp only[List.map_cons,List.zip_cons_cons,List.zip_nil_right,List.mem_singleton] at hp
  subst hp
  intro _
  show (s.heap.update a f).get? a=_
  rw[Heap.get?_update_self f hg (by rw[hf];exact ho),hf],fun p hp=>by simp at hp,List.nodup_nil,fun _ _ h _=>h,id,rfl⟩
theorem Eff.upd_push2{s:Shared}{tk:Nat}{a:Addr}{o o' o1 o2:Obj}{f:Obj→Obj}{more gs}(hg:s.heap.get? a=some o)(hf:f o=o')(ho:o'.isFreed=false)(h1:o1.isFreed=false)(h2:o2.isFreed=false) :
  Eff s { s with heap:=((s.heap.update a f).push o1).push o2,toks:=tk } ((a,o)::more) gs [o'] [s.heap.objs.size,s.heap.objs.size+1] [o1,o2]:=
 ⟨fun x o' h q=>by
  refine Heap.get?_push_of_some _ (Heap.get?_push_of_some _ ?_)
  rw[Heap.get?_update_other _ _ (q (a,o) (by simp))];exact h,fun p hp=>by
  simp only[List.map_cons,List.zip_cons_cons,List.zip_nil_right,List.mem_singleton] at hp
  subst hp
  intro _
  refine Heap.get?_push_of_some _ (Heap.get?_push_of_some _ ?_)
  rw[Heap.get?_update_self f hg (by rw[hf];exact ho),hf],fun p hp=>by
  simp only[List.zip_cons_cons,List.zip_nil_right,List.mem_cons,List.not_mem_nil,or_false] at hp
  rcases hp with rfl|rfl
  ·have h:=Heap.get?_push_size (s.heap.update a f) h1
   rw[Heap.size_update] at h
   exact Heap.get?_push_of_some _ h
  ·have h:=Heap.get?_push_size ((s.heap.update a f).push o1) h2
   rw[Heap.size_push,Heap.size_update] at h;exact h,by simp,fun _ _ h _=>h,id,rfl⟩
def isLB(cls:Value)(more:List (Addr × Obj)):Option (Lg × List (Addr × Obj)):=match cls with
 | .type n=>match idB n 1970563693 with
  |true=>some ([],more)
  |false=>none
 | .ref c=>match more with
  |(y,⟨_,_,.cls cd,_⟩)::others=>match cd.mro with
   | .ref _::.type n::_=>match idB n 1970563693 with
    |true=>some ([(.n c,.n y)],others)
    |false=>none
   | _=>none
  | _=>none
 | _=>none
theorem uL:S.codeS "list" = 1970563693:=by decide +kernel
theorem isLB_ok{s:Shared}{a:Addr}{o:Obj}{more others:List (Addr × Obj)}{lg:Lg}(h:isLB o.cls more=some (lg,others))(hl:Lg.Ok lg)(hg:s.heap.get? a=some o)(hm:∀p∈more,s.heap.get? p.1=some p.2) :
  IsL s a o∧∀p∈others,s.heap.get? p.1=some p.2:=by
 unfold isLB at h
 split at h
 ·rename_i n hc
  split at h
  ·rename_i hb
   simp only[Option.some.injEq,Prod.mk.injEq] at h
   obtain⟨-,rfl⟩:=h
   exact⟨⟨hg,by rw[hc,zv hb uL];exact .inl rfl⟩,hm⟩
  ·cases h
 ·rename_i c hc
  split at h
  ·rename_i y x1 x2 cd x3 oth
   split at h
   ·rename_i x4 n x5 hm'
    split at h
    ·rename_i hb
     simp only[Option.some.injEq,Prod.mk.injEq] at h
     obtain⟨rfl,rfl⟩:=h
     have e:c=y:=LV.n.inj (hl _ (.head _))
     subst e
     refine⟨⟨hg,.inr ⟨c,_,cd,hc,hm _ (.head _),rfl,?_,?_⟩⟩,fun p hp=>hm p (.tail _ hp)⟩
     ·rw[hm'];rfl
     ·rw[hm',zv hb uL];simp
    ·cases h
   ·cases h
  ·cases h
 ·cases h
structure LOut where
 val:Value
 self:Option Data
 news:List Obj
 lg:Lg
 pc:Lg
def wJ(o:Obj):Option Data→List Obj
 |some dt=>[⟨o.cls,o.dict,dt,o.slots⟩]
 |none=>[]
def lx(n m:Nat)(k:Nat→Nat)(g:Nat→List Value→Array Value→List (Addr × Obj)→List Addr→Ch→Option LOut):Ext:=⟨m,k,false,fun d c _ objs _ xs t=>match c with
 | .call (.builtin id) ⟨.ref l::rest,[]⟩=>match idB id n with
  |true=>match objs with
   |(y,⟨cls,dd,.seq vs ep,sl⟩)::more=>match isLB cls more with
    |some (lg,others)=>match g d rest vs others xs t with
     |some r=>some ⟨.ok (.ret r.val),wJ ⟨cls,dd,.seq vs ep,sl⟩ r.self,r.news,(.n l,.n y)::(r.lg++lg),r.pc⟩
     |none=>none
    |none=>none
   | _=>none
  |false=>none
 | _=>none⟩
theorem lx_ok{w:World}{tl:zh}{n m:Nat}{k:Nat→Nat}{g:Nat→List Value→Array Value→List (Addr × Obj)→List Addr→Ch→Option LOut}{id nm:String}{b:Builtin}(hs:S.codeS id=n)
  (hk:builtinKind id=some .slot∨builtinKind id=some .method) (hsp:splitId id=some ("list", nm)) (hq:plainId id=true) (hb:entryFor table id=some b)
  (H:∀(prog:Program) (A:Around) (s:Shared) (d:Nat) (rest:List Value) (a:Addr) (cls:Value) (dd:Option Addr) (vs:Array Value) (ep:Nat) (sl:Array (Option Value)) (others:List (Addr × Obj)),
   IsL s a ⟨cls,dd,.seq vs ep,sl⟩→(∀p∈others,s.heap.get? p.1=some p.2)→∃(xs:List Addr) (t:Ch),xs.length=k d∧(∀y∈xs,s.heap.objs.size≤y)∧∀r,g d rest vs others xs t=some r→Lg.Ok r.lg→Lg.Ok r.pc→
    argsOk id ⟨.ref a::rest,[]⟩∧∃s',wpAny (model prog w) A (b ⟨.ref a::rest,[]⟩) (fun fin s₁=>fin=.done (.ret r.val)∧s₁=s') (fun _ _=>False) s∧
     ∀more gs,Eff s s' ((a,⟨cls,dd,.seq vs ep,sl⟩)::more) gs (wJ ⟨cls,dd,.seq vs ep,sl⟩ r.self) xs r.news):zH w tl (lx n m k g):=by
 intro prog s d c wh objs gs hm hg _ _
 by_cases hh:∃(l:Addr) (rest:List Value) (y:Addr) (cls:Value) (dd:Option Addr) (vs:Array Value) (ep:Nat) (sl:Array (Option Value)) (more:List (Addr × Obj)) (lg:Lg) (others:List (Addr × Obj)),
   c=.call (.builtin id) ⟨.ref l::rest,[]⟩∧objs=(y,⟨cls,dd,.seq vs ep,sl⟩)::more∧isLB cls more=some (lg,others)∧l=y∧Lg.Ok lg
 ·obtain⟨l,rest,y,cls,dd,vs,ep,sl,more,lg,others,rfl,rfl,hB,rfl,hlg⟩:=hh
  obtain⟨hL,hO⟩:=isLB_ok (o:=⟨cls,dd,.seq vs ep,sl⟩) hB hlg (hg _ (.head _)) fun p hp=>hg p (.tail _ hp)
  obtain⟨xs,t,hx,hf,H'⟩:=H prog (yf wh).in1 s d rest l cls dd vs ep sl others hL hO
  refine⟨xs,t,hx,hf,fun r hr hl hp=>?_⟩
  simp only[lx] at hr
  split at hr<;>try(cases hr;done)
  rw[hB] at hr
  dsimp only at hr
  split at hr<;>try(cases hr;done)
  rename_i r' hr'
  simp only[Option.some.injEq] at hr
  subst hr
  obtain⟨ha,s',hw,hE⟩:=H' r' hr' (fun p q=>hl p (.tail _ (List.mem_append_left _ q))) hp
  exact⟨s',codeAny_callL hk hsp hq hb ha hL (wpAny_mono hw (fun fin s₁ h=>by obtain⟨rfl,rfl⟩:=h;exact⟨rfl,rfl⟩) fun _ _ h=>h.elim),hE _ _⟩
 ·refine⟨(List.range (k d)).map (s.heap.objs.size+·),.of 0,by simp;rfl,fun z hz=>by
   obtain⟨i,_,rfl⟩:=List.mem_map.mp hz;exact Nat.le_add_right _ _,fun r hr hl hp=>?_⟩
  simp only[lx] at hr
  split at hr<;>try(cases hr;done)
  rename_i id' l rest
  split at hr<;>try(cases hr;done)
  rename_i hid
  have hid:=zv hid hs
  subst hid
  split at hr<;>try(cases hr;done)
  rename_i y cls dd vs ep sl more
  split at hr<;>try(cases hr;done)
  rename_i lg others hB
  split at hr<;>try(cases hr;done)
  rename_i r' hr'
  simp only[Option.some.injEq] at hr
  subst hr
  exact absurd ⟨l,rest,y,cls,dd,vs,ep,sl,more,lg,others,rfl,rfl,hB,LV.n.inj (hl _ (.head _)),fun p q=>hl p (.tail _ (List.mem_append_right _ q))⟩ hh
theorem yu:1000 < sizeLine:=by rw[sizeLine_eq];decide
def small(n:Nat):LV × LV:=(.b (decide (n≤1000)),.b true)
theorem yK{n:Nat}{l:Lg}(h:Lg.Ok l)(hm:small n∈l):n≤sizeLine:=by
 have:=of_decide_eq_true (LV.b.inj (h _ hm))
 have:=yu
 omega
theorem zw{s:Shared}:∀y∈([]:List Addr),s.heap.objs.size≤y:=fun y hy=>by cases hy
theorem yo{s:Shared}:∀y∈[s.heap.objs.size],s.heap.objs.size≤y:=fun y hy=>by
 rw[List.mem_singleton] at hy;subst hy;exact Nat.le_refl _
def zD(m:Nat):Ext:=lx 122627580202994350266018413 m (fun _=>0) fun _ rest vs _ _ t=>match rest with
 |[v]=>some ⟨.none,some (.seq (vs.push v) (t.tok 0)),[],[],[small vs.size]⟩
 | _=>none
theorem zI{w:World}{tl:zh}{m:Nat}:zH w tl (zD m):=by
 refine lx_ok (id:= "list.append") (nm:= "append") (by decide +kernel) (.inr (by decide +kernel)) (by decide +kernel) (by decide +kernel) entry_list_append ?_
 intro prog A s d rest a cls dd vs ep sl others hL hO
 refine⟨[],.of (ep+1),rfl,zw,fun r hr hl hp=>?_⟩
 split at hr<;>try(cases hr;done)
 rename_i v
 simp only[Option.some.injEq] at hr
 subst hr
 have hsz:=yK hp (.head _)
 refine⟨args_list_append _ _,{ s with heap:=s.heap.update a (Obj.mapSeq (·.push v)) },?_,fun more gs=>Eff.upd (tk:=s.toks) hL.get (by simp[Obj.mapSeq,Ch.of]) rfl⟩
 show wpAny _ _ (updateSeq a (·.push v) >>= fun _=>ret .none) _ _ s
 exact wpAny_bind (wpAny_updateSeq hL.get rfl (wpAny_pure ⟨rfl,rfl⟩) hsz (by rw[Array.size_push];omega))
def yU(vs:Array Value)(k:Int):Option Value:=(seqIndex? k vs.size).bind (vs[·]?)
def vD(k:Int):LV × LV:=(.b (decide (-1000≤k) && decide (k≤1000)),.b true)
theorem near_fits{k:Int}{l:Lg}(h:Lg.Ok l)(hm:vD k∈l):Builtin.List.listFitsIndex k=true:=by
 have:=LV.b.inj (h _ hm)
 simp only[Bool.and_eq_true,decide_eq_true_eq] at this
 unfold Builtin.List.listFitsIndex
 simp only[Bool.and_eq_true,decide_eq_true_eq]
 omega
def xGet(m:Nat)(v:Value):Ext:=lx 128106587276438692081757506308484131437 m (fun _=>0) fun _ rest vs _ _ t=>match rest with
 |[.int k _]=>some ⟨v,none,[],[],[(.ov (yU vs k),.ov (some v)),vD k]⟩
 | _=>none
theorem vM{w:World}{tl:zh}{m:Nat}{v:Value}:zH w tl (xGet m v):=by
 refine lx_ok (id:= "list.__getitem__") (nm:= "__getitem__") (by decide +kernel) (by first|exact .inl (by decide +kernel)|exact .inr (by decide +kernel)) (by decide +kernel) (by decide +kernel) entry_list_getitem ?_
 intro prog A s d rest a cls dd vs ep sl others hL hO
 refine⟨[],.of 0,rfl,zw,fun r hr hl hp=>?_⟩
 split at hr<;>try(cases hr;done)
 rename_i k t0
 simp only[Option.some.injEq] at hr
 subst hr
 have hv:yU vs k=some v:=LV.ov.inj (hp _ (.head _))
 have hf:=near_fits hp (.tail _ (.head _))
 refine⟨args_list_getitem _ _,s,?_,fun more gs=>Eff.none (tk:=s.toks)⟩
 show wpAny _ _ (Builtin.List.listSubscript? (.int k t0) >>= _) _ _ s
 refine wpAny_bind (wpAny_listSubscript_int hf ?_)
 cases k with
 |ofNat n=>
  have hn:vs[n]?=some v:=by
   unfold yU seqIndex? at hv
   simp only[Int.ofNat_eq_natCast] at hv
   rw[if_neg (show ¬((n:Int) < 0) by omega)] at hv
   by_cases hlt:n < vs.size
   ·rw[if_pos (by simp;omega)] at hv
    simpa using hv
   ·rw[if_neg (by simp;omega)] at hv
    cases hv
  show wpAny _ _ ((seqItemAt a n >>= fun r=>pure (r.map (n,·))) >>= _) _ _ s
  refine wpAny_bind (wpAny_bind (wpAny_seqItemAt hL.get rfl (wpAny_pure ?_)))
  rw[hn]
  first
   |exact wpAny_bind (wpAny_pure (wpAny_pure ⟨rfl,rfl⟩))
   |exact wpAny_pure ⟨rfl,rfl⟩
 |negSucc n=>
  show wpAny _ _ ((Builtin.List.listItems (.ref a) >>= fun xs=>pure ((seqIndex? (Int.negSucc n) xs.size).bind fun j=>xs[j]?.map (j,·))) >>= _) _ _ s
  refine wpAny_bind (wpAny_bind ?_)
  unfold Builtin.List.listItems
  refine wpAny_bind (wpAny_seqItems hL.get rfl (wpAny_pure (wpAny_pure ?_)))
  unfold yU at hv
  cases hi:seqIndex? (Int.negSucc n) vs.size with
  |none=>rw[hi] at hv;cases hv
  |some j=>
   rw[hi] at hv
   have hj:vs[j]?=some v:=hv
   simp only[Option.bind_some,hj,Option.map_some]
   first
    |exact wpAny_bind (wpAny_pure (wpAny_pure ⟨rfl,rfl⟩))
    |exact wpAny_pure ⟨rfl,rfl⟩
def wM:Value→Option (Option Int)
 | .none=>some none
 | .int i _=>some (some i)
 | _=>none
theorem w7:∀{v:Value} {k:Option Int},wM v=some k→IsPart v k
 | .none,_,h=>by simp only[wM,Option.some.injEq] at h;subst h;exact .none
 | .int i t,_,h=>by simp only[wM,Option.some.injEq] at h;subst h;exact .int i t
 | .ellipsis,_,h | .notImplemented,_,h | .bool _,_,h | .float ..,_,h | .str ..,_,h | .bytes ..,_,h | .type _,_,h | .builtin _,_,h | .ref _,_,h=>by simp[wM] at h
theorem xM{M:Model}{A:Around}{E:Value→Shared→Prop}{s:Shared}{sl:Addr}{os:Obj}{vl vu:Value}{lo hi:Option Int}{Q:Value × Value × Value→Shared→Prop}(hos:s.heap.get? sl=some os)
  (hds:os.data=.fields #[vl,vu,.none]) (pl:IsPart vl lo) (pu:IsPart vu hi) (h:Q (rawPart lo,rawPart hi,.none) s):wpAny M A (Builtin.List.listSliceParts (.ref sl)) Q E s:=by
 rw[listSliceParts_eq]
 refine wpAny_bind (wpAny_field hos hds (x:=.none) rfl (wpAny_bind (wpAny_listPart .none ?_)))
 rw[if_neg (show ¬((rawPart none==rawInt 0)=true) from Bool.false_ne_true)]
 refine wpAny_bind (wpAny_field hos hds (x:=vl) rfl (wpAny_bind (wpAny_listPart pl ?_)))
 exact wpAny_bind (wpAny_field hos hds (x:=vu) rfl (wpAny_bind (wpAny_listPart pu (wpAny_pure h))))
def uO(m:Nat)(ys:Array Value):Ext:=lx 128106587276438692081757506308484131437 m (fun _=>1) fun _ rest vs others xs t=>match rest with
 |[.ref z]=>match others with
  |(z',⟨.type n,_,.fields ⟨[vl,vu,.none]⟩,_⟩)::_=>match idB n 439771360628 with
   |true=>match wM vl with
    |some lo=>match wM vu with
     |some hi=>match xs with
      |[x]=>some ⟨.ref x,none,[⟨.type "list", none,.seq ys 0,#[]⟩],[(.n z,.n z')],[(.a (slicePick vs lo hi none),.a ys),small vs.size]⟩
      | _=>none
     |none=>none
    |none=>none
   |false=>none
  | _=>none
 | _=>none
theorem xL{w:World}{tl:zh}{m:Nat}{ys:Array Value}:zH w tl (uO m ys):=by
 refine lx_ok (id:= "list.__getitem__") (nm:= "__getitem__") (by decide +kernel) (by first|exact .inl (by decide +kernel)|exact .inr (by decide +kernel)) (by decide +kernel) (by decide +kernel) entry_list_getitem ?_
 intro prog A s d rest a cls dd vs ep sl others hL hO
 refine⟨[s.heap.objs.size],.of 0,rfl,yo,fun r hr hl hp=>?_⟩
 split at hr<;>try(cases hr;done)
 rename_i z
 split at hr<;>try(cases hr;done)
 rename_i z' n x1 vl vu x2 more
 split at hr<;>try(cases hr;done)
 rename_i hn
 have hn:=zv hn (s:= "slice") (by decide +kernel)
 subst hn
 split at hr<;>try(cases hr;done)
 rename_i lo hlo
 split at hr<;>try(cases hr;done)
 rename_i hi hhi
 simp only[Option.some.injEq] at hr
 subst hr
 have e:z=z':=LV.n.inj (hl _ (.head _))
 subst e
 have hy:slicePick vs lo hi none=ys:=LV.a.inj (hp _ (.head _))
 have hsz:=yK hp (.tail _ (.head _))
 have hos:=hO _ (.head _)
 have hTs:s.TypeIs (.ref z) "slice" :=⟨_,hos,rfl⟩
 refine⟨args_list_getitem _ _,{ s with heap:=s.heap.push { cls:=.type "list", data:=.seq ys } },?_,fun more gs=>Eff.push (tk:=s.toks) rfl⟩
 show wpAny _ _ (Builtin.List.listSubscript? (.ref z) >>= _) _ _ s
 refine wpAny_bind ?_
 unfold Builtin.List.listSubscript?
 refine wpAny_bind (wpAny_specialOf hTs slice_no_index ?_)
 simp only[Option.isNone_none,if_true]
 refine wpAny_pure ?_
 show wpAny _ _ (typeOf (.ref z) >>= _) _ _ s
 refine wpAny_bind (wpAny_typeOf hTs ?_)
 rw[if_neg (by decide)]
 refine wpAny_bind (xM hos rfl (w7 hlo) (w7 hhi) ?_)
 refine wpAny_bind (m:=Builtin.List.listItems (.ref a)) ?_
 unfold Builtin.List.listItems
 refine wpAny_bind (wpAny_seqItems hL.get rfl (wpAny_pure ?_))
 refine wpAny_bind (wpAny_of_eq (sliceIndices_raw lo hi none vs.size (by simp)) ?_)
 refine wpAny_bind (wpAny_newObj_type (wpAny_pure ⟨rfl,?_⟩) (Nat.le_trans (slicePick_size_le vs lo hi none) hsz))
 rw[←hy];rfl
def isRefB:Value→Bool
 | .ref _=>true
 | _=>false
def y4(vs new:Array Value)(lo hi:Option Int):Array Value:=
 vs.extract 0 (sliceBounds lo hi none vs.size).1.toNat++new++vs.extract (max (sliceBounds lo hi none vs.size).1 (sliceBounds lo hi none vs.size).2.1).toNat vs.size
def xSetS(m:Nat)(ys:Array Value):Ext:=lx 128106587276438692082622197436939266669 m (fun _=>0) fun _ rest vs others xs t=>match rest with
 |[.ref z,.ref v]=>match others with
  |[(z',⟨.type n,_,.fields ⟨[vl,vu,.none]⟩,_⟩),(v',⟨.type n2,_,.seq new _,_⟩)]=>match idB n 439771360628 with
   |true=>match idB n2 1970563693 with
    |true=>match wM vl with
     |some lo=>match wM vu with
      |some hi=>some ⟨.none,some (.seq ys (t.tok 0)),[],[(.n z,.n z'),(.n v,.n v')],[(.a (y4 vs new lo hi),.a ys),small vs.size,small new.size,small ys.size]⟩
      |none=>none
     |none=>none
    |false=>none
   |false=>none
  | _=>none
 | _=>none
theorem xSetS_ok{w:World}{tl:zh}{m:Nat}{ys:Array Value}:zH w tl (xSetS m ys):=by
 refine lx_ok (id:= "list.__setitem__") (nm:= "__setitem__") (by decide +kernel) (by first|exact .inl (by decide +kernel)|exact .inr (by decide +kernel)) (by decide +kernel) (by decide +kernel) entry_list_setitem ?_
 intro prog A s d rest a cls dd vs ep sl others hL hO
 refine⟨[],.of (if ys.size==vs.size then ep else ep+1),rfl,zw,fun r hr hl hp=>?_⟩
 split at hr<;>try(cases hr;done)
 rename_i z v
 split at hr<;>try(cases hr;done)
 rename_i z' n x1 vl vu x2 v' n2 x3 new x4 x5
 split at hr<;>try(cases hr;done)
 rename_i hn
 have hn:=zv hn (s:= "slice") (by decide +kernel)
 subst hn
 split at hr<;>try(cases hr;done)
 rename_i hn2
 have hn2:=zv hn2 uL
 subst hn2
 split at hr<;>try(cases hr;done)
 rename_i lo hlo
 split at hr<;>try(cases hr;done)
 rename_i hi hhi
 simp only[Option.some.injEq] at hr
 subst hr
 have e:z=z':=LV.n.inj (hl _ (.head _))
 subst e
 have e:v=v':=LV.n.inj (hl _ (.tail _ (.head _)))
 subst e
 have hy:y4 vs new lo hi=ys:=LV.a.inj (hp _ (.head _))
 have hsz:=yK hp (.tail _ (.head _))
 have hsn:=yK hp (.tail _ (.tail _ (.head _)))
 have hsy:=yK hp (.tail _ (.tail _ (.tail _ (.head _))))
 have hz1:vs.size≤1000:=of_decide_eq_true (LV.b.inj (hp _ (.tail _ (.head _))))
 have hz2:new.size≤1000:=of_decide_eq_true (LV.b.inj (hp _ (.tail _ (.tail _ (.head _)))))
 have hos:=hO _ (.head _)
 have hov:=hO _ (.tail _ (.head _))
 have hTs:s.TypeIs (.ref z) "slice" :=⟨_,hos,rfl⟩
 have hTv:s.TypeIs (.ref v) "list" :=⟨_,hov,rfl⟩
 refine⟨args_list_setitem _ _ _,{ s with heap:=s.heap.update a (Obj.mapSeq fun xs=>xs.extract 0 (sliceBounds lo hi none vs.size).1.toNat++new++xs.extract (max (sliceBounds lo hi none vs.size).1 (sliceBounds lo hi none vs.size).2.1).toNat xs.size) },?_,fun more gs=>Eff.upd (tk:=s.toks) hL.get (by
  rw[←hy];rfl) rfl⟩
 show wpAny _ _ (Builtin.List.listSubscript? (.ref z) >>= _) _ _ s
 refine wpAny_bind ?_
 unfold Builtin.List.listSubscript?
 refine wpAny_bind (wpAny_specialOf hTs slice_no_index ?_)
 simp only[Option.isNone_none,if_true]
 refine wpAny_pure ?_
 show wpAny _ _ (typeOf (.ref z) >>= _) _ _ s
 refine wpAny_bind (wpAny_typeOf hTs ?_)
 rw[if_neg (by decide)]
 refine wpAny_bind (xM hos rfl (w7 hlo) (w7 hhi) ?_)
 have hi':∀{Q:Array Value→Shared→Prop} {E:Value→Shared→Prop},Q new s→wpAny (model prog w) A (Builtin.List.listItems (.ref v)) Q E s:=fun {Q E} hq=>by
  unfold Builtin.List.listItems
  exact wpAny_bind (wpAny_seqItems hov rfl (wpAny_pure hq))
 have hall:∀{msg:String} {Q:Array Value→Shared→Prop} {E:Value→Shared→Prop},Q new s→wpAny (model prog w) A (Builtin.List.listAllItems (.ref v) msg) Q E s:=fun {msg Q E} hq=>by
  unfold Builtin.List.listAllItems
  refine wpAny_bind (wpAny_typeOf hTv ?_)
  rw[if_pos (by decide)]
  exact hi' hq
 have h1:(sliceBounds lo hi none vs.size).2.2=1:=rfl
 split
 all_goals
  first
   |refine wpAny_bind (hi' ?_)
   |refine wpAny_bind (hall ?_)
  refine wpAny_bind (m:=Builtin.List.listItems (.ref a)) ?_
  unfold Builtin.List.listItems
  refine wpAny_bind (wpAny_seqItems hL.get rfl (wpAny_pure ?_))
  refine wpAny_bind (wpAny_of_eq (sliceIndices_raw lo hi none vs.size (by simp)) ?_)
  rw[if_pos (by rw[h1];rfl)]
  refine wpAny_bind (wpAny_rule ?_)
  rw[if_neg (by
   unfold Builtin.List.listTooLong
   rw[sizeLine_eq]
   simp only[decide_eq_true_eq]
   omega)]
  refine wpAny_bind (wpAny_updateSeq hL.get rfl ?_ hsz (Nat.le_trans (Nat.le_of_eq (show _=ys.size from congrArg Array.size hy)) (Nat.le_succ_of_le hsy)))
  refine wpAny_bind (wpAny_letGo ?_)
  exact wpAny_pure ⟨rfl,rfl⟩
structure BOut where
 res:Result
 self:Option Data
 news:List Obj
 lg:Lg
 pc:Lg
def bx(n tn m:Nat)(k:Nat→Nat)(g:Nat→List Value→Obj→List (Addr × Obj)→List Addr→Ch→Option BOut):Ext:=⟨m,k,false,fun d c _ objs _ xs t=>match c with
 | .call (.builtin id) ⟨.ref l::rest,[]⟩=>match idB id n with
  |true=>match objs with
   |(y,⟨.type T,dd,dt,sl⟩)::others=>match idB T tn with
    |true=>match g d rest ⟨.type T,dd,dt,sl⟩ others xs t with
     |some r=>some ⟨r.res,wJ ⟨.type T,dd,dt,sl⟩ r.self,r.news,(.n l,.n y)::r.lg,r.pc⟩
     |none=>none
    |false=>none
   | _=>none
  |false=>none
 | _=>none⟩
theorem bx_ok{w:World}{tl:zh}{n tn m:Nat}{k:Nat→Nat}{g:Nat→List Value→Obj→List (Addr × Obj)→List Addr→Ch→Option BOut}{id T:String}{nm:Str}{b:Builtin}(hs:S.codeS id=n)(hT:S.codeS T=tn)
  (slot:Slot T nm id) (hb:entryFor table id=some b)
  (H:∀(prog:Program) (A:Around) (s:Shared) (d:Nat) (rest:List Value) (a:Addr) (dd:Option Addr) (dt:Data) (sl:Array (Option Value)) (others:List (Addr × Obj)),A.handled=none→
   s.heap.get? a=some ⟨.type T,dd,dt,sl⟩→(∀p∈others,s.heap.get? p.1=some p.2)→∃(xs:List Addr) (t:Ch),xs.length=k d∧(∀y∈xs,s.heap.objs.size≤y)∧∀r,g d rest ⟨.type T,dd,dt,sl⟩ others xs t=some r→Lg.Ok r.lg→Lg.Ok r.pc→
    argsOk id ⟨.ref a::rest,[]⟩∧∃s',wpAny (model prog w) A (b ⟨.ref a::rest,[]⟩) (fun fin s₁=>∃f,fin=.done f∧r.res=.ok f∧s₁=s') (fun e s₁=>r.res=.error e∧s₁=s') s∧
     ∀more gs,Eff s s' ((a,⟨.type T,dd,dt,sl⟩)::more) gs (wJ ⟨.type T,dd,dt,sl⟩ r.self) xs r.news):zH w tl (bx n tn m k g):=by
 intro prog s d c wh objs gs hm hg _ _
 by_cases hh:∃(l:Addr) (rest:List Value) (y:Addr) (dd:Option Addr) (dt:Data) (sl:Array (Option Value)) (others:List (Addr × Obj)),
   c=.call (.builtin id) ⟨.ref l::rest,[]⟩∧objs=(y,⟨.type T,dd,dt,sl⟩)::others∧l=y
 ·obtain⟨l,rest,y,dd,dt,sl,others,rfl,rfl,rfl⟩:=hh
  have ha:=hg _ (.head _)
  obtain⟨xs,t,hx,hf,H'⟩:=H prog (yf wh).in1 s d rest l dd dt sl others rfl ha (fun p hp=>hg p (.tail _ hp))
  refine⟨xs,t,hx,hf,fun r hr hl hp=>?_⟩
  simp only[bx] at hr
  split at hr<;>try(cases hr;done)
  split at hr<;>try(cases hr;done)
  split at hr<;>try(cases hr;done)
  rename_i r' hr'
  simp only[Option.some.injEq] at hr
  subst hr
  obtain⟨hargs,s',hw,hE⟩:=H' r' hr' (fun p q=>hl p (.tail _ q)) hp
  refine⟨s',codeAny_call_builtin slot.plain hb (slot.check _ _ _ _ _ _ _ _ ⟨_,ha,rfl⟩ hargs (wpAny_mono hw (fun fin s₁ h=>?_) fun e s₁ h=>?_)),hE _ _⟩
  ·obtain⟨f,rfl,e,rfl⟩:=h;exact⟨e.symm,rfl⟩
  ·exact⟨h.1.symm,h.2⟩
 ·refine⟨(List.range (k d)).map (s.heap.objs.size+·),.of 0,by simp;rfl,fun z hz=>by
   obtain⟨i,_,rfl⟩:=List.mem_map.mp hz;exact Nat.le_add_right _ _,fun r hr hl hp=>?_⟩
  simp only[bx] at hr
  split at hr<;>try(cases hr;done)
  rename_i id' l rest
  split at hr<;>try(cases hr;done)
  rename_i hid
  have hid:=zv hid hs
  subst hid
  split at hr<;>try(cases hr;done)
  rename_i y T' dd dt sl others
  split at hr<;>try(cases hr;done)
  rename_i hT'
  have hT':=zv hT' hT
  subst hT'
  split at hr<;>try(cases hr;done)
  rename_i r' hr'
  simp only[Option.some.injEq] at hr
  subst hr
  exact absurd ⟨l,rest,y,dd,dt,sl,others,rfl,rfl,LV.n.inj (hl _ (.head _))⟩ hh
def ve:Obj:=⟨.type "tuple", none,.seq #[] 0,#[]⟩
def xq(a:Addr):Obj:=⟨.type "StopIteration", none,.fields (#[.ref a,.none,.none,.none,.bool false,.none]++ownMembersOf (.type "StopIteration") []),#[]⟩
theorem xO{s:Shared}:∀y∈[s.heap.objs.size,s.heap.objs.size+1],s.heap.objs.size≤y:=fun y hy=>by
 simp only[List.mem_cons,List.not_mem_nil,or_false] at hy
 rcases hy with rfl|rfl<;>omega
def wu(m:Nat)(v:Value):Ext:=bx 36058839055461744822429329989390181918337346850548333 9146042919481958196396663532141 m (fun d=>match d with|1=>0 | _=>2) fun d rest o others xs t=>match o.data with
 | .fields ⟨[.ref l,.int i ti]⟩=>match others with
  |(l',⟨_,_,.seq vs _,_⟩)::_=>match rest with
   |[]=>match d with
    |1=>some ⟨.ok (.ret v),some (.fields #[.ref l,.int (i+1) 0]),[],[(.n l,.n l')],[(.ov vs[i.toNat]?,.ov (some v))]⟩
    | _=>match xs with
     |[x1,x2]=>some ⟨.error (.ref x2),some (.fields #[.none,.int i ti]),[ve,xq x1],[(.n l,.n l')],[(.ov vs[i.toNat]?,.ov none)]⟩
     | _=>none
   | _=>none
  | _=>none
 | _=>none
theorem xK{w:World}{tl:zh}{m:Nat}{v:Value}:zH w tl (wu m v):=by
 refine bx_ok (id:= "list_iterator.__next__") (T:= "list_iterator") (by decide +kernel) (by decide +kernel) slot_listiter_next entry_listiter_next ?_
 intro prog A s d rest a dd dt sl others hh ha hO
 by_cases hd:d=1
 ·subst hd
  refine⟨[],.of 0,rfl,zw,fun r hr hl hp=>?_⟩
  dsimp only at hr
  split at hr<;>try(cases hr;done)
  rename_i l i ti
  split at hr<;>try(cases hr;done)
  rename_i l' x1 x2 vs x3 x4 more
  split at hr<;>try(cases hr;done)
  simp only[Option.some.injEq] at hr
  subst hr
  have e:l=l':=LV.n.inj (hl _ (.head _))
  subst e
  have hv:vs[i.toNat]?=some v:=LV.ov.inj (hp _ (.head _))
  have hl':=hO _ (.head _)
  refine⟨args_listiter_next _,{ s with heap:=s.heap.update a (Obj.mapFields fun fs=>fs.setIfInBounds 1 (rawInt (i+1))) },?_,fun more gs=>Eff.upd (tk:=s.toks) ha (by simp[Obj.mapFields,rawInt]) rfl⟩
  show wpAny _ _ (field (.ref a) 0 >>= _) _ _ s
  refine wpAny_bind (wpAny_field ha rfl (x:=.ref l) rfl ?_)
  show wpAny _ _ (if (Value.ref l==Value.none)=true then _ else _) _ _ s
  rw[if_neg (show ¬((Value.ref l==Value.none)=true) from Bool.false_ne_true)]
  show wpAny _ _ (field (.ref a) 1 >>= _) _ _ s
  refine wpAny_bind (wpAny_field ha rfl (x:=.int i ti) rfl ?_)
  show wpAny _ _ (seqItems? (.ref l) >>= _) _ _ s
  refine wpAny_bind (wpAny_seqItems hl' rfl ?_)
  simp only[hv]
  exact wpAny_bind (wpAny_setField ha rfl (by simp) (wpAny_pure ⟨_,rfl,rfl,rfl⟩))
 ·refine⟨[s.heap.objs.size,s.heap.objs.size+1],.of 0,by
   split
   ·exact absurd rfl hd
   ·rfl,xO,fun r hr hl hp=>?_⟩
  dsimp only at hr
  split at hr<;>try(cases hr;done)
  rename_i l i ti
  split at hr<;>try(cases hr;done)
  rename_i l' x1 x2 vs x3 x4 more
  split at hr<;>try(cases hr;done)
  split at hr
  ·exact absurd rfl hd
  ·simp only[Option.some.injEq] at hr
   subst hr
   have e:l=l':=LV.n.inj (hl _ (.head _))
   subst e
   have hv:vs[i.toNat]?=none:=LV.ov.inj (hp _ (.head _))
   have hl':=hO _ (.head _)
   refine⟨args_listiter_next _,{ s with heap:=((s.heap.update a (Obj.mapFields fun fs=>fs.setIfInBounds 0 .none)).push ve).push (xq s.heap.objs.size) },?_,fun more gs=>Eff.upd_push2 (tk:=s.toks) ha (by simp[Obj.mapFields]) rfl rfl rfl⟩
   show wpAny _ _ (field (.ref a) 0 >>= _) _ _ s
   refine wpAny_bind (wpAny_field ha rfl (x:=.ref l) rfl ?_)
   show wpAny _ _ (if (Value.ref l==Value.none)=true then _ else _) _ _ s
   rw[if_neg (show ¬((Value.ref l==Value.none)=true) from Bool.false_ne_true)]
   show wpAny _ _ (field (.ref a) 1 >>= _) _ _ s
   refine wpAny_bind (wpAny_field ha rfl (x:=.int i ti) rfl ?_)
   show wpAny _ _ (seqItems? (.ref l) >>= _) _ _ s
   refine wpAny_bind (wpAny_seqItems hl' rfl ?_)
   simp only[hv]
   refine wpAny_bind (wpAny_rule (wpAny_bind (wpAny_setField ha rfl (by simp) ?_)))
   show wpAny _ _ (newExc (.type "StopIteration") [] >>= _) _ _ _
   refine wpAny_bind ?_
   simp only[newExc,newTuple]
   refine wpAny_bind (wpAny_newObj_type ?_ (by size_fits))
   refine wpAny_bind (m:=firstArgMember _ _) (wpAny_of_eq (a:=Value.none) (by first|rfl|(simp only[firstArgMember];rfl)) ?_)
   refine wpAny_newObj_type ?_ (by size_fits)
   simp only[raiseNew]
   refine wpAny_bind (wpAny_handled ?_)
   rw[hh]
   refine wpAny_bind (wpAny_pure (wpAny_throw ⟨?_,?_⟩))
   ·simp
   ·simp[ve,xq]
def IsSq(h:Heap)(a:Addr)(items:Array Value):Prop:=∃o n,h.get? a=some o∧o.data=.seq items n
theorem IsSq.at{h h':Heap}{a items}(x:IsSq h a items)(e:∀o,h.get? a=some o→h'.get? a=some o):IsSq h' a items:=let ⟨o,n,ho,r⟩:=x;⟨o,n,e _ ho,r⟩
theorem IsSq.extBut{h h':Heap}{a b items}(x:IsSq h a items)(hs:Heap.ExtBut b h h')(hab:a≠b):IsSq h' a items:=x.at fun o e=>hs a o hab e
section
variable {prog:Program} {w:World} {A:Around} {E:Value→Shared→Prop} {s:Shared}
theorem next_item{it l:Addr}{i:Nat}{items}{x:Value}{Q:Option Value→Shared→Prop}(hit:s.heap.IsListIter it l i)
  (hl:IsSq s.heap l items) (hx:items[i]?=some x)
  (hQ:∀h',h'.IsListIter it l (i+1)→Heap.SameBut it s.heap h'→Q (some x) { s with heap:=h' }) :
  wpAny (model prog w) A (pyNext (.ref it)) Q E s:=by
 obtain⟨o,ho,hc,hd⟩:=id hit
 obtain⟨ol,nl,hol,hdl⟩:=hl
 unfold pyNext
 refine wpAny_bind (wpAny_attempt (wpAny_callSpecial?_slot (name:=Str.ofString "__next__") hit.typeIs slot_listiter_next
  (wpAny_call_entry slot_listiter_next hit.typeIs entry_listiter_next ?_ (args_listiter_next _))))
 show wpAny _ _ (field (.ref it) 0 >>= _) _ _ s
 refine wpAny_bind (wpAny_field ho hd (x:=.ref l) rfl ?_)
 show wpAny _ _ (if (Value.ref l==Value.none)=true then _ else _) _ _ s
 rw[if_neg (show ¬((Value.ref l==Value.none)=true) from Bool.false_ne_true)]
 show wpAny _ _ (field (.ref it) 1 >>= _) _ _ s
 refine wpAny_bind (wpAny_field ho hd (x:=.int i 0) rfl ?_)
 show wpAny _ _ (seqItems? (.ref l) >>= _) _ _ s
 refine wpAny_bind (wpAny_seqItems hol hdl ?_)
 simp only[Int.toNat_natCast,hx]
 refine wpAny_bind (wpAny_setField ho hd (by simp) (wpAny_pure ⟨x,rfl,wpAny_pure (hQ _ ?_ (Heap.SameBut.update ..))⟩))
 exact⟨_,Heap.get?_update_self _ ho (Obj.isFreed_of_fields (Obj.data_mapFields hd _)),(Obj.cls_mapFields ..).trans hc,by
  rw[Obj.data_mapFields hd];simp[rawInt]⟩
theorem next_end{it l:Addr}{i:Nat}{items}{Q:Option Value→Shared→Prop}(hh:A.handled=none)
  (hit:s.heap.IsListIter it l i) (hl:IsSq s.heap l items) (hx:items[i]?=none)
  (hQ:∀h',Heap.ExtBut it s.heap h'→Q none { s with heap:=h' }):wpAny (model prog w) A (pyNext (.ref it)) Q E s:=by
 obtain⟨o,ho,hc,hd⟩:=id hit
 obtain⟨ol,nl,hol,hdl⟩:=hl
 unfold pyNext
 refine wpAny_bind (wpAny_attempt (wpAny_callSpecial?_slot (name:=Str.ofString "__next__") hit.typeIs slot_listiter_next
  (wpAny_call_entry slot_listiter_next hit.typeIs entry_listiter_next ?_ (args_listiter_next _))))
 show wpAny _ _ (field (.ref it) 0 >>= _) _ _ s
 refine wpAny_bind (wpAny_field ho hd (x:=.ref l) rfl ?_)
 show wpAny _ _ (if (Value.ref l==Value.none)=true then _ else _) _ _ s
 rw[if_neg (show ¬((Value.ref l==Value.none)=true) from Bool.false_ne_true)]
 show wpAny _ _ (field (.ref it) 1 >>= _) _ _ s
 refine wpAny_bind (wpAny_field ho hd (x:=.int i 0) rfl ?_)
 show wpAny _ _ (seqItems? (.ref l) >>= _) _ _ s
 refine wpAny_bind (wpAny_seqItems hol hdl ?_)
 simp only[Int.toNat_natCast,hx]
 refine wpAny_bind (wpAny_rule (wpAny_bind (wpAny_setField ho hd (by simp) ?_)))
 show wpAny _ _ (newExc (.type "StopIteration") [] >>= _) _ _ _
 refine wpAny_bind ?_
 simp only[newExc,newTuple]
 refine wpAny_bind (wpAny_newObj_type ?_ (by size_fits))
 refine wpAny_bind (m:=firstArgMember _ _) (wpAny_of_eq (a:=Value.none) (by first|rfl|(simp only[firstArgMember];rfl)) ?_)
 refine wpAny_newObj_type ?_ (by size_fits)
 simp only[raiseNew]
 refine wpAny_bind (wpAny_handled ?_)
 rw[show A.in1.handled=none from hh]
 refine wpAny_bind (wpAny_pure (wpAny_throw ?_))
 refine wpAny_bind (wpAny_isInstance (T:= "StopIteration") (b:=true) ⟨_,Heap.get?_push_size _ rfl,rfl⟩ isSubtype_stop ?_)
 exact wpAny_pure (hQ _ (((Heap.SameBut.update ..).extBut.push _).push _))
end
theorem walksSq{prog:Program}{w:World}{A:Around}(hh:A.handled=none)(I ax:Addr)(hne:ax≠I)(items:Array Value)(Ts:Nat→Addr)(vals:Nat→Array Value)
  (hit:∀j,j < items.size→items[j]?=some (.ref (Ts j))) (hTI:∀j,j < items.size→Ts j≠I) :
  WalksU prog w A I (I::ax::(List.range items.size).map Ts) [I] items.size (fun j v=>v=vals j)
   (fun j h=>h.IsListIter I ax j∧IsSq h ax items∧∀k,k < items.size→h.IsTuple (Ts k) (vals k))
   (fun j T h=>(j < items.size∧T=Ts j)∧h.IsListIter I ax (j+1)∧IsSq h ax items∧∀k,k < items.size→h.IsTuple (Ts k) (vals k)) where
 sub:=fun b hb=>by simp at hb;simp[hb]
 frame:=fun _ _ _ st hk=>⟨st.1.at fun o e=>hk I (by simp) o e,st.2.1.at fun o e=>hk ax (by simp) o e,
  fun k hk'=>(st.2.2 k hk').at fun o e=>hk (Ts k) (List.mem_cons_of_mem _ (List.mem_cons_of_mem _ (List.mem_map.mpr ⟨k,List.mem_range.mpr hk',rfl⟩))) o e⟩
 item:=fun i s Q E hi st hQ=>by
  refine next_item st.1 st.2.1 (x:=.ref (Ts i)) (hit i hi) fun h' hit' hs'=>?_
  have tup:∀k,k < items.size→h'.IsTuple (Ts k) (vals k):=fun k hk'=>(st.2.2 k hk').extBut hs'.extBut (hTI k hk')
  exact hQ (Ts i) (vals i) h' s.toks rfl (tup i hi) ⟨⟨hi,rfl⟩,hit',st.2.1.extBut hs'.extBut hne,tup⟩ fun b o hb e=>hs'.extBut b o (fun h=>hb (by simp[h])) e
 go:=fun _ _ _ _ _ s Q _ hm hQ=>wpAny_letOwnedTupleGo_listiter hm.2.1 (hQ s.heap hm.2 fun _ _ _ e=>e)
 apart:=fun j T _ hm hmem=>by
  rcases List.mem_cons.mp hmem with e|e
  ·exact hTI j hm.1.1 (hm.1.2▸e)
  ·cases e
 done:=fun s Q E st hQ=>next_end hh st.1 st.2.1 (by simp) fun h' he'=>hQ h' s.toks fun b o hb e=>he' b o (fun h=>hb (by simp[h])) e
 self:=fun _ _ _ _ st hQ=>wpAny_pyIter_listiter st.1 hQ
def sLen:Str:=⟨#[108,101,110]⟩
def wL:Str:=⟨#[102,119,115]⟩
def xe:Str:=⟨#[112,97,114,116]⟩
def sSelf:Str:=⟨#[115,101,108,102]⟩
def sDot0:Str:=⟨#[46,48]⟩
def x9:Str:=⟨#[69,77,80,84,89,83,84,82,73,78,71]⟩
def sJoin:Str:=⟨#[106,111,105,110]⟩
def eltLen:Expr:=.BinOp (.Call (.Name sLen ⟨124,20,124,23⟩) [.Name wL ⟨124,24,124,27⟩] [] ⟨124,20,124,28⟩) .Add (.Call (.Name sLen ⟨124,31,124,34⟩) [.Name xe ⟨124,35,124,39⟩] [] ⟨124,31,124,40⟩) ⟨124,20,124,40⟩
def scLen:Scope:=⟨.function,[(sDot0,.local),(wL,.local),(xe,.local),(sLen,.globalImplicit)],true,false,[]⟩
def genLen:Expr:=.GeneratorExp eltLen [⟨.Tuple [.Name wL ⟨124,45,124,48⟩,.Name xe ⟨124,50,124,54⟩] 0 ⟨124,45,124,54⟩,.Name sSelf ⟨124,58,124,62⟩,[],0⟩] scLen ⟨124,19,124,63⟩
def eltStr:Expr:=.Call (.Attribute (.Name x9 ⟨127,33,127,44⟩) sJoin ⟨127,33,127,49⟩) [.Tuple [.Name wL ⟨127,51,127,54⟩,.Name xe ⟨127,56,127,60⟩] 0 ⟨127,50,127,61⟩] [] ⟨127,33,127,62⟩
def scStr:Scope:=⟨.function,[(sDot0,.local),(wL,.local),(xe,.local),(x9,.globalImplicit)],true,false,[]⟩
def genStr:Expr:=.GeneratorExp eltStr [⟨.Tuple [.Name wL ⟨127,67,127,70⟩,.Name xe ⟨127,72,127,76⟩] 0 ⟨127,67,127,76⟩,.Name sSelf ⟨127,80,127,84⟩,[],0⟩] scStr ⟨127,32,127,85⟩
def yZ(sc:Scope)(q:Str)(C:Addr)(cd:Value):Env:={ scope:=sc,locals:=C,globals:=3,cells:=[],qual:=q,func:=none,code:=cd,frame:=some C,builtins:=0 }
def nsOf:Obj→Str→Option Value
 |⟨_,_,.dict es _,_⟩,x=>nsFind es x
 | _,_=>none
def xQ:List DictEntry→Bool
 |[]=>true
 |e::l=>match e.key with
  | .str _ _=>xQ l
  | _=>false
theorem uR:∀{l:List DictEntry},xQ l=true→∀e∈l,∃n t,e.key=.str n t
 |[],_,_,h=>by cases h
 |e::l,h,x,hx=>by
  unfold xQ at h
  split at h
  ·rename_i n t hk
   rcases List.mem_cons.mp hx with rfl|hx
   ·exact⟨n,t,hk⟩
   ·exact uR h x hx
  ·cases h
theorem ns_of{h:Heap}{a:Addr}{o:Obj}{es:Array DictEntry}{ep:Nat}(hg:h.get? a=some o)(hd:o.data=.dict es ep)(hk:xQ es.toList=true):h.Ns a (nsOf o):=by
 obtain⟨c,d,dt,sl⟩:=o
 subst hd
 exact⟨_,es,ep,hg,rfl,fun e he=>uR hk e (Array.mem_toList_iff.mpr he),fun _=>rfl⟩
theorem ns3{s:Shared}{P:Params}{V:TopV}(h:s.heap.get? 3=some (o_3 P V)):s.heap.Ns 3 (nsOf (o_3 P V)):=ns_of h rfl (by kernel_rfl)
theorem ns0{s:Shared}{P:Params}{V:TopV}(h:s.heap.get? 0=some (o_0 P V)):∃es ep,(o_0 P V).data=.dict es ep∧xQ es.toList=true∧s.heap.Ns 0 (nsOf (o_0 P V)):=
 ⟨_,_,rfl,by kernel_rfl,ns_of h rfl (by kernel_rfl)⟩
theorem g3_len(P V):nsOf (o_3 P V) sLen=none:=by kernel_rfl
theorem g0_len(P V):nsOf (o_0 P V) sLen=some (.builtin "len"):=by kernel_rfl
theorem g3_emp(P V):nsOf (o_3 P V) x9=some (.str ⟨#[]⟩ (V.tk 2552)):=by kernel_rfl
section
variable {prog:Program} {w:World} {A:Around} {E:Value→Shared→Prop} {s:Shared}
theorem eval_len{P:Params}{V:TopV}{env:Env}{x:Str}{p1 p2 pos:Pos}{m:Str→Option Value}{F:Str}{tF:Tok}{Q:Value→Shared→Prop}
  (hk:env.scope.kind=.function) (hg:env.globals=3) (hb:env.builtins=0) (hx:env.kindOf sLen=some .globalImplicit) (hxl:env.kindOf x=some .local) (hdx:(x==("__debug__" : Str))=false)
  (h3:s.heap.get? 3=some (o_3 P V)) (h0:s.heap.get? 0=some (o_0 P V)) (hn:s.heap.Ns env.locals m) (hv:m x=some (.str F tF)) (hF:F.length≤1000)
  (hQ:Q (.int F.length (s.toks+1)) { s with toks:=s.toks+1+1 }) :
  wpAny (model prog w) A (eval (.Call (.Name sLen p1) [.Name x p2] [] pos) env) Q E s:=by
 obtain⟨es,ep,-,-,n0⟩:=ns0 h0
 refine wpAny_Call_NameR (Calls.Name_function_global hk hx (Calls.loadGlobal_builtin (by rw[hg];exact ns3 h3) (g3_len P V) (by rw[hb];exact n0) (g0_len P V) ?_) (by decide +kernel))
 show wpAny _ A (callWith pos (.builtin "len") [] [(false,eval (.Name x p2) env)] []) Q E s
 refine callWith_builtin1 (wpAny_Name (wpAny_loadName_local hk hxl hn hv ?_) hdx)
 refine Calls.call_function_entry kind_len plain_len entry_len (args_len1 _) ?_
 exact wpAny_len_body (n:=F.length) (typeIs_str _ _ _) PySem.F.slot_str_len PySem.F.entry_str_len (PySem.F.args_str_len_1 _) (gives_str_len F tF) (by omega) (by omega) hQ
theorem elt_len{P:Params}{V:TopV}{q:Str}{C:Addr}{cd:Value}{m:Str→Option Value}{F S:Str}{tF tS:Tok}
  (h3:s.heap.get? 3=some (o_3 P V)) (h0:s.heap.get? 0=some (o_0 P V)) (hn:s.heap.Ns C m) (hf:m wL=some (.str F tF)) (hp:m xe=some (.str S tS)) (hF:F.length≤1000) (hS:S.length≤1000) :
  wpAny (model prog w) A (eval eltLen (yZ scLen q C cd)) (fun y s₃=>(∃t,y=.int ((F.length:Int)+S.length) t)∧Keeps s s₃) E s:=by
 refine wpAny_BinOp (eval_len (P:=P) (V:=V) rfl rfl rfl (by kernel_rfl) (by kernel_rfl) (by decide +kernel) h3 h0 hn hf hF ?_)
 refine eval_len (P:=P) (V:=V) (m:=m) rfl rfl rfl (by kernel_rfl) (by kernel_rfl) (by decide +kernel) h3 h0 hn hp hS ?_
 exact wpAny_add_int ⟨⟨_,rfl⟩,_,_,rfl,fun _ _ e=>e⟩
end
section
variable {prog:Program} {w:World} {A:Around} {E:Value→Shared→Prop} {s:Shared}
theorem tooLong_of{n:Nat}(h:n≤100000):Builtin.Str.tooLong n=false:=by
 unfold Builtin.Str.tooLong
 rw[sizeLine_eq]
 simp only[decide_eq_false_iff_not]
 omega
theorem glued2(F S:Str):Builtin.Str.glued ⟨#[]⟩ [F,S]=⟨F.cps++S.cps⟩:=by
 simp[Builtin.Str.glued]
theorem elt_str{P:Params}{V:TopV}{q:Str}{C:Addr}{cd:Value}{m:Str→Option Value}{F S:Str}{tF tS:Tok}
  (h3:s.heap.get? 3=some (o_3 P V)) (hn:s.heap.Ns C m) (hf:m wL=some (.str F tF)) (hp:m xe=some (.str S tS)) (hF:F.length≤1000) (hS:S.length≤1000) :
  wpAny (model prog w) A (eval eltStr (yZ scStr q C cd)) (fun y s₃=>(∃t,y=.str ⟨F.cps++S.cps⟩ t)∧Keeps s s₃) E s:=by
 refine Call_method1 (by rfl) (by rfl) (by rfl) ?_
 refine Calls.Name_function_global rfl (by kernel_rfl) ?_ (by decide +kernel)
 refine Calls.loadGlobal_global (ns3 h3) (g3_emp P V) ?_
 refine⟨"str", "str.join", PySem.F.plainAttrs_str,PySem.F.slot_str_join,PySem.F.type_str_join,typeIs_str _ _ _,fun a h=>(by cases h),?_⟩
 refine Calls.callWith_builtin rfl (Calls.evalArgs_plain (Calls.spliced_cons ?_))
 refine wpAny_Tuple ?_
 show wpAny _ A (spliced [(false,eval (.Name wL _) _),(false,eval (.Name xe _) _)]) _ _ s
 refine Calls.spliced_cons (wpAny_Name (wpAny_loadName_local rfl (by kernel_rfl) hn hf ?_) (by decide +kernel))
 refine Calls.spliced_cons (wpAny_Name (wpAny_loadName_local rfl (by kernel_rfl) hn hp ?_) (by decide +kernel))
 refine Calls.spliced_nil ⟨by have:=yu;simp only[List.length_cons,List.length_nil];omega,?_⟩
 refine Calls.spliced_nil ?_
 show wpAny _ A (call (.builtin "str.join") [.str ⟨#[]⟩ (V.tk 2552),.ref s.heap.objs.size]) _ _ _
 have hlen:([(F,tF),(S,tS)].map (·.1)).toArray.foldl (·+·.length+(⟨#[]⟩:Str).length) 0=F.length+S.length:=by
  simp[Str.length]
 have hj:=meets_str_join_tuple ⟨#[]⟩ (V.tk 2552) s.heap.objs.size [(F,tF),(S,tS)] (by rw[hlen];exact tooLong_of (by omega))
 refine wpAny_call (codeAny_call_builtin PySem.F.slot_str_join.plain PySem.F.entry_str_join (PySem.F.slot_str_join.check _ _ _ _ _ _ _ _ (typeIs_str _ _ _) (PySem.F.args_str_join_2 _ _) ?_))
 refine hj prog w A (wants (fun y s₃=>(∃t,y=.str ⟨F.cps++S.cps⟩ t)∧Keeps s s₃) E) _ ?_
 refine⟨⟨{ cls:=.type "tuple", data:=.seq [Value.str F tF,Value.str S tS].toArray },0,Heap.get?_push_size _ rfl,rfl,rfl⟩,?_⟩
 show (Builtin.Str.glued ⟨#[]⟩ [F,S]).length≤sizeLine∧_
 rw[glued2]
 refine⟨?_,⟨_,rfl⟩,_,_,rfl,fun b o e=>Heap.get?_push_of_some _ e⟩
 have:(⟨F.cps++S.cps⟩:Str).length=F.length+S.length:=by simp[Str.length]
 rw[this,sizeLine_eq];omega
end
structure Part where
 a:Addr
 F:Str
 tF:Tok
 S:Str
 tS:Tok
def Part.slot(p:Part):Addr × Obj:=(p.a,vd p.F p.tF p.S p.tS)
def zb(ps:List Part):zh:=ps.map Part.slot
def ze(ps:List Part):Array Value:=(ps.map fun p=>Value.ref p.a).toArray
def Part.small(p:Part):Prop:=p.F.length≤1000∧p.S.length≤1000
def pTs(ps:List Part)(i:Nat):Addr:=match ps[i]? with|some p=>p.a|none=>0
def pVals(ps:List Part)(i:Nat):Array Value:=match ps[i]? with|some p=>#[.str p.F p.tF,.str p.S p.tS]|none=>#[]
theorem zF(ps:List Part):(ze ps).size=ps.length:=by simp[ze]
theorem partsArr_get(ps:List Part){j:Nat}(h:j < (ze ps).size):(ze ps)[j]?=some (.ref (pTs ps j)):=by
 rw[zF] at h
 have:ps[j]?=some ps[j]:=List.getElem?_eq_getElem h
 simp[ze,pTs,this]
theorem passing_all(n:Nat):passing (fun _=>true) n 0=List.range n:=by
 unfold passing
 simp
section
variable {prog:Program} {w:World} {A:Around}
theorem genWalks{elt iter:Expr}{pa pb pt pos:Pos}{sc:Scope}{q:Str}{cd:Value}{C I a l:Addr}{g:Nat}{ps:List Part}{m:Str→Option Value}{s:Shared}{P:Params}{V:TopV}(F:Nat→Value→Prop)
  (hh:A.handled=none) (hroom:A.depth < recursionLimit) (hco:sc.isCoroutine=false) (hk:sc.kind=.function)
  (hf:(yZ sc q C cd).kindOf wL=some .local) (hp:(yZ sc q C cd).kindOf xe=some .local)
  (hg:s.heap.IsGen a g) (hgs:s.gens[g]?=some (.fresh (.compStart (.GeneratorExp elt [⟨.Tuple [.Name wL pa,.Name xe pb] 0 pt,iter,[],0⟩] sc pos) 0 (.ref I) .none (yZ sc q C cd))))
  (hn:s.heap.Ns C m) (hit:s.heap.IsListIter I l 0) (hl:IsSq s.heap l (ze ps)) (ht:∀p∈ps,s.heap.get? p.a=some (vd p.F p.tF p.S p.tS))
  (h3:s.heap.get? 3=some (o_3 P V)) (h0:s.heap.get? 0=some (o_0 P V)) (h2:s.heap.NoLimit)
  (aC:a≠C) (aI:a≠I) (al:a≠l) (aT:∀p∈ps,a≠p.a) (a0:a≠0) (a2:a≠2) (a3:a≠3) (CI:C≠I) (Cl:C≠l) (CT:∀p∈ps,C≠p.a) (C0:C≠0) (C2:C≠2) (C3:C≠3)
  (Il:l≠I) (IT:∀p∈ps,p.a≠I) (I0:0≠I) (I2:2≠I) (I3:3≠I)
  (helt:∀(A':Around) E' i p (s₂:Shared) m₂,ps[i]?=some p→s₂.heap.Ns C m₂→m₂ wL=some (.str p.F p.tF)→m₂ xe=some (.str p.S p.tS)→s₂.heap.get? 3=some (o_3 P V)→s₂.heap.get? 0=some (o_0 P V)→
   wpAny (model prog w) A' (eval elt (yZ sc q C cd)) (fun y s₃=>F i y∧Keeps s₂ s₃) E' s₂) :
  WalksS prog w A a (a::C::(I::l::(List.range ps.length).map (pTs ps)++[0,2,3])) (C::[I]) (GenOnlyQ g) ps.length (fun j y=>j < ps.length∧F j y)
   (GenAt prog w A a g C (I::l::(List.range ps.length).map (pTs ps)++[0,2,3]) [I] (fun _=>true) ps.length F)∧
  GenAt prog w A a g C (I::l::(List.range ps.length).map (pTs ps)++[0,2,3]) [I] (fun _=>true) ps.length F 0 s:=by
 have hT:∀k,k < ps.length→∃p∈ps,ps[k]?=some p∧pTs ps k=p.a∧pVals ps k=#[.str p.F p.tF,.str p.S p.tS]:=fun k hk=>by
  have:ps[k]?=some ps[k]:=List.getElem?_eq_getElem hk
  exact⟨ps[k],List.getElem_mem _,this,by simp[pTs,this],by simp[pVals,this]⟩
 have memT:∀b,b∈(List.range ps.length).map (pTs ps)→∃p∈ps,b=p.a:=fun b hb=>by
  obtain⟨k,hk,rfl⟩:=List.mem_map.mp hb
  obtain⟨p,hp,_,e,_⟩:=hT k (List.mem_range.mp hk)
  exact⟨p,hp,e⟩
 have mem:∀b,b∈(I::l::(List.range ps.length).map (pTs ps)++[0,2,3])→b=I∨b=l∨(∃p∈ps,b=p.a)∨b=0∨b=2∨b=3:=fun b hb=>by
  simp only[List.cons_append,List.mem_cons,List.mem_append,List.not_mem_nil,or_false] at hb
  rcases hb with hb|hb|hb|hb
  ·exact .inl hb
  ·exact .inr (.inl hb)
  ·exact .inr (.inr (.inl (memT b hb)))
  ·exact .inr (.inr (.inr hb))
 have haf:a∉(I::l::(List.range ps.length).map (pTs ps)++[0,2,3]):=fun hb=>by
  rcases mem a hb with e|e|⟨p,hp,e⟩|e|e|e
  ·exact aI e
  ·exact al e
  ·exact aT p hp e
  ·exact a0 e
  ·exact a2 e
  ·exact a3 e
 have hCf:C∉(I::l::(List.range ps.length).map (pTs ps)++[0,2,3]):=fun hb=>by
  rcases mem C hb with e|e|⟨p,hp,e⟩|e|e|e
  ·exact CI e
  ·exact Cl e
  ·exact CT p hp e
  ·exact C0 e
  ·exact C2 e
  ·exact C3 e
 have hsz:(ze ps).size=ps.length:=zF ps
 have W₀:∀A':Around,A'.handled=none→WalksU prog w A' I (I::l::(List.range ps.length).map (pTs ps)++[0,2,3]) [I] ps.length (fun i v=>i < ps.length∧v=pVals ps i)
   (fun j h=>h.IsListIter I l j∧IsSq h l (ze ps)∧∀k,k < (ze ps).size→h.IsTuple (pTs ps k) (pVals ps k))
   (fun j T h=>(j < (ze ps).size∧T=pTs ps j)∧h.IsListIter I l (j+1)∧IsSq h l (ze ps)∧∀k,k < (ze ps).size→h.IsTuple (pTs ps k) (pVals ps k)):=fun A' hA=>by
  have W:=walksSq (prog:=prog) (w:=w) (A:=A') hA I l Il (ze ps) (pTs ps) (pVals ps) (fun j hj=>partsArr_get ps hj) (fun j hj=>by
   rw[hsz] at hj
   obtain⟨p,hp,_,e,_⟩:=hT j hj
   rw[e];exact IT p hp)
  rw[hsz] at W
  rw[hsz]
  exact W.bound.mono_fp fun b hb=>by
   rw[List.cons_append,List.cons_append]
   rcases List.mem_cons.mp hb with rfl|hb
   ·exact .head _
   ·rcases List.mem_cons.mp hb with rfl|hb
    ·exact .tail _ (.head _)
    ·exact .tail _ (.tail _ (List.mem_append_left _ hb))
 have in3:3∈(I::l::(List.range ps.length).map (pTs ps)++[0,2,3]):=by simp
 have in0:0∈(I::l::(List.range ps.length).map (pTs ps)++[0,2,3]):=by simp
 have in2:cStatics∈(I::l::(List.range ps.length).map (pTs ps)++[0,2,3]):=by show 2∈_;simp
 have hq:QuietGenT prog w (yZ sc q C cd) wL xe [] elt (I::l::(List.range ps.length).map (pTs ps)++[0,2,3]) [I] (fun i v=>i < ps.length∧v=pVals ps i) (fun _=>true) F s.heap:=
  ⟨fun A' E' i va vb s₂ m₂ _ _ _ _ _ _=>wpAny_pure ⟨rfl,_,_,rfl,fun _ _ e=>e⟩,fun A' E' i va vb s₂ m₂ _ hP _ hn₂ ha hb hk₂=>by
   obtain⟨hi,hv⟩:=hP
   obtain⟨p,hp,e,_,e2⟩:=hT i hi
   rw[e2] at hv
   have hv1:va=.str p.F p.tF∧vb=.str p.S p.tS:=by simpa using hv
   rw[hv1.1] at ha
   rw[hv1.2] at hb
   exact helt A' E' i p s₂ m₂ e hn₂ ha hb (hk₂ 3 in3 (by simp[I3]) _ h3) (hk₂ 0 in0 (by simp[I0]) _ h0)⟩
 constructor
 ·have W:=WalksS.genexpQ (prog:=prog) (w:=w) (A:=A) hh a g C (I::l::(List.range ps.length).map (pTs ps)++[0,2,3]) [I] (fun _=>true) ps.length F aC haf (fun b hb=>by
   rw[List.mem_singleton] at hb;subst hb;rw[List.cons_append];exact .head _) hroom in2 (Ne.symm C2) (by show 2∉[I];simp[I2])
  rw[passing_all,List.length_range] at W
  exact { sub:=W.sub,grefl:=W.grefl,gtrans:=W.gtrans,frame:=W.frame,item:=fun i s Q E hi st hQ=>W.item i s Q E hi st fun v s' hP=>hQ v s' (by
       obtain⟨j,hj,hF⟩:=hP
       rw[List.getElem?_range hi] at hj
       cases hj
       exact⟨hi,hF⟩),done:=W.done,self:=W.self }
 ·exact GenAt.freshT (cenv:=yZ sc q C cd) hh W₀ (fun i vals hP=>by
   obtain⟨hi,hv⟩:=hP
   obtain⟨p,hp,e,_,e2⟩:=hT i hi
   exact⟨_,_,hv.trans e2⟩) (by decide) (fun _=>true) F hf hp (by simp[yZ,hk]) hco hCf hq hg hgs
   ⟨hit,hl,fun k hk'=>by
    rw[hsz] at hk'
    obtain⟨p,hp,e,e1,e2⟩:=hT k hk'
    rw[e1,e2]
    exact⟨_,ht p hp,rfl,0,rfl⟩⟩ hn h2
end
def wB:Obj:=⟨.none,none,.freed,#[]⟩
def gMatch(ge:Expr)(sc:Scope)(P:Params)(V:TopV)(ps:List Part)(wh:List (Code × Pos))(objs:zh)(gs:zM)(a:Addr):Option Lg:=match objs,gs with
 |[(yC,⟨.type n3,dC,.dict es ep,slC⟩),(yI,⟨.type n2,dI,.fields ⟨[i0,i1]⟩,slI⟩),(ya,⟨.type n1,dd,.fields ⟨[f0,nm,qn]⟩,⟨[]⟩⟩),(yl,⟨cl,dl,.seq vs epl,sll⟩),(y3,o3),(y0,o0),(y2,o2)],[(g,.fresh (.compStart e d it ac env))]=>
  match idB n1 2129479059828900849256 with
  |true=>match idB n2 9146042919481958196396663532141 with
   |true=>match idB n3 439938610023 with
    |true=>match xQ es.toList with
     |true=>some [(.n a,.n ya),(.v f0,.v (.int g 0)),(.c (.compStart e d it ac env),.c (.compStart ge 0 (.ref yI) .none (yZ sc env.qual yC env.code))),(.v i0,.v (.ref yl)),(.v i1,.v (.int 0 0)),(.a vs,.a (ze ps)),
       (.n y3,.n 3),(.o o3,.o (o_3 P V)),(.n y0,.n 0),(.o o0,.o (o_0 P V)),(.n y2,.n 2),(.o o2,.o (o_2 P V)),(.b (Nat.blt (frameCount wh) 900),.b true)]
     |false=>none
    |false=>none
   |false=>none
  |false=>none
 | _,_=>none
theorem vm{h:Heap}{a b:Addr}{o o':Obj}(h1:h.get? a=some o)(h2:h.get? b=some o')(hne:o≠o'):a≠b:=fun e=>by
 rw[e,h2] at h1
 exact hne (Option.some.inj h1).symm
theorem wi{h:Heap}{a b:Addr}{o o':Obj}(h1:h.get? a=some o)(h2:h.get? b=some o')(hne:o.cls≠o'.cls):a≠b:=vm h1 h2 fun e=>hne (e▸rfl)
theorem lt_of_blt{n m:Nat}(h:Nat.blt n m=true):n < m:=by
 have:Nat.ble (n+1) m=true:=h
 exact Nat.le_of_ble_eq_true this
theorem noLimit2{h:Heap}{P:Params}{V:TopV}(h2:h.get? 2=some (o_2 P V)):h.NoLimit:=⟨nsOf (o_2 P V),ns_of h2 rfl (by kernel_rfl),by kernel_rfl⟩
theorem cls3(P V):(o_3 P V).cls=.type "dict" :=rfl
theorem cls0(P V):(o_0 P V).cls=.type "dict" :=by kernel_rfl
theorem cls2(P V):(o_2 P V).cls=.none:=by kernel_rfl
section
variable {prog:Program} {w:World}
theorem gMatch_ok{ge elt iter:Expr}{pa pb pt pos:Pos}{sc:Scope}{P:Params}{V:TopV}{ps:List Part}{wh:List (Code × Pos)}{objs:zh}{gs:zM}{a:Addr}{lg:Lg}{s:Shared}{tl:zh}(F:Nat→Value→Prop)
  (hge:ge=.GeneratorExp elt [⟨.Tuple [.Name wL pa,.Name xe pb] 0 pt,iter,[],0⟩] sc pos) (hco:sc.isCoroutine=false) (hk:sc.kind=.function)
  (hf:∀q C cd,(yZ sc q C cd).kindOf wL=some .local) (hp:∀q C cd,(yZ sc q C cd).kindOf xe=some .local)
  (hm:gMatch ge sc P V ps wh objs gs a=some lg) (hl:Lg.Ok lg) (hg:∀p∈objs,s.heap.get? p.1=some p.2) (hgs:∀p∈gs,s.gens[p.1]?=some p.2) (ht:∀p∈zb ps,s.heap.get? p.1=some p.2)
  (A:Around) (hA:A.handled=none) (hd:A.depth=frameCount wh)
  (helt:∀q C cd (A':Around) E' i p (s₂:Shared) m₂,ps[i]?=some p→s₂.heap.Ns C m₂→m₂ wL=some (.str p.F p.tF)→m₂ xe=some (.str p.S p.tS)→s₂.heap.get? 3=some (o_3 P V)→s₂.heap.get? 0=some (o_0 P V)→
   wpAny (model prog w) A' (eval elt (yZ sc q C cd)) (fun y s₃=>F i y∧Keeps s₂ s₃) E' s₂) :
  ∃(C I g:Nat) (oC oI:Obj) (more:zh) (x:GenState) (fp:List Addr) (St:Nat→Shared→Prop),objs=(C,oC)::(I,oI)::more∧gs=[(g,x)]∧(∀b∈a::C::fp,b < s.heap.objs.size)∧(∀i s,St i s→s.TypeIs (.ref a) "generator")∧
   WalksS prog w A a (a::C::fp) (C::[I]) (GenOnlyQ g) ps.length (fun j y=>j < ps.length∧F j y) St∧St 0 s:=by
 unfold gMatch at hm
 split at hm<;>try(cases hm;done)
 rename_i yC n3 dC es ep slC yI n2 dI i0 i1 slI ya n1 dd f0 nm qn yl cl dl vs epl sll y3 o3 y0 o0 y2 o2 g e d it ac env
 split at hm<;>try(cases hm;done)
 rename_i h1
 have h1:=zv h1 (s:= "generator") (by decide +kernel)
 subst h1
 split at hm<;>try(cases hm;done)
 rename_i h1
 have h1:=zv h1 (s:= "list_iterator") (by decide +kernel)
 subst h1
 split at hm<;>try(cases hm;done)
 rename_i h1
 have h1:=zv h1 (s:= "frame") (by decide +kernel)
 subst h1
 split at hm<;>try(cases hm;done)
 rename_i hes
 simp only[Option.some.injEq] at hm
 subst hm
 have e1:a=ya:=LV.n.inj (hl _ (.head _))
 have e2:f0=.int g 0:=LV.v.inj (hl _ (.tail _ (.head _)))
 have e3:=LV.c.inj (hl _ (.tail _ (.tail _ (.head _))))
 have e4:i0=.ref yl:=LV.v.inj (hl _ (.tail _ (.tail _ (.tail _ (.head _)))))
 have e5:i1=.int 0 0:=LV.v.inj (hl _ (.tail _ (.tail _ (.tail _ (.tail _ (.head _))))))
 have e6:vs=ze ps:=LV.a.inj (hl _ (.tail _ (.tail _ (.tail _ (.tail _ (.tail _ (.head _)))))))
 have e7:y3=3:=LV.n.inj (hl _ (.tail _ (.tail _ (.tail _ (.tail _ (.tail _ (.tail _ (.head _))))))))
 have e8:o3=o_3 P V:=LV.o.inj (hl _ (.tail _ (.tail _ (.tail _ (.tail _ (.tail _ (.tail _ (.tail _ (.head _)))))))))
 have e9:y0=0:=LV.n.inj (hl _ (.tail _ (.tail _ (.tail _ (.tail _ (.tail _ (.tail _ (.tail _ (.tail _ (.head _))))))))))
 have e10:o0=o_0 P V:=LV.o.inj (hl _ (.tail _ (.tail _ (.tail _ (.tail _ (.tail _ (.tail _ (.tail _ (.tail _ (.tail _ (.head _)))))))))))
 have e11:y2=2:=LV.n.inj (hl _ (.tail _ (.tail _ (.tail _ (.tail _ (.tail _ (.tail _ (.tail _ (.tail _ (.tail _ (.tail _ (.head _))))))))))))
 have e12:o2=o_2 P V:=LV.o.inj (hl _ (.tail _ (.tail _ (.tail _ (.tail _ (.tail _ (.tail _ (.tail _ (.tail _ (.tail _ (.tail _ (.tail _ (.head _)))))))))))))
 have e13:=lt_of_blt (LV.b.inj (hl _ (.tail _ (.tail _ (.tail _ (.tail _ (.tail _ (.tail _ (.tail _ (.tail _ (.tail _ (.tail _ (.tail _ (.tail _ (.head _)))))))))))))))
 subst e1 e2 e4 e5 e6 e7 e8 e9 e10 e11 e12
 have gC:=hg _ (.head _)
 have gI:=hg _ (.tail _ (.head _))
 have ga:=hg _ (.tail _ (.tail _ (.head _)))
 have gl:=hg _ (.tail _ (.tail _ (.tail _ (.head _))))
 have g3:=hg _ (.tail _ (.tail _ (.tail _ (.tail _ (.head _)))))
 have g0:=hg _ (.tail _ (.tail _ (.tail _ (.tail _ (.tail _ (.head _))))))
 have g2:=hg _ (.tail _ (.tail _ (.tail _ (.tail _ (.tail _ (.tail _ (.head _)))))))
 have gg:=hgs _ (.head _)
 dsimp only at gC gI ga gl g3 g0 g2 gg
 rw[e3,hge] at gg
 have gT:∀p∈ps,s.heap.get? p.a=some (vd p.F p.tF p.S p.tS):=fun p hp=>ht _ (List.mem_map_of_mem (f:=Part.slot) hp)
 have W:=genWalks (prog:=prog) (w:=w) (A:=A) (elt:=elt) (iter:=iter) (pa:=pa) (pb:=pb) (pt:=pt) (pos:=pos) (sc:=sc) (q:=env.qual) (cd:=env.code) (C:=yC) (I:=yI) (a:=a) (l:=yl) (g:=g) (ps:=ps) (m:=nsOf ⟨.type "frame", dC,.dict es ep,slC⟩) (s:=s) (P:=P) (V:=V) F
  hA (by rw[hd];unfold recursionLimit;omega) hco hk (hf _ _ _) (hp _ _ _) ⟨_,nm,qn,ga,rfl,rfl,rfl⟩ gg (ns_of gC rfl hes) ⟨_,gI,rfl,rfl⟩ ⟨_,_,gl,rfl⟩ gT g3 g0 (noLimit2 g2)
  (vm ga gC (by simp)) (vm ga gI (by simp)) (vm ga gl (by simp)) (fun p hp=>vm ga (gT p hp) (by simp[vd])) (wi ga g0 (by rw[cls0];simp)) (wi ga g2 (by rw[cls2];simp)) (wi ga g3 (by rw[cls3];simp))
  (vm gC gI (by simp)) (vm gC gl (by simp)) (fun p hp=>vm gC (gT p hp) (by simp[vd])) (wi gC g0 (by rw[cls0];simp)) (wi gC g2 (by rw[cls2];simp)) (wi gC g3 (by rw[cls3];simp))
  (vm gl gI (by simp)) (fun p hp=>vm (gT p hp) gI (by simp[vd])) (wi g0 gI (by rw[cls0];simp)) (wi g2 gI (by rw[cls2];simp)) (wi g3 gI (by rw[cls3];simp))
  (helt _ _ _)
 refine⟨yC,yI,g,_,_,_,_,(yI::yl::(List.range ps.length).map (pTs ps)++[0,2,3]),_,rfl,rfl,fun b hb=>?_,fun i s' st=>?_,W.1,W.2⟩
 ·simp only[List.cons_append,List.mem_cons,List.mem_append,List.not_mem_nil,or_false] at hb
  rcases hb with rfl|rfl|rfl|rfl|hb|rfl|rfl|rfl
  ·exact Heap.lt_size ga
  ·exact Heap.lt_size gC
  ·exact Heap.lt_size gI
  ·exact Heap.lt_size gl
  ·obtain⟨k,hk,rfl⟩:=List.mem_map.mp hb
   have hk':=List.mem_range.mp hk
   have:ps[k]?=some ps[k]:=List.getElem?_eq_getElem hk'
   simp only[pTs,this]
   exact Heap.lt_size (gT _ (List.getElem_mem _))
  ·exact Heap.lt_size g0
  ·exact Heap.lt_size g2
  ·exact Heap.lt_size g3
 ·exact st.1.typeIs
end
end Mine
end
noncomputable section
open PyProof.Rows PySem PySem.W
namespace Mine
def CallsAt(M:Model)(wh:List (Code × Pos))(c:Code)(R:Result→Shared→Prop)(s:Shared):Prop:=
 ∀(Γ:Ctx) (p:Pos),Γ.handled=none→(Γ.code,p)::Γ.below=wh→wpCode M (Γ.enter c none p) R p s
theorem CallsAt.of_codeAny{M:Model}{wh:List (Code × Pos)}{c:Code}{R:Result→Shared→Prop}{s:Shared}(h:codeAny M (yf wh) c R s):CallsAt M wh c R s:=fun Γ p hh hw=>by
 subst hw
 exact h _ p rfl ⟨hh,Nat.le_refl _,(fun l hl=>by cases hl),(fun l hl=>by cases hl),Nat.le_refl _⟩
theorem CallsAt.of_wpAny{M:Model}{wh:List (Code × Pos)}{f:Value}{pos:List Value}{kw:List (Str × Value)}{Q:Value→Shared→Prop}{s:Shared}(h:wpAny M (yf wh) (call f pos kw) Q (fun _ _=>False) s) :
  CallsAt M wh (.call f ⟨pos,kw⟩) (fun r s'=>∃v,r=.ok (.ret v)∧Q v s') s:=fun Γ p hh hw=>by
 subst hw
 have h1:=h Γ p ⟨hh,by show frameCount Γ.below+Γ.code.weight≤frameCount ((Γ.code,p)::Γ.below);rw[frameCount_cons];omega,(fun l hl=>by cases hl),(fun l hl=>by cases hl),by
  show Γ.code.cUnits+unitsOf Γ.below≤unitsOf ((Γ.code,p)::Γ.below)
  rw[unitsOf_cons];exact Nat.le_refl _⟩
 unfold call at h1
 rw[Sem.wp_runValue] at h1
 obtain⟨r,s',hr,hq⟩:=h1
 refine⟨r,s',hr,?_⟩
 cases r with
 |error e=>exact hq.elim
 |ok f=>cases f with
  |ret v=>exact⟨v,rfl,hq⟩
  | _=>exact hq.elim
theorem calls_comes{M:Model}{c:Code}{R:Result→Shared→Prop}{s:Shared}{code:Code}{pos:Pos}{F:List Frame}(hd:topHandled F=none)
  (h:CallsAt M ((code,pos)::F.map Frame.where_) c R s) :
  ∃r s₁,R r s₁∧s.heap.objs.size≤s₁.heap.objs.size∧∀(g:Bool) (l:List Value) (k:Result→Sem Fin),Comes M s ⟨.call c none g l k,code,pos,F⟩ s₁ ⟨k r,code,pos,F⟩:=by
 have hf:=Ctx.fits_of code F
 obtain⟨r,s₁,hr,hR⟩:=h (Ctx.of code F) pos hd rfl
 refine⟨r,s₁,hR,uN hr,fun g l k=>?_⟩
 obtain⟨t',c',p',pre',hc₁,hx⟩:=(runs_reach hr _ (hf.enter c k none g l pos [])).comes
 obtain⟨rfl,rfl⟩:=hx
 exact .step (step_call ..) (.trans hc₁ (.step (step_leaf_ret ..) (.refl _ _)))
def mkG(m:Nat)(k:Nat→Nat)(mg:Bool){Y:Type}(pre:Nat→Code→List (Code × Pos)→zh→zM→Option Y)(lg pc:Y→Lg)(out:Y→List Addr→Ch→UOut):Ext:=
 ⟨m,k,mg,fun d c wh objs gs xs t=>match pre d c wh objs gs with
  |some y=>some ⟨(out y xs t).res,(out y xs t).posts,(out y xs t).news,lg y,pc y⟩
  |none=>none⟩
theorem ExtOk.leafM{C:Cfg}{w:World}{F:List Frame}{m:Nat}{k:Nat→Nat}{mg:Bool}{Y:Type}{pre:Nat→Code→List (Code × Pos)→zh→zM→Option Y}{lg pc:Y→Lg}{out:Y→List Addr→Ch→UOut}(U:Under C F)
  (H:∀(prog:Program) (s:Shared) (d:Nat) (c:Code) (wh:List (Code × Pos)) (objs:zh) (gs:zM) (y:Y),objs.length=m→(∀p∈objs,s.heap.get? p.1=some p.2)→(∀p∈gs,s.gens[p.1]?=some p.2)→
   (∀p∈C.tail,p.2.isFreed=false→s.heap.get? p.1=some p.2)→pre d c wh objs gs=some y→Lg.Ok (lg y)→Lg.Ok (pc y)→
   CallsAt (model prog w) wh c (fun res s₁=>∃(xs:List Addr) (t:Ch),xs.length=k d∧(∀z∈xs,s.heap.objs.size≤z)∧res=(out y xs t).res∧Eff s s₁ objs gs (out y xs t).posts xs (out y xs t).news) s) :
  ExtOk C w F (mkG m k mg pre lg pc out):=by
 intro s a T G code pos fs c g l k' objs d js gs G' R hg S hm hd hh hl _
 have e0:∀xs t r,(mkG m k mg pre lg pc out).f d c ((code,pos)::(fs.map Frame.where_++C.W)) objs gs xs t=some r→∃y,pre d c ((code,pos)::(fs.map Frame.where_++C.W)) objs gs=some y∧
   r=⟨(out y xs t).res,(out y xs t).posts,(out y xs t).news,lg y,pc y⟩:=fun xs t r h=>by
  simp only[mkG] at h
  split at h
  ·rename_i y hy
   exact⟨y,hy,(Option.some.inj h).symm⟩
  ·cases h
 by_cases hq:∃y,pre d c ((code,pos)::(fs.map Frame.where_++C.W)) objs gs=some y∧Lg.Ok (lg y)∧Lg.Ok (pc y)
 ·obtain⟨y,hy,lo,po⟩:=hq
  have hc:=H C.prog s d c ((code,pos)::(fs.map Frame.where_++C.W)) objs gs y ((xj hl).trans hm) (uE R hl) (fun p hp=>R.gslots p (vx hg p hp)) (fun p hp hf=>by
   obtain⟨Ex,hEx,_⟩:=S
   exact R.slots p (by rw[hEx];exact List.mem_append_right _ hp) hf) hy lo po
  have hw:(code,pos)::(fs.map Frame.where_++C.W)=(code,pos)::(fs++F).map Frame.where_:=by rw[List.map_append,U.wh]
  rw[hw] at hc
  have ht:topHandled (fs++F)=none:=by
   rw[U.hdOf]
   unfold hdOk at hh
   unfold hdOf
   generalize marksOver fs (none,none)=z at hh
   obtain⟨x,y⟩:=z
   cases x<;>cases y<;>first|rfl|cases hh
  obtain⟨res,s₁,⟨xs,t,hx,hf,e1,hE⟩,hsz,hcm⟩:=calls_comes ht hc
  subst e1
  refine⟨xs,t,hx,hf,fun r hr _ _ nf T' T'' hp hn=>?_⟩
  obtain⟨y',hy',rfl⟩:=e0 xs t r hr
  rw[hy] at hy';cases hy'
  exact⟨s₁,hcm g l k',R.after hl (yi hd) hp hn hf hg hE hsz⟩
 ·refine⟨(List.range (k d)).map (s.heap.objs.size+·),.of 0,by simp;rfl,fun z hz=>by
   obtain⟨i,_,rfl⟩:=List.mem_map.mp hz;exact Nat.le_add_right _ _,fun r hr lo po nf T' T'' hp hn=>?_⟩
  obtain⟨y,hy,rfl⟩:=e0 _ _ r hr
  exact absurd ⟨y,hy,lo,po⟩ hq
end Mine
end
noncomputable section
open PyProof.Rows PySem PySem.W
set_option maxRecDepth 100000
namespace Mine
def Part.len(p:Part):Int:=(p.F.length:Int)+p.S.length
def total(ps:List Part):Int:=(ps.map Part.len).sum
def zG(ps:List Part):Bool:=ps.all fun p=>decide (p.F.length≤1000) && decide (p.S.length≤1000)
theorem smallB_ok{ps:List Part}(h:zG ps=true):∀p∈ps,p.F.length≤1000∧p.S.length≤1000:=fun p hp=>by
 have:=List.all_eq_true.mp h p hp
 simpa using this
def pVal(n0:Int)(ps:List Part):Nat→Int
 |0=>n0
 |i+1=>match ps[i]? with|some p=>p.len|none=>0
theorem uT(n0:Int)(ps:List Part):∀k,k≤ps.length→preSum (pVal n0 ps) (k+1)=n0+total (ps.take k)
 |0,_=>by simp[preSum,pVal,total]
 |k+1,h=>by
  have hk:k < ps.length:=h
  show preSum (pVal n0 ps) (k+1)+pVal n0 ps (k+1)=_
  rw[uT n0 ps k (by omega)]
  have:ps[k]?=some ps[k]:=List.getElem?_eq_getElem hk
  simp only[pVal,this]
  have e:ps.take (k+1)=ps.take k++[ps[k]]:=by rw[List.take_add_one,this];rfl
  rw[e]
  simp only[total,List.map_append,List.sum_append,List.map_cons,List.map_nil,List.sum_cons,List.sum_nil]
  omega
theorem gens_keep{g:Nat}{a b:Array GenState}(h:GenOnlyQ g a b):(∀k st,a[k]?=some st→g≠k→b[k]?=some st)∧(AllBare a→AllBare b):=by
 rcases h with rfl|⟨⟨hs,hk⟩,hb⟩
 ·exact⟨fun _ _ e _=>e,id⟩
 ·refine⟨fun k st e hne=>by rw[hk k (Ne.symm hne)];exact e,fun ha y hy=>?_⟩
  obtain⟨k,hk',rfl⟩:=Array.mem_iff_getElem.mp hy
  by_cases e:k=g
  ·subst e
   exact hb _ (Array.getElem?_eq_getElem hk')
  ·have h1:=hk k e
   rw[Array.getElem?_eq_getElem hk'] at h1
   exact ha _ (Array.mem_of_getElem? h1.symm)
def xSum(P:Params)(V:TopV)(ps:List Part):Ext:=mkG 7 (fun _=>0) true (fun _ c wh objs gs=>match c with
 | .call (.builtin id) ⟨[.ref a,.int n0 tn],[]⟩=>match idB id 7239284 with
  |true=>match gMatch genLen scLen P V ps wh objs gs a with
   |some lg=>some (lg,n0)
   |none=>none
  |false=>none
 | _=>none) (fun y=>y.1) (fun _=>[(.b (zG ps),.b true)]) (fun y _ t=>⟨.ok (.ret (.int (y.2+total ps) (t.tok 0))),[wB,wB],[]⟩)
theorem args_sum2(a b:Value):argsOk "sum" ⟨[a,b],[]⟩:=by unfold argsOk;kernel_rfl
def shP(P:Nat→Value→Prop):Nat→Value→Prop
 |0,_=>False
 |i+1,v=>P i v
def shSt(St:Nat→Shared→Prop):Nat→Shared→Prop
 |0,_=>False
 |i+1,s=>St i s
section
variable {prog:Program} {w:World} {A:Around} {E:Value→Shared→Prop} {s:Shared}
theorem sum_start{I:Addr}{fp wr:List Addr}{G:Array GenState→Array GenState→Prop}{n:Nat}{P:Nat→Value→Prop}{St:Nat→Shared→Prop}{n0:Int}{tn:Tok}{R:Result→Shared→Prop}{val:Nat→Int}
  (W:WalksS prog w A.in1 I fp wr G n P St) (hst:St 0 s) (hfp:∀b∈fp,b < s.heap.objs.size) (hval:∀i v,P i v→∃t,v=.int (val (i+1)) t) (h0:val 0=n0)
  (hR:∀s' t',Moved (s.heap.objs.size::wr) G s s'→R (.ok (.ret (.int (preSum val (n+1)) t'))) s') :
  codeAny (model prog w) A (.call (.builtin "sum") ⟨[.ref I,.int n0 tn],[]⟩) R s:=by
 have W':WalksS prog w A.in1 I fp wr G (n+1) (shP P) (shSt St):=
  {
   sub:=W.sub,grefl:=W.grefl,gtrans:=W.gtrans
   frame:=fun i s h' tk st ht hk=>by
    cases i with
    |zero=>exact st.elim
    |succ i=>exact W.frame i s h' tk st ht hk
   item:=fun i s Q E hi st hQ=>by
    cases i with
    |zero=>exact st.elim
    |succ i=>exact W.item i s Q E (by omega) st fun v s' hP hst' hm=>hQ v s' hP hst' hm
   done:=W.done
   self:=fun i s Q E st hQ=>by
    cases i with
    |zero=>exact st.elim
    |succ i=>exact W.self i s Q E st hQ }
 have hval':∀i v,shP P i v→∃t,v=.int (val i) t:=fun i v h=>by
  cases i with
  |zero=>exact h.elim
  |succ i=>exact hval i v h
 refine codeAny_call_builtin F.plain_sum F.entry_sum ?_
 simp only[checkBuiltinCall,F.kind_sum]
 have hargs:wpAny (model prog w) A.in1 (Builtin.«sum» ⟨[.ref I,.int n0 tn],[]⟩) (fun fin s'=>match fin with | .done f=>R (.ok f) s' | .again c'=>c'.quiet=true∧codeAny (model prog w) A c' R s') (fun e s'=>R (.error e) s') s:=by
  unfold Builtin.«sum»
  simp only[List.length_cons,List.length_nil]
  rw[if_neg (by decide)]
  refine wpAny_bind (wpAny_of_eq (show Builtin.Builtins.bindParams "sum" ["start"] 0 ⟨[.int n0 tn],[]⟩=pure [some (.int n0 tn)] from rfl) ?_)
  refine wpAny_bind (W.self 0 s _ _ hst ?_)
  have fin:∀(tk:Nat) (tA:Tok) (st:Int),s.toks≤tk→(st=0∨st=2)→codeAny (model prog w) A (.builtin "sum.loop" ⟨[.ref I,.ref s.heap.objs.size,rawInt st,rawInt 0],[]⟩) R
    { s with heap:=s.heap.push { cls:=.type "list", data:=.seq #[.int n0 tA] },toks:=tk }:=fun tk tA st htk hst2=>by
   have hSf:s.heap.objs.size∉fp:=fun hm=>Nat.lt_irrefl _ (hfp _ hm)
   have hp1:preSum val 1=n0:=by show 0+val 0=n0;rw[h0];omega
   refine codeAny_sum_loopAnyS W' val hval' s.heap.objs.size hSf n 1 _ tA 0 st hst2 (by omega) (by omega)
    (W.frame 0 s _ _ hst htk fun b _ o e=>Heap.get?_push_of_some _ e) (by rw[hp1];exact Heap.get?_push_size _ rfl) fun s' t' hm=>?_
   refine hR s' t' ⟨fun b o hb e=>hm.heap b o hb (Heap.get?_push_of_some _ e),hm.gens,hm.drawn,hm.os,Nat.le_trans htk hm.toks⟩
  have rest:∀(tk:Nat) (tA:Tok) (st:Int),s.toks≤tk→(st=0∨st=2)→wpAny (model prog w) A.in1 (do
    for (ty,what,hint) in [("str", "strings", "''"),("bytes", "bytes", "b''"),("bytearray", "bytearray", "b''")] do
     if ←isInstance (.int n0 tA) (.type ty) then
      rule "sum.start-refused"; raiseError "TypeError" s!"sum() can't sum {what} [use {hint}.join(seq) instead]"
    again (.builtin "sum.loop" ⟨[.ref I,←newList [.int n0 tA],rawInt st,rawInt 0],[]⟩)) (fun fin s'=>match fin with | .done f=>R (.ok f) s' | .again c'=>c'.quiet=true∧codeAny (model prog w) A c' R s') (fun e s'=>R (.error e) s') { s with toks:=tk }:=fun tk tA st htk hst2=>by
   simp only[List.forIn_cons,List.forIn_nil]
   refine wpAny_bind (wpAny_bind (wpAny_bind (wpAny_isInstance (T:= "int") (b:=false) (typeIs_int _ _ _) PySem.sub_int_str ?_)))
   simp only[Bool.false_eq_true,if_false]
   refine wpAny_pure (wpAny_bind (wpAny_bind (wpAny_isInstance (T:= "int") (b:=false) (typeIs_int _ _ _) PySem.sub_int_bytes ?_)))
   simp only[Bool.false_eq_true,if_false]
   refine wpAny_pure (wpAny_bind (wpAny_bind (wpAny_isInstance (T:= "int") (b:=false) (typeIs_int _ _ _) PySem.sub_int_bytearray ?_)))
   simp only[Bool.false_eq_true,if_false]
   refine wpAny_pure (wpAny_pure ?_)
   refine wpAny_bind (wpAny_newObj_type ?_)
   exact wpAny_pure ⟨plainId_quiet F.plain_sum_loop _,fin tk tA st htk hst2⟩
  show wpAny (model prog w) A.in1 (if (_:Bool)=true then _ else _) _ _ s
  split
  ·refine wpAny_bind (wpAny_rule (wpAny_bind (wpAny_mkInt (wpAny_bind (wpAny_pure ?_)))))
   exact rest (s.toks+1) s.toks 0 (Nat.le_succ _) (.inl rfl)
  ·refine wpAny_bind (wpAny_pure ?_)
   exact rest s.toks tn 2 (Nat.le_refl _) (.inr rfl)
 have ha:=args_sum2 (.ref I) (.int n0 tn)
 cases hsig:Manifest.signature? "sum" with
 |none=>exact wpAny_pure hargs
 |some sig=>
  simp only[argsOk,hsig] at ha
  show wpAny _ _ (Bind.checkArgs "sum" sig ⟨[.ref I,.int n0 tn],[]⟩) _ _ s
  rw[ha];exact wpAny_pure hargs
end
def liveTail(tl:zh)(ps:List Part):Prop:=∀p∈zb ps,p∈tl
theorem tail_get{tl:zh}{ps:List Part}{s:Shared}(h:liveTail tl ps)(ht:∀p∈tl,p.2.isFreed=false→s.heap.get? p.1=some p.2):∀p∈zb ps,s.heap.get? p.1=some p.2:=fun p hp=>by
 refine ht p (h p hp) ?_
 obtain⟨q,_,rfl⟩:=List.mem_map.mp hp
 rfl
theorem eff_dead{s s':Shared}{C I g:Nat}{oC oI:Obj}{x:GenState}{more:zh}{wr:List Addr}(hh:∀b o,b∉wr→s.heap.get? b=some o→s'.heap.get? b=some o)(hgn:GenOnlyQ g s.gens s'.gens)(ho:s'.os=s.os)(hw:∀b∈wr,b=C∨b=I∨s.heap.objs.size≤b) :
  Eff s s' ((C,oC)::(I,oI)::more) [(g,x)] [wB,wB] [] [] where
 heap b o h q:=hh b o (fun hb=>by
   rcases hw b hb with rfl|rfl|hb
   ·exact q (b,oC) (by simp) rfl
   ·exact q (b,oI) (by simp) rfl
   ·exact absurd (Heap.lt_size h) (Nat.not_lt.mpr hb)) h
 posts p hp hf:=by
   simp only[List.map_cons,List.zip_cons_cons,List.zip_nil_right,List.mem_cons,List.not_mem_nil,or_false] at hp
   rcases hp with rfl|rfl<;>cases hf
 news p hp:=by simp at hp
 nodup:=List.nodup_nil
 gens k st h q:=(gens_keep hgn).1 k st h (q (g,x) (.head _))
 bare:=(gens_keep hgn).2
 os:=ho
theorem xSum_ok{C:Cfg}{w:World}{F:List Frame}{P:Params}{V:TopV}{ps:List Part}(U:Under C F)(hT:liveTail C.tail ps):ExtOk C w F (xSum P V ps):=by
 refine ExtOk.leafM U fun prog s d c wh objs gs y hm hg hgs ht hy hlg hp=>?_
 split at hy<;>try(cases hy;done)
 rename_i id a n0 tn
 split at hy<;>try(cases hy;done)
 rename_i hid
 have hid:=zv hid (s:= "sum") (by decide +kernel)
 subst hid
 split at hy<;>try(cases hy;done)
 rename_i lg hM
 simp only[Option.some.injEq] at hy
 subst hy
 have hsm':=smallB_ok (LV.b.inj (hp _ (.head _)))
 obtain⟨C',I,g,oC,oI,more,x,fp,St,rfl,rfl,hfp,hTy,W,hst⟩:=gMatch_ok (prog:=prog) (w:=w) (elt:=eltLen) (tl:=C.tail) (s:=s) (fun i y=>∃t,y=.int (pVal n0 ps (i+1)) t) rfl rfl rfl (fun _ _ _=>by kernel_rfl) (fun _ _ _=>by kernel_rfl) hM hlg hg hgs (tail_get hT ht)
  (yf wh).in1 rfl rfl (fun q C cd A' E' i p s₂ m₂ hp hn hf hpt h3 h0=>wpAny_mono (elt_len h3 h0 hn hf hpt (hsm' p (List.mem_of_getElem? hp)).1 (hsm' p (List.mem_of_getElem? hp)).2)
   (fun y s₃ h=>by
    obtain⟨⟨t,rfl⟩,hk⟩:=h
    exact⟨⟨t,by simp only[pVal,hp];rfl⟩,hk⟩) fun _ _ e=>e)
 refine .of_codeAny (sum_start (val:=pVal n0 ps) W hst hfp (fun i v h=>h.2) rfl fun s' t' hm=>?_)
 rw[uT n0 ps ps.length (Nat.le_refl _),List.take_length]
 exact⟨[],.of t',rfl,fun z hz=>(by cases hz),rfl,eff_dead hm.heap hm.gens hm.os fun b hb=>by
  simp only[List.mem_cons,List.not_mem_nil,or_false] at hb
  rcases hb with rfl|rfl|rfl
  ·exact .inr (.inr (Nat.le_refl _))
  ·exact .inl rfl
  ·exact .inr (.inl rfl)⟩
def Part.txt(p:Part):Str:=⟨p.F.cps++p.S.cps⟩
def zW(ps:List Part):Str:=Txt.join ⟨#[]⟩ (ps.map Part.txt)
def xJoinG(P:Params)(V:TopV)(ps:List Part):Ext:=mkG 7 (fun _=>0) true (fun _ c wh objs gs=>match c with
 | .call (.builtin id) ⟨[.str ⟨⟨[]⟩⟩ tn,.ref a],[]⟩=>match idB id 8028352891401237876 with
  |true=>gMatch genStr scStr P V ps wh objs gs a
  |false=>none
 | _=>none) (fun y=>y) (fun _=>[(.b (zG ps),.b true),(.b (decide (ps.length≤40)),.b true)]) (fun y _ t=>⟨.ok (.ret (.str (zW ps) (t.tok 0))),[wB,wB],[]⟩)
theorem foldl_len:∀(l:List Str) (n:Nat),l.foldl (fun(x:Nat) (y:Str)=>x+y.length+(⟨#[]⟩:Str).length) n=n+(l.map Str.length).sum
 |[],n=>by simp
 |x::l,n=>by
  rw[List.foldl_cons,foldl_len l]
  simp[Str.length]
  omega
theorem txt_sum:∀(ps:List Part),(∀p∈ps,p.F.length≤1000∧p.S.length≤1000)→((ps.map Part.txt).map Str.length).sum≤2000*ps.length
 |[],_=>by simp
 |p::ps,h=>by
  have h1:=txt_sum ps fun q hq=>h q (.tail _ hq)
  have h2:=h p (.head _)
  have h3:p.txt.length=p.F.length+p.S.length:=by simp[Part.txt,Str.length]
  simp only[List.map_cons,List.sum_cons,List.length_cons]
  omega
theorem xJoinG_ok{C:Cfg}{w:World}{F:List Frame}{P:Params}{V:TopV}{ps:List Part}(U:Under C F)(hT:liveTail C.tail ps):ExtOk C w F (xJoinG P V ps):=by
 refine ExtOk.leafM U fun prog s d c wh objs gs y hm hg hgs ht hy hlg hp=>?_
 split at hy<;>try(cases hy;done)
 rename_i id tn a
 split at hy<;>try(cases hy;done)
 rename_i hid
 have hid:=zv hid (s:= "str.join") (by decide +kernel)
 subst hid
 have hsm':=smallB_ok (LV.b.inj (hp _ (.head _)))
 have hlen:ps.length≤40:=of_decide_eq_true (LV.b.inj (hp _ (.tail _ (.head _))))
 obtain⟨C',I,g,oC,oI,more,x,fp,St,rfl,rfl,hfp,hTy,W,hst⟩:=gMatch_ok (prog:=prog) (w:=w) (elt:=eltStr) (tl:=C.tail) (s:=s) (fun i y=>∃p t,ps[i]?=some p∧y=.str p.txt t) rfl rfl rfl (fun _ _ _=>by kernel_rfl) (fun _ _ _=>by kernel_rfl) hy hlg hg hgs (tail_get hT ht)
  (yf wh).in1.in1 rfl rfl (fun q C cd A' E' i p s₂ m₂ hp hn hf hpt h3 h0=>wpAny_mono (elt_str h3 hn hf hpt (hsm' p (List.mem_of_getElem? hp)).1 (hsm' p (List.mem_of_getElem? hp)).2)
   (fun y s₃ h=>by
    obtain⟨⟨t,rfl⟩,hk⟩:=h
    exact⟨⟨p,t,hp,rfl⟩,hk⟩) fun _ _ e=>e)
 have hIn:a∈a::C'::fp:=.head _
 have h:=SC.joinGen (prog:=prog) (w:=w) (A:=yf wh) (E:=fun _ _=>False) (s:=s) (x:=⟨#[]⟩) (t:=tn) (Q:=fun v s'=>∃t' s₀ k,v=.str (zW ps) t'∧s'={ s₀ with toks:=k }∧Moved (C'::[I]) (GenOnlyQ g) s s₀) W hTy hst hfp hIn
  (fun i v hv=>by obtain⟨_,p,t,_,rfl⟩:=hv;exact⟨_,_,rfl⟩) (fun s' l hmv hit=>by
   have hl:l.map (·.1)=ps.map Part.txt:=by
    have hsz:=hit.1
    simp only[List.size_toArray,strValues,List.length_map] at hsz
    refine List.ext_getElem (by simpa using hsz) fun i h1 h2=>?_
    have h1':i < l.length:=by simpa using h1
    have h2':i < ps.length:=by simpa using h2
    obtain⟨_,p,t,hp,hv⟩:=hit.2 i (.str l[i].1 l[i].2) (by simp[strValues,h1'])
    rw[List.getElem?_eq_getElem h2'] at hp
    cases hp
    simp only[List.getElem_map]
    exact(Value.str.inj hv).1
   rw[hl]
   refine⟨?_,fun t' k=>⟨t',s',k,rfl,rfl,hmv⟩⟩
   unfold JoinOk
   rw[List.foldl_toArray,foldl_len]
   rw[tooLong_of]
   ·rfl
   ·have:=txt_sum ps hsm'
    omega) (by rw[sizeLine_eq];omega)
 refine(show ∀{R R':Result→Shared→Prop} {c},CallsAt (model prog w) wh c R s→(∀r s',R r s'→R' r s')→CallsAt (model prog w) wh c R' s from fun hc hi Γ p hh hw=>by
  obtain⟨r,s',hr,hq⟩:=hc Γ p hh hw
  exact⟨r,s',hr,hi _ _ hq⟩) (CallsAt.of_wpAny h) fun r s' hr=>?_
 obtain⟨v,rfl,t',s₀,k,rfl,rfl,hmv⟩:=hr
 exact⟨[],.of t',rfl,fun z hz=>(by cases hz),rfl,eff_dead hmv.heap hmv.gens hmv.os fun b hb=>by
  simp only[List.mem_cons,List.not_mem_nil,or_false] at hb
  rcases hb with rfl|rfl
  ·exact .inl rfl
  ·exact .inr (.inl rfl)⟩
end Mine
end
noncomputable section
open PySem PySem.W
set_option maxRecDepth 100000
namespace Mine
structure FnR where
 b:List Stmt
 e:Env
 p:Pos
def FnR.cp(r:FnR):Code × Pos:=(.func r.b r.e,r.p)
structure LpR where
 t:Expr
 i:Value
 b:List Stmt
 o:List Stmt
 e:Env
 p:Pos
def LpR.cp(r:LpR):Code × Pos:=(.forLoop r.t r.i r.b r.o r.e,r.p)
structure BkR where
 b:List Stmt
 e:Env
 p:Pos
def BkR.cp(r:BkR):Code × Pos:=(.block r.b r.e,r.p)
structure ClR where
 a:Args
 p:Pos
def ClR.cp(r:ClR):Code × Pos:=(.builtin "claim.caller" r.a,r.p)
inductive Nx where
 |lp (l:LpR) (f1 f2:FnR) (c:ClR)
 |st (f0 f1 f2:FnR) (c:ClR)
 |bk (k:BkR) (f0:FnR) (l:LpR) (f1 f2:FnR) (c:ClR)
def Nx.W:Nx→List (Code × Pos)
 | .lp l f1 f2 c=>[l.cp,f1.cp,f2.cp,c.cp]
 | .st f0 f1 f2 c=>[f0.cp,f1.cp,f2.cp,c.cp]
 | .bk k f0 l f1 f2 c=>[k.cp,f0.cp,l.cp,f1.cp,f2.cp,c.cp]
def nx?:List (Code × Pos)→Option Nx
 |[(.forLoop t i b o e,p),(.func b1 e1,p1),(.func b2 e2,p2),(.builtin id a,pc)]=>match idB id 35714603318786955769505017188 with
  |true=>some (.lp ⟨t,i,b,o,e,p⟩ ⟨b1,e1,p1⟩ ⟨b2,e2,p2⟩ ⟨a,pc⟩)
  |false=>none
 |[(.func b0 e0,p0),(.func b1 e1,p1),(.func b2 e2,p2),(.builtin id a,pc)]=>match idB id 35714603318786955769505017188 with
  |true=>some (.st ⟨b0,e0,p0⟩ ⟨b1,e1,p1⟩ ⟨b2,e2,p2⟩ ⟨a,pc⟩)
  |false=>none
 |[(.block b e,p),(.func b0 e0,p0),(.forLoop t i bb o ee,pp),(.func b1 e1,p1),(.func b2 e2,p2),(.builtin id a,pc)]=>match idB id 35714603318786955769505017188 with
  |true=>some (.bk ⟨b,e,p⟩ ⟨b0,e0,p0⟩ ⟨t,i,bb,o,ee,pp⟩ ⟨b1,e1,p1⟩ ⟨b2,e2,p2⟩ ⟨a,pc⟩)
  |false=>none
 | _=>none
theorem nx?_ok{l:List (Code × Pos)}{x:Nx}(h:nx? l=some x):l=x.W:=by
 unfold nx? at h
 split at h<;>try(cases h;done)
 all_goals
  split at h<;>try(cases h;done)
  rename_i hb
  have hb:=zv hb (s:= "claim.caller") (by decide +kernel)
  subst hb
  simp only[Option.some.injEq] at h
  subst h
  rfl
inductive Lx where
 |nl (f:FnR) (x:Nx)
 |ow (f g:FnR) (x:Nx)
def Lx.W:Lx→List (Code × Pos)
 | .nl f x=>f.cp::x.W
 | .ow f g x=>f.cp::g.cp::x.W
def lx?:List (Code × Pos)→Option Lx
 |(.func b e,p)::r=>match nx? r with
  |some x=>some (.nl ⟨b,e,p⟩ x)
  |none=>match r with
   |(.func b' e',p')::r'=>match nx? r' with
    |some x=>some (.ow ⟨b,e,p⟩ ⟨b',e',p'⟩ x)
    |none=>none
   | _=>none
 | _=>none
theorem lx?_ok{l:List (Code × Pos)}{x:Lx}(h:lx? l=some x):l=x.W:=by
 unfold lx? at h
 split at h<;>try(cases h;done)
 split at h
 ·rename_i hx
  simp only[Option.some.injEq] at h
  subst h
  rw[nx?_ok hx];rfl
 ·split at h<;>try(cases h;done)
  split at h<;>try(cases h;done)
  rename_i hx
  simp only[Option.some.injEq] at h
  subst h
  rw[nx?_ok hx];rfl
end Mine
end
noncomputable section
open PyProof.Rows PySem PySem.W
set_option maxRecDepth 100000
set_option maxHeartbeats 0
namespace Mine
def memArr(l c:Int):Option Addr→Array Value
 |none=>#[]
 |some a=>#[.int l 0,.int c 0,.ref a]
def zn(l c:Int)(m:Option Addr):Obj:=⟨.none,none,.fields (memArr l c m),#[]⟩
def kOf(o:Option Out):Result→Sem PySem.Fin:=match o with
 |some o=>match o.cur with
  | .call _ _ _ _ k=>k
  | _=>fun _=>.unsupported ""
 |none=>fun _=>.unsupported ""
structure Acc where
 a:Addr
 d:Addr
 ps:List Part
 ep:Nat
 n:Int
 tk:Tok
 tn:Tok
 ep2:Nat
def Acc.slots(c:Acc)(P:Params)(V:TopV):zh:=[(c.a,z5 V c.d (ze c.ps) c.ep),(c.d,wt P c.tk c.n c.tn c.ep2)]
structure QL where
 w:World
 b2:Bool
 V:TopV
 c:Acc
 cA:Addr
 p0:Pos
 x:Lx
def QL.P(q:QL)(b1:Bool):Params:=(vU q.w b1 q.b2).params
def ub(b1:Bool)(m:Option Addr)(c:Code)(q:QL):Start:=⟨cfg (q.P b1) q.V q.x.W 3 (zb q.c.ps),[xSum (q.P b1) q.V q.c.ps],(q.V.av 284,zn 124 19 m)::q.c.slots (q.P b1) q.V,[],zx c,c,q.p0,[]⟩
def lenC(q:QL):Code:=.call (.builtin "len") ⟨[.ref q.c.a],[]⟩
def wk(q:QL):Code:=.builtin "len" ⟨[.ref q.c.a],[]⟩
def uF(b1:Bool)(q:QL):Result→Sem PySem.Fin:=kOf ((ub b1 none (wk q) q).run (fun _=>0) (fun _=>.of 0) (fun _=>0) 5 [3,644,644,642,578])
def tpLen0:List Nat:=[3,644,644,642,578,0,578,576,7,3,4,6,0,7,3,644,644,642,3,644,644,642,0,3,644,9,4,576,5,5,2,5,6,8,17,8,7,3,644,644,642,644,644,642,0,3,644,3,644,644,642,3,3,644,1,1,0,17,9,19,3,6,0,4]
def tpLen1:List Nat:=[3,644,644,642,578,0,578,576,7,3,4,6,0,7,3,644,644,642,3,644,644,642,0,3,644,9,4,576,5,6,8,11,5,7,3,644,644,642,644,644,642,0,3,644,3,644,644,642,3,3,644,1,1,0,11,9,13,3,6,0,4]
theorem r_lenB0(b1:Bool)(q:QL)(α:Nat→Addr)(τ:Nat→Ch)(γ:Nat→Nat):lhs 3 [7,8,9] ((ub b1 none (wk q) q).run α τ γ 95 tpLen0) =
  rhs 7 ⟨uF b1 q (.ok (.ret (.int (q.c.n+total q.c.ps) ((τ 10).tok 0)))),wk q,q.p0,[],(q.V.av 284,zn 124 19 (some (α 4)))::q.c.slots (q.P b1) q.V,[],[(.b (zG q.c.ps),.b true)]⟩ ((ub b1 none (wk q) q).run α τ γ 95 tpLen0):=by
 obtain⟨w,b2,V,c,cA,p0,x⟩:=q
 cases b1<;>cases x with
 |nl f x=>cases x<;>kernel_rfl
 |ow f g x=>cases x<;>kernel_rfl
theorem r_lenB1(b1:Bool)(q:QL)(α:Nat→Addr)(τ:Nat→Ch)(γ:Nat→Nat):lhs 3 [4,5,6] ((ub b1 (some q.cA) (wk q) q).run α τ γ 84 tpLen1) =
  rhs 4 ⟨uF b1 q (.ok (.ret (.int (q.c.n+total q.c.ps) ((τ 5).tok 0)))),wk q,q.p0,[],(q.V.av 284,zn 124 19 (some q.cA))::q.c.slots (q.P b1) q.V,[],[(.b (zG q.c.ps),.b true)]⟩ ((ub b1 (some q.cA) (wk q) q).run α τ γ 84 tpLen1):=by
 obtain⟨w,b2,V,c,cA,p0,x⟩:=q
 cases b1<;>cases x with
 |nl f x=>cases x<;>kernel_rfl
 |ow f g x=>cases x<;>kernel_rfl
theorem r_lenC0(b1:Bool)(q:QL)(α:Nat→Addr)(τ:Nat→Ch)(γ:Nat→Nat):lhs 3 [7,8,9] ((ub b1 none (lenC q) q).run α τ γ 96 tpLen0) =
  rhs 7 ⟨uF b1 q (.ok (.ret (.int (q.c.n+total q.c.ps) ((τ 10).tok 0)))),wk q,q.p0,[],(q.V.av 284,zn 124 19 (some (α 4)))::q.c.slots (q.P b1) q.V,[],[(.b (zG q.c.ps),.b true)]⟩ ((ub b1 none (lenC q) q).run α τ γ 96 tpLen0):=by
 obtain⟨w,b2,V,c,cA,p0,x⟩:=q
 cases b1<;>cases x with
 |nl f x=>cases x<;>kernel_rfl
 |ow f g x=>cases x<;>kernel_rfl
theorem r_lenC1(b1:Bool)(q:QL)(α:Nat→Addr)(τ:Nat→Ch)(γ:Nat→Nat):lhs 3 [4,5,6] ((ub b1 (some q.cA) (lenC q) q).run α τ γ 85 tpLen1) =
  rhs 4 ⟨uF b1 q (.ok (.ret (.int (q.c.n+total q.c.ps) ((τ 5).tok 0)))),wk q,q.p0,[],(q.V.av 284,zn 124 19 (some q.cA))::q.c.slots (q.P b1) q.V,[],[(.b (zG q.c.ps),.b true)]⟩ ((ub b1 (some q.cA) (lenC q) q).run α τ γ 85 tpLen1):=by
 obtain⟨w,b2,V,c,cA,p0,x⟩:=q
 cases b1<;>cases x with
 |nl f x=>cases x<;>kernel_rfl
 |ow f g x=>cases x<;>kernel_rfl
def lenTS(b1:Bool)(q:QL)(t:Tok)(d:Nat):Start:=⟨cfg (q.P b1) q.V q.x.W 3 (zb q.c.ps),[],(q.V.av 284,zn 124 19 (some q.cA))::q.c.slots (q.P b1) q.V,[],
 uF b1 q (.ok (.ret (.int (Int.ofNat d) t))),wk q,q.p0,[]⟩
def upTo:Nat→Nat→List Nat
 | _,0=>[]
 |i,n+1=>i::upTo (i+1) n
theorem r_lenT(b1:Bool)(q:QL)(t:Tok)(α:Nat→Addr)(τ:Nat→Ch)(γ:Nat→Nat):(upTo 0 100).map (fun d=>lhs 3 [0,1,2] ((lenTS b1 q t d).run α τ γ 2 [])) =
  (upTo 0 100).map fun d=>rhs 0 ⟨.pure (.done (.ret (.int (Int.ofNat d) ((τ 0).tok 0)))),wk q,q.p0,[],(q.V.av 284,zn 124 19 (some q.cA))::q.c.slots (q.P b1) q.V,[],[]⟩ ((lenTS b1 q t d).run α τ γ 2 []):=by
 cases b1<;>kernel_rfl
theorem upTo_mem:∀{i n k:Nat},i≤k→k < i+n→k∈upTo i n
 |i,0,k,h1,h2=>by omega
 |i,n+1,k,h1,h2=>by
  by_cases e:i=k
  ·subst e;exact .head _
  ·exact .tail _ (upTo_mem (by omega) (by omega))
theorem of_maps{β γ:Type}{f g:β→γ}:∀{l:List β},l.map f=l.map g→∀x∈l,f x=g x
 |[],_,_,h=>by cases h
 |y::l,e,x,h=>by
  simp only[List.map_cons,List.cons.injEq] at e
  rcases List.mem_cons.mp h with rfl|h
  ·exact e.1
  ·exact of_maps e.2 x h
end Mine
end
noncomputable section
open PyProof.Rows PySem PySem.W
set_option maxRecDepth 100000
namespace Mine
theorem zl:Lg.Ok []:=fun _ h=>by cases h
theorem xi{C:Cfg}{w:World}{F:List Frame}{E:Ext}(h:ExtOk C w F E):∀e E',nth [E] e=some E'→ExtOk C w F E'
 |0,E',e=>by simp only[nth,Option.some.injEq] at e;exact e▸h
 | _+1,E',e=>by simp[nth] at e
theorem no_ext{C:Cfg}{w:World}{F:List Frame}:∀e E',nth [] e=some E'→ExtOk C w F E':=fun e E' h=>by simp[nth] at h
theorem Rel.perm{C:Cfg}{T T' G s}(R:Rel C T G s)(h:T.Perm T'):Rel C T' G s:=
 R.sub (fun p hp=>h.mem_iff.mpr hp) ((h.map _).nodup_iff.mp R.nodup) (fun _ hp=>hp) R.gnodup
def exLg:List Part→zh→Option Lg
 |[],[]=>some []
 |p::ps,(y,o)::r=>match exLg ps r with
  |some l=>some ((.n y,.n p.a)::(.o o,.o (vd p.F p.tF p.S p.tS))::l)
  |none=>none
 | _,_=>none
def exObjs(ps:List Part):List Obj:=ps.map fun p=>vd p.F p.tF p.S p.tS
theorem exObjs_zip(ps:List Part):((zb ps).map (·.1)).zip (exObjs ps)=zb ps:=by
 induction ps with
 |nil=>rfl
 |cons p ps ih=>
  exact congrArg (List.cons _) ih
def memoOf:List Value→Option Addr
 |[_,_,.ref a]=>some a
 | _=>none
structure LenY where
 x:Lx
 m:Option Addr
 d:Nat
 lg:Lg
theorem Under.at{C:Cfg}{F:List Frame}{wh:List (Code × Pos)}{m:Nat}{C':Cfg}(U:Under (C.at wh m) F)(h:C'.W=wh):Under C' F:=⟨U.wh.trans h.symm,U.hd,U.past⟩
end Mine
end
noncomputable section
open PyProof.Rows PySem PySem.W
set_option maxRecDepth 100000
set_option maxHeartbeats 0
namespace Mine
def strC(c:Acc):Code:=.call (.type "str") ⟨[.ref c.a],[]⟩
def strS(b1:Bool)(m:Option Addr)(q:QL):Start:=⟨cfg (q.P b1) q.V q.x.W 3 (zb q.c.ps),[xJoinG (q.P b1) q.V q.c.ps],(q.V.av 291,zn 127 32 m)::q.c.slots (q.P b1) q.V,[],zx (strC q.c),strC q.c,q.p0,[]⟩
def tpStr0:List Nat:=[0,3,644,644,642,592,0,592,590,7,3,4,6,7,3,644,644,642,3,644,644,642,0,3,644,9,4,590,5,5,2,5,6,8,17,8,1,0,17,9,19,3,6,0,4,0]
def tpStr1:List Nat:=[0,3,644,644,642,592,0,592,590,7,3,4,6,7,3,644,644,642,3,644,644,642,0,3,644,9,4,590,5,6,8,11,5,1,0,11,9,13,3,6,0,4,0]
theorem r_str0(b1:Bool)(q:QL)(α:Nat→Addr)(τ:Nat→Ch)(γ:Nat→Nat):lhs 3 [7,8,9] ((strS b1 none q).run α τ γ 79 tpStr0) =
  rhs 7 ⟨.pure (.done (.ret (.str (zW q.c.ps) ((τ 9).tok 0)))),.builtin "type.__call__" ⟨[.type "str", .ref q.c.a],[]⟩,q.p0,[],(q.V.av 291,zn 127 32 (some (α 4)))::q.c.slots (q.P b1) q.V,[],[(.b (zG q.c.ps),.b true),(.b (decide (q.c.ps.length≤40)),.b true)]⟩ ((strS b1 none q).run α τ γ 79 tpStr0):=by
 obtain⟨w,b2,V,c,cA,p0,x⟩:=q
 cases b1<;>cases x with
 |nl f x=>cases x<;>kernel_rfl
 |ow f g x=>cases x<;>kernel_rfl
theorem r_str1(b1:Bool)(q:QL)(α:Nat→Addr)(τ:Nat→Ch)(γ:Nat→Nat):lhs 3 [4,5,6] ((strS b1 (some q.cA) q).run α τ γ 68 tpStr1) =
  rhs 4 ⟨.pure (.done (.ret (.str (zW q.c.ps) ((τ 4).tok 0)))),.builtin "type.__call__" ⟨[.type "str", .ref q.c.a],[]⟩,q.p0,[],(q.V.av 291,zn 127 32 (some q.cA))::q.c.slots (q.P b1) q.V,[],[(.b (zG q.c.ps),.b true),(.b (decide (q.c.ps.length≤40)),.b true)]⟩ ((strS b1 (some q.cA) q).run α τ γ 68 tpStr1):=by
 obtain⟨w,b2,V,c,cA,p0,x⟩:=q
 cases b1<;>cases x with
 |nl f x=>cases x<;>kernel_rfl
 |ow f g x=>cases x<;>kernel_rfl
structure StrY where
 x:Lx
 m:Option Addr
 lg:Lg
end Mine
end
noncomputable section
open PyProof.Rows PySem PySem.W
namespace Mine
structure Wd where
 w:World
 b1:Bool
 b2:Bool
 V0:TopV
 hw:w=vU w b1 b2
def Wd.P(K:Wd):Params:=(vU K.w K.b1 K.b2).params
def Wd.V(K:Wd):TopV:={ K.V0 with av:=fun n=>n }
structure St where
 cur:Sem PySem.Fin
 code:Code
 pos:Pos
 fs:List Frame
 T:zh
structure Und (W:List (Code × Pos)) (F:List Frame):Prop where
 wh:F.map Frame.where_=W
 hd:topHandled F=none
 past:topHandled.go true F=none
theorem Und.under{W:List (Code × Pos)}{F:List Frame}(U:Und W F){C:Cfg}(h:C.W=W):Under C F:=⟨U.wh.trans h.symm,U.hd,U.past⟩
theorem Und.of{C:Cfg}{F:List Frame}(U:Under C F):Und C.W F:=⟨U.wh,U.hd,U.past⟩
abbrev RB(K:Wd)(T:zh)(s:Shared):Prop:=Rel (cfg K.P K.V [] 1 []) T [] s
def Seg(K:Wd)(W:List (Code × Pos))(a:St)(B:St→Prop):Prop:=
 ∀s F,Und W F→RB K a.T s→∃b s',B b∧Comes (model progP K.w) s ⟨a.cur,a.code,a.pos,a.fs++F⟩ s' ⟨b.cur,b.code,b.pos,b.fs++F⟩∧RB K b.T s'∧Kp a.T [] s s'∧Old a.T b.T s.heap.objs.size
section
variable {K:Wd} {W:List (Code × Pos)} {a:St} {B B':St→Prop}
theorem Seg.refl(h:B a):Seg K W a B:=fun s F U R=>⟨a,s,h,.refl _ _,R,.refl ..,.keys fun _ q=>q⟩
theorem Seg.mono(h:Seg K W a B)(m:∀b,B b→B' b):Seg K W a B':=fun s F U R=>
 let ⟨b,s',hb,r⟩:=h s F U R
 ⟨b,s',m b hb,r⟩
theorem Seg.trans(h:Seg K W a B)(h':∀b,B b→Seg K W b B'):Seg K W a B':=fun s F U R=>by
 obtain⟨b,s₁,hb,c₁,R₁,K₁,o₁⟩:=h s F U R
 obtain⟨b',s₂,hb',c₂,R₂,K₂,o₂⟩:=h' b hb s₁ F U R₁
 exact⟨b',s₂,hb',.trans c₁ c₂,R₂,K₁.trans_sub K₂ o₁.ne (fun _ _ _ q=>q),o₁.trans o₂ K₁.size⟩
theorem Seg.post(h:Seg K W a B)(m:∀b,B b→∃b' rest,B' b'∧b'.cur=b.cur∧b'.code=b.code∧b'.pos=b.pos∧b'.fs=b.fs∧b.T.Perm (b'.T++rest)):Seg K W a B':=fun s F U R=>by
 obtain⟨b,s',hb,c,R',K',o⟩:=h s F U R
 obtain⟨b',rest,hb',e1,e2,e3,e4,hp⟩:=m b hb
 have sb:∀p∈b'.T,p∈b.T:=fun p hq=>hp.mem_iff.mpr (List.mem_append_left _ hq)
 refine⟨b',s',hb',by rw[e1,e2,e3,e4];exact c,R'.sub sb ?_ (fun _ q=>q) List.nodup_nil,K',fun p hq=>o p (sb p hq)⟩
 have:=(hp.map (·.1)).nodup_iff.mp R'.nodup
 rw[List.map_append] at this
 exact(List.nodup_append.mp this).1
theorem Seg.pre{T rest:zh}(hp:a.T.Perm (T++rest))(hl:∀p∈rest,p.2.isFreed=false→True)(h:Seg K W { a with T:=T } B):Seg K W a B:=fun s F U R=>by
 have sb:∀p∈T,p∈a.T:=fun p hq=>hp.mem_iff.mpr (List.mem_append_left _ hq)
 have nd:=(hp.map (·.1)).nodup_iff.mp R.nodup
 rw[List.map_append] at nd
 obtain⟨b,s',hb,c,R',K',o⟩:=h s F U (R.sub sb (List.nodup_append.mp nd).1 (fun _ q=>q) List.nodup_nil)
 refine⟨b,s',hb,c,R',⟨fun x o hx q=>K'.heap x o hx fun p hq=>q p (sb p hq),K'.gens,K'.os,K'.size⟩,fun p hq hl=>?_⟩
 obtain⟨q,hq',e⟩:=o p hq hl
 exact⟨q,sb q hq',e⟩
theorem Seg.perm{T:zh}(hp:a.T.Perm T)(h:Seg K W { a with T:=T } B):Seg K W a B:=
 Seg.pre (rest:=[]) (by rw[List.append_nil];exact hp) (fun _ h=>by cases h) h
theorem Seg.frame(R:zh)(hR:∀p∈R,p.2.isFreed=false)(h:Seg K W a B):Seg K W { a with T:=a.T++R } (fun b=>∃b',B b'∧b={ b' with T:=b'.T++R }):=fun s F U Re=>by
 have nd:=Re.nodup
 rw[List.map_append] at nd
 have nd':=List.nodup_append.mp nd
 have live:∀p∈R,s.heap.get? p.1=some p.2:=fun p hp=>Re.slots p (List.mem_append_right _ hp) (hR p hp)
 have out:∀p∈R,∀q∈a.T,q.1≠p.1:=fun p hp q hq e=>nd'.2.2 _ (List.mem_map_of_mem hq) _ (List.mem_map_of_mem hp) e
 obtain⟨b,s',hb,c,R',K',o⟩:=h s F U (Re.sub (fun p hp=>List.mem_append_left _ hp) nd'.1 (fun _ q=>q) List.nodup_nil)
 refine⟨{ b with T:=b.T++R },s',⟨b,hb,rfl⟩,c,⟨fun p hp hf=>?_,fun p hp=>?_,?_,R'.base,fun p hp L q hL=>?_,R'.gslots,R'.gnodup,R'.bare⟩,⟨fun x o hx q=>K'.heap x o hx fun p hq=>q p (List.mem_append_left _ hq),K'.gens,K'.os,K'.size⟩,fun p hp hl=>?_⟩
 ·rcases List.mem_append.mp hp with hp|hp
  ·exact R'.slots p hp hf
  ·exact K'.heap _ _ (live p hp) (out p hp)
 ·rcases List.mem_append.mp hp with hp|hp
  ·exact R'.bound p hp
  ·exact Nat.lt_of_lt_of_le (Re.bound p (List.mem_append_right _ hp)) K'.size
 ·show ((b.T++R).map (·.1)).Nodup
  rw[List.map_append,List.nodup_append]
  refine⟨R'.nodup,nd'.2.1,fun x hx y hy e=>?_⟩
  subst e
  obtain⟨p,hp,e1⟩:=List.mem_map.mp hx
  obtain⟨q,hq,e2⟩:=List.mem_map.mp hy
  exact o.ne _ _ (live q hq) (fun r hr=>out q hq r hr) p hp (e1.trans e2.symm)
 ·rcases List.mem_append.mp hp with hp|hp
  ·exact R'.apart p hp L q hL
  ·exact Re.apart p (List.mem_append_right _ hp) L q hL
 ·rcases List.mem_append.mp hp with hp|hp
  ·obtain⟨q,hq,e⟩:=o p hp hl
   exact⟨q,List.mem_append_left _ hq,e⟩
  ·exact⟨p,List.mem_append_right _ hp,rfl⟩
theorem base_362(P:Params)(V:TopV):base P V 362=some (V.av 362,o_362 P V):=by kernel_rfl
theorem Seg.go{X:List Ext}{n na m:Nat}{tp:List Nat}{T tl:zh}{cur:Sem PySem.Fin}{code:Code}{pos:Pos}{fs:List Frame}
  (hX:∀F,Under (cfg K.P K.V W m tl) F→∀e E,nth X e=some E→ExtOk (cfg K.P K.V W m tl) K.w F E)
  (x:(Nat→Addr)→(Nat→Ch)→(Nat→Nat)→Exp) (sel:List Nat)
  (h:∀α τ γ,lhs m sel (exec (cfg K.P K.V W m tl) X α τ γ n tp (T++tl) 0 0 [] 0 [] [] cur code pos fs)=rhs na (x α τ γ) (exec (cfg K.P K.V W m tl) X α τ γ n tp (T++tl) 0 0 [] 0 [] [] cur code pos fs))
  (hsel:ym sel=true) (hT:T.length=m) (hm:0 < m) (hpc:∀α τ γ,Lg.Ok (x α τ γ).pc) (hG:∀α τ γ,(x α τ γ).G=[]) :
  Seg K W ⟨cur,code,pos,fs,T++tl⟩ fun b=>∃α τ γ,(∀j,j < na→363≤α j)∧b=⟨(x α τ γ).cur,(x α τ γ).code,(x α τ γ).pos,(x α τ γ).fs,(x α τ γ).T++tl⟩:=fun s F U R=>by
 have O:=cfg_ok (V:=K.V) (W:=W) (n:=m) (tl:=tl) K.hw hm
 have U':Under (cfg K.P K.V W m tl) F:=U.under rfl
 obtain⟨α,τ,γ,s',c,R',K',f,o⟩:=go_of O U' (hX F U') x sel h hsel hT hpc (Rel.cfg (C:=cfg K.P K.V [] 1 []) rfl R)
 rw[hG] at R'
 exact⟨_,s',⟨α,τ,γ,fun j hj=>Nat.le_trans (Heap.lt_size (R.base 362 _ (base_362 K.P K.V))) (f j hj),rfl⟩,c,Rel.cfg (C:=cfg K.P K.V W m tl) rfl R',K',o⟩
end
def zipLg:zh→zh→Option Lg
 |[],[]=>some []
 |(y,o)::r,(y',o')::r'=>match zipLg r r' with
  |some l=>some ((.n y,.n y')::(.o o,.o o')::l)
  |none=>none
 | _,_=>none
theorem zipLg_ok:∀{r r':zh} {l:Lg},zipLg r r'=some l→Lg.Ok l→r=r'
 |[],[],_,_,_=>rfl
 |[],_::_,_,h,_=>by simp[zipLg] at h
 | _::_,[],_,h,_=>by simp[zipLg] at h
 |(y,o)::r,(y',o')::r',l,h,hl=>by
  unfold zipLg at h
  split at h
  ·rename_i l' hl'
   simp only[Option.some.injEq] at h
   subst h
   have e1:y=y':=LV.n.inj (hl _ (.head _))
   have e2:o=o':=LV.o.inj (hl _ (.tail _ (.head _)))
   rw[zipLg_ok hl' fun q hq=>hl q (.tail _ (.tail _ hq)),e1,e2]
  ·cases h
def fnX{S M:Type}(m:Nat)(k:Nat→Nat)(sh:List (Code × Pos)→Option S)(rd:Nat→Code→zh→Option M)(C:Nat→S→M→Code)(pre:Nat→S→M→zh)(pc:Nat→S→M→Lg)
  (out:Nat→S→M→List Addr→Ch→UOut):Ext:=
 mkE m k (Y:=Nat × S × M × Lg) (fun d c wh objs=>match sh wh with
  |some x=>match rd d c objs with
   |some μ=>match zipLg objs (pre d x μ) with
    |some l=>some (d,x,μ,(.c c,.c (C d x μ))::l)
    |none=>none
   |none=>none
  |none=>none) (fun y=>y.2.2.2) (fun y=>pc y.1 y.2.1 y.2.2.1) (fun y xs t=>out y.1 y.2.1 y.2.2.1 xs t)
theorem ExtOk.fn{K:Wd}{W:List (Code × Pos)}{n:Nat}{tl:zh}{F:List Frame}(U:Under (cfg K.P K.V W n tl) F)(htl:∀p∈tl,p.2.isFreed=false){S M:Type}{m:Nat}{k:Nat→Nat}{sh:List (Code × Pos)→Option S}{rd:Nat→Code→zh→Option M}
  {C:Nat→S→M→Code} {pre:Nat→S→M→zh} {pc:Nat→S→M→Lg} {out:Nat→S→M→List Addr→Ch→UOut} (Wof:S→List (Code × Pos)) (Good:S→Prop) (hsh:∀wh x,sh wh=some x→wh=Wof x∧Good x)
  (hlen:∀d c objs x μ xs t,rd d c objs=some μ→(out d x μ xs t).posts.length=m)
  (H:∀d x μ,Good x→Lg.Ok (pc d x μ)→(pre d x μ).length=m→∀pos,Seg K (Wof x) ⟨zx (C d x μ),C d x μ,pos,[],pre d x μ++tl⟩ (fun b=>∃xs t,xs.length=k d∧(out d x μ xs t).news.length=k d∧b.cur=leafOf (out d x μ xs t).res∧b.fs=[]∧
   b.T=xs.zip (out d x μ xs t).news++(((pre d x μ).map (·.1)).zip (out d x μ xs t).posts++tl))) :
  ExtOk (cfg K.P K.V W n tl) K.w F (fnX m k sh rd C pre pc out):=by
 refine ExtOk.user U wm htl (fun d c wh objs y xs t hy=>by
  split at hy<;>try(cases hy;done)
  split at hy<;>try(cases hy;done)
  rename_i μ hμ
  split at hy<;>try(cases hy;done)
  simp only[Option.some.injEq] at hy
  subst hy
  exact hlen _ _ _ _ _ _ _ hμ) ?_
 intro d c wh objs y hobj hpre hlg hpc s pos F' U' R'
 split at hpre<;>try(cases hpre;done)
 rename_i x hx
 split at hpre<;>try(cases hpre;done)
 rename_i μ hμ
 split at hpre<;>try(cases hpre;done)
 rename_i l hl
 simp only[Option.some.injEq] at hpre
 subst hpre
 dsimp only at hlg hpc ⊢
 obtain⟨hW,hgood⟩:=hsh _ _ hx
 subst hW
 have e1:c=C d x μ:=LV.c.inj (hlg _ (.head _))
 have e2:=zipLg_ok hl fun q hq=>hlg q (.tail _ hq)
 subst e1 e2
 obtain⟨b,s',⟨xs,t,h1,h2,h3,h4,h5⟩,c₁,R₁,K₁,o₁⟩:=H d x μ hgood hpc hobj pos s F' (Und.of U') (Rel.cfg (C:=(cfg K.P K.V W n tl).at (Wof x) m) rfl R')
 obtain⟨bcur,bcode,bpos,bfs,bT⟩:=b
 dsimp only at h3 h4 h5 c₁ R₁ o₁
 subst h3 h4 h5
 have nd:=R₁.nodup
 have hl2:=hlen _ _ _ x μ xs t hμ
 have ek:∀z∈xs,z < s.heap.objs.size→False:=fun z hz hlt=>by
  rw[List.map_append,List.map_append,List.map_fst_zip (by omega),List.map_fst_zip (by rw[List.length_map];omega)] at nd
  have hmem:z∈(xs.zip (out d x μ xs t).news).map (·.1):=by rw[List.map_fst_zip (by omega)];exact hz
  obtain⟨p,hp,rfl⟩:=List.mem_map.mp hmem
  obtain⟨q,hq,e⟩:=o₁ p (List.mem_append_left _ hp) hlt
  refine(List.nodup_append.mp nd).2.2 _ hz q.1 ?_ e.symm
  rw[←List.map_append]
  exact List.mem_map_of_mem hq
 exact⟨xs,t,h1,fun z hz=>Nat.le_of_not_lt (ek z hz),s',bcode,bpos,c₁,Rel.cfg (C:=cfg K.P K.V [] 1 []) rfl R₁,h1.trans h2.symm,K₁⟩
end Mine
end
noncomputable section
open PyProof.Rows PySem PySem.W
set_option maxRecDepth 100000
namespace Mine
structure Bag where
 b:Nat→List Stmt
 e:Nat→Env
 p:Nat→Pos
 t:Nat→Expr
 i:Nat→Value
 o:Nat→List Stmt
 a:Nat→Args
 d:Nat→Nat
 g:Nat→List Comprehension
 s:Nat→Scope
 q:Nat→Pos
def Wk:List Nat→Bag→Nat→List (Code × Pos)
 |[],_,_=>[]
 |0::r,x,n=>(.func (x.b n) (x.e n),x.p n)::Wk r x (n+1)
 |1::r,x,n=>(.forLoop (x.t n) (x.i n) (x.b n) (x.o n) (x.e n),x.p n)::Wk r x (n+1)
 |2::r,x,n=>(.block (x.b n) (x.e n),x.p n)::Wk r x (n+1)
 |3::r,x,n=>(.builtin "claim.caller" (x.a n),x.p n)::Wk r x (n+1)
 |4::r,x,n=>(.compLoop (.ListComp (x.t n) (x.g n) (x.s n) (x.q n)) (x.d n) (x.i n) (x.i (n+100)) (x.e n),x.p n)::Wk r x (n+1)
 | _::r,x,n=>Wk r x (n+1)
def kindOf:Code→Nat
 | .func ..=>0
 | .forLoop ..=>1
 | .block ..=>2
 | .builtin id _=>match idB id 35714603318786955769505017188 with
  |true=>3
  |false=>9
 | .compLoop t ..=>match t with
  | .ListComp ..=>4
  | _=>9
 | _=>9
def xA:List (Code × Pos)→List Nat
 |[]=>[]
 |(c,_)::r=>kindOf c::xA r
def yj(l:List (Code × Pos)):Bag where
 b n:=match nth l n with|some (.func b _,_)=>b|some (.forLoop _ _ b _ _,_)=>b|some (.block b _,_)=>b | _=>[]
 e n:=match nth l n with|some (.func _ e,_)=>e|some (.forLoop _ _ _ _ e,_)=>e|some (.block _ e,_)=>e|some (.compLoop _ _ _ _ e,_)=>e | _=>default
 p n:=match nth l n with|some (_,p)=>p | _=>default
 t n:=match nth l n with|some (.forLoop t _ _ _ _,_)=>t|some (.compLoop (.ListComp t _ _ _) _ _ _ _,_)=>t | _=>default
 i n:=match Nat.blt n 100 with
  |true=>match nth l n with|some (.forLoop _ i _ _ _,_)=>i|some (.compLoop _ _ i _ _,_)=>i | _=>default
  |false=>match nth l (n - 100) with|some (.compLoop _ _ _ a _,_)=>a | _=>default
 o n:=match nth l n with|some (.forLoop _ _ _ o _,_)=>o | _=>default
 a n:=match nth l n with|some (.builtin _ a,_)=>a | _=>default
 d n:=match nth l n with|some (.compLoop _ d _ _ _,_)=>d | _=>default
 g n:=match nth l n with|some (.compLoop (.ListComp _ g _ _) _ _ _ _,_)=>g | _=>[]
 s n:=match nth l n with|some (.compLoop (.ListComp _ _ s _) _ _ _ _,_)=>s | _=>progP.main.scope
 q n:=match nth l n with|some (.compLoop (.ListComp _ _ _ q) _ _ _ _,_)=>q | _=>default
theorem wv{α:Type}:∀(l:List α) (x:α) (r:List α),nth (l++x::r) l.length=some x
 |[],_,_=>rfl
 | _::l,x,r=>wv l x r
theorem Wk_bagOf:∀(r l:List (Code × Pos)),(l++r).length < 100→(∀k∈xA r,k≠9)→Wk (xA r) (yj (l++r)) l.length=r
 |[],l,_,_=>rfl
 |(c,p)::r,l,hl,h=>by
  have ih:=Wk_bagOf r (l++[(c,p)]) (by rw[List.append_assoc];exact hl) (fun k hk=>h k (.tail _ hk))
  rw[List.append_assoc,List.length_append] at ih
  have ih:Wk (xA r) (yj (l++(c,p)::r)) (l.length+1)=r:=ih
  have hn:=wv l (c,p) r
  have h9:=h (kindOf c) (.head _)
  rw[List.length_append,List.length_cons] at hl
  have hb:Nat.blt l.length 100=true:=by rw[Nat.blt_eq];omega
  have hb2:Nat.blt (l.length+100) 100=false:=by rw[Bool.eq_false_iff,ne_eq,Nat.blt_eq];omega
  cases c with
  |builtin id args=>
   cases hid:idB id 35714603318786955769505017188 with
   |true=>
    have:=zv hid (s:= "claim.caller") (by decide +kernel)
    subst this
    have hk:xA ((.builtin "claim.caller" args,p)::r)=3::xA r:=by
     have:kindOf (.builtin "claim.caller" args)=3:=by unfold kindOf;simp only[hid]
     show kindOf _::xA r=_
     rw[this]
    rw[hk]
    show _::Wk (xA r) _ _=_
    rw[ih];simp only[yj,hn]
   |false=>
    refine absurd ?_ h9
    unfold kindOf
    simp only[hid]
  |compLoop t d i a e=>
   cases t with
   |ListComp el gs sc ps=>show _::Wk (xA r) _ _=_;rw[ih];simp only[yj,hn,hb,hb2,Nat.add_sub_cancel]
   | _=>exact absurd rfl h9
  | _=>(first|exact absurd rfl h9|(show _::Wk (xA r) _ _=_;rw[ih];simp only[yj,hn,hb,hb2,Nat.add_sub_cancel]))
def no9:List Nat→Bool
 |[]=>true
 |k::r=>match Nat.beq k 9 with
  |true=>false
  |false=>no9 r
theorem no9_ok:∀{l:List Nat},no9 l=true→∀k∈l,k≠9
 |[],_,_,h=>by cases h
 |k::r,h,j,hj=>by
  unfold no9 at h
  split at h
  ·cases h
  ·rename_i hb
   rcases List.mem_cons.mp hj with rfl|hj
   ·intro e;subst e;simp at hb
   ·exact no9_ok h j hj
def eqN:List Nat→List Nat→Bool
 |[],[]=>true
 |a::l,b::r=>match Nat.beq a b with
  |true=>eqN l r
  |false=>false
 | _,_=>false
theorem eqN_ok:∀{l r:List Nat},eqN l r=true→l=r
 |[],[],_=>rfl
 |[],_::_,h=>by cases h
 | _::_,[],h=>by cases h
 |a::l,b::r,h=>by
  unfold eqN at h
  split at h
  ·rename_i hb
   rw[Nat.eq_of_beq_eq_true hb,eqN_ok h]
  ·cases h
def inN:List (List Nat)→List Nat→Bool
 |[],_=>false
 |a::l,x=>match eqN a x with
  |true=>true
  |false=>inN l x
theorem inN_ok:∀{l:List (List Nat)} {x:List Nat},inN l x=true→x∈l
 |[],_,h=>by cases h
 |a::l,x,h=>by
  unfold inN at h
  split at h
  ·rename_i hb
   rw[eqN_ok hb];exact .head _
  ·exact .tail _ (inN_ok h)
def shk(al:List (List Nat))(wh:List (Code × Pos)):Option (List Nat × Bag):=match Nat.blt wh.length 100 with
 |true=>match inN al (xA wh) with
  |true=>match no9 (xA wh) with
   |true=>some (xA wh,yj wh)
   |false=>none
  |false=>none
 |false=>none
def WK(x:List Nat × Bag):List (Code × Pos):=Wk x.1 x.2 0
theorem xr{al:List (List Nat)}{wh:List (Code × Pos)}{x:List Nat × Bag}(h:shk al wh=some x):wh=WK x∧x.1∈al:=by
 unfold shk at h
 cases h1:Nat.blt wh.length 100 with
 |false=>rw[h1] at h;cases h
 |true=>
  rw[h1] at h
  dsimp only at h
  cases h2:inN al (xA wh) with
  |false=>rw[h2] at h;cases h
  |true=>
   rw[h2] at h
   dsimp only at h
   cases h3:no9 (xA wh) with
   |false=>rw[h3] at h;cases h
   |true=>
    rw[h3] at h
    simp only[Option.some.injEq] at h
    subst h
    rw[Nat.blt_eq] at h1
    exact⟨(Wk_bagOf wh [] h1 (no9_ok h3)).symm,inN_ok h2⟩
def kst(o:Option Out):List (Code × Pos)→Sem PySem.Fin:=match o with
 |some o=>match o.cur with
  | .stack k=>k
  | _=>fun _=>.unsupported ""
 |none=>fun _=>.unsupported ""
theorem Seg.stack{K:Wd}{W:List (Code × Pos)}{k:List (Code × Pos)→Sem PySem.Fin}{code:Code}{pos:Pos}{fs:List Frame}{T:zh}{B:St→Prop}
  (h:Seg K W ⟨k ((code,pos)::(fs.map Frame.where_++W)),code,pos,fs,T⟩ B):Seg K W ⟨.stack k,code,pos,fs,T⟩ B:=fun s F U R=>by
 obtain⟨b,s',hb,c,r⟩:=h s F U R
 refine⟨b,s',hb,.step ?_ c,r⟩
 have:=step_stack (model progP K.w) s code pos (fs++F) k
 rw[List.map_append,U.wh] at this
 exact this
def mkS(K:Wd)(W:List (Code × Pos))(m:Nat)(tl:zh)(X:List Ext)(T:zh)(c:Code)(pos:Pos):Start:=⟨cfg K.P K.V W m tl,X,T,[],zx c,c,pos,[]⟩
def eo(r:Option Out):Exp:=match r with
 |some o=>⟨o.cur,o.code,o.pos,o.fs,o.T,o.G,o.pc⟩
 |none=>⟨.unsupported "", .builtin "" {},default,[],[],[],[]⟩
def mkC(K:Wd)(W:List (Code × Pos))(m:Nat)(tl:zh)(X:List Ext)(x:Exp)(cur:Sem PySem.Fin):Start:=⟨cfg K.P K.V W m tl,X,x.T,[],cur,x.code,x.pos,x.fs⟩
theorem Seg.run{K:Wd}{W:List (Code × Pos)}{n na m:Nat}{tp:List Nat}{tl:zh}(S:Start)(hC:S.C=cfg K.P K.V W m tl)(hG0:S.G=[])
  (hX:∀F,Under (cfg K.P K.V W m tl) F→∀e E,nth S.X e=some E→ExtOk (cfg K.P K.V W m tl) K.w F E)
  (x:(Nat→Addr)→(Nat→Ch)→(Nat→Nat)→Exp) (sel:List Nat)
  (h:∀α τ γ,lhs m sel (S.run α τ γ n tp)=rhs na (x α τ γ) (S.run α τ γ n tp))
  (hsel:ym sel=true) (hT:S.T.length=m) (hm:0 < m) (hpc:∀α τ γ,Lg.Ok (x α τ γ).pc) (hG:∀α τ γ,(x α τ γ).G=[]) :
  Seg K W ⟨S.cur,S.code,S.pos,S.fs,S.T++tl⟩ fun b=>∃α τ γ,(∀j,j < na→363≤α j)∧b=⟨(x α τ γ).cur,(x α τ γ).code,(x α τ γ).pos,(x α τ γ).fs,(x α τ γ).T++tl⟩:=by
 obtain⟨C,X,T,G,cur,code,pos,fs⟩:=S
 dsimp only at hC hG0 hX hT
 subst hC hG0
 exact Seg.go hX x sel h hsel hT hm hpc hG
theorem RB.size{K:Wd}{T:zh}{s:Shared}(R:RB K T s):363≤s.heap.objs.size:=Heap.lt_size (R.base 362 _ (base_362 K.P K.V))
abbrev ViewE:=Option (List LV × zM × Lg × Nat) × Bool
def vE(r:Option Out):ViewE:=match r with
 |some o=>(some (o.lg.map (·.1),o.G,o.pc,o.a),true)
 |none=>(none,true)
def wE(pc:Lg)(na:Nat)(r:Option Out):ViewE:=match r with
 |some o=>(some (o.lg.map (·.2),[],pc,na),true)
 |none=>(none,false)
theorem Seg.goE{K:Wd}{W:List (Code × Pos)}{X:List Ext}{n na m:Nat}{tp:List Nat}{T tl:zh}{cur:Sem PySem.Fin}{code:Code}{pos:Pos}{fs:List Frame}
  (hX:∀F,Under (cfg K.P K.V W m tl) F→∀e E,nth X e=some E→ExtOk (cfg K.P K.V W m tl) K.w F E)
  (r:(Nat→Addr)→(Nat→Ch)→(Nat→Nat)→Option Out) (hr:∀α τ γ,r α τ γ=exec (cfg K.P K.V W m tl) X α τ γ n tp (T++tl) 0 0 [] 0 [] [] cur code pos fs)
  (pc:(Nat→Addr)→(Nat→Ch)→(Nat→Nat)→Lg) (h:∀α τ γ,vE (r α τ γ)=wE (pc α τ γ) na (r α τ γ)) (hpc:∀α τ γ,Lg.Ok (pc α τ γ)) (hT:T.length=m) (hm:0 < m) :
  Seg K W ⟨cur,code,pos,fs,T++tl⟩ fun b=>∃α τ γ,(∀j,j < na→363≤α j)∧b=⟨(eo (r α τ γ)).cur,(eo (r α τ γ)).code,(eo (r α τ γ)).pos,(eo (r α τ γ)).fs,(eo (r α τ γ)).T⟩:=fun s F U R=>by
 have O:=cfg_ok (V:=K.V) (W:=W) (n:=m) (tl:=tl) K.hw hm
 have U':Under (cfg K.P K.V W m tl) F:=U.under rfl
 obtain⟨α,τ,γ,_,_,_,H⟩:=sound O U' (hX F U') n tp (T++tl) 0 0 [] 0 [] [] cur code pos fs s (fun _=>0) (fun _=>.of 0) (fun _=>0) (Rel.cfg (C:=cfg K.P K.V [] 1 []) rfl R) ⟨T,rfl,by rw[hT];rfl⟩
 have h1:=h α τ γ
 have hr1:=hr α τ γ
 generalize r α τ γ=z at h1 hr1
 cases z with
 |none=>simp[vE,wE] at h1
 |some o=>
  simp only[vE,wE,Prod.mk.injEq,Option.some.injEq,and_true] at h1
  obtain⟨h1,h2,h3,h4⟩:=h1
  obtain⟨s',c,R',S',K',f,ol⟩:=H o hr1.symm (Lg.ok_of h1) (by rw[h3];exact hpc α τ γ)
  rw[h2] at R'
  refine⟨_,s',⟨α,τ,γ,fun j hj=>Nat.le_trans (RB.size R) (f j (Nat.zero_le _) (h4▸hj)),rfl⟩,?_,?_,K',?_⟩
  all_goals (have e:r α τ γ=some o:=by rw[hr,←hr1])
  ·rw[e];exact c
  ·rw[e];exact Rel.cfg (C:=cfg K.P K.V W m tl) rfl R'
  ·rw[e];exact ol
end Mine
end
noncomputable section
open PyProof.Rows PySem PySem.W
set_option maxRecDepth 100000
set_option maxHeartbeats 0
namespace Mine
def xy:List (List Nat):=[[1,0,0,3],[0,0,0,3],[2,0,1,0,0,3]]
def xx:List (List Nat):=[[0,1,0,0,3],[0,0,0,0,3],[0,2,0,1,0,0,3],[2,0,1,0,0,3]]
def pcKs:List (List Nat):=[[0,0,1,0,0,3],[0,0,0,0,0,3],[0,0,2,0,1,0,0,3],[0,2,0,1,0,0,3],[1,0,1,0,0,3]]
structure AccM where
 a:Addr
 d:Addr
 xs:Array Value
 ep:Nat
def AccM.far(c:AccM):AccM:={ c with a:=c.a+363 }
def AccM.o(c:AccM)(V:TopV):Addr × Obj:=(c.a,z5 V c.d c.xs c.ep)
theorem AccM.of_far{c:AccM}(hc:363≤c.a):∃c':AccM,c=c'.far:=⟨{ c with a:=c.a - 363 },by
 obtain⟨a,d,xs,ep⟩:=c
 simp only[AccM.far,AccM.mk.injEq,and_true];exact(Nat.sub_add_cancel hc).symm⟩
def pcC(a:Addr):Code:=.call (.ref 319) ⟨[.ref a],[]⟩
def tpPC1:List Nat:=[638,636,3,1,4,638,636,6,0,492]
def vf(K:Wd)(x:List Nat × Bag)(c:AccM)(pos:Pos)(α:Nat→Addr)(τ:Nat→Ch)(γ:Nat→Nat):Option Out:=
 (mkS K (WK x) 1 [] [] [c.far.o K.V] (pcC c.far.a) pos).run α τ γ 20 tpPC1
theorem pc_r1(K:Wd)(x:List Nat × Bag)(hx:x.1∈pcKs)(c:AccM)(pos:Pos)(α τ γ):vE (vf K x c pos α τ γ)=wE [] 1 (vf K x c pos α τ γ)∧(eo (vf K x c pos α τ γ)).cur=.stack (kst (vf K x c pos α τ γ))∧(eo (vf K x c pos α τ γ)).T.length=2:=by
 obtain⟨ks,bag⟩:=x
 obtain⟨w,b1,b2,V0,hw⟩:=K
 simp only[pcKs,List.mem_cons,List.not_mem_nil,or_false] at hx
 cases b1<;>rcases hx with rfl|rfl|rfl|rfl|rfl<;>exact⟨by kernel_rfl,by kernel_rfl,by kernel_rfl⟩
def stk(r:Option Out)(W:List (Code × Pos)):List (Code × Pos):=((eo r).code,(eo r).pos)::((eo r).fs.map Frame.where_++W)
theorem kst_of{k:List (Code × Pos)→Sem PySem.Fin}{A:List (Code × Pos)}{x:Sem PySem.Fin}(h:Fast.tw10703107870728634244 A=A)(hk:∀B,Fast.tw10703107870728634244 B=B→A=B→k B=x):k A=x:=hk A h rfl
theorem pc_st(K:Wd)(x:List Nat × Bag)(hx:x.1∈pcKs)(c:AccM)(pos:Pos)(α τ γ):kst (vf K x c pos α τ γ) (stk (vf K x c pos α τ γ) (WK x))=kst (vf K x c pos α τ γ) []:=by
 obtain⟨ks,bag⟩:=x
 obtain⟨w,b1,b2,V0,hw⟩:=K
 simp only[pcKs,List.mem_cons,List.not_mem_nil,or_false] at hx
 rcases hx with rfl|rfl|rfl|rfl|rfl
 all_goals (
  refine kst_of (by kernel_rfl) ?_
  intro B h hB
  conv=>lhs;unfold vf Start.run;rw[exec_eq];whnf
  simp only[h,bne_self_eq_false,Bool.false_eq_true,if_false]
  subst hB
  kernel_rfl)
def tpPC2:List Nat:=[3,644,0,644,0,5,5,0,5,644,1,1,644,5,2,5,2,5,2,5,5,0,5,5,5,5,4,644,0,1,644,7,0,7,1]
def pcR2(K:Wd)(x:List Nat × Bag)(r:Option Out)(α:Nat→Addr)(τ:Nat→Ch)(γ:Nat→Nat):Option Out:=
 (mkC K (WK x) 2 [] [] (eo r) (kst r [])).run α τ γ 54 tpPC2
def pcX(K:Wd)(c:AccM)(r:Option Out)(τ:Nat→Ch):Exp:=⟨.pure (.done (.ret (.int (c.xs.size:Int) ((τ 1).tok 0)))),(eo r).code,⟨139,15,139,32⟩,[],[c.far.o K.V],[],[]⟩
theorem pc_r2(K:Wd)(x:List Nat × Bag)(hx:x.1∈pcKs)(c:AccM)(pos:Pos)(α₀ τ₀ γ₀ α τ γ):lhs 2 [3] (pcR2 K x (vf K x c pos α₀ τ₀ γ₀) α τ γ) =
  rhs 2 (pcX K c (vf K x c pos α₀ τ₀ γ₀) τ) (pcR2 K x (vf K x c pos α₀ τ₀ γ₀) α τ γ):=by
 obtain⟨ks,bag⟩:=x
 obtain⟨w,b1,b2,V0,hw⟩:=K
 simp only[pcKs,List.mem_cons,List.not_mem_nil,or_false] at hx
 cases b1<;>rcases hx with rfl|rfl|rfl|rfl|rfl<;>kernel_rfl
theorem yq{K:Wd}{W:List (Code × Pos)}{m:Nat}{tl:zh}:∀F,Under (cfg K.P K.V W m tl) F→∀e E,nth [] e=some E→ExtOk (cfg K.P K.V W m tl) K.w F E:=fun F _=>no_ext
theorem pc_seg{K:Wd}{x:List Nat × Bag}(hx:x.1∈pcKs){c:AccM}(hc:363≤c.a){pos:Pos} :
  Seg K (WK x) ⟨zx (pcC c.a),pcC c.a,pos,[],[c.o K.V]⟩ fun b=>∃t,b.cur=.pure (.done (.ret (.int (c.xs.size:Int) t)))∧b.fs=[]∧b.T=[c.o K.V]:=by
 obtain⟨c',rfl⟩:=AccM.of_far hc
 refine(Seg.goE (m:=1) (n:=20) (tp:=tpPC1) (tl:=[]) (T:=[c'.far.o K.V]) (X:=[]) yq (vf K x c' pos) (fun _ _ _=>rfl) (fun _ _ _=>[]) (fun α τ γ=>(pc_r1 K x hx c' pos α τ γ).1) (fun _ _ _=>zl) rfl (by decide)).trans ?_
 rintro b ⟨α₀,τ₀,γ₀,_,rfl⟩
 obtain⟨_,e1,e2⟩:=pc_r1 K x hx c' pos α₀ τ₀ γ₀
 rw[e1]
 refine Seg.stack ?_
 show Seg K (WK x) ⟨kst _ (stk (vf K x c' pos α₀ τ₀ γ₀) (WK x)),_,_,_,_⟩ _
 rw[pc_st K x hx c' pos α₀ τ₀ γ₀]
 have:=Seg.go (K:=K) (W:=WK x) (X:=[]) (n:=54) (na:=2) (tp:=tpPC2) (T:=(eo (vf K x c' pos α₀ τ₀ γ₀)).T) (tl:=[]) yq
  (fun α τ γ=>pcX K c' (vf K x c' pos α₀ τ₀ γ₀) τ) [3]
  (pc_r2 K x hx c' pos α₀ τ₀ γ₀) (by decide) e2 (by decide) (fun _ _ _=>zl) (fun _ _ _=>rfl)
 rw[List.append_nil] at this
 refine this.mono ?_
 rintro b ⟨α,τ,γ,_,rfl⟩
 exact⟨(τ 1).tok 0,rfl,rfl,rfl⟩
structure AccD where
 n:Int
 tk:Tok
 tn:Tok
 ep:Nat
def AccD.o(q:AccD)(P:Params)(d:Addr):Addr × Obj:=(d,wt P q.tk q.n q.tn q.ep)
def accRd:zh→Option AccM
 |(y,⟨_,some d,.seq xs ep,_⟩)::_=>some ⟨y,d,xs,ep⟩
 | _=>none
def dctRd:zh→Option AccD
 |(_,⟨_,_,.dict ⟨[⟨_,.str _ tk,.int n tn⟩]⟩ ep,_⟩)::_=>some ⟨n,tk,tn,ep⟩
 | _=>none
def accRd2:zh→Option (AccM × AccD)
 |x::r=>match accRd [x] with
  |some m=>match dctRd r with
   |some q=>some (m,q)
   |none=>none
  |none=>none
 |[]=>none
def wZ(a:Addr):LV × LV:=(.b (Nat.ble 363 a),.b true)
theorem farB_ok{a:Addr}{l:Lg}(h:Lg.Ok l)(hm:wZ a∈l):363≤a:=Nat.le_of_ble_eq_true (LV.b.inj (h _ hm))
def xPC(V:TopV):Ext:=fnX 1 (fun _=>0) (shk pcKs) (fun _ _ objs=>accRd objs) (fun _ _ μ=>pcC μ.a) (fun _ _ μ=>[μ.o V]) (fun _ _ μ=>[wZ μ.a])
 (fun _ _ μ _ t=>⟨.ok (.ret (.int (μ.xs.size:Int) (t.tok 0))),[z5 V μ.d μ.xs μ.ep],[]⟩)
theorem xPC_ok{K:Wd}{W:List (Code × Pos)}{n:Nat}{tl:zh}{F:List Frame}(U:Under (cfg K.P K.V W n tl) F)(htl:∀p∈tl,p.2.isFreed=false):ExtOk (cfg K.P K.V W n tl) K.w F (xPC K.V):=by
 refine ExtOk.fn U htl WK (fun x=>x.1∈pcKs) (fun wh x h=>xr h) (fun _ _ _ _ _ _ _ _=>rfl) ?_
 intro d x μ hx hpc _ pos
 refine(Seg.frame tl htl (pc_seg hx (c:=μ) (farB_ok hpc (.head _)) (pos:=pos))).mono ?_
 rintro b ⟨b',⟨t,e1,e2,e3⟩,rfl⟩
 exact⟨[],⟨fun _=>t,fun _=>wB⟩,rfl,rfl,e1,e2,by rw[e3];rfl⟩
end Mine
end
noncomputable section
open PyProof.Rows PySem PySem.W
set_option maxRecDepth 100000
namespace Mine
abbrev PxTy:=Nat→Sem PySem.Fin→Option (PySem.Flow × Nat)
def pst(P:Params)(t:Nat→Tok)(ih:PxTy)(i:Nat)(cur:Sem PySem.Fin):Option (PySem.Flow × Nat):=match cur with
 | .pure fin=>match fin with
  | .again c=>match c.quiet with
   |true=>ih i (zx c)
   |false=>none
  | .done f=>some (f,i)
 | .rule _ k=>ih i (k ())
 | .at _ k=>ih i (k ())
 | .point _ k=>ih i (k ())
 | .ask k=>ih i (k ⟨progP,P⟩)
 | .fresh k=>ih (i+1) (k (t i))
 | _=>none
def pex(P:Params)(t:Nat→Tok)(n:Nat):PxTy:=@Nat.rec (fun _=>PxTy) (fun _ _=>none) (fun _ ih=>pst P t ih) n
theorem pex_succ{P t n}:pex P t (n+1)=pst P t (pex P t n):=rfl
theorem yV{K:Wd}{F:List Frame}:∀(n:Nat) (s:Shared) (i:Nat) (cur:Sem PySem.Fin) (pos:Pos) (f:PySem.Flow) (j:Nat) (code:Code),pex K.P (fun k=>s.toks+k) n i cur=some (f,j)→
  ∃code' pos',Comes (model progP K.w) { s with toks:=s.toks+i } ⟨cur,code,pos,F⟩ { s with toks:=s.toks+j } ⟨.pure (.done f),code',pos',F⟩
 |0,s,i,cur,pos,f,j,code,h=>by cases h
 |n+1,s,i,cur,pos,f,j,code,h=>by
  rw[pex_succ] at h
  have hden:∀c,zx c=(model progP K.w).den c:=fun c=>by rw[wm];rfl
  have hpar:K.P=K.w.params:=(congrArg World.params K.hw).symm
  cases cur with
  |pure fin=>cases fin with
   |again c=>
    simp only[pst] at h
    cases hq:c.quiet with
    |false=>rw[hq] at h;cases h
    |true=>
     rw[hq] at h
     obtain⟨code',pos',c₁⟩:=yV n s i _ pos f j c h
     exact⟨code',pos',.step (step_again _ _ _ _ _ _ hq) (by rw[←hden];exact c₁)⟩
   |done g=>
    simp only[pst,Option.some.injEq,Prod.mk.injEq] at h
    obtain⟨rfl,rfl⟩:=h
    exact⟨_,_,.refl _ _⟩
  |rule t k=>obtain⟨code',pos',c₁⟩:=yV n s i _ pos f j code h;exact⟨code',pos',.step (step_rule ..) c₁⟩
  |«at» p k=>obtain⟨code',pos',c₁⟩:=yV n s i _ p f j code h;exact⟨code',pos',.step (step_at ..) c₁⟩
  |point l k=>obtain⟨code',pos',c₁⟩:=yV n s i _ pos f j code h;exact⟨code',pos',.step (step_point ..) c₁⟩
  |ask k=>obtain⟨code',pos',c₁⟩:=yV n s i _ pos f j code h;exact⟨code',pos',.step (by rw[step_ask];show Step.go _ ⟨k ⟨progP,K.w.params⟩,_,_,_⟩=_;rw[←hpar]) c₁⟩
  |fresh k=>obtain⟨code',pos',c₁⟩:=yV n s (i+1) _ pos f j code h;exact⟨code',pos',.step (step_fresh ..) c₁⟩
  | _=>cases h
def zS(P:Params)(n:Nat)(outs:List (Tok→Value)):Ext:=⟨0,fun _=>0,false,fun d c _ _ _ _ t=>match pex P t.tok n 0 (zx c) with
 |some (f,_)=>match f with
  | .ret v=>match d with
   |0=>some ⟨.ok (.ret v),[],[],[],[]⟩
   |1=>some ⟨.ok (.ret (.bool false)),[],[],[],[(.v v,.v (.bool false))]⟩
   |2=>some ⟨.ok (.ret (.bool true)),[],[],[],[(.v v,.v (.bool true))]⟩
   |d+3=>match nth outs d with
    |some g=>some ⟨.ok (.ret (g (t.tok 0))),[],[],[],[(.v v,.v (g (t.tok 0)))]⟩
    |none=>none
  | _=>none
 |none=>none⟩
theorem Rel.toks{C:Cfg}{T G s}(R:Rel C T G s)(n:Nat):Rel C T G { s with toks:=n }:=⟨R.slots,R.bound,R.nodup,R.base,R.apart,R.gslots,R.gnodup,R.bare⟩
theorem zJ{K:Wd}{W:List (Code × Pos)}{m:Nat}{tl:zh}{F:List Frame}{n:Nat}{outs:List (Tok→Value)}:ExtOk (cfg K.P K.V W m tl) K.w F (zS K.P n outs):=by
 intro s a T G code pos fs c g l k objs d js gs G' R hg S hm hd hh hl _
 have hG:gs=[]∧G=G':=by simpa [zS,xD,eq_comm] using hg
 obtain⟨rfl,rfl⟩:=hG
 refine⟨[],⟨fun j=>s.toks+j,fun _=>wB⟩,rfl,fun z hz=>(by cases hz),fun r hr hlg hpc nf T' T'' hp hn=>?_⟩
 simp only[zS] at hr
 have hj:js=[]:=List.eq_nil_of_length_eq_zero hm
 subst hj
 cases hx:pex K.P (fun j=>s.toks+j) n 0 (zx c) with
 |none=>rw[hx] at hr;cases hr
 |some z=>
  obtain⟨f,j⟩:=z
  rw[hx] at hr
  cases f with
  |ret v=>
   obtain⟨code',pos',c₁⟩:=yV (K:=K) (F:=.ret k none g l code pos []::(fs++F)) n s 0 (zx c) pos (.ret v) j c hx
   have key:Comes (model progP K.w) s ⟨.call c none g l k,code,pos,fs++F⟩ { s with toks:=s.toks+j } ⟨k (.ok (.ret v)),code,pos,fs++F⟩:=
    .step (step_call ..) (.trans (by rw[wm] at c₁;exact c₁) (.step (step_leaf_ret ..) (.refl _ _)))
   have fin:∀res,res=.ok (.ret v)→r=⟨res,[],[],r.lg,r.pc⟩→∃s',Comes (model progP K.w) s ⟨.call c none g l k,code,pos,fs++F⟩ s' ⟨k r.res,code,pos,fs++F⟩∧Rel (cfg K.P K.V W m tl) T'' G s'∧Kp T G s s':=by
    intro res e1 e2
    subst e1
    have e3:r.res=.ok (.ret v):=by rw[e2]
    have e4:r.posts=[]:=by rw[e2]
    have e5:r.news=[]:=by rw[e2]
    rw[e4] at hp
    rw[e5] at hn
    simp only[zL,Option.some.injEq] at hp
    simp only[zZ,Option.some.injEq] at hn
    subst hp hn
    exact⟨{ s with toks:=s.toks+j },by rw[e3];exact key,R.toks _,⟨fun _ _ h _=>h,fun _ _ h _=>h,rfl,Nat.le_refl _⟩⟩
   match d,hr with
   |0,hr=>simp only[Option.some.injEq] at hr;subst hr;exact fin _ rfl rfl
   |1,hr=>simp only[Option.some.injEq] at hr;subst hr;exact fin _ (by rw[LV.v.inj (hpc _ (.head _))]) rfl
   |2,hr=>simp only[Option.some.injEq] at hr;subst hr;exact fin _ (by rw[LV.v.inj (hpc _ (.head _))]) rfl
   |d+3,hr=>
    dsimp only at hr
    split at hr<;>try(cases hr;done)
    rename_i g' _
    simp only[Option.some.injEq] at hr;subst hr;exact fin _ (by rw[LV.v.inj (hpc _ (.head _))]) rfl
  | _=>cases hr
end Mine
end
noncomputable section
open PyProof.Rows PySem PySem.W
set_option maxRecDepth 100000
set_option maxHeartbeats 0
namespace Mine
def aroundF(wh:List (Code × Pos)):Around:={ handled:=none,depth:=frameCount wh,frames:=none,guards:=none,units:=unitsOf wh }
theorem code_comes{M:Model}{c:Code}{R:Result→Shared→Prop}{s:Shared}{F:List Frame}(hd:topHandled F=none)(h:codeAny M (aroundF (F.map Frame.where_)) c R s)(pos:Pos) :
  ∃r s₁ code' pos',R r s₁∧s.heap.objs.size≤s₁.heap.objs.size∧Comes M s ⟨M.den c,c,pos,F⟩ s₁ ⟨leafOf r,code',pos',F⟩:=by
 obtain⟨r,s₁,hr,hR⟩:=h (Ctx.of c F) pos rfl ⟨hd,Nat.le_refl _,(fun l hl=>by cases hl),(fun l hl=>by cases hl),Nat.le_refl _⟩
 obtain⟨t',c',p',pre',hc₁,hx⟩:=(runs_reach hr _ (Ctx.fits_of c F)).comes
 obtain⟨rfl,rfl⟩:=hx
 exact⟨r,s₁,c',p',hR,uN hr,hc₁⟩
theorem codeAny_builtin{M:Model}{prog:Program}{w:World}{A:Around}{id:String}{b:Builtin}{args:Args}{r:Result}{s s':Shared}(hb:entryFor table id=some b)
  (h:∀A,wpAny (model prog w) A (b args) (fun fin s₁=>(∃f,fin=.done f∧r=.ok f)∧s₁=s') (fun e s₁=>r=.error e∧s₁=s') s):codeAny (model prog w) A (.builtin id args) (fun r₁ s₁=>r₁=r∧s₁=s') s:=by
 refine codeAny_of_tree ?_
 show wpAny _ _ (match entryFor table id with|some b=>b args|none=>unsupported ((withoutEnding? id "#data").getD id)) _ _ s
 rw[hb]
 refine wpAny_mono (h _) (fun fin s₁ ⟨⟨f,e1,e2⟩,e3⟩=>?_) fun e s₁ ⟨e1,e2⟩=>⟨e1.symm,e2⟩
 subst e1 e2 e3
 exact⟨rfl,rfl⟩
theorem Seg.code{K:Wd}{W:List (Code × Pos)}{c:Code}{code:Code}{pos:Pos}{T:zh}{B:St→Prop}(hq:c.quiet=true)
  (H:∀s,RB K T s→∃r s' T',(∀A,A.handled=none→codeAny (model progP K.w) A c (fun r₁ s₁=>r₁=r∧s₁=s') s)∧(∀code' pos',B ⟨leafOf r,code',pos',[],T'⟩)∧RB K T' s'∧Kp T [] s s'∧Old T T' s.heap.objs.size) :
  Seg K W ⟨.pure (.again c),code,pos,[],T⟩ B:=fun s F U R=>by
 obtain⟨r,s',T',h,hB,h1,h2,h3⟩:=H s R
 obtain⟨r₁,s₁,code',pos',⟨rfl,rfl⟩,hsz,hc⟩:=code_comes (pos:=pos) U.hd (h (aroundF (F.map Frame.where_)) rfl)
 exact⟨_,s₁,hB code' pos',.step (step_again _ _ _ _ _ _ hq) hc,h1,h2,h3⟩
theorem RB.upd1{K:Wd}{T:zh}{a:Addr}{o o':Obj}{s:Shared}{f:Obj→Obj}(R:RB K ((a,o)::T) s)(ho:o.isFreed=false)(hf:f o=o')(ho':o'.isFreed=false) :
  RB K ((a,o')::T) { s with heap:=s.heap.update a f }∧Kp ((a,o)::T) [] s { s with heap:=s.heap.update a f }∧Old ((a,o)::T) ((a,o')::T) s.heap.objs.size:=by
 have h1:=R.update (j:=0) (x:=a) (o:=o) (f:=f) rfl ho (by rw[hf];exact ho')
 have h2:=Kp.update (T:=(a,o)::T) (G:=[]) (s:=s) (j:=0) (x:=a) (o:=o) (f:=f) rfl
 rw[hf] at h1
 refine⟨h1,h2,.keys fun x q p hp=>?_⟩
 rcases List.mem_cons.mp hp with rfl|hp
 ·exact q (a,o) (.head _)
 ·exact q p (.tail _ hp)
theorem listpop_seg{K:Wd}{W:List (Code × Pos)}{code:Code}{pos:Pos}{a d:Addr}{ys:Array Value}{v:Value}{ep:Nat}(hsz:ys.size < 1000) :
  Seg K W ⟨.pure (.again (.builtin "list.pop" ⟨[.ref a],[]⟩)),code,pos,[],[(a,z5 K.V d (ys.push v) ep)]⟩ fun b=>b.cur=.pure (.done (.ret v))∧b.fs=[]∧b.T=[(a,z5 K.V d ys (ep+1))]:=by
 refine Seg.code rfl fun s R=>?_
 have hget:=R.slots _ (.head _) rfl
 have e:(ys.push v).eraseIdxIfInBounds ((ys.push v).size - 1)=ys:=by
  apply Array.ext'
  simp[Array.eraseIdxIfInBounds,List.eraseIdx_append_of_length_le]
 have hL:(ys.push v).size≤sizeLine:=by
  have:=yu
  rw[Array.size_push];omega
 obtain⟨u1,u2,u3⟩:=RB.upd1 (T:=[]) (f:=Obj.mapSeq fun xs=>xs.eraseIdxIfInBounds ((ys.push v).size - 1)) (o':=z5 K.V d ys (ep+1)) R rfl (by simp only[z5,Obj.mapSeq,e];simp) rfl
 refine⟨.ok (.ret v),_,_,fun A hA=>codeAny_builtin (M:=model progP K.w) F.entry_list_pop fun A=>?_,fun _ _=>⟨rfl,rfl,rfl⟩,u1,u2,u3⟩
 clear u1 u2 u3
 have hy:(ys.push v)[(ys.push v).size - 1]?=some v:=by simp
 have hz':((ys.push v).eraseIdxIfInBounds ((ys.push v).size - 1)).size≤sizeLine+1:=Nat.le_trans (MeetsSeq.size_erased _ _) (Nat.le_succ_of_le hL)
 have hne:¬(ys.push v).isEmpty=true:=by simp
 have hk:seqIndex? (-1) (ys.push v).size=some ((ys.push v).size - 1):=by
  rw[seqIndex_neg (by omega) (by rw[Array.size_push];omega)];congr 1;rw[Array.size_push];omega
 clear R
 dsimp only at hget
 obtain⟨hp,g,dr,tk,os⟩:=s
 wp_walk using wpAny_loadPart' hget
 simp only[hk,hy,Option.bind_some,Option.map_some]
 wp_walk using (wpAny_updateSeq hget rfl (hz:=hL) (_hz':=hz')),wpAny_loadPart' hget
 exact⟨⟨_,rfl,rfl⟩,rfl⟩
def bmO(a:Addr):Obj:=⟨.type "builtin_function_or_method", none,.fields #[.builtin "list.pop", .ref a],#[]⟩
def bmC(m:Addr):Code:=.call (.ref m) ⟨[],[]⟩
def bmR(K:Wd)(W:List (Code × Pos))(m a d:Addr)(ep:Nat)(ys:Array Value)(v:Value)(p:Pos)(α:Nat→Addr)(τ:Nat→Ch)(γ:Nat→Nat):Option Out:=
 (mkS K W 2 [] [] [(m,bmO a),(a,z5 K.V d (ys.push v) ep)] (bmC m) p).run α τ γ 7 [3,1,644,1,1,644,644]
theorem bm_r(K:Wd)(W:List (Code × Pos))(m a d:Addr)(ep:Nat)(ys:Array Value)(v:Value)(p:Pos)(α τ γ):lhs 2 [1,0] (bmR K W m a d ep ys v p α τ γ) =
  rhs 0 ⟨.pure (.again (.builtin "list.pop" ⟨[.ref a],[]⟩)),bmC m,p,[],[(a,z5 K.V d (ys.push v) ep),(m,bmO a)],[],[]⟩ (bmR K W m a d ep ys v p α τ γ):=by
 obtain⟨w,b1,b2,V0,hw⟩:=K
 cases b1<;>kernel_rfl
theorem bm_seg{K:Wd}{W:List (Code × Pos)}{m a d:Addr}{ep:Nat}{ys:Array Value}{v:Value}{p:Pos}(hsz:ys.size < 1000) :
  Seg K W ⟨zx (bmC m),bmC m,p,[],[(m,bmO a),(a,z5 K.V d (ys.push v) ep)]⟩ fun b=>b.cur=.pure (.done (.ret v))∧b.fs=[]∧b.T=[(a,z5 K.V d ys (ep+1)),(m,bmO a)]:=by
 have h:=Seg.run (K:=K) (mkS K W 2 [] [] [(m,bmO a),(a,z5 K.V d (ys.push v) ep)] (bmC m) p) rfl rfl yq
  (fun _ _ _=>⟨.pure (.again (.builtin "list.pop" ⟨[.ref a],[]⟩)),bmC m,p,[],[(a,z5 K.V d (ys.push v) ep),(m,bmO a)],[],[]⟩) [1,0]
  (bm_r K W m a d ep ys v p) (by decide) rfl (by decide) (fun _ _ _=>zl) (fun _ _ _=>rfl)
 refine h.trans ?_
 rintro b ⟨_,_,_,_,rfl⟩
 refine(Seg.frame [(m,bmO a)] (fun p hp=>by rw[List.mem_singleton] at hp;subst hp;rfl) (listpop_seg (K:=K) (W:=W) (code:=bmC m) (pos:=p) (a:=a) (d:=d) (ep:=ep) (v:=v) hsz)).mono ?_
 rintro b ⟨b',⟨e1,e2,e3⟩,rfl⟩
 exact⟨e1,e2,by rw[e3];rfl⟩
structure BmM where
 m:Addr
 a:Addr
 d:Addr
 ep:Nat
def bmRd:zh→Option BmM
 |(m,_)::(y,⟨_,some d,.seq _ ep,_⟩)::_=>some ⟨m,y,d,ep⟩
 | _=>none
def xBM(V:TopV)(ys:Array Value)(v:Value):Ext:=fnX 2 (fun _=>0) (fun wh=>some wh) (fun _ _ objs=>bmRd objs) (fun _ _ μ=>bmC μ.m) (fun _ _ μ=>[(μ.m,bmO μ.a),(μ.a,z5 V μ.d (ys.push v) μ.ep)]) (fun _ _ _=>[(.b (Nat.blt ys.size 1000),.b true)])
 (fun _ _ μ _ t=>⟨.ok (.ret v),[bmO μ.a,z5 V μ.d ys (μ.ep+1)],[]⟩)
theorem blt_ok{a b:Nat}{l:Lg}(h:Lg.Ok l)(hm:(.b (Nat.blt a b),.b true)∈l):a < b:=by
 have:=LV.b.inj (h _ hm)
 rwa [Nat.blt_eq] at this
theorem Seg.swap{K:Wd}{W:List (Code × Pos)}{a:St}{B B':St→Prop}(h:Seg K W a B)(m:∀b,B b→∃T',b.T.Perm T'∧B' { b with T:=T' }):Seg K W a B':=
 h.post fun b hb=>let ⟨T',hp,h'⟩:=m b hb;⟨{ b with T:=T' },[],h',rfl,rfl,rfl,rfl,by rw[List.append_nil];exact hp⟩
theorem xBM_ok{K:Wd}{W:List (Code × Pos)}{n:Nat}{tl:zh}{F:List Frame}{ys:Array Value}{v:Value}(U:Under (cfg K.P K.V W n tl) F)(htl:∀p∈tl,p.2.isFreed=false):ExtOk (cfg K.P K.V W n tl) K.w F (xBM K.V ys v):=by
 refine ExtOk.fn U htl id (fun _=>True) (fun wh x h=>⟨by injection h,trivial⟩) (fun _ _ _ _ _ _ _ _=>rfl) ?_
 intro d x μ hx hpc _ pos
 refine(Seg.frame tl htl (bm_seg (blt_ok hpc (.head _)))).swap ?_
 rintro b ⟨b',⟨e1,e2,e3⟩,rfl⟩
 refine⟨[(μ.m,bmO μ.a),(μ.a,z5 K.V μ.d ys (μ.ep+1))]++tl,?_,[],⟨fun _=>0,fun _=>wB⟩,rfl,rfl,e1,e2,rfl⟩
 show (b'.T++tl).Perm _
 rw[e3]
 exact .swap _ _ _
def popC(a:Addr):Code:=.call (.ref 282) ⟨[.ref a],[]⟩
structure PopQ where
 c:AccM
 q:AccD
def PopQ.far(z:PopQ):PopQ:={ z with c:=z.c.far }
theorem PopQ.of_far{c:AccM}{q:AccD}(hc:363≤c.a):∃z':PopQ,c=z'.far.c∧q=z'.far.q:=by
 obtain⟨c',h⟩:=AccM.of_far hc
 exact⟨⟨c',q⟩,h,rfl⟩
def PopQ.le(z:PopQ):AccM:={ z.far.c with xs:=#[] }
def tpPop0:List Nat:=[564,562,5,2,4,5,3,644,644,642,3,644,644,642,3,644,644,642,638,3,1,638,1,0,3,2,2]
def popR0(K:Wd)(x:List Nat × Bag)(z:PopQ)(pos:Pos)(α:Nat→Addr)(τ:Nat→Ch)(γ:Nat→Nat):Option Out:=
 (mkS K (WK x) 2 [] [xPC K.V,zS K.P 8 []] [z.le.o K.V,z.far.q.o K.P z.c.d] (popC z.far.c.a) pos).run α τ γ 44 tpPop0
def popX0(K:Wd)(x:List Nat × Bag)(z:PopQ)(pos:Pos)(α:Nat→Addr)(τ:Nat→Ch)(γ:Nat→Nat):Exp:=
 ⟨.pure (.done (.ret (.ref (α 1)))),(eo (popR0 K x z pos α τ γ)).code,⟨120,19,120,27⟩,[],[(α 1,vd ⟨#[]⟩ ((τ 4).tok 0) ⟨#[]⟩ ((τ 5).tok 0)),z.le.o K.V,z.far.q.o K.P z.c.d],[],
  [(.v (.bool (((#[]:Array Value).size:Int)==0)),.v (.bool true)),wZ z.far.c.a]⟩
theorem pop_r0(K:Wd)(x:List Nat × Bag)(hx:x.1∈xx)(z:PopQ)(pos:Pos)(α τ γ):lhs 2 [0,2,3] (popR0 K x z pos α τ γ)=rhs 2 (popX0 K x z pos α τ γ) (popR0 K x z pos α τ γ):=by
 obtain⟨ks,bag⟩:=x
 obtain⟨w,b1,b2,V0,hw⟩:=K
 simp only[xx,List.mem_cons,List.not_mem_nil,or_false] at hx
 cases b1<;>rcases hx with rfl|rfl|rfl|rfl<;>kernel_rfl
theorem two_ext{C:Cfg}{w:World}{F:List Frame}{E1 E2:Ext}(h1:ExtOk C w F E1)(h2:ExtOk C w F E2):∀e E',nth [E1,E2] e=some E'→ExtOk C w F E'
 |0,E',e=>by simp only[nth,Option.some.injEq] at e;exact e▸h1
 |1,E',e=>by simp only[nth,Option.some.injEq] at e;exact e▸h2
 | _+2,E',e=>by simp[nth] at e
theorem xk{a:Addr}(h:363≤a):(wZ a).1=(wZ a).2:=by
 show LV.b (Nat.ble 363 a)=LV.b true
 rw[Nat.ble_eq_true_of_le h]
theorem zc{p:LV × LV}{l:Lg}(h:p.1=p.2)(hl:Lg.Ok l):Lg.Ok (p::l):=fun q hq=>by
 rcases List.mem_cons.mp hq with rfl|hq
 ·exact h
 ·exact hl q hq
theorem pop_seg0{K:Wd}{x:List Nat × Bag}(hx:x.1∈xx){c:AccM}{q:AccD}(hc:363≤c.a)(hxs:c.xs=#[]){pos:Pos} :
  Seg K (WK x) ⟨zx (popC c.a),popC c.a,pos,[],[c.o K.V,q.o K.P c.d]⟩ fun b=>∃y t0 t1,b.cur=.pure (.done (.ret (.ref y)))∧b.fs=[]∧b.T=[(y,vd ⟨#[]⟩ t0 ⟨#[]⟩ t1),c.o K.V,q.o K.P c.d]:=by
 obtain⟨z,rfl,rfl⟩:=PopQ.of_far (q:=q) hc
 have e:z.far.c=z.le:=by unfold PopQ.le;rw[←hxs]
 rw[show (z.far.c.o K.V)=z.le.o K.V by rw[←e]]
 refine(Seg.run (K:=K) (mkS K (WK x) 2 [] [xPC K.V,zS K.P 8 []] [z.le.o K.V,z.far.q.o K.P z.c.d] (popC z.far.c.a) pos) rfl rfl
  (fun F U=>two_ext (xPC_ok U fun _ h=>by cases h) zJ) (popX0 K x z pos) [0,2,3] (pop_r0 K x hx z pos) (by decide) rfl (by decide)
  (fun α τ γ=>zc rfl (zc (xk hc) zl)) (fun _ _ _=>rfl)).mono ?_
 rintro b ⟨α,τ,γ,_,rfl⟩
 exact⟨_,_,_,rfl,rfl,rfl⟩
def tpPop1:List Nat:=[564,562,5,2,4,5,3,644,644,642,3,644,644,642,3,644,644,642,638,3,1,638,1,0,3,2,1,564,562,6,0,492]
def tpPop2:List Nat:=[5,644,0,644,0,7,7,0,7,644,3,3,644,7,3,7,3,7,3,7,7,0,7,7,7,7,4,644,0,3,644,9,1,0,9,3]
def PopQ.ld(z:PopQ)(ys:Array Value)(va:Addr):AccM:={ z.far.c with xs:=ys.push (.ref va) }
def popS1(K:Wd)(x:List Nat × Bag)(z:PopQ)(ys:Array Value)(va:Addr)(pos:Pos):Start:=mkS K (WK x) 2 [] [xPC K.V,zS K.P 8 []] [(z.ld ys va).o K.V,z.far.q.o K.P z.c.d] (popC z.far.c.a) pos
def xw(K:Wd)(x:List Nat × Bag)(z:PopQ)(ys:Array Value)(va:Addr)(pos:Pos)(α:Nat→Addr)(τ:Nat→Ch)(γ:Nat→Nat):Option Out:=(popS1 K x z ys va pos).run α τ γ 48 tpPop1
theorem pop_r1(K:Wd)(x:List Nat × Bag)(hx:x.1∈xx)(z:PopQ)(ys:Array Value)(va:Addr)(pos:Pos)(α τ γ) :
  vE (xw K x z ys va pos α τ γ)=wE [(.v (.bool (((ys.push (.ref va)).size:Int)==0)),.v (.bool false)),wZ z.far.c.a] 1 (xw K x z ys va pos α τ γ)∧(eo (xw K x z ys va pos α τ γ)).T.length=3:=by
 obtain⟨ks,bag⟩:=x
 obtain⟨w,b1,b2,V0,hw⟩:=K
 simp only[xx,List.mem_cons,List.not_mem_nil,or_false] at hx
 cases b1<;>rcases hx with rfl|rfl|rfl|rfl<;>exact⟨by kernel_rfl,by kernel_rfl⟩
def fakeX(m:Nat)(v:Value):Ext:=⟨m,fun _=>0,false,fun _ _ _ _ _ _ _=>some ⟨.ok (.ret v),[],[],[],[]⟩⟩
def tpPopF:List Nat:=[564,562,5,2,4,5,3,644,644,642,3,644,644,642,3,644,644,642,638,3,1,638,1,0,2,1,564,562,6,0,492]
def popF(K:Wd)(x:List Nat × Bag)(z:PopQ)(ys:Array Value)(va:Addr)(pos:Pos)(α:Nat→Addr)(τ:Nat→Ch)(γ:Nat→Nat):Option Out:=
 Start.run { popS1 K x z ys va pos with X:=[fakeX 0 (.int 1 0),fakeX 0 (.bool false)] } α τ γ 48 tpPopF
theorem pop_fk(K:Wd)(x:List Nat × Bag)(hx:x.1∈xx)(z:PopQ)(ys:Array Value)(va:Addr)(pos:Pos)(α τ γ) :
  (eo (xw K x z ys va pos α τ γ)).cur=.stack (kst (popF K x z ys va pos α τ γ))∧
  Fast.tw10703107870728634244 (stk (xw K x z ys va pos α τ γ) (WK x))=stk (xw K x z ys va pos α τ γ) (WK x):=by
 obtain⟨ks,bag⟩:=x
 obtain⟨w,b1,b2,V0,hw⟩:=K
 simp only[xx,List.mem_cons,List.not_mem_nil,or_false] at hx
 cases b1<;>rcases hx with rfl|rfl|rfl|rfl<;>exact⟨by kernel_rfl,by kernel_rfl⟩
theorem pop_fs(K:Wd)(x:List Nat × Bag)(hx:x.1∈xx)(z:PopQ)(ys:Array Value)(va:Addr)(pos:Pos)(α τ γ)(B:List (Code × Pos))(h:Fast.tw10703107870728634244 B=B)(hB:stk (xw K x z ys va pos α τ γ) (WK x)=B) :
  kst (popF K x z ys va pos α τ γ) B=kst (popF K x z ys va pos α τ γ) []:=by
 obtain⟨ks,bag⟩:=x
 obtain⟨w,b1,b2,V0,hw⟩:=K
 simp only[xx,List.mem_cons,List.not_mem_nil,or_false] at hx
 cases b1<;>rcases hx with rfl|rfl|rfl|rfl
 all_goals (
  conv=>lhs;unfold popF Start.run;rw[exec_eq];whnf
  simp only[h,bne_self_eq_false,Bool.false_eq_true,if_false]
  subst hB
  kernel_rfl)
theorem pop_st(K:Wd)(x:List Nat × Bag)(hx:x.1∈xx)(z:PopQ)(ys:Array Value)(va:Addr)(pos:Pos)(α τ γ):kst (popF K x z ys va pos α τ γ) (stk (xw K x z ys va pos α τ γ) (WK x))=kst (popF K x z ys va pos α τ γ) []:=
 pop_fs K x hx z ys va pos α τ γ _ (pop_fk K x hx z ys va pos α τ γ).2 rfl
def popS2(K:Wd)(x:List Nat × Bag)(ys:Array Value)(va:Addr)(r f:Option Out):Start:=mkC K (WK x) 3 [] [xBM K.V ys (.ref va)] (eo r) (kst f [])
def popR2(K:Wd)(x:List Nat × Bag)(ys:Array Value)(va:Addr)(r f:Option Out)(α:Nat→Addr)(τ:Nat→Ch)(γ:Nat→Nat):Option Out:=(popS2 K x ys va r f).run α τ γ 49 tpPop2
def popX(K:Wd)(z:PopQ)(ys:Array Value)(va:Addr)(r:Option Out):Exp:=⟨.pure (.done (.ret (.ref va))),(eo r).code,⟨121,15,121,28⟩,[],[{ z.far.c with xs:=ys,ep:=z.c.ep+1 }.o K.V,z.far.q.o K.P z.c.d],[],[(.b (Nat.blt ys.size 1000),.b true)]⟩
theorem pop_r2(K:Wd)(x:List Nat × Bag)(hx:x.1∈xx)(z:PopQ)(ys:Array Value)(va:Addr)(pos:Pos)(α₀ τ₀ γ₀ α τ γ):lhs 3 [3,4] (popR2 K x ys va (xw K x z ys va pos α₀ τ₀ γ₀) (popF K x z ys va pos α₀ τ₀ γ₀) α τ γ) =
  rhs 2 (popX K z ys va (xw K x z ys va pos α₀ τ₀ γ₀)) (popR2 K x ys va (xw K x z ys va pos α₀ τ₀ γ₀) (popF K x z ys va pos α₀ τ₀ γ₀) α τ γ):=by
 obtain⟨ks,bag⟩:=x
 obtain⟨w,b1,b2,V0,hw⟩:=K
 simp only[xx,List.mem_cons,List.not_mem_nil,or_false] at hx
 cases b1<;>rcases hx with rfl|rfl|rfl|rfl<;>kernel_rfl
theorem pop_seg1{K:Wd}{x:List Nat × Bag}(hx:x.1∈xx){c:AccM}{q:AccD}{ys:Array Value}{va:Addr}(hc:363≤c.a)(hxs:c.xs=ys.push (.ref va))(hsz:ys.size < 1000){pos:Pos} :
  Seg K (WK x) ⟨zx (popC c.a),popC c.a,pos,[],[c.o K.V,q.o K.P c.d]⟩ fun b=>b.cur=.pure (.done (.ret (.ref va)))∧b.fs=[]∧b.T=[{ c with xs:=ys,ep:=c.ep+1 }.o K.V,q.o K.P c.d]:=by
 obtain⟨z,rfl,rfl⟩:=PopQ.of_far (q:=q) hc
 have e:z.far.c=z.ld ys va:=by unfold PopQ.ld;rw[←hxs]
 rw[show (z.far.c.o K.V)=(z.ld ys va).o K.V by rw[←e]]
 refine(Seg.goE (K:=K) (W:=WK x) (m:=2) (n:=48) (tp:=tpPop1) (tl:=[]) (T:=[(z.ld ys va).o K.V,z.far.q.o K.P z.c.d]) (X:=[xPC K.V,zS K.P 8 []]) (fun F U=>two_ext (xPC_ok U fun _ h=>by cases h) zJ)
  (xw K x z ys va pos) (fun _ _ _=>rfl) (fun _ _ _=>[(.v (.bool (((ys.push (.ref va)).size:Int)==0)),.v (.bool false)),wZ z.far.c.a]) (fun α τ γ=>(pop_r1 K x hx z ys va pos α τ γ).1)
  (fun _ _ _=>zc (by
   have:(((ys.push (.ref va)).size:Int)==0)=false:=by rw[Array.size_push];simp;omega
   rw[this]) (zc (xk hc) zl)) rfl (by decide)).trans ?_
 rintro b ⟨α₀,τ₀,γ₀,_,rfl⟩
 obtain⟨_,e2⟩:=pop_r1 K x hx z ys va pos α₀ τ₀ γ₀
 rw[(pop_fk K x hx z ys va pos α₀ τ₀ γ₀).1]
 refine Seg.stack ?_
 show Seg K (WK x) ⟨kst _ (stk (xw K x z ys va pos α₀ τ₀ γ₀) (WK x)),_,_,_,_⟩ _
 rw[pop_st K x hx z ys va pos α₀ τ₀ γ₀]
 have:=Seg.run (K:=K) (popS2 K x ys va (xw K x z ys va pos α₀ τ₀ γ₀) (popF K x z ys va pos α₀ τ₀ γ₀)) (tl:=[]) rfl rfl (fun F U=>xi (xBM_ok U fun _ h=>by cases h))
  (fun α τ γ=>popX K z ys va (xw K x z ys va pos α₀ τ₀ γ₀)) [3,4] (pop_r2 K x hx z ys va pos α₀ τ₀ γ₀) (by decide) e2 (by decide) (fun _ _ _=>zc (by rw[show Nat.blt ys.size 1000=true by rw[Nat.blt_eq];exact hsz]) zl) (fun _ _ _=>rfl)
 rw[List.append_nil] at this
 refine this.mono ?_
 rintro b ⟨α,τ,γ,_,rfl⟩
 exact⟨rfl,rfl,rfl⟩
def xPopA(P:Params)(V:TopV)(ys:Array Value)(va:Addr):Ext:=fnX 2 (fun d=>match d with|0=>1 | _=>0) (shk xx) (fun _ _ objs=>accRd2 objs) (fun _ _ μ=>popC μ.1.a)
 (fun d _ μ=>[{ μ.1 with xs:=match d with|0=>#[] | _=>ys.push (.ref va) }.o V,μ.2.o P μ.1.d]) (fun _ _ μ=>[wZ μ.1.a,(.b (Nat.blt ys.size 1000),.b true)])
 (fun d _ μ xs t=>match d with
  |0=>⟨.ok (.ret (.ref (match xs with|y::_=>y|[]=>0))),[z5 V μ.1.d #[] μ.1.ep,wt P μ.2.tk μ.2.n μ.2.tn μ.2.ep],[vd ⟨#[]⟩ (t.tok 0) ⟨#[]⟩ (t.tok 1)]⟩
  | _=>⟨.ok (.ret (.ref va)),[z5 V μ.1.d ys (μ.1.ep+1),wt P μ.2.tk μ.2.n μ.2.tn μ.2.ep],[]⟩)
theorem xPopA_ok{K:Wd}{W:List (Code × Pos)}{n:Nat}{tl:zh}{F:List Frame}{ys:Array Value}{va:Addr}(U:Under (cfg K.P K.V W n tl) F)(htl:∀p∈tl,p.2.isFreed=false):ExtOk (cfg K.P K.V W n tl) K.w F (xPopA K.P K.V ys va):=by
 refine ExtOk.fn U htl WK (fun x=>x.1∈xx) (fun wh x h=>xr h) (fun d _ _ _ _ _ _ _=>by cases d<;>rfl) ?_
 intro d x μ hx hpc _ pos
 have hc:=farB_ok hpc (.head _)
 have hs:=blt_ok hpc (.tail _ (.head _))
 cases d with
 |zero=>
  refine(Seg.frame tl htl (pop_seg0 hx (c:={ μ.1 with xs:=#[] }) (q:=μ.2) hc rfl (pos:=pos))).mono ?_
  rintro b ⟨b',⟨y,t0,t1,e1,e2,e3⟩,rfl⟩
  exact⟨[y],⟨fun i=>if i=0 then t0 else t1,fun _=>wB⟩,rfl,rfl,e1,e2,by rw[e3];rfl⟩
 |succ d=>
  refine(Seg.frame tl htl (pop_seg1 hx (c:={ μ.1 with xs:=ys.push (.ref va) }) (q:=μ.2) hc rfl hs (pos:=pos))).mono ?_
  rintro b ⟨b',⟨e1,e2,e3⟩,rfl⟩
  exact⟨[],⟨fun _=>0,fun _=>wB⟩,rfl,rfl,e1,e2,by rw[e3];rfl⟩
def lenD(d:Nat)(a:Addr):Code:=match d with|0=>.call (.builtin "len") ⟨[.ref a],[]⟩ | _=>.builtin "len" ⟨[.ref a],[]⟩
theorem ext_one{K:Wd}{W:List (Code × Pos)}{m:Nat}{tl:zh}{E:Ext}(h:∀F,Under (cfg K.P K.V W m tl) F→ExtOk (cfg K.P K.V W m tl) K.w F E):∀F,Under (cfg K.P K.V W m tl) F→∀e E',nth [E] e=some E'→ExtOk (cfg K.P K.V W m tl) K.w F E':=fun F U=>xi (h F U)
theorem lenK_cA{b1:Bool}{w:World}{b2:Bool}{V:TopV}{c:Acc}{cA cB:Addr}{pos:Pos}{x:Lx}:uF b1 ⟨w,b2,V,c,cA,pos,x⟩=uF b1 ⟨w,b2,V,c,cB,pos,x⟩:=by
 unfold uF ub;rfl
theorem len_seg{K:Wd}{x:Lx}{c:Acc}{m:Option Addr}{d:Nat}{pos:Pos}(hs:zG c.ps=true)(h0:0≤c.n+total c.ps)(h1:c.n+total c.ps < 100) :
  Seg K x.W ⟨zx (lenD d c.a),lenD d c.a,pos,[],((284,zn 124 19 m)::c.slots K.P K.V)++zb c.ps⟩ fun b=>∃t a,b.cur=.pure (.done (.ret (.int (c.n+total c.ps) t)))∧b.fs=[]∧b.T=((284,zn 124 19 (some a))::c.slots K.P K.V)++zb c.ps:=by
 have hpc:Lg.Ok [(.b (zG c.ps),.b true)]:=zc (by rw[hs]) zl
 obtain⟨nn,hn⟩:=Int.eq_ofNat_of_zero_le h0
 have hnn:nn < 100:=by omega
 have hX:∀F,Under (cfg K.P K.V x.W 3 (zb c.ps)) F→∀e E',nth [xSum K.P K.V c.ps] e=some E'→ExtOk (cfg K.P K.V x.W 3 (zb c.ps)) K.w F E':=ext_one fun F U=>xSum_ok U fun p hp=>hp
 have part1:Seg K x.W ⟨zx (lenD d c.a),lenD d c.a,pos,[],((284,zn 124 19 m)::c.slots K.P K.V)++zb c.ps⟩ fun b=>∃t a,b=⟨uF K.b1 ⟨K.w,K.b2,K.V,c,a,pos,x⟩ (.ok (.ret (.int (c.n+total c.ps) t))),wk ⟨K.w,K.b2,K.V,c,a,pos,x⟩,pos,[],((284,zn 124 19 (some a))::c.slots K.P K.V)++zb c.ps⟩:=by
  cases m with
  |none=>cases d with
   |zero=>
    refine(Seg.run (ub K.b1 none (lenC ⟨K.w,K.b2,K.V,c,0,pos,x⟩) ⟨K.w,K.b2,K.V,c,0,pos,x⟩) rfl rfl hX (fun α τ γ=>⟨uF K.b1 ⟨K.w,K.b2,K.V,c,0,pos,x⟩ (.ok (.ret (.int (c.n+total c.ps) ((τ 10).tok 0)))),wk ⟨K.w,K.b2,K.V,c,0,pos,x⟩,pos,[],(284,zn 124 19 (some (α 4)))::c.slots K.P K.V,[],[(.b (zG c.ps),.b true)]⟩) [7,8,9]
     (fun α τ γ=>r_lenC0 K.b1 ⟨K.w,K.b2,K.V,c,0,pos,x⟩ α τ γ) (by decide) rfl (by decide) (fun _ _ _=>hpc) (fun _ _ _=>rfl)).mono ?_
    rintro b ⟨α,τ,γ,_,rfl⟩
    exact⟨(τ 10).tok 0,α 4,by rw[lenK_cA (cA:=α 4) (cB:=0)];rfl⟩
   |succ d=>
    refine(Seg.run (ub K.b1 none (wk ⟨K.w,K.b2,K.V,c,0,pos,x⟩) ⟨K.w,K.b2,K.V,c,0,pos,x⟩) rfl rfl hX (fun α τ γ=>⟨uF K.b1 ⟨K.w,K.b2,K.V,c,0,pos,x⟩ (.ok (.ret (.int (c.n+total c.ps) ((τ 10).tok 0)))),wk ⟨K.w,K.b2,K.V,c,0,pos,x⟩,pos,[],(284,zn 124 19 (some (α 4)))::c.slots K.P K.V,[],[(.b (zG c.ps),.b true)]⟩) [7,8,9]
     (fun α τ γ=>r_lenB0 K.b1 ⟨K.w,K.b2,K.V,c,0,pos,x⟩ α τ γ) (by decide) rfl (by decide) (fun _ _ _=>hpc) (fun _ _ _=>rfl)).mono ?_
    rintro b ⟨α,τ,γ,_,rfl⟩
    exact⟨(τ 10).tok 0,α 4,by rw[lenK_cA (cA:=α 4) (cB:=0)];rfl⟩
  |some cA=>cases d with
   |zero=>
    refine(Seg.run (ub K.b1 (some cA) (lenC ⟨K.w,K.b2,K.V,c,cA,pos,x⟩) ⟨K.w,K.b2,K.V,c,cA,pos,x⟩) rfl rfl hX (fun α τ γ=>⟨uF K.b1 ⟨K.w,K.b2,K.V,c,cA,pos,x⟩ (.ok (.ret (.int (c.n+total c.ps) ((τ 5).tok 0)))),wk ⟨K.w,K.b2,K.V,c,cA,pos,x⟩,pos,[],(284,zn 124 19 (some cA))::c.slots K.P K.V,[],[(.b (zG c.ps),.b true)]⟩) [4,5,6]
     (fun α τ γ=>r_lenC1 K.b1 ⟨K.w,K.b2,K.V,c,cA,pos,x⟩ α τ γ) (by decide) rfl (by decide) (fun _ _ _=>hpc) (fun _ _ _=>rfl)).mono ?_
    rintro b ⟨α,τ,γ,_,rfl⟩
    exact⟨(τ 5).tok 0,cA,rfl⟩
   |succ d=>
    refine(Seg.run (ub K.b1 (some cA) (wk ⟨K.w,K.b2,K.V,c,cA,pos,x⟩) ⟨K.w,K.b2,K.V,c,cA,pos,x⟩) rfl rfl hX (fun α τ γ=>⟨uF K.b1 ⟨K.w,K.b2,K.V,c,cA,pos,x⟩ (.ok (.ret (.int (c.n+total c.ps) ((τ 5).tok 0)))),wk ⟨K.w,K.b2,K.V,c,cA,pos,x⟩,pos,[],(284,zn 124 19 (some cA))::c.slots K.P K.V,[],[(.b (zG c.ps),.b true)]⟩) [4,5,6]
     (fun α τ γ=>r_lenB1 K.b1 ⟨K.w,K.b2,K.V,c,cA,pos,x⟩ α τ γ) (by decide) rfl (by decide) (fun _ _ _=>hpc) (fun _ _ _=>rfl)).mono ?_
    rintro b ⟨α,τ,γ,_,rfl⟩
    exact⟨(τ 5).tok 0,cA,rfl⟩
 refine part1.trans ?_
 rintro b ⟨t,a,rfl⟩
 rw[hn]
 refine(Seg.run (lenTS K.b1 ⟨K.w,K.b2,K.V,c,a,pos,x⟩ t nn) rfl rfl (fun F U=>no_ext) (fun α τ γ=>⟨.pure (.done (.ret (.int (Int.ofNat nn) ((τ 0).tok 0)))),wk ⟨K.w,K.b2,K.V,c,a,pos,x⟩,pos,[],(284,zn 124 19 (some a))::c.slots K.P K.V,[],[]⟩) [0,1,2]
  (fun α τ γ=>of_maps (r_lenT K.b1 ⟨K.w,K.b2,K.V,c,a,pos,x⟩ t α τ γ) nn (upTo_mem (by omega) (by omega))) (by decide) rfl (by decide) (fun _ _ _=>zl) (fun _ _ _=>rfl)).mono ?_
 rintro b ⟨α,τ,γ,_,rfl⟩
 exact⟨_,_,rfl,rfl,rfl⟩
theorem str_seg{K:Wd}{x:Lx}{c:Acc}{m:Option Addr}{pos:Pos}(hs:zG c.ps=true)(h0:c.ps.length≤40) :
  Seg K x.W ⟨zx (strC c),strC c,pos,[],((291,zn 127 32 m)::c.slots K.P K.V)++zb c.ps⟩ fun b=>∃t a,b.cur=.pure (.done (.ret (.str (zW c.ps) t)))∧b.fs=[]∧b.T=((291,zn 127 32 (some a))::c.slots K.P K.V)++zb c.ps:=by
 have hpc:Lg.Ok [(.b (zG c.ps),.b true),(.b (decide (c.ps.length≤40)),.b true)]:=zc (by rw[hs]) (zc (by rw[decide_eq_true h0]) zl)
 have hX:∀F,Under (cfg K.P K.V x.W 3 (zb c.ps)) F→∀e E',nth [xJoinG K.P K.V c.ps] e=some E'→ExtOk (cfg K.P K.V x.W 3 (zb c.ps)) K.w F E':=ext_one fun F U=>xJoinG_ok U fun p hp=>hp
 cases m with
 |none=>
  refine(Seg.run (strS K.b1 none ⟨K.w,K.b2,K.V,c,0,pos,x⟩) rfl rfl hX (fun α τ γ=>⟨.pure (.done (.ret (.str (zW c.ps) ((τ 9).tok 0)))),.builtin "type.__call__" ⟨[.type "str", .ref c.a],[]⟩,pos,[],(291,zn 127 32 (some (α 4)))::c.slots K.P K.V,[],[(.b (zG c.ps),.b true),(.b (decide (c.ps.length≤40)),.b true)]⟩) [7,8,9]
   (fun α τ γ=>r_str0 K.b1 ⟨K.w,K.b2,K.V,c,0,pos,x⟩ α τ γ) (by decide) rfl (by decide) (fun _ _ _=>hpc) (fun _ _ _=>rfl)).mono ?_
  rintro b ⟨α,τ,γ,_,rfl⟩
  exact⟨_,_,rfl,rfl,rfl⟩
 |some cA=>
  refine(Seg.run (strS K.b1 (some cA) ⟨K.w,K.b2,K.V,c,cA,pos,x⟩) rfl rfl hX (fun α τ γ=>⟨.pure (.done (.ret (.str (zW c.ps) ((τ 4).tok 0)))),.builtin "type.__call__" ⟨[.type "str", .ref c.a],[]⟩,pos,[],(291,zn 127 32 (some cA))::c.slots K.P K.V,[],[(.b (zG c.ps),.b true),(.b (decide (c.ps.length≤40)),.b true)]⟩) [4,5,6]
   (fun α τ γ=>r_str1 K.b1 ⟨K.w,K.b2,K.V,c,cA,pos,x⟩ α τ γ) (by decide) rfl (by decide) (fun _ _ _=>hpc) (fun _ _ _=>rfl)).mono ?_
  rintro b ⟨α,τ,γ,_,rfl⟩
  exact⟨_,_,rfl,rfl,rfl⟩
def memRd:zh→Option (Option Addr)
 |(_,⟨_,_,.fields ⟨l⟩,_⟩)::_=>some (memoOf l)
 | _=>none
def exRd:List (Str × Str)→zh→Option (List Part)
 |[],[]=>some []
 |(F,S)::fs,(y,⟨_,_,.seq ⟨[.str _ tF,.str _ tS]⟩ _,_⟩)::r=>match exRd fs r with
  |some l=>some (⟨y,F,tF,S,tS⟩::l)
  |none=>none
 | _,_=>none
theorem u5:∀{fs:List (Str × Str)} {r:zh} {l:List Part},exRd fs r=some l→l.length=fs.length
 |[],[],_,h=>by simp only[exRd,Option.some.injEq] at h;subst h;rfl
 |[],_::_,_,h=>by simp[exRd] at h
 |(F,S)::fs,r,l,h=>by
  unfold exRd at h
  split at h
  ·rename_i heq;cases heq
  ·rename_i fs' _ _ _ _ _ _ _ _ _ _ r' heq
   injection heq with _ e2
   subst e2
   cases hl':exRd fs r' with
   |none=>rw[hl'] at h;cases h
   |some l'=>
    rw[hl'] at h
    simp only[Option.some.injEq] at h
    subst h
    rw[List.length_cons,List.length_cons,u5 hl']
  ·cases h
def xF(xs:Array Value):List Part→Array Value
 |[]=>xs
 |p::r=>xF (xs.push (.ref p.a)) r
theorem pushAll_eq:∀(ex ps:List Part),xF (ze ps) ex=ze (ps++ex)
 |[],ps=>by rw[List.append_nil];rfl
 |p::r,ps=>by
  have:(ze ps).push (.ref p.a)=ze (ps++[p]):=by simp[ze]
  rw[xF,this,pushAll_eq r,List.append_assoc];rfl
structure LrM where
 m:Option Addr
 c:AccM
 q:AccD
 ex:List Part
def lrRd(exF:List (Str × Str))(mg:Option (Option Addr)):zh→Option LrM
 |a::b::c::r=>match (match mg with|some m=>some m|none=>memRd [a]) with
  |some m=>match accRd2 [b,c] with
   |some (x,q)=>match exRd exF r with
    |some ex=>some ⟨m,x,q,ex⟩
    |none=>none
   |none=>none
  |none=>none
 | _=>none
def LrM.acc(μ:LrM)(ps0:List Part):Acc:=⟨μ.c.a,μ.c.d,ps0++μ.ex,μ.c.ep,μ.q.n,μ.q.tk,μ.q.tn,μ.q.ep⟩
def LrM.sl(μ:LrM)(P:Params)(V:TopV)(ps0:List Part):zh:={ μ.c with xs:=xF (ze ps0) μ.ex }.o V::μ.q.o P μ.c.d::μ.ex.map Part.slot
theorem LrM.sl_eq(μ:LrM)(P:Params)(V:TopV)(ps0:List Part)(a:Addr × Obj):((a::μ.sl P V ps0)++zb ps0).Perm ((a::(μ.acc ps0).slots P V)++zb (μ.acc ps0).ps):=by
 refine .cons _ ?_
 show ({ μ.c with xs:=xF (ze ps0) μ.ex }.o V::μ.q.o P μ.c.d::(μ.ex.map Part.slot++zb ps0)).Perm _
 have h1:{ μ.c with xs:=xF (ze ps0) μ.ex }.o V=((μ.acc ps0).a,z5 V (μ.acc ps0).d (ze (μ.acc ps0).ps) (μ.acc ps0).ep):=by
  show (μ.c.a,z5 V μ.c.d (xF (ze ps0) μ.ex) μ.c.ep)=_
  rw[pushAll_eq];rfl
 rw[h1]
 refine .cons _ (.cons _ ?_)
 show (zb μ.ex++zb ps0).Perm (zb (ps0++μ.ex))
 unfold zb
 rw[List.map_append]
 exact List.perm_append_comm
def LrM.objs(μ:LrM)(P:Params)(V:TopV)(ps0:List Part):List Obj:=z5 V μ.c.d (xF (ze ps0) μ.ex) μ.c.ep::wt P μ.q.tk μ.q.n μ.q.tn μ.q.ep::μ.ex.map fun p=>vd p.F p.tF p.S p.tS
theorem LrM.zip_eq(μ:LrM)(P:Params)(V:TopV)(ps0:List Part):((μ.sl P V ps0).map (·.1)).zip (μ.objs P V ps0)=μ.sl P V ps0:=by
 show _::_::((μ.ex.map Part.slot).map (·.1)).zip (μ.ex.map fun p=>vd p.F p.tF p.S p.tS)=_
 have:((μ.ex.map Part.slot).map (·.1)).zip (μ.ex.map fun p=>vd p.F p.tF p.S p.tS)=μ.ex.map Part.slot:=exObjs_zip μ.ex
 rw[this];rfl
def lenRange(μ:LrM)(ps0:List Part):LV × LV:=(.b (decide (0≤μ.q.n+total (ps0++μ.ex)) && decide (μ.q.n+total (ps0++μ.ex) < 100)),.b true)
theorem uY{exF:List (Str × Str)}{objs:zh}{mg:Option (Option Addr)}{μ:LrM}(h:lrRd exF mg objs=some μ):μ.ex.length=exF.length:=by
 unfold lrRd at h
 split at h<;>try(cases h;done)
 split at h<;>try(cases h;done)
 split at h<;>try(cases h;done)
 split at h<;>try(cases h;done)
 rename_i ex hex
 simp only[Option.some.injEq] at h
 subst h
 exact u5 hex
def lenK8(d:Nat):Nat:=match d with
 |0=>0|1=>1|2=>2|3=>3|4=>0|5=>1|6=>2 | _=>3
def lenD4(d:Nat)(a:Addr):Code:=match d with
 |0=>lenD 0 a
 |1=>lenD 1 a
 |2=>lenD 0 a
 | _=>lenD 1 a
def lenV(kk:Nat)(d:Nat)(v:Int):Int:=match d with
 |0=>v
 |1=>v
 | _=>Int.ofNat kk
def giv(m:Option Addr)(n d:Nat):Option (Option Addr):=match Nat.blt d n with
 |true=>some m
 |false=>none
def xLenF(P:Params)(V:TopV)(ps0:List Part)(exF:List (Str × Str))(kk:Nat)(mg:Option Addr):Ext:=fnX (3+exF.length) (fun _=>0) lx? (fun d _ objs=>lrRd exF (giv mg 4 d) objs) (fun d _ μ=>lenD4 (lenK8 d) μ.c.a)
 (fun _ _ μ=>(284,zn 124 19 μ.m)::μ.sl P V ps0) (fun d _ μ=>[(.b (zG (ps0++μ.ex)),.b true),lenRange μ ps0,(.i (μ.q.n+total (ps0++μ.ex)),.i (lenV kk (lenK8 d) (μ.q.n+total (ps0++μ.ex))))])
 (fun d _ μ _ t=>⟨.ok (.ret (.int (lenV kk (lenK8 d) (μ.q.n+total (ps0++μ.ex))) (t.tok 0))),zn 124 19 (some (t.tok 1))::μ.objs P V ps0,[]⟩)
theorem lenD4_eq(d:Nat)(a:Addr):∃e,lenD4 d a=lenD e a:=match d with
 |0=>⟨0,rfl⟩
 |1=>⟨1,rfl⟩
 |2=>⟨0,rfl⟩
 | _+3=>⟨1,rfl⟩
theorem xLenF_ok{K:Wd}{W:List (Code × Pos)}{n:Nat}{ps0:List Part}{F:List Frame}{exF:List (Str × Str)}{kk:Nat}{mg:Option Addr}(U:Under (cfg K.P K.V W n (zb ps0)) F):ExtOk (cfg K.P K.V W n (zb ps0)) K.w F (xLenF K.P K.V ps0 exF kk mg):=by
 refine ExtOk.fn U (fun p hp=>by obtain⟨q,_,rfl⟩:=List.mem_map.mp hp;rfl) Lx.W (fun _=>True) (fun wh x h=>⟨lx?_ok h,trivial⟩) (fun d c objs x μ xs t h=>by simp[LrM.objs,uY h];omega) ?_
 intro d x μ _ hpc _ pos
 have hs:zG (ps0++μ.ex)=true:=LV.b.inj (hpc _ (.head _))
 have hb:=LV.b.inj (hpc _ (.tail _ (.head _)))
 have hv:μ.q.n+total (ps0++μ.ex)=lenV kk (lenK8 d) (μ.q.n+total (ps0++μ.ex)):=LV.i.inj (hpc _ (.tail _ (.tail _ (.head _))))
 simp only[Bool.and_eq_true,decide_eq_true_eq] at hb
 obtain⟨e,he⟩:=lenD4_eq (lenK8 d) μ.c.a
 rw[he,←hv]
 have h:=len_seg (K:=K) (x:=x) (c:=μ.acc ps0) (m:=μ.m) (d:=e) (pos:=pos) hs hb.1 hb.2
 refine(Seg.perm (T:=((284,zn 124 19 μ.m)::(μ.acc ps0).slots K.P K.V)++zb (μ.acc ps0).ps) (μ.sl_eq K.P K.V ps0 _) h).swap ?_
 rintro b ⟨t,a,e1,e2,e3⟩
 refine⟨((284,zn 124 19 (some a))::μ.sl K.P K.V ps0)++zb ps0,by rw[e3];exact(μ.sl_eq K.P K.V ps0 _).symm,[],⟨fun i=>if i=0 then t else a,fun _=>wB⟩,rfl,rfl,e1,e2,?_⟩
 show _=[]++((284::(μ.sl K.P K.V ps0).map (·.1)).zip (zn 124 19 (some a)::μ.objs K.P K.V ps0)++zb ps0)
 rw[List.zip_cons_cons,μ.zip_eq];rfl
def xStrF(P:Params)(V:TopV)(ps0:List Part)(exF:List (Str × Str))(mg:Option Addr):Ext:=fnX (3+exF.length) (fun _=>0) lx? (fun d _ objs=>lrRd exF (giv mg 1 d) objs) (fun _ _ μ=>.call (.type "str") ⟨[.ref μ.c.a],[]⟩)
 (fun _ _ μ=>(291,zn 127 32 μ.m)::μ.sl P V ps0) (fun _ _ μ=>[(.b (zG (ps0++μ.ex)),.b true),(.b (decide ((ps0++μ.ex).length≤40)),.b true)])
 (fun _ _ μ _ t=>⟨.ok (.ret (.str (zW (ps0++μ.ex)) (t.tok 0))),zn 127 32 (some (t.tok 1))::μ.objs P V ps0,[]⟩)
theorem xStrF_ok{K:Wd}{W:List (Code × Pos)}{n:Nat}{ps0:List Part}{F:List Frame}{exF:List (Str × Str)}{mg:Option Addr}(U:Under (cfg K.P K.V W n (zb ps0)) F):ExtOk (cfg K.P K.V W n (zb ps0)) K.w F (xStrF K.P K.V ps0 exF mg):=by
 refine ExtOk.fn U (fun p hp=>by obtain⟨q,_,rfl⟩:=List.mem_map.mp hp;rfl) Lx.W (fun _=>True) (fun wh x h=>⟨lx?_ok h,trivial⟩) (fun d c objs x μ xs t h=>by simp[LrM.objs,uY h];omega) ?_
 intro d x μ _ hpc _ pos
 have hs:zG (ps0++μ.ex)=true:=LV.b.inj (hpc _ (.head _))
 have hb:=of_decide_eq_true (LV.b.inj (hpc _ (.tail _ (.head _))))
 have h:=str_seg (K:=K) (x:=x) (c:=μ.acc ps0) (m:=μ.m) (pos:=pos) hs hb
 refine(Seg.perm (T:=((291,zn 127 32 μ.m)::(μ.acc ps0).slots K.P K.V)++zb (μ.acc ps0).ps) (μ.sl_eq K.P K.V ps0 _) h).swap ?_
 rintro b ⟨t,a,e1,e2,e3⟩
 refine⟨((291,zn 127 32 (some a))::μ.sl K.P K.V ps0)++zb ps0,by rw[e3];exact(μ.sl_eq K.P K.V ps0 _).symm,[],⟨fun i=>if i=0 then t else a,fun _=>wB⟩,rfl,rfl,e1,e2,?_⟩
 show _=[]++((291::(μ.sl K.P K.V ps0).map (·.1)).zip (zn 127 32 (some a)::μ.objs K.P K.V ps0)++zb ps0)
 rw[List.zip_cons_cons,μ.zip_eq];rfl
def AccM.put(c:AccM)(xs:Array Value):AccM:=⟨c.a,c.d,xs,c.ep⟩
def owKs:List (List Nat):=[[0,1,0,0,3],[0,0,0,0,3],[0,2,0,1,0,0,3]]
def owC(a:Addr):Code:=.call (.ref 311) ⟨[.ref a],[]⟩
def spB(s:Str):Bool:=decide (s.length > 0) && s.cps.all Unicode.isSpace
def tpOw0:List Nat:=[622,620,5,2,4,5,3,644,644,642,644,644,642,0,3,644,3,644,644,642,3,3,644,1,1,1]
def owS0(K:Wd)(x:List Nat × Bag)(z:PopQ)(pos:Pos):Start:=mkS K (WK x) 2 [] [zS K.P 8 []] [z.far.c.o K.V,z.far.q.o K.P z.c.d] (owC z.far.c.a) pos
def owPc0(z:PopQ):Lg:=[(.v (.bool (z.q.n==0)),.v (.bool false))]
def owX0(K:Wd)(z:PopQ)(r:Option Out):Exp:=⟨.pure (.done (.ret (.bool false))),(eo r).code,⟨136,15,136,76⟩,[],[z.far.c.o K.V,z.far.q.o K.P z.c.d],[],owPc0 z⟩
theorem ow_r0(K:Wd)(x:List Nat × Bag)(hx:x.1∈owKs)(z:PopQ)(pos:Pos)(α τ γ):lhs 2 [1,2] ((owS0 K x z pos).run α τ γ 42 tpOw0)=rhs 1 (owX0 K z ((owS0 K x z pos).run α τ γ 42 tpOw0)) ((owS0 K x z pos).run α τ γ 42 tpOw0):=by
 obtain⟨ks,bag⟩:=x
 obtain⟨w,b1,b2,V0,hw⟩:=K
 simp only[owKs,List.mem_cons,List.not_mem_nil,or_false] at hx
 cases b1<;>rcases hx with rfl|rfl|rfl<;>kernel_rfl
def tpOw1(d:Nat):List Nat:=[622,620,9,4,4,9,3,644,644,642,644,644,642,0,3,644,3,644,644,642,3,3,644,1,1,2,9,3,644,644,642,3,644,644,642,2,3,7,3,1,6,0,9,3,0,5,3,1,1,d]
def owD:Bool→Nat
 |true=>2
 |false=>1
def PopQ.lp(z:PopQ)(ps:List Part):AccM:={ z.far.c with xs:=ze ps }
def owS1(K:Wd)(x:List Nat × Bag)(z:PopQ)(ps:List Part)(k:Nat)(a1:Addr)(m2:Option Addr)(pos:Pos):Start:=
 mkS K (WK x) 4 (zb ps) [zS K.P 8 [],xLenF K.P K.V ps [] (k+1) (some a1),xStrF K.P K.V ps [] m2] [(284,zn 124 19 (some a1)),(291,zn 127 32 m2),(z.lp ps).o K.V,z.far.q.o K.P z.c.d] (owC z.far.c.a) pos
def owPc(z:PopQ)(ps:List Part)(k:Nat)(b:Bool):Lg:=[(.v (.bool (spB (zW (ps++[])))),.v (.bool b)),(.b (zG (ps++[])),.b true),(.b (decide ((ps++[]).length≤40)),.b true),
  (.b (zG (ps++[])),.b true),(.b (decide (0≤z.q.n+total (ps++[])) && decide (z.q.n+total (ps++[]) < 100)),.b true),(.i (z.q.n+total (ps++[])),.i (Int.ofNat (k+1))),(.v (.bool (z.q.n==0)),.v (.bool true))]
def owX1(K:Wd)(z:PopQ)(ps:List Part)(k:Nat)(b:Bool)(r:Option Out)(τ:Nat→Ch):Exp:=⟨.pure (.done (.ret (.bool b))),(eo r).code,⟨136,56,136,75⟩,[],
 [(284,zn 124 19 (some ((τ 4).tok 1))),(291,zn 127 32 (some ((τ 5).tok 1))),(z.lp ps).o K.V,z.far.q.o K.P z.c.d],[],owPc z ps k b⟩
theorem ow_r1(K:Wd)(x:List Nat × Bag)(hx:x.1∈owKs)(z:PopQ)(ps:List Part)(k:Nat)(a1:Addr)(m2:Option Addr)(b:Bool)(pos:Pos)(α τ γ):lhs 4 [1,2,3,4] ((owS1 K x z ps k a1 m2 pos).run α τ γ 68 (tpOw1 (owD b))) =
  rhs 1 (owX1 K z ps k b ((owS1 K x z ps k a1 m2 pos).run α τ γ 68 (tpOw1 (owD b))) τ) ((owS1 K x z ps k a1 m2 pos).run α τ γ 68 (tpOw1 (owD b))):=by
 obtain⟨ks,bag⟩:=x
 obtain⟨w,b1,b2,V0,hw⟩:=K
 simp only[owKs,List.mem_cons,List.not_mem_nil,or_false] at hx
 cases b<;>cases b1<;>rcases hx with rfl|rfl|rfl<;>kernel_rfl
theorem three_ext{C:Cfg}{w:World}{F:List Frame}{E1 E2 E3:Ext}(h1:ExtOk C w F E1)(h2:ExtOk C w F E2)(h3:ExtOk C w F E3):∀e E',nth [E1,E2,E3] e=some E'→ExtOk C w F E'
 |0,E',e=>by simp only[nth,Option.some.injEq] at e;exact e▸h1
 |1,E',e=>by simp only[nth,Option.some.injEq] at e;exact e▸h2
 |2,E',e=>by simp only[nth,Option.some.injEq] at e;exact e▸h3
 | _+3,E',e=>by simp[nth] at e
theorem owPc0_ok{z:PopQ}(hn:(z.q.n==0)=false):Lg.Ok (owPc0 z):=by
 unfold owPc0
 rw[hn]
 exact zc rfl zl
theorem ow_seg0{K:Wd}{x:List Nat × Bag}(hx:x.1∈owKs){c:AccM}{q:AccD}(hc:363≤c.a)(hn:(q.n==0)=false){pos:Pos} :
  Seg K (WK x) ⟨zx (owC c.a),owC c.a,pos,[],[c.o K.V,q.o K.P c.d]⟩ fun b=>b.cur=.pure (.done (.ret (.bool false)))∧b.fs=[]∧b.T=[c.o K.V,q.o K.P c.d]:=by
 obtain⟨z,rfl,rfl⟩:=PopQ.of_far (q:=q) hc
 refine(Seg.run (K:=K) (owS0 K x z pos) (tl:=[]) rfl rfl (ext_one fun F U=>zJ) (fun α τ γ=>owX0 K z ((owS0 K x z pos).run α τ γ 42 tpOw0)) [1,2] (ow_r0 K x hx z pos) (by decide) rfl (by decide) (fun _ _ _=>owPc0_ok hn) (fun _ _ _=>rfl)).mono ?_
 rintro b ⟨α,τ,γ,_,rfl⟩
 exact⟨rfl,rfl,rfl⟩
structure OwH (q:AccD) (ps:List Part) (k:Nat) (b:Bool):Prop where
 sp:spB (zW ps)=b
 sm:zG ps=true
 ln:ps.length≤40
 lo:0≤q.n+total ps
 hi:q.n+total ps < 100
 kk:q.n+total ps=Int.ofNat (k+1)
 n0:(q.n==0)=true
theorem owPc_ok{z:PopQ}{ps:List Part}{k:Nat}{b:Bool}(h:OwH z.q ps k b):Lg.Ok (owPc z ps k b):=by
 unfold owPc
 rw[List.append_nil,h.sp,h.sm,h.kk,decide_eq_true h.ln]
 have hlo:=h.lo
 have hhi:=h.hi
 rw[h.kk] at hlo hhi
 rw[h.n0,decide_eq_true hlo,decide_eq_true hhi]
 exact zc rfl (zc rfl (zc rfl (zc rfl (zc rfl (zc rfl (zc rfl zl))))))
theorem ow_seg1{K:Wd}{x:List Nat × Bag}(hx:x.1∈owKs){c:AccM}{q:AccD}{ps:List Part}{k:Nat}{a1:Addr}{m2:Option Addr}{b:Bool}(hc:363≤c.a)(hxs:c.xs=ze ps)(h:OwH q ps k b){pos:Pos} :
  Seg K (WK x) ⟨zx (owC c.a),owC c.a,pos,[],[(284,zn 124 19 (some a1)),(291,zn 127 32 m2),c.o K.V,q.o K.P c.d]++zb ps⟩ fun s=>∃a1' a2',s.cur=.pure (.done (.ret (.bool b)))∧s.fs=[]∧
   s.T=[(284,zn 124 19 (some a1')),(291,zn 127 32 (some a2')),c.o K.V,q.o K.P c.d]++zb ps:=by
 obtain⟨z,rfl,rfl⟩:=PopQ.of_far (q:=q) hc
 have e:z.far.c=z.lp ps:=by unfold PopQ.lp;rw[←hxs]
 rw[show (z.far.c.o K.V)=(z.lp ps).o K.V by rw[←e]]
 refine(Seg.run (K:=K) (owS1 K x z ps k a1 m2 pos) (tl:=zb ps) rfl rfl (fun F U=>three_ext zJ (xLenF_ok U) (xStrF_ok U)) (fun α τ γ=>owX1 K z ps k b ((owS1 K x z ps k a1 m2 pos).run α τ γ 68 (tpOw1 (owD b))) τ) [1,2,3,4]
  (ow_r1 K x hx z ps k a1 m2 b pos) (by decide) rfl (by decide) (fun _ _ _=>owPc_ok h) (fun _ _ _=>rfl)).mono ?_
 rintro b ⟨α,τ,γ,_,rfl⟩
 exact⟨(τ 4).tok 1,(τ 5).tok 1,rfl,rfl,rfl⟩
def owB:Nat→Bool
 |1=>false
 | _=>true
structure OwM where
 a1:Addr
 c:AccM
 q:AccD
def owRd:zh→Option OwM
 |a::_::r=>match memRd [a] with
  |some (some a1)=>match accRd2 r with
   |some (c,q)=>some ⟨a1,c,q⟩
   |none=>none
  | _=>none
 | _=>none
def xOws(P:Params)(V:TopV)(ps:List Part)(k:Nat)(m2:Option Addr):Ext:=fnX 4 (fun _=>0) (shk owKs) (fun _ _ objs=>owRd objs) (fun _ _ μ=>owC μ.c.a)
 (fun _ _ μ=>[(284,zn 124 19 (some μ.a1)),(291,zn 127 32 m2),(μ.c.put (ze ps)).o V,μ.q.o P μ.c.d])
 (fun d _ μ=>match d with
  |0=>[wZ μ.c.a,(.b (μ.q.n==0),.b false)]
  | _=>[wZ μ.c.a,(.b (μ.q.n==0),.b true),(.b (spB (zW ps)),.b (owB d)),(.b (zG ps),.b true),(.b (decide (ps.length≤40)),.b true),(.b (decide (μ.q.n+total ps < 100)),.b true),(.i (μ.q.n+total ps),.i (Int.ofNat (k+1)))])
 (fun d _ μ _ t=>match d with
  |0=>⟨.ok (.ret (.bool false)),[zn 124 19 (some μ.a1),zn 127 32 m2,z5 V μ.c.d (ze ps) μ.c.ep,wt P μ.q.tk μ.q.n μ.q.tn μ.q.ep],[]⟩
  | _=>⟨.ok (.ret (.bool (owB d))),[zn 124 19 (some (t.tok 0)),zn 127 32 (some (t.tok 1)),z5 V μ.c.d (ze ps) μ.c.ep,wt P μ.q.tk μ.q.n μ.q.tn μ.q.ep],[]⟩)
theorem zB(ps:List Part):∀p∈zb ps,p.2.isFreed=false:=fun p hp=>by
 obtain⟨q,_,rfl⟩:=List.mem_map.mp hp;rfl
theorem xOws_ok{K:Wd}{W:List (Code × Pos)}{n:Nat}{ps:List Part}{k:Nat}{m2:Option Addr}{F:List Frame}(U:Under (cfg K.P K.V W n (zb ps)) F):ExtOk (cfg K.P K.V W n (zb ps)) K.w F (xOws K.P K.V ps k m2):=by
 refine ExtOk.fn U (zB ps) WK (fun x=>x.1∈owKs) (fun wh x h=>xr h) (fun d _ _ _ _ _ _ _=>by cases d<;>rfl) ?_
 intro d x μ hx hpc _ pos
 cases d with
 |zero=>
  have hc:=farB_ok hpc (.head _)
  have hn:(μ.q.n==0)=false:=LV.b.inj (hpc _ (.tail _ (.head _)))
  have h:=Seg.frame (K:=K) ([(284,zn 124 19 (some μ.a1)),(291,zn 127 32 m2)]++zb ps) (fun p hp=>by
   rcases List.mem_append.mp hp with hp|hp
   ·simp only[List.mem_cons,List.not_mem_nil,or_false] at hp
    rcases hp with rfl|rfl<;>rfl
   ·exact zB ps p hp) (ow_seg0 hx (c:=μ.c.put (ze ps)) (q:=μ.q) hc hn (pos:=pos))
  have pm:([(284,zn 124 19 (some μ.a1)),(291,zn 127 32 m2),(μ.c.put (ze ps)).o K.V,μ.q.o K.P μ.c.d]++zb ps).Perm ([(μ.c.put (ze ps)).o K.V,μ.q.o K.P μ.c.d]++([(284,zn 124 19 (some μ.a1)),(291,zn 127 32 m2)]++zb ps)):=by
   rw[←List.append_assoc]
   exact List.Perm.append_right _ (List.perm_append_comm (l₁:=[(284,zn 124 19 (some μ.a1)),(291,zn 127 32 m2)]) (l₂:=[(μ.c.put (ze ps)).o K.V,μ.q.o K.P μ.c.d]))
  refine(Seg.perm (a:=⟨_,_,pos,[],_⟩) pm h).swap ?_
  rintro b ⟨b',⟨e1,e2,e3⟩,rfl⟩
  exact⟨[(284,zn 124 19 (some μ.a1)),(291,zn 127 32 m2),(μ.c.put (ze ps)).o K.V,μ.q.o K.P μ.c.d]++zb ps,by rw[e3];exact pm.symm,[],⟨fun _=>0,fun _=>wB⟩,rfl,rfl,e1,e2,rfl⟩
 |succ d=>
  have hc:=farB_ok hpc (.head _)
  have h1:(μ.q.n==0)=true:=LV.b.inj (hpc _ (.tail _ (.head _)))
  have h2:=LV.b.inj (hpc _ (.tail _ (.tail _ (.head _))))
  have h3:zG ps=true:=LV.b.inj (hpc _ (.tail _ (.tail _ (.tail _ (.head _)))))
  have h4:=of_decide_eq_true (LV.b.inj (hpc _ (.tail _ (.tail _ (.tail _ (.tail _ (.head _)))))))
  have h5:=of_decide_eq_true (LV.b.inj (hpc _ (.tail _ (.tail _ (.tail _ (.tail _ (.tail _ (.head _))))))))
  have h6:μ.q.n+total ps=Int.ofNat (k+1):=LV.i.inj (hpc _ (.tail _ (.tail _ (.tail _ (.tail _ (.tail _ (.tail _ (.head _))))))))
  refine(ow_seg1 hx (c:=μ.c.put (ze ps)) (q:=μ.q) (a1:=μ.a1) (m2:=m2) hc rfl ⟨h2,h3,h4,by rw[h6];exact Int.natCast_nonneg _,h5,h6,h1⟩ (pos:=pos)).mono ?_
  rintro b ⟨a1',a2',e1,e2,e3⟩
  exact⟨[],⟨fun i=>if i=0 then a1' else a2',fun _=>wB⟩,rfl,rfl,e1,e2,e3⟩
end Mine
end
noncomputable section
open PyProof.Rows PySem PySem.W
set_option maxRecDepth 100000
namespace Mine
def xTupNe:Ext:=⟨2,fun _=>0,false,fun d c _ objs _ _ _=>match c with
 | .call (.builtin id) ⟨[.ref l,.ref r],[]⟩=>match idB id 29827101557446578626297427573 with
  |true=>match objs with
   |[(y,⟨.type T,dd,.seq ⟨[.str F tF,.str S tS]⟩ n,sl⟩),(z,⟨.type T',dd',.seq ⟨[.str F' tF',.str S' tS']⟩ n',sl'⟩)]=>match idB T 439922816629 with
    |true=>match idB T' 439922816629 with
     |true=>some ⟨.ok (.ret (.bool (owB (d+1)))),[],[],[(.n l,.n y),(.n r,.n z)],[(.b (!(F==F' && S==S')),.b (owB (d+1)))]⟩
     |false=>none
    |false=>none
   | _=>none
  |false=>none
 | _=>none⟩
theorem xTupNe_ok{w:World}{tl:zh}:zH w tl xTupNe:=by
 intro prog s d c wh objs gs hm hg _ _
 refine⟨[],.of 0,rfl,zw,fun r hr hl hp=>?_⟩
 simp only[xTupNe] at hr
 split at hr<;>try(cases hr;done)
 rename_i id l r'
 split at hr<;>try(cases hr;done)
 rename_i hid
 have hid:=zv hid (s:= "tuple.__ne__") (by decide +kernel)
 subst hid
 split at hr<;>try(cases hr;done)
 rename_i y T dd F tF S tS n sl z T' dd' F' tF' S' tS' n' sl'
 split at hr<;>try(cases hr;done)
 rename_i hT
 split at hr<;>try(cases hr;done)
 rename_i hT'
 have hT:=zv hT (s:= "tuple") (by decide +kernel)
 have hT':=zv hT' (s:= "tuple") (by decide +kernel)
 subst hT hT'
 simp only[Option.some.injEq] at hr
 subst hr
 have e1:l=y:=LV.n.inj (hl _ (.head _))
 have e2:r'=z:=LV.n.inj (hl _ (.tail _ (.head _)))
 have e3:=LV.b.inj (hp _ (.head _))
 subst e1 e2
 refine⟨s,?_,⟨fun _ _ h _=>h,fun _ h=>(by simp at h),fun _ h=>(by simp at h),List.nodup_nil,fun _ _ h _=>h,id,rfl⟩⟩
 have h1:=hg _ (.head _)
 have h2:=hg _ (.tail _ (.head _))
 refine codeAny_call_builtin PySem.F.slot_tuple_ne.plain PySem.F.entry_tuple_ne (PySem.F.slot_tuple_ne.check _ _ _ _ _ _ _ _ ⟨_,h1,rfl⟩ (PySem.F.args_tuple_ne_2 _ _)
  (PySem.SeqAt.tuple_neAt l r' #[.str F tF,.str S tS] #[.str F' tF',.str S' tS'] n n' dd dd' sl sl' (fun j=>match j with|0=>F==F' | _=>S==S') prog w _ (fun r s₁=>r=.ok (.ret (.bool (owB (d+1))))∧s₁=s) s ⟨h1,h2,fun j q1 q2=>?_,?_⟩))
 ·have:j=0∨j=1:=by simp at q1;omega
  rcases this with rfl|rfl
  ·exact PySem.SeqAt.EqAt.str_str F tF F' tF'
  ·exact PySem.SeqAt.EqAt.str_str S tS S' tS'
 ·rw[←e3]
  refine⟨?_,rfl⟩
  have:(List.range (min (#[Value.str F tF,Value.str S tS]:Array Value).size (#[Value.str F' tF',Value.str S' tS']:Array Value).size))=[0,1]:=rfl
  rw[this]
  simp
def xl:Ext:=⟨1,fun _=>1,false,fun d c _ objs _ xs _=>match c with
 | .builtin id ⟨[.ref l],[]⟩=>match idB id 9300767342341403084508581884785 with
  |true=>match objs with
   |[(y,⟨.type T,dd,.seq ⟨[v1,v2]⟩ n,sl⟩)]=>match idB T 439922816629 with
    |true=>match xs with
     |[x]=>some ⟨.ok (.ret (.ref x)),[],[⟨.type "list", none,.seq #[v1,v2] 1,#[]⟩],[(.n l,.n y)],[]⟩
     | _=>none
    |false=>none
   | _=>none
  |false=>none
 | _=>none⟩
theorem uP{w:World}{tl:zh}:zH w tl xl:=by
 intro prog s d c wh objs gs hm hg _ _
 refine⟨[s.heap.objs.size],.of 0,rfl,yo,fun r hr hl hp=>?_⟩
 simp only[xl] at hr
 split at hr<;>try(cases hr;done)
 rename_i id l
 split at hr<;>try(cases hr;done)
 rename_i hid
 have hid:=zv hid (s:= "proto.collect") (by decide +kernel)
 subst hid
 split at hr<;>try(cases hr;done)
 rename_i y T dd v1 v2 n sl
 split at hr<;>try(cases hr;done)
 rename_i hT
 have hT:=zv hT (s:= "tuple") (by decide +kernel)
 subst hT
 simp only[Option.some.injEq] at hr
 subst hr
 have e1:l=y:=LV.n.inj (hl _ (.head _))
 subst e1
 have h1:=hg _ (.head _)
 have hS:(s.heap.push { cls:=.type "list", data:=.seq ([]:List Value).toArray }).get? s.heap.objs.size=some { cls:=.type "list", data:=.seq #[] 0 }:=Heap.get?_push_size _ rfl
 have hS₂:=Heap.get?_update_self (Obj.mapSeq (·++#[v1,v2])) hS rfl
 refine⟨{ s with heap:=(s.heap.push { cls:=.type "list", data:=.seq ([]:List Value).toArray }).update s.heap.objs.size (Obj.mapSeq (·++#[v1,v2])) },?_,
  ⟨fun b o hb _=>(Heap.get?_update_other _ _ (Nat.ne_of_gt (Heap.lt_size hb))).trans (Heap.get?_push_of_some _ hb),fun p hp=>(by simp at hp),fun p hp=>?_,by simp,fun _ _ h _=>h,id,rfl⟩⟩
 ·refine PySem.codeAny_builtin PySem.F.entry_proto_collect ?_
  rw[Around.under_plainId PySem.F.plain_proto_collect _]
  show wpAny _ _ (newList [] >>= fun l'=>again (.builtin "list.__iadd__" ⟨[l',.ref l],[]⟩)) _ _ s
  refine wpAny_bind (wpAny_newObj_type ?_)
  refine wpAny_pure ⟨plainId_quiet PySem.F.plain_list_iadd _,PySem.codeAny_builtin PySem.F.entry_list_iadd ?_⟩
  rw[Around.under_plainId PySem.F.plain_list_iadd _]
  exact wpAny_extend_seq _ l _ 0 (T:= "tuple") (o:=⟨.type "tuple", dd,.seq ⟨[v1,v2]⟩ n,sl⟩) (items:=#[v1,v2]) (n:=n) (R:=fun r s₁=>r=.ok (.ret (.ref s.heap.objs.size))∧s₁={ s with heap:=(s.heap.push { cls:=.type "list", data:=.seq ([]:List Value).toArray }).update s.heap.objs.size (Obj.mapSeq (·++#[v1,v2])) }) (.inr rfl) hS (Heap.get?_push_of_some _ h1) rfl rfl ⟨rfl,rfl⟩ (by show 2≤sizeLine;have:=yu;omega)
 ·simp only[List.zip_cons_cons,List.zip_nil_right,List.mem_singleton] at hp
  subst hp
  exact hS₂
end Mine
end
noncomputable section
open PyProof.Rows PySem PySem.W
set_option maxRecDepth 100000
set_option maxHeartbeats 0
namespace Mine
def sMaxlen:Str:=⟨#[95,109,97,120,108,101,110]⟩
def sCws:Str:=⟨#[95,99,111,110,116,105,110,117,97,116,105,111,110,95,119,115]⟩
def sCwsLen:Str:=⟨#[95,99,111,110,116,105,110,117,97,116,105,111,110,95,119,115,95,108,101,110]⟩
def sSplit:Str:=⟨#[95,115,112,108,105,116,99,104,97,114,115]⟩
def sLines:Str:=⟨#[95,108,105,110,101,115]⟩
def sCur:Str:=⟨#[95,99,117,114,114,101,110,116,95,108,105,110,101]⟩
def spc:Str:=⟨#[32]⟩
structure Fm where
 fa:Addr
 fd:Addr
 la:Addr
 c:AccM
 q:AccD
 wd:Int
 t:Nat→Tok
 fe:Nat
 rows:Array Value
 le:Nat
 m1:Option Addr
 m2:Option Addr
def Fm.far(f:Fm):Fm:={ f with fa:=f.fa+363,c:=f.c.far }
def Fm.dictO(f:Fm)(P:Params):Obj:=⟨.type "dict", none,.dict #[⟨PyData.keyHash P sMaxlen,.str sMaxlen (f.t 0),.int f.wd (f.t 1)⟩,⟨PyData.keyHash P sCws,.str sCws (f.t 2),.str spc (f.t 3)⟩,⟨PyData.keyHash P sCwsLen,.str sCwsLen (f.t 4),.int 1 (f.t 5)⟩,
 ⟨PyData.keyHash P sSplit,.str sSplit (f.t 6),.str spc (f.t 7)⟩,⟨PyData.keyHash P sLines,.str sLines (f.t 8),.ref f.la⟩,⟨PyData.keyHash P sCur,.str sCur (f.t 9),.ref f.c.a⟩] f.fe,#[]⟩
def zd(xs:Array Value)(ep:Nat):Obj:=⟨.type "list", none,.seq xs ep,#[]⟩
def Fm.slots(f:Fm)(P:Params)(V:TopV):zh:=[(f.fa,⟨.ref 238,some f.fd,.plain,#[]⟩),(f.fd,f.dictO P),(f.la,zd f.rows f.le),f.c.o V,f.q.o P f.c.d,(284,zn 124 19 f.m1),(291,zn 127 32 f.m2)]
def nlC(a:Addr):Code:=.call (.ref 200) ⟨[.ref a],[]⟩
def Fm.line(f:Fm)(xs:Array Value)(ep:Nat):Fm:={ f with c:=⟨f.c.a,f.c.d,xs,ep⟩ }
def Fm.puts(f:Fm)(xs:Array Value):Fm:=f.line xs f.c.ep
def yL(r:Option Out)(i:Nat):Addr × Obj:=match nth (eo r).T i with
 |some p=>p
 |none=>(0,wB)
def tpNlF:List Nat:=[400,398,17,8,4,17,13,476,476,474,0,13,476,476,474,13,13,476,11,7,644,644,642,7,644,644,642,7,644,644,642,564,7,5,564,1,0,17,8,17,15,19,15,2,0]
def nlF(K:Wd)(x:List Nat × Bag)(f:Fm)(e:Addr)(pos:Pos)(α:Nat→Addr)(τ:Nat→Ch)(γ:Nat→Nat):Option Out:=
 (mkS K (WK x) 8 [] [fakeX 0 (.ref e),fakeX 0 (.bool false)] ((e,ve)::((f.far.line #[] 0).slots K.P K.V)) (nlC f.far.fa) pos).run α τ γ 75 tpNlF
def nlMid(K:Wd)(x:List Nat × Bag)(f g:Fm)(e:Addr)(pos:Pos)(ex:zh)(pc:Lg)(α:Nat→Addr)(τ:Nat→Ch)(γ:Nat→Nat):Exp:=
 ⟨(eo (nlF K x f e pos α τ γ)).cur,(eo (nlF K x f e pos α τ γ)).code,⟨59,8,63,59⟩,[],yL (nlF K x f e pos α τ γ) 1::(g.slots K.P K.V++ex),[],pc⟩
def tpNlN:List Nat:=[400,398,15,7,4,15,13,476,476,474,0,13,476,476,474,13,13,476,11,7,644,644,642,7,644,644,642,7,644,644,642,564,7,5,564,1,0,7,5,15,7,15,17,19,17,3,1,17,19,15,13,476,476,474,0,13,476,476,474,13,13,476,11,7,644,644,642,644,644,642,0,7,644,7,644,644,642,532,532,532,7,7,644,5,0,532,15,17,4,0,17,23,21,532,0,21,532,530,25,12,25,12,25,12,4,25,7,644,644,642,7,644,644,642,7,644,644,642,7,5,25,25,5,0,7,644,642]
def nlSN(K:Wd)(x:List Nat × Bag)(f:Fm)(pos:Pos):Start:=mkS K (WK x) 7 [] [xPopA K.P K.V #[] 0,zS K.P 8 [],xTupNe,xl,zD 3] ((f.far.puts #[]).slots K.P K.V) (nlC f.far.fa) pos
def nlXN(K:Wd)(x:List Nat × Bag)(f:Fm)(pos:Pos)(α:Nat→Addr)(τ:Nat→Ch)(γ:Nat→Nat):Exp:=
 nlMid K x f (f.far.line ((#[]:Array Value).push (.ref (α 6))) ((τ 13).tok 0)) (α 1) pos [(α 6,vd ⟨#[]⟩ ((τ 2).tok 0) ⟨#[]⟩ ((τ 2).tok 1))] [small (#[]:Array Value).size,(.b (!((⟨#[]⟩:Str)==spc && (⟨#[]⟩:Str)==⟨#[]⟩)),.b true),wZ f.far.c.a,(.b (Nat.blt (#[]:Array Value).size 1000),.b true)] α τ γ
theorem nl_rN(K:Wd)(x:List Nat × Bag)(hx:x.1∈xy)(f:Fm)(pos:Pos)(α τ γ):lhs 7 [6,7,8,9,10,11,12,13,0] ((nlSN K x f pos).run α τ γ 187 tpNlN)=rhs 7 (nlXN K x f pos α τ γ) ((nlSN K x f pos).run α τ γ 187 tpNlN):=by
 obtain⟨ks,bag⟩:=x
 obtain⟨w,b1,b2,V0,hw⟩:=K
 simp only[xy,List.mem_cons,List.not_mem_nil,or_false] at hx
 cases b1<;>rcases hx with rfl|rfl|rfl<;>kernel_rfl
def tpNlT:List Nat:=[400,398,17,8,4,17,13,476,476,474,0,13,476,476,474,13,13,476,11,7,644,644,642,7,644,644,642,7,644,644,642,564,7,5,564,1,1,7,5,17,8,17,15,19,15,3,0,15,19]
def tpNlL:List Nat:=[400,398,17,8,4,17,13,476,476,474,0,13,476,476,474,13,13,476,11,7,644,644,642,7,644,644,642,7,644,644,642,564,7,5,564,1,1,7,5,17,8,17,15,19,15,3,1,15,19,17,13,476,476,474,0,13,476,476,474,13,13,476,11,7,644,644,642,644,644,642,0,7,644,7,644,644,642,532,532,532,7,7,644,5,0,532,17,15,4,0,15,23,21,532,0,21,532,530,25,12,25,12,25,12,4,25,7,644,644,642,7,644,644,642,7,644,644,642,7,5,25,25,5,0,7,644,642]
def nlSP(K:Wd)(x:List Nat × Bag)(f:Fm)(ys:Array Value)(p:Part)(pos:Pos):Start:=mkS K (WK x) 8 [] [xPopA K.P K.V ys p.a,zS K.P 8 [],xTupNe,xl,zD 3] (p.slot::(f.far.puts (ys.push (.ref p.a))).slots K.P K.V) (nlC f.far.fa) pos
def nlPcT(f:Fm)(ys:Array Value)(p:Part):Lg:=[(.b (!(p.F==spc && p.S==⟨#[]⟩)),.b false),wZ f.far.c.a,(.b (Nat.blt ys.size 1000),.b true)]
def nlPcL(f:Fm)(ys:Array Value)(p:Part):Lg:=[small ys.size,(.b (!(p.F==spc && p.S==⟨#[]⟩)),.b true),wZ f.far.c.a,(.b (Nat.blt ys.size 1000),.b true)]
def nlXT(K:Wd)(x:List Nat × Bag)(f:Fm)(ys:Array Value)(p:Part)(pos:Pos)(α:Nat→Addr)(τ:Nat→Ch)(γ:Nat→Nat):Exp:=
 nlMid K x f (f.far.line ys (f.c.ep+1)) p.a pos [] (nlPcT f ys p) α τ γ
def nlXL(K:Wd)(x:List Nat × Bag)(f:Fm)(ys:Array Value)(p:Part)(pos:Pos)(α:Nat→Addr)(τ:Nat→Ch)(γ:Nat→Nat):Exp:=
 nlMid K x f (f.far.line (ys.push (.ref (α 5))) ((τ 13).tok 0)) p.a pos [(α 5,vd p.F p.tF p.S p.tS)] (nlPcL f ys p) α τ γ
theorem nl_rT(K:Wd)(x:List Nat × Bag)(hx:x.1∈xy)(f:Fm)(ys:Array Value)(p:Part)(pos:Pos)(α τ γ):lhs 8 [1,3,4,5,6,7,8,9] ((nlSP K x f ys p pos).run α τ γ 75 tpNlT)=rhs 2 (nlXT K x f ys p pos α τ γ) ((nlSP K x f ys p pos).run α τ γ 75 tpNlT):=by
 obtain⟨ks,bag⟩:=x
 obtain⟨w,b1,b2,V0,hw⟩:=K
 simp only[xy,List.mem_cons,List.not_mem_nil,or_false] at hx
 cases b1<;>rcases hx with rfl|rfl|rfl<;>kernel_rfl
theorem nl_rL(K:Wd)(x:List Nat × Bag)(hx:x.1∈xy)(f:Fm)(ys:Array Value)(p:Part)(pos:Pos)(α τ γ):lhs 8 [5,7,8,9,10,11,12,13,0] ((nlSP K x f ys p pos).run α τ γ 187 tpNlL)=rhs 6 (nlXL K x f ys p pos α τ γ) ((nlSP K x f ys p pos).run α τ γ 187 tpNlL):=by
 obtain⟨ks,bag⟩:=x
 obtain⟨w,b1,b2,V0,hw⟩:=K
 simp only[xy,List.mem_cons,List.not_mem_nil,or_false] at hx
 cases b1<;>rcases hx with rfl|rfl|rfl<;>kernel_rfl
inductive AllOk (C:Cfg) (w:World) (F:List Frame):List Ext→Prop
 |nil:AllOk C w F []
 |cons {E l}:ExtOk C w F E→AllOk C w F l→AllOk C w F (E::l)
theorem AllOk.nth{C:Cfg}{w:World}{F:List Frame}{l:List Ext}(h:AllOk C w F l):∀e E,Mine.nth l e=some E→ExtOk C w F E:=by
 induction h with
 |nil=>intro e E h;simp[Mine.nth] at h
 |cons h1 _ ih=>
  intro e E h
  cases e with
  |zero=>simp only[Mine.nth,Option.some.injEq] at h;exact h▸h1
  |succ e=>exact ih e E h
def Part.tx(p:Part):Str × Str:=(p.F,p.S)
def txs(ps:List Part):List (Str × Str):=ps.map Part.tx
def zT(l:List (Str × Str)):List (Str × Str):=match l.getLast? with
 |none=>[(⟨#[]⟩,⟨#[]⟩)]
 |some p=>if (p.1==spc && p.2==⟨#[]⟩)=true then l.dropLast else l
structure NlB (K:Wd) (x:List Nat × Bag) (f:Fm) (pos:Pos) (tx:List (Str × Str)) (b:St):Prop where
 ex:∃α τ γ e ep ps2,txs ps2=tx∧b=⟨(eo (nlF K x f e pos α τ γ)).cur,(eo (nlF K x f e pos α τ γ)).code,⟨59,8,63,59⟩,[],yL (nlF K x f e pos α τ γ) 1::((f.far.line (ze ps2) ep).slots K.P K.V++zb ps2)⟩
theorem Fm.live(f:Fm)(P:Params)(V:TopV):∀p∈f.slots P V,p.2.isFreed=false:=fun p hp=>by
 simp only[Fm.slots,List.mem_cons,List.not_mem_nil,or_false] at hp
 rcases hp with rfl|rfl|rfl|rfl|rfl|rfl|rfl<;>rfl
theorem zk{n:Nat}(h:n≤1000):(small n).1=(small n).2:=by
 show LV.b (decide (n≤1000))=LV.b true
 rw[decide_eq_true h]
theorem blt_mk{a b:Nat}(h:a < b):(LV.b (Nat.blt a b))=LV.b true:=by
 rw[show Nat.blt a b=true by rw[Nat.blt_eq];exact h]
theorem nl_exts{K:Wd}{W:List (Code × Pos)}{m:Nat}{ys:Array Value}{va:Addr}:∀F,Under (cfg K.P K.V W m []) F→∀e E,nth [xPopA K.P K.V ys va,zS K.P 8 [],xTupNe,xl,zD 3] e=some E→ExtOk (cfg K.P K.V W m []) K.w F E:=fun F U=>
 (AllOk.cons (xPopA_ok U fun _ h=>by cases h) (.cons zJ (.cons (.leaf U xTupNe_ok) (.cons (.leaf U uP) (.cons (.leaf U zI) .nil))))).nth
theorem yg(ps:List Part)(p:Part):(ze ps).push (.ref p.a)=ze (ps++[p]):=by simp[ze]
theorem nl_half1{K:Wd}{x:List Nat × Bag}(hx:x.1∈xy){f:Fm}{ps:List Part}(hps:f.c.xs=ze ps)(hlen:ps.length≤40){pos:Pos} :
  Seg K (WK x) ⟨zx (nlC f.far.fa),nlC f.far.fa,pos,[],f.far.slots K.P K.V++zb ps⟩ (NlB K x f pos (zT (txs ps))):=by
 have hfar:363≤f.far.c.a:=Nat.le_add_left ..
 rcases List.eq_nil_or_concat ps with rfl|⟨ps0,p,rfl⟩
 ·have e1:f.far=f.far.puts #[]:=by
   obtain⟨fa,fd,la,⟨a,d,xs,ep⟩,q,wd,t,fe,rows,le,m1,m2⟩:=f
   simp only at hps
   subst hps
   rfl
  have h:=Seg.run (K:=K) (nlSN K x f pos) (tl:=[]) rfl rfl nl_exts (nlXN K x f pos) [6,7,8,9,10,11,12,13,0] (nl_rN K x hx f pos) (by decide) rfl (by decide)
   (fun _ _ _=>zc (zk (Nat.zero_le _)) (zc rfl (zc (xk hfar) (zc (blt_mk (by decide)) zl)))) (fun _ _ _=>rfl)
  show Seg K (WK x) ⟨_,_,_,_,f.far.slots K.P K.V++[]⟩ _
  rw[e1]
  refine h.mono ?_
  rintro b ⟨α,τ,γ,_,rfl⟩
  exact⟨α,τ,γ,α 1,(τ 13).tok 0,[⟨α 6,⟨#[]⟩,(τ 2).tok 0,⟨#[]⟩,(τ 2).tok 1⟩],rfl,by
   show _=_
   simp only[nlXN,nlMid,List.append_nil]
   rfl⟩
 ·have hps:f.c.xs=(ze ps0).push (.ref p.a):=by rw[hps,yg];simp
  have hlen:ps0.length < 1000:=by simp at hlen;omega
  have e1:f.far=f.far.puts ((ze ps0).push (.ref p.a)):=by
   obtain⟨fa,fd,la,⟨a,d,xs,ep⟩,q,wd,t,fe,rows,le,m1,m2⟩:=f
   simp only at hps
   subst hps
   rfl
  have pm:(f.far.slots K.P K.V++zb (ps0.concat p)).Perm ((p.slot::f.far.slots K.P K.V)++zb ps0):=by
   rw[List.concat_eq_append]
   unfold zb
   rw[List.map_append]
   refine(List.perm_append_comm).trans ?_
   show ((ps0.map Part.slot++[p.slot])++f.far.slots K.P K.V).Perm (p.slot::(f.far.slots K.P K.V++ps0.map Part.slot))
   rw[List.append_assoc]
   exact(List.perm_append_comm).trans (List.Perm.refl _)
  have hsz:(ze ps0).size < 1000:=by rw[zF];exact hlen
  have hl:txs (ps0.concat p)=txs ps0++[p.tx]:=by simp[txs]
  cases hb:(!(p.F==spc && p.S==⟨#[]⟩)) with
  |false=>
   have h:=Seg.run (K:=K) (nlSP K x f (ze ps0) p pos) (tl:=[]) rfl rfl nl_exts (nlXT K x f (ze ps0) p pos) [1,3,4,5,6,7,8,9] (nl_rT K x hx f (ze ps0) p pos) (by decide) rfl (by decide)
    (fun _ _ _=>zc (by rw[hb]) (zc (xk hfar) (zc (blt_mk hsz) zl))) (fun _ _ _=>rfl)
   refine Seg.perm (a:=⟨_,_,pos,[],_⟩) pm ?_
   rw[show (p.slot::f.far.slots K.P K.V)=(p.slot::(f.far.puts ((ze ps0).push (.ref p.a))).slots K.P K.V)++[] by rw[←e1,List.append_nil]]
   refine(Seg.frame (zb ps0) (zB ps0) h).mono ?_
   rintro b ⟨b',⟨α,τ,γ,_,rfl⟩,rfl⟩
   refine⟨α,τ,γ,p.a,f.c.ep+1,ps0,?_,?_⟩
   ·rw[hl];unfold zT
    rw[List.getLast?_concat,List.dropLast_concat]
    have:(p.tx.1==spc && p.tx.2==⟨#[]⟩)=true:=(Bool.not_eq_false' _).mp hb
    simp only[this,if_true]
   ·simp only[nlXT,nlMid,List.append_nil,List.cons_append]
  |true=>
   have h:=Seg.run (K:=K) (nlSP K x f (ze ps0) p pos) (tl:=[]) rfl rfl nl_exts (nlXL K x f (ze ps0) p pos) [5,7,8,9,10,11,12,13,0] (nl_rL K x hx f (ze ps0) p pos) (by decide) rfl (by decide)
    (fun _ _ _=>zc (zk (by omega)) (zc (by rw[hb]) (zc (xk hfar) (zc (blt_mk hsz) zl)))) (fun _ _ _=>rfl)
   refine Seg.perm (a:=⟨_,_,pos,[],_⟩) pm ?_
   rw[show (p.slot::f.far.slots K.P K.V)=(p.slot::(f.far.puts ((ze ps0).push (.ref p.a))).slots K.P K.V)++[] by rw[←e1,List.append_nil]]
   refine(Seg.frame (zb ps0) (zB ps0) h).swap ?_
   rintro b ⟨b',⟨α,τ,γ,_,rfl⟩,rfl⟩
   refine⟨yL (nlF K x f p.a pos α τ γ) 1::((f.far.line (ze (ps0++[⟨α 5,p.F,p.tF,p.S,p.tS⟩])) ((τ 13).tok 0)).slots K.P K.V++zb (ps0++[⟨α 5,p.F,p.tF,p.S,p.tS⟩])),?_,α,τ,γ,p.a,(τ 13).tok 0,ps0++[⟨α 5,p.F,p.tF,p.S,p.tS⟩],?_,?_⟩
   ·simp only[nlXL,nlMid,List.append_nil]
    rw[←yg]
    refine .cons _ ?_
    show ((_++_)++zb ps0).Perm _
    rw[List.append_assoc]
    refine List.Perm.append_left _ ?_
    unfold zb
    rw[List.map_append]
    exact List.perm_append_comm
   ·rw[hl];unfold zT
    rw[List.getLast?_concat]
    have:(p.tx.1==spc && p.tx.2==⟨#[]⟩)=false:=(Bool.not_eq_true' _).mp hb
    simp only[this,Bool.false_eq_true,if_false]
    simp[txs,Part.tx]
   ·simp only[nlXL,nlMid]
end Mine
end
noncomputable section
open PyProof.Rows PySem PySem.W
set_option maxRecDepth 100000
namespace Mine
def xSetL(m:Nat)(ys:Array Value)(o:Value):Ext:=lx 128106587276438692082622197436939266669 m (fun _=>0) fun _ rest vs _ _ t=>match rest with
 |[.int (.negSucc 0) _,v]=>some ⟨.none,some (.seq (ys.push v) (t.tok 0)),[],[],[(.a vs,.a (ys.push o))]⟩
 | _=>none
theorem xSetL_ok{w:World}{tl:zh}{m:Nat}{ys:Array Value}{o:Value}:zH w tl (xSetL m ys o):=by
 refine lx_ok (id:= "list.__setitem__") (nm:= "__setitem__") (by decide +kernel) (by first|exact .inl (by decide +kernel)|exact .inr (by decide +kernel)) (by decide +kernel) (by decide +kernel) entry_list_setitem ?_
 intro prog A s d rest a cls dd vs ep sl others hL hO
 refine⟨[],.of ep,rfl,zw,fun r hr hl hp=>?_⟩
 split at hr<;>try(cases hr;done)
 rename_i t0 v
 simp only[Option.some.injEq] at hr
 subst hr
 have hv:vs=ys.push o:=LV.a.inj (hp _ (.head _))
 subst hv
 have hx:(ys.push o)[((ys.push o).size - 1)]?=some o:=by simp
 have e:(ys.push o).setIfInBounds ((ys.push o).size - 1) v=ys.push v:=by
  apply Array.ext'
  simp[Array.setIfInBounds]
 refine⟨args_list_setitem _ _ _,{ s with heap:=s.heap.update a (Obj.mapSeq (·.setIfInBounds ((ys.push o).size - 1) v)) },?_,fun more gs=>Eff.upd (tk:=s.toks) hL.get (by simp only[Obj.mapSeq,e];simp[Ch.of]) rfl⟩
 have hf:Builtin.List.listFitsIndex (Int.negSucc 0)=true:=by decide
 generalize hk:Int.negSucc 0=k at hf
 show wpAny _ _ (Builtin.List.listSubscript? (.int k t0) >>= _) _ _ s
 refine wpAny_bind (wpAny_listSubscript_int hf ?_)
 subst hk
 have hidx:seqIndex? (Int.negSucc 0) (ys.push o).size=some ((ys.push o).size - 1):=by
  have:=PySem.seqIndex_neg (k:= -1) (n:=(ys.push o).size) (by omega) (by rw[Array.size_push];omega)
  rw[show (Int.negSucc 0)=-1 from rfl,this];congr 1;rw[Array.size_push];omega
 show wpAny _ _ ((Builtin.List.listItems (.ref a) >>= fun xs=>pure ((seqIndex? (Int.negSucc 0) xs.size).bind fun i=>xs[i]?.map (i,·))) >>= _) _ _ s
 refine wpAny_bind (wpAny_bind ?_)
 show wpAny _ _ (seqItems? (.ref a) >>= _) _ _ s
 refine wpAny_bind (wpAny_seqItems hL.get rfl (wpAny_pure (wpAny_pure ?_)))
 rw[hidx]
 simp only[Option.bind_some,hx,Option.map_some]
 show wpAny _ _ (setSeqItemAt a ((ys.push o).size - 1) v >>= _) _ _ s
 refine wpAny_bind (wpAny_setSeqItemAt hL.get rfl ?_)
 first
  |exact wpAny_bind (wpAny_pure (wpAny_pure ⟨rfl,rfl⟩))
  |exact wpAny_pure ⟨rfl,rfl⟩
def blC(d:Nat)(a:Addr):Code:=match d with
 |0=>.call (.builtin "len") ⟨[.ref a],[]⟩
 |1=>.builtin "len" ⟨[.ref a],[]⟩
 |2=>.call (.builtin "len") ⟨[.ref a],[]⟩
 | _=>.builtin "len" ⟨[.ref a],[]⟩
def xBLen(kk:Nat):Ext:=⟨1,fun _=>0,false,fun d c _ objs _ _ t=>match objs with
 |[(y,⟨.type T,dd,.seq vs n,sl⟩)]=>match idB T 1970563693 with
  |true=>some ⟨.ok (.ret (.int (lenV kk d vs.size) (t.tok 0))),[],[],[(.c c,.c (blC d y))],[small vs.size,(.i (vs.size:Int),.i (lenV kk d vs.size))]⟩
  |false=>none
 | _=>none⟩
theorem u6{prog:Program}{w:World}{A:Around}{s:Shared}{l:Addr}{items:Array Value}(hl:s.heap.IsList l items)(hfit:(items.size:Int) < 2 ^ 63) :
  codeAny (model prog w) A (.builtin "len" ⟨[.ref l],[]⟩) (fun r s₁=>r=.ok (.ret (.int items.size (s.toks+1)))∧s₁={ s with toks:=s.toks+1+1 }) s:=by
 refine PySem.codeAny_builtin entry_len ?_
 rw[Around.under_plainId plain_len _]
 exact wpAny_mono (wpAny_len_body_list (E:=fun _ _=>False) (Q:=fun r s'=>r=.int items.size (s.toks+1)∧s'={ s with toks:=s.toks+1+1 }) hl hfit ⟨rfl,rfl⟩)
  (fun fin s' h'=>by obtain⟨r,rfl,rfl,rfl⟩:=h';exact⟨rfl,rfl⟩) fun _ _ e=>e.elim
theorem xX{prog:Program}{w:World}{A:Around}{s:Shared}{l:Addr}{items:Array Value}(hl:s.heap.IsList l items)(hfit:(items.size:Int) < 2 ^ 63) :
  codeAny (model prog w) A (.call (.builtin "len") ⟨[.ref l],[]⟩) (fun r s₁=>r=.ok (.ret (.int items.size (s.toks+1)))∧s₁={ s with toks:=s.toks+1+1 }) s:=by
 refine codeAny_call_builtin plain_len entry_len ?_
 have hfin:wpAny (model prog w) A.in1 (Builtin.«len» ⟨[.ref l],[]⟩) (fun fin s'=>match fin with
   | .done f=>(Except.ok f:Result)=.ok (.ret (.int items.size (s.toks+1)))∧s'={ s with toks:=s.toks+1+1 }
   | .again c'=>c'.quiet=true∧codeAny (model prog w) A c' (fun r s₁=>r=.ok (.ret (.int items.size (s.toks+1)))∧s₁={ s with toks:=s.toks+1+1 }) s')
   (fun e s'=>(Except.error e:Result)=.ok (.ret (.int items.size (s.toks+1)))∧s'={ s with toks:=s.toks+1+1 }) s:=
  wpAny_mono (wpAny_len_body_list (E:=fun _ _=>False) (Q:=fun r s'=>r=.int items.size (s.toks+1)∧s'={ s with toks:=s.toks+1+1 }) hl hfit ⟨rfl,rfl⟩)
   (fun fin s' h'=>by obtain⟨r,rfl,rfl,rfl⟩:=h';exact⟨rfl,rfl⟩) fun _ _ e=>e.elim
 have ha:=args_len1 (.ref l)
 simp only[checkBuiltinCall,kind_len]
 cases hsig:Manifest.signature? "len" with
 |none=>exact wpAny_pure hfin
 |some sig=>
  simp only[argsOk,hsig] at ha
  have h2:Bind.checkArgs "len" sig ⟨[.ref l],[]⟩=pure ():=ha
  show wpAny _ A.in1 (Bind.checkArgs "len" sig ⟨[.ref l],[]⟩) _ _ s
  rw[h2];exact wpAny_pure hfin
theorem xBLen_ok{w:World}{tl:zh}{kk:Nat}:zH w tl (xBLen kk):=by
 intro prog s d c wh objs gs hm hg _ _
 refine⟨[],.of (s.toks+1),rfl,zw,fun r hr hl hp=>?_⟩
 simp only[xBLen] at hr
 split at hr<;>try(cases hr;done)
 rename_i y T dd vs n sl
 split at hr<;>try(cases hr;done)
 rename_i hT
 have hT:=zv hT (s:= "list") (by decide +kernel)
 subst hT
 simp only[Option.some.injEq] at hr
 subst hr
 have e1:c=blC d y:=LV.c.inj (hl _ (.head _))
 have hsz:=yK hp (.head _)
 have e2:(vs.size:Int)=lenV kk d vs.size:=LV.i.inj (hp _ (.tail _ (.head _)))
 subst e1
 have h1:=hg _ (.head _)
 have hL:s.heap.IsList y vs:=⟨_,h1,rfl,n,rfl⟩
 have hfit:(vs.size:Int) < 2 ^ 63:=by rw[sizeLine_eq] at hsz;omega
 refine⟨{ s with toks:=s.toks+1+1 },?_,Eff.none⟩
 rw[←e2]
 match d with
 |0=>exact xX hL hfit
 |1=>exact u6 hL hfit
 |2=>exact xX hL hfit
 | _+3=>exact u6 hL hfit
theorem y7{prog:Program}{w:World}{A:Around}{s:Shared}{T:String}{name:Str}{id:String}{B:Builtin}{self:Value}{rest:List Value}{m:Made}{R:Result→Shared→Prop}(slot:Slot T name id)(hT:s.TypeIs self T)
  (entry:entryFor table id=some B) (args:argsOk id ⟨self::rest,[]⟩) (g:Gives (B ⟨self::rest,[]⟩) m) (h:m.post (fun v s'=>R (.ok (.ret v)) s') s):codeAny (model prog w) A (.call (.builtin id) ⟨self::rest,[]⟩) R s:=
 codeAny_call_builtin slot.plain entry (slot.check _ _ _ _ _ _ _ _ hT args (g prog w A R s h))
def cat(x y:Str):Str:=⟨x.cps++y.cps⟩
def xY:Ext:=⟨0,fun _=>0,false,fun _ c _ _ _ _ t=>match c with
 | .call (.builtin id) ⟨[.str x tx,.str y ty],[]⟩=>match idB id 116512096292018843154609524 with
  |true=>some ⟨.ok (.ret (.str (cat x y) (t.tok 0))),[],[],[],[small x.length,small y.length]⟩
  |false=>none
 | _=>none⟩
theorem Eff.toks{s:Shared}{n:Nat}{objs gs}:Eff s { s with toks:=n } objs gs [] [] []:=Eff.none
theorem vn{w:World}{tl:zh}:zH w tl xY:=by
 intro prog s d c wh objs gs hm hg _ _
 by_cases hh:∃x tx y ty,c=.call (.builtin "str.__add__") ⟨[.str x tx,.str y ty],[]⟩
 ·obtain⟨x,tx,y,ty,rfl⟩:=hh
  refine⟨[],.of (if x.length==0 then ty else if y.length==0 then tx else s.toks),rfl,zw,fun r hr hl hp=>?_⟩
  simp only[xY] at hr
  split at hr<;>try(cases hr;done)
  simp only[Option.some.injEq] at hr
  subst hr
  have h1:x.length≤1000:=of_decide_eq_true (LV.b.inj (hp _ (.head _)))
  have h2:y.length≤1000:=of_decide_eq_true (LV.b.inj (hp _ (.tail _ (.head _))))
  refine⟨{ s with toks:=if x.length==0 then s.toks else if y.length==0 then s.toks else s.toks+1 },y7 PySem.F.slot_str_add (typeIs_str s x tx) PySem.F.entry_str_add (PySem.F.args_str_add_2 _ _) (gives_str_add x y tx ty) ?_,Eff.toks⟩
  cases e1:x.length==0 with
  |true=>
   have:cat x y=y:=by
    have hx:x.cps=#[]:=Array.eq_empty_of_size_eq_zero (show x.length=0 from by simpa using e1)
    unfold cat;rw[hx];simp
   simp only[if_true,Ch.of,this]
   exact⟨rfl,rfl⟩
  |false=>
   cases e2:y.length==0 with
   |true=>
    have:cat x y=x:=by
     have hy:y.cps=#[]:=Array.eq_empty_of_size_eq_zero (show y.length=0 from by simpa using e2)
     unfold cat;rw[hy];simp
    simp only[Bool.false_eq_true,if_false,if_true,Ch.of,this]
    exact⟨rfl,rfl⟩
   |false=>
    simp only[Bool.false_eq_true,if_false,Ch.of]
    refine⟨?_,rfl,rfl⟩
    show (x.cps++y.cps).size≤sizeLine
    have:=sizeLine_eq
    rw[Array.size_append]
    have h1':x.cps.size≤1000:=h1
    have h2':y.cps.size≤1000:=h2
    omega
 ·refine⟨[],.of 0,rfl,zw,fun r hr hl hp=>?_⟩
  simp only[xY] at hr
  split at hr<;>try(cases hr;done)
  rename_i id x tx y ty
  split at hr<;>try(cases hr;done)
  rename_i hid
  have hid:=zv hid (s:= "str.__add__") (by decide +kernel)
  subst hid
  exact absurd ⟨x,tx,y,ty,rfl⟩ hh
end Mine
end
noncomputable section
open PyProof.Rows PySem PySem.W
set_option maxRecDepth 100000
set_option maxHeartbeats 0
namespace Mine
def pcLen(q:AccD)(ps:List Part):Lg:=[(.b (zG (ps++[])),.b true),(.b (decide (0≤q.n+total (ps++[])) && decide (q.n+total (ps++[]) < 100)),.b true),(.i (q.n+total (ps++[])),.i (q.n+total (ps++[])))]
def pcGt(q:AccD)(ps:List Part)(b:Bool):LV × LV:=(.v (.bool (decide (q.n+total (ps++[]) > 0))),.v (.bool b))
def pcSet(ps:List Part):Lg:=[(.a (y4 (ze ps) #[] none none),.a #[]),small (ze ps).size,small (#[]:Array Value).size,small (#[]:Array Value).size]
def pcStr(ps:List Part):Lg:=[(.b (zG (ps++[])),.b true),(.b (decide ((ps++[]).length≤40)),.b true)]
def pcOw0(a:Addr)(q:AccD):Lg:=[wZ a,(.b (q.n==0),.b false)]
def pcOw(d:Nat)(a:Addr)(q:AccD)(ps:List Part)(k:Nat):Lg:=[wZ a,(.b (q.n==0),.b true),(.b (spB (zW ps)),.b (owB d)),(.b (zG ps),.b true),(.b (decide (ps.length≤40)),.b true),(.b (decide (q.n+total ps < 100)),.b true),(.i (q.n+total ps),.i (Int.ofNat (k+1)))]
structure NlQ where
 f:Fm
 ps:List Part
 ep:Nat
 e:Addr
 k:Nat
 k2:Nat
 rs:Array Value
 R:Str
 tR:Tok
def NlQ.at(q:NlQ)(rows:Array Value):Fm:={ (q.f.far.line (ze q.ps) q.ep) with rows:=rows }
def vC(K:Wd)(x:List Nat × Bag)(q:NlQ)(rows:Array Value)(pos:Pos)(α:Nat→Addr)(τ:Nat→Ch)(γ:Nat→Nat):Start:=
 ⟨cfg K.P K.V (WK x) 8 (zb q.ps),[xLenF K.P K.V q.ps [] (q.k+1) q.f.m1,xOws K.P K.V q.ps q.k q.f.m2,xStrF K.P K.V q.ps [] q.f.m2,zS K.P 8 [],zD 1,xSetS 4 #[],xBLen (q.k2+1),xGet 1 (.str q.R q.tR),xSetL 1 q.rs (.str q.R q.tR),xY],
  yL (nlF K x q.f q.e pos α τ γ) 1::(q.at rows).slots K.P K.V,[],(eo (nlF K x q.f q.e pos α τ γ)).cur,(eo (nlF K x q.f q.e pos α τ γ)).code,⟨59,8,63,59⟩,[]⟩
def nlX(K:Wd)(x:List Nat × Bag)(q:NlQ)(rows:Array Value)(le:Nat)(ep tn:Nat)(m1 m2:Option Addr)(pos:Pos)(α:Nat→Addr)(τ:Nat→Ch)(γ:Nat→Nat)(pc:Lg):Exp:=
 ⟨.pure (.done (.ret .none)),(eo (nlF K x q.f q.e pos α τ γ)).code,⟨64,8,64,34⟩,[],({ (q.f.far.line #[] ep) with q:=⟨0,q.f.q.tk,tn,q.f.q.ep⟩,rows:=rows,le:=le,m1:=m1,m2:=m2 }:Fm).slots K.P K.V,[],pc⟩
def vN:List Nat:=[15,13,476,476,474,0,13,476,476,474,13,13,476,11,7,644,644,642,7,644,644,642,7,644,644,642,608,7,5,608,0,608,606,594,17,8,17,8,4,17,17,8,17,17,7,644,7,644,644,642,6,0,7,644,21,19,17,7,644,644,642,0,7,644,7,644,7,644,644,642,7,644,5,2,5]
def tpNlBeg:List Nat:=[6,0,15,13,476,476,474,0,13,476,476,474,13,13,476,11,1,0,3,7,5,4]
def tpNlz:List Nat:=tpNlBeg++1::vN
def tpNlOw(d:Nat):List Nat:=tpNlBeg++[2,15,13,476,476,474,0,13,476,476,474,13,13,476,11,7,644,644,642,7,644,644,642,7,644,644,642,622,7,5,622,2,d,3,1,7,5]
def tpNlApp(d:Nat):List Nat:=[15,13,476,476,474,0,13,476,476,474,13,13,476,11,9,9,9,9,6,0,15,13,476,476,474,0,13,476,476,474,13,13,476,11,3,d,1,7,5,5,0,9]
def tpNlRows(d:Nat):List Nat:=[15,13,476,476,474,0,13,476,476,474,13,13,476,11,9,9,7,d,9]
def tpNla:List Nat:=tpNlOw 0++(tpNlApp 0++vN)
def tpNlb:List Nat:=tpNlOw 1++(tpNlApp 1++vN)
def tpNlc:List Nat:=tpNlOw 2++(tpNlRows 1++(tpNlApp 1++vN))
def tpNld:List Nat:=tpNlOw 2++(tpNlRows 3++([15,13,476,476,474,0,13,476,476,474,13,13,476,11,0,9,9,8,0,9,6,0,15,13,476,476,474,0,13,476,476,474,13,13,476,11,3,1,1,7,5,10,0,9,9,9,0,9]++vN))
def nlPcz(q:NlQ):Lg:=pcSet q.ps++pcGt q.f.q q.ps false::pcLen q.f.q q.ps
def nlPca(q:NlQ)(rows:Array Value):Lg:=pcSet q.ps++small rows.size::(pcStr q.ps++(pcOw0 q.f.far.c.a q.f.q++pcGt q.f.q q.ps true::pcLen q.f.q q.ps))
theorem nl_rz(K:Wd)(x:List Nat × Bag)(hx:x.1∈xy)(q:NlQ)(rows:Array Value)(pos:Pos)(α₀ τ₀ γ₀ α τ γ):lhs 8 [4,5,6,7,8,9,10] ((vC K x q rows pos α₀ τ₀ γ₀).run α τ γ 145 tpNlz) =
  rhs 3 (nlX K x q rows q.f.le ((τ 8).tok 0) ((τ 9).tok 0) (some ((τ 1).tok 1)) q.f.m2 pos α₀ τ₀ γ₀ (nlPcz q)) ((vC K x q rows pos α₀ τ₀ γ₀).run α τ γ 145 tpNlz):=by
 obtain⟨ks,bag⟩:=x
 obtain⟨w,b1,b2,V0,hw⟩:=K
 simp only[xy,List.mem_cons,List.not_mem_nil,or_false] at hx
 cases b1<;>rcases hx with rfl|rfl|rfl<;>kernel_rfl
theorem nl_ra(K:Wd)(x:List Nat × Bag)(hx:x.1∈xy)(q:NlQ)(rows:Array Value)(pos:Pos)(α₀ τ₀ γ₀ α τ γ):lhs 8 [4,5,6,7,8,9,10] ((vC K x q rows pos α₀ τ₀ γ₀).run α τ γ 241 tpNla) =
  rhs 3 (nlX K x q (rows.push (.str (zW (q.ps++[])) ((τ 8).tok 0))) ((τ 9).tok 0) ((τ 14).tok 0) ((τ 15).tok 0) (some ((τ 1).tok 1)) (some ((τ 8).tok 1)) pos α₀ τ₀ γ₀ (nlPca q rows)) ((vC K x q rows pos α₀ τ₀ γ₀).run α τ γ 241 tpNla):=by
 obtain⟨ks,bag⟩:=x
 obtain⟨w,b1,b2,V0,hw⟩:=K
 simp only[xy,List.mem_cons,List.not_mem_nil,or_false] at hx
 cases b1<;>rcases hx with rfl|rfl|rfl<;>kernel_rfl
def nlPcb(q:NlQ)(rows:Array Value):Lg:=pcSet q.ps++small rows.size::(pcStr q.ps++(pcOw 1 q.f.far.c.a q.f.q q.ps q.k++pcGt q.f.q q.ps true::pcLen q.f.q q.ps))
def nlPcc(q:NlQ):Lg:=pcSet q.ps++small (#[]:Array Value).size::(pcStr q.ps++small (#[]:Array Value).size::(.i ((#[]:Array Value).size:Int),.i ((#[]:Array Value).size:Int))::(pcOw 2 q.f.far.c.a q.f.q q.ps q.k++pcGt q.f.q q.ps true::pcLen q.f.q q.ps))
def NlQ.rows(q:NlQ):Array Value:=q.rs.push (.str q.R q.tR)
def nlPcd(q:NlQ):Lg:=pcSet q.ps++(.a q.rows,.a q.rows)::small q.R.length::small (zW (q.ps++[])).length::(pcStr q.ps++(.ov (yU q.rows (-1)),.ov (some (.str q.R q.tR)))::vD (-1)::small q.rows.size::(.i (q.rows.size:Int),.i (Int.ofNat (q.k2+1)))::(pcOw 2 q.f.far.c.a q.f.q q.ps q.k++pcGt q.f.q q.ps true::pcLen q.f.q q.ps))
theorem nl_rb(K:Wd)(x:List Nat × Bag)(hx:x.1∈xy)(q:NlQ)(rows:Array Value)(pos:Pos)(α₀ τ₀ γ₀ α τ γ):lhs 8 [4,5,6,7,8,9,10] ((vC K x q rows pos α₀ τ₀ γ₀).run α τ γ 241 tpNlb) =
  rhs 3 (nlX K x q (rows.push (.str (zW (q.ps++[])) ((τ 8).tok 0))) ((τ 9).tok 0) ((τ 14).tok 0) ((τ 15).tok 0) (some ((τ 5).tok 0)) (some ((τ 8).tok 1)) pos α₀ τ₀ γ₀ (nlPcb q rows)) ((vC K x q rows pos α₀ τ₀ γ₀).run α τ γ 241 tpNlb):=by
 obtain⟨ks,bag⟩:=x
 obtain⟨w,b1,b2,V0,hw⟩:=K
 simp only[xy,List.mem_cons,List.not_mem_nil,or_false] at hx
 cases b1<;>rcases hx with rfl|rfl|rfl<;>kernel_rfl
theorem nl_rc(K:Wd)(x:List Nat × Bag)(hx:x.1∈xy)(q:NlQ)(pos:Pos)(α₀ τ₀ γ₀ α τ γ):lhs 8 [4,5,6,7,8,9,10] ((vC K x q #[] pos α₀ τ₀ γ₀).run α τ γ 264 tpNlc) =
  rhs 3 (nlX K x q ((#[]:Array Value).push (.str (zW (q.ps++[])) ((τ 10).tok 0))) ((τ 11).tok 0) ((τ 16).tok 0) ((τ 17).tok 0) (some ((τ 5).tok 0)) (some ((τ 10).tok 1)) pos α₀ τ₀ γ₀ (nlPcc q)) ((vC K x q #[] pos α₀ τ₀ γ₀).run α τ γ 264 tpNlc):=by
 obtain⟨ks,bag⟩:=x
 obtain⟨w,b1,b2,V0,hw⟩:=K
 simp only[xy,List.mem_cons,List.not_mem_nil,or_false] at hx
 cases b1<;>rcases hx with rfl|rfl|rfl<;>kernel_rfl
theorem nl_rd(K:Wd)(x:List Nat × Bag)(hx:x.1∈xy)(q:NlQ)(pos:Pos)(α₀ τ₀ γ₀ α τ γ):lhs 8 [4,5,6,7,8,9,10] ((vC K x q q.rows pos α₀ τ₀ γ₀).run α τ γ 272 tpNld) =
  rhs 3 (nlX K x q (q.rs.push (.str (cat q.R (zW (q.ps++[]))) ((τ 14).tok 0))) ((τ 15).tok 0) ((τ 20).tok 0) ((τ 21).tok 0) (some ((τ 5).tok 0)) (some ((τ 13).tok 1)) pos α₀ τ₀ γ₀ (nlPcd q)) ((vC K x q q.rows pos α₀ τ₀ γ₀).run α τ γ 272 tpNld):=by
 obtain⟨ks,bag⟩:=x
 obtain⟨w,b1,b2,V0,hw⟩:=K
 simp only[xy,List.mem_cons,List.not_mem_nil,or_false] at hx
 cases b1<;>rcases hx with rfl|rfl|rfl<;>kernel_rfl
def za(rl:List (Str × Tok)):Array Value:=(rl.map fun p=>Value.str p.1 p.2).toArray
theorem zA(rl:List (Str × Tok))(s:Str)(t:Tok):(za rl).push (.str s t)=za (rl++[(s,t)]):=by simp[za]
theorem zm(rl:List (Str × Tok)):(za rl).size=rl.length:=by simp[za]
def zt(tx:List (Str × Str)):Int:=(tx.map fun p=>(p.1.length:Int)+p.2.length).sum
def zV(tx:List (Str × Str)):Str:=Txt.join ⟨#[]⟩ (tx.map fun p=>cat p.1 p.2)
def yA(tx:List (Str × Str)):Bool:=tx.all fun p=>decide (p.1.length≤1000) && decide (p.2.length≤1000)
theorem vO(ps:List Part):total ps=zt (txs ps):=by
 unfold total zt txs
 rw[List.map_map];rfl
theorem yR(ps:List Part):zW ps=zV (txs ps):=by
 unfold zW zV txs
 rw[List.map_map];rfl
theorem xS(ps:List Part):zG ps=yA (txs ps):=by
 unfold zG yA txs
 rw[List.all_map];rfl
theorem x6(ps:List Part):(txs ps).length=ps.length:=by simp[txs]
def z0(n:Int)(tx:List (Str × Str))(rows:List Str):List Str:=
 if n+zt (zT tx) > 0 then
  (if (n==0 && spB (zV (zT tx)))=true then (match rows.getLast? with
   |some R=>rows.dropLast++[cat R (zV (zT tx))]
   |none=>[zV (zT tx)])
  else rows++[zV (zT tx)])
 else rows
structure FmSame (f g:Fm):Prop where
 fa:g.fa=f.fa
 fd:g.fd=f.fd
 la:g.la=f.la
 ca:g.c.a=f.c.a
 cd:g.c.d=f.c.d
 wd:g.wd=f.wd
theorem setPick_all(ps:List Part):y4 (ze ps) #[] none none=#[]:=by
 unfold y4
 simp[sliceBounds]
structure NlH (f:Fm) (ps:List Part) (rl:List (Str × Tok)):Prop where
 sm:yA (txs ps)=true
 ln:ps.length≤40
 lo:0≤f.q.n+zt (txs ps)
 hi:f.q.n+zt (txs ps) < 100
 tl:(zV (txs ps)).length≤1000
 rn:rl.length≤900
 rs:∀p∈rl,p.1.length≤1000
theorem Lg.Ok.app{a b:Lg}(h1:Lg.Ok a)(h2:Lg.Ok b):Lg.Ok (a++b):=fun p hp=>(List.mem_append.mp hp).elim (h1 p) (h2 p)
section
variable {f:Fm} {ps:List Part} {rl:List (Str × Tok)}
theorem NlH.len(h:NlH f ps rl):Lg.Ok (pcLen f.q ps):=by
 unfold pcLen
 have hs:=h.sm
 have h1:=h.lo
 have h2:=h.hi
 rw[←xS] at hs
 rw[←vO] at h1 h2
 rw[List.append_nil,hs,decide_eq_true h1,decide_eq_true h2]
 exact zc rfl (zc rfl (zc rfl zl))
theorem NlH.gt{b:Bool}(h:decide (f.q.n+zt (txs ps) > 0)=b):(pcGt f.q ps b).1=(pcGt f.q ps b).2:=by
 unfold pcGt
 rw[←vO] at h
 rw[List.append_nil,h]
theorem NlH.set(h:NlH f ps rl):Lg.Ok (pcSet ps):=by
 unfold pcSet
 rw[setPick_all]
 exact zc rfl (zc (zk (by rw[zF];have:=h.ln;omega)) (zc (zk (Nat.zero_le _)) (zc (zk (Nat.zero_le _)) zl)))
theorem NlH.str(h:NlH f ps rl):Lg.Ok (pcStr ps):=by
 unfold pcStr
 have hs:=h.sm
 rw[←xS] at hs
 rw[List.append_nil,hs,decide_eq_true h.ln]
 exact zc rfl (zc rfl zl)
theorem NlH.ow0(hn:(f.q.n==0)=false):Lg.Ok (pcOw0 f.far.c.a f.q):=by
 unfold pcOw0
 rw[hn]
 exact zc (xk (Nat.le_add_left ..)) (zc rfl zl)
theorem NlH.ow{d k:Nat}(h:NlH f ps rl)(hn:(f.q.n==0)=true)(hsp:spB (zV (txs ps))=owB d)(hk:f.q.n+zt (txs ps)=Int.ofNat (k+1)):Lg.Ok (pcOw d f.far.c.a f.q ps k):=by
 unfold pcOw
 have hs:=h.sm
 have h2:=h.hi
 rw[←xS] at hs
 rw[←vO] at hk h2
 rw[←yR] at hsp
 rw[hn,hsp,hs,decide_eq_true h.ln,decide_eq_true h2,hk]
 exact zc (xk (Nat.le_add_left ..)) (zc rfl (zc rfl (zc rfl (zc rfl (zc rfl (zc rfl zl))))))
end
theorem wP{K:Wd}{W:List (Code × Pos)}{m:Nat}{ps:List Part}{k k2:Nat}{m1 m2:Option Addr}{v:Value}{rs:Array Value}:∀F,Under (cfg K.P K.V W m (zb ps)) F→∀e E,nth [xLenF K.P K.V ps [] (k+1) m1,xOws K.P K.V ps k m2,xStrF K.P K.V ps [] m2,zS K.P 8 [],zD 1,xSetS 4 #[],xBLen (k2+1),xGet 1 v,xSetL 1 rs v,xY] e=some E→ExtOk (cfg K.P K.V W m (zb ps)) K.w F E:=fun F U=>
 (AllOk.cons (xLenF_ok U) (.cons (xOws_ok U) (.cons (xStrF_ok U) (.cons zJ (.cons (.leaf U zI) (.cons (.leaf U xSetS_ok) (.cons (.leaf U xBLen_ok) (.cons (.leaf U vM) (.cons (.leaf U xSetL_ok) (.cons (.leaf U vn) .nil)))))))))).nth
structure NlE (K:Wd) (f:Fm) (rows:List Str) (b:St):Prop where
 ex:∃g rl',FmSame f g∧g.c.xs=#[]∧g.q.n=0∧g.rows=za rl'∧rl'.map (·.1)=rows∧b.cur=.pure (.done (.ret .none))∧b.fs=[]∧b.T=g.far.slots K.P K.V
theorem nlE_of{K:Wd}{x:List Nat × Bag}{q:NlQ}{rows:Array Value}{rl':List (Str × Tok)}{le ep tn:Nat}{m1 m2:Option Addr}{pos:Pos}{α τ γ}{pc:Lg}{R:List Str}(h1:rows=za rl')(h2:rl'.map (·.1)=R) :
  NlE K q.f R ⟨(nlX K x q rows le ep tn m1 m2 pos α τ γ pc).cur,(nlX K x q rows le ep tn m1 m2 pos α τ γ pc).code,(nlX K x q rows le ep tn m1 m2 pos α τ γ pc).pos,(nlX K x q rows le ep tn m1 m2 pos α τ γ pc).fs,(nlX K x q rows le ep tn m1 m2 pos α τ γ pc).T⟩:=
 ⟨({ (q.f.line #[] ep) with q:=⟨0,q.f.q.tk,tn,q.f.q.ep⟩,rows:=rows,le:=le,m1:=m1,m2:=m2 }:Fm),rl',⟨rfl,rfl,rfl,rfl,rfl,rfl⟩,rfl,rfl,h1,h2,rfl,rfl,rfl⟩
theorem nl_half2{K:Wd}{x:List Nat × Bag}(hx:x.1∈xy){f:Fm}{ps ps2:List Part}{rl:List (Str × Tok)}(hr:f.rows=za rl)(h2:txs ps2=zT (txs ps))(h:NlH f ps2 rl){pos:Pos}{α₀ τ₀ γ₀}{e:Addr}{ep:Nat} :
  Seg K (WK x) ⟨(eo (nlF K x f e pos α₀ τ₀ γ₀)).cur,(eo (nlF K x f e pos α₀ τ₀ γ₀)).code,⟨59,8,63,59⟩,[],yL (nlF K x f e pos α₀ τ₀ γ₀) 1::((f.far.line (ze ps2) ep).slots K.P K.V++zb ps2)⟩ (NlE K f (z0 f.q.n (txs ps) (rl.map (·.1)))):=by
 have drop:∀{a:St} {B:St→Prop} {P:St→Prop},Seg K (WK x) a B→(∀b,B b→∃b',P b'∧b={ b' with T:=b'.T++zb ps2 })→Seg K (WK x) a P:=fun h m=>h.post fun b hb=>by
  obtain⟨b',hp,rfl⟩:=m b hb
  exact⟨b',zb ps2,hp,rfl,rfl,rfl,rfl,.refl _⟩
 have eR:∀q:NlQ,q.f=f→q.ps=ps2→q.ep=ep→∀rows,rows=f.rows→(f.far.line (ze ps2) ep)=q.at rows:=by
  rintro⟨f',ps',ep',e',k,k2,rs,R,tR⟩ rfl rfl rfl rows rfl;rfl
 unfold z0
 rw[←h2]
 by_cases hgt:f.q.n+zt (txs ps2) > 0
 ·rw[if_pos hgt]
  obtain⟨k,hk⟩:∃k:Nat,f.q.n+zt (txs ps2)=Int.ofNat (k+1):=⟨(f.q.n+zt (txs ps2)).toNat - 1,by simp only[Int.ofNat_eq_natCast];omega⟩
  cases hn:(f.q.n==0) with
  |false=>
   rw[if_neg (by simp)]
   let q:NlQ:=⟨f,ps2,ep,e,0,0,#[],⟨#[]⟩,0⟩
   rw[eR q rfl rfl rfl f.rows rfl]
   have hpc:Lg.Ok (nlPca q f.rows):=h.set.app (zc (zk (by rw[hr,zm];have:=h.rn;omega)) (h.str.app ((NlH.ow0 hn).app (zc (NlH.gt (decide_eq_true hgt)) h.len))))
   refine drop (Seg.run (K:=K) (vC K x q f.rows pos α₀ τ₀ γ₀) (tl:=zb ps2) rfl rfl wP _ [4,5,6,7,8,9,10] (nl_ra K x hx q f.rows pos α₀ τ₀ γ₀) (by decide) rfl (by decide)
    (fun _ _ _=>hpc) (fun _ _ _=>rfl)) ?_
   rintro b ⟨α,τ,γ,_,rfl⟩
   exact⟨_,nlE_of (q:=q) (pc:=nlPca q f.rows) (rl':=rl++[(zW (ps2++[]),(τ 8).tok 0)]) (by rw[hr,zA]) (by rw[List.map_append,List.append_nil,yR];rfl),rfl⟩
  |true=>
   cases hsp:spB (zV (txs ps2)) with
   |false=>
    rw[if_neg (by simp)]
    let q:NlQ:=⟨f,ps2,ep,e,k,0,#[],⟨#[]⟩,0⟩
    rw[eR q rfl rfl rfl f.rows rfl]
    have hpc:Lg.Ok (nlPcb q f.rows):=h.set.app (zc (zk (by rw[hr,zm];have:=h.rn;omega)) (h.str.app ((h.ow (d:=1) hn hsp hk).app (zc (NlH.gt (decide_eq_true hgt)) h.len))))
    refine drop (Seg.run (K:=K) (vC K x q f.rows pos α₀ τ₀ γ₀) (tl:=zb ps2) rfl rfl wP _ [4,5,6,7,8,9,10] (nl_rb K x hx q f.rows pos α₀ τ₀ γ₀) (by decide) rfl (by decide)
     (fun _ _ _=>hpc) (fun _ _ _=>rfl)) ?_
    rintro b ⟨α,τ,γ,_,rfl⟩
    exact⟨_,nlE_of (q:=q) (pc:=nlPcb q f.rows) (rl':=rl++[(zW (ps2++[]),(τ 8).tok 0)]) (by rw[hr,zA]) (by rw[List.map_append,List.append_nil,yR];rfl),rfl⟩
   |true=>
    rw[if_pos (by simp)]
    rcases List.eq_nil_or_concat rl with rfl|⟨rl0,⟨R,tR⟩,rfl⟩
    ·let q:NlQ:=⟨f,ps2,ep,e,k,0,#[],⟨#[]⟩,0⟩
     rw[eR q rfl rfl rfl #[] (by rw[hr];rfl)]
     have hpc:Lg.Ok (nlPcc q):=h.set.app (zc (zk (Nat.zero_le _)) (h.str.app (zc (zk (Nat.zero_le _)) (zc rfl ((h.ow (d:=2) hn hsp hk).app (zc (NlH.gt (decide_eq_true hgt)) h.len))))))
     refine drop (Seg.run (K:=K) (vC K x q #[] pos α₀ τ₀ γ₀) (tl:=zb ps2) rfl rfl wP _ [4,5,6,7,8,9,10] (nl_rc K x hx q pos α₀ τ₀ γ₀) (by decide) rfl (by decide)
      (fun _ _ _=>hpc) (fun _ _ _=>rfl)) ?_
     rintro b ⟨α,τ,γ,_,rfl⟩
     exact⟨_,nlE_of (q:=q) (pc:=nlPcc q) (rl':=[(zW (ps2++[]),(τ 10).tok 0)]) rfl (by rw[List.append_nil,yR];rfl),rfl⟩
    ·let q:NlQ:=⟨f,ps2,ep,e,k,rl0.length,za rl0,R,tR⟩
     have hrows:f.rows=q.rows:=by rw[hr,List.concat_eq_append];exact(zA rl0 R tR).symm
     rw[eR q rfl rfl rfl q.rows hrows.symm]
     have hsz:q.rows.size=rl0.length+1:=by show ((za rl0).push _).size=_;rw[Array.size_push,zm]
     have hrn:rl0.length≤900:=by have:=h.rn;simp at this;omega
     have hov:LV.ov (yU q.rows (-1))=LV.ov (some (.str q.R q.tR)):=by
      show LV.ov (yU ((za rl0).push (.str R tR)) (-1))=LV.ov (some (.str R tR))
      unfold yU
      rw[PySem.seqIndex_neg (by omega) (by rw[Array.size_push];omega),Array.size_push,show ((-1:Int)+((za rl0).size+1:Nat)).toNat=(za rl0).size by omega]
      simp
     have hpc:Lg.Ok (nlPcd q):=h.set.app (zc rfl (zc (zk (h.rs (R,tR) (by simp))) (zc (zk (by rw[List.append_nil,yR];exact h.tl)) (h.str.app (zc hov (zc rfl (zc (zk (by rw[hsz];omega)) (zc (by rw[hsz];rfl) ((h.ow (d:=2) hn hsp hk).app (zc (NlH.gt (decide_eq_true hgt)) h.len))))))))))
     refine drop (Seg.run (K:=K) (vC K x q q.rows pos α₀ τ₀ γ₀) (tl:=zb ps2) rfl rfl wP _ [4,5,6,7,8,9,10] (nl_rd K x hx q pos α₀ τ₀ γ₀) (by decide) rfl (by decide)
      (fun _ _ _=>hpc) (fun _ _ _=>rfl)) ?_
     rintro b ⟨α,τ,γ,_,rfl⟩
     refine⟨_,nlE_of (q:=q) (pc:=nlPcd q) (rl':=rl0++[(cat R (zW (ps2++[])),(τ 14).tok 0)]) (by rw[←zA]) ?_,rfl⟩
     rw[List.concat_eq_append,List.map_append,List.map_append,List.append_nil,yR]
     simp
 ·rw[if_neg hgt]
  let q:NlQ:=⟨f,ps2,ep,e,0,0,#[],⟨#[]⟩,0⟩
  rw[eR q rfl rfl rfl f.rows rfl]
  have hpc:Lg.Ok (nlPcz q):=h.set.app (zc (NlH.gt (decide_eq_false hgt)) h.len)
  refine drop (Seg.run (K:=K) (vC K x q f.rows pos α₀ τ₀ γ₀) (tl:=zb ps2) rfl rfl wP _ [4,5,6,7,8,9,10] (nl_rz K x hx q f.rows pos α₀ τ₀ γ₀) (by decide) rfl (by decide)
   (fun _ _ _=>hpc) (fun _ _ _=>rfl)) ?_
  rintro b ⟨α,τ,γ,_,rfl⟩
  exact⟨_,nlE_of (q:=q) (pc:=nlPcz q) (rl':=rl) hr rfl,rfl⟩
theorem wQ{K:Wd}{x:List Nat × Bag}(hx:x.1∈xy){f:Fm}{ps:List Part}{rl:List (Str × Tok)}(hps:f.c.xs=ze ps)(hr:f.rows=za rl)
  (h:∀ps2,txs ps2=zT (txs ps)→NlH f ps2 rl) (hlen:ps.length≤40) {pos:Pos} :
  Seg K (WK x) ⟨zx (nlC f.far.fa),nlC f.far.fa,pos,[],f.far.slots K.P K.V++zb ps⟩ (NlE K f (z0 f.q.n (txs ps) (rl.map (·.1)))):=by
 refine(nl_half1 hx hps hlen).trans ?_
 rintro b ⟨α,τ,γ,e,ep,ps2,h2,rfl⟩
 exact nl_half2 hx hr h2 (h ps2 h2)
end Mine
end
noncomputable section
open PyProof.Rows PySem PySem.W
set_option maxRecDepth 100000
namespace Mine
def yJ(v l:Nat):Obj:=⟨.type "range_iterator", none,.fields #[.int (.ofNat v) 0,.int (.ofNat l) 0,.int (.negSucc 0) 0],#[]⟩
theorem zO{prog:Program}{w:World}{A:Around}{s:Shared}{T:String}{name:Str}{id:String}{B:Builtin}{self:Value}{rest:List Value}{S:PySem.Spec}{R:Result→Shared→Prop}(slot:Slot T name id)(hT:s.TypeIs self T)
  (entry:entryFor table id=some B) (args:argsOk id ⟨self::rest,[]⟩) (g:Meets (B ⟨self::rest,[]⟩) S) (h:S A R s):codeAny (model prog w) A (.call (.builtin id) ⟨self::rest,[]⟩) R s:=
 codeAny_call_builtin slot.plain entry (slot.check _ _ _ _ _ _ _ _ hT args (g prog w A R s h))
theorem u4{i:Int}(h1:-1000≤i)(h2:i≤1000):Builtin.Range.rangeFitsLong i=true:=by
 unfold Builtin.Range.rangeFitsLong
 rw[decide_eq_true (by omega),decide_eq_true (by omega)];rfl
def xRIter(n:Nat):Ext:=⟨1,fun _=>1,false,fun d c _ objs _ xs _=>match objs with
 |[(y,⟨.type T,none,.fields ⟨[.int a ta,.int b tb,.int s ts]⟩,⟨[]⟩⟩)]=>match idB T 439838794355 with
  |true=>match xs with
   |[x]=>some ⟨.ok (.ret (.ref x)),[],[yJ n n],[(.c c,.c (.call (.builtin "range.__iter__") ⟨[.ref y],[]⟩))],[(.i a,.i (.ofNat n)),(.i b,.i 0),(.i s,.i (.negSucc 0)),small n]⟩
   | _=>none
  |false=>none
 | _=>none⟩
theorem xRIter_ok{w:World}{tl:zh}{n:Nat}:zH w tl (xRIter n):=by
 intro prog s d c wh objs gs hm hg _ _
 refine⟨[s.heap.objs.size],.of 0,rfl,yo,fun r hr hl hp=>?_⟩
 simp only[xRIter] at hr
 split at hr<;>try(cases hr;done)
 rename_i y T a ta b tb st ts
 split at hr<;>try(cases hr;done)
 rename_i hT
 have hT:=zv hT (s:= "range") (by decide +kernel)
 subst hT
 simp only[Option.some.injEq] at hr
 subst hr
 have e1:c=.call (.builtin "range.__iter__") ⟨[.ref y],[]⟩:=LV.c.inj (hl _ (.head _))
 have e2:a=.ofNat n:=LV.i.inj (hp _ (.head _))
 have e3:b=0:=LV.i.inj (hp _ (.tail _ (.head _)))
 have e4:st=.negSucc 0:=LV.i.inj (hp _ (.tail _ (.tail _ (.head _))))
 have hn:=of_decide_eq_true (LV.b.inj (hp _ (.tail _ (.tail _ (.tail _ (.head _))))))
 subst e1 e2 e3 e4
 have h1:=hg _ (.head _)
 have hsz:Builtin.Range.rangeSize (Int.ofNat n) 0 (Int.negSucc 0)=Int.ofNat n:=by
  simp only[Builtin.Range.rangeSize,Int.ofNat_eq_natCast]
  rw[if_neg (by omega)]
  by_cases h0:(n:Int) > 0
  ·rw[if_pos h0];show ((n:Int) - 0 - 1) / 1+1=n;omega
  ·rw[if_neg h0];omega
 have hc0:¬(!(Builtin.Range.rangeFitsLong (Int.ofNat n) && Builtin.Range.rangeFitsLong 0 && Builtin.Range.rangeFitsLong (Int.negSucc 0) && Builtin.Range.rangeFitsLong (Builtin.Range.rangeSize (Int.ofNat n) 0 (Int.negSucc 0)) && (Builtin.Range.rangeSize (Int.ofNat n) 0 (Int.negSucc 0)==0 || (if Int.negSucc 0 > 0 then Builtin.Range.rangeFitsLong (0+(Int.negSucc 0 - 1)) else Builtin.Range.rangeFitsLong (0+(Int.negSucc 0+1))))))=true:=by
  rw[hsz,u4 (i:=Int.ofNat n) (by simp only[Int.ofNat_eq_natCast];omega) (by simp only[Int.ofNat_eq_natCast];omega),u4 (i:=0) (by omega) (by omega),u4 (i:=Int.negSucc 0) (by omega) (by omega),if_neg (by omega),u4 (i:=0+(Int.negSucc 0+1)) (by omega) (by omega)]
  simp
 refine⟨{ s with heap:=s.heap.push (yJ n n) },zO PySem.F.slot_range_iter ⟨_,h1,rfl⟩ PySem.F.entry_range_iter (PySem.F.args_range_iter_1 _) (AutoRange.range___iter___range_1 y _ _ _ ta tb ts hc0) ⟨h1,?_⟩,Eff.push (tk:=s.toks) rfl⟩
 have hc:=hc0
 rw[Bool.not_eq_true,Bool.not_eq_false',hsz] at hc
 rw[hsz,if_pos hc]
 exact⟨rfl,rfl⟩
def xRNext:Ext:=⟨1,fun _=>0,false,fun d c _ objs _ _ t=>match objs with
 |[(y,⟨.type T,none,.fields ⟨[.int (.ofNat (v+1)) t1,.int (.ofNat (l+1)) t2,.int (.negSucc 0) t3]⟩,⟨[]⟩⟩)]=>match idB T 2341386987387381298277481238717043 with
  |true=>some ⟨.ok (.ret (.int (.ofNat (v+1)) (t.tok 0))),[yJ v l],[],[(.c c,.c (.call (.builtin "range_iterator.__next__") ⟨[.ref y],[]⟩)),(.n t1,.n 0),(.n t2,.n 0),(.n t3,.n 0)],[]⟩
  |false=>none
 | _=>none⟩
theorem xRNext_ok{w:World}{tl:zh}:zH w tl xRNext:=by
 intro prog s d c wh objs gs hm hg _ _
 refine⟨[],.of s.toks,rfl,zw,fun r hr hl hp=>?_⟩
 simp only[xRNext] at hr
 split at hr<;>try(cases hr;done)
 rename_i y T v t1 l t2 t3
 split at hr<;>try(cases hr;done)
 rename_i hT
 have hT:=zv hT (s:= "range_iterator") (by decide +kernel)
 subst hT
 simp only[Option.some.injEq] at hr
 subst hr
 have e1:c=.call (.builtin "range_iterator.__next__") ⟨[.ref y],[]⟩:=LV.c.inj (hl _ (.head _))
 have e2:t1=0:=LV.n.inj (hl _ (.tail _ (.head _)))
 have e3:t2=0:=LV.n.inj (hl _ (.tail _ (.tail _ (.head _))))
 have e4:t3=0:=LV.n.inj (hl _ (.tail _ (.tail _ (.tail _ (.head _)))))
 subst e1 e2 e3 e4
 have h1:=hg _ (.head _)
 have hn:¬Int.ofNat (l+1)≤0:=by simp only[Int.ofNat_eq_natCast];omega
 have ev:Int.ofNat (v+1)+Int.negSucc 0=Int.ofNat v:=by simp only[Int.ofNat_eq_natCast];omega
 have el:Int.ofNat (l+1) - 1=Int.ofNat l:=by simp only[Int.ofNat_eq_natCast];omega
 have g1:=Heap.get?_update_self (Obj.mapFields fun x_1=>x_1.setIfInBounds 0 (rawInt (Int.ofNat (v+1)+Int.negSucc 0))) h1 rfl
 have g2:=Heap.get?_update_self (Obj.mapFields fun x=>x.setIfInBounds 1 (rawInt (Int.ofNat (l+1) - 1))) g1 rfl
 refine⟨_,zO PySem.F.slot_range_iterator_next ⟨_,h1,rfl⟩ PySem.F.entry_range_iterator_next (PySem.F.args_range_iterator_next_1 _) (AutoRange.range_iterator___next___range_iterator_1 y (Int.ofNat (v+1)) (Int.ofNat (l+1)) (Int.negSucc 0) hn) ⟨h1,⟨rfl,rfl⟩⟩,
  ⟨fun x o hx hne=>?_,fun p hp _=>?_,fun p hp=>(by simp at hp),List.nodup_nil,fun _ _ h _=>h,id,rfl⟩⟩
 ·have hxy:y≠x:=hne _ (.head _)
  exact(Heap.get?_update_other _ _ hxy).trans ((Heap.get?_update_other _ _ hxy).trans hx)
 ·simp only[List.map_cons,List.map_nil,List.zip_cons_cons,List.zip_nil_right,List.mem_singleton] at hp
  subst hp
  refine g2.trans ?_
  rw[ev,el]
  rfl
def xGetN(m:Nat)(l:List Value):Ext:=⟨m,fun _=>0,false,fun d c wh objs gs xs t=>match nth l d with
 |some v=>(xGet m v).f d c wh objs gs xs t
 |none=>none⟩
theorem xGetN_ok{w:World}{tl:zh}{m:Nat}{l:List Value}:zH w tl (xGetN m l):=by
 intro prog s d c wh objs gs h1 h2 h3 h4
 cases h:nth l d with
 |none=>
  refine⟨[],.of 0,rfl,zw,fun r hr=>?_⟩
  simp only[xGetN,h] at hr
  cases hr
 |some v=>
  obtain⟨xs,t,e1,e2,e3⟩:=vM (m:=m) (v:=v) prog s d c wh objs gs h1 h2 h3 h4
  refine⟨xs,t,e1,e2,fun r hr=>e3 r ?_⟩
  simp only[xGetN,h] at hr
  exact hr
def ifB:Stmt→List Stmt
 | .If _ b _ _=>b
 | _=>[]
def forT:Stmt→Expr
 | .For t _ _ _ _=>t
 | _=>.Constant .none 0 ⟨0,0,0,0⟩
def forB:Stmt→List Stmt
 | .For _ _ b _ _=>b
 | _=>[]
def forO:Stmt→List Stmt
 | .For _ _ _ o _=>o
 | _=>[]
def acFor1:Stmt:=sAt (ifB (sAt (wY (inS 19 8)) 1)) 0
def acFor2:Stmt:=sAt (forB acFor1) 0
def acEnv(a0:Addr):Env:={ scope:=uc (inS 19 8),locals:=a0,globals:=3,cells:=[],qual:=⟨#[95,86,97,108,117,101,70,111,114,109,97,116,116,101,114,46,95,97,112,112,101,110,100,95,99,104,117,110,107,46,60,108,111,99,97,108,115,62,46]⟩,func:=some 235,code:=.ref 234,frame:=some a0,builtins:=0 }
def yF(a0 it:Addr):Code:=.forLoop (forT acFor2) (.ref it) (forB acFor2) (forO acFor2) (acEnv a0)
def sString:Str:=⟨#[115,116,114,105,110,103]⟩
def sCh:Str:=⟨#[99,104]⟩
def sI:Str:=⟨#[105]⟩
def sPrev:Str:=⟨#[112,114,101,118,112,97,114,116]⟩
def ent(P:Params)(s:Str)(t:Tok)(v:Value):DictEntry:=⟨PyData.keyHash P s,.str s t,v⟩
structure AcF where
 a0:Addr
 fa:Addr
 t:Nat→Tok
 F:Str
 tF:Tok
 S:Str
 tS:Tok
 tc:Tok
def AcF.ents(q:AcF)(P:Params):List DictEntry:=[ent P sSelf (q.t 0) (.ref q.fa),ent P wL (q.t 1) (.str q.F q.tF),ent P sString (q.t 2) (.str q.S q.tS),ent P sCh (q.t 3) (.str spc q.tc)]
def yp(l:List DictEntry)(ep:Nat):Obj:=⟨.type "frame", none,.dict ⟨l⟩ ep,#[]⟩
inductive AcX where
 |no
 |i (v:Value) (t:Tok)
 |ip (v:Value) (t:Tok) (v2:Value) (t2:Tok)
def AcX.ents(P:Params):AcX→List DictEntry
 | .no=>[]
 | .i v t=>[ent P sI t v]
 | .ip v t v2 t2=>[ent P sI t v,ent P sPrev t2 v2]
def AcX.n:AcX→Nat
 | .no=>4
 | .i ..=>5
 | .ip ..=>6
def AcF.o(q:AcF)(P:Params)(x:AcX):Addr × Obj:=(q.a0,yp (q.ents P++x.ents P) x.n)
end Mine
end
noncomputable section
open PyProof.Rows PySem PySem.W
set_option maxRecDepth 100000
set_option maxHeartbeats 0
namespace Mine
def Part.wF(p:Part)(F:Str):Part:=⟨p.a,F,p.tF,p.S,p.tS⟩
def Part.wS(p:Part)(S:Str):Part:=⟨p.a,p.F,p.tF,S,p.tS⟩
inductive SK where
 |s0
 |s1 (c:Nat)
 |s2 (c d:Nat)
 |s3 (c d e:Nat)
def SK.str:SK→Str
 | .s0=>⟨#[]⟩
 | .s1 c=>⟨#[c]⟩
 | .s2 c d=>⟨#[c,d]⟩
 | .s3 c d e=>⟨#[c,d,e]⟩
def SK.last:SK→Nat
 | .s0=>0
 | .s1 c=>c
 | .s2 _ d=>d
 | .s3 _ _ e=>e
structure LpQ where
 f:Fm
 ps:List Part
 g:AcF
 it:Addr
 i:Nat
 p1:Part
 p0:Part
 x:AcX
def LpQ.fr(q:LpQ)(F:Str)(tF:Tok):AcF:=⟨q.g.a0,q.f.far.fa,q.g.t,F,tF,q.g.S,q.g.tS,q.g.tc⟩
def LpQ.fm(q:LpQ):Fm:=q.f.far.puts (ze q.ps)
def apKs:List (List Nat):=[[1,0,1,0,0,3]]
def lpS(K:Wd)(b:Bag)(q:LpQ)(F1 S0:Str)(pos:Pos):Start:=mkS K (WK ([1,0,1,0,0,3],b)) 11 [] [xRNext,xGetN 2 [.ref q.p1.a,.ref q.p0.a],zS K.P 8 [fun t=>.int (.ofNat q.i) t]]
 ([(q.fr q.g.F q.g.tF).o K.P q.x,(q.it,yJ (q.i+1) (q.i+1)),(q.p1.wF F1).slot,(q.p0.wS S0).slot]++q.fm.slots K.P K.V) (yF q.g.a0 q.it) pos
def AcX.found(x:AcX)(v:Value)(τ:Nat→Ch):AcX:=match x with
 | .no=>.i v ((τ 1).tok 0)
 | .i _ t=>.i v t
 | .ip _ t v2 t2=>.ip v t v2 t2
def AcX.past(x:AcX)(v w:Value)(τ:Nat→Ch):AcX:=match x with
 | .no=>.ip v ((τ 1).tok 0) w ((τ 13).tok 0)
 | .i _ t=>.ip v t w ((τ 13).tok 0)
 | .ip _ t _ t2=>.ip v t w t2
def pcAt(q:LpQ)(i:Nat)(a:Addr):Lg:=[(.ov (yU (ze q.ps) (.ofNat i)),.ov (some (.ref a))),vD (.ofNat i)]
def tpLp1:List Nat:=[19,1,0,19,21,10,21,0,21,13,476,476,474,0,13,476,476,474,13,13,476,11,21,7,644,644,642,7,644,7,644,644,642,2,0,7,644,0,17,17,17,0,17,17,0,21,10,21,0,0,21,0,21,3,2]
def tpLp3:List Nat:=[19,1,0,19,21,10,21,0,21,13,476,476,474,0,13,476,476,474,13,13,476,11,21,7,644,644,642,7,644,7,644,644,642,2,0,7,644,0,17,17,17,0,17,17,0,21,10,21,0,0,21,13,476,476,474,0,13,476,476,474,13,13,476,11,21,3,3,7,644,644,642,7,644,7,644,644,642,2,1,7,644,0,15,15,15,0,15,15,0,21,10,21,0,0]
def tpLp2:List Nat:=tpLp3++[21,0,0,21,3,1]
def lpX(K:Wd)(q:LpQ)(cur:Sem PySem.Fin)(pos:Pos)(F1 S0:Str)(x:AcX)(pc:Lg):Exp:=
 ⟨cur,yF q.g.a0 q.it,pos,[],[(q.fr F1 q.p1.tF).o K.P x,(q.it,yJ q.i q.i),(q.p1.wF F1).slot,(q.p0.wS S0).slot]++q.fm.slots K.P K.V,[],pc⟩
def lpPc1(q:LpQ):Lg:=(.v (.bool ((⟨#[32]⟩:Str)==spc)),.v (.bool true))::pcAt q (q.i+1) q.p1.a
def lpPc3(q:LpQ)(t:Tok):Lg:=pcAt q q.i q.p0.a++(.v (.int (.ofNat (q.i+1) - 1) t),.v (.int (.ofNat q.i) t))::pcAt q (q.i+1) q.p1.a
def lpPc2(q:LpQ)(s:SK)(t:Tok):Lg:=(.v (.bool ((⟨#[s.last]⟩:Str).cps.toList==spc.cps.toList)),.v (.bool false))::lpPc3 q t
theorem lp_r1(K:Wd)(b:Bag)(q:LpQ)(S0:Str)(pos:Pos)(hx:∀v t,q.x≠.i v t)(α τ γ):lhs 11 [0,1,2,3,4,5,6,7,8,9,10] ((lpS K b q spc S0 pos).run α τ γ 102 tpLp1) =
  rhs 0 (lpX K q (.pure (.done .next)) ⟨86,28,86,33⟩ spc S0 (q.x.found (.int (.ofNat (q.i+1)) ((τ 0).tok 0)) τ) (lpPc1 q)) ((lpS K b q spc S0 pos).run α τ γ 102 tpLp1):=by
 obtain⟨w,b1,b2,V0,hw⟩:=K
 obtain⟨f,ps,g,it,i,p1,p0,x⟩:=q
 cases b1<;>cases x<;>first|kernel_rfl|exact absurd rfl (hx _ _)
theorem lp_r3(K:Wd)(b:Bag)(q:LpQ)(pos:Pos)(hx:∀v t,q.x≠.i v t)(α τ γ):lhs 11 [0,1,2,3,4,5,6,7,8,9,10] ((lpS K b q ⟨#[]⟩ ⟨#[]⟩ pos).run α τ γ 158 tpLp3) =
  rhs 0 (lpX K q (.pure (.again (yF q.g.a0 q.it))) ⟨88,23,88,31⟩ ⟨#[]⟩ ⟨#[]⟩ (q.x.past (.int (.ofNat (q.i+1)) ((τ 0).tok 0)) (.str ⟨#[]⟩ q.p0.tS) τ) (lpPc3 q ((τ 10).tok 0))) ((lpS K b q ⟨#[]⟩ ⟨#[]⟩ pos).run α τ γ 158 tpLp3):=by
 obtain⟨w,b1,b2,V0,hw⟩:=K
 obtain⟨f,ps,g,it,i,p1,p0,x⟩:=q
 cases b1<;>cases x<;>first|kernel_rfl|exact absurd rfl (hx _ _)
theorem lp_r2(K:Wd)(b:Bag)(q:LpQ)(sk:SK)(hs:sk≠.s0)(pos:Pos)(hx:∀v t,q.x≠.i v t)(α τ γ):lhs 11 [0,1,2,3,4,5,6,7,8,9,10] ((lpS K b q ⟨#[]⟩ sk.str pos).run α τ γ 176 tpLp2) =
  rhs 0 (lpX K q (.pure (.again (yF q.g.a0 q.it))) ⟨88,36,88,54⟩ ⟨#[]⟩ sk.str (q.x.past (.int (.ofNat (q.i+1)) ((τ 0).tok 0)) (.str sk.str q.p0.tS) τ) (lpPc2 q sk ((τ 10).tok 0))) ((lpS K b q ⟨#[]⟩ sk.str pos).run α τ γ 176 tpLp2):=by
 obtain⟨w,b1,b2,V0,hw⟩:=K
 obtain⟨f,ps,g,it,i,p1,p0,x⟩:=q
 cases sk with
 |s0=>exact absurd rfl hs
 |s1 c=>cases b1<;>cases x<;>first|kernel_rfl|exact absurd rfl (hx _ _)
 |s2 c d=>cases b1<;>cases x<;>first|kernel_rfl|exact absurd rfl (hx _ _)
 |s3 c d e=>cases b1<;>cases x<;>first|kernel_rfl|exact absurd rfl (hx _ _)
theorem Seg.again{K:Wd}{W:List (Code × Pos)}{c code:Code}{pos:Pos}{fs:List Frame}{T:zh}{B:St→Prop}(hq:c.quiet=true)(h:Seg K W ⟨zx c,c,pos,fs,T⟩ B):Seg K W ⟨.pure (.again c),code,pos,fs,T⟩ B:=fun s F U R=>by
 obtain⟨b,s',hb,hc,r⟩:=h s F U R
 refine⟨b,s',hb,.step (step_again _ _ _ _ _ _ hq) ?_,r⟩
 have:zx c=(model progP K.w).den c:=by rw[wm];rfl
 rw[←this];exact hc
structure PartOk (p:Part):Prop where
 F:p.F=spc∨p.F=⟨#[]⟩
 S:∃sk:SK,p.S=sk.str∧(sk≠.s0→sk.last≠32)
def z4(F:Nat→Str):Nat→Option Nat
 |0=>none
 |i+1=>if (F (i+1)==spc)=true then some (i+1) else z4 F i
def vk(ps:List Part)(i:Nat):Str:=match ps[i]? with
 |some p=>p.F
 |none=>⟨#[]⟩
theorem split2:∀{ps:List Part} {i:Nat},i+1 < ps.length→∃a p0 p1 c,ps=a++p0::p1::c∧a.length=i
 |[],i,h=>by simp at h
 |[_],i,h=>by simp at h
 |p0::p1::c,0,_=>⟨[],p0,p1,c,rfl,rfl⟩
 |p::q::c,i+1,h=>by
  obtain⟨a,p0,p1,c',e,l⟩:=split2 (ps:=q::c) (i:=i) (by simpa using h)
  exact⟨p::a,p0,p1,c',by rw[e];rfl,by simp[l]⟩
theorem pyAt_here{a c:List Part}{p:Part}{i:Nat}(h:a.length=i):yU (ze (a++p::c)) (.ofNat i)=some (.ref p.a):=by
 subst h
 unfold yU seqIndex?
 simp only[Int.ofNat_eq_natCast]
 rw[if_neg (show ¬((a.length:Int) < 0) by omega),if_pos (by simp[ze];omega)]
 simp[ze]
theorem near_mk{i:Nat}(h:i≤1000):(vD (.ofNat i)).1=(vD (.ofNat i)).2:=by
 unfold vD
 rw[decide_eq_true (by simp only[Int.ofNat_eq_natCast];omega),decide_eq_true (by simp only[Int.ofNat_eq_natCast];omega)];rfl
theorem lp_exts{K:Wd}{W:List (Code × Pos)}{m:Nat}{a0 a1:Addr}{i:Nat}:∀F,Under (cfg K.P K.V W m []) F→∀e E,nth [xRNext,xGetN 2 [.ref a1,.ref a0],zS K.P 8 [fun t=>.int (.ofNat i) t]] e=some E→ExtOk (cfg K.P K.V W m []) K.w F E:=fun F U=>
 (AllOk.cons (.leaf U xRNext_ok) (.cons (.leaf U xGetN_ok) (.cons zJ .nil))).nth
theorem Part.wF_self{p:Part}{F:Str}(h:p.F=F):p.wF F=p:=by subst h;rfl
theorem Part.wS_self{p:Part}{S:Str}(h:p.S=S):p.wS S=p:=by subst h;rfl
theorem beq_list_false{a:Nat}(h:a≠32):((⟨#[a]⟩:Str).cps.toList==spc.cps.toList)=false:=by
 show ([a]==[32])=false
 simp[h]
def lpT(K:Wd)(f:Fm)(ps:List Part)(g:AcF)(it:Addr)(i:Nat)(x:AcX):zh:=([g.o K.P x,(it,yJ i i)]++(f.far.puts (ze ps)).slots K.P K.V)++zb ps
structure LpE (K:Wd) (f:Fm) (ps:List Part) (g:AcF) (it:Addr) (r:Option Nat) (s:St):Prop where
 ex:∃g' x' j,g'.a0=g.a0∧g'.fa=g.fa∧g'.S=g.S∧g'.tS=g.tS∧g'.tc=g.tc∧s.fs=[]∧s.T=lpT K f ps g' it j x'∧(match r with
  |some k=>s.cur=.pure (.done .next)∧(∃t t',x'=.i (.int (.ofNat k) t) t'∨∃v2 t2,x'=.ip (.int (.ofNat k) t) t' v2 t2)
  |none=>s.cur=.pure (.done .cont)∧∀v t,x'≠.i v t)
def lpEndS(K:Wd)(b:Bag)(g:AcF)(it:Addr)(x:AcX)(pos:Pos):Start:=mkS K (WK ([1,0,1,0,0,3],b)) 2 [] [] [g.o K.P x,(it,yJ 0 0)] (yF g.a0 it) pos
def lpEndX(K:Wd)(g:AcF)(it:Addr)(x:AcX)(r:Option Out):Exp:=⟨.pure (.done .cont),(eo r).code,(eo r).pos,[],[g.o K.P x,(it,yJ 0 0)],[],[]⟩
theorem lp_end(K:Wd)(b:Bag)(g:AcF)(it:Addr)(x:AcX)(pos:Pos)(α τ γ):lhs 2 [2,3] ((lpEndS K b g it x pos).run α τ γ 16 [1,0,1,1,1,1,7])=rhs 2 (lpEndX K g it x ((lpEndS K b g it x pos).run α τ γ 16 [1,0,1,1,1,1,7])) ((lpEndS K b g it x pos).run α τ γ 16 [1,0,1,1,1,1,7]):=by
 obtain⟨w,b1,b2,V0,hw⟩:=K
 cases b1<;>kernel_rfl
theorem loop_seg{K:Wd}{b:Bag}{f:Fm}{ps:List Part}(hok:∀p∈ps,PartOk p)(hlen:ps.length≤41){it:Addr}:∀(i:Nat) (g:AcF) (x:AcX) (pos:Pos),g.fa=f.far.fa→(∀v t,x≠.i v t)→(i=0∨i < ps.length)→
  Seg K (WK ([1,0,1,0,0,3],b)) ⟨zx (yF g.a0 it),yF g.a0 it,pos,[],lpT K f ps g it i x⟩ (LpE K f ps g it (z4 (vk ps) i))
 |0,g,x,pos,hfa,hx,_=>by
  have h:=Seg.run (K:=K) (lpEndS K b g it x pos) (tl:=[]) rfl rfl yq (fun α τ γ=>lpEndX K g it x ((lpEndS K b g it x pos).run α τ γ 16 [1,0,1,1,1,1,7])) [2,3] (lp_end K b g it x pos) (by decide) rfl (by decide) (fun _ _ _=>zl) (fun _ _ _=>rfl)
  have hlive:∀p∈(f.far.puts (ze ps)).slots K.P K.V++zb ps,p.2.isFreed=false:=fun p hp=>by
   rcases List.mem_append.mp hp with hp|hp
   ·exact Fm.live _ _ _ p hp
   ·exact zB ps p hp
  have h2:=Seg.frame ((f.far.puts (ze ps)).slots K.P K.V++zb ps) hlive h
  have eT:lpT K f ps g it 0 x=([g.o K.P x,(it,yJ 0 0)]++[])++((f.far.puts (ze ps)).slots K.P K.V++zb ps):=by
   unfold lpT;simp
  rw[eT]
  refine h2.mono ?_
  rintro s ⟨s',⟨α,τ,γ,_,rfl⟩,rfl⟩
  exact⟨g,x,0,rfl,rfl,rfl,rfl,rfl,rfl,by rw[eT];rfl,rfl,hx⟩
 |i+1,g,x,pos,hfa,hx,hi=>by
  have hi':i+1 < ps.length:=by omega
  obtain⟨a,p0,p1,c,hps,ha⟩:=split2 hi'
  have hp1:ps[i+1]?=some p1:=by rw[hps,←ha];simp
  have ok1:PartOk p1:=hok p1 (by rw[hps];simp)
  have ok0:PartOk p0:=hok p0 (by rw[hps];simp)
  have hF:vk ps (i+1)=p1.F:=by unfold vk;rw[hp1]
  have at1:yU (ze ps) (.ofNat (i+1))=some (.ref p1.a):=by
   rw[hps,show a++p0::p1::c=(a++[p0])++p1::c by simp]
   exact pyAt_here (by simp[ha])
  have at0:yU (ze ps) (.ofNat i)=some (.ref p0.a):=by rw[hps];exact pyAt_here ha
  let q:LpQ:=⟨f,ps,g,it,i,p1,p0,x⟩
  have okAt1:Lg.Ok (pcAt q (i+1) p1.a):=zc (by show LV.ov (yU (ze ps) (.ofNat (i+1)))=_;rw[at1]) (zc (near_mk (by omega)) zl)
  have okAt0:Lg.Ok (pcAt q i p0.a):=zc (by show LV.ov (yU (ze ps) (.ofNat i))=_;rw[at0]) (zc (near_mk (by omega)) zl)
  have hlive:∀p∈zb a++zb c,p.2.isFreed=false:=fun p hp=>by
   rcases List.mem_append.mp hp with hp|hp<;>exact zB _ p hp
  have pm:∀(g':AcF) (j:Nat) (x':AcX),(lpT K f ps g' it j x').Perm (([g'.o K.P x',(it,yJ j j),p1.slot,p0.slot]++(f.far.puts (ze ps)).slots K.P K.V)++(zb a++zb c)):=fun g' j x'=>by
   unfold lpT
   have e:zb ps=zb a++p0.slot::p1.slot::zb c:=by rw[hps];unfold zb;simp
   rw[e]
   show (g'.o K.P x'::(it,yJ j j)::((f.far.puts (ze ps)).slots K.P K.V++(zb a++p0.slot::p1.slot::zb c))).Perm (g'.o K.P x'::(it,yJ j j)::p1.slot::p0.slot::((f.far.puts (ze ps)).slots K.P K.V++(zb a++zb c)))
   refine .cons _ (.cons _ ?_)
   generalize (f.far.puts (ze ps)).slots K.P K.V=A
   generalize zb a=B
   generalize zb c=D
   generalize p0.slot=u
   generalize p1.slot=v
   refine List.Perm.trans (l₂:=u::v::(A++(B++D))) ?_ (.swap _ _ _)
   rw[←List.append_assoc,←List.append_assoc]
   exact(List.perm_middle (l₁:=A++B) (l₂:=v::D) (a:=u)).trans (.cons _ (List.perm_middle (l₁:=A++B) (l₂:=D) (a:=v)))
  have eg:q.fr q.g.F q.g.tF=g:=by
   obtain⟨a0,fa,t,F,tF,S,tS,tc⟩:=g
   simp only at hfa
   subst hfa
   rfl
  have step:∀(F1 S0:Str),p1.F=F1→p0.S=S0→∀{B:St→Prop},Seg K (WK ([1,0,1,0,0,3],b)) ⟨(lpS K b q F1 S0 pos).cur,yF g.a0 it,pos,[],(lpS K b q F1 S0 pos).T++[]⟩ B→
    Seg K (WK ([1,0,1,0,0,3],b)) ⟨zx (yF g.a0 it),yF g.a0 it,pos,[],lpT K f ps g it (i+1) x⟩ (fun s=>∃s',B s'∧s={ s' with T:=s'.T++(zb a++zb c) }):=fun F1 S0 e1 e0 B h=>by
   refine Seg.perm (a:=⟨_,_,pos,[],_⟩) (pm g (i+1) x) ?_
   have:=Seg.frame (zb a++zb c) hlive h
   have eT:(lpS K b q F1 S0 pos).T++[]=[g.o K.P x,(it,yJ (i+1) (i+1)),p1.slot,p0.slot]++(f.far.puts (ze ps)).slots K.P K.V:=by
    rw[List.append_nil]
    show [(q.fr q.g.F q.g.tF).o K.P x,(it,yJ (i+1) (i+1)),(p1.wF F1).slot,(p0.wS S0).slot]++_=_
    rw[eg,Part.wF_self e1,Part.wS_self e0];rfl
   rw[eT] at this
   exact this
  have fin:∀(F1 S0:Str) (cur:Sem PySem.Fin) (pos':Pos) (x':AcX) (pc:Lg),p1.F=F1→p0.S=S0→(((lpX K q cur pos' F1 S0 x' pc).T++[])++(zb a++zb c)).Perm (lpT K f ps (q.fr F1 p1.tF) it i x'):=fun F1 S0 cur pos' x' pc e1 e0=>by
   refine List.Perm.trans (.of_eq ?_) (pm (q.fr F1 p1.tF) i x').symm
   rw[List.append_nil]
   show ([(q.fr F1 p1.tF).o K.P x',(it,yJ i i),(p1.wF F1).slot,(p0.wS S0).slot]++_)++_=_
   rw[Part.wF_self e1,Part.wS_self e0];rfl
  rcases ok1.F with h1|h1
  ·have hb:z4 (vk ps) (i+1)=some (i+1):=by unfold z4;rw[hF,h1];simp
   rw[hb]
   have h:=Seg.run (K:=K) (lpS K b q spc p0.S pos) (tl:=[]) rfl rfl lp_exts (fun α τ γ=>lpX K q (.pure (.done .next)) ⟨86,28,86,33⟩ spc p0.S (q.x.found (.int (.ofNat (i+1)) ((τ 0).tok 0)) τ) (lpPc1 q)) [0,1,2,3,4,5,6,7,8,9,10]
    (lp_r1 K b q p0.S pos hx) (by decide) rfl (by decide) (fun _ _ _=>zc rfl okAt1) (fun _ _ _=>rfl)
   refine(step spc p0.S h1 rfl h).swap ?_
   rintro s ⟨s',⟨α,τ,γ,_,rfl⟩,rfl⟩
   refine⟨_,fin _ _ _ _ _ _ h1 rfl,q.fr spc p1.tF,_,i,rfl,hfa.symm,rfl,rfl,rfl,rfl,rfl,rfl,?_⟩
   show ∃t t',x.found (.int (.ofNat (i+1)) ((τ 0).tok 0)) τ=.i (.int (.ofNat (i+1)) t) t'∨_
   cases x with
   |no=>exact⟨_,_,.inl rfl⟩
   |i v t=>exact absurd rfl (hx v t)
   |ip v t v2 t2=>exact⟨_,_,.inr ⟨_,_,rfl⟩⟩
  ·have hb:z4 (vk ps) (i+1)=z4 (vk ps) i:=by
    show (if (vk ps (i+1)==spc)=true then _ else _)=_
    rw[hF,h1,if_neg (by decide)]
   rw[hb]
   obtain⟨sk,hsk,hl⟩:=ok0.S
   have nx:∀(x:AcX) (v w:Value) (τ:Nat→Ch),∀v' t',x.past v w τ≠.i v' t':=fun x v w τ v' t' e=>by cases x<;>cases e
   have okSub:∀t:Tok,Lg.Ok ((.v (.int (.ofNat (i+1) - 1) t),.v (.int (.ofNat i) t))::pcAt q (i+1) p1.a):=fun t=>zc (by
    have:(Int.ofNat (i+1) - 1)=Int.ofNat i:=by simp only[Int.ofNat_eq_natCast];omega
    rw[this]) okAt1
   have go:∀(x':AcX) (pos':Pos),(∀v t,x'≠.i v t)→Seg K (WK ([1,0,1,0,0,3],b)) ⟨.pure (.again (yF g.a0 it)),yF g.a0 it,pos',[],lpT K f ps (q.fr ⟨#[]⟩ p1.tF) it i x'⟩ (LpE K f ps g it (z4 (vk ps) i)):=fun x' pos' hx'=>
    Seg.again rfl ((loop_seg hok hlen i (q.fr ⟨#[]⟩ p1.tF) x' pos' rfl hx' (by omega)).mono fun s ⟨g',x'',j,e1,e2,e3,e4,e5,e6,e7,e8⟩=>⟨g',x'',j,e1,e2.trans hfa.symm,e3,e4,e5,e6,e7,e8⟩)
   by_cases h0:sk=.s0
   ·subst h0
    have h:=Seg.run (K:=K) (lpS K b q ⟨#[]⟩ ⟨#[]⟩ pos) (tl:=[]) rfl rfl lp_exts (fun α τ γ=>lpX K q (.pure (.again (yF q.g.a0 q.it))) ⟨88,23,88,31⟩ ⟨#[]⟩ ⟨#[]⟩ (q.x.past (.int (.ofNat (i+1)) ((τ 0).tok 0)) (.str ⟨#[]⟩ p0.tS) τ) (lpPc3 q ((τ 10).tok 0))) [0,1,2,3,4,5,6,7,8,9,10]
     (lp_r3 K b q pos hx) (by decide) rfl (by decide) (fun _ _ _=>okAt0.app (okSub _)) (fun _ _ _=>rfl)
    refine(step ⟨#[]⟩ ⟨#[]⟩ h1 hsk h).trans ?_
    rintro s ⟨s',⟨α,τ,γ,_,rfl⟩,rfl⟩
    exact Seg.perm (a:=⟨_,_,_,[],_⟩) (fin _ _ _ _ _ _ h1 hsk) (go _ _ (nx _ _ _ _))
   ·have h:=Seg.run (K:=K) (lpS K b q ⟨#[]⟩ sk.str pos) (tl:=[]) rfl rfl lp_exts (fun α τ γ=>lpX K q (.pure (.again (yF q.g.a0 q.it))) ⟨88,36,88,54⟩ ⟨#[]⟩ sk.str (q.x.past (.int (.ofNat (i+1)) ((τ 0).tok 0)) (.str sk.str p0.tS) τ) (lpPc2 q sk ((τ 10).tok 0))) [0,1,2,3,4,5,6,7,8,9,10]
     (lp_r2 K b q sk h0 pos hx) (by decide) rfl (by decide) (fun _ _ _=>zc (by rw[beq_list_false (hl h0)]) (okAt0.app (okSub _))) (fun _ _ _=>rfl)
    refine(step ⟨#[]⟩ sk.str h1 hsk h).trans ?_
    rintro s ⟨s',⟨α,τ,γ,_,rfl⟩,rfl⟩
    exact Seg.perm (a:=⟨_,_,_,[],_⟩) (fin _ _ _ _ _ _ h1 hsk) (go _ _ (nx _ _ _ _))
theorem Seg.call{K:Wd}{W:List (Code × Pos)}{c:Code}{g:Bool}{l:List Value}{k:Result→Sem PySem.Fin}{code:Code}{pos:Pos}{fs:List Frame}{T:zh}{B B':St→Prop}(hh:hdOk fs=true)
  (h:Seg K ((code,pos)::(fs.map Frame.where_++W)) ⟨zx c,c,pos,[],T⟩ B') (hr:∀b,B' b→b.fs=[]∧∃r,b.cur=leafOf r∧Seg K W ⟨k r,code,pos,fs,b.T⟩ B):Seg K W ⟨.call c none g l k,code,pos,fs,T⟩ B:=fun s F U R=>by
 have hz:marksOver fs (none,none)=(none,none):=by
  unfold hdOk at hh
  generalize marksOver fs (none,none)=z at hh
  obtain⟨x,y⟩:=z
  cases x<;>cases y<;>first|rfl|cases hh
 have U':Und ((code,pos)::(fs.map Frame.where_++W)) (.ret k none g l code pos []::(fs++F)):=by
  have h1:topHandled (fs++F)=none:=by rw[topHandled_append,U.hd,U.past,hz]
  have h2:topHandled.go true (fs++F)=none:=by rw[past_append,U.hd,U.past,hz]
  exact⟨by simp only[List.map_cons,List.map_append,U.wh];rfl,h1,h2⟩
 obtain⟨b,s₁,hb,c₁,R₁,K₁,o₁⟩:=h s _ U' R
 obtain⟨e1,r,e2,h3⟩:=hr b hb
 obtain⟨b',s₂,hb',c₂,R₂,K₂,o₂⟩:=h3 s₁ F U R₁
 refine⟨b',s₂,hb',.step (step_call ..) (.trans ?_ (.trans (.step (step_leaf_ret _ s₁ b.code b.pos (fs++F) r k none g l code pos []) (.refl _ _)) c₂)),R₂,K₁.trans_sub K₂ o₁.ne (fun _ _ _ q=>q),o₁.trans o₂ K₁.size⟩
 have:zx c=(model progP K.w).den c:=by rw[wm];rfl
 rw[this,e2] at c₁
 have c₁':=c₁
 rw[e1] at c₁'
 exact c₁'
theorem W_of{al:List (List Nat)}{l:List (Code × Pos)}{x:List Nat × Bag}(h:shk al l=some x):l=WK x:=(xr h).1
def acC(a:Addr)(F:Str)(tF:Tok)(S:Str)(tS:Tok):Code:=.call (.ref 235) ⟨[.ref a,.str F tF,.str S tS],[]⟩
structure AcQ where
 f:Fm
 ps:List Part
 F:Str
 tF:Tok
 S:Str
 tS:Tok
 n:Nat
def acS(K:Wd)(b:Bag)(q:AcQ)(pos:Pos):Start:=mkS K (WK ([1,0,0,3],b)) 7 (zb q.ps) [zD 3,xLenF K.P K.V q.ps [(q.F,q.S)] 0 q.f.m1,zS K.P 8 [fun t=>.int (.ofNat q.n) t],xPC K.V,xRIter q.n]
 ((q.f.far.puts (ze q.ps)).slots K.P K.V) (acC q.f.far.fa q.F q.tF q.S q.tS) pos
def tpAcA:List Nat:=[470,468,15,7,15,7,15,7,4,15,13,476,476,474,0,13,476,476,474,13,13,476,11,7,644,644,642,7,644,644,642,7,644,644,642,532,7,5,15,15,532,0,532,530,17,8,17,8,17,8,4,17,7,644,644,642,7,644,644,642,7,644,644,642,7,5,17,17,1,0,7,644,642,6,0,15,13,476,476,474,0,13,476,476,474,13,13,476,11,2,0,3,7,5,19,15,13,476,476,474,0,13,476,476,474,13,13,476,11,3]
def tpAcF:List Nat:=tpAcA++[1]
def tpAcL:List Nat:=tpAcA++[2,15,13,476,476,474,0,13,476,476,474,13,13,476,11,0,21,0,21,0,21,21,21,21,10,15,7,6,0,15,13,476,476,474,0,13,476,476,474,13,13,476,11,7,644,644,642,7,644,644,642,7,644,644,642,638,7,5,638,4,0,7,3,3,0,0,0,23,23,0,23,23,23,23,5,0,23,25]
def AcQ.pt(q:AcQ)(a:Addr):Part:=⟨a,q.F,q.tF,q.S,q.tS⟩
def AcQ.lenG(q:AcQ)(b:Bool)(a:Addr):Lg:=(.v (.bool (decide (q.f.q.n+total (q.ps++[q.pt a]) > q.f.wd))),.v (.bool b))::(.b (zG (q.ps++[q.pt a])),.b true)::
 (.b (decide (0≤q.f.q.n+total (q.ps++[q.pt a])) && decide (q.f.q.n+total (q.ps++[q.pt a]) < 100)),.b true)::(.i (q.f.q.n+total (q.ps++[q.pt a])),.i (q.f.q.n+total (q.ps++[q.pt a])))::[small (ze q.ps).size]
def AcQ.fm(q:AcQ)(a:Addr)(ep:Nat)(m1:Addr):Fm:={ q.f.line ((ze q.ps).push (.ref a)) ep with m1:=some m1 }
def acXF(K:Wd)(q:AcQ)(r:Option Out)(α:Nat→Addr)(τ:Nat→Ch):Exp:=⟨.pure (.done (.ret .none)),(eo r).code,(eo r).pos,[],(q.fm (α 2) ((τ 7).tok 0) ((τ 9).tok 1)).far.slots K.P K.V++[(q.pt (α 2)).slot],[],q.lenG false (α 2)⟩
theorem ac_rF(K:Wd)(b:Bag)(q:AcQ)(pos:Pos)(α τ γ):lhs 7 [3,4,5,6,7,8,9,0] ((acS K b q pos).run α τ γ 160 tpAcF)=rhs 3 (acXF K q ((acS K b q pos).run α τ γ 160 tpAcF) α τ) ((acS K b q pos).run α τ γ 160 tpAcF):=by
 obtain⟨w,b1,b2,V0,hw⟩:=K
 cases b1<;>kernel_rfl
def acTok(τ:Nat→Ch)(i:Nat):Tok:=match i with
 |0=>(τ 0).tok 0
 |1=>(τ 1).tok 0
 |2=>(τ 2).tok 0
 | _=>(τ 14).tok 0
def AcQ.fr(q:AcQ)(α:Nat→Addr)(τ:Nat→Ch):AcF:=⟨α 0,q.f.far.fa,acTok τ,q.F,q.tF,q.S,q.tS,(τ 13).tok 0⟩
def xR(i:Int)(t:Tok):Obj:=⟨.type "str_ascii_iterator", none,.fields #[.str spc t,.int i 0],#[]⟩
def AcQ.lenL(q:AcQ)(t:Tok)(a a':Addr):Lg:=(.i (.ofNat q.n),.i (.ofNat q.n))::(.i 0,.i 0)::(.i (.negSucc 0),.i (.negSucc 0))::small q.n::(.v (.int ((((ze q.ps).push (.ref a)).size:Int) - 1) t),.v (.int (.ofNat q.n) t))::wZ a'::q.lenG true a
def acXL(K:Wd)(q:AcQ)(r:Option Out)(α:Nat→Addr)(τ:Nat→Ch):Exp:=⟨.call (yF (α 0) (α 5)) none false [] (kOf r),(eo r).code,(eo r).pos,(eo r).fs,
 [(q.fr α τ).o K.P .no,(α 5,yJ q.n q.n),(α 3,xR 1 (q.f.t 7))]++(q.fm (α 2) ((τ 7).tok 0) ((τ 9).tok 1)).far.slots K.P K.V++[(q.pt (α 2)).slot],[],q.lenL ((τ 18).tok 0) (α 2) q.f.far.c.a⟩
def yt(K:Wd)(b:Bag)(q:AcQ)(pos:Pos)(α:Nat→Addr)(τ:Nat→Ch)(γ:Nat→Nat):Option Out:=(acS K b q pos).run α τ γ 282 tpAcL
theorem ac_rL(K:Wd)(b:Bag)(q:AcQ)(pos:Pos)(α τ γ):lhs 7 [5,0,2,6,7,8,9,10,11,12,3] (yt K b q pos α τ γ)=rhs 6 (acXL K q (yt K b q pos α τ γ) α τ) (yt K b q pos α τ γ):=by
 obtain⟨w,b1,b2,V0,hw⟩:=K
 cases b1<;>kernel_rfl
theorem ac_rW(K:Wd)(b:Bag)(q:AcQ)(pos:Pos)(α τ γ):shk apKs (stk (yt K b q pos α τ γ) (WK ([1,0,0,3],b)))=some ([1,0,1,0,0,3],yj (stk (yt K b q pos α τ γ) (WK ([1,0,0,3],b))))∧hdOk (eo (yt K b q pos α τ γ)).fs=true:=by
 obtain⟨w,b1,b2,V0,hw⟩:=K
 cases b1<;>exact⟨by kernel_rfl,by kernel_rfl⟩
def xSetSN(m:Nat)(l:List (Array Value)):Ext:=⟨m,fun _=>0,false,fun d c wh objs gs xs t=>match nth l d with
 |some v=>(xSetS m v).f d c wh objs gs xs t
 |none=>none⟩
theorem xSetSN_ok{w:World}{tl:zh}{m:Nat}{l:List (Array Value)}:zH w tl (xSetSN m l):=by
 intro prog s d c wh objs gs h1 h2 h3 h4
 cases h:nth l d with
 |none=>
  refine⟨[],.of 0,rfl,zw,fun r hr=>?_⟩
  simp only[xSetSN,h] at hr
  cases hr
 |some v=>
  obtain⟨xs,t,e1,e2,e3⟩:=xSetS_ok (m:=m) (ys:=v) prog s d c wh objs gs h1 h2 h3 h4
  refine⟨xs,t,e1,e2,fun r hr=>e3 r ?_⟩
  simp only[xSetSN,h] at hr
  exact hr
structure AgQ where
 q:AcQ
 g:AcF
 x:AcX
 a2:Addr
 ep:Nat
 m1:Addr
def AgQ.fr(z:AgQ)(a0:Addr):AcF:=⟨a0,z.q.f.far.fa,z.g.t,z.g.F,z.g.tF,z.g.S,z.g.tS,z.g.tc⟩
def agS(K:Wd)(b:Bag)(z:AgQ)(pos:Pos)(α:Nat→Addr)(τ:Nat→Ch)(γ:Nat→Nat):Start:=
 ⟨cfg K.P K.V (WK ([1,0,0,3],b)) 10 [],[xPopA K.P K.V (ze z.q.ps) z.a2,xl,zS K.P 8 [],zD 3],[(z.fr (α 0)).o K.P z.x,(α 3,xR 1 (z.q.f.t 7)),(z.q.pt z.a2).slot]++(z.q.fm z.a2 z.ep z.m1).far.slots K.P K.V,[],
  kOf (yt K b z.q pos α τ γ) (.ok .cont),(eo (yt K b z.q pos α τ γ)).code,(eo (yt K b z.q pos α τ γ)).pos,(eo (yt K b z.q pos α τ γ)).fs⟩
def tpAgA:List Nat:=[17,0,17,17,17,17,8,23,19,13,476,476,474,0,13,476,476,474,13,13,476,11,7,644,644,642,7,644,644,642,7,644,644,642,564,7,5,564,1,1,7,5,15,15,15,0,15,25,25,0,25,25,25,15,25,12,25,0,25,25,25,15,25,12,25,0,25,25,25,15,25,12,29,19,9,19,9,19,13,476,476,474,0,13,476,476,474,13,13,476,11,7,644,644,642,644,644,642,0,7,644,7,644,644,642,7,7,644,5,0,3]
def tpAgN:List Nat:=tpAgA++[1,19,13,476,476,474,0,13,476,476,474,13,13,476,11,7,644,644,642,7,644,644,642,7,644,644,642,532,7,5,19,19,532,0,532,530,31,15,31,15,31,15,4,31,7,644,644,642,7,644,644,642,7,644,644,642,7,5,31,31,4,0,7,644,642]
def tpAgH:List Nat:=tpAgA++[2,19,13,476,476,474,13,476,476,474,13,476,476,474,400,13,11,400]
def agPc(z:AgQ)(b:Bool):Lg:=[(.v (.bool (decide (z.q.f.q.n > 0))),.v (.bool b)),wZ z.q.f.far.c.a,(.b (Nat.blt (ze z.q.ps).size 1000),.b true)]
def agRN(K:Wd)(b:Bag)(z:AgQ)(pos:Pos)(α₀:Nat→Addr)(τ₀:Nat→Ch)(γ₀:Nat→Nat)(α:Nat→Addr)(τ:Nat→Ch)(γ:Nat→Nat):Option Out:=(agS K b z pos α₀ τ₀ γ₀).run α τ γ 263 tpAgN
def xB(K:Wd)(b:Bag)(z:AgQ)(pos:Pos)(α₀:Nat→Addr)(τ₀:Nat→Ch)(γ₀:Nat→Nat)(α:Nat→Addr)(τ:Nat→Ch)(γ:Nat→Nat):Option Out:=(agS K b z pos α₀ τ₀ γ₀).run α τ γ 190 tpAgH
def agXN(K:Wd)(z:AgQ)(r:Option Out)(α:Nat→Addr)(τ:Nat→Ch):Exp:=⟨.pure (.done (.ret .none)),(eo r).code,(eo r).pos,[],(z.q.fm (α 6) ((τ 12).tok 0) z.m1).far.slots K.P K.V++[(z.q.pt (α 6)).slot],[],small (ze z.q.ps).size::agPc z false⟩
def agXH(K:Wd)(z:AgQ)(r:Option Out):Exp:=⟨.call (nlC z.q.f.far.fa) none false [.builtin "lifetime.plain-call#mark"] (kOf r),(eo r).code,(eo r).pos,(eo r).fs,yL r 5::({ z.q.f.line (ze z.q.ps) (z.ep+1) with m1:=some z.m1 }:Fm).far.slots K.P K.V,[],agPc z true⟩
theorem ag_rN(K:Wd)(b:Bag)(z:AgQ)(hx:∀v t,z.x≠.i v t)(pos:Pos)(α₀ τ₀ γ₀ α τ γ):lhs 10 [10,11,12,13,14,15,16,0] (agRN K b z pos α₀ τ₀ γ₀ α τ γ)=rhs 7 (agXN K z (agRN K b z pos α₀ τ₀ γ₀ α τ γ) α τ) (agRN K b z pos α₀ τ₀ γ₀ α τ γ):=by
 obtain⟨w,b1,b2,V0,hw⟩:=K
 obtain⟨q,g,x,a2,ep,m1⟩:=z
 cases b1<;>cases x<;>first|kernel_rfl|exact absurd rfl (hx _ _)
theorem ag_rH(K:Wd)(b:Bag)(z:AgQ)(hx:∀v t,z.x≠.i v t)(pos:Pos)(α₀ τ₀ γ₀ α τ γ):lhs 10 [5,8,9,10,11,12,13,14] (xB K b z pos α₀ τ₀ γ₀ α τ γ)=rhs 5 (agXH K z (xB K b z pos α₀ τ₀ γ₀ α τ γ)) (xB K b z pos α₀ τ₀ γ₀ α τ γ):=by
 obtain⟨w,b1,b2,V0,hw⟩:=K
 obtain⟨q,g,x,a2,ep,m1⟩:=z
 cases b1<;>cases x<;>first|kernel_rfl|exact absurd rfl (hx _ _)
theorem ag_rW(K:Wd)(b:Bag)(z:AgQ)(hx:∀v t,z.x≠.i v t)(pos:Pos)(α₀ τ₀ γ₀ α τ γ):shk xy (stk (xB K b z pos α₀ τ₀ γ₀ α τ γ) (WK ([1,0,0,3],b)))=some ([2,0,1,0,0,3],yj (stk (xB K b z pos α₀ τ₀ γ₀ α τ γ) (WK ([1,0,0,3],b))))∧hdOk (eo (xB K b z pos α₀ τ₀ γ₀ α τ γ)).fs=true:=by
 obtain⟨w,b1,b2,V0,hw⟩:=K
 obtain⟨q,g,x,a2,ep,m1⟩:=z
 cases b1<;>cases x<;>first|exact absurd rfl (hx _ _)|exact⟨by kernel_rfl,by kernel_rfl⟩
def AcQ.wF(q:AcQ)(F:Str):AcQ:=⟨q.f,q.ps,F,q.tF,q.S,q.tS,q.n⟩
def AgQ.wF(z:AgQ)(F:Str):AgQ:=⟨z.q.wF F,z.g,z.x,z.a2,z.ep,z.m1⟩
def Fm.like(f g:Fm):Fm:=⟨f.fa,f.fd,f.la,⟨f.c.a,f.c.d,#[],g.c.ep⟩,g.q,f.wd,g.t,g.fe,g.rows,g.le,g.m1,g.m2⟩
theorem Fm.like_of{f g:Fm}(h:FmSame f g)(h2:g.c.xs=#[]):f.like g=g:=by
 obtain⟨h1,h3,h4,h5,h6,h7⟩:=h
 unfold Fm.like
 rw[←h1,←h3,←h4,←h5,←h6,←h7,←h2]
def ahS(K:Wd)(b:Bag)(z:AgQ)(g:Fm)(r:Option Out):Start:=
 ⟨cfg K.P K.V (WK ([1,0,0,3],b)) 8 [],[zD 3],yL r 5::(z.q.f.like g).far.slots K.P K.V,[],kOf r (.ok (.ret .none)),(eo r).code,(eo r).pos,(eo r).fs⟩
def tpAhP:List Nat:=[15,13,476,476,474,0,13,476,476,474,13,13,476,11,7,644,644,642,7,644,644,642,7,644,644,642,532,7,5,15,15,532,0,532,530,17,8,17,8,17,8,4,17,7,644,644,642,7,644,644,642,7,644,644,642,7,5,17,17,1,0,7,644,642]
def tpAhS:List Nat:=[15,0,0]++tpAhP
def tpAhE:List Nat:=[15,0,0,15,7]++tpAhP
def ahX(K:Wd)(z:AgQ)(g:Fm)(r:Option Out)(a:Addr)(t ep:Tok):Exp:=⟨.pure (.done (.ret .none)),(eo r).code,(eo r).pos,[],((z.q.f.like g).line ((#[]:Array Value).push (.ref a)) ep).far.slots K.P K.V++[(⟨a,spc,t,z.q.S,z.q.tS⟩:Part).slot],[],[small (#[]:Array Value).size]⟩
def ahRS(K:Wd)(b:Bag)(z:AgQ)(g:Fm)(pos:Pos)(α₀:Nat→Addr)(τ₀:Nat→Ch)(γ₀:Nat→Nat)(α₁:Nat→Addr)(τ₁:Nat→Ch)(γ₁:Nat→Nat)(α:Nat→Addr)(τ:Nat→Ch)(γ:Nat→Nat):Option Out:=(ahS K b z g (xB K b (z.wF spc) pos α₀ τ₀ γ₀ α₁ τ₁ γ₁)).run α τ γ 108 tpAhS
def ahRE(K:Wd)(b:Bag)(z:AgQ)(g:Fm)(pos:Pos)(α₀:Nat→Addr)(τ₀:Nat→Ch)(γ₀:Nat→Nat)(α₁:Nat→Addr)(τ₁:Nat→Ch)(γ₁:Nat→Nat)(α:Nat→Addr)(τ:Nat→Ch)(γ:Nat→Nat):Option Out:=(ahS K b z g (xB K b (z.wF ⟨#[]⟩) pos α₀ τ₀ γ₀ α₁ τ₁ γ₁)).run α τ γ 117 tpAhE
theorem ah_rS(K:Wd)(b:Bag)(z:AgQ)(hx:∀v t,z.x≠.i v t)(g:Fm)(pos:Pos)(α₀ τ₀ γ₀ α₁ τ₁ γ₁ α τ γ):lhs 8 [3,4,5,6,7,8,9,0] (ahRS K b z g pos α₀ τ₀ γ₀ α₁ τ₁ γ₁ α τ γ)=rhs 2 (ahX K z g (ahRS K b z g pos α₀ τ₀ γ₀ α₁ τ₁ γ₁ α τ γ) (α 1) z.q.tF ((τ 6).tok 0)) (ahRS K b z g pos α₀ τ₀ γ₀ α₁ τ₁ γ₁ α τ γ):=by
 obtain⟨w,b1,b2,V0,hw⟩:=K
 obtain⟨q,g',x,a2,ep,m1⟩:=z
 cases b1<;>cases x<;>first|kernel_rfl|exact absurd rfl (hx _ _)
theorem ah_rE(K:Wd)(b:Bag)(z:AgQ)(hx:∀v t,z.x≠.i v t)(g:Fm)(pos:Pos)(α₀ τ₀ γ₀ α₁ τ₁ γ₁ α τ γ):lhs 8 [3,4,5,6,7,8,9,0] (ahRE K b z g pos α₀ τ₀ γ₀ α₁ τ₁ γ₁ α τ γ)=rhs 2 (ahX K z g (ahRE K b z g pos α₀ τ₀ γ₀ α₁ τ₁ γ₁ α τ γ) (α 1) ((τ 2).tok 0) ((τ 8).tok 0)) (ahRE K b z g pos α₀ τ₀ γ₀ α₁ τ₁ γ₁ α τ γ):=by
 obtain⟨w,b1,b2,V0,hw⟩:=K
 obtain⟨q,g',x,a2,ep,m1⟩:=z
 cases b1<;>cases x<;>first|kernel_rfl|exact absurd rfl (hx _ _)
structure AfQ where
 q:AcQ
 L:List Part
 R:List Part
 g:AcF
 x:AcX
 a2:Addr
 a3:Addr
 ep:Nat
 m1:Addr
def AfQ.fr(z:AfQ)(a0:Addr):AcF:=⟨a0,z.q.f.far.fa,z.g.t,z.g.F,z.g.tF,z.g.S,z.g.tS,z.g.tc⟩
def AfQ.fm(z:AfQ):Fm:=(z.q.fm z.a2 z.ep z.m1).puts (ze (z.L++z.R))
def afS(K:Wd)(b:Bag)(z:AfQ)(pos:Pos)(α:Nat→Addr)(τ:Nat→Ch)(γ:Nat→Nat):Start:=
 ⟨cfg K.P K.V (WK ([1,0,0,3],b)) 9 (zb z.L),[uO 3 (ze z.R),xSetSN 4 [ze z.L,ze z.R],xStrF K.P K.V z.L [] z.q.f.m2,zD 1],[(z.fr (α 0)).o K.P z.x,(z.a3,xR 1 (z.q.f.t 7))]++z.fm.far.slots K.P K.V,[],
  kOf (yt K b z.q pos α τ γ) (.ok .next),(eo (yt K b z.q pos α τ γ)).code,(eo (yt K b z.q pos α τ γ)).pos,(eo (yt K b z.q pos α τ γ)).fs⟩
def tpAf:List Nat:=[17,13,476,476,474,0,13,476,476,474,13,13,476,11,7,644,644,642,7,644,644,642,7,644,644,642,548,7,5,17,548,0,548,546,534,19,9,19,9,4,19,19,7,644,644,642,7,644,7,644,644,642,1,0,7,644,21,19,9,19,19,7,644,7,644,644,642,2,0,7,644,27,25,19,17,8,17,13,476,476,474,0,13,476,476,474,13,13,476,11,9,9,9,9,6,0,17,13,476,476,474,0,13,476,476,474,13,13,476,11,3,0,1,7,5,4,0,9,17,13,476,476,474,0,13,476,476,474,13,13,476,11,7,644,644,642,7,644,644,642,7,644,644,642,608,7,5,17,608,0,608,606,594,29,14,29,14,4,29,29,29,7,644,7,644,644,642,2,1,7,644,31,23,29,7,644,644,642,0,7,644,7,644,7,644,644,642,7,644,5,2,5]
def pcSetP(vs new:Array Value)(lo hi:Option Int)(ys:Array Value):Lg:=[(.a (y4 vs new lo hi),.a ys),small vs.size,small new.size,small ys.size]
def afPc(z:AfQ)(j:Nat):Lg:=pcSetP (ze z.L) (ze z.R) none none (ze z.R)++small z.q.f.rows.size::(.b (zG (z.L++[])),.b true)::(.b (decide ((z.L++[]).length≤40)),.b true)::
 (pcSetP (ze (z.L++z.R)) #[] (some (.ofNat j)) none (ze z.L)++[(.a (slicePick (ze (z.L++z.R)) (some (.ofNat j)) none none),.a (ze z.R)),small (ze (z.L++z.R)).size])
def afX(K:Wd)(z:AfQ)(j:Nat)(r:Option Out)(τ:Nat→Ch):Exp:=⟨.pure (.done (.ret .none)),(eo r).code,(eo r).pos,[],
 ({ (z.q.f.line (ze z.R) ((τ 14).tok 0)) with q:=⟨0,z.q.f.q.tk,(τ 15).tok 0,z.q.f.q.ep⟩,rows:=z.q.f.rows.push (.str (zW (z.L++[])) ((τ 9).tok 0)),le:=(τ 10).tok 0,m1:=some z.m1,m2:=some ((τ 9).tok 1) }:Fm).far.slots K.P K.V,[],afPc z j⟩
theorem af_r(K:Wd)(b:Bag)(z:AfQ)(j:Nat)(t:Tok)(hx:(∃t',z.x=.i (.int (.ofNat j) t) t')∨∃t' v2 t2,z.x=.ip (.int (.ofNat j) t) t' v2 t2)(pos:Pos)(α₀ τ₀ γ₀ α τ γ) :
  lhs 9 [9,10,11,12,13,14,15] ((afS K b z pos α₀ τ₀ γ₀).run α τ γ 278 tpAf)=rhs 7 (afX K z j ((afS K b z pos α₀ τ₀ γ₀).run α τ γ 278 tpAf) τ) ((afS K b z pos α₀ τ₀ γ₀).run α τ γ 278 tpAf):=by
 obtain⟨w,b1,b2,V0,hw⟩:=K
 obtain⟨q,L,R,g,x,a2,a3,ep,m1⟩:=z
 simp only at hx
 rcases hx with ⟨t',rfl⟩|⟨t',v2,t2,rfl⟩<;>cases b1<;>kernel_rfl
theorem sliceAll(n:Nat):sliceBounds none none none n=(0,(n:Int),1):=by
 unfold sliceBounds
 simp
theorem sliceFrom(j n:Nat)(h:j≤n):sliceBounds (some (.ofNat j)) none none n=((j:Int),(n:Int),1):=by
 unfold sliceBounds
 simp
 omega
theorem setPick_new(vs new:Array Value):y4 vs new none none=new:=by
 unfold y4
 rw[sliceAll]
 have:(max (0:Int) (vs.size:Int)).toNat=vs.size:=by omega
 simp[this]
theorem setPick_cut(L R:List Part):y4 (ze (L++R)) #[] (some (.ofNat L.length)) none=ze L:=by
 have hz:(ze (L++R)).size=L.length+R.length:=by rw[zF];simp
 unfold y4
 rw[sliceFrom _ _ (by omega)]
 have:(max (L.length:Int) ((ze (L++R)).size:Int)).toNat=(ze (L++R)).size:=by omega
 simp only[this]
 simp[ze]
theorem slicePick_cut(L R:List Part):slicePick (ze (L++R)) (some (.ofNat L.length)) none none=ze R:=by
 have hz:(ze (L++R)).size=L.length+R.length:=by rw[zF];simp
 rw[show (Int.ofNat L.length)=((L.length:Nat):Int) from rfl,slicePick_from _ _ (by omega)]
 simp[ze]
theorem afPc_ok(z:AfQ){j:Nat}(hj:z.L.length=j)(hrow:z.q.f.rows.size≤1000)(hs:zG z.L=true)(hl:z.L.length≤40)(hr:z.R.length≤41):Lg.Ok (afPc z j):=by
 subst hj
 have z1:(ze z.L).size≤1000:=by rw[zF];omega
 have z2:(ze z.R).size≤1000:=by rw[zF];omega
 have z3:(ze (z.L++z.R)).size≤1000:=by rw[zF,List.length_append];omega
 unfold afPc pcSetP
 refine Lg.Ok.app (zc (by rw[setPick_new]) (zc (zk z1) (zc (zk z2) (zc (zk z2) zl)))) (zc (zk hrow) (zc (by rw[List.append_nil,hs]) (zc (by rw[List.append_nil,decide_eq_true hl]) (Lg.Ok.app (zc (by rw[setPick_cut]) (zc (zk z3) (zc (zk (Nat.zero_le _)) (zc (zk z1) zl)))) (zc (by rw[slicePick_cut]) (zc (zk z3) zl))))))
structure LnSt where
 n:Int
 tx:List (Str × Str)
 rows:List Str
def xh(tx:List (Str × Str))(i:Nat):Str:=match tx[i]? with
 |some p=>p.1
 |none=>⟨#[]⟩
def w2(wd:Int)(z:LnSt)(F S:Str):LnSt:=
 if z.n+zt (z.tx++[(F,S)]) > wd then
  match z4 (xh (z.tx++[(F,S)])) z.tx.length with
  |some j=>⟨0,(z.tx++[(F,S)]).drop j,z.rows++[zV ((z.tx++[(F,S)]).take j)]⟩
  |none=>if z.n > 0 then ⟨0,[(spc,S)],z0 z.n z.tx z.rows⟩ else ⟨z.n,z.tx++[(F,S)],z.rows⟩
 else ⟨z.n,z.tx++[(F,S)],z.rows⟩
theorem partF_tx(ps:List Part):vk ps=xh (txs ps):=by
 funext i
 unfold vk xh txs
 rw[List.getElem?_map]
 cases ps[i]?<;>rfl
def TxOk(t:Str × Str):Prop:=(t.1=spc∨t.1=⟨#[]⟩)∧∃sk:SK,t.2=sk.str∧(sk≠.s0→sk.last≠32)
theorem partOk_tx{ps:List Part}(h:∀t∈txs ps,TxOk t):∀p∈ps,PartOk p:=fun p hp=>by
 obtain⟨h1,h2⟩:=h p.tx (List.mem_map_of_mem hp)
 exact⟨h1,h2⟩
theorem zP(tx:List (Str × Str)):0≤zt tx:=by
 unfold zt
 induction tx with
 |nil=>simp
 |cons p t ih=>simp only[List.map_cons,List.sum_cons];omega
theorem z9(a b:List (Str × Str)):zt (a++b)=zt a+zt b:=by
 unfold zt
 rw[List.map_append,List.sum_append]
def AcQ.tx(q:AcQ):List (Str × Str):=txs q.ps++[(q.F,q.S)]
structure ChH (q:AcQ) (rl:List (Str × Tok)):Prop where
 nn:q.n=q.ps.length
 xs:q.f.c.xs=ze q.ps
 rw:q.f.rows=za rl
 ok:∀t∈q.tx,TxOk t
 sm:yA q.tx=true
 ln:q.ps.length≤39
 lo:0≤q.f.q.n
 hi:q.f.q.n+zt q.tx < 100
 rn:rl.length≤900
 rs:∀p∈rl,p.1.length≤1000
structure ChE (K:Wd) (f:Fm) (z:LnSt) (b:St):Prop where
 ex:∃g ps rl,FmSame f g∧g.c.xs=ze ps∧g.rows=za rl∧g.q.n=z.n∧txs ps=z.tx∧rl.map (·.1)=z.rows∧b.cur=.pure (.done (.ret .none))∧b.fs=[]∧b.T=g.far.slots K.P K.V++zb ps
theorem yn(a b:List Part):zb (a++b)=zb a++zb b:=by simp[zb]
theorem xN(q:AcQ)(a:Addr):txs (q.ps++[q.pt a])=q.tx:=by simp[txs,AcQ.tx,Part.tx,AcQ.pt]
theorem ac_exts{K:Wd}{W:List (Code × Pos)}{m:Nat}{q:AcQ}:∀F,Under (cfg K.P K.V W m (zb q.ps)) F→∀e E,nth [zD 3,xLenF K.P K.V q.ps [(q.F,q.S)] 0 q.f.m1,zS K.P 8 [fun t=>.int (.ofNat q.n) t],xPC K.V,xRIter q.n] e=some E→ExtOk (cfg K.P K.V W m (zb q.ps)) K.w F E:=fun F U=>
 (AllOk.cons (.leaf U zI) (.cons (xLenF_ok U) (.cons zJ (.cons (xPC_ok U (zB _)) (.cons (.leaf U xRIter_ok) .nil))))).nth
theorem af_exts{K:Wd}{W:List (Code × Pos)}{m:Nat}{L:List Part}{m2:Option Addr}{v:Array Value}{l:List (Array Value)}:∀F,Under (cfg K.P K.V W m (zb L)) F→∀e E,nth [uO 3 v,xSetSN 4 l,xStrF K.P K.V L [] m2,zD 1] e=some E→ExtOk (cfg K.P K.V W m (zb L)) K.w F E:=fun F U=>
 (AllOk.cons (.leaf U xL) (.cons (.leaf U xSetSN_ok) (.cons (xStrF_ok U) (.cons (.leaf U zI) .nil)))).nth
theorem ag_exts{K:Wd}{W:List (Code × Pos)}{m:Nat}{ys:Array Value}{va:Addr}:∀F,Under (cfg K.P K.V W m []) F→∀e E,nth [xPopA K.P K.V ys va,xl,zS K.P 8 [],zD 3] e=some E→ExtOk (cfg K.P K.V W m []) K.w F E:=fun F U=>
 (AllOk.cons (xPopA_ok U fun _ h=>by cases h) (.cons (.leaf U uP) (.cons zJ (.cons (.leaf U zI) .nil)))).nth
theorem ah_exts{K:Wd}{W:List (Code × Pos)}{m:Nat}:∀F,Under (cfg K.P K.V W m []) F→∀e E,nth [zD 3] e=some E→ExtOk (cfg K.P K.V W m []) K.w F E:=fun F U=>(AllOk.cons (.leaf U zI) .nil).nth
theorem lenG_ok{q:AcQ}{rl:List (Str × Tok)}(h:ChH q rl){b:Bool}(hb:decide (q.f.q.n+zt q.tx > q.f.wd)=b)(a:Addr):Lg.Ok (q.lenG b a):=by
 have e:total (q.ps++[q.pt a])=zt q.tx:=by rw[vO,xN]
 have hs:zG (q.ps++[q.pt a])=true:=by rw[xS,xN];exact h.sm
 have h1:=h.lo
 have h2:=h.hi
 have h3:=zP q.tx
 unfold AcQ.lenG
 rw[e,hs,hb,decide_eq_true (show 0≤q.f.q.n+zt q.tx by omega),decide_eq_true h2]
 exact zc rfl (zc rfl (zc rfl (zc rfl (zc (zk (by rw[zF];have:=h.ln;omega)) zl))))
theorem lenL_ok{q:AcQ}{rl:List (Str × Tok)}(h:ChH q rl)(hb:q.f.q.n+zt q.tx > q.f.wd)(t:Tok)(a:Addr):Lg.Ok (q.lenL t a q.f.far.c.a):=by
 unfold AcQ.lenL
 refine zc rfl (zc rfl (zc rfl (zc (zk (by rw[h.nn];have:=h.ln;omega)) (zc ?_ (zc (xk (Nat.le_add_left ..)) (lenG_ok h (decide_eq_true hb) a))))))
 have:((((ze q.ps).push (.ref a)).size:Int) - 1)=Int.ofNat q.n:=by rw[Array.size_push,zF,h.nn];simp only[Int.ofNat_eq_natCast];omega
 rw[this]
theorem agPc_ok{z:AgQ}{b:Bool}(hn:decide (z.q.f.q.n > 0)=b)(hl:z.q.ps.length≤39):Lg.Ok (agPc z b):=by
 unfold agPc
 rw[hn]
 exact zc rfl (zc (xk (Nat.le_add_left ..)) (zc (by rw[show Nat.blt (ze z.q.ps).size 1000=true by rw[Nat.blt_eq,zF];omega]) zl))
theorem w6(A B:zh)(p:Addr × Obj):((A++[p])++B).Perm (A++(B++[p])):=by
 rw[List.append_assoc]
 exact .append_left _ List.perm_append_comm
theorem ch_fit{K:Wd}{b:Bag}{q:AcQ}{rl:List (Str × Tok)}(h:ChH q rl)(hgt:¬q.f.q.n+zt q.tx > q.f.wd){pos:Pos} :
  Seg K (WK ([1,0,0,3],b)) ⟨zx (acC q.f.far.fa q.F q.tF q.S q.tS),acC q.f.far.fa q.F q.tF q.S q.tS,pos,[],(q.f.far.puts (ze q.ps)).slots K.P K.V++zb q.ps⟩ (ChE K q.f ⟨q.f.q.n,q.tx,rl.map (·.1)⟩):=by
 refine(Seg.run (K:=K) (acS K b q pos) (tl:=zb q.ps) rfl rfl ac_exts _ [3,4,5,6,7,8,9,0] (ac_rF K b q pos) (by decide) rfl (by decide) (fun α τ γ=>lenG_ok h (decide_eq_false hgt) (α 2)) (fun _ _ _=>rfl)).swap ?_
 rintro s ⟨α,τ,γ,_,rfl⟩
 refine⟨(q.fm (α 2) ((τ 7).tok 0) ((τ 9).tok 1)).far.slots K.P K.V++zb (q.ps++[q.pt (α 2)]),?_,q.fm (α 2) ((τ 7).tok 0) ((τ 9).tok 1),q.ps++[q.pt (α 2)],rl,⟨rfl,rfl,rfl,rfl,rfl,rfl⟩,yg _ (q.pt (α 2)),h.rw,rfl,xN _ _,rfl,rfl,rfl,rfl⟩
 rw[yn]
 exact w6 _ _ _
def AfQ.out(z:AfQ)(τ:Nat→Ch):Fm:={ (z.q.f.line (ze z.R) ((τ 14).tok 0)) with q:=⟨0,z.q.f.q.tk,(τ 15).tok 0,z.q.f.q.ep⟩,rows:=z.q.f.rows.push (.str (zW (z.L++[])) ((τ 9).tok 0)),le:=(τ 10).tok 0,m1:=some z.m1,m2:=some ((τ 9).tok 1) }
theorem af_seg{K:Wd}{b:Bag}{z:AfQ}{j:Nat}{t:Tok}{rl:List (Str × Tok)}(hx:(∃t',z.x=.i (.int (.ofNat j) t) t')∨∃t' v2 t2,z.x=.ip (.int (.ofNat j) t) t' v2 t2)(hj:z.L.length=j)(hrw:z.q.f.rows=za rl)(hrn:rl.length≤900)(hs:yA (txs z.L)=true)(hl:z.L.length≤40)(hr:z.R.length≤41){pos:Pos}{α₀ τ₀ γ₀} :
  Seg K (WK ([1,0,0,3],b)) ⟨kOf (yt K b z.q pos α₀ τ₀ γ₀) (.ok .next),(eo (yt K b z.q pos α₀ τ₀ γ₀)).code,(eo (yt K b z.q pos α₀ τ₀ γ₀)).pos,(eo (yt K b z.q pos α₀ τ₀ γ₀)).fs,
   ([(z.fr (α₀ 0)).o K.P z.x,(z.a3,xR 1 (z.q.f.t 7))]++z.fm.far.slots K.P K.V)++zb (z.L++z.R)⟩ (ChE K z.q.f ⟨0,txs z.R,rl.map (·.1)++[zV (txs z.L)]⟩):=by
 have h:=Seg.run (K:=K) (afS K b z pos α₀ τ₀ γ₀) (tl:=zb z.L) rfl rfl af_exts _ [9,10,11,12,13,14,15] (af_r K b z j t hx pos α₀ τ₀ γ₀) (by decide) rfl (by decide)
  (fun α τ γ=>afPc_ok z hj (by rw[hrw,zm];omega) (by rw[xS];exact hs) hl hr) (fun _ _ _=>rfl)
 have h2:=Seg.frame (zb z.R) (zB _) h
 rw[yn,←List.append_assoc]
 refine h2.post ?_
 rintro s ⟨s',⟨α,τ,γ,_,rfl⟩,rfl⟩
 refine⟨⟨.pure (.done (.ret .none)),_,_,[],(z.out τ).far.slots K.P K.V++zb z.R⟩,zb z.L,
  ⟨z.out τ,z.R,rl++[(zW (z.L++[]),(τ 9).tok 0)],⟨rfl,rfl,rfl,rfl,rfl,rfl⟩,rfl,?_,rfl,rfl,?_,rfl,rfl,rfl⟩,rfl,rfl,rfl,rfl,?_⟩
 ·show z.q.f.rows.push _=_
  rw[hrw,zA]
 ·rw[List.map_append,List.append_nil,yR];rfl
 ·show List.Perm (α:=Addr × Obj) (((z.out τ).far.slots K.P K.V++zb z.L)++zb z.R) (((z.out τ).far.slots K.P K.V++zb z.R)++zb z.L)
  rw[List.append_assoc,List.append_assoc]
  exact .append_left _ List.perm_append_comm
theorem ag_segN{K:Wd}{b:Bag}{z:AgQ}{rl:List (Str × Tok)}(hx:∀v t,z.x≠.i v t)(h:ChH z.q rl)(hn:¬z.q.f.q.n > 0){pos:Pos}{α₀ τ₀ γ₀} :
  Seg K (WK ([1,0,0,3],b)) ⟨kOf (yt K b z.q pos α₀ τ₀ γ₀) (.ok .cont),(eo (yt K b z.q pos α₀ τ₀ γ₀)).code,(eo (yt K b z.q pos α₀ τ₀ γ₀)).pos,(eo (yt K b z.q pos α₀ τ₀ γ₀)).fs,
   ([(z.fr (α₀ 0)).o K.P z.x,(α₀ 3,xR 1 (z.q.f.t 7)),(z.q.pt z.a2).slot]++(z.q.fm z.a2 z.ep z.m1).far.slots K.P K.V)++zb z.q.ps⟩ (ChE K z.q.f ⟨z.q.f.q.n,z.q.tx,rl.map (·.1)⟩):=by
 have h1:=Seg.run (K:=K) (agS K b z pos α₀ τ₀ γ₀) (tl:=[]) rfl rfl ag_exts _ [10,11,12,13,14,15,16,0] (ag_rN K b z hx pos α₀ τ₀ γ₀) (by decide) rfl (by decide)
  (fun α τ γ=>zc (zk (by rw[zF];have:=h.ln;omega)) (agPc_ok (decide_eq_false hn) h.ln)) (fun _ _ _=>rfl)
 rw[List.append_nil] at h1
 have h2:=Seg.frame (zb z.q.ps) (zB _) h1
 refine Seg.swap h2 ?_
 rintro s ⟨s',⟨α,τ,γ,_,rfl⟩,rfl⟩
 refine⟨(z.q.fm (α 6) ((τ 12).tok 0) z.m1).far.slots K.P K.V++zb (z.q.ps++[z.q.pt (α 6)]),?_,z.q.fm (α 6) ((τ 12).tok 0) z.m1,z.q.ps++[z.q.pt (α 6)],rl,⟨rfl,rfl,rfl,rfl,rfl,rfl⟩,yg _ (z.q.pt (α 6)),h.rw,rfl,xN _ _,rfl,rfl,rfl,rfl⟩
 rw[yn]
 show (((_++[_])++[])++_:zh).Perm _
 rw[List.append_nil]
 exact w6 _ _ _
theorem x7{a b:List (Str × Str)}(h:∀t∈a,t∈b)(hb:yA b=true):yA a=true:=by
 unfold yA at *
 rw[List.all_eq_true] at *
 exact fun t ht=>hb t (h t ht)
theorem wO(l:List (Str × Str)):zT l=[(⟨#[]⟩,⟨#[]⟩)]∨zT l=l.dropLast∨zT l=l:=by
 unfold zT
 cases l.getLast? with
 |none=>exact .inl rfl
 |some p=>
  by_cases h:(p.1==spc && p.2==⟨#[]⟩)=true
  ·exact .inr (.inl (by simp only[h,if_true]))
  ·exact .inr (.inr (by simp only[h,if_false,Bool.false_eq_true]))
theorem txLen_dropLast(l:List (Str × Str)):zt l.dropLast≤zt l:=by
 rcases List.eq_nil_or_concat l with rfl|⟨a,p,rfl⟩
 ·exact Int.le_refl _
 ·rw[List.concat_eq_append,List.dropLast_concat,z9]
  have:=zP [p]
  omega
theorem uC(l:List (Str × Str)):zt (zT l)≤zt l:=by
 rcases wO l with h|h|h<;>rw[h]
 ·exact zP l
 ·exact txLen_dropLast l
 ·exact Int.le_refl _
theorem norm1_small{l:List (Str × Str)}(h:yA l=true):yA (zT l)=true:=by
 rcases wO l with e|e|e<;>rw[e]
 ·decide
 ·exact x7 (fun t ht=>List.dropLast_subset l ht) h
 ·exact h
theorem norm1_length(l:List (Str × Str)):(zT l).length≤l.length+1:=by
 rcases wO l with e|e|e<;>rw[e]
 ·simp
 ·simp;omega
 ·omega
theorem txText_length(l:List (Str × Str)):((zV l).length:Int)≤zt l:=by
 have h:=StrLaws.join_length_le ⟨#[]⟩ (l.map fun p=>cat p.1 p.2)
 have e:((((l.map fun p=>cat p.1 p.2).map (·.length)).sum:Nat):Int)=zt l:=by
  unfold zt
  clear h
  induction l with
  |nil=>rfl
  |cons p t ih=>
   simp only[List.map_cons,List.sum_cons]
   rw[←ih]
   have:(cat p.1 p.2).length=p.1.length+p.2.length:=by unfold cat Str.length;simp
   rw[this]
   simp only[Int.natCast_add]
 have e2:(⟨#[]⟩:Str).length=0:=rfl
 rw[e2,Nat.mul_zero,Nat.add_zero,←StrLaws.glued_eq_join] at h
 unfold zV Txt.join
 omega
theorem ChH.nl{q:AcQ}{rl:List (Str × Tok)}(h:ChH q rl){f:Fm}(hn:f.q.n=q.f.q.n)(ps2:List Part)(h2:txs ps2=zT (txs q.ps)):NlH f ps2 rl:=by
 have h1:=z9 (txs q.ps) [(q.F,q.S)]
 have h3:=zP [(q.F,q.S)]
 have h4:=uC (txs q.ps)
 have h5:=zP (zT (txs q.ps))
 have h6:=txText_length (zT (txs q.ps))
 have h7:=h.lo
 have h8:=h.hi
 unfold AcQ.tx at h8
 refine⟨?_,?_,?_,?_,?_,h.rn,h.rs⟩
 ·rw[h2]
  exact norm1_small (x7 (fun t ht=>List.mem_append_left _ ht) h.sm)
 ·have:=norm1_length (txs q.ps)
  rw[←h2,x6,x6] at this
  have:=h.ln
  omega
 ·rw[h2,hn];omega
 ·rw[h2,hn];omega
 ·rw[h2];omega
theorem ag_live(K:Wd)(b:Bag)(z:AgQ)(hx:∀v t,z.x≠.i v t)(pos:Pos)(α₀ τ₀ γ₀ α τ γ):(yL (xB K b z pos α₀ τ₀ γ₀ α τ γ) 5).2.isFreed=false:=by
 obtain⟨w,b1,b2,V0,hw⟩:=K
 obtain⟨q,g,x,a2,ep,m1⟩:=z
 cases b1<;>cases x<;>first|exact absurd rfl (hx _ _)|kernel_rfl
theorem AgQ.wF_self{z:AgQ}{F:Str}(h:z.q.F=F):z.wF F=z:=by
 obtain⟨⟨f,ps,F',tF,S,tS,n⟩,g,x,a2,ep,m1⟩:=z
 simp only at h
 subst h
 rfl
def AgQ.f1(z:AgQ):Fm:={ z.q.f.line (ze z.q.ps) (z.ep+1) with m1:=some z.m1 }
theorem ah_seg{K:Wd}{b:Bag}{z:AgQ}(hx:∀v t,z.x≠.i v t)(hF:z.q.F=spc∨z.q.F=⟨#[]⟩){g:Fm}{rl':List (Str × Tok)}{R:List Str}(hs:FmSame z.f1 g)(hxs:g.c.xs=#[])(hn:g.q.n=0)(hrw:g.rows=za rl')(hR:rl'.map (·.1)=R){pos:Pos}{α₀ τ₀ γ₀ α₁ τ₁ γ₁} :
  Seg K (WK ([1,0,0,3],b)) ⟨kOf (xB K b z pos α₀ τ₀ γ₀ α₁ τ₁ γ₁) (.ok (.ret .none)),(eo (xB K b z pos α₀ τ₀ γ₀ α₁ τ₁ γ₁)).code,(eo (xB K b z pos α₀ τ₀ γ₀ α₁ τ₁ γ₁)).pos,(eo (xB K b z pos α₀ τ₀ γ₀ α₁ τ₁ γ₁)).fs,
   yL (xB K b z pos α₀ τ₀ γ₀ α₁ τ₁ γ₁) 5::g.far.slots K.P K.V⟩ (ChE K z.q.f ⟨0,[(spc,z.q.S)],R⟩):=by
 have eg:z.q.f.like g=g:=Fm.like_of (f:=z.f1) hs hxs
 have hout:∀(a:Addr) (t ep:Tok) (code:Code) (pos:Pos),ChE K z.q.f ⟨0,[(spc,z.q.S)],R⟩ ⟨.pure (.done (.ret .none)),code,pos,[],(((z.q.f.like g).line ((#[]:Array Value).push (.ref a)) ep).far.slots K.P K.V++[(⟨a,spc,t,z.q.S,z.q.tS⟩:Part).slot])++[]⟩:=fun a t ep code pos=>
  ⟨(z.q.f.like g).line ((#[]:Array Value).push (.ref a)) ep,[⟨a,spc,t,z.q.S,z.q.tS⟩],rl',⟨rfl,rfl,rfl,rfl,rfl,rfl⟩,rfl,hrw,hn,rfl,hR,rfl,rfl,List.append_nil _⟩
 have hpc:Lg.Ok [small (#[]:Array Value).size]:=zc rfl zl
 rcases hF with hF|hF
 ·have h:=Seg.run (K:=K) (ahS K b z g (xB K b (z.wF spc) pos α₀ τ₀ γ₀ α₁ τ₁ γ₁)) (tl:=[]) rfl rfl ah_exts _ [3,4,5,6,7,8,9,0] (ah_rS K b z hx g pos α₀ τ₀ γ₀ α₁ τ₁ γ₁) (by decide) rfl (by decide) (fun _ _ _=>hpc) (fun _ _ _=>rfl)
  rw[List.append_nil,AgQ.wF_self hF] at h
  rw[←eg]
  refine Seg.mono h ?_
  rintro s ⟨α,τ,γ,_,rfl⟩
  exact hout _ _ _ _ _
 ·have h:=Seg.run (K:=K) (ahS K b z g (xB K b (z.wF ⟨#[]⟩) pos α₀ τ₀ γ₀ α₁ τ₁ γ₁)) (tl:=[]) rfl rfl ah_exts _ [3,4,5,6,7,8,9,0] (ah_rE K b z hx g pos α₀ τ₀ γ₀ α₁ τ₁ γ₁) (by decide) rfl (by decide) (fun _ _ _=>hpc) (fun _ _ _=>rfl)
  rw[List.append_nil,AgQ.wF_self hF] at h
  rw[←eg]
  refine Seg.mono h ?_
  rintro s ⟨α,τ,γ,_,rfl⟩
  exact hout _ _ _ _ _
theorem ag_segH{K:Wd}{b:Bag}{z:AgQ}{rl:List (Str × Tok)}(hx:∀v t,z.x≠.i v t)(h:ChH z.q rl)(hn:z.q.f.q.n > 0){pos:Pos}{α₀ τ₀ γ₀} :
  Seg K (WK ([1,0,0,3],b)) ⟨kOf (yt K b z.q pos α₀ τ₀ γ₀) (.ok .cont),(eo (yt K b z.q pos α₀ τ₀ γ₀)).code,(eo (yt K b z.q pos α₀ τ₀ γ₀)).pos,(eo (yt K b z.q pos α₀ τ₀ γ₀)).fs,
   ([(z.fr (α₀ 0)).o K.P z.x,(α₀ 3,xR 1 (z.q.f.t 7)),(z.q.pt z.a2).slot]++(z.q.fm z.a2 z.ep z.m1).far.slots K.P K.V)++zb z.q.ps⟩ (ChE K z.q.f ⟨0,[(spc,z.q.S)],z0 z.q.f.q.n (txs z.q.ps) (rl.map (·.1))⟩):=by
 have h1:=Seg.run (K:=K) (agS K b z pos α₀ τ₀ γ₀) (tl:=[]) rfl rfl ag_exts _ [5,8,9,10,11,12,13,14] (ag_rH K b z hx pos α₀ τ₀ γ₀) (by decide) rfl (by decide)
  (fun α τ γ=>agPc_ok (decide_eq_true hn) h.ln) (fun _ _ _=>rfl)
 rw[List.append_nil] at h1
 have h2:=Seg.frame (zb z.q.ps) (zB _) h1
 refine Seg.trans h2 ?_
 rintro s ⟨s',⟨α,τ,γ,_,rfl⟩,rfl⟩
 have hW:=ag_rW K b z hx pos α₀ τ₀ γ₀ α τ γ
 have eW:=W_of hW.1
 have hN:=Seg.frame [yL (xB K b z pos α₀ τ₀ γ₀ α τ γ) 5] (fun p hp=>by rw[List.mem_singleton] at hp;subst hp;exact ag_live K b z hx pos α₀ τ₀ γ₀ α τ γ)
  (wQ (K:=K) (x:=([2,0,1,0,0,3],yj (stk (xB K b z pos α₀ τ₀ γ₀ α τ γ) (WK ([1,0,0,3],b))))) (by simp[xy]) (f:=z.f1) (ps:=z.q.ps) (rl:=rl) rfl h.rw (fun ps2 h2=>h.nl (f:=z.f1) rfl ps2 h2) (by have:=h.ln;omega) (pos:=(eo (xB K b z pos α₀ τ₀ γ₀ α τ γ)).pos))
 rw[←eW] at hN
 refine Seg.call hW.2 (Seg.perm (a:=⟨_,_,_,[],_⟩) ?_ hN) ?_
 ·show List.Perm (α:=Addr × Obj) (((yL (xB K b z pos α₀ τ₀ γ₀ α τ γ) 5::z.f1.far.slots K.P K.V)++[])++zb z.q.ps) ((z.f1.far.slots K.P K.V++zb z.q.ps)++[yL (xB K b z pos α₀ τ₀ γ₀ α τ γ) 5])
  rw[List.append_nil]
  exact(List.perm_append_singleton _ _).symm
 ·rintro s ⟨s',⟨g,rl',f1,f2,f3,f4,f5,f6,f7,f8⟩,rfl⟩
  refine⟨f7,.ok (.ret .none),f6,?_⟩
  refine Seg.perm (a:=⟨_,_,_,_,_⟩) ?_ (ah_seg hx (h.ok (z.q.F,z.q.S) (by simp[AcQ.tx])).1 f1 f2 f3 f4 f5 (pos:=pos) (α₀:=α₀) (τ₀:=τ₀) (γ₀:=γ₀) (α₁:=α) (τ₁:=τ) (γ₁:=γ))
  show List.Perm (α:=Addr × Obj) (s'.T++[yL (xB K b z pos α₀ τ₀ γ₀ α τ γ) 5]) (yL (xB K b z pos α₀ τ₀ γ₀ α τ γ) 5::g.far.slots K.P K.V)
  rw[f8]
  exact List.perm_append_singleton _ _
theorem findBk_le{F:Nat→Str}:∀{i j:Nat},z4 F i=some j→j≤i
 |0,_,h=>by simp[z4] at h
 |i+1,j,h=>by
  unfold z4 at h
  split at h
  ·simp only[Option.some.injEq] at h;omega
  ·have:=findBk_le h;omega
theorem AfQ.fr_eq{z:AfQ}{a0:Addr}(h1:z.g.a0=a0)(h2:z.g.fa=z.q.f.far.fa):z.fr a0=z.g:=by
 unfold AfQ.fr
 rw[←h1,←h2]
theorem AgQ.fr_eq{z:AgQ}{a0:Addr}(h1:z.g.a0=a0)(h2:z.g.fa=z.q.f.far.fa):z.fr a0=z.g:=by
 unfold AgQ.fr
 rw[←h1,←h2]
theorem perm_in(a b c p:Addr × Obj)(A B:zh):List.Perm ((([a,b,c]++A)++[p])++B) ((([a,b]++A)++(B++[p]))++[c]):=by
 show List.Perm (a::b::c::((A++[p])++B)) (a::b::((A++(B++[p]))++[c]))
 refine .cons _ (.cons _ ?_)
 exact(List.Perm.cons _ (w6 A B p)).trans (List.perm_append_singleton _ _).symm
theorem perm_found(a b c:Addr × Obj)(A B:zh):List.Perm ((([a,b]++A)++B)++[c]) ((([a,c]++A)++B)++[b]):=by
 show List.Perm (a::b::((A++B)++[c])) (a::c::((A++B)++[b]))
 refine .cons _ ?_
 exact(List.Perm.cons _ (List.perm_append_singleton _ _)).trans ((List.Perm.swap _ _ _).trans (.cons _ (List.perm_append_singleton _ _).symm))
theorem perm_none(a b c p:Addr × Obj)(A B:zh):List.Perm ((([a,b]++A)++(B++[p]))++[c]) ((([a,c,p]++A)++B)++[b]):=by
 refine(perm_found a b c A (B++[p])).trans (.append_right _ ?_)
 show List.Perm (a::c::(A++(B++[p]))) (a::c::p::(A++B))
 refine .cons _ (.cons _ ?_)
 rw[←List.append_assoc]
 exact List.perm_append_singleton _ _
theorem ch_found{K:Wd}{b:Bag}{q:AcQ}{rl:List (Str × Tok)}(h:ChH q rl){j:Nat}(hj:z4 (xh q.tx) q.ps.length=some j){pos:Pos}{α τ γ}{a2 a3 it:Addr}{ep:Nat}{m1:Addr}{g':AcF}{x':AcX}{i:Nat}
  (e1:g'.a0=α 0) (e2:g'.fa=q.f.far.fa) (hx:∃t t',x'=.i (.int (.ofNat j) t) t'∨∃v2 t2,x'=.ip (.int (.ofNat j) t) t' v2 t2) :
  Seg K (WK ([1,0,0,3],b)) ⟨kOf (yt K b q pos α τ γ) (.ok .next),(eo (yt K b q pos α τ γ)).code,(eo (yt K b q pos α τ γ)).pos,(eo (yt K b q pos α τ γ)).fs,
   lpT K (q.fm a2 ep m1) (q.ps++[q.pt a2]) g' it i x'++[(a3,xR 1 (q.f.t 7))]⟩ (ChE K q.f ⟨0,q.tx.drop j,rl.map (·.1)++[zV (q.tx.take j)]⟩):=by
 have hle:=findBk_le hj
 have htx:=xN q a2
 have hln:=h.ln
 let z:AfQ:=⟨q,(q.ps++[q.pt a2]).take j,(q.ps++[q.pt a2]).drop j,g',x',a2,a3,ep,m1⟩
 have hLR:z.L++z.R=q.ps++[q.pt a2]:=List.take_append_drop _ _
 have hL:txs z.L=q.tx.take j:=by rw[←htx];show (List.map _ (List.take _ _))=List.take _ (List.map _ _);rw[List.map_take]
 have hR:txs z.R=q.tx.drop j:=by rw[←htx];show (List.map _ (List.drop _ _))=List.drop _ (List.map _ _);rw[List.map_drop]
 obtain⟨t,t',hx⟩:=hx
 have hx2:(∃t',z.x=.i (.int (.ofNat j) t) t')∨∃t' v2 t2,z.x=.ip (.int (.ofNat j) t) t' v2 t2:=by
  rcases hx with hx|⟨v2,t2,hx⟩
  ·exact .inl ⟨t',hx⟩
  ·exact .inr ⟨t',v2,t2,hx⟩
 have hS:=af_seg (K:=K) (b:=b) (z:=z) (j:=j) (t:=t) (rl:=rl) hx2 (by show (List.take _ _).length=_;rw[List.length_take,List.length_append];simp;omega) h.rw h.rn
  (by rw[hL];exact x7 (fun t ht=>List.mem_of_mem_take ht) h.sm) (by show (List.take _ _).length≤_;rw[List.length_take];omega)
  (by show (List.drop _ _).length≤_;rw[List.length_drop,List.length_append];simp;omega) (pos:=pos) (α₀:=α) (τ₀:=τ) (γ₀:=γ)
 rw[hL,hR] at hS
 refine Seg.pre (rest:=[(it,yJ i i)]) ?_ (fun _ _ _=>trivial) hS
 rw[AfQ.fr_eq (z:=z) e1 e2,hLR]
 have ef:z.fm.far=(q.fm a2 ep m1).far.puts (ze (q.ps++[q.pt a2])):=by unfold AfQ.fm;rw[hLR];rfl
 rw[ef]
 exact perm_found _ _ _ _ _
theorem ch_none{K:Wd}{b:Bag}{q:AcQ}{rl:List (Str × Tok)}(h:ChH q rl){pos:Pos}{α τ γ}{a2 it:Addr}{ep:Nat}{m1:Addr}{g':AcF}{x':AcX}{i:Nat}
  (e1:g'.a0=α 0) (e2:g'.fa=q.f.far.fa) (hx:∀v t,x'≠.i v t) :
  Seg K (WK ([1,0,0,3],b)) ⟨kOf (yt K b q pos α τ γ) (.ok .cont),(eo (yt K b q pos α τ γ)).code,(eo (yt K b q pos α τ γ)).pos,(eo (yt K b q pos α τ γ)).fs,
   lpT K (q.fm a2 ep m1) (q.ps++[q.pt a2]) g' it i x'++[(α 3,xR 1 (q.f.t 7))]⟩ (ChE K q.f (if q.f.q.n > 0 then ⟨0,[(spc,q.S)],z0 q.f.q.n (txs q.ps) (rl.map (·.1))⟩ else ⟨q.f.q.n,q.tx,rl.map (·.1)⟩)):=by
 let z:AgQ:=⟨q,g',x',a2,ep,m1⟩
 have hp:List.Perm (lpT K (q.fm a2 ep m1) (q.ps++[q.pt a2]) g' it i x'++[(α 3,xR 1 (q.f.t 7))]) ((([(z.fr (α 0)).o K.P z.x,(α 3,xR 1 (z.q.f.t 7)),(z.q.pt z.a2).slot]++(z.q.fm z.a2 z.ep z.m1).far.slots K.P K.V)++zb z.q.ps)++[(it,yJ i i)]):=by
  rw[AgQ.fr_eq (z:=z) e1 e2]
  unfold lpT
  rw[yn,←yg]
  exact perm_none _ _ _ _ _ _
 refine Seg.pre (rest:=[(it,yJ i i)]) hp (fun _ _ _=>trivial) ?_
 by_cases hn:q.f.q.n > 0
 ·rw[if_pos hn]
  exact ag_segH (K:=K) (b:=b) (z:=z) hx h hn
 ·rw[if_neg hn]
  exact ag_segN (K:=K) (b:=b) (z:=z) hx h hn
theorem chunk_seg{K:Wd}{b:Bag}{q:AcQ}{rl:List (Str × Tok)}(h:ChH q rl){pos:Pos} :
  Seg K (WK ([1,0,0,3],b)) ⟨zx (acC q.f.far.fa q.F q.tF q.S q.tS),acC q.f.far.fa q.F q.tF q.S q.tS,pos,[],(q.f.far.puts (ze q.ps)).slots K.P K.V++zb q.ps⟩ (ChE K q.f (w2 q.f.wd ⟨q.f.q.n,txs q.ps,rl.map (·.1)⟩ q.F q.S)):=by
 unfold w2
 show Seg _ _ _ (ChE K q.f (if q.f.q.n+zt q.tx > q.f.wd then _ else _))
 by_cases hgt:q.f.q.n+zt q.tx > q.f.wd
 ·rw[if_pos hgt]
  have h1:=Seg.run (K:=K) (acS K b q pos) (tl:=zb q.ps) rfl rfl ac_exts _ [5,0,2,6,7,8,9,10,11,12,3] (ac_rL K b q pos) (by decide) rfl (by decide) (fun α τ γ=>lenL_ok h hgt _ _) (fun _ _ _=>rfl)
  refine Seg.trans h1 ?_
  rintro s ⟨α,τ,γ,_,rfl⟩
  have hW:=ac_rW K b q pos α τ γ
  have eW:=W_of hW.1
  have htx:=xN q (α 2)
  have hlen:(q.ps++[q.pt (α 2)]).length≤41:=by rw[List.length_append];have:=h.ln;simp;omega
  have hL:=Seg.frame [(α 3,xR 1 (q.f.t 7))] (fun p hp=>by rw[List.mem_singleton] at hp;subst hp;rfl)
   (loop_seg (K:=K) (b:=yj (stk (yt K b q pos α τ γ) (WK ([1,0,0,3],b)))) (f:=q.fm (α 2) ((τ 7).tok 0) ((τ 9).tok 1)) (ps:=q.ps++[q.pt (α 2)]) (partOk_tx (by rw[htx];exact h.ok)) hlen (it:=α 5)
    q.ps.length (q.fr α τ) .no (eo (yt K b q pos α τ γ)).pos rfl (fun _ _ e=>by cases e) (.inr (by rw[List.length_append];simp)))
  rw[←eW] at hL
  refine Seg.call hW.2 (Seg.perm (a:=⟨_,_,_,[],_⟩) ?_ hL) ?_
  ·show List.Perm (α:=Addr × Obj) (((([(q.fr α τ).o K.P .no,(α 5,yJ q.n q.n),(α 3,xR 1 (q.f.t 7))]++(q.fm (α 2) ((τ 7).tok 0) ((τ 9).tok 1)).far.slots K.P K.V)++[(q.pt (α 2)).slot])++zb q.ps)) (lpT K (q.fm (α 2) ((τ 7).tok 0) ((τ 9).tok 1)) (q.ps++[q.pt (α 2)]) (q.fr α τ) (α 5) q.ps.length .no++[(α 3,xR 1 (q.f.t 7))])
   unfold lpT
   rw[yn,←yg,h.nn]
   exact perm_in _ _ _ _ _ _
  ·rintro s ⟨s',⟨g',x',i,e1,e2,e3,e4,e5,e6,e7,e8⟩,rfl⟩
   rw[partF_tx,htx] at e8
   refine⟨e6,?_⟩
   cases hf:z4 (xh q.tx) q.ps.length with
   |some j=>
    rw[hf] at e8
    refine⟨.ok .next,e8.1,?_⟩
    show Seg _ _ ⟨_,_,_,_,s'.T++_⟩ _
    rw[e7]
    have:=ch_found (K:=K) (b:=b) h hf (pos:=pos) (α:=α) (τ:=τ) (γ:=γ) (a2:=α 2) (a3:=α 3) (it:=α 5) (ep:=(τ 7).tok 0) (m1:=(τ 9).tok 1) (g':=g') (x':=x') (i:=i) e1 e2 e8.2
    rw[show z4 (xh (txs q.ps++[(q.F,q.S)])) (txs q.ps).length=some j by rw[x6];exact hf]
    exact this
   |none=>
    rw[hf] at e8
    refine⟨.ok .cont,e8.1,?_⟩
    show Seg _ _ ⟨_,_,_,_,s'.T++_⟩ _
    rw[e7]
    have:=ch_none (K:=K) (b:=b) h (pos:=pos) (α:=α) (τ:=τ) (γ:=γ) (a2:=α 2) (it:=α 5) (ep:=(τ 7).tok 0) (m1:=(τ 9).tok 1) (g':=g') (x':=x') (i:=i) e1 e2 e8.2
    rw[show z4 (xh (txs q.ps++[(q.F,q.S)])) (txs q.ps).length=none by rw[x6];exact hf]
    exact this
 ·rw[if_neg hgt]
  exact ch_fit h hgt
def adC(a:Addr):Code:=.call (.ref 207) ⟨[.ref a],[]⟩
def adS(K:Wd)(b:Bag)(f:Fm)(ps:List Part)(pos:Pos):Start:=mkS K (WK ([1,0,0,3],b)) 7 [] [zD 3] ((f.far.puts (ze ps)).slots K.P K.V) (adC f.far.fa) pos
def tpAd:List Nat:=[414,412,15,7,4,15,13,476,476,474,0,13,476,476,474,13,13,476,11,7,644,644,642,7,644,644,642,7,644,644,642,532,7,5,532,0,532,530,17,8,17,8,17,8,4,17,7,644,644,642,7,644,644,642,7,644,644,642,7,5,17,17,1,0,7,644,642]
def adR(K:Wd)(b:Bag)(f:Fm)(ps:List Part)(pos:Pos)(α:Nat→Addr)(τ:Nat→Ch)(γ:Nat→Nat):Option Out:=(adS K b f ps pos).run α τ γ 102 tpAd
def trP(a:Addr)(t t':Tok):Part:=⟨a,spc,t,⟨#[]⟩,t'⟩
def adX(K:Wd)(f:Fm)(ps:List Part)(r:Option Out)(α:Nat→Addr)(τ:Nat→Ch):Exp:=⟨.pure (.done (.ret .none)),(eo r).code,(eo r).pos,[],
 (f.line ((ze ps).push (.ref (α 2))) ((τ 7).tok 0)).far.slots K.P K.V++[(trP (α 2) ((τ 2).tok 0) ((τ 3).tok 0)).slot],[],[small (ze ps).size]⟩
theorem ad_r(K:Wd)(b:Bag)(f:Fm)(ps:List Part)(pos:Pos)(α τ γ):lhs 7 [3,4,5,6,7,8,9,0] (adR K b f ps pos α τ γ)=rhs 3 (adX K f ps (adR K b f ps pos α τ γ) α τ) (adR K b f ps pos α τ γ):=by
 obtain⟨w,b1,b2,V0,hw⟩:=K
 cases b1<;>kernel_rfl
theorem trans_seg{K:Wd}{b:Bag}{f:Fm}{ps:List Part}{rl:List (Str × Tok)}(hrw:f.rows=za rl)(hln:ps.length≤1000){pos:Pos} :
  Seg K (WK ([1,0,0,3],b)) ⟨zx (adC f.far.fa),adC f.far.fa,pos,[],(f.far.puts (ze ps)).slots K.P K.V++zb ps⟩ (ChE K f ⟨f.q.n,txs ps++[(spc,⟨#[]⟩)],rl.map (·.1)⟩):=by
 have h1:=Seg.run (K:=K) (adS K b f ps pos) (tl:=[]) rfl rfl ah_exts _ [3,4,5,6,7,8,9,0] (ad_r K b f ps pos) (by decide) rfl (by decide) (fun α τ γ=>zc (zk (by rw[zF];exact hln)) zl) (fun _ _ _=>rfl)
 rw[List.append_nil] at h1
 refine Seg.swap (Seg.frame (zb ps) (zB _) h1) ?_
 rintro s ⟨s',⟨α,τ,γ,_,rfl⟩,rfl⟩
 refine⟨(f.line ((ze ps).push (.ref (α 2))) ((τ 7).tok 0)).far.slots K.P K.V++zb (ps++[(trP (α 2) ((τ 2).tok 0) ((τ 3).tok 0))]),?_,f.line ((ze ps).push (.ref (α 2))) ((τ 7).tok 0),ps++[(trP (α 2) ((τ 2).tok 0) ((τ 3).tok 0))],rl,⟨rfl,rfl,rfl,rfl,rfl,rfl⟩,yg ps (trP (α 2) ((τ 2).tok 0) ((τ 3).tok 0)),hrw,rfl,by simp[txs,Part.tx,trP],rfl,rfl,rfl,rfl⟩
 rw[yn]
 show List.Perm (α:=Addr × Obj) (((_++[_])++[])++_) _
 rw[List.append_nil]
 exact w6 _ _ _
def Obj.IntSet(o:Obj)(S:Int→Bool):Prop:=∃es ep t,o.ExactSet∧o.data=.set es ep t∧(∀e∈es.toList,(∃k,Value.isInt k e.2=true∧e.1=hashInt k)∧e.2.scannable=true)∧(∀k,S k=true↔∃e∈es.toList,Value.isInt k e.2=true)∧es.size < scanBound∧t.fits es.size=true
theorem codeAny_inSet{prog:Program}{w:World}{A:Around}{s:Shared}{a:Addr}{o:Obj}{S:Int→Bool}(hg:s.heap.get? a=some o)(h:Obj.IntSet o S)(k:Int)(t:Tok) :
  codeAny (model prog w) A (.call (.builtin "set.__contains__") ⟨[.ref a,.int k t],[]⟩) (fun r s₁=>r=.ok (.ret (.bool (S k)))∧s₁={ s with toks:=s.toks+1 }) s:=by
 obtain⟨es,ep,tb,h1,h2,h3,h4,h5,h6⟩:=h
 have hS:s.heap.SetOf (intKind prog w) a S es.size:=⟨o,es,ep,tb,hg,h1,h2,h3,h4,h5,h6,rfl⟩
 have hkey:(intKind prog w).is k (.int k t)=true:=by show Value.isInt k (.int k t)=true;simp[Value.isInt]
 refine codeAny_call_builtin F.slot_set_contains.plain entry_set_contains (F.slot_set_contains.check _ _ _ _ _ _ _ _ hS.typeIs (F.args_set_contains_2 _ _) ?_)
 unfold Builtin.«frozenset.__contains__» Builtin.Frozenset.oneOther
 simp only[List.isEmpty_nil,bind_assoc]
 unfold Builtin.Frozenset.addrOf Builtin.Frozenset.withSetAsKey setContains
 refine wpAny_bind (wpAny_pure ?_)
 try dsimp only
 refine wpAny_bind (wpAny_pure ?_)
 try dsimp only
 refine wpAny_bind (wpAny_tryCatch ?_)
 refine wpAny_holding ?_
 refine wpAny_bind ((intKind prog w).pyHash hkey ?_)
 refine wpAny_bind (wpAny_setFind_of (s:={ s with toks:=s.toks+1 }) hkey rfl hS fun r hr=>?_)
 refine wpAny_pure ?_
 show wpAny _ _ (ret (Value.bool r.isSome)) _ _ _
 rw[hr]
 exact wpAny_pure ⟨rfl,rfl⟩
def xInSet(o:Obj)(S:Int→Bool):Ext:=⟨1,fun _=>0,false,fun _ c _ objs _ _ _=>match c with
 | .call (.builtin id) ⟨[.ref a,.int k t],[]⟩=>match idB id 128106709680535770272165659069392447092 with
  |true=>match objs with
   |[(y,o')]=>some ⟨.ok (.ret (.bool (S k))),[],[],[(.n a,.n y),(.o o',.o o)],[]⟩
   | _=>none
  |false=>none
 | _=>none⟩
theorem xInSet_ok{w:World}{tl:zh}{o:Obj}{S:Int→Bool}(h:Obj.IntSet o S):zH w tl (xInSet o S):=by
 intro prog s d c wh objs gs hm hg _ _
 refine⟨[],.of 0,rfl,zw,fun r hr hl hp=>?_⟩
 simp only[xInSet] at hr
 split at hr<;>try(cases hr;done)
 rename_i id a k t
 split at hr<;>try(cases hr;done)
 rename_i hid
 have hid:=zv hid (s:= "set.__contains__") (by decide +kernel)
 subst hid
 split at hr<;>try(cases hr;done)
 rename_i y o'
 simp only[Option.some.injEq] at hr
 subst hr
 have e1:a=y:=LV.n.inj (hl _ (.head _))
 have e2:o'=o:=LV.o.inj (hl _ (.tail _ (.head _)))
 subst e1 e2
 exact⟨_,codeAny_inSet (hg _ (.head _)) h k t,Eff.toks⟩
def tfB:Nat→Bool
 |0=>false
 | _+1=>true
def xTupIn2:Ext:=⟨1,fun _=>0,false,fun d c _ objs _ _ _=>match c with
 | .call (.builtin id) ⟨[.ref a,.int k t],[]⟩=>match idB id 8395601325623592240556648632771639105386101 with
  |true=>match objs with
   |[(y,⟨.type T,dd,.seq ⟨[.int p tp,.int q tq]⟩ n,sl⟩)]=>match idB T 439922816629 with
    |true=>some ⟨.ok (.ret (.bool (tfB d))),[],[],[(.n a,.n y)],[(.b (p==k || q==k),.b (tfB d))]⟩
    |false=>none
   | _=>none
  |false=>none
 | _=>none⟩
theorem xTupIn2_ok{w:World}{tl:zh}:zH w tl xTupIn2:=by
 intro prog s d c wh objs gs hm hg _ _
 refine⟨[],.of 0,rfl,zw,fun r hr hl hp=>?_⟩
 simp only[xTupIn2] at hr
 split at hr<;>try(cases hr;done)
 rename_i id a k t
 split at hr<;>try(cases hr;done)
 rename_i hid
 have hid:=zv hid (s:= "tuple.__contains__") (by decide +kernel)
 subst hid
 split at hr<;>try(cases hr;done)
 rename_i y T dd p tp q tq n sl
 split at hr<;>try(cases hr;done)
 rename_i hT
 have hT:=zv hT (s:= "tuple") (by decide +kernel)
 subst hT
 simp only[Option.some.injEq] at hr
 subst hr
 have e1:a=y:=LV.n.inj (hl _ (.head _))
 have e2:=LV.b.inj (hp _ (.head _))
 subst e1
 have h1:=hg _ (.head _)
 refine⟨s,zO PySem.F.slot_tuple_contains ⟨_,h1,rfl⟩ PySem.F.entry_tuple_contains (PySem.F.args_tuple_contains_2 _ _) (PySem.SeqAt.tuple_containsAt a #[.int p tp,.int q tq] n dd sl (.int k t) (fun v=>match v with | .int i _=>i==k | _=>false)) ⟨h1,fun v hv=>?_,?_⟩,Eff.toks⟩
 ·have:v=.int p tp∨v=.int q tq:=by simpa using hv
  rcases this with rfl|rfl<;>exact PySem.SeqAt.EqAt.int_int _ _ _ _
 ·refine⟨?_,rfl⟩
  rw[←e2]
  simp
def Obj.IntDict(o:Obj)(f:Int→Option Value):Prop:=∃es ep,o.ExactDict∧o.data=.dict es ep∧(∀e∈es,∃k,Value.isInt k e.key=true∧e.hash=hashInt k)∧∀k,findBy Value.isInt es k=f k
def xDictGet(o:Obj)(f:Int→Option Value)(S:Str)(tS:Tok):Ext:=⟨1,fun _=>0,false,fun d c _ objs _ _ _=>match c with
 | .call (.builtin id) ⟨[.ref a,.int k t],[]⟩=>match idB id 8459563503104322149 with
  |true=>match objs with
   |[(y,o')]=>match d with
    |0=>some ⟨.ok (.ret .none),[],[],[(.n a,.n y),(.o o',.o o)],[(.ov (f k),.ov none),(.b (a==sysModules),.b false)]⟩
    | _+1=>some ⟨.ok (.ret (.str S tS)),[],[],[(.n a,.n y),(.o o',.o o)],[(.ov (f k),.ov (some (.str S tS))),(.b (a==sysModules),.b false)]⟩
   | _=>none
  |false=>none
 | _=>none⟩
theorem Zc{prog:Program}{w:World}{A:Around}{s:Shared}{a:Addr}{o:Obj}{f:Int→Option Value}(hg:s.heap.get? a=some o)(h:Obj.IntDict o f)(ha:(a==sysModules)=false)(k:Int)(t:Tok) :
  codeAny (model prog w) A (.call (.builtin "dict.get") ⟨[.ref a,.int k t],[]⟩) (fun r s₁=>r=.ok (.ret ((f k).getD .none))∧s₁={ s with toks:=s.toks+1 }) s:=by
 obtain⟨es,ep,h1,h2,h3,h4⟩:=h
 have hm:s.heap.MapOf (intKind prog w) a f:=⟨o,es,ep,hg,h1,h2,h3,h4⟩
 have hkey:(intKind prog w).is k (.int k t)=true:=by show Value.isInt k (.int k t)=true;simp[Value.isInt]
 refine codeAny_call_builtin PySem.F.slot_dict_get.plain PySem.F.entry_dict_get (PySem.F.slot_dict_get.check _ _ _ _ _ _ _ _ ⟨o,hg,h1.1⟩ (PySem.F.args_dict_get_2 _ _) ?_)
 exact meets_dict_get (intKind prog w) a hkey ha A (fun r s₁=>r=.ok (.ret ((f k).getD .none))∧s₁={ s with toks:=s.toks+1 }) s ⟨f,hm,rfl,rfl⟩
theorem xDictGet_ok{w:World}{tl:zh}{o:Obj}{f:Int→Option Value}{S:Str}{tS:Tok}(h:Obj.IntDict o f):zH w tl (xDictGet o f S tS):=by
 intro prog s d c wh objs gs hm hg _ _
 refine⟨[],.of 0,rfl,zw,fun r hr hl hp=>?_⟩
 simp only[xDictGet] at hr
 split at hr<;>try(cases hr;done)
 rename_i id a k t
 split at hr<;>try(cases hr;done)
 rename_i hid
 have hid:=zv hid (s:= "dict.get") (by decide +kernel)
 subst hid
 split at hr<;>try(cases hr;done)
 rename_i y o'
 split at hr
 all_goals
  simp only[Option.some.injEq] at hr
  subst hr
  have e1:a=y:=LV.n.inj (hl _ (.head _))
  have e2:o'=o:=LV.o.inj (hl _ (.tail _ (.head _)))
  have e3:=LV.ov.inj (hp _ (.head _))
  have e4:=LV.b.inj (hp _ (.tail _ (.head _)))
  subst e1 e2
  have:=Zc (prog:=prog) (w:=w) (A:=yf wh) (hg _ (.head _)) h e4 k t
  rw[e3] at this
  exact⟨_,this,Eff.toks⟩
def low1(c:Nat):Str:=⟨placed ⟨#[c]⟩ fun i _=>Unicode.lowerAt #[c] i⟩
def xLower(S:Str):Ext:=⟨0,fun _=>0,false,fun _ c _ _ _ _ t=>match c with
 | .call (.builtin id) ⟨[.str ⟨⟨[x]⟩⟩ tx],[]⟩=>match idB id 2128759343679922206068 with
  |true=>some ⟨.ok (.ret (.str S (t.tok 0))),[],[],[],[(.s (low1 x),.s S),small S.cps.size]⟩
  |false=>none
 | _=>none⟩
theorem xLower_ok{w:World}{tl:zh}{S:Str}:zH w tl (xLower S):=by
 intro prog s d c wh objs gs hm hg _ _
 refine⟨[],.of s.toks,rfl,zw,fun r hr hl hp=>?_⟩
 simp only[xLower] at hr
 split at hr<;>try(cases hr;done)
 rename_i id x tx
 split at hr<;>try(cases hr;done)
 rename_i hid
 have hid:=zv hid (s:= "str.lower") (by decide +kernel)
 subst hid
 simp only[Option.some.injEq] at hr
 subst hr
 have e1:low1 x=S:=LV.s.inj (hp _ (.head _))
 have e2:=yK hp (.tail _ (.head _))
 subst e1
 refine⟨{ s with toks:=s.toks+1 },?_,Eff.toks⟩
 refine y7 PySem.F.slot_str_lower (typeIs_str s ⟨#[x]⟩ tx) PySem.F.entry_str_lower (PySem.F.args_str_lower_1 _) (gives_str_lower ⟨#[x]⟩ tx ?_) ?_
 ·exact decide_eq_false (Nat.not_lt.mpr e2)
 ·exact⟨e2,rfl,rfl⟩
def sgC(n:Nat)(c:Nat)(t:Tok):Code:=.call (.ref n) ⟨[.str ⟨#[c]⟩ t],[]⟩
structure SgQ where
 c:Nat
 t:Tok
 y:Addr
 o:Obj
def sgS(K:Wd)(b:Bag)(n:Nat)(X:List Ext)(q:SgQ)(pos:Pos):Start:=mkS K (WK ([1,0,0,3],b)) 1 [] X [(q.y,q.o)] (sgC n q.c q.t) pos
def sgE(q:SgQ)(r:Option Out)(v:Value)(pc:Lg):Exp:=⟨.pure (.done (.ret v)),(eo r).code,(eo r).pos,[],[(q.y,q.o)],[],pc⟩
def sgR(K:Wd)(b:Bag)(n:Nat)(X:List Ext)(q:SgQ)(pos:Pos)(N:Nat)(tp:List Nat)(α:Nat→Addr)(τ:Nat→Ch)(γ:Nat→Nat):Option Out:=(sgS K b n X q pos).run α τ γ N tp
def SgE(q:SgQ)(tl:zh)(P:Value→Prop)(s:St):Prop:=∃v,P v∧s.cur=.pure (.done (.ret v))∧s.fs=[]∧s.T=(q.y,q.o)::tl
theorem yT{K:Wd}{b:Bag}{n:Nat}{X:List Ext}{q:SgQ}{pos:Pos}{N na i:Nat}{tp:List Nat}{v:(Nat→Ch)→Value}{pc:Lg}{P:Value→Prop}{tl:zh}(htl:∀p∈tl,p.2.isFreed=false)
  (hX:∀F,Under (cfg K.P K.V (WK ([1,0,0,3],b)) 1 []) F→∀e E,nth X e=some E→ExtOk (cfg K.P K.V (WK ([1,0,0,3],b)) 1 []) K.w F E)
  (hr:∀α τ γ,lhs 1 [i] (sgR K b n X q pos N tp α τ γ)=rhs na (sgE q (sgR K b n X q pos N tp α τ γ) (v τ) pc) (sgR K b n X q pos N tp α τ γ)) (hpc:Lg.Ok pc) (hP:∀τ,P (v τ)) :
  Seg K (WK ([1,0,0,3],b)) ⟨zx (sgC n q.c q.t),sgC n q.c q.t,pos,[],(q.y,q.o)::tl⟩ (SgE q tl P):=by
 have h:=Seg.run (K:=K) (sgS K b n X q pos) (tl:=[]) rfl rfl hX _ [i] hr (by simp[ym,notIn]) rfl (by decide) (fun _ _ _=>hpc) (fun _ _ _=>rfl)
 have h2:=Seg.frame tl htl h
 rw[List.append_nil] at h2
 refine h2.mono ?_
 rintro s ⟨s',⟨α,τ,γ,_,rfl⟩,rfl⟩
 exact⟨v τ,hP τ,rfl,rfl,rfl⟩
def sgRd(d:Nat)(c:Code)(objs:zh):Option SgQ:=match c with
 | .call _ ⟨[.str ⟨⟨[c]⟩⟩ t],[]⟩=>match objs with
  |[(y,o)]=>some ⟨c,t,y,o⟩
  | _=>none
 | _=>none
def xSgB(n:Nat)(test:Nat→Bool):Ext:=fnX 1 (fun _=>0) (shk [[1,0,0,3]]) sgRd (fun _ _ q=>sgC n q.c q.t) (fun _ _ q=>[(q.y,q.o)]) (fun d _ q=>[(.b (test q.c),.b (tfB d))])
 (fun d _ q _ _=>⟨.ok (.ret (.bool (tfB d))),[q.o],[]⟩)
theorem xZ{K:Wd}{W:List (Code × Pos)}{n m:Nat}{tl:zh}{F:List Frame}{test:Nat→Bool}(U:Under (cfg K.P K.V W n tl) F)(htl:∀p∈tl,p.2.isFreed=false)
  (H:∀(b:Bag) (q:SgQ) (pos:Pos),Seg K (WK ([1,0,0,3],b)) ⟨zx (sgC m q.c q.t),sgC m q.c q.t,pos,[],(q.y,q.o)::tl⟩ (SgE q tl fun v=>v=.bool (test q.c))):ExtOk (cfg K.P K.V W n tl) K.w F (xSgB m test):=by
 refine ExtOk.fn U htl WK (fun x=>x.1∈[[1,0,0,3]]) (fun wh x h=>xr h) (fun d c objs x q xs t h=>rfl) ?_
 rintro d ⟨ks,b⟩ q hk hpc _ pos
 have hk:ks=[1,0,0,3]:=by simpa using hk
 subst hk
 have e:=LV.b.inj (hpc _ (.head _))
 refine(H b q pos).mono ?_
 rintro s ⟨v,rfl,h1,h2,h3⟩
 refine⟨[],.of 0,rfl,rfl,?_,h2,?_⟩
 ·rw[h1,e];rfl
 ·rw[h3];rfl
def wC(c:Nat):Bool:=(⟨#[c]⟩:Str).cps.toList==spc.cps.toList
def c4P(c:Nat):Bool:=!decide ((c:Int) < 64976) && (decide ((c:Int) < 65008) || ((65534:Int)==Builtin.bitAnd (c:Int) 65535 || (65535:Int)==Builtin.bitAnd (c:Int) 65535))
def tp11(d:Nat):List Nat:=[184,182,3,1,4,3,1,d]
def X11(K:Wd):List Ext:=[zS K.P 8 [],xTupIn2]
theorem uo{K:Wd}{W:List (Code × Pos)}{m:Nat}{tl:zh}:∀F,Under (cfg K.P K.V W m tl) F→∀e E,nth (X11 K) e=some E→ExtOk (cfg K.P K.V W m tl) K.w F E:=fun F U=>(AllOk.cons zJ (.cons (.leaf U xTupIn2_ok) .nil)).nth
theorem c11_rF(K:Wd)(b:Bag)(q:SgQ)(pos:Pos)(α τ γ):lhs 1 [1] (sgR K b 92 (X11 K) q pos 18 (tp11 1) α τ γ)=rhs 1 (sgE q (sgR K b 92 (X11 K) q pos 18 (tp11 1) α τ γ) (.bool false) [(.v (.bool (wC q.c)),.v (.bool false))]) (sgR K b 92 (X11 K) q pos 18 (tp11 1) α τ γ):=by
 obtain⟨w,b1,b2,V0,hw⟩:=K
 cases b1<;>kernel_rfl
theorem c11_rT(K:Wd)(b:Bag)(q:SgQ)(pos:Pos)(α τ γ):lhs 1 [1] (sgR K b 92 (X11 K) q pos 18 (tp11 2) α τ γ)=rhs 1 (sgE q (sgR K b 92 (X11 K) q pos 18 (tp11 2) α τ γ) (.bool true) [(.v (.bool (wC q.c)),.v (.bool true))]) (sgR K b 92 (X11 K) q pos 18 (tp11 2) α τ γ):=by
 obtain⟨w,b1,b2,V0,hw⟩:=K
 cases b1<;>kernel_rfl
theorem c11_seg{K:Wd}{tl:zh}(htl:∀p∈tl,p.2.isFreed=false)(b:Bag)(q:SgQ)(pos:Pos):Seg K (WK ([1,0,0,3],b)) ⟨zx (sgC 92 q.c q.t),sgC 92 q.c q.t,pos,[],(q.y,q.o)::tl⟩ (SgE q tl fun v=>v=.bool (wC q.c)):=by
 cases h:wC q.c with
 |false=>exact yT htl uo (c11_rF K b q pos) (zc (by rw[h]) zl) (fun _=>rfl)
 |true=>exact yT htl uo (c11_rT K b q pos) (zc (by rw[h]) zl) (fun _=>rfl)
def tp4a:List Nat:=[198,196,3,1,4,6,0,3,1,0,3,1,3,1,2]
def tp4b:List Nat:=[198,196,3,1,4,6,0,3,1,0,3,1,3,1,1,3,1,2]
def tp4c(d:Nat):List Nat:=[198,196,3,1,4,6,0,3,1,0,3,1,3,1,1,3,1,1,6,0,3,1,0,1,0,5,5,2,d,5]
def c4L(c:Nat)(l:Int)(b:Bool):LV × LV:=(.v (.bool (decide ((c:Int) < l))),.v (.bool b))
def c4T(c:Nat)(b:Bool):LV × LV:=(.b ((65534:Int)==Builtin.bitAnd (c:Int) 65535 || (65535:Int)==Builtin.bitAnd (c:Int) 65535),.b b)
theorem c4_ra(K:Wd)(b:Bag)(q:SgQ)(pos:Pos)(α τ γ):lhs 1 [1] (sgR K b 99 (X11 K) q pos 35 tp4a α τ γ)=rhs 1 (sgE q (sgR K b 99 (X11 K) q pos 35 tp4a α τ γ) (.bool false) [c4L q.c 64976 true]) (sgR K b 99 (X11 K) q pos 35 tp4a α τ γ):=by
 obtain⟨w,b1,b2,V0,hw⟩:=K
 cases b1<;>kernel_rfl
theorem c4_rb(K:Wd)(b:Bag)(q:SgQ)(pos:Pos)(α τ γ):lhs 1 [1] (sgR K b 99 (X11 K) q pos 42 tp4b α τ γ)=rhs 1 (sgE q (sgR K b 99 (X11 K) q pos 42 tp4b α τ γ) (.bool true) [c4L q.c 65008 true,c4L q.c 64976 false]) (sgR K b 99 (X11 K) q pos 42 tp4b α τ γ):=by
 obtain⟨w,b1,b2,V0,hw⟩:=K
 cases b1<;>kernel_rfl
theorem c4_rF(K:Wd)(b:Bag)(q:SgQ)(pos:Pos)(α τ γ):lhs 1 [2] (sgR K b 99 (X11 K) q pos 61 (tp4c 0) α τ γ)=rhs 2 (sgE q (sgR K b 99 (X11 K) q pos 61 (tp4c 0) α τ γ) (.bool false) [c4T q.c false,c4L q.c 65008 false,c4L q.c 64976 false]) (sgR K b 99 (X11 K) q pos 61 (tp4c 0) α τ γ):=by
 obtain⟨w,b1,b2,V0,hw⟩:=K
 cases b1<;>kernel_rfl
theorem c4_rT(K:Wd)(b:Bag)(q:SgQ)(pos:Pos)(α τ γ):lhs 1 [2] (sgR K b 99 (X11 K) q pos 61 (tp4c 1) α τ γ)=rhs 2 (sgE q (sgR K b 99 (X11 K) q pos 61 (tp4c 1) α τ γ) (.bool true) [c4T q.c true,c4L q.c 65008 false,c4L q.c 64976 false]) (sgR K b 99 (X11 K) q pos 61 (tp4c 1) α τ γ):=by
 obtain⟨w,b1,b2,V0,hw⟩:=K
 cases b1<;>kernel_rfl
theorem c4_seg{K:Wd}{tl:zh}(htl:∀p∈tl,p.2.isFreed=false)(b:Bag)(q:SgQ)(pos:Pos):Seg K (WK ([1,0,0,3],b)) ⟨zx (sgC 99 q.c q.t),sgC 99 q.c q.t,pos,[],(q.y,q.o)::tl⟩ (SgE q tl fun v=>v=.bool (c4P q.c)):=by
 unfold c4P
 cases h1:decide ((q.c:Int) < 64976) with
 |true=>exact yT htl uo (c4_ra K b q pos) (zc (by unfold c4L;rw[h1]) zl) (fun _=>rfl)
 |false=>
  cases h2:decide ((q.c:Int) < 65008) with
  |true=>exact yT htl uo (c4_rb K b q pos) (zc (by unfold c4L;rw[h2]) (zc (by unfold c4L;rw[h1]) zl)) (fun _=>rfl)
  |false=>
   cases h3:((65534:Int)==Builtin.bitAnd (q.c:Int) 65535 || (65535:Int)==Builtin.bitAnd (q.c:Int) 65535) with
   |true=>exact yT htl uo (c4_rT K b q pos) (zc (by unfold c4T;rw[h3]) (zc (by unfold c4L;rw[h2]) (zc (by unfold c4L;rw[h1]) zl))) (fun _=>rfl)
   |false=>exact yT htl uo (c4_rF K b q pos) (zc (by unfold c4T;rw[h3]) (zc (by unfold c4L;rw[h2]) (zc (by unfold c4L;rw[h1]) zl))) (fun _=>rfl)
def xo(f L:Nat):List Nat:=[2*f,2*(f - 1),3,1,4,6,0,3,1,0,6,2*L,2*L,2,0,2*L]
def vi(K:Wd)(o:Obj)(S:Int→Bool):List Ext:=[zS K.P 8 [],xInSet o S]
theorem vL{K:Wd}{W:List (Code × Pos)}{m:Nat}{tl:zh}{o:Obj}{S:Int→Bool}(h:Obj.IntSet o S):∀F,Under (cfg K.P K.V W m tl) F→∀e E,nth (vi K o S) e=some E→ExtOk (cfg K.P K.V W m tl) K.w F E:=fun F U=>(AllOk.cons zJ (.cons (.leaf U (xInSet_ok h)) .nil)).nth
theorem b1_r(K:Wd)(b:Bag)(q:SgQ)(S:Int→Bool)(pos:Pos)(α τ γ):lhs 1 [1] (sgR K b 39 (vi K (o_29 K.P K.V) S) q pos 26 (xo 39 29) α τ γ)=rhs 1 (sgE q (sgR K b 39 (vi K (o_29 K.P K.V) S) q pos 26 (xo 39 29) α τ γ) (.bool (S q.c)) []) (sgR K b 39 (vi K (o_29 K.P K.V) S) q pos 26 (xo 39 29) α τ γ):=by
 obtain⟨w,b1,b2,V0,hw⟩:=K
 cases b1<;>kernel_rfl
theorem c6_r(K:Wd)(b:Bag)(q:SgQ)(S:Int→Bool)(pos:Pos)(α τ γ):lhs 1 [1] (sgR K b 111 (vi K (o_101 K.P K.V) S) q pos 26 (xo 111 101) α τ γ)=rhs 1 (sgE q (sgR K b 111 (vi K (o_101 K.P K.V) S) q pos 26 (xo 111 101) α τ γ) (.bool (S q.c)) []) (sgR K b 111 (vi K (o_101 K.P K.V) S) q pos 26 (xo 111 101) α τ γ):=by
 obtain⟨w,b1,b2,V0,hw⟩:=K
 cases b1<;>kernel_rfl
theorem c7_r(K:Wd)(b:Bag)(q:SgQ)(S:Int→Bool)(pos:Pos)(α τ γ):lhs 1 [1] (sgR K b 123 (vi K (o_113 K.P K.V) S) q pos 26 (xo 123 113) α τ γ)=rhs 1 (sgE q (sgR K b 123 (vi K (o_113 K.P K.V) S) q pos 26 (xo 123 113) α τ γ) (.bool (S q.c)) []) (sgR K b 123 (vi K (o_113 K.P K.V) S) q pos 26 (xo 123 113) α τ γ):=by
 obtain⟨w,b1,b2,V0,hw⟩:=K
 cases b1<;>kernel_rfl
theorem c8_r(K:Wd)(b:Bag)(q:SgQ)(S:Int→Bool)(pos:Pos)(α τ γ):lhs 1 [1] (sgR K b 147 (vi K (o_137 K.P K.V) S) q pos 26 (xo 147 137) α τ γ)=rhs 1 (sgE q (sgR K b 147 (vi K (o_137 K.P K.V) S) q pos 26 (xo 147 137) α τ γ) (.bool (S q.c)) []) (sgR K b 147 (vi K (o_137 K.P K.V) S) q pos 26 (xo 147 137) α τ γ):=by
 obtain⟨w,b1,b2,V0,hw⟩:=K
 cases b1<;>kernel_rfl
theorem c9_r(K:Wd)(b:Bag)(q:SgQ)(S:Int→Bool)(pos:Pos)(α τ γ):lhs 1 [1] (sgR K b 165 (vi K (o_155 K.P K.V) S) q pos 26 (xo 165 155) α τ γ)=rhs 1 (sgE q (sgR K b 165 (vi K (o_155 K.P K.V) S) q pos 26 (xo 165 155) α τ γ) (.bool (S q.c)) []) (sgR K b 165 (vi K (o_155 K.P K.V) S) q pos 26 (xo 165 155) α τ γ):=by
 obtain⟨w,b1,b2,V0,hw⟩:=K
 cases b1<;>kernel_rfl
structure TopOk (K:Wd) (S:Nat→Int→Bool) (f:Int→Option Value) (tab:Int→Option Str):Prop where
 s29:Obj.IntSet (o_29 K.P K.V) (S 29)
 s101:Obj.IntSet (o_101 K.P K.V) (S 101)
 s113:Obj.IntSet (o_113 K.P K.V) (S 113)
 s137:Obj.IntSet (o_137 K.P K.V) (S 137)
 s155:Obj.IntSet (o_155 K.P K.V) (S 155)
 d40:Obj.IntDict (o_40 K.P K.V) f
 tab:∀k,match f k with|none=>tab k=none|some v=>∃S t,v=.str S t∧tab k=some S
section
variable {K:Wd} {S:Nat→Int→Bool} {f:Int→Option Value} {tab:Int→Option Str} (T:TopOk K S f tab) {tl:zh} (htl:∀p∈tl,p.2.isFreed=false) (b:Bag) (q:SgQ) (pos:Pos)
include T htl
theorem b1_seg:Seg K (WK ([1,0,0,3],b)) ⟨zx (sgC 39 q.c q.t),sgC 39 q.c q.t,pos,[],(q.y,q.o)::tl⟩ (SgE q tl fun v=>v=.bool (S 29 q.c)):=yT htl (vL T.s29) (b1_r K b q _ pos) zl (fun _=>rfl)
theorem c6_seg:Seg K (WK ([1,0,0,3],b)) ⟨zx (sgC 111 q.c q.t),sgC 111 q.c q.t,pos,[],(q.y,q.o)::tl⟩ (SgE q tl fun v=>v=.bool (S 101 q.c)):=yT htl (vL T.s101) (c6_r K b q _ pos) zl (fun _=>rfl)
theorem c7_seg:Seg K (WK ([1,0,0,3],b)) ⟨zx (sgC 123 q.c q.t),sgC 123 q.c q.t,pos,[],(q.y,q.o)::tl⟩ (SgE q tl fun v=>v=.bool (S 113 q.c)):=yT htl (vL T.s113) (c7_r K b q _ pos) zl (fun _=>rfl)
theorem c8_seg:Seg K (WK ([1,0,0,3],b)) ⟨zx (sgC 147 q.c q.t),sgC 147 q.c q.t,pos,[],(q.y,q.o)::tl⟩ (SgE q tl fun v=>v=.bool (S 137 q.c)):=yT htl (vL T.s137) (c8_r K b q _ pos) zl (fun _=>rfl)
theorem c9_seg:Seg K (WK ([1,0,0,3],b)) ⟨zx (sgC 165 q.c q.t),sgC 165 q.c q.t,pos,[],(q.y,q.o)::tl⟩ (SgE q tl fun v=>v=.bool (S 155 q.c)):=yT htl (vL T.s155) (c9_r K b q _ pos) zl (fun _=>rfl)
end
def X85(K:Wd)(f:Int→Option Value)(S:Str)(tS:Tok):List Ext:=[zS K.P 8 [],xDictGet (o_40 K.P K.V) f S tS,xLower S]
def tp85n:List Nat:=[170,168,3,1,4,6,80,80,80,80,6,0,3,1,0,2,0,80,3,1,3,3,3,0]
def tp85f:List Nat:=[170,168,3,1,4,6,80,80,80,80,6,0,3,1,0,2,1,80,3,1,3,3]
theorem b3_rn(K:Wd)(b:Bag)(q:SgQ)(f:Int→Option Value)(S:Str)(tS:Tok)(pos:Pos)(α τ γ):lhs 1 [1] (sgR K b 85 (X85 K f S tS) q pos 50 tp85n α τ γ) =
  rhs 1 (sgE q (sgR K b 85 (X85 K f S tS) q pos 50 tp85n α τ γ) (.str S ((τ 4).tok 0)) [(.s (low1 q.c),.s S),small S.cps.size,(.ov (f q.c),.ov none),(.b false,.b false)]) (sgR K b 85 (X85 K f S tS) q pos 50 tp85n α τ γ):=by
 obtain⟨w,b1,b2,V0,hw⟩:=K
 cases b1<;>kernel_rfl
theorem b3_rf(K:Wd)(b:Bag)(q:SgQ)(f:Int→Option Value)(S:Str)(tS:Tok)(pos:Pos)(α τ γ):lhs 1 [1] (sgR K b 85 (X85 K f S tS) q pos 45 tp85f α τ γ) =
  rhs 1 (sgE q (sgR K b 85 (X85 K f S tS) q pos 45 tp85f α τ γ) (.str S tS) [(.ov (f q.c),.ov (some (.str S tS))),(.b false,.b false)]) (sgR K b 85 (X85 K f S tS) q pos 45 tp85f α τ γ):=by
 obtain⟨w,b1,b2,V0,hw⟩:=K
 cases b1<;>kernel_rfl
def b3P(tab:Int→Option Str)(c:Nat):Str:=match tab c with
 |some S=>S
 |none=>low1 c
theorem x85_ok{K:Wd}{W:List (Code × Pos)}{m:Nat}{tl:zh}{f:Int→Option Value}{S:Str}{tS:Tok}(h:Obj.IntDict (o_40 K.P K.V) f):∀F,Under (cfg K.P K.V W m tl) F→∀e E,nth (X85 K f S tS) e=some E→ExtOk (cfg K.P K.V W m tl) K.w F E:=fun F U=>
 (AllOk.cons zJ (.cons (.leaf U (xDictGet_ok h)) (.cons (.leaf U xLower_ok) .nil))).nth
theorem b3_seg{K:Wd}{S:Nat→Int→Bool}{f:Int→Option Value}{tab:Int→Option Str}(T:TopOk K S f tab){tl:zh}(htl:∀p∈tl,p.2.isFreed=false)(b:Bag)(q:SgQ)(pos:Pos)(hs:(b3P tab q.c).cps.size≤1000) :
  Seg K (WK ([1,0,0,3],b)) ⟨zx (sgC 85 q.c q.t),sgC 85 q.c q.t,pos,[],(q.y,q.o)::tl⟩ (SgE q tl fun v=>∃t,v=.str (b3P tab q.c) t):=by
 have h:=T.tab q.c
 unfold b3P at hs ⊢
 cases hf:f q.c with
 |none=>
  rw[hf] at h
  dsimp only at h
  rw[h] at hs ⊢
  exact yT htl (x85_ok T.d40) (b3_rn K b q f (low1 q.c) 0 pos) (zc rfl (zc (zk hs) (zc (by rw[hf]) (zc rfl zl)))) (fun τ=>⟨_,rfl⟩)
 |some v=>
  rw[hf] at h
  obtain⟨S,t,rfl,e⟩:=h
  rw[e]
  exact yT htl (x85_ok T.d40) (b3_rf K b q f S t pos) (zc (by rw[hf]) (zc rfl zl)) (fun τ=>⟨_,rfl⟩)
def xSgT(n:Nat)(g:Nat→Str)(S:Str):Ext:=fnX 1 (fun _=>0) (shk [[1,0,0,3]]) sgRd (fun _ _ q=>sgC n q.c q.t) (fun _ _ q=>[(q.y,q.o)]) (fun _ _ q=>[(.s (g q.c),.s S),small (g q.c).cps.size])
 (fun _ _ q _ t=>⟨.ok (.ret (.str S (t.tok 0))),[q.o],[]⟩)
theorem xSgT_ok{K:Wd}{W:List (Code × Pos)}{n m:Nat}{tl:zh}{F:List Frame}{g:Nat→Str}{S:Str}(U:Under (cfg K.P K.V W n tl) F)(htl:∀p∈tl,p.2.isFreed=false)
  (H:∀(b:Bag) (q:SgQ) (pos:Pos),(g q.c).cps.size≤1000→Seg K (WK ([1,0,0,3],b)) ⟨zx (sgC m q.c q.t),sgC m q.c q.t,pos,[],(q.y,q.o)::tl⟩ (SgE q tl fun v=>∃t,v=.str (g q.c) t)):ExtOk (cfg K.P K.V W n tl) K.w F (xSgT m g S):=by
 refine ExtOk.fn U htl WK (fun x=>x.1∈[[1,0,0,3]]) (fun wh x h=>xr h) (fun d c objs x q xs t h=>rfl) ?_
 rintro d ⟨ks,b⟩ q hk hpc _ pos
 have hk:ks=[1,0,0,3]:=by simpa using hk
 subst hk
 have e:=LV.s.inj (hpc _ (.head _))
 have hz:=of_decide_eq_true (LV.b.inj (hpc _ (.tail _ (.head _))))
 refine(H b q pos hz).mono ?_
 rintro s ⟨v,⟨t,rfl⟩,h1,h2,h3⟩
 refine⟨[],.of t,rfl,rfl,?_,h2,?_⟩
 ·rw[h1,e];rfl
 ·rw[h3];rfl
def yH(x:Option Nat):Option Value:=match x with
 |some c=>some (.int (.ofNat c) 0)
 |none=>none
def xSNext(c:Nat):Ext:=bx 140854840060397440712614570271055398118505261004148 35726730154226399204674336116 1 (fun d=>match d with|1=>0 | _=>2) fun d rest o _ xs t=>match o.data with
 | .fields ⟨[.str x tx,.int (.ofNat i) ti]⟩=>match rest with
  |[]=>match d with
   |1=>some ⟨.ok (.ret (.str ⟨#[c]⟩ (t.tok 0))),some (.fields #[.str x tx,.int (.ofNat (i+1)) 0]),[],[],[(.ov (yH x.cps[i]?),.ov (some (.int (.ofNat c) 0)))]⟩
   | _=>match xs with
    |[x1,x2]=>some ⟨.error (.ref x2),some (.fields #[.none,.int (.ofNat i) ti]),[ve,xq x1],[],[(.ov (yH x.cps[i]?),.ov none)]⟩
    | _=>none
  | _=>none
 | _=>none
theorem xSNext_ok{w:World}{tl:zh}{c:Nat}:zH w tl (xSNext c):=by
 refine bx_ok (id:= "str_iterator.__next__") (T:= "str_iterator") (by decide +kernel) (by decide +kernel) PySem.F.slot_str_iterator_next PySem.F.entry_str_iterator_next ?_
 intro prog A s d rest a dd dt sl others hh ha hO
 by_cases hd:d=1
 ·subst hd
  refine⟨[],.of s.toks,rfl,zw,fun r hr hl hp=>?_⟩
  dsimp only at hr
  split at hr<;>try(cases hr;done)
  rename_i x tx i ti
  split at hr<;>try(cases hr;done)
  simp only[Option.some.injEq] at hr
  subst hr
  have hv:x.cps[i]?=some c:=by
   have h:=LV.ov.inj (hp _ (.head _))
   cases hx:x.cps[i]? with
   |none=>rw[hx] at h;cases h
   |some c'=>
    rw[hx] at h
    simp only[yH,Option.some.injEq,Value.int.injEq,Int.ofNat_eq_natCast,Int.natCast_inj,and_true] at h
    rw[h]
  refine⟨PySem.F.args_str_iterator_next_1 _,{ s with heap:=s.heap.update a (Obj.mapFields fun fs=>fs.setIfInBounds 1 (rawInt ((i:Int)+1))),toks:=s.toks+1 },?_,fun more gs=>Eff.upd (tk:=s.toks+1) ha (by simp[Obj.mapFields,rawInt]) rfl⟩
  show wpAny _ _ (field (.ref a) 0 >>= _) _ _ s
  refine wpAny_bind (wpAny_field ha rfl (x:=.str x tx) rfl ?_)
  show wpAny _ _ (field (.ref a) 1 >>= _) _ _ s
  refine wpAny_bind (wpAny_field ha rfl (x:=.int i ti) rfl ?_)
  simp only[Int.toNat_natCast,hv]
  refine wpAny_bind (wpAny_setField ha rfl (by simp) (wpAny_bind (wpAny_mkStr (wpAny_pure ⟨_,rfl,rfl,?_⟩))))
  rfl
 ·refine⟨[s.heap.objs.size,s.heap.objs.size+1],.of 0,by
   split
   ·exact absurd rfl hd
   ·rfl,xO,fun r hr hl hp=>?_⟩
  dsimp only at hr
  split at hr<;>try(cases hr;done)
  rename_i x tx i ti
  split at hr<;>try(cases hr;done)
  split at hr
  ·exact absurd rfl hd
  ·simp only[Option.some.injEq] at hr
   subst hr
   have hv:x.cps[i]?=none:=by
    have h:=LV.ov.inj (hp _ (.head _))
    cases hx:x.cps[i]? with
    |none=>rfl
    |some c'=>rw[hx] at h;cases h
   refine⟨PySem.F.args_str_iterator_next_1 _,{ s with heap:=((s.heap.update a (Obj.mapFields fun fs=>fs.setIfInBounds 0 .none)).push ve).push (xq s.heap.objs.size) },?_,fun more gs=>Eff.upd_push2 (tk:=s.toks) ha (by simp[Obj.mapFields]) rfl rfl rfl⟩
   show wpAny _ _ (field (.ref a) 0 >>= _) _ _ s
   refine wpAny_bind (wpAny_field ha rfl (x:=.str x tx) rfl ?_)
   show wpAny _ _ (field (.ref a) 1 >>= _) _ _ s
   refine wpAny_bind (wpAny_field ha rfl (x:=.int i ti) rfl ?_)
   simp only[Int.toNat_natCast,hv]
   refine wpAny_bind (wpAny_rule (wpAny_bind (wpAny_setField ha rfl (by simp) (wpAny_bind (wpAny_letGo ?_)))))
   show wpAny _ _ (newExc (.type "StopIteration") [] >>= _) _ _ _
   refine wpAny_bind ?_
   simp only[newExc,newTuple]
   refine wpAny_bind (wpAny_newObj_type ?_ (by size_fits))
   refine wpAny_bind (m:=firstArgMember _ _) (wpAny_of_eq (a:=Value.none) (by first|rfl|(simp only[firstArgMember];rfl)) ?_)
   refine wpAny_newObj_type ?_ (by size_fits)
   simp only[raiseNew]
   refine wpAny_bind (wpAny_handled ?_)
   rw[hh]
   refine wpAny_bind (wpAny_pure (wpAny_throw ⟨?_,?_⟩))
   ·simp
   ·simp[ve,xq]
def llFor:Stmt:=sAt (wY (zs 26)) 1
def llEnv(a0:Addr):Env:={ scope:=uc (zs 26),locals:=a0,globals:=3,cells:=[],qual:=⟨#[95,108,97,119,95,108,97,105,100,46,60,108,111,99,97,108,115,62,46]⟩,func:=some 357,code:=.ref 356,frame:=some a0,builtins:=0 }
def zX(a0 it:Addr):Code:=.forLoop (forT llFor) (.ref it) (forB llFor) (forO llFor) (llEnv a0)
def sText:Str:=⟨#[116,101,120,116]⟩
def sRoom:Str:=⟨#[114,111,111,109]⟩
def sWidth:Str:=⟨#[119,105,100,116,104]⟩
def sMaker:Str:=⟨#[109,97,107,101,114]⟩
def wK:Str:=⟨#[115,105,103,110]⟩
def sBar:Str:=⟨#[105,115,95,98,97,114,114,101,100]⟩
structure LlF where
 a0:Addr
 it:Addr
 t:Nat→Tok
 tx:Str
 tT:Tok
 rm:Int
 tR:Tok
 wd:Int
 tW:Tok
inductive LlX where
 |no
 |s (v:Value) (t:Tok)
 |sb (v:Value) (t:Tok) (b:Value) (t2:Tok)
def LlX.ents(P:Params):LlX→List DictEntry
 | .no=>[]
 | .s v t=>[ent P wK t v]
 | .sb v t b t2=>[ent P wK t v,ent P sBar t2 b]
def LlX.n:LlX→Nat
 | .no=>4
 | .s ..=>5
 | .sb ..=>6
def LlF.o(q:LlF)(P:Params)(fa:Addr)(x:LlX):Addr × Obj:=(q.a0,yp ([ent P sText (q.t 0) (.str q.tx q.tT),ent P sRoom (q.t 1) (.int q.rm q.tR),ent P sWidth (q.t 2) (.int q.wd q.tW),ent P sMaker (q.t 3) (.ref fa)]++x.ents P) x.n)
def sIt(x:Str)(tx:Tok)(i:Nat):Obj:=⟨.type "str_iterator", none,.fields #[.str x tx,.int (.ofNat i) 0],#[]⟩
structure LlQ where
 f:Fm
 ps:List Part
 g:LlF
 x:LlX
 i:Nat
 c:Nat
 S:Str
def LlQ.fm(q:LlQ):Fm:=q.f.far.puts (ze q.ps)
def llXs(S:Nat→Int→Bool)(tab:Int→Option Str)(q:LlQ):List Ext:=[xSNext q.c,xSgB 99 c4P,xSgB 92 wC,xSgB 39 (fun c=>S 29 c),xSgB 111 (fun c=>S 101 c),xSgB 123 (fun c=>S 113 c),xSgB 147 (fun c=>S 137 c),xSgB 165 (fun c=>S 155 c),xSgT 85 (b3P tab) q.S]
def llS(K:Wd)(b:Bag)(S:Nat→Int→Bool)(tab:Int→Option Str)(q:LlQ)(pos:Pos):Start:=mkS K (WK ([0,0,3],b)) 9 [] (llXs S tab q)
 ([q.g.o K.P q.f.far.fa q.x,(q.g.it,sIt q.g.tx q.g.tT q.i)]++q.fm.slots K.P K.V) (zX q.g.a0 q.g.it) pos
def LlX.sign(x:LlX)(v:Value)(t:Tok):LlX:=match x with
 | .no=>.s v t
 | .s _ t0=>.s v t0
 | .sb _ t0 b t2=>.sb v t0 b t2
def LlX.bar(x:LlX)(b:Value)(t:Tok):LlX:=match x with
 | .no=>.no
 | .s v t0=>.sb v t0 b t
 | .sb v t0 _ t2=>.sb v t0 b t2
section
variable (K:Wd) (b:Bag) (S:Nat→Int→Bool) (tab:Int→Option Str) (q:LlQ) (pos:Pos) (α:Nat→Addr) (τ:Nat→Ch) (γ:Nat→Nat)
def llR(N:Nat)(tp:List Nat):Option Out:=(llS K b S tab q pos).run α τ γ N tp
def llE(x:LlX)(cur:Sem PySem.Fin)(p:Pos)(pc:Lg):Exp:=⟨cur,zX q.g.a0 q.g.it,p,[],[q.g.o K.P q.f.far.fa x,(q.g.it,sIt q.g.tx q.g.tT (q.i+1))]++q.fm.slots K.P K.V,[],pc⟩
def LlQ.x1:LlX:=q.x.sign (.str ⟨#[q.c]⟩ ((τ 0).tok 0)) ((τ 1).tok 0)
def LlQ.pcN:LV × LV:=(.ov (yH q.g.tx.cps[q.i]?),.ov (some (.int (.ofNat q.c) 0)))
def pcT(t b:Bool):LV × LV:=(.b t,.b b)
def markL:List Value:=[.builtin "lifetime.plain-call#mark"]
def tpLl:List Nat:=[15,1,1,15,17,8,6,17,198,2]
def tpLlM:List Nat:=[15,17,13,476,476,474,13,476,476,474,13,476,476,474]
def tpLlN:List Nat:=tpLl++[1]++tpLlM++[400,13,11,400]
def tpLl11:List Nat:=tpLl++[0,15,6,17,184,3,1]++tpLlM++[414,13,11,414]
def tpLlB:List Nat:=tpLl++[0,15,6,17,184,3,0,15,6,17,78,4,1,15]
def yG(k:List Nat):List Nat:=tpLl++[0,15,6,17,184,3,0,15,6,17,78,4,0,15]++k++[17,8,17,13,476,476,474,13,476,476,474,13,476,476,474,470,13,11,17,6,17,170,9,0,15,470]
def tpC6(d:Nat):List Nat:=[6,17,222,5,d,15]
def tpC7(d:Nat):List Nat:=tpC6 0++[6,17,246,6,d,15]
def tpC8(d:Nat):List Nat:=tpC7 0++[6,17,294,7,d,15]
def tpC9(d:Nat):List Nat:=tpC8 0++[6,17,330,8,d,15]
def LlQ.pcA:Lg:=[pcT (wC q.c) false,pcT (c4P q.c) false,q.pcN]
def LlQ.pcB:Lg:=pcT (S 29 q.c) false::q.pcA
def LlQ.pcS:Lg:=[(.s (b3P tab q.c),.s q.S),small (b3P tab q.c).cps.size]
def llEC(N:Nat)(tp:List Nat)(p:Pos)(x:LlX)(c:Code)(pc:Lg):Exp:=llE K q x (.call c none false markL (kOf (llR K b S tab q pos α τ γ N tp))) p pc
def llECh(N:Nat)(tp:List Nat)(k:Nat)(bar:Bool)(F:Str)(pc:Lg):Exp:=
 llEC K b S tab q pos α τ γ N tp ⟨208,12,208,77⟩ ((q.x1 τ).bar (.bool bar) ((τ (4+k)).tok 0)) (acC q.f.far.fa F ((τ (5+k)).tok 0) q.S ((τ (6+k)).tok 0)) (q.pcS tab++pc++q.pcB S)
end
def selL:List Nat:=[0,1,2,3,4,5,6,7,8]
section
variable (K:Wd) (b:Bag) (S:Nat→Int→Bool) (tab:Int→Option Str) (q:LlQ) (pos:Pos) (α:Nat→Addr) (τ:Nat→Ch) (γ:Nat→Nat)
theorem ll_rN:lhs 9 selL (llR K b S tab q pos α τ γ 42 tpLlN)=rhs 0 (llEC K b S tab q pos α τ γ 42 tpLlN ⟨203,12,203,27⟩ (q.x1 τ) (nlC q.f.far.fa) [pcT (c4P q.c) true,q.pcN]) (llR K b S tab q pos α τ γ 42 tpLlN):=by
 obtain⟨w,b1,b2,V0,hw⟩:=K
 obtain⟨f,ps,g,x,i,c,st⟩:=q
 cases b1<;>cases x<;>kernel_rfl
theorem ll_r11:lhs 9 selL (llR K b S tab q pos α τ γ 52 tpLl11)=rhs 0 (llEC K b S tab q pos α τ γ 52 tpLl11 ⟨205,12,205,34⟩ (q.x1 τ) (adC q.f.far.fa) [pcT (wC q.c) true,pcT (c4P q.c) false,q.pcN]) (llR K b S tab q pos α τ γ 52 tpLl11):=by
 obtain⟨w,b1,b2,V0,hw⟩:=K
 obtain⟨f,ps,g,x,i,c,st⟩:=q
 cases b1<;>cases x<;>kernel_rfl
theorem ll_rB:lhs 9 selL (llR K b S tab q pos α τ γ 40 tpLlB)=rhs 0 (llE K q (q.x1 τ) (.pure (.again (zX q.g.a0 q.g.it))) ⟨206,17,206,34⟩ (pcT (S 29 q.c) true::q.pcA)) (llR K b S tab q pos α τ γ 40 tpLlB):=by
 obtain⟨w,b1,b2,V0,hw⟩:=K
 obtain⟨f,ps,g,x,i,c,st⟩:=q
 cases b1<;>cases x<;>kernel_rfl
theorem ll_r0:lhs 9 selL (llR K b S tab q pos α τ γ 117 (yG (tpC9 0)))=rhs 0 (llECh K b S tab q pos α τ γ 117 (yG (tpC9 0)) 5 false ⟨#[]⟩ [pcT (S 155 q.c) false,pcT (S 137 q.c) false,pcT (S 113 q.c) false,pcT (S 101 q.c) false]) (llR K b S tab q pos α τ γ 117 (yG (tpC9 0))):=by
 obtain⟨w,b1,b2,V0,hw⟩:=K
 obtain⟨f,ps,g,x,i,c,st⟩:=q
 cases b1<;>cases x<;>kernel_rfl
theorem ll_r6:lhs 9 selL (llR K b S tab q pos α τ γ 91 (yG (tpC6 1)))=rhs 0 (llECh K b S tab q pos α τ γ 91 (yG (tpC6 1)) 2 true spc [pcT (S 101 q.c) true]) (llR K b S tab q pos α τ γ 91 (yG (tpC6 1))):=by
 obtain⟨w,b1,b2,V0,hw⟩:=K
 obtain⟨f,ps,g,x,i,c,st⟩:=q
 cases b1<;>cases x<;>kernel_rfl
theorem ll_r7:lhs 9 selL (llR K b S tab q pos α τ γ 100 (yG (tpC7 1)))=rhs 0 (llECh K b S tab q pos α τ γ 100 (yG (tpC7 1)) 3 true spc [pcT (S 113 q.c) true,pcT (S 101 q.c) false]) (llR K b S tab q pos α τ γ 100 (yG (tpC7 1))):=by
 obtain⟨w,b1,b2,V0,hw⟩:=K
 obtain⟨f,ps,g,x,i,c,st⟩:=q
 cases b1<;>cases x<;>kernel_rfl
theorem ll_r8:lhs 9 selL (llR K b S tab q pos α τ γ 109 (yG (tpC8 1)))=rhs 0 (llECh K b S tab q pos α τ γ 109 (yG (tpC8 1)) 4 true spc [pcT (S 137 q.c) true,pcT (S 113 q.c) false,pcT (S 101 q.c) false]) (llR K b S tab q pos α τ γ 109 (yG (tpC8 1))):=by
 obtain⟨w,b1,b2,V0,hw⟩:=K
 obtain⟨f,ps,g,x,i,c,st⟩:=q
 cases b1<;>cases x<;>kernel_rfl
theorem ll_r9:lhs 9 selL (llR K b S tab q pos α τ γ 117 (yG (tpC9 1)))=rhs 0 (llECh K b S tab q pos α τ γ 117 (yG (tpC9 1)) 5 true spc [pcT (S 155 q.c) true,pcT (S 137 q.c) false,pcT (S 113 q.c) false,pcT (S 101 q.c) false]) (llR K b S tab q pos α τ γ 117 (yG (tpC9 1))):=by
 obtain⟨w,b1,b2,V0,hw⟩:=K
 obtain⟨f,ps,g,x,i,c,st⟩:=q
 cases b1<;>cases x<;>kernel_rfl
theorem ll_W:shk [[1,0,0,3]] ((zX q.g.a0 q.g.it,pos)::WK ([0,0,3],b))=some ([1,0,0,3],yj ((zX q.g.a0 q.g.it,pos)::WK ([0,0,3],b))):=by kernel_rfl
end
def pt1(t:Sem PySem.Fin):Option (Sem PySem.Fin):=match t with
 | .point _ k=>some (k ())
 | _=>none
theorem Seg.point{K:Wd}{W:List (Code × Pos)}{t u:Sem PySem.Fin}{code:Code}{pos:Pos}{fs:List Frame}{T:zh}{B:St→Prop}(h:pt1 t=some u)(hs:Seg K W ⟨u,code,pos,fs,T⟩ B):Seg K W ⟨t,code,pos,fs,T⟩ B:=fun s F U R=>by
 cases t<;>simp only[pt1,Option.some.injEq,reduceCtorEq] at h
 rename_i l k
 subst h
 obtain⟨b,s',hb,c,r⟩:=hs s F U R
 exact⟨b,s',hb,.step (step_point ..) c,r⟩
section
variable (K:Wd) (b:Bag) (S:Nat→Int→Bool) (tab:Int→Option Str) (q:LlQ) (pos:Pos) (α:Nat→Addr) (τ:Nat→Ch) (γ:Nat→Nat)
theorem ll_kN:pt1 (kOf (llR K b S tab q pos α τ γ 42 tpLlN) (.ok (.ret .none)))=some (.pure (.again (zX q.g.a0 q.g.it))):=by
 obtain⟨w,b1,b2,V0,hw⟩:=K
 obtain⟨f,ps,g,x,i,c,st⟩:=q
 cases b1<;>cases x<;>kernel_rfl
theorem ll_k11:pt1 (kOf (llR K b S tab q pos α τ γ 52 tpLl11) (.ok (.ret .none)))=some (.pure (.again (zX q.g.a0 q.g.it))):=by
 obtain⟨w,b1,b2,V0,hw⟩:=K
 obtain⟨f,ps,g,x,i,c,st⟩:=q
 cases b1<;>cases x<;>kernel_rfl
theorem ll_k0:pt1 (kOf (llR K b S tab q pos α τ γ 117 (yG (tpC9 0))) (.ok (.ret .none)))=some (.pure (.again (zX q.g.a0 q.g.it))):=by
 obtain⟨w,b1,b2,V0,hw⟩:=K
 obtain⟨f,ps,g,x,i,c,st⟩:=q
 cases b1<;>cases x<;>kernel_rfl
theorem ll_k6:pt1 (kOf (llR K b S tab q pos α τ γ 91 (yG (tpC6 1))) (.ok (.ret .none)))=some (.pure (.again (zX q.g.a0 q.g.it))):=by
 obtain⟨w,b1,b2,V0,hw⟩:=K
 obtain⟨f,ps,g,x,i,c,st⟩:=q
 cases b1<;>cases x<;>kernel_rfl
theorem ll_k7:pt1 (kOf (llR K b S tab q pos α τ γ 100 (yG (tpC7 1))) (.ok (.ret .none)))=some (.pure (.again (zX q.g.a0 q.g.it))):=by
 obtain⟨w,b1,b2,V0,hw⟩:=K
 obtain⟨f,ps,g,x,i,c,st⟩:=q
 cases b1<;>cases x<;>kernel_rfl
theorem ll_k8:pt1 (kOf (llR K b S tab q pos α τ γ 109 (yG (tpC8 1))) (.ok (.ret .none)))=some (.pure (.again (zX q.g.a0 q.g.it))):=by
 obtain⟨w,b1,b2,V0,hw⟩:=K
 obtain⟨f,ps,g,x,i,c,st⟩:=q
 cases b1<;>cases x<;>kernel_rfl
theorem ll_k9:pt1 (kOf (llR K b S tab q pos α τ γ 117 (yG (tpC9 1))) (.ok (.ret .none)))=some (.pure (.again (zX q.g.a0 q.g.it))):=by
 obtain⟨w,b1,b2,V0,hw⟩:=K
 obtain⟨f,ps,g,x,i,c,st⟩:=q
 cases b1<;>cases x<;>kernel_rfl
end
def zQ(rows:List Str):Int:=(rows.map fun r=>(r.length:Int)).sum
structure LnInv (i:Nat) (z:LnSt):Prop where
 n0:0≤z.n
 n3:z.n≤3
 tx:z.tx.length≤i
 rows:z.rows.length≤i
 ok:∀t∈z.tx,TxOk t
 len:zt z.tx+zQ z.rows≤4*i
def SignOk(tab:Int→Option Str)(c:Nat):Prop:=∃sk:SK,b3P tab c=sk.str∧(sk≠.s0→sk.last≠32)
def SignQ(S:Nat→Int→Bool)(tab:Int→Option Str)(c:Nat):Prop:=c4P c=false→wC c=false→S 29 c=false→SignOk tab c
def vK(S:Nat→Int→Bool)(c:Nat):Bool:=S 101 c || S 113 c || S 137 c || S 155 c
def zq(S:Nat→Int→Bool)(tab:Int→Option Str)(wd:Int)(z:LnSt)(c:Nat):LnSt:=
 if c4P c then ⟨0,[],z0 z.n z.tx z.rows⟩
 else if wC c then ⟨z.n,z.tx++[(spc,⟨#[]⟩)],z.rows⟩
 else if S 29 c then z
 else w2 wd z (if vK S c then spc else ⟨#[]⟩) (b3P tab c)
structure FmZ (f0 f:Fm) (ps:List Part) (rl:List (Str × Tok)) (z:LnSt):Prop where
 same:FmSame f0 f
 xs:f.c.xs=ze ps
 rw:f.rows=za rl
 n:f.q.n=z.n
 tx:txs ps=z.tx
 rows:rl.map (·.1)=z.rows
def LlT(K:Wd)(f:Fm)(ps:List Part)(g:LlF)(x:LlX)(i:Nat):zh:=([g.o K.P f.far.fa x,(g.it,sIt g.tx g.tT i)]++f.far.slots K.P K.V)++zb ps
theorem xu(r:List Str):0≤zQ r:=by
 unfold zQ
 induction r with
 |nil=>simp
 |cons p t ih=>simp only[List.map_cons,List.sum_cons];omega
theorem rowsLen_mem{r:List Str}{s:Str}(h:s∈r):(s.length:Int)≤zQ r:=by
 unfold zQ
 induction r with
 |nil=>cases h
 |cons p t ih=>
  simp only[List.map_cons,List.sum_cons]
  have:=xu t
  unfold zQ at this
  rcases List.mem_cons.mp h with rfl|h
  ·omega
  ·have:=ih h;omega
theorem TxOk.len{t:Str × Str}(h:TxOk t):(t.1.length:Int)+t.2.length≤4:=by
 obtain⟨h1,sk,h2,_⟩:=h
 have e1:t.1.length≤1:=by rcases h1 with h|h<;>rw[h]<;>decide
 have e2:t.2.length≤3:=by rw[h2];cases sk<;>simp[SK.str,Str.length]
 omega
theorem txSmall_of{tx:List (Str × Str)}(h:∀t∈tx,TxOk t):yA tx=true:=by
 unfold yA
 rw[List.all_eq_true]
 intro t ht
 have:=(h t ht).len
 simp only[Bool.and_eq_true,decide_eq_true_eq]
 omega
theorem fold_cps:∀(l:List Str) (a:Array Nat),(l.foldl (fun acc p=>acc++p.cps) a).toList=a.toList++l.flatMap (·.cps.toList)
 |[],a=>by simp
 |x::r,a=>by rw[List.foldl_cons,fold_cps r];simp
theorem uI:∀l:List Str,(Txt.join ⟨#[]⟩ l).cps.toList=l.flatMap (·.cps.toList)
 |[]=>rfl
 |[x]=>by simp[Txt.join,Builtin.Str.glued]
 |x::y::r=>by
  have:=fold_cps r (x.cps++y.cps)
  simp[Txt.join,Builtin.Str.glued,this]
theorem wH(tx:List (Str × Str)):(zV tx).cps.toList=tx.flatMap fun p=>p.1.cps.toList++p.2.cps.toList:=by
 unfold zV
 rw[uI,List.flatMap_map]
 simp[cat]
theorem xn(tx:List (Str × Str)):((zV tx).length:Int)=zt tx:=by
 have h:(zV tx).length=(zV tx).cps.toList.length:=by simp[Str.length]
 rw[h,wH]
 clear h
 induction tx with
 |nil=>rfl
 |cons p t ih=>
  have e:zt (p::t)=((p.1.length:Int)+p.2.length)+zt t:=by simp[zt]
  rw[e,←ih,List.flatMap_cons,List.length_append,List.length_append]
  simp[Str.length]
theorem yM(a b:List Str):zQ (a++b)=zQ a+zQ b:=by
 unfold zQ;rw[List.map_append,List.sum_append]
theorem cat_len(x y:Str):(cat x y).length=x.length+y.length:=by simp[cat,Str.length]
theorem vB(n:Int)(tx:List (Str × Str))(rows:List Str):zQ (z0 n tx rows)≤zQ rows+zt tx∧(z0 n tx rows).length≤rows.length+1:=by
 have h1:=uC tx
 have h2:=zP tx
 have one:∀s:Str,zQ [s]=s.length:=fun s=>by simp[zQ]
 have e:=xn (zT tx)
 unfold z0
 split
 ·split
  ·cases hl:rows.getLast? with
   |none=>
    have:rows=[]:=by simpa using hl
    subst this
    refine⟨?_,by simp⟩
    dsimp only
    rw[one,e]
    simp[zQ];exact h1
   |some R=>
    obtain⟨l,rfl⟩:∃l,rows=l++[R]:=by
     rw[List.getLast?_eq_some_iff] at hl;exact hl
    dsimp only
    rw[List.dropLast_concat,yM,yM,one,one,cat_len]
    exact⟨by omega,by simp⟩
  ·rw[yM,one,e]
   exact⟨by omega,by simp⟩
 ·exact⟨by omega,by omega⟩
theorem TxOk.mk'{tab:Int→Option Str}{c:Nat}(h:SignOk tab c){F:Str}(hF:F=spc∨F=⟨#[]⟩):TxOk (F,b3P tab c):=⟨hF,h⟩
theorem LnInv.step{S:Nat→Int→Bool}{tab:Int→Option Str}{wd:Int}{i:Nat}{z:LnSt}{c:Nat}(I:LnInv i z)(h:SignQ S tab c):LnInv (i+1) (zq S tab wd z c):=by
 obtain⟨n0,n3,tx,rows,ok,len⟩:=I
 have hr0:=xu z.rows
 have ht0:=zP z.tx
 have e4:(4*((i+1:Nat):Int))=4*i+4:=by omega
 unfold zq
 split
 ·have hn:=vB z.n z.tx z.rows
  refine⟨Int.le_refl 0,(by decide:(0:Int)≤3),Nat.zero_le _,?_,fun t ht=>by simp at ht,?_⟩
  ·show (z0 _ _ _).length≤_
   omega
  ·show zt []+zQ (z0 _ _ _)≤_
   have:zt []=0:=rfl
   omega
 ·split
  ·refine⟨n0,n3,by simp;omega,Nat.le_succ_of_le rows,fun t ht=>?_,?_⟩
   ·rcases List.mem_append.mp ht with ht|ht
    ·exact ok t ht
    ·rw[List.mem_singleton] at ht;subst ht
     exact⟨.inl rfl,.s0,rfl,fun h=>absurd rfl h⟩
   ·show zt (z.tx++_)+zQ z.rows≤_
    rw[z9]
    have:zt [(spc,(⟨#[]⟩:Str))]=1:=by simp[zt,spc,Str.length]
    omega
  ·split
   ·exact⟨n0,n3,Nat.le_succ_of_le tx,Nat.le_succ_of_le rows,ok,by omega⟩
   ·rename_i g1 g2 g3
    have h:=h (by simpa using g1) (by simpa using g2) (by simpa using g3)
    have hF:(if vK S c then spc else (⟨#[]⟩:Str))=spc∨(if vK S c then spc else (⟨#[]⟩:Str))=⟨#[]⟩:=by split<;>simp
    generalize (if vK S c then spc else (⟨#[]⟩:Str))=F at hF
    have hT:=TxOk.mk' h hF
    have hT':=TxOk.mk' h (F:=spc) (.inl rfl)
    have l1:=hT.len
    have l2:=hT'.len
    generalize b3P tab c=B at hT hT' l1 l2
    have all:∀t∈z.tx++[(F,B)],TxOk t:=fun t ht=>by
     rcases List.mem_append.mp ht with ht|ht
     ·exact ok t ht
     ·rw[List.mem_singleton] at ht;subst ht;exact hT
    have o1:zt [(F,B)]≤4:=by simpa [zt] using l1
    have o2:zt [(spc,B)]≤4:=by simpa [zt] using l2
    have plain:LnInv (i+1) ⟨z.n,z.tx++[(F,B)],z.rows⟩:=⟨n0,n3,by simp;omega,Nat.le_succ_of_le rows,all,by
     show zt (z.tx++_)+zQ z.rows≤_
     rw[z9];omega⟩
    unfold w2
    split
    ·cases hj:z4 (xh (z.tx++[(F,B)])) z.tx.length with
     |some j=>
      dsimp only
      have hd:zt ((z.tx++[(F,B)]).take j)+zt ((z.tx++[(F,B)]).drop j)=zt z.tx+zt [(F,B)]:=by rw[←z9,List.take_append_drop,z9]
      refine⟨Int.le_refl 0,(by decide:(0:Int)≤3),?_,?_,fun t ht=>all t (List.mem_of_mem_drop ht),?_⟩
      ·show ((z.tx++[(F,B)]).drop j).length≤_
       rw[List.length_drop];simp;omega
      ·show (z.rows++[_]).length≤_
       simp;omega
      ·show zt ((z.tx++[(F,B)]).drop j)+zQ (z.rows++[zV ((z.tx++[(F,B)]).take j)])≤_
       rw[yM]
       have:zQ [zV ((z.tx++[(F,B)]).take j)]=zt ((z.tx++[(F,B)]).take j):=by rw[←xn];simp[zQ]
       omega
     |none=>
      dsimp only
      split
      ·have hn:=vB z.n z.tx z.rows
       refine⟨Int.le_refl 0,(by decide:(0:Int)≤3),by simp,?_,fun t ht=>?_,?_⟩
       ·show (z0 _ _ _).length≤_
        omega
       ·rw[List.mem_singleton] at ht;subst ht;exact hT'
       ·show zt [(spc,B)]+zQ (z0 _ _ _)≤_
        omega
      ·exact plain
    ·exact plain
theorem Fm.puts_self{f:Fm}{xs:Array Value}(h:f.c.xs=xs):f.far.puts xs=f.far:=by
 obtain⟨fa,fd,la,⟨a,d,xs',ep⟩,q,wd,t,fe,rows,le,m1,m2⟩:=f
 dsimp only at h
 subst h;rfl
theorem wg:∀p∈([]:zh),p.2.isFreed=false:=fun p h=>by cases h
theorem ll_exts{K:Wd}{S:Nat→Int→Bool}{f:Int→Option Value}{tab:Int→Option Str}(T:TopOk K S f tab){q:LlQ}{W:List (Code × Pos)}{m:Nat}:∀F,Under (cfg K.P K.V W m []) F→∀e E,nth (llXs S tab q) e=some E→ExtOk (cfg K.P K.V W m []) K.w F E:=fun F U=>
 (AllOk.cons (.leaf U xSNext_ok) (.cons (xZ U wg fun b q pos=>c4_seg wg b q pos) (.cons (xZ U wg fun b q pos=>c11_seg wg b q pos) (.cons (xZ U wg fun b q pos=>b1_seg T wg b q pos) (.cons (xZ U wg fun b q pos=>c6_seg T wg b q pos)
  (.cons (xZ U wg fun b q pos=>c7_seg T wg b q pos) (.cons (xZ U wg fun b q pos=>c8_seg T wg b q pos) (.cons (xZ U wg fun b q pos=>c9_seg T wg b q pos) (.cons (xSgT_ok U wg fun b q pos h=>b3_seg T wg b q pos h) .nil))))))))).nth
theorem wW{K:Wd}{b:Bag}{S:Nat→Int→Bool}{fd:Int→Option Value}{tab:Int→Option Str}(T:TopOk K S fd tab){q:LlQ}{pos:Pos}(hps:q.f.c.xs=ze q.ps){N:Nat}{tp:List Nat}
  {cur:(Nat→Addr)→(Nat→Ch)→(Nat→Nat)→Sem PySem.Fin} {x:(Nat→Ch)→LlX} {p:Pos} {pc:Lg} (hr:∀α τ γ,lhs 9 selL (llR K b S tab q pos α τ γ N tp)=rhs 0 (llE K q (x τ) (cur α τ γ) p pc) (llR K b S tab q pos α τ γ N tp)) (hpc:Lg.Ok pc) :
  Seg K (WK ([0,0,3],b)) ⟨zx (zX q.g.a0 q.g.it),zX q.g.a0 q.g.it,pos,[],LlT K q.f q.ps q.g q.x q.i⟩ (fun s=>∃α τ γ,s=⟨cur α τ γ,zX q.g.a0 q.g.it,p,[],LlT K q.f q.ps q.g (x τ) (q.i+1)⟩):=by
 have h:=Seg.run (K:=K) (llS K b S tab q pos) (tl:=[]) rfl rfl (ll_exts T) _ selL hr (by decide) rfl (by decide) (fun _ _ _=>hpc) (fun _ _ _=>rfl)
 have h2:=Seg.frame (zb q.ps) (zB _) h
 rw[List.append_nil] at h2
 have e:(llS K b S tab q pos).T++zb q.ps=LlT K q.f q.ps q.g q.x q.i:=by
  unfold LlT llS LlQ.fm
  rw[Fm.puts_self hps];rfl
 dsimp only at h2
 rw[e] at h2
 refine h2.mono ?_
 rintro s ⟨s',⟨α,τ,γ,_,rfl⟩,rfl⟩
 refine⟨α,τ,γ,?_⟩
 unfold llE LlT LlQ.fm
 dsimp only
 rw[Fm.puts_self hps,List.append_nil]
def LlB(K:Wd)(f0:Fm)(g:LlF)(i:Nat)(z:LnSt)(s:St):Prop:=∃f ps rl x p,FmZ f0 f ps rl z∧s=⟨.pure (.again (zX g.a0 g.it)),zX g.a0 g.it,p,[],LlT K f ps g x i⟩
theorem wj{K:Wd}{b:Bag}{f0 f:Fm}{ps:List Part}{g:LlF}{x:LlX}{i:Nat}{p:Pos}{c:Code}{k:Result→Sem PySem.Fin}{z:LnSt}(h0:FmSame f0 f)(hk:pt1 (k (.ok (.ret .none)))=some (.pure (.again (zX g.a0 g.it))))
  (h:∀b',Seg K (WK ([1,0,0,3],b')) ⟨zx c,c,p,[],f.far.slots K.P K.V++zb ps⟩ (ChE K f z)) :
  Seg K (WK ([0,0,3],b)) ⟨.call c none false markL k,zX g.a0 g.it,p,[],LlT K f ps g x i⟩ (LlB K f0 g i z):=by
 have eW:=W_of (ll_W b ⟨f,ps,g,x,i,0,⟨#[]⟩⟩ p)
 dsimp only at eW
 have h2:=Seg.frame [g.o K.P f.far.fa x,(g.it,sIt g.tx g.tT i)] (fun p hp=>by
  simp only[List.mem_cons,List.not_mem_nil,or_false] at hp
  rcases hp with rfl|rfl<;>rfl) (h (yj ((zX g.a0 g.it,p)::WK ([0,0,3],b))))
 rw[←eW] at h2
 refine Seg.call rfl (Seg.perm (a:=⟨_,_,_,[],_⟩) ?_ h2) ?_
 ·unfold LlT
  rw[List.append_assoc]
  exact List.perm_append_comm
 ·rintro s ⟨s',⟨g',ps',rl',e1,e2,e3,e4,e5,e6,e7,e8,e9⟩,rfl⟩
  refine⟨e8,.ok (.ret .none),e7,Seg.point hk ?_⟩
  have sm:FmSame f0 g':=⟨e1.fa.trans h0.fa,e1.fd.trans h0.fd,e1.la.trans h0.la,e1.ca.trans h0.ca,e1.cd.trans h0.cd,e1.wd.trans h0.wd⟩
  refine Seg.perm (T:=LlT K g' ps' g x i) ?_ (Seg.refl ⟨g',ps',rl',x,p,⟨sm,e2,e3,e4,e5,e6⟩,rfl⟩)
  show List.Perm (s'.T++_) _
  rw[e9]
  have:f.far.fa=g'.far.fa:=by show f.fa+363=g'.fa+363;rw[e1.fa]
  rw[this]
  unfold LlT
  rw[List.append_assoc [g.o K.P g'.far.fa x,(g.it,sIt g.tx g.tT i)]]
  exact List.perm_append_comm
theorem nl_che{K:Wd}{f:Fm}{R:List Str}{s:St}(h:NlE K f R s):ChE K f ⟨0,[],R⟩ s:=by
 obtain⟨g,rl,e1,e2,e3,e4,e5,e6,e7,e8⟩:=h
 exact⟨g,[],rl,e1,e2,e4,e3,rfl,e5,e6,e7,by rw[e8];simp[zb]⟩
section
variable {K:Wd} {b:Bag} {S:Nat→Int→Bool} {fd:Int→Option Value} {tab:Int→Option Str} {f0 f:Fm} {ps:List Part} {rl:List (Str × Tok)} {z:LnSt} {i c:Nat}
theorem rs_le(Z:FmZ f0 f ps rl z)(I:LnInv i z)(hi:i≤22):∀p∈rl,p.1.length≤1000:=fun p hp=>by
 have h1:p.1∈z.rows:=by rw[←Z.rows];exact List.mem_map_of_mem hp
 have h2:=rowsLen_mem h1
 have h3:=I.len
 have h4:=zP z.tx
 omega
theorem rn_le(Z:FmZ f0 f ps rl z)(I:LnInv i z)(hi:i≤22):rl.length≤22:=by
 have h1:=I.rows
 rw[←Z.rows,List.length_map] at h1
 omega
theorem ps_le(Z:FmZ f0 f ps rl z)(I:LnInv i z)(hi:i≤22):ps.length≤22:=by
 have h1:=I.tx
 rw[←Z.tx] at h1
 unfold txs at h1
 rw[List.length_map] at h1
 omega
theorem txLen_le(Z:FmZ f0 f ps rl z)(I:LnInv i z)(hi:i≤22):zt z.tx≤88:=by
 have h3:=I.len
 have h4:=xu z.rows
 omega
theorem norm1_ok{tx:List (Str × Str)}(h:∀t∈tx,TxOk t):∀t∈zT tx,TxOk t:=fun t ht=>by
 unfold zT at ht
 split at ht
 ·rw[List.mem_singleton] at ht;subst ht
  exact⟨.inr rfl,.s0,rfl,fun h=>absurd rfl h⟩
 ·split at ht
  ·exact h t (List.dropLast_subset _ ht)
  ·exact h t ht
theorem norm1_lenL(tx:List (Str × Str)):(zT tx).length≤tx.length+1:=by
 unfold zT
 split
 ·simp
 ·split
  ·simp;omega
  ·omega
theorem nlH_of(Z:FmZ f0 f ps rl z)(I:LnInv i z)(hi:i≤22){ps2:List Part}(h:txs ps2=zT (txs ps)):NlH f ps2 rl:=by
 have h1:=uC (txs ps)
 have h2:=zP (zT (txs ps))
 have h3:=txLen_le Z I hi
 have h4:=I.n0
 have h5:=I.n3
 have h6:=ps_le Z I hi
 have h7:=norm1_lenL (txs ps)
 have h8:(txs ps2).length=ps2.length:=by simp[txs]
 have h9:(txs ps).length=ps.length:=by simp[txs]
 have h10:=xn (zT (txs ps))
 rw[Z.tx] at h1 h2 h7 h10
 refine⟨?_,?_,?_,?_,?_,?_,rs_le Z I hi⟩
 ·rw[h,Z.tx];exact txSmall_of (norm1_ok I.ok)
 ·rw[h,Z.tx] at h8;rw[Z.tx] at h9;omega
 ·rw[h,Z.tx,Z.n];omega
 ·rw[h,Z.tx,Z.n];omega
 ·rw[h,Z.tx];omega
 ·have:=rn_le Z I hi;omega
theorem z6{t:Bool}{v:Bool}{l:Lg}(h:t=v)(hl:Lg.Ok l):Lg.Ok (pcT t v::l):=zc (by rw[pcT,h]) hl
theorem ll_turn(T:TopOk K S fd tab){g:LlF}{x:LlX}(hc:g.tx.cps[i]?=some c)(hs:SignQ S tab c)(Z:FmZ f0 f ps rl z)(I:LnInv i z)(hi:i≤21){pos:Pos} :
  Seg K (WK ([0,0,3],b)) ⟨zx (zX g.a0 g.it),zX g.a0 g.it,pos,[],LlT K f ps g x i⟩ (LlB K f0 g (i+1) (zq S tab f0.wd z c)):=by
 let q:LlQ:=⟨f,ps,g,x,i,c,b3P tab c⟩
 have hN:Lg.Ok [q.pcN]:=zc (by show LV.ov (yH g.tx.cps[i]?)=_;rw[hc];rfl) zl
 have hps:q.f.c.xs=ze q.ps:=Z.xs
 have hz:f.q.n=z.n:=Z.n
 have hrl:=Z.rows
 have htx:=Z.tx
 unfold zq
 cases h4:c4P c with
 |true=>
  rw[if_pos rfl]
  refine(wW T hps (ll_rN K b S tab q pos) (z6 h4 hN)).trans ?_
  rintro s ⟨α,τ,γ,rfl⟩
  refine wj Z.same (ll_kN K b S tab q pos α τ γ) fun b'=>?_
  have h:=wQ (K:=K) (x:=([1,0,0,3],b')) (f:=f) (ps:=ps) (rl:=rl) (by simp[xy]) Z.xs Z.rw (fun ps2 h=>nlH_of Z I (by omega) h) (by have:=ps_le Z I (by omega);omega) (pos:=⟨203,12,203,27⟩)
  rw[hz,htx,hrl] at h
  exact h.mono fun s hs=>nl_che hs
 |false=>
  rw[if_neg (by simp)]
  cases h11:wC c with
  |true=>
   rw[if_pos rfl]
   refine(wW T hps (ll_r11 K b S tab q pos) (z6 h11 (z6 h4 hN))).trans ?_
   rintro s ⟨α,τ,γ,rfl⟩
   refine wj Z.same (ll_k11 K b S tab q pos α τ γ) fun b'=>?_
   have h:=trans_seg (K:=K) (b:=b') (f:=f) (ps:=ps) (rl:=rl) Z.rw (by have:=ps_le Z I (by omega);omega) (pos:=⟨205,12,205,34⟩)
   rw[hz,htx,hrl,Fm.puts_self Z.xs] at h
   exact h
  |false=>
   rw[if_neg (by simp)]
   have hA:Lg.Ok q.pcA:=z6 h11 (z6 h4 hN)
   cases hb:S 29 c with
   |true=>
    rw[if_pos rfl]
    refine(wW T hps (ll_rB K b S tab q pos) (z6 hb hA)).mono ?_
    rintro s ⟨α,τ,γ,rfl⟩
    exact⟨f,ps,rl,_,_,Z,rfl⟩
   |false=>
    rw[if_neg (by simp)]
    have hs:=hs h4 h11 hb
    have hB:Lg.Ok (q.pcB S):=z6 hb hA
    have hsm:(b3P tab c).cps.size≤1000:=by
     obtain⟨sk,e,_⟩:=hs
     rw[e];cases sk<;>simp[SK.str]
    have hS:Lg.Ok (q.pcS tab):=zc rfl (zc (zk hsm) zl)
    have chunk:∀(F:Str) (tF tS:Tok),(F=spc∨F=⟨#[]⟩)→∀b',Seg K (WK ([1,0,0,3],b')) ⟨zx (acC f.far.fa F tF (b3P tab c) tS),acC f.far.fa F tF (b3P tab c) tS,⟨208,12,208,77⟩,[],f.far.slots K.P K.V++zb ps⟩ (ChE K f (w2 f0.wd z F (b3P tab c))):=fun F tF tS hF b'=>by
     have hT:TxOk (F,b3P tab c):=⟨hF,hs⟩
     have hl:=hT.len
     have h:=chunk_seg (K:=K) (b:=b') (q:=⟨f,ps,F,tF,b3P tab c,tS,ps.length⟩) (rl:=rl) ⟨rfl,Z.xs,Z.rw,fun t ht=>by
      rcases List.mem_append.mp ht with ht|ht
      ·rw[htx] at ht;exact I.ok t ht
      ·rw[List.mem_singleton] at ht;subst ht;exact hT,txSmall_of fun t ht=>by
      rcases List.mem_append.mp ht with ht|ht
      ·rw[htx] at ht;exact I.ok t ht
      ·rw[List.mem_singleton] at ht;subst ht;exact hT,by have:=ps_le Z I (by omega);show ps.length≤39;omega,by show 0≤f.q.n;rw[hz];exact I.n0,by
      show f.q.n+zt (txs ps++[(F,b3P tab c)]) < 100
      rw[z9,hz,htx]
      have h1:=txLen_le Z I (by omega)
      have h2:=I.n3
      have h3:zt [(F,b3P tab c)]=(F.length:Int)+(b3P tab c).length:=by simp[zt]
      have h4:=hl
      dsimp only at h4
      omega,by have:=rn_le Z I (by omega);omega,rs_le Z I (by omega)⟩ (pos:=⟨208,12,208,77⟩)
     dsimp only at h
     rw[Fm.puts_self Z.xs,hz,htx,hrl,Z.same.wd] at h
     exact h
    unfold vK
    cases h6:S 101 c with
    |true=>
     rw[if_pos (by simp)]
     refine(wW T hps (ll_r6 K b S tab q pos) (Lg.Ok.app (Lg.Ok.app hS (z6 h6 zl)) hB)).trans ?_
     rintro s ⟨α,τ,γ,rfl⟩
     exact wj Z.same (ll_k6 K b S tab q pos α τ γ) (chunk _ _ _ (.inl rfl))
    |false=>
     cases h7:S 113 c with
     |true=>
      rw[if_pos (by simp)]
      refine(wW T hps (ll_r7 K b S tab q pos) (Lg.Ok.app (Lg.Ok.app hS (z6 h7 (z6 h6 zl))) hB)).trans ?_
      rintro s ⟨α,τ,γ,rfl⟩
      exact wj Z.same (ll_k7 K b S tab q pos α τ γ) (chunk _ _ _ (.inl rfl))
     |false=>
      cases h8:S 137 c with
      |true=>
       rw[if_pos (by simp)]
       refine(wW T hps (ll_r8 K b S tab q pos) (Lg.Ok.app (Lg.Ok.app hS (z6 h8 (z6 h7 (z6 h6 zl)))) hB)).trans ?_
       rintro s ⟨α,τ,γ,rfl⟩
       exact wj Z.same (ll_k8 K b S tab q pos α τ γ) (chunk _ _ _ (.inl rfl))
      |false=>
       cases h9:S 155 c with
       |true=>
        rw[if_pos (by simp)]
        refine(wW T hps (ll_r9 K b S tab q pos) (Lg.Ok.app (Lg.Ok.app hS (z6 h9 (z6 h8 (z6 h7 (z6 h6 zl))))) hB)).trans ?_
        rintro s ⟨α,τ,γ,rfl⟩
        exact wj Z.same (ll_k9 K b S tab q pos α τ γ) (chunk _ _ _ (.inl rfl))
       |false=>
        rw[if_neg (by simp)]
        refine(wW T hps (ll_r0 K b S tab q pos) (Lg.Ok.app (Lg.Ok.app hS (z6 h9 (z6 h8 (z6 h7 (z6 h6 zl))))) hB)).trans ?_
        rintro s ⟨α,τ,γ,rfl⟩
        exact wj Z.same (ll_k0 K b S tab q pos α τ γ) (chunk _ _ _ (.inr rfl))
end
def tpLlE:List Nat:=[15,1,0,15,21]
theorem ll_rE(K:Wd)(b:Bag)(S:Nat→Int→Bool)(tab:Int→Option Str)(q:LlQ)(pos:Pos)(α τ γ):lhs 9 [2,4,5,6,7,8,9,10] (llR K b S tab q pos α τ γ 5 tpLlE) =
  rhs 2 ⟨.pure (.done .next),(eo (llR K b S tab q pos α τ γ 5 tpLlE)).code,(eo (llR K b S tab q pos α τ γ 5 tpLlE)).pos,[],q.g.o K.P q.f.far.fa q.x::q.fm.slots K.P K.V,[],[(.ov (yH q.g.tx.cps[q.i]?),.ov none)]⟩ (llR K b S tab q pos α τ γ 5 tpLlE):=by
 obtain⟨w,b1,b2,V0,hw⟩:=K
 obtain⟨f,ps,g,x,i,c,st⟩:=q
 cases b1<;>cases x<;>kernel_rfl
def LlD(K:Wd)(f0:Fm)(g:LlF)(z:LnSt)(s:St):Prop:=∃f ps rl x,FmZ f0 f ps rl z∧s.cur=.pure (.done .next)∧s.fs=[]∧s.T=g.o K.P f.far.fa x::(f.far.slots K.P K.V++zb ps)
theorem ll_loop{K:Wd}{b:Bag}{S:Nat→Int→Bool}{fd:Int→Option Value}{tab:Int→Option Str}(T:TopOk K S fd tab){f0:Fm}{g:LlF}(hn:g.tx.cps.size≤22)(hok:∀c∈g.tx.cps.toList,SignQ S tab c) :
  ∀(n i:Nat) (f:Fm) (ps:List Part) (rl:List (Str × Tok)) (x:LlX) (z:LnSt) (pos:Pos),i+n=g.tx.cps.size→FmZ f0 f ps rl z→LnInv i z→
   Seg K (WK ([0,0,3],b)) ⟨zx (zX g.a0 g.it),zX g.a0 g.it,pos,[],LlT K f ps g x i⟩ (LlD K f0 g ((g.tx.cps.toList.drop i).foldl (zq S tab f0.wd) z))
 |0,i,f,ps,rl,x,z,pos,hi,Z,I=>by
  let q:LlQ:=⟨f,ps,g,x,i,0,⟨#[]⟩⟩
  have hnone:g.tx.cps[i]?=none:=by simp;omega
  have hpc:Lg.Ok [((.ov (yH q.g.tx.cps[q.i]?),.ov none):LV × LV)]:=zc (by show LV.ov (yH g.tx.cps[i]?)=_;rw[hnone];rfl) zl
  have h:=Seg.run (K:=K) (llS K b S tab q pos) (tl:=[]) rfl rfl (ll_exts T) _ [2,4,5,6,7,8,9,10] (ll_rE K b S tab q pos) (by decide) rfl (by decide) (fun _ _ _=>hpc) (fun _ _ _=>rfl)
  have h2:=Seg.frame (zb ps) (zB _) h
  rw[List.append_nil] at h2
  have hps:q.f.c.xs=ze q.ps:=Z.xs
  have e:(llS K b S tab q pos).T++zb ps=LlT K f ps g x i:=by
   unfold LlT llS LlQ.fm
   rw[Fm.puts_self hps];rfl
  dsimp only at h2
  rw[e] at h2
  have ed:g.tx.cps.toList.drop i=[]:=by rw[List.drop_eq_nil_iff];simp;omega
  rw[ed]
  refine h2.mono ?_
  rintro s ⟨s',⟨α,τ,γ,_,rfl⟩,rfl⟩
  refine⟨f,ps,rl,x,Z,rfl,rfl,?_⟩
  show ((_::q.fm.slots K.P K.V)++[])++zb ps=_
  unfold LlQ.fm
  rw[Fm.puts_self hps,List.append_nil];rfl
 |n+1,i,f,ps,rl,x,z,pos,hi,Z,I=>by
  have hlt:i < g.tx.cps.size:=by omega
  have hc:g.tx.cps[i]?=some g.tx.cps[i]:=by simp[hlt]
  have hs:=hok g.tx.cps[i] (by rw[Array.mem_toList_iff];exact Array.getElem_mem hlt)
  have ed:g.tx.cps.toList.drop i=g.tx.cps[i]::g.tx.cps.toList.drop (i+1):=by
   rw[List.drop_eq_getElem_cons (by simpa using hlt)];simp
  rw[ed,List.foldl_cons]
  refine(ll_turn (b:=b) T hc hs Z I (by omega)).trans ?_
  rintro s ⟨f',ps',rl',x',p',Z',rfl⟩
  exact Seg.again rfl (ll_loop T hn hok n (i+1) f' ps' rl' x' _ p' (by omega) Z' (I.step hs))
def wA(α:Nat→Addr)(j:Nat):Addr:=α j+363
theorem farA_of{α:Nat→Addr}(h:∀j,363≤α j):α=wA fun j=>α j - 363:=funext fun j=>(Nat.sub_add_cancel (h j)).symm
theorem Seg.goF{K:Wd}{W:List (Code × Pos)}{X:List Ext}{n na m:Nat}{tp:List Nat}{T tl:zh}{cur:Sem PySem.Fin}{code:Code}{pos:Pos}{fs:List Frame}
  (hX:∀F,Under (cfg K.P K.V W m tl) F→∀e E,nth X e=some E→ExtOk (cfg K.P K.V W m tl) K.w F E)
  (r:(Nat→Addr)→(Nat→Ch)→(Nat→Nat)→Option Out) (hr:∀α τ γ,r α τ γ=exec (cfg K.P K.V W m tl) X (wA α) τ γ n tp (T++tl) 0 0 [] 0 [] [] cur code pos fs)
  (pc:(Nat→Addr)→(Nat→Ch)→(Nat→Nat)→Lg) (h:∀α τ γ,vE (r α τ γ)=wE (pc α τ γ) na (r α τ γ)) (hpc:∀α τ γ,Lg.Ok (pc α τ γ)) (hT:T.length=m) (hm:0 < m) :
  Seg K W ⟨cur,code,pos,fs,T++tl⟩ fun b=>∃α τ γ,b=⟨(eo (r α τ γ)).cur,(eo (r α τ γ)).code,(eo (r α τ γ)).pos,(eo (r α τ γ)).fs,(eo (r α τ γ)).T⟩:=fun s F U R=>by
 have O:=cfg_ok (V:=K.V) (W:=W) (n:=m) (tl:=tl) K.hw hm
 have U':Under (cfg K.P K.V W m tl) F:=U.under rfl
 have R0:Rel (cfg K.P K.V W m tl) (T++tl) [] s:=Rel.cfg (C:=cfg K.P K.V [] 1 []) rfl R
 obtain⟨α,τ,γ,_,_,_,hf,H⟩:=soundN O U' (hX F U') n tp (T++tl) 0 0 [] 0 [] [] cur code pos fs s (fun _=>363) (fun _=>.of 0) (fun _=>0) R0 ⟨T,rfl,by rw[hT];rfl⟩ 363 (RB.size R) (fun _=>Nat.le_refl _)
 have ea:=farA_of hf
 generalize (fun j=>α j - 363)=α' at ea
 subst ea
 have h1:=h α' τ γ
 have hr1:=hr α' τ γ
 generalize hz:r α' τ γ=z at h1 hr1
 cases z with
 |none=>simp[vE,wE] at h1
 |some o=>
  simp only[vE,wE,Prod.mk.injEq,Option.some.injEq,and_true] at h1
  obtain⟨h1,h2,h3,h4⟩:=h1
  obtain⟨s',c,R',S',K',f,ol⟩:=H o hr1.symm (Lg.ok_of h1) (by rw[h3];exact hpc α' τ γ)
  rw[h2] at R'
  refine⟨_,s',⟨α',τ,γ,rfl⟩,?_,?_,K',?_⟩
  all_goals rw[hz]
  ·exact c
  ·exact Rel.cfg (C:=cfg K.P K.V W m tl) rfl R'
  ·exact ol
structure LaQ where
 tx:Str
 tT:Tok
 rm:Int
 tR:Tok
 wd:Int
 tW:Tok
 d:Addr
 o:Obj
def laC(q:LaQ):Code:=.call (.ref 357) ⟨[.str q.tx q.tT,.int q.rm q.tR,.int q.wd q.tW],[]⟩
def laS(K:Wd)(b:Bag)(q:LaQ)(pos:Pos):Start:=mkS K (WK ([0,3],b)) 1 [] [] [(q.d,q.o)] (laC q) pos
def tpLa1:List Nat:=[714,712,3,1,3,1,3,1,4,6,3,3,476,476,0,476,476,476,476,476,476,0,476,476,476,476,476,476,476,476,476,476,476,476,476,476,476,476,476,474,476,476,7,476,7,476,476,474,358,0,358,356,9,4,9,4,9,4,9,4,9,4,4,9,9,7,476,476,474,0,7,476,7,476,7,476,476,474,7,476,5,2,5,9,9,7,476,476,474,0,7,476,7,476,7,476,476,474,7,476,5,2,5,6,0,9,0,0,9,7,476,476,474,0,7,476,7,476,7,476,476,474,7,476,5,2,5,9,9,7,476,476,474,0,7,476,7,476,7,476,476,474,7,476,5,2,5,9,7,476,476,474,0,7,476,7,476,7,476,476,474,7,476,5,2,5,6,9,644,644,0,644,644,644,644,644,644,0,644,644,644,644,644,644,644,644,644,644,15,644,15,644,644,642,518,0,518,516,502,17,8,17,8,4,17,17,15,644,644,642,0,15,644,15,644,15,644,644,642,15,644,13,6,13,518,516,6,0,492]
def uG(K:Wd)(b:Bag)(q:LaQ)(pos:Pos)(α:Nat→Addr)(τ:Nat→Ch)(γ:Nat→Nat):Option Out:=(laS K b q pos).run (wA α) τ γ 355 tpLa1
theorem la_r1(K:Wd)(b:Bag)(q:LaQ)(pos:Pos)(α τ γ):vE (uG K b q pos α τ γ)=wE [] 8 (uG K b q pos α τ γ)∧(eo (uG K b q pos α τ γ)).cur=.stack (kst (uG K b q pos α τ γ))∧(eo (uG K b q pos α τ γ)).T.length=9:=by
 obtain⟨w,b1,b2,V0,hw⟩:=K
 cases b1<;>exact⟨by kernel_rfl,by kernel_rfl,by kernel_rfl⟩
def tpAi:List Nat:=[518,516,502,3,1,3,1,4,3,3,1,644,644,642,1,0,518,516,6,0,492]
def laF(K:Wd)(b:Bag)(q:LaQ)(pos:Pos)(α:Nat→Addr)(τ:Nat→Ch)(γ:Nat→Nat):Option Out:=
 (mkS K (WK ([0,3],b)) 1 [] [fakeX 0 .none] [(wA α 6,z5 K.V (wA α 5) #[] 0)] (.call (.ref 259) ⟨[.ref (wA α 6),.int q.rm q.tR],[]⟩) pos).run (fun j=>wA α (7+j)) τ γ 37 tpAi
theorem la_fk(K:Wd)(b:Bag)(q:LaQ)(pos:Pos)(α τ γ):(eo (uG K b q pos α τ γ)).cur=.stack (kst (laF K b q pos α τ γ))∧Fast.tw10703107870728634244 (stk (uG K b q pos α τ γ) (WK ([0,3],b)))=stk (uG K b q pos α τ γ) (WK ([0,3],b)):=by
 obtain⟨w,b1,b2,V0,hw⟩:=K
 cases b1<;>exact⟨by kernel_rfl,by kernel_rfl⟩
theorem la_fs(K:Wd)(b:Bag)(q:LaQ)(pos:Pos)(α τ γ)(B:List (Code × Pos))(h:Fast.tw10703107870728634244 B=B)(hB:stk (uG K b q pos α τ γ) (WK ([0,3],b))=B):kst (laF K b q pos α τ γ) B=kst (laF K b q pos α τ γ) []:=by
 obtain⟨w,b1,b2,V0,hw⟩:=K
 cases b1
 all_goals (
  conv=>lhs;unfold laF Start.run;rw[exec_eq];whnf
  simp only[h,bne_self_eq_false,Bool.false_eq_true,if_false]
  subst hB
  kernel_rfl)
theorem la_st(K:Wd)(b:Bag)(q:LaQ)(pos:Pos)(α τ γ):kst (laF K b q pos α τ γ) (stk (uG K b q pos α τ γ) (WK ([0,3],b)))=kst (laF K b q pos α τ γ) []:=
 la_fs K b q pos α τ γ _ (la_fk K b q pos α τ γ).2 rfl
def xStrIter:Ext:=⟨0,fun _=>1,false,fun _ c _ _ _ xs _=>match c with
 | .call (.builtin id) ⟨[.str x t],[]⟩=>match idB id 29827162783706237342122734964 with
  |true=>match xs with
   |[y]=>some ⟨.ok (.ret (.ref y)),[],[sIt x t 0],[],[(.b (x.cps.all (· < 128)),.b false)]⟩
   | _=>none
  |false=>none
 | _=>none⟩
theorem xStrIter_ok{w:World}{tl:zh}:zH w tl xStrIter:=by
 intro prog s d c wh objs gs hm hg _ _
 refine⟨[s.heap.objs.size],.of 0,rfl,yo,fun r hr hl hp=>?_⟩
 simp only[xStrIter] at hr
 split at hr<;>try(cases hr;done)
 rename_i id x t
 split at hr<;>try(cases hr;done)
 rename_i hid
 have hid:=zv hid (s:= "str.__iter__") (by decide +kernel)
 subst hid
 simp only[Option.some.injEq] at hr
 subst hr
 have e:=LV.b.inj (hp _ (.head _))
 refine⟨{ s with heap:=s.heap.push (sIt x t 0) },codeAny_call_builtin PySem.F.slot_str_iter.plain PySem.F.entry_str_iter (PySem.F.slot_str_iter.check _ _ _ _ _ _ _ _ (typeIs_str s x t) (PySem.F.args_str_iter_1 _) ?_),Eff.push (tk:=s.toks) rfl⟩
 show wpAny _ _ (newFields (if (true && x.cps.all (· < 128))=true then "str_ascii_iterator" else "str_iterator") [.str x t,rawInt 0] >>= fun r=>ret r) _ _ s
 rw[e]
 refine wpAny_bind (wpAny_newObj_type ?_)
 exact wpAny_pure ⟨rfl,rfl⟩
def laTk(q:LaQ)(τ₀ τ:Nat→Ch)(i:Nat):Tok:=match i with
 |0=>(τ₀ 11).tok 0
 |1=>q.tW
 |2=>(τ₀ 13).tok 0
 |3=>(τ₀ 3).tok 0
 |4=>(τ₀ 17).tok 0
 |5=>(τ₀ 15).tok 0
 |6=>(τ₀ 19).tok 0
 |7=>(τ₀ 4).tok 0
 |8=>(τ₀ 21).tok 0
 | _=>(τ 2).tok 0
def laFm(q:LaQ)(m1 m2:Option Addr)(α₀:Nat→Addr)(τ₀ τ:Nat→Ch):Fm:=⟨α₀ 2,wA α₀ 1,wA α₀ 4,⟨α₀ 6,wA α₀ 5,#[],0⟩,⟨q.rm,(τ₀ 25).tok 0,q.tR,1⟩,q.wd,laTk q τ₀ τ,6,#[],0,m1,m2⟩
def laFt(τ₀ τ:Nat→Ch)(i:Nat):Tok:=match i with
 |0=>(τ₀ 0).tok 0
 |1=>(τ₀ 1).tok 0
 |2=>(τ₀ 2).tok 0
 | _=>(τ 3).tok 0
def laG(q:LaQ)(α₀ α:Nat→Addr)(τ₀ τ:Nat→Ch):LlF:=⟨wA α₀ 0,α 2,laFt τ₀ τ,q.tx,q.tT,q.rm,q.tR,q.wd,q.tW⟩
def tpLa2:List Nat:=[17,644,0,644,0,19,19,0,19,644,15,15,644,19,9,19,9,19,9,19,19,0,19,19,19,19,4,644,0,15,644,21,0,21,15,15,7,15,9,7,476,476,474,0,7,476,7,476,7,476,476,474,7,476,5,2,5,3,1,3,1,0,23]
section
variable (K:Wd) (b:Bag) (q:LaQ) (pos:Pos) (α₀:Nat→Addr) (τ₀:Nat→Ch) (γ₀:Nat→Nat) (α:Nat→Addr) (τ:Nat→Ch) (γ:Nat→Nat)
def laS2:Start:=mkC K (WK ([0,3],b)) 9 [] [xStrIter] (eo (uG K b q pos α₀ τ₀ γ₀)) (kst (laF K b q pos α₀ τ₀ γ₀) [])
def laR2:Option Out:=(laS2 K b q pos α₀ τ₀ γ₀).run α τ γ 103 tpLa2
def uH(a0:Addr):Code:=.func (wY (zs 26)) (llEnv a0)
def laX2:Exp:=⟨.call (zX (wA α₀ 0) (α 2)) none false [] (kOf (laR2 K b q pos α₀ τ₀ γ₀ α τ γ)),uH (wA α₀ 0),⟨201,16,201,20⟩,[],
 [(laG q α₀ α τ₀ τ).o K.P (laFm q none none α₀ τ₀ τ).far.fa .no,(α 2,sIt q.tx q.tT 0)]++((laFm q none none α₀ τ₀ τ).far.slots K.P K.V).take 5++[(q.d,q.o)],[],[(.b (q.tx.cps.all (· < 128)),.b false)]⟩
theorem la_r2:lhs 9 [10,0,8,9,6,4,5,11] (laR2 K b q pos α₀ τ₀ γ₀ α τ γ)=rhs 3 (laX2 K b q pos α₀ τ₀ γ₀ α τ γ) (laR2 K b q pos α₀ τ₀ γ₀ α τ γ):=by
 obtain⟨w,b1,b2,V0,hw⟩:=K
 cases b1<;>kernel_rfl
theorem la_W(a0:Addr):shk [[0,0,3]] ((uH a0,pos)::WK ([0,3],b))=some ([0,0,3],yj ((uH a0,pos)::WK ([0,3],b))):=by kernel_rfl
end
end Mine
end
noncomputable section
open PyProof.Rows PySem PySem.W
open PySem.Builtin.Str (tooLong occurrences partsBetween)
set_option maxRecDepth 100000
set_option maxHeartbeats 0
namespace Mine
theorem rowsArr_values(rl:List (Str × Tok)):za rl=(strValues rl).toArray:=rfl
theorem foldl_lenS(k:Nat):∀(l:List Str) (n:Nat),l.foldl (fun(x:Nat) (y:Str)=>x+y.length+k) n=n+(l.map Str.length).sum+l.length*k
 |[],n=>by simp
 |x::l,n=>by
  rw[List.foldl_cons,foldl_lenS k l,List.map_cons,List.sum_cons,List.length_cons,Nat.succ_mul]
  omega
def joinTok(k:Nat):List (Str × Tok)→Tok
 |[p]=>p.2
 | _=>k
def joinEnd(k:Nat):List (Str × Tok)→Nat
 |[p]=>k
 | _=>k+1
def um(rl:List (Str × Tok))(S:Str):Ext:=⟨1,fun _=>0,false,fun _ c _ objs _ _ t=>match c with
 | .call (.builtin id) ⟨[.str sep ts,.ref a],[]⟩=>match idB id 8028352891401237876 with
  |true=>match objs with
   |[(y,⟨.type T,dd,.seq vs n,sl⟩)]=>match idB T 1970563693 with
    |true=>some ⟨.ok (.ret (.str S (t.tok 0))),[],[],[(.n a,.n y)],[(.a vs,.a (za rl)),(.s (Txt.join sep (rl.map (·.1))),.s S),(.b (decide (((rl.map (·.1)).map Str.length).sum+rl.length*sep.length≤1000)),.b true)]⟩
    |false=>none
   | _=>none
  |false=>none
 | _=>none⟩
theorem w4{w:World}{tl:zh}{rl:List (Str × Tok)}{S:Str}:zH w tl (um rl S):=by
 intro prog s d c wh objs gs hm hg _ _
 refine⟨[],.of (joinTok s.toks rl),rfl,zw,fun r hr hl hp=>?_⟩
 simp only[um] at hr
 split at hr<;>try(cases hr;done)
 rename_i id sep ts a
 split at hr<;>try(cases hr;done)
 rename_i hid
 have hid:=zv hid (s:= "str.join") (by decide +kernel)
 subst hid
 split at hr<;>try(cases hr;done)
 rename_i y T dd vs n sl
 split at hr<;>try(cases hr;done)
 rename_i hT
 have hT:=zv hT (s:= "list") (by decide +kernel)
 subst hT
 simp only[Option.some.injEq] at hr
 subst hr
 have e1:a=y:=LV.n.inj (hl _ (.head _))
 have e2:vs=za rl:=LV.a.inj (hp _ (.head _))
 have e3:Txt.join sep (rl.map (·.1))=S:=LV.s.inj (hp _ (.tail _ (.head _)))
 have e4:=of_decide_eq_true (LV.b.inj (hp _ (.tail _ (.tail _ (.head _)))))
 subst e1 e2 e3
 have h1:=hg _ (.head _)
 have hL:s.heap.IsList a (strValues rl).toArray:=⟨_,h1,rfl,n,rfl⟩
 have hfit:Builtin.Str.tooLong ((rl.map (·.1)).toArray.foldl (·+·.length+sep.length) 0)=false:=by
  rw[List.foldl_toArray,foldl_lenS]
  refine decide_eq_false (Nat.not_lt.mpr ?_)
  have:=yu
  rw[List.length_map]
  omega
 refine⟨{ s with toks:=joinEnd s.toks rl },zO PySem.F.slot_str_join (typeIs_str s sep ts) PySem.F.entry_str_join (PySem.F.args_str_join_2 _ _) (meets_str_join_list sep ts a rl hfit) ⟨hL,?_⟩,Eff.toks⟩
 have hsz:=joinFit_length hfit
 match rl,hsz with
 |[],hsz=>exact⟨hsz,rfl,rfl⟩
 |[p],hsz=>exact⟨rfl,rfl⟩
 |p::q::r,hsz=>exact⟨hsz,rfl,rfl⟩
def tokd(f:Nat→Tok):List Str→Nat→List (Str × Tok)
 |[],_=>[]
 |x::r,i=>(x,f i)::tokd f r (i+1)
theorem tokd_fst(f:Nat→Tok):∀(l:List Str) (i:Nat),(tokd f l i).map (·.1)=l
 |[],_=>rfl
 |x::r,i=>by simp[tokd,tokd_fst f r]
theorem tokd_from(k:Nat):∀(l:List Str) (i:Nat),strValues (tokd (fun j=>k+j) l i)=strsFrom (k+i) l
 |[],_=>rfl
 |x::r,i=>by
  have:=tokd_from k r (i+1)
  simp only[strValues,tokd,List.map_cons,strsFrom] at this ⊢
  rw[this];rfl
def strL(l:List Str):List Value:=l.map fun s=>.str s 0
theorem strL_inj:∀{l r:List Str},strL l=strL r→l=r
 |[],[],_=>rfl
 |[],_::_,h=>by simp[strL] at h
 | _::_,[],h=>by simp[strL] at h
 |x::l,y::r,h=>by
  simp only[strL,List.map_cons,List.cons.injEq,Value.str.injEq,and_true] at h
  rw[h.1,strL_inj (l:=l) (r:=r) h.2]
def xSplit(rows:List Str):Ext:=⟨0,fun _=>1,false,fun _ c _ _ _ xs t=>match c with
 | .call (.builtin id) ⟨[.str x tx,.str y ty],[]⟩=>match idB id 2165937967108325602676 with
  |true=>match xs with
   |[a]=>some ⟨.ok (.ret (.ref a)),[],[zd (za (tokd t.tok rows 0)) 0],[],[(.lv (strL (Txt.split x y)),.lv (strL rows)),small x.length,(.b (y.length==0),.b false),(.b (decide ((Txt.split x y).length≤1000)),.b true)]⟩
   | _=>none
  |false=>none
 | _=>none⟩
theorem xSplit_ok{w:World}{tl:zh}{rows:List Str}:zH w tl (xSplit rows):=by
 intro prog s d c wh objs gs hm hg _ _
 by_cases hh:∃x tx y ty,c=.call (.builtin "str.split") ⟨[.str x tx,.str y ty],[]⟩
 ·obtain⟨x,tx,y,ty,rfl⟩:=hh
  by_cases hc:(decide (x.length < y.length) || decide (Builtin.Str.strKind x < Builtin.Str.strKind y))=true∨(occurrences x y 0 x.length (x.length+1)).isEmpty=true
  ·have hs:Txt.split x y=[x]:=by
    unfold Txt.split
    rcases hc with hc|hc
    ·rw[if_pos hc]
    ·by_cases h0:(decide (x.length < y.length) || decide (Builtin.Str.strKind x < Builtin.Str.strKind y))=true
     ·rw[if_pos h0]
     ·rw[if_neg h0,if_pos hc]
   refine⟨[s.heap.objs.size],⟨fun _=>tx,fun _=>wB⟩,rfl,yo,fun r hr hl hp=>?_⟩
   simp only[xSplit] at hr
   split at hr<;>try(cases hr;done)
   simp only[Option.some.injEq] at hr
   subst hr
   have e1:Txt.split x y=rows:=strL_inj (LV.lv.inj (hp _ (.head _)))
   have e3:=LV.b.inj (hp _ (.tail _ (.tail _ (.head _))))
   rw[hs] at e1
   subst e1
   obtain⟨raising,htree⟩:=split_sep_tree x y tx ty
   refine⟨{ s with heap:=s.heap.push (zd (za [(x,tx)]) 0) },codeAny_call_builtin PySem.F.slot_str_split.plain PySem.F.entry_str_split (PySem.F.slot_str_split.check _ _ _ _ _ _ _ _ (typeIs_str s x tx) (PySem.F.args_str_split_2 _ _) ?_),Eff.push (tk:=s.toks) rfl⟩
   rw[htree]
   have one:∀(nm:String),wpAny (model prog w) (yf wh).in1 (do rule nm;ret (←newList [.str x tx])) (fun fin s'=>match fin with | .done f=>(Except.ok f:Result)=.ok (.ret (.ref s.heap.objs.size))∧s'={ s with heap:=s.heap.push (zd (za [(x,tx)]) 0) } | .again c'=>c'.quiet=true∧codeAny (model prog w) (yf wh) c' (fun r s₁=>r=.ok (.ret (.ref s.heap.objs.size))∧s₁={ s with heap:=s.heap.push (zd (za [(x,tx)]) 0) }) s') (fun e s'=>(Except.error e:Result)=.ok (.ret (.ref s.heap.objs.size))∧s'={ s with heap:=s.heap.push (zd (za [(x,tx)]) 0) }) s:=fun nm=>
    wpAny_bind (wpAny_rule (wpAny_bind (wpAny_newList (wpAny_pure ⟨rfl,rfl⟩) (by show 1≤sizeLine;have:=yu;omega))))
   by_cases h1:(decide (x.length < y.length) || decide (Builtin.Str.strKind x < Builtin.Str.strKind y))=true
   ·rw[if_pos h1]
    exact one _
   ·rw[if_neg h1,if_neg (by rw[e3];exact Bool.false_ne_true)]
    have h2:=hc.resolve_left h1
    rw[if_pos (by rw[h2];rfl)]
    exact one _
  ·have h1:(decide (x.length < y.length) || decide (Builtin.Str.strKind x < Builtin.Str.strKind y))=false:=by
    rw[Bool.eq_false_iff];exact fun h=>hc (.inl h)
   have h2:(occurrences x y 0 x.length (x.length+1)).isEmpty=false:=by
    rw[Bool.eq_false_iff];exact fun h=>hc (.inr h)
   have hs:Txt.split x y=partsBetween x (occurrences x y 0 x.length (x.length+1)) y.length:=by
    unfold Txt.split
    rw[if_neg (by rw[h1];exact Bool.false_ne_true),if_neg (by rw[h2];exact Bool.false_ne_true)]
   refine⟨[s.heap.objs.size],⟨fun j=>s.toks+j,fun _=>wB⟩,rfl,yo,fun r hr hl hp=>?_⟩
   simp only[xSplit] at hr
   split at hr<;>try(cases hr;done)
   simp only[Option.some.injEq] at hr
   subst hr
   have e1:Txt.split x y=rows:=strL_inj (LV.lv.inj (hp _ (.head _)))
   have e2:=yK hp (.tail _ (.head _))
   have e3:=LV.b.inj (hp _ (.tail _ (.tail _ (.head _))))
   have e4:=of_decide_eq_true (LV.b.inj (hp _ (.tail _ (.tail _ (.tail _ (.head _))))))
   subst e1
   have hz:=yu
   refine⟨_,zO PySem.F.slot_str_split (typeIs_str s x tx) PySem.F.entry_str_split (PySem.F.args_str_split_2 _ _) (meets_str_split_sep x y tx ty h1 e3 h2 e2 (by rw[←hs];omega)) ⟨rfl,rfl⟩,?_⟩
   have e:za (tokd (fun j=>s.toks+j) (Txt.split x y) 0)=(strsFrom s.toks (partsBetween x (occurrences x y 0 x.length (x.length+1)) y.length)).toArray:=by
    rw[rowsArr_values,tokd_from,hs];rfl
   dsimp only
   rw[e]
   exact Eff.push (o:=zd _ 0) rfl
 ·refine⟨[s.heap.objs.size],.of 0,rfl,yo,fun r hr hl hp=>?_⟩
  simp only[xSplit] at hr
  split at hr<;>try(cases hr;done)
  rename_i id x tx y ty
  split at hr<;>try(cases hr;done)
  rename_i hid
  have hid:=zv hid (s:= "str.split") (by decide +kernel)
  subst hid
  exact absurd ⟨x,tx,y,ty,rfl⟩ hh
end Mine
end
noncomputable section
open PyProof.Rows PySem PySem.W
set_option maxRecDepth 100000
set_option maxHeartbeats 0
namespace Mine
structure La3Q where
 q:LaQ
 f:Fm
 ps:List Part
 x:LlX
def sLinesep:Str:=⟨#[108,105,110,101,115,101,112]⟩
def sNL:Str:=⟨#[10]⟩
def strFr(P:Params)(a fa:Addr)(t0 t1 t2:Tok):Addr × Obj:=(a,yp [ent P sSelf t1 (.ref fa),ent P sLinesep t2 (.str sNL t0)] 2)
def tpLa3:List Nat:=[15,13,476,476,474,13,476,476,474,13,476,476,474,372,13,11,372,0,372,370,17,8,17,8,4,17,13,476,476,474,13,476,476,474,13,476,476,474,400,13,11,400]
section
variable (K:Wd) (b:Bag) (z:La3Q) (pos pos3:Pos) (α₀:Nat→Addr) (τ₀:Nat→Ch) (γ₀:Nat→Nat) (α₁:Nat→Addr) (τ₁:Nat→Ch) (γ₁:Nat→Nat) (α:Nat→Addr) (τ:Nat→Ch) (γ:Nat→Nat)
def La3Q.fm(z:La3Q):Fm:=z.f.far.puts (ze z.ps)
def laS3:Start:=⟨cfg K.P K.V (WK ([0,3],b)) 8 [],[],[(laG z.q α₀ α₁ τ₀ τ₁).o K.P z.f.far.fa z.x]++z.fm.slots K.P K.V,[],kOf (laR2 K b z.q pos α₀ τ₀ γ₀ α₁ τ₁ γ₁) (.ok .next),uH (wA α₀ 0),pos3,[]⟩
def vH:Option Out:=(laS3 K b z pos pos3 α₀ τ₀ γ₀ α₁ τ₁ γ₁).run α τ γ 61 tpLa3
def laX3:Exp:=⟨.call (nlC z.f.far.fa) none false markL (kOf (vH K b z pos pos3 α₀ τ₀ γ₀ α₁ τ₁ γ₁ α τ γ)),(eo (vH K b z pos pos3 α₀ τ₀ γ₀ α₁ τ₁ γ₁ α τ γ)).code,(eo (vH K b z pos pos3 α₀ τ₀ γ₀ α₁ τ₁ γ₁ α τ γ)).pos,(eo (vH K b z pos pos3 α₀ τ₀ γ₀ α₁ τ₁ γ₁ α τ γ)).fs,
 strFr K.P (α 0) z.f.far.fa ((τ 0).tok 0) ((τ 1).tok 0) ((τ 2).tok 0)::z.fm.slots K.P K.V,[],[]⟩
theorem la_r3:lhs 8 [0,2,3,4,5,6,7,8] (vH K b z pos pos3 α₀ τ₀ γ₀ α₁ τ₁ γ₁ α τ γ)=rhs 1 (laX3 K b z pos pos3 α₀ τ₀ γ₀ α₁ τ₁ γ₁ α τ γ) (vH K b z pos pos3 α₀ τ₀ γ₀ α₁ τ₁ γ₁ α τ γ):=by
 obtain⟨w,b1,b2,V0,hw⟩:=K
 obtain⟨q,f,ps,x⟩:=z
 cases b1<;>cases x<;>kernel_rfl
theorem la_W3:shk [[0,0,0,3]] (stk (vH K b z pos pos3 α₀ τ₀ γ₀ α₁ τ₁ γ₁ α τ γ) (WK ([0,3],b)))=some ([0,0,0,3],yj (stk (vH K b z pos pos3 α₀ τ₀ γ₀ α₁ τ₁ γ₁ α τ γ) (WK ([0,3],b))))∧hdOk (eo (vH K b z pos pos3 α₀ τ₀ γ₀ α₁ τ₁ γ₁ α τ γ)).fs=true:=by
 obtain⟨w,b1,b2,V0,hw⟩:=K
 obtain⟨q,f,ps,x⟩:=z
 cases b1<;>cases x<;>exact⟨by kernel_rfl,by kernel_rfl⟩
end
def tpLa4:List Nat:=[15,15,13,476,476,474,0,13,476,476,474,13,13,476,11,1,0,9,2,0]
section
variable (K:Wd) (b:Bag) (z:La3Q) (pos pos3:Pos) (α₀:Nat→Addr) (τ₀:Nat→Ch) (γ₀:Nat→Nat) (α₁:Nat→Addr) (τ₁:Nat→Ch) (γ₁:Nat→Nat) (α₃:Nat→Addr) (τ₃:Nat→Ch) (γ₃:Nat→Nat) (g:Fm) (rl:List (Str × Tok)) (S:Str) (rows:List Str) (α:Nat→Addr) (τ:Nat→Ch) (γ:Nat→Nat)
def laS4:Start:=⟨cfg K.P K.V (WK ([0,3],b)) 8 [],[um rl S,xSplit rows],strFr K.P (α₃ 0) g.far.fa ((τ₃ 0).tok 0) ((τ₃ 1).tok 0) ((τ₃ 2).tok 0)::g.far.slots K.P K.V,[],kOf (vH K b z pos pos3 α₀ τ₀ γ₀ α₁ τ₁ γ₁ α₃ τ₃ γ₃) (.ok (.ret .none)),(eo (vH K b z pos pos3 α₀ τ₀ γ₀ α₁ τ₁ γ₁ α₃ τ₃ γ₃)).code,(eo (vH K b z pos pos3 α₀ τ₀ γ₀ α₁ τ₁ γ₁ α₃ τ₃ γ₃)).pos,(eo (vH K b z pos pos3 α₀ τ₀ γ₀ α₁ τ₁ γ₁ α₃ τ₃ γ₃)).fs⟩
def laR4:Option Out:=(laS4 K b z pos pos3 α₀ τ₀ γ₀ α₁ τ₁ γ₁ α₃ τ₃ γ₃ g rl S rows).run α τ γ 36 tpLa4
def laPc4:Lg:=[(.lv (strL (Txt.split S sNL)),.lv (strL rows)),small S.length,(.b (sNL.length==0),.b false),(.b (decide ((Txt.split S sNL).length≤1000)),.b true),
 (.a g.rows,.a (za rl)),(.s (Txt.join sNL (rl.map (·.1))),.s S),(.b (decide (((rl.map (·.1)).map Str.length).sum+rl.length*sNL.length≤1000)),.b true)]
def laX4(r:Option Out):Exp:=⟨.pure (.done (.ret (.ref (α 0)))),(eo r).code,(eo r).pos,[],[(α 0,zd (za (tokd (τ 3).tok rows 0)) 0),(284,zn 124 19 g.m1),(291,zn 127 32 g.m2)],[],laPc4 g rl S rows⟩
theorem la_r4:lhs 8 [0,7,8] (laR4 K b z pos pos3 α₀ τ₀ γ₀ α₁ τ₁ γ₁ α₃ τ₃ γ₃ g rl S rows α τ γ)=rhs 1 (laX4 g rl S rows α τ (laR4 K b z pos pos3 α₀ τ₀ γ₀ α₁ τ₁ γ₁ α₃ τ₃ γ₃ g rl S rows α τ γ)) (laR4 K b z pos pos3 α₀ τ₀ γ₀ α₁ τ₁ γ₁ α₃ τ₃ γ₃ g rl S rows α τ γ):=by
 obtain⟨w,b1,b2,V0,hw⟩:=K
 obtain⟨q,f,ps,x⟩:=z
 cases b1<;>cases x<;>kernel_rfl
end
theorem la_seg1{K:Wd}{b:Bag}{q:LaQ}{pos:Pos}(ha:q.tx.cps.all (· < 128)=false):Seg K (WK ([0,3],b)) ⟨zx (laC q),laC q,pos,[],[(q.d,q.o)]⟩ (fun s=>∃α₀ τ₀ γ₀ α τ γ,
  s=⟨.call (zX (wA α₀ 0) (α 2)) none false [] (kOf (laR2 K b q pos α₀ τ₀ γ₀ α τ γ)),uH (wA α₀ 0),⟨201,16,201,20⟩,[],
   [(laG q α₀ α τ₀ τ).o K.P (laFm q none none α₀ τ₀ τ).far.fa .no,(α 2,sIt q.tx q.tT 0)]++((laFm q none none α₀ τ₀ τ).far.slots K.P K.V).take 5++[(q.d,q.o)]⟩):=by
 refine(Seg.goF (K:=K) (W:=WK ([0,3],b)) (m:=1) (n:=355) (na:=8) (tp:=tpLa1) (tl:=[]) (T:=[(q.d,q.o)]) (X:=[]) yq (uG K b q pos) (fun _ _ _=>rfl) (fun _ _ _=>[]) (fun α τ γ=>(la_r1 K b q pos α τ γ).1) (fun _ _ _=>zl) rfl (by decide)).trans ?_
 rintro s ⟨α₀,τ₀,γ₀,rfl⟩
 have e2:=(la_r1 K b q pos α₀ τ₀ γ₀).2.2
 rw[(la_fk K b q pos α₀ τ₀ γ₀).1]
 refine Seg.stack ?_
 show Seg K (WK ([0,3],b)) ⟨kst _ (stk (uG K b q pos α₀ τ₀ γ₀) (WK ([0,3],b))),_,_,_,_⟩ _
 rw[la_st K b q pos α₀ τ₀ γ₀]
 have h:=Seg.run (K:=K) (laS2 K b q pos α₀ τ₀ γ₀) (tl:=[]) rfl rfl (fun F U=>xi (.leaf U xStrIter_ok)) _ [10,0,8,9,6,4,5,11] (la_r2 K b q pos α₀ τ₀ γ₀) (by decide) e2 (by decide) (fun _ _ _=>zc (by rw[ha]) zl) (fun _ _ _=>rfl)
 rw[List.append_nil] at h
 refine h.mono ?_
 rintro s ⟨α,τ,γ,_,rfl⟩
 refine⟨α₀,τ₀,γ₀,α,τ,γ,?_⟩
 unfold laX2
 rw[List.append_nil]
theorem LnInv.fold{S:Nat→Int→Bool}{tab:Int→Option Str}{wd:Int}:∀(l:List Nat) (i:Nat) (z:LnSt),LnInv i z→(∀c∈l,SignQ S tab c)→LnInv (i+l.length) (l.foldl (zq S tab wd) z)
 |[],i,z,I,_=>I
 |c::r,i,z,I,h=>by
  have:=LnInv.fold (S:=S) (wd:=wd) r (i+1) _ (I.step (S:=S) (wd:=wd) (h c (.head _))) (fun d hd=>h d (.tail _ hd))
  rw[List.foldl_cons,List.length_cons,show i+(r.length+1)=i+1+r.length by omega]
  exact this
def wX(S:Nat→Int→Bool)(tab:Int→Option Str)(cs:List Nat)(rm wd:Int):List Str:=
 z0 (cs.foldl (zq S tab wd) ⟨rm,[],[]⟩).n (cs.foldl (zq S tab wd) ⟨rm,[],[]⟩).tx (cs.foldl (zq S tab wd) ⟨rm,[],[]⟩).rows
def y6(S:Nat→Int→Bool)(tab:Int→Option Str)(cs:List Nat)(rm wd:Int):List Str:=Txt.split (Txt.join sNL (wX S tab cs rm wd)) sNL
theorem sum_rowsLen(r:List Str):(((r.map Str.length).sum:Nat):Int)=zQ r:=by
 unfold zQ
 induction r with
 |nil=>rfl
 |cons x t ih=>simp only[List.map_cons,List.sum_cons];omega
theorem laid_seg{K:Wd}{b:Bag}{S:Nat→Int→Bool}{fd:Int→Option Value}{tab:Int→Option Str}(T:TopOk K S fd tab){q:LaQ}{pos:Pos}{m1 m2:Option Addr}(hd:q.d=284)(ho:q.o=zn 124 19 m1)
  (ha:q.tx.cps.all (· < 128)=false) (hn:q.tx.cps.size≤22) (hok:∀c∈q.tx.cps.toList,SignQ S tab c) (h0:0≤q.rm) (h3:q.rm≤3) :
  Seg K (WK ([0,3],b)) ⟨zx (laC q),laC q,pos,[],[(284,zn 124 19 m1),(291,zn 127 32 m2)]⟩ (fun s=>∃a tk m1' m2',s.cur=.pure (.done (.ret (.ref a)))∧s.fs=[]∧
   s.T=[(a,zd (za (tokd tk (y6 S tab q.tx.cps.toList q.rm q.wd) 0)) 0),(284,zn 124 19 m1'),(291,zn 127 32 m2')]):=by
 have e0:[((284:Addr),zn 124 19 m1),(291,zn 127 32 m2)]=[(q.d,q.o)]++[(291,zn 127 32 m2)]:=by rw[hd,ho];rfl
 rw[e0]
 refine(Seg.frame [((291:Addr),zn 127 32 m2)] (fun p hp=>by rw[List.mem_singleton] at hp;subst hp;rfl) (la_seg1 ha)).trans ?_
 rintro s ⟨s',⟨α₀,τ₀,γ₀,α₁,τ₁,γ₁,rfl⟩,rfl⟩
 let f0:Fm:=laFm q m1 m2 α₀ τ₀ τ₁
 let g:LlF:=laG q α₀ α₁ τ₀ τ₁
 have eW:=W_of (la_W b ⟨201,16,201,20⟩ (wA α₀ 0))
 have I0:LnInv 0 ⟨q.rm,[],[]⟩:=⟨h0,h3,Nat.le_refl _,Nat.le_refl _,fun t ht=>(by cases ht),by simp[zt,zQ]⟩
 have Z0:FmZ f0 f0 [] [] ⟨q.rm,[],[]⟩:=⟨⟨rfl,rfl,rfl,rfl,rfl,rfl⟩,rfl,rfl,rfl,rfl,rfl⟩
 have hL:=ll_loop (K:=K) (b:=yj ((uH (wA α₀ 0),⟨201,16,201,20⟩)::WK ([0,3],b))) T (f0:=f0) (g:=g) hn hok q.tx.cps.size 0 f0 [] [] .no ⟨q.rm,[],[]⟩ ⟨201,16,201,20⟩ (Nat.zero_add _) Z0 I0
 rw[←eW] at hL
 refine Seg.call rfl (Seg.perm (a:=⟨_,_,_,[],_⟩) ?_ hL) ?_
 ·show List.Perm _ (LlT K f0 [] g .no 0)
  unfold LlT
  rw[show zb []=[] from rfl,List.append_nil]
  dsimp only
  rw[hd,ho]
  exact List.Perm.refl _
 ·rintro s ⟨f,ps,rl,x,Z,e1,e2,e3⟩
  refine⟨e2,.ok .next,e1,?_⟩
  rw[List.drop_zero] at Z
  have I:=LnInv.fold (S:=S) (wd:=f0.wd) q.tx.cps.toList 0 ⟨q.rm,[],[]⟩ I0 hok
  have hlen:0+q.tx.cps.toList.length≤22:=by rw[Nat.zero_add,Array.length_toList];exact hn
  have ewd:f0.wd=q.wd:=rfl
  rw[show g.tx=q.tx from rfl] at Z
  rw[ewd] at Z I
  have hrows:wX S tab q.tx.cps.toList q.rm q.wd=z0 (q.tx.cps.toList.foldl (zq S tab q.wd) ⟨q.rm,[],[]⟩).n (q.tx.cps.toList.foldl (zq S tab q.wd) ⟨q.rm,[],[]⟩).tx (q.tx.cps.toList.foldl (zq S tab q.wd) ⟨q.rm,[],[]⟩).rows:=rfl
  have hout:y6 S tab q.tx.cps.toList q.rm q.wd=Txt.split (Txt.join sNL (wX S tab q.tx.cps.toList q.rm q.wd)) sNL:=rfl
  generalize y6 S tab q.tx.cps.toList q.rm q.wd=out at hout ⊢
  generalize wX S tab q.tx.cps.toList q.rm q.wd=R at hrows hout
  generalize q.tx.cps.toList.foldl (zq S tab q.wd) ⟨q.rm,[],[]⟩=zz at Z I hrows
  generalize 0+q.tx.cps.toList.length=n at I hlen
  let z:La3Q:=⟨q,f,ps,x⟩
  have hps:f.far.puts (ze ps)=f.far:=Fm.puts_self Z.xs
  have h3:=Seg.run (K:=K) (laS3 K b z pos ⟨201,16,201,20⟩ α₀ τ₀ γ₀ α₁ τ₁ γ₁) (tl:=[]) rfl rfl yq _ [0,2,3,4,5,6,7,8] (la_r3 K b z pos ⟨201,16,201,20⟩ α₀ τ₀ γ₀ α₁ τ₁ γ₁) (by decide) rfl (by decide) (fun _ _ _=>zl) (fun _ _ _=>rfl)
  have h4:=Seg.frame (zb ps) (zB _) h3
  rw[List.append_nil] at h4
  have hfa:(laFm q none none α₀ τ₀ τ₁).far.fa=f.far.fa:=by show f0.fa+363=f.fa+363;rw[Z.same.fa]
  have eT:(laS3 K b z pos ⟨201,16,201,20⟩ α₀ τ₀ γ₀ α₁ τ₁ γ₁).T++zb ps=s.T:=by
   rw[e3]
   unfold laS3 La3Q.fm
   dsimp only[z]
   rw[hps];rfl
  dsimp only at h4
  rw[eT] at h4
  refine Seg.trans h4 ?_
  rintro s2 ⟨s3,⟨α₃,τ₃,γ₃,_,rfl⟩,rfl⟩
  have hW3:=la_W3 K b z pos ⟨201,16,201,20⟩ α₀ τ₀ γ₀ α₁ τ₁ γ₁ α₃ τ₃ γ₃
  have eW3:=W_of hW3.1
  have hnl:=Seg.frame [strFr K.P (α₃ 0) f.far.fa ((τ₃ 0).tok 0) ((τ₃ 1).tok 0) ((τ₃ 2).tok 0)] (fun p hp=>by rw[List.mem_singleton] at hp;subst hp;rfl)
   (wQ (K:=K) (x:=([0,0,0,3],yj (stk (vH K b z pos ⟨201,16,201,20⟩ α₀ τ₀ γ₀ α₁ τ₁ γ₁ α₃ τ₃ γ₃) (WK ([0,3],b))))) (f:=f) (ps:=ps) (rl:=rl) (by simp[xy]) Z.xs Z.rw (fun ps2 h=>nlH_of Z I hlen h) (by have:=ps_le Z I hlen;omega) (pos:=(eo (vH K b z pos ⟨201,16,201,20⟩ α₀ τ₀ γ₀ α₁ τ₁ γ₁ α₃ τ₃ γ₃)).pos))
  rw[←eW3,Z.n,Z.tx,Z.rows,←hrows] at hnl
  refine Seg.call hW3.2 (Seg.perm (a:=⟨_,_,_,[],_⟩) ?_ hnl) ?_
  ·show List.Perm (((strFr K.P (α₃ 0) f.far.fa ((τ₃ 0).tok 0) ((τ₃ 1).tok 0) ((τ₃ 2).tok 0)::(f.far.puts (ze ps)).slots K.P K.V)++[])++zb ps) _
   rw[hps,List.append_nil,List.cons_append]
   exact(List.perm_append_singleton _ _).symm
  ·rintro s4 ⟨s5,⟨g',rl',d1,d2,d3,d4,d5,d6,d7,d8⟩,rfl⟩
   refine⟨d7,.ok (.ret .none),d6,?_⟩
   have hnl:=vB zz.n zz.tx zz.rows
   rw[←hrows] at hnl
   have hI:=I.len
   have hI2:=I.rows
   have hI3:=zP zz.tx
   have hsum:=sum_rowsLen R
   have hlr:rl'.length=R.length:=by rw[←d5,List.length_map]
   have hjl:(Txt.join sNL R).length≤R.length+(R.map Str.length).sum:=by
    have:(Str.join sNL R).length≤(R.map Str.length).sum+R.length*sNL.length:=StrLaws.join_length_le sNL R
    show (Builtin.Str.glued sNL R).length≤_
    rw[StrLaws.glued_eq_join]
    have e1:sNL.length=1:=rfl
    rw[e1] at this
    omega
   have hpc:Lg.Ok (laPc4 g' rl' (Txt.join sNL R) out):=by
    refine zc (by rw[hout]) (zc (zk (by omega)) (zc rfl (zc ?_ (zc (by rw[d4]) (zc (by rw[d5]) (zc ?_ zl))))))
    ·have hw:=split_weight (Txt.join sNL R) sNL (by decide)
     rw[decide_eq_true (by omega)]
    ·rw[d5,decide_eq_true (by have e1:sNL.length=1:=rfl;rw[e1];omega)]
   have h5:=Seg.run (K:=K) (laS4 K b z pos ⟨201,16,201,20⟩ α₀ τ₀ γ₀ α₁ τ₁ γ₁ α₃ τ₃ γ₃ g' rl' (Txt.join sNL R) out) (tl:=[]) rfl rfl (fun F U=>two_ext (.leaf U w4) (.leaf U xSplit_ok)) _ [0,7,8] (la_r4 K b z pos ⟨201,16,201,20⟩ α₀ τ₀ γ₀ α₁ τ₁ γ₁ α₃ τ₃ γ₃ g' rl' (Txt.join sNL R) out) (by decide) rfl (by decide) (fun _ _ _=>hpc) (fun _ _ _=>rfl)
   rw[List.append_nil] at h5
   have hfa':f.far.fa=g'.far.fa:=by show f.fa+363=g'.fa+363;rw[d1.fa]
   refine Seg.perm (T:=(laS4 K b z pos ⟨201,16,201,20⟩ α₀ τ₀ γ₀ α₁ τ₁ γ₁ α₃ τ₃ γ₃ g' rl' (Txt.join sNL R) out).T) ?_ (h5.mono ?_)
   ·show List.Perm (s5.T++_) _
    rw[d8]
    unfold laS4
    dsimp only
    rw[hfa']
    exact List.perm_append_singleton _ _
   ·rintro s6 ⟨α,τ,γ,_,rfl⟩
    refine⟨α 0,(τ 3).tok,g'.m1,g'.m2,rfl,rfl,?_⟩
    show _++[]=_
    rw[List.append_nil];rfl
def lcC(n:Int)(t:Tok):Code:=.call (.ref 333) ⟨[.int n t],[]⟩
def lcOuts:List (Tok→Value):=(List.range 17).map fun j t=>.int (.ofNat j) t
structure LcQ where
 n:Int
 t:Tok
 y:Addr
 o:Obj
def lcS(K:Wd)(b:Bag)(q:LcQ)(pos:Pos):Start:=mkS K (WK ([4,0,3],b)) 1 [] [zS K.P 12 lcOuts] [(q.y,q.o)] (lcC q.n q.t) pos
def lcR(K:Wd)(b:Bag)(q:LcQ)(pos:Pos)(N:Nat)(tp:List Nat)(α:Nat→Addr)(τ:Nat→Ch)(γ:Nat→Nat):Option Out:=(lcS K b q pos).run α τ γ N tp
def lcE(q:LcQ)(r:Option Out)(v:Value)(pc:Lg):Exp:=⟨.pure (.done (.ret v)),(eo r).code,(eo r).pos,[],[(q.y,q.o)],[],pc⟩
def LcQ.p(q:LcQ):Int:=q.n.fdiv 4
def eqI(a b:Int)(v:Bool):LV × LV:=(.v (.bool (a==b)),.v (.bool v))
def isI(a:Int)(j:Nat)(t:Tok):LV × LV:=(.v (.int a t),.v (.int (.ofNat j) t))
def wN(l:List Int)(j:Nat):Int:=match nth l j with
 |some x=>x
 |none=>0
def lcTop:List Nat:=[666,664,3,1,4,3,1,0,3,1,3,1,0,1]
def tpK0(j:Nat):List Nat:=lcTop++[2,3,1,j+3,5,5,5,0,5,5,0,3,1,0,3,1,j+3,7,7,7,0,7,7,0,1,0,1,0]
def tpK1(j:Nat):List Nat:=lcTop++[1,3,1,0,1,2,3,1,j+3,5,5,5,0,5,5,0]
def tpK2a:List Nat:=lcTop++[1,3,1,0,1,1,3,1,0,1,2,3,1,0,1,2,3,1,0,1,0,1,0]
def tpK2b:List Nat:=lcTop++[1,3,1,0,1,1,3,1,0,1,2,3,1,0,1,1,3,1,0,1,0,1,0,3,1,0,1,0,1,0,1,0]
def tpK3(j:Nat):List Nat:=lcTop++[1,3,1,0,1,1,3,1,0,1,1,3,1,3,3,1,j+3,39,39,39,0,39,39,2*j+5,2*j+5,2*j+5,0,2*j+5,2*j+5,0,3,1,0,3,3,1,j+3,39,39,39,0,39,39,2*j+5,2*j+5,2*j+5,0,2*j+5,2*j+5,0,1,0,1,0]
def lB3:List Int:=[31,172,831,846,6149,6154,8202,8233,8287,8297,12271,64975,65023,65278,65528,917504,917535]
def lL3:List Int:=[3,3,4,3,3,5,7,7,3,8,14,34,18,3,8,3,98]
section
variable (K:Wd) (b:Bag) (q:LcQ) (pos:Pos) (α:Nat→Addr) (τ:Nat→Ch) (γ:Nat→Nat)
theorem lc_r0(j:Nat)(hj:j < 3):lhs 1 [3] (lcR K b q pos 86 (tpK0 j) α τ γ)=rhs 3 (lcE q (lcR K b q pos 86 (tpK0 j) α τ γ) (.int (wN [97,65,64256] j+(q.p.fdiv 3).fmod (wN [26,26,7] j)) ((τ 21).tok 0)) [isI (q.p.fmod 3) j ((τ 19).tok 0),isI (q.p.fmod 3) j ((τ 12).tok 0),eqI (q.n.fmod 4) 0 true]) (lcR K b q pos 86 (tpK0 j) α τ γ):=by
 obtain⟨w,b1,b2,V0,hw⟩:=K
 have:j=0∨j=1∨j=2:=by omega
 rcases this with rfl|rfl|rfl<;>cases b1<;>kernel_rfl
theorem lc_r1'(j:Nat)(hj:j < 4):∃i,∀(α:Nat→Addr) (τ:Nat→Ch) (γ:Nat→Nat),lhs 1 [2] (lcR K b q pos 67 (tpK1 j) α τ γ)=rhs 2 (lcE q (lcR K b q pos 67 (tpK1 j) α τ γ) (.int (wN [32,32,160,8287] j) ((τ i).tok 0)) [isI (q.p.fmod 4) j ((τ 17).tok 0),eqI (q.n.fmod 4) 1 true,eqI (q.n.fmod 4) 0 false]) (lcR K b q pos 67 (tpK1 j) α τ γ):=by
 obtain⟨w,b1,b2,V0,hw⟩:=K
 have:j=0∨j=1∨j=2∨j=3:=by omega
 rcases this with rfl|rfl|rfl|rfl
 ·exact⟨12,fun α τ γ=>by cases b1<;>kernel_rfl⟩
 ·exact⟨13,fun α τ γ=>by cases b1<;>kernel_rfl⟩
 ·exact⟨14,fun α τ γ=>by cases b1<;>kernel_rfl⟩
 ·exact⟨15,fun α τ γ=>by cases b1<;>kernel_rfl⟩
theorem lc_r2a:lhs 1 [1] (lcR K b q pos 76 tpK2a α τ γ)=rhs 1 (lcE q (lcR K b q pos 76 tpK2a α τ γ) (.int (64976+(q.p.fdiv 2).fmod 32) ((τ 25).tok 0)) [eqI (q.p.fmod 2) 0 true,eqI (q.n.fmod 4) 2 true,eqI (q.n.fmod 4) 1 false,eqI (q.n.fmod 4) 0 false]) (lcR K b q pos 76 tpK2a α τ γ):=by
 obtain⟨w,b1,b2,V0,hw⟩:=K
 cases b1<;>kernel_rfl
theorem lc_r2b:lhs 1 [1] (lcR K b q pos 89 tpK2b α τ γ)=rhs 1 (lcE q (lcR K b q pos 89 tpK2b α τ γ) (.int (65533+(q.p.fdiv 2).fmod 3+65536*(q.p.fdiv 6).fmod 17) ((τ 32).tok 0)) [eqI (q.p.fmod 2) 0 false,eqI (q.n.fmod 4) 2 true,eqI (q.n.fmod 4) 1 false,eqI (q.n.fmod 4) 0 false]) (lcR K b q pos 89 tpK2b α τ γ):=by
 obtain⟨w,b1,b2,V0,hw⟩:=K
 cases b1<;>kernel_rfl
theorem lc_r3(j:Nat)(hj:j < 17):lhs 1 [19] (lcR K b q pos 198 (tpK3 j) α τ γ)=rhs 19 (lcE q (lcR K b q pos 198 (tpK3 j) α τ γ) (.int (wN lB3 j+(q.p.fdiv 17).fmod (wN lL3 j)) ((τ 60).tok 0)) [isI (q.p.fmod 17) j ((τ 57).tok 0),isI (q.p.fmod 17) j ((τ 52).tok 0),eqI (q.n.fmod 4) 2 false,eqI (q.n.fmod 4) 1 false,eqI (q.n.fmod 4) 0 false]) (lcR K b q pos 198 (tpK3 j) α τ γ):=by
 obtain⟨w,b1,b2,V0,hw⟩:=K
 have:j=0∨j=1∨j=2∨j=3∨j=4∨j=5∨j=6∨j=7∨j=8∨j=9∨j=10∨j=11∨j=12∨j=13∨j=14∨j=15∨j=16:=by omega
 rcases this with rfl|rfl|rfl|rfl|rfl|rfl|rfl|rfl|rfl|rfl|rfl|rfl|rfl|rfl|rfl|rfl|rfl<;>cases b1<;>kernel_rfl
end
def zE(n:Int):Int:=
 if n.fmod 4=0 then wN [97,65,64256] ((n.fdiv 4).fmod 3).toNat+((n.fdiv 4).fdiv 3).fmod (wN [26,26,7] ((n.fdiv 4).fmod 3).toNat)
 else if n.fmod 4=1 then wN [32,32,160,8287] ((n.fdiv 4).fmod 4).toNat
 else if n.fmod 4=2 then (if (n.fdiv 4).fmod 2=0 then 64976+((n.fdiv 4).fdiv 2).fmod 32 else 65533+((n.fdiv 4).fdiv 2).fmod 3+65536*((n.fdiv 4).fdiv 6).fmod 17)
 else wN lB3 ((n.fdiv 4).fmod 17).toNat+((n.fdiv 4).fdiv 17).fmod (wN lL3 ((n.fdiv 4).fmod 17).toNat)
theorem yd(a b:Int)(hb:0 < b):0≤a.fmod b∧a.fmod b < b:=by
 rw[Int.fmod_eq_emod_of_nonneg a (Int.le_of_lt hb)]
 exact⟨Int.emod_nonneg _ (by omega),Int.emod_lt_of_pos _ hb⟩
theorem lc_exts{K:Wd}{W:List (Code × Pos)}{m:Nat}{tl:zh}:∀F,Under (cfg K.P K.V W m tl) F→∀e E,nth [zS K.P 12 lcOuts] e=some E→ExtOk (cfg K.P K.V W m tl) K.w F E:=fun F U=>(AllOk.cons zJ .nil).nth
theorem yP{a b:Int}{v:Bool}{l:Lg}(h:(a==b)=v)(hl:Lg.Ok l):Lg.Ok (eqI a b v::l):=zc (by unfold eqI;rw[h]) hl
theorem isI_ok{a:Int}{j:Nat}{t:Tok}{l:Lg}(h:a=(j:Int))(hl:Lg.Ok l):Lg.Ok (isI a j t::l):=zc (by unfold isI;rw[h];rfl) hl
def LcE(q:LcQ)(tl:zh)(s:St):Prop:=∃t,s.cur=.pure (.done (.ret (.int (zE q.n) t)))∧s.fs=[]∧s.T=(q.y,q.o)::tl
theorem lc_run{K:Wd}{b:Bag}{q:LcQ}{pos:Pos}{N na i:Nat}{tp:List Nat}{v:(Nat→Ch)→Tok}{x:Int}{pc:(Nat→Ch)→Lg}{tl:zh}(htl:∀p∈tl,p.2.isFreed=false)
  (hr:∀α τ γ,lhs 1 [i] (lcR K b q pos N tp α τ γ)=rhs na (lcE q (lcR K b q pos N tp α τ γ) (.int x (v τ)) (pc τ)) (lcR K b q pos N tp α τ γ)) (hpc:∀τ,Lg.Ok (pc τ)) (hx:x=zE q.n) :
  Seg K (WK ([4,0,3],b)) ⟨zx (lcC q.n q.t),lcC q.n q.t,pos,[],(q.y,q.o)::tl⟩ (LcE q tl):=by
 have h:=Seg.run (K:=K) (lcS K b q pos) (tl:=[]) rfl rfl lc_exts _ [i] hr (by simp[ym,notIn]) rfl (by decide) (fun _ τ _=>hpc τ) (fun _ _ _=>rfl)
 have h2:=Seg.frame tl htl h
 rw[List.append_nil] at h2
 refine h2.mono ?_
 rintro s ⟨s',⟨α,τ,γ,_,rfl⟩,rfl⟩
 exact⟨v τ,by rw[←hx];rfl,rfl,rfl⟩
theorem vw{a b:Int}(hb:0 < b):((a.fmod b).toNat:Int)=a.fmod b:=Int.toNat_of_nonneg (yd a b hb).1
theorem lc_seg{K:Wd}{b:Bag}{q:LcQ}{pos:Pos}{tl:zh}(htl:∀p∈tl,p.2.isFreed=false):Seg K (WK ([4,0,3],b)) ⟨zx (lcC q.n q.t),lcC q.n q.t,pos,[],(q.y,q.o)::tl⟩ (LcE q tl):=by
 have h4:=yd q.n 4 (by decide)
 have hne:∀{a b:Int},a≠b→(a==b)=false:=fun h=>by simpa using h
 have heq:∀{a b:Int},a=b→(a==b)=true:=fun h=>by simpa using h
 by_cases c0:q.n.fmod 4=0
 ·have h3:=yd q.p 3 (by decide)
  have e3:=vw (a:=q.p) (b:=3) (by decide)
  generalize hj:(q.p.fmod 3).toNat=j at e3
  exact lc_run htl (lc_r0 K b q pos · · · j (by omega)) (fun τ=>isI_ok e3.symm (isI_ok e3.symm (yP (heq c0) zl))) (by unfold zE;rw[if_pos c0];unfold LcQ.p at hj ⊢;rw[hj])
 ·by_cases c1:q.n.fmod 4=1
  ·have h3:=yd q.p 4 (by decide)
   have e3:=vw (a:=q.p) (b:=4) (by decide)
   generalize hj:(q.p.fmod 4).toNat=j at e3
   have:∃i,∀α τ γ,lhs 1 [2] (lcR K b q pos 67 (tpK1 j) α τ γ)=rhs 2 (lcE q (lcR K b q pos 67 (tpK1 j) α τ γ) (.int (wN [32,32,160,8287] j) ((τ i).tok 0)) [isI (q.p.fmod 4) j ((τ 17).tok 0),eqI (q.n.fmod 4) 1 true,eqI (q.n.fmod 4) 0 false]) (lcR K b q pos 67 (tpK1 j) α τ γ):=lc_r1' K b q pos j (by omega)
   obtain⟨i,hi⟩:=this
   exact lc_run htl hi (fun τ=>isI_ok e3.symm (yP (heq c1) (yP (hne c0) zl))) (by unfold zE;rw[if_neg c0,if_pos c1];unfold LcQ.p at hj;rw[hj])
  ·by_cases c2:q.n.fmod 4=2
   ·by_cases d:q.p.fmod 2=0
    ·exact lc_run htl (lc_r2a K b q pos) (fun τ=>yP (heq d) (yP (heq c2) (yP (hne c1) (yP (hne c0) zl)))) (by unfold zE;rw[if_neg c0,if_neg c1,if_pos c2];unfold LcQ.p at d ⊢;rw[if_pos d])
    ·exact lc_run htl (lc_r2b K b q pos) (fun τ=>yP (hne d) (yP (heq c2) (yP (hne c1) (yP (hne c0) zl)))) (by unfold zE;rw[if_neg c0,if_neg c1,if_pos c2];unfold LcQ.p at d ⊢;rw[if_neg d])
   ·have h3:=yd q.p 17 (by decide)
    have e3:=vw (a:=q.p) (b:=17) (by decide)
    generalize hj:(q.p.fmod 17).toNat=j at e3
    exact lc_run htl (lc_r3 K b q pos · · · j (by omega)) (fun τ=>isI_ok e3.symm (isI_ok e3.symm (yP (hne c2) (yP (hne c1) (yP (hne c0) zl))))) (by unfold zE;rw[if_neg c0,if_neg c1,if_neg c2];unfold LcQ.p at hj ⊢;rw[hj])
theorem codeAny_fn{prog:Program}{w:World}{A:Around}{s:Shared}{id:String}{B:Builtin}{args:Args}{R:Result→Shared→Prop}(hk:builtinKind id=none)(hp:plainId id=true)(he:entryFor table id=some B)(ha:argsOk id args)
  (h:wpAny (model prog w) A.in1 (B args) (fun fin s'=>match fin with | .done f=>R (.ok f) s' | .again c'=>c'.quiet=true∧codeAny (model prog w) A c' R s') (fun e s'=>R (.error e) s') s):codeAny (model prog w) A (.call (.builtin id) args) R s:=by
 refine codeAny_call_builtin hp he ?_
 simp only[checkBuiltinCall,hk]
 cases hsig:Manifest.signature? id with
 |none=>exact wpAny_pure h
 |some sig=>
  simp only[argsOk,hsig] at ha
  show wpAny _ A.in1 (Bind.checkArgs id sig args) _ _ s
  rw[ha];exact wpAny_pure h
theorem codeAny_fnG{prog:Program}{w:World}{A:Around}{s:Shared}{id:String}{B:Builtin}{args:Args}{R:Result→Shared→Prop}{m:Made}(hk:builtinKind id=none)(hp:plainId id=true)(he:entryFor table id=some B)(ha:argsOk id args)
  (g:Gives (B args) m) (h:m.post (fun v s'=>R (.ok (.ret v)) s') s):codeAny (model prog w) A (.call (.builtin id) args) R s:=codeAny_fn hk hp he ha (g prog w A R s h)
def xChr(c:Nat):Ext:=⟨0,fun _=>0,false,fun _ cd _ _ _ _ t=>match cd with
 | .call (.builtin id) ⟨[.int n tn],[]⟩=>match idB id 7563620 with
  |true=>some ⟨.ok (.ret (.str ⟨#[c]⟩ (t.tok 0))),[],[],[],[(.i n,.i (.ofNat c)),(.b (decide (c≤1114111)),.b true)]⟩
  |false=>none
 | _=>none⟩
theorem xChr_ok{w:World}{tl:zh}{c:Nat}:zH w tl (xChr c):=by
 intro prog s d cd wh objs gs hm hg _ _
 refine⟨[],.of s.toks,rfl,zw,fun r hr hl hp=>?_⟩
 simp only[xChr] at hr
 split at hr<;>try(cases hr;done)
 rename_i id n tn
 split at hr<;>try(cases hr;done)
 rename_i hid
 have hid:=zv hid (s:= "chr") (by decide +kernel)
 subst hid
 simp only[Option.some.injEq] at hr
 subst hr
 have e1:n=.ofNat c:=LV.i.inj (hp _ (.head _))
 have e2:=of_decide_eq_true (LV.b.inj (hp _ (.tail _ (.head _))))
 subst e1
 refine⟨{ s with toks:=s.toks+1 },codeAny_fnG PySem.F.kind_chr PySem.F.plain_chr PySem.F.entry_chr (PySem.F.args_chr1 _) (gives_chr (.ofNat c) tn ?_) ⟨(by show 1≤sizeLine;decide),rfl,rfl⟩,Eff.toks⟩
 simp only[Int.ofNat_eq_natCast,Bool.or_eq_false_iff,decide_eq_false_iff_not]
 omega
def intV:Value→Option Int
 | .int i _=>some i
 | _=>none
def intsL:List Value→Option (List Int)
 |[]=>some []
 |v::r=>match intV v with
  |some i=>match intsL r with
   |some l=>some (i::l)
   |none=>none
  |none=>none
theorem intsL_are:∀{vs:List Value} {ns:List Int},intsL vs=some ns→IntsAre vs ns
 |[],ns,h=>by simp only[intsL,Option.some.injEq] at h;subst h;exact .nil
 |v::r,ns,h=>by
  unfold intsL at h
  cases v<;>simp only[intV,reduceCtorEq] at h
  rename_i i t
  cases hr:intsL r with
  |none=>rw[hr] at h;cases h
  |some l=>
   rw[hr] at h
   simp only[Option.some.injEq] at h
   subst h
   exact .cons i t (intsL_are hr)
def xTupIn:Ext:=⟨1,fun _=>0,false,fun d c _ objs _ _ _=>match c with
 | .call (.builtin id) ⟨[.ref a,.int k t],[]⟩=>match idB id 8395601325623592240556648632771639105386101 with
  |true=>match objs with
   |[(y,⟨.type T,dd,.seq ⟨vs⟩ n,sl⟩)]=>match idB T 439922816629 with
    |true=>match intsL vs with
     |some ns=>some ⟨.ok (.ret (.bool (tfB d))),[],[],[(.n a,.n y)],[(.b (ns.any (·==k)),.b (tfB d))]⟩
     |none=>none
    |false=>none
   | _=>none
  |false=>none
 | _=>none⟩
theorem xTupIn_ok{w:World}{tl:zh}:zH w tl xTupIn:=by
 intro prog s d c wh objs gs hm hg _ _
 refine⟨[],.of 0,rfl,zw,fun r hr hl hp=>?_⟩
 simp only[xTupIn] at hr
 split at hr<;>try(cases hr;done)
 rename_i id a k t
 split at hr<;>try(cases hr;done)
 rename_i hid
 have hid:=zv hid (s:= "tuple.__contains__") (by decide +kernel)
 subst hid
 split at hr<;>try(cases hr;done)
 rename_i y T dd vs n sl
 split at hr<;>try(cases hr;done)
 rename_i hT
 have hT:=zv hT (s:= "tuple") (by decide +kernel)
 subst hT
 split at hr<;>try(cases hr;done)
 rename_i ns hns
 simp only[Option.some.injEq] at hr
 subst hr
 have e1:a=y:=LV.n.inj (hl _ (.head _))
 have e2:=LV.b.inj (hp _ (.head _))
 subst e1
 have h1:=hg _ (.head _)
 refine⟨s,codeAny_call_builtin PySem.F.slot_tuple_contains.plain PySem.F.entry_tuple_contains (PySem.F.slot_tuple_contains.check _ _ _ _ _ _ _ _ ⟨_,h1,rfl⟩ (PySem.F.args_tuple_contains_2 _ _) (tuple_contains_tree (items:=⟨vs⟩) ⟨_,h1,rfl,n,rfl⟩ (intsL_are hns) ?_)),Eff.toks⟩
 exact⟨by rw[e2],rfl⟩
def xTNext(v:Value):Ext:=bx 9231062798198206674541908477283886571094360729198884469 2341386987387381298277481322739317 2 (fun d=>match d with|1=>0 | _=>2) fun d rest o others xs t=>match o.data with
 | .fields ⟨[.ref l,.int (.ofNat i) ti]⟩=>match others with
  |(l',⟨_,_,.seq vs _,_⟩)::_=>match rest with
   |[]=>match d with
    |1=>some ⟨.ok (.ret v),some (.fields #[.ref l,.int (.ofNat (i+1)) 0]),[],[(.n l,.n l')],[(.ov vs[i]?,.ov (some v))]⟩
    | _=>match xs with
     |[x1,x2]=>some ⟨.error (.ref x2),some (.fields #[.none,.int (.ofNat i) ti]),[ve,xq x1],[(.n l,.n l')],[(.ov vs[i]?,.ov none)]⟩
     | _=>none
   | _=>none
  | _=>none
 | _=>none
theorem xTNext_ok{w:World}{tl:zh}{v:Value}:zH w tl (xTNext v):=by
 refine bx_ok (id:= "tuple_iterator.__next__") (T:= "tuple_iterator") (by decide +kernel) (by decide +kernel) PySem.F.slot_tuple_iterator_next PySem.F.entry_tuple_iterator_next ?_
 intro prog A s d rest a dd dt sl others hh ha hO
 by_cases hd:d=1
 ·subst hd
  refine⟨[],.of 0,rfl,zw,fun r hr hl hp=>?_⟩
  dsimp only at hr
  split at hr<;>try(cases hr;done)
  rename_i l i ti
  split at hr<;>try(cases hr;done)
  rename_i l' x1 x2 vs x3 x4 more
  split at hr<;>try(cases hr;done)
  simp only[Option.some.injEq] at hr
  subst hr
  have e:l=l':=LV.n.inj (hl _ (.head _))
  subst e
  have hv:vs[i]?=some v:=LV.ov.inj (hp _ (.head _))
  have hl':=hO _ (.head _)
  refine⟨PySem.F.args_tuple_iterator_next_1 _,{ s with heap:=s.heap.update a (Obj.mapFields fun fs=>fs.setIfInBounds 1 (rawInt ((i:Int)+1))) },?_,fun more gs=>Eff.upd (tk:=s.toks) ha (by simp[Obj.mapFields,rawInt]) rfl⟩
  show wpAny _ _ (field (.ref a) 0 >>= _) _ _ s
  refine wpAny_bind (wpAny_field ha rfl (x:=.ref l) rfl ?_)
  show wpAny _ _ (if (Value.ref l==Value.none)=true then _ else _) _ _ s
  rw[if_neg (show ¬((Value.ref l==Value.none)=true) from Bool.false_ne_true)]
  show wpAny _ _ (field (.ref a) 1 >>= _) _ _ s
  refine wpAny_bind (wpAny_field ha rfl (x:=.int i ti) rfl ?_)
  show wpAny _ _ (seqItems? (.ref l) >>= _) _ _ s
  refine wpAny_bind (wpAny_seqItems hl' rfl ?_)
  simp only[Int.toNat_natCast,hv]
  exact wpAny_bind (wpAny_setField ha rfl (by simp) (wpAny_pure ⟨_,rfl,rfl,rfl⟩))
 ·refine⟨[s.heap.objs.size,s.heap.objs.size+1],.of 0,by
   split
   ·exact absurd rfl hd
   ·rfl,xO,fun r hr hl hp=>?_⟩
  dsimp only at hr
  split at hr<;>try(cases hr;done)
  rename_i l i ti
  split at hr<;>try(cases hr;done)
  rename_i l' x1 x2 vs x3 x4 more
  split at hr<;>try(cases hr;done)
  split at hr
  ·exact absurd rfl hd
  ·simp only[Option.some.injEq] at hr
   subst hr
   have e:l=l':=LV.n.inj (hl _ (.head _))
   subst e
   have hv:vs[i]?=none:=LV.ov.inj (hp _ (.head _))
   have hl':=hO _ (.head _)
   refine⟨PySem.F.args_tuple_iterator_next_1 _,{ s with heap:=((s.heap.update a (Obj.mapFields fun fs=>fs.setIfInBounds 0 .none)).push ve).push (xq s.heap.objs.size) },?_,fun more gs=>Eff.upd_push2 (tk:=s.toks) ha (by simp[Obj.mapFields]) rfl rfl rfl⟩
   show wpAny _ _ (field (.ref a) 0 >>= _) _ _ s
   refine wpAny_bind (wpAny_field ha rfl (x:=.ref l) rfl ?_)
   show wpAny _ _ (if (Value.ref l==Value.none)=true then _ else _) _ _ s
   rw[if_neg (show ¬((Value.ref l==Value.none)=true) from Bool.false_ne_true)]
   show wpAny _ _ (field (.ref a) 1 >>= _) _ _ s
   refine wpAny_bind (wpAny_field ha rfl (x:=.int i ti) rfl ?_)
   show wpAny _ _ (seqItems? (.ref l) >>= _) _ _ s
   refine wpAny_bind (wpAny_seqItems hl' rfl ?_)
   simp only[Int.toNat_natCast,hv]
   refine wpAny_bind (wpAny_rule (wpAny_bind (wpAny_setField ha rfl (by simp) ?_)))
   show wpAny _ _ (newExc (.type "StopIteration") [] >>= _) _ _ _
   refine wpAny_bind ?_
   simp only[newExc,newTuple]
   refine wpAny_bind (wpAny_newObj_type ?_ (by size_fits))
   refine wpAny_bind (m:=firstArgMember _ _) (wpAny_of_eq (a:=Value.none) (by first|rfl|(simp only[firstArgMember];rfl)) ?_)
   refine wpAny_newObj_type ?_ (by size_fits)
   simp only[raiseNew]
   refine wpAny_bind (wpAny_handled ?_)
   rw[hh]
   refine wpAny_bind (wpAny_pure (wpAny_throw ⟨?_,?_⟩))
   ·simp
   ·simp[ve,xq]
def retX:Stmt→Expr
 | .Return (some e) _=>e
 | _=>.Constant .none 0 ⟨0,0,0,0⟩
def cmpL:Expr→Expr
 | .Compare l _ _ _=>l
 |e=>e
def sPair:Str:=⟨#[112,97,105,114]⟩
def yy:Str:=⟨#[99,111,100,101]⟩
def lbE:Expr:=cmpL (retX (sAt (wY (zs 23)) 1))
structure Pr where
 a:Addr
 lo:Int
 tl:Tok
 hi:Int
 th:Tok
def Pr.slot(p:Pr):Addr × Obj:=(p.a,⟨.type "tuple", none,.seq #[.int p.lo p.tl,.int p.hi p.th] 0,#[]⟩)
structure LbL where
 a0:Addr
 cell:Addr
 tup:Addr
 it:Addr
 acc:Addr
 dct:Addr
 c:Nat
 tc:Tok
 vs:Array Value
def LbL.env(z:LbL):Env:={ scope:=⟨.function,[(sDot0,.«local»),(sPair,.«local»),(yy,.cell)],false,false,[]⟩,locals:=z.dct,globals:=3,cells:=[(yy,z.cell)],qual:=⟨#[95,108,97,119,95,105,115,95,98,97,114,114,101,100,46,60,108,111,99,97,108,115,62,46]⟩,func:=none,code:=.ref 337,frame:=some z.a0,builtins:=0 }
def LbL.code(z:LbL):Code:=.compLoop lbE 0 (.ref z.it) (.ref z.acc) z.env
def LbL.start(z:LbL):Code:=.compStart lbE 0 (.ref z.it) (.ref z.acc) z.env
def dictO(l:List DictEntry)(ep:Nat):Obj:=⟨.type "dict", none,.dict ⟨l⟩ ep,#[]⟩
def zU(v:Value):Obj:=⟨.type "cell", none,.cell (some v),#[]⟩
def uQ(t:Addr)(i:Nat):Obj:=⟨.type "tuple_iterator", none,.fields #[.ref t,.int (.ofNat i) 0],#[]⟩
def tupV(vs:Array Value):Obj:=⟨.type "tuple", none,.seq vs 0,#[]⟩
def Za(P:Params):Option (Value × Tok)→Obj
 |none=>dictO [] 0
 |some (v,t)=>dictO [ent P sPair t v] 1
def lbS(K:Wd)(W:List (Code × Pos))(z:LbL)(x:Option (Value × Tok))(ao:Obj)(i:Nat)(p:Pr)(pos:Pos):Start:=
 mkS K W 6 [] [zS K.P 8 [],xTNext (.ref p.a)] [(z.dct,Za K.P x),(z.acc,ao),(z.it,uQ z.tup i),(z.tup,tupV z.vs),(z.cell,zU (.int (.ofNat z.c) z.tc)),p.slot] z.code pos
def leI(a b:Int)(v:Bool):LV × LV:=(.v (.bool (decide (a≤b))),.v (.bool v))
def lbX(x:Option (Value × Tok))(v:Value)(t:Tok):Option (Value × Tok):=match x with
 |none=>some (v,t)
 |some (_,t')=>some (v,t')
def tpLb0:List Nat:=[7,2,1,7,5,11,5,11,1,1,1,0,1,1,3,1,1]
def tpLb1:List Nat:=[7,2,1,7,5,11,5,11,1,1,1,0,1,1,3,1,2,11,1,1,1,0,1,1,1,1]
def tpLb2:List Nat:=[7,2,1,7,5,11,5,11,1,1,1,0,1,1,3,1,2,11,1,1,1,0,1,1,1,2,11,0,9,9,4,9]
section
variable (K:Wd) (W:List (Code × Pos)) (z:LbL) (x:Option (Value × Tok)) (ao:Obj) (i:Nat) (p:Pr) (pos:Pos) (α:Nat→Addr) (τ:Nat→Ch) (γ:Nat→Nat)
def lbR(N:Nat)(tp:List Nat):Option Out:=(lbS K W z x ao i p pos).run α τ γ N tp
def lbPcN(z:LbL)(i:Nat)(p:Pr):LV × LV:=(.ov z.vs[i]?,.ov (some (.ref p.a)))
def lbE1(ps:Pos)(acc:Obj)(pc:Lg):Exp:=⟨.pure (.again z.code),z.code,ps,[],[(z.dct,Za K.P (lbX x (.ref p.a) ((τ 1).tok 0))),(z.acc,acc),(z.it,uQ z.tup (i+1)),(z.tup,tupV z.vs),(z.cell,zU (.int (.ofNat z.c) z.tc)),p.slot],[],pc⟩
theorem lb_r0:lhs 6 [0,1,2,3,4,5] (lbR K W z x ao i p pos α τ γ 27 tpLb0)=rhs 0 (lbE1 K z x i p τ ⟨155,39,155,65⟩ ao [leI p.lo (.ofNat z.c) false,lbPcN z i p]) (lbR K W z x ao i p pos α τ γ 27 tpLb0):=by
 obtain⟨w,b1,b2,V0,hw⟩:=K
 cases b1<;>cases x<;>kernel_rfl
theorem lb_r1:lhs 6 [0,1,2,3,4,5] (lbR K W z x ao i p pos α τ γ 42 tpLb1)=rhs 0 (lbE1 K z x i p τ ⟨155,39,155,65⟩ ao [leI (.ofNat z.c) p.hi false,leI p.lo (.ofNat z.c) true,lbPcN z i p]) (lbR K W z x ao i p pos α τ γ 42 tpLb1):=by
 obtain⟨w,b1,b2,V0,hw⟩:=K
 cases b1<;>cases x<;>kernel_rfl
theorem lb_r2:lhs 6 [0,1,2,3,4,5] (lbR K W z x (zd #[] 0) i p pos α τ γ 51 tpLb2)=rhs 0 (lbE1 K z x i p τ ⟨155,12,155,16⟩ (zd #[.ref p.a] 1) [leI (.ofNat z.c) p.hi true,leI p.lo (.ofNat z.c) true,lbPcN z i p]) (lbR K W z x (zd #[] 0) i p pos α τ γ 51 tpLb2):=by
 obtain⟨w,b1,b2,V0,hw⟩:=K
 cases b1<;>cases x<;>kernel_rfl
def lbSE:Start:=mkS K W 5 [] [zS K.P 8 [],xTNext .none] [(z.dct,Za K.P x),(z.acc,ao),(z.it,uQ z.tup i),(z.tup,tupV z.vs),(z.cell,zU (.int (.ofNat z.c) z.tc))] z.code pos
def lbRE:Option Out:=(lbSE K W z x ao i pos).run α τ γ 4 [5,2,0,5,3,13]
theorem lb_rE:lhs 5 [2,3] (lbRE K W z x ao i pos α τ γ)=rhs 2 ⟨.pure (.done .next),z.code,⟨155,29,155,35⟩,[],[(z.dct,Za K.P x),(z.acc,ao)],[],[(.ov z.vs[i]?,.ov none)]⟩ (lbRE K W z x ao i pos α τ γ):=by
 obtain⟨w,b1,b2,V0,hw⟩:=K
 cases b1<;>cases x<;>kernel_rfl
end
def uj:Option Addr→Obj
 |none=>zd #[] 0
 |some a=>zd #[.ref a] 1
def vJ(c:Nat)(p:Pr):Bool:=decide (p.lo≤(c:Int)) && decide ((c:Int)≤p.hi)
def LbT(K:Wd)(z:LbL)(x:Option (Value × Tok))(m:Option Addr)(i:Nat)(prs:List Pr):zh:=[(z.dct,Za K.P x),(z.acc,uj m),(z.it,uQ z.tup i),(z.tup,tupV z.vs),(z.cell,zU (.int (.ofNat z.c) z.tc))]++prs.map Pr.slot
theorem lb_exts{K:Wd}{W:List (Code × Pos)}{m:Nat}{tl:zh}{v:Value}:∀F,Under (cfg K.P K.V W m tl) F→∀e E,nth [zS K.P 8 [],xTNext v] e=some E→ExtOk (cfg K.P K.V W m tl) K.w F E:=fun F U=>(AllOk.cons zJ (.cons (.leaf U xTNext_ok) .nil)).nth
theorem vG{a b:Int}{v:Bool}{l:Lg}(h:decide (a≤b)=v)(hl:Lg.Ok l):Lg.Ok (leI a b v::l):=zc (by unfold leI;rw[h]) hl
theorem prs_live(prs:List Pr):∀p∈prs.map Pr.slot,p.2.isFreed=false:=fun p hp=>by
 obtain⟨q,_,rfl⟩:=List.mem_map.mp hp
 rfl
theorem lb_turn{K:Wd}{W:List (Code × Pos)}{z:LbL}{x:Option (Value × Tok)}{m:Option Addr}{i:Nat}{p:Pr}{pre post:List Pr}{pos:Pos}(hv:z.vs[i]?=some (.ref p.a))(hm:vJ z.c p=true→m=none) :
  Seg K W ⟨zx z.code,z.code,pos,[],LbT K z x m i (pre++p::post)⟩ (fun s=>∃x' p',s=⟨.pure (.again z.code),z.code,p',[],LbT K z x' (match vJ z.c p with|true=>some p.a|false=>m) (i+1) (pre++p::post)⟩):=by
 have hN:Lg.Ok [lbPcN z i p]:=zc (by show LV.ov z.vs[i]?=_;rw[hv];rfl) zl
 have perm:∀(a b c d e:Addr × Obj),List.Perm ([a,b,c,d,e]++(pre++p::post).map Pr.slot) ([a,b,c,d,e,p.slot]++(pre++post).map Pr.slot):=fun a b c d e=>by
  show List.Perm ([a,b,c,d,e]++(pre++p::post).map Pr.slot) ([a,b,c,d,e]++(p.slot::(pre++post).map Pr.slot))
  refine List.Perm.append_left _ ?_
  rw[←List.map_cons]
  exact(List.perm_middle).map _
 have go:∀{ao:Obj} {N:Nat} {tp:List Nat} {ps:Pos} {acc:Obj} {pc:Lg} {m':Option Addr},ao=uj m→acc=uj m'→(∀α τ γ,lhs 6 [0,1,2,3,4,5] (lbR K W z x ao i p pos α τ γ N tp)=rhs 0 (lbE1 K z x i p τ ps acc pc) (lbR K W z x ao i p pos α τ γ N tp))→Lg.Ok pc→
   Seg K W ⟨zx z.code,z.code,pos,[],LbT K z x m i (pre++p::post)⟩ (fun s=>∃x' p',s=⟨.pure (.again z.code),z.code,p',[],LbT K z x' m' (i+1) (pre++p::post)⟩):=fun {ao N tp ps acc pc m'} e1 e2 hr hpc=>by
  subst e1 e2
  have h:=Seg.run (K:=K) (lbS K W z x (uj m) i p pos) (tl:=[]) rfl rfl lb_exts _ [0,1,2,3,4,5] hr (by decide) rfl (by decide) (fun _ _ _=>hpc) (fun _ _ _=>rfl)
  have h2:=Seg.frame ((pre++post).map Pr.slot) (prs_live _) h
  rw[List.append_nil] at h2
  refine Seg.perm (perm _ _ _ _ _) (h2.swap ?_)
  rintro s ⟨s',⟨α,τ,γ,_,rfl⟩,rfl⟩
  refine⟨LbT K z (lbX x (.ref p.a) ((τ 1).tok 0)) m' (i+1) (pre++p::post),?_,lbX x (.ref p.a) ((τ 1).tok 0),ps,rfl⟩
  unfold lbE1
  dsimp only
  rw[List.append_nil]
  exact(perm _ _ _ _ _).symm
 by_cases h1:p.lo≤(z.c:Int)
 ·by_cases h2:(z.c:Int)≤p.hi
  ·have hi:vJ z.c p=true:=by unfold vJ;rw[decide_eq_true h1,decide_eq_true h2];rfl
   have hm':=hm hi
   rw[hi]
   subst hm'
   exact go rfl rfl (lb_r2 K W z x i p pos) (vG (decide_eq_true h2) (vG (decide_eq_true h1) hN))
  ·have hi:vJ z.c p=false:=by unfold vJ;rw[decide_eq_true h1,decide_eq_false h2];rfl
   rw[hi]
   exact go rfl rfl (lb_r1 K W z x _ i p pos) (vG (decide_eq_false h2) (vG (decide_eq_true h1) hN))
 ·have hi:vJ z.c p=false:=by unfold vJ;rw[decide_eq_false h1];rfl
  rw[hi]
  exact go rfl rfl (lb_r0 K W z x _ i p pos) (vG (decide_eq_false h1) hN)
theorem lb_loop{K:Wd}{W:List (Code × Pos)}{z:LbL}:∀(post pre:List Pr) (x:Option (Value × Tok)) (m:Option Addr) (pos:Pos),z.vs=((pre++post).map fun p=>Value.ref p.a).toArray→
  (post.filter (vJ z.c)).length+(if m.isSome then 1 else 0)≤1→
  Seg K W ⟨zx z.code,z.code,pos,[],LbT K z x m pre.length (pre++post)⟩ (fun s=>∃x' m',s.cur=.pure (.done .next)∧s.fs=[]∧s.T=[(z.dct,Za K.P x'),(z.acc,uj m')]∧m'.isSome=(m.isSome || post.any (vJ z.c)))
 |[],pre,x,m,pos,hvs,_=>by
  have hnone:z.vs[pre.length]?=none:=by rw[hvs];simp
  have h:=Seg.run (K:=K) (lbSE K W z x (uj m) pre.length pos) (tl:=[]) rfl rfl lb_exts _ [2,3] (lb_rE K W z x (uj m) pre.length pos) (by decide) rfl (by decide) (fun _ _ _=>zc (by rw[hnone]) zl) (fun _ _ _=>rfl)
  rw[List.append_nil] at h
  refine Seg.pre (T:=(lbSE K W z x (uj m) pre.length pos).T) (rest:=(pre++[]).map Pr.slot) (List.Perm.refl _) (fun _ _ _=>trivial) (h.mono ?_)
  rintro s ⟨α,τ,γ,_,rfl⟩
  exact⟨x,m,rfl,rfl,rfl,by simp⟩
 |p::post,pre,x,m,pos,hvs,hone=>by
  have hv:z.vs[pre.length]?=some (.ref p.a):=by rw[hvs];simp
  have hm:vJ z.c p=true→m=none:=fun hi=>by
   rw[List.filter_cons_of_pos hi,List.length_cons] at hone
   cases m with
   |none=>rfl
   |some a=>simp at hone
  refine(lb_turn hv hm).trans ?_
  rintro s ⟨x',p',rfl⟩
  have e:pre++p::post=(pre++[p])++post:=by simp
  have el:pre.length+1=(pre++[p]).length:=by simp
  rw[e,el]
  refine Seg.again rfl ((lb_loop post (pre++[p]) x' _ p' (by rw[hvs,e]) ?_).mono ?_)
  ·cases hi:vJ z.c p with
   |true=>rw[List.filter_cons_of_pos hi,List.length_cons] at hone;have:=hm hi;subst this;simp at hone ⊢;omega
   |false=>rw[List.filter_cons_of_neg (by simp[hi])] at hone;exact hone
  ·rintro s ⟨x'',m',e1,e2,e3,e4⟩
   refine⟨x'',m',e1,e2,e3,?_⟩
   rw[e4,List.any_cons]
   cases hi:vJ z.c p with
   |true=>simp
   |false=>simp
def lOf(o:Option Out):List Value:=match o with
 |some o=>match o.cur with
  | .call _ _ _ l _=>l
  | _=>[]
 |none=>[]
structure LtQ where
 c:Nat
 t:Tok
 y:Addr
 o:Obj
def lbC(c:Nat)(t:Tok):Code:=.call (.ref 338) ⟨[.int (.ofNat c) t],[]⟩
def lbSA(K:Wd)(b:Bag)(q:LtQ)(pos:Pos):Start:=mkS K (WK ([0,4,0,0,3],b)) 1 [] [] [(q.y,q.o)] (lbC q.c q.t) pos
def lbSS(K:Wd)(W:List (Code × Pos))(z:LbL)(pos:Pos):Start:=mkS K W 1 [] [] [(z.it,uQ z.tup 0)] z.start pos
theorem lb_rS(K:Wd)(W:List (Code × Pos))(z:LbL)(pos:Pos):∃N tp p,∀α τ γ,lhs 1 [0] ((lbSS K W z pos).run α τ γ N tp)=rhs 0 ⟨.pure (.again z.code),z.start,p,[],[(z.it,uQ z.tup 0)],[],[]⟩ ((lbSS K W z pos).run α τ γ N tp):=by
 obtain⟨w,b1,b2,V0,hw⟩:=K
 cases b2
 ·exact⟨11,[1,1,0,1,1],⟨155,29,155,35⟩,fun α τ γ=>by cases b1<;>kernel_rfl⟩
 ·exact⟨1,[],pos,fun α τ γ=>by cases b1<;>kernel_rfl⟩
def tpLbA:List Nat:=[676,674,5,2,4,3,1,3,23,23,0,23,25]
def lbPrs(α:Nat→Addr)(τ:Nat→Ch):List Pr:=[⟨α 2,832,(τ 0).tok 0,833,(τ 1).tok 0⟩,⟨α 3,8206,(τ 2).tok 0,8207,(τ 3).tok 0⟩,⟨α 4,8234,(τ 4).tok 0,8238,(τ 5).tok 0⟩,⟨α 5,8298,(τ 6).tok 0,8303,(τ 7).tok 0⟩,
 ⟨α 6,12272,(τ 8).tok 0,12283,(τ 9).tok 0⟩,⟨α 7,65529,(τ 10).tok 0,65533,(τ 11).tok 0⟩,⟨α 8,917505,(τ 12).tok 0,917505,(τ 13).tok 0⟩,⟨α 9,917536,(τ 14).tok 0,917631,(τ 15).tok 0⟩]
def lbZ(q:LtQ)(α:Nat→Addr):LbL:=⟨α 0,α 1,α 10,α 11,α 12,α 13,q.c,q.t,#[.ref (α 2),.ref (α 3),.ref (α 4),.ref (α 5),.ref (α 6),.ref (α 7),.ref (α 8),.ref (α 9)]⟩
section
variable (K:Wd) (b:Bag) (q:LtQ) (pos:Pos) (α₀:Nat→Addr) (τ₀:Nat→Ch) (γ₀:Nat→Nat) (x:Option (Value × Tok)) (m:Option Addr) (α:Nat→Addr) (τ:Nat→Ch) (γ:Nat→Nat)
def lbRA:Option Out:=(lbSA K b q pos).run α τ γ 67 tpLbA
def lbXA:Exp:=⟨.call (lbZ q α).start none true (lOf (lbRA K b q pos α τ γ)) (kOf (lbRA K b q pos α τ γ)),(eo (lbRA K b q pos α τ γ)).code,⟨155,29,155,35⟩,[],LbT K (lbZ q α) none none 0 (lbPrs α τ)++[(q.y,q.o)],[],[]⟩
theorem lb_rA:lhs 1 [0,1,2,3,12,11,10,9,8,7,6,5,4,14] (lbRA K b q pos α τ γ)=rhs 14 (lbXA K b q pos α τ γ) (lbRA K b q pos α τ γ):=by
 obtain⟨w,b1,b2,V0,hw⟩:=K
 cases b1<;>kernel_rfl
def lbSB:Start:=⟨cfg K.P K.V (WK ([0,4,0,0,3],b)) 2 [],[],[((lbZ q α₀).dct,Za K.P x),((lbZ q α₀).acc,uj m)],[],kOf (lbRA K b q pos α₀ τ₀ γ₀) (.ok .next),(eo (lbRA K b q pos α₀ τ₀ γ₀)).code,⟨155,29,155,35⟩,[]⟩
def tpLbB(x:Option (Value × Tok))(m:Option Addr):List Nat:=(match x with
 |none=>[3]
 |some _=>[3,3,1])++[1,5,1,0,1,5,1,5]++(match m with
 |none=>[1,5,1,5]
 |some _=>[])
def lbNB(x:Option (Value × Tok))(m:Option Addr):Nat:=(match x with
 |none=>18
 |some _=>22)+(match m with
 |none=>4
 |some _=>0)
def lbRB:Option Out:=(lbSB K b q pos α₀ τ₀ γ₀ x m).run α τ γ (lbNB x m) (tpLbB x m)
theorem lb_rB:lhs 2 [] (lbRB K b q pos α₀ τ₀ γ₀ x m α τ γ)=rhs 1 ⟨.pure (.done (.ret (.bool m.isSome))),(eo (lbRB K b q pos α₀ τ₀ γ₀ x m α τ γ)).code,(eo (lbRB K b q pos α₀ τ₀ γ₀ x m α τ γ)).pos,[],[],[],[]⟩ (lbRB K b q pos α₀ τ₀ γ₀ x m α τ γ):=by
 obtain⟨w,b1,b2,V0,hw⟩:=K
 cases b1<;>cases x<;>cases m<;>kernel_rfl
end
theorem lb_startSeg{K:Wd}{W:List (Code × Pos)}{z:LbL}{pos:Pos}{R:zh}(hR:∀p∈R,p.2.isFreed=false):Seg K W ⟨zx z.start,z.start,pos,[],(z.it,uQ z.tup 0)::R⟩ (fun s=>∃p,s=⟨.pure (.again z.code),z.start,p,[],(z.it,uQ z.tup 0)::R⟩):=by
 obtain⟨N,tp,p,hr⟩:=lb_rS K W z pos
 have h:=Seg.run (K:=K) (lbSS K W z pos) (tl:=[]) rfl rfl yq _ [0] hr (by decide) rfl (by decide) (fun _ _ _=>zl) (fun _ _ _=>rfl)
 have h2:=Seg.frame R hR h
 rw[List.append_nil] at h2
 refine h2.mono ?_
 rintro s ⟨s',⟨α,τ,γ,_,rfl⟩,rfl⟩
 exact⟨p,rfl⟩
def lawPairs:List (Int × Int):=[(832,833),(8206,8207),(8234,8238),(8298,8303),(12272,12283),(65529,65533),(917505,917505),(917536,917631)]
def zu(c:Nat):Bool:=lawPairs.any fun p=>decide (p.1≤(c:Int)) && decide ((c:Int)≤p.2)
theorem lbPrs_one(c:Nat)(α:Nat→Addr)(τ:Nat→Ch):((lbPrs α τ).filter (vJ c)).length≤1:=by
 unfold lbPrs vJ
 simp only[List.filter_cons,List.filter_nil,Bool.and_eq_true,decide_eq_true_eq]
 by_cases h1:(832:Int)≤c∧(c:Int)≤833
 ·rw[if_pos h1,if_neg (by omega),if_neg (by omega),if_neg (by omega),if_neg (by omega),if_neg (by omega),if_neg (by omega),if_neg (by omega)];simp
 rw[if_neg h1]
 by_cases h2:(8206:Int)≤c∧(c:Int)≤8207
 ·rw[if_pos h2,if_neg (by omega),if_neg (by omega),if_neg (by omega),if_neg (by omega),if_neg (by omega),if_neg (by omega)];simp
 rw[if_neg h2]
 by_cases h3:(8234:Int)≤c∧(c:Int)≤8238
 ·rw[if_pos h3,if_neg (by omega),if_neg (by omega),if_neg (by omega),if_neg (by omega),if_neg (by omega)];simp
 rw[if_neg h3]
 by_cases h4:(8298:Int)≤c∧(c:Int)≤8303
 ·rw[if_pos h4,if_neg (by omega),if_neg (by omega),if_neg (by omega),if_neg (by omega)];simp
 rw[if_neg h4]
 by_cases h5:(12272:Int)≤c∧(c:Int)≤12283
 ·rw[if_pos h5,if_neg (by omega),if_neg (by omega),if_neg (by omega)];simp
 rw[if_neg h5]
 by_cases h6:(65529:Int)≤c∧(c:Int)≤65533
 ·rw[if_pos h6,if_neg (by omega),if_neg (by omega)];simp
 rw[if_neg h6]
 by_cases h7:(917505:Int)≤c∧(c:Int)≤917505
 ·rw[if_pos h7,if_neg (by omega)];simp
 rw[if_neg h7]
 split<;>simp
def LtE(q:LtQ)(tl:zh)(P:Value→Prop)(s:St):Prop:=∃v,P v∧s.cur=.pure (.done (.ret v))∧s.fs=[]∧s.T=(q.y,q.o)::tl
theorem lb_seg{K:Wd}{b:Bag}{q:LtQ}{pos:Pos}{tl:zh}(htl:∀p∈tl,p.2.isFreed=false)(ho:q.o.isFreed=false):Seg K (WK ([0,4,0,0,3],b)) ⟨zx (lbC q.c q.t),lbC q.c q.t,pos,[],(q.y,q.o)::tl⟩ (LtE q tl fun v=>v=.bool (zu q.c)):=by
 have hA:=Seg.frame tl htl (Seg.run (K:=K) (lbSA K b q pos) (tl:=[]) rfl rfl yq _ [0,1,2,3,12,11,10,9,8,7,6,5,4,14] (lb_rA K b q pos) (by decide) rfl (by decide) (fun _ _ _=>zl) (fun _ _ _=>rfl))
 rw[List.append_nil] at hA
 refine hA.trans ?_
 rintro s ⟨s',⟨α,τ,γ,_,rfl⟩,rfl⟩
 have hR:∀p∈(q.y,q.o)::tl,p.2.isFreed=false:=fun p hp=>by
  rcases List.mem_cons.mp hp with rfl|hp
  ·exact ho
  ·exact htl p hp
 have hlive:∀p∈([((lbZ q α).dct,Za K.P none),((lbZ q α).acc,uj none),((lbZ q α).tup,tupV (lbZ q α).vs),((lbZ q α).cell,zU (.int (.ofNat (lbZ q α).c) (lbZ q α).tc))]++(lbPrs α τ).map Pr.slot)++((q.y,q.o)::tl),p.2.isFreed=false:=fun p hp=>by
  rcases List.mem_append.mp hp with hp|hp
  ·rcases List.mem_append.mp hp with hp|hp
   ·simp only[List.mem_cons,List.not_mem_nil,or_false] at hp
    rcases hp with rfl|rfl|rfl|rfl<;>rfl
   ·exact prs_live _ p hp
  ·exact hR p hp
 have hin:∀W,Seg K W ⟨zx (lbZ q α).start,(lbZ q α).start,⟨155,29,155,35⟩,[],LbT K (lbZ q α) none none 0 (lbPrs α τ)++((q.y,q.o)::tl)⟩ (fun s=>∃x' m',s.cur=.pure (.done .next)∧s.fs=[]∧s.T=[((lbZ q α).dct,Za K.P x'),((lbZ q α).acc,uj m')]++((q.y,q.o)::tl)∧m'.isSome=zu q.c):=fun W=>by
  have h1:=lb_startSeg (K:=K) (W:=W) (z:=lbZ q α) (pos:=⟨155,29,155,35⟩) hlive
  refine Seg.perm (a:=⟨_,_,_,[],_⟩) ?_ (h1.trans ?_)
  ·unfold LbT
   exact List.perm_middle (l₁:=[((lbZ q α).dct,Za K.P none),((lbZ q α).acc,uj none)])
  ·rintro s ⟨p,rfl⟩
   refine Seg.again rfl ?_
   have h2:=Seg.frame ((q.y,q.o)::tl) hR (lb_loop (K:=K) (W:=W) (z:=lbZ q α) (lbPrs α τ) [] none none p rfl (lbPrs_one q.c α τ))
   refine Seg.perm (a:=⟨_,_,_,[],_⟩) ?_ (h2.mono ?_)
   ·exact(List.perm_middle (l₁:=[((lbZ q α).dct,Za K.P none),((lbZ q α).acc,uj none)])).symm
   ·rintro s ⟨s',⟨x',m',e1,e2,e3,e4⟩,rfl⟩
    exact⟨x',m',e1,e2,by rw[e3],by rw[e4];rfl⟩
 have eT:(lbXA K b q pos α τ γ).T++[]++tl=LbT K (lbZ q α) none none 0 (lbPrs α τ)++((q.y,q.o)::tl):=by
  unfold lbXA
  dsimp only
  rw[List.append_nil,List.append_assoc];rfl
 refine Seg.call (B':=fun s=>∃x' m',s.cur=.pure (.done .next)∧s.fs=[]∧s.T=[((lbZ q α).dct,Za K.P x'),((lbZ q α).acc,uj m')]++((q.y,q.o)::tl)∧m'.isSome=zu q.c) rfl ?_ ?_
 ·have:=hin (((lbXA K b q pos α τ γ).code,(lbXA K b q pos α τ γ).pos)::(([]:List Frame).map Frame.where_++WK ([0,4,0,0,3],b)))
  rw[←eT] at this
  exact this
 ·rintro s ⟨x',m',e1,e2,e3,e4⟩
  refine⟨e2,.ok .next,e1,?_⟩
  rw[e3]
  have h:=Seg.frame ((q.y,q.o)::tl) hR (Seg.run (K:=K) (lbSB K b q pos α τ γ x' m') (tl:=[]) rfl rfl yq _ [] (lb_rB K b q pos α τ γ x' m') (by decide) rfl (by decide) (fun _ _ _=>zl) (fun _ _ _=>rfl))
  rw[List.append_nil] at h
  refine h.mono ?_
  rintro s ⟨s',⟨α',τ',γ',_,rfl⟩,rfl⟩
  exact⟨_,by rw[e4],rfl,rfl,rfl⟩
def ltRd(d:Nat)(c:Code)(objs:zh):Option LtQ:=match c with
 | .call _ ⟨[.int (.ofNat c) t],[]⟩=>match objs with
  |[(y,o)]=>some ⟨c,t,y,o⟩
  | _=>none
 | _=>none
def liveB(o:Obj):LV × LV:=(.b o.isFreed,.b false)
def xBarred:Ext:=fnX 1 (fun _=>0) (shk [[0,4,0,0,3]]) ltRd (fun _ _ q=>lbC q.c q.t) (fun _ _ q=>[(q.y,q.o)]) (fun d _ q=>[pcT (zu q.c) (tfB d),liveB q.o])
 (fun d _ q _ _=>⟨.ok (.ret (.bool (tfB d))),[q.o],[]⟩)
theorem xBarred_ok{K:Wd}{W:List (Code × Pos)}{n:Nat}{tl:zh}{F:List Frame}(U:Under (cfg K.P K.V W n tl) F)(htl:∀p∈tl,p.2.isFreed=false):ExtOk (cfg K.P K.V W n tl) K.w F xBarred:=by
 refine ExtOk.fn U htl WK (fun x=>x.1∈[[0,4,0,0,3]]) (fun wh x h=>xr h) (fun d c objs x q xs t h=>rfl) ?_
 rintro d ⟨ks,b⟩ q hk hpc _ pos
 have hk:ks=[0,4,0,0,3]:=by simpa using hk
 subst hk
 have e:=LV.b.inj (hpc _ (.head _))
 have e2:=LV.b.inj (hpc _ (.tail _ (.head _)))
 refine(lb_seg htl e2).mono ?_
 rintro s ⟨v,rfl,h1,h2,h3⟩
 refine⟨[],.of 0,rfl,rfl,?_,h2,?_⟩
 ·rw[h1,e];rfl
 ·rw[h3];rfl
def ltC(c:Nat)(t:Tok):Code:=.call (.ref 345) ⟨[.int (.ofNat c) t],[]⟩
def ltX(K:Wd)(c2:Nat):List Ext:=[zS K.P 12 lcOuts,xTupIn,xChr c2,xBarred]
def ltS(K:Wd)(b:Bag)(q:LtQ)(c2:Nat)(pos:Pos):Start:=mkS K (WK ([4,0,0,3],b)) 1 [] (ltX K c2) [(q.y,q.o)] (ltC q.c q.t) pos
def ltR(K:Wd)(b:Bag)(q:LtQ)(c2:Nat)(pos:Pos)(N:Nat)(tp:List Nat)(α:Nat→Addr)(τ:Nat→Ch)(γ:Nat→Nat):Option Out:=(ltS K b q c2 pos).run α τ γ N tp
def xC(q:LtQ)(r:Option Out)(v:Value)(pc:Lg):Exp:=⟨.pure (.done (.ret v)),(eo r).code,(eo r).pos,[],[(q.y,q.o)],[],pc⟩
def xd(c:Nat)(v:Bool):LV × LV:=(.v (.bool (decide ((Int.ofNat c).fmod 65536≥65534))),.v (.bool v))
def yr(c:Nat)(v:Bool):LV × LV:=(.b (([173,847,6150,6155,6156,6157,8203,8204,8205,8288,65279]:List Int).any (·==Int.ofNat c)),.b v)
def ua(c j:Nat)(t:Tok):LV × LV:=(.v (.int (Int.ofNat c - 64256) t),.v (.int (.ofNat j) t))
def wU(n:Int)(c2:Nat):Lg:=[(.i n,.i (.ofNat c2)),(.b (decide (c2≤1114111)),.b true)]
def xH:Nat→Str
 |0=>⟨#[102,102]⟩
 |1=>⟨#[102,105]⟩
 |2=>⟨#[102,108]⟩
 |3=>⟨#[102,102,105]⟩
 |4=>⟨#[102,102,108]⟩
 | _=>⟨#[115,116]⟩
section
variable (K:Wd) (b:Bag) (q:LtQ) (c2:Nat) (pos:Pos) (α:Nat→Addr) (τ:Nat→Ch) (γ:Nat→Nat)
def tpLt_nl1:List Nat:=[690,688,3,1,4,3,1,0,1,2]
theorem lt_nl1:lhs 1 [1] (ltR K b q c2 pos 23 tpLt_nl1 α τ γ)=rhs 1 (xC q (ltR K b q c2 pos 23 tpLt_nl1 α τ γ) (.str ⟨#[10]⟩ ((τ 5).tok 0)) ([xd q.c true])) (ltR K b q c2 pos 23 tpLt_nl1 α τ γ):=by
 obtain⟨w,b1,b2,V0,hw⟩:=K
 cases b1<;>kernel_rfl
def tpLt_nl2:List Nat:=[690,688,3,1,4,3,1,0,1,1,3,1,2,1,2]
theorem lt_nl2:lhs 1 [1] (ltR K b q c2 pos 33 tpLt_nl2 α τ γ)=rhs 1 (xC q (ltR K b q c2 pos 33 tpLt_nl2 α τ γ) (.str ⟨#[10]⟩ ((τ 9).tok 0)) ([leI (.ofNat q.c) 65007 true]++[leI 64976 (.ofNat q.c) true]++[xd q.c false])) (ltR K b q c2 pos 33 tpLt_nl2 α τ γ):=by
 obtain⟨w,b1,b2,V0,hw⟩:=K
 cases b1<;>kernel_rfl
def tpLt_e1:List Nat:=[690,688,3,1,4,3,1,0,1,1,3,1,1,3,5,5,2,1,5]
theorem lt_e1:lhs 1 [2] (ltR K b q c2 pos 49 tpLt_e1 α τ γ)=rhs 2 (xC q (ltR K b q c2 pos 49 tpLt_e1 α τ γ) (.str ⟨#[]⟩ ((τ 19).tok 0)) ([yr q.c true]++[leI 64976 (.ofNat q.c) false]++[xd q.c false])) (ltR K b q c2 pos 49 tpLt_e1 α τ γ):=by
 obtain⟨w,b1,b2,V0,hw⟩:=K
 cases b1<;>kernel_rfl
def tpLt_e1b:List Nat:=[690,688,3,1,4,3,1,0,1,1,3,1,2,1,1,3,5,5,2,1,5]
theorem lt_e1b:lhs 1 [2] (ltR K b q c2 pos 53 tpLt_e1b α τ γ)=rhs 2 (xC q (ltR K b q c2 pos 53 tpLt_e1b α τ γ) (.str ⟨#[]⟩ ((τ 21).tok 0)) ([yr q.c true]++[leI (.ofNat q.c) 65007 false]++[leI 64976 (.ofNat q.c) true]++[xd q.c false])) (ltR K b q c2 pos 53 tpLt_e1b α τ γ):=by
 obtain⟨w,b1,b2,V0,hw⟩:=K
 cases b1<;>kernel_rfl
def tpLt_e2:List Nat:=[690,688,3,1,4,3,1,0,1,1,3,1,2,1,1,3,5,5,2,0,5,3,1,2,1,2]
theorem lt_e2:lhs 1 [2] (ltR K b q c2 pos 63 tpLt_e2 α τ γ)=rhs 2 (xC q (ltR K b q c2 pos 63 tpLt_e2 α τ γ) (.str ⟨#[]⟩ ((τ 25).tok 0)) ([leI (.ofNat q.c) 65039 true]++[leI 65024 (.ofNat q.c) true]++[yr q.c false]++[leI (.ofNat q.c) 65007 false]++[leI 64976 (.ofNat q.c) true]++[xd q.c false])) (ltR K b q c2 pos 63 tpLt_e2 α τ γ):=by
 obtain⟨w,b1,b2,V0,hw⟩:=K
 cases b1<;>kernel_rfl
def uz:List Nat:=[690,688,3,1,4,3,1,0,1,1,3,1,1,3,5,5,2,0,5,3,1,1,6,3,676,4,1,3,6,0,3,3,0,0]
theorem lt_bar3:lhs 1 [2] (ltR K b q c2 pos 79 uz α τ γ)=rhs 2 (xC q (ltR K b q c2 pos 79 uz α τ γ) (.str ⟨#[32,c2]⟩ ((τ 24).tok 0)) (wU (.ofNat q.c) c2++[pcT (zu q.c) true,(.b false,.b false)]++[leI 65024 (.ofNat q.c) false]++[yr q.c false]++[leI 64976 (.ofNat q.c) false]++[xd q.c false])) (ltR K b q c2 pos 79 uz α τ γ):=by
 obtain⟨w,b1,b2,V0,hw⟩:=K
 cases b1<;>kernel_rfl
def uy:List Nat:=[690,688,3,1,4,3,1,0,1,1,3,1,2,1,1,3,5,5,2,0,5,3,1,1,6,3,676,4,1,3,6,0,3,3,0,0]
theorem lt_bar6:lhs 1 [2] (ltR K b q c2 pos 83 uy α τ γ)=rhs 2 (xC q (ltR K b q c2 pos 83 uy α τ γ) (.str ⟨#[32,c2]⟩ ((τ 26).tok 0)) (wU (.ofNat q.c) c2++[pcT (zu q.c) true,(.b false,.b false)]++[leI 65024 (.ofNat q.c) false]++[yr q.c false]++[leI (.ofNat q.c) 65007 false]++[leI 64976 (.ofNat q.c) true]++[xd q.c false])) (ltR K b q c2 pos 83 uy α τ γ):=by
 obtain⟨w,b1,b2,V0,hw⟩:=K
 cases b1<;>kernel_rfl
def ux:List Nat:=[690,688,3,1,4,3,1,0,1,1,3,1,2,1,1,3,5,5,2,0,5,3,1,2,1,1,6,3,676,4,1,3,6,0,3,3,0,0]
theorem lt_bar7:lhs 1 [2] (ltR K b q c2 pos 87 ux α τ γ)=rhs 2 (xC q (ltR K b q c2 pos 87 ux α τ γ) (.str ⟨#[32,c2]⟩ ((τ 28).tok 0)) (wU (.ofNat q.c) c2++[pcT (zu q.c) true,(.b false,.b false)]++[leI (.ofNat q.c) 65039 false]++[leI 65024 (.ofNat q.c) true]++[yr q.c false]++[leI (.ofNat q.c) 65007 false]++[leI 64976 (.ofNat q.c) true]++[xd q.c false])) (ltR K b q c2 pos 87 ux α τ γ):=by
 obtain⟨w,b1,b2,V0,hw⟩:=K
 cases b1<;>kernel_rfl
def wI:List Nat:=[690,688,3,1,4,3,1,0,1,1,3,1,1,3,5,5,2,0,5,3,1,1,6,3,676,4,0,3,3,1,2,1,2,6,0,3,1,0,3,0]
theorem lt_letter:lhs 1 [2] (ltR K b q c2 pos 86 wI α τ γ)=rhs 2 (xC q (ltR K b q c2 pos 86 wI α τ γ) (.str ⟨#[c2]⟩ ((τ 28).tok 0)) (wU (Int.ofNat q.c+32) c2++[leI (.ofNat q.c) 90 true]++[leI 65 (.ofNat q.c) true]++[pcT (zu q.c) false,(.b false,.b false)]++[leI 65024 (.ofNat q.c) false]++[yr q.c false]++[leI 64976 (.ofNat q.c) false]++[xd q.c false])) (ltR K b q c2 pos 86 wI α τ γ):=by
 obtain⟨w,b1,b2,V0,hw⟩:=K
 cases b1<;>kernel_rfl
def vt:List Nat:=[690,688,3,1,4,3,1,0,1,1,3,1,1,3,5,5,2,0,5,3,1,1,6,3,676,4,0,3,3,1,1,3,1,1,6,0,3,3,0]
theorem lt_else1:lhs 1 [2] (ltR K b q c2 pos 86 vt α τ γ)=rhs 2 (xC q (ltR K b q c2 pos 86 vt α τ γ) (.str ⟨#[c2]⟩ ((τ 26).tok 0)) (wU (.ofNat q.c) c2++[leI 64256 (.ofNat q.c) false]++[leI 65 (.ofNat q.c) false]++[pcT (zu q.c) false,(.b false,.b false)]++[leI 65024 (.ofNat q.c) false]++[yr q.c false]++[leI 64976 (.ofNat q.c) false]++[xd q.c false])) (ltR K b q c2 pos 86 vt α τ γ):=by
 obtain⟨w,b1,b2,V0,hw⟩:=K
 cases b1<;>kernel_rfl
def vr:List Nat:=[690,688,3,1,4,3,1,0,1,1,3,1,1,3,5,5,2,0,5,3,1,1,6,3,676,4,0,3,3,1,2,1,1,3,1,1,6,0,3,3,0]
theorem lt_else3:lhs 1 [2] (ltR K b q c2 pos 90 vr α τ γ)=rhs 2 (xC q (ltR K b q c2 pos 90 vr α τ γ) (.str ⟨#[c2]⟩ ((τ 28).tok 0)) (wU (.ofNat q.c) c2++[leI 64256 (.ofNat q.c) false]++[leI (.ofNat q.c) 90 false]++[leI 65 (.ofNat q.c) true]++[pcT (zu q.c) false,(.b false,.b false)]++[leI 65024 (.ofNat q.c) false]++[yr q.c false]++[leI 64976 (.ofNat q.c) false]++[xd q.c false])) (ltR K b q c2 pos 90 vr α τ γ):=by
 obtain⟨w,b1,b2,V0,hw⟩:=K
 cases b1<;>kernel_rfl
def vq:List Nat:=[690,688,3,1,4,3,1,0,1,1,3,1,1,3,5,5,2,0,5,3,1,1,6,3,676,4,0,3,3,1,2,1,1,3,1,2,1,1,6,0,3,3,0]
theorem lt_else5:lhs 1 [2] (ltR K b q c2 pos 94 vq α τ γ)=rhs 2 (xC q (ltR K b q c2 pos 94 vq α τ γ) (.str ⟨#[c2]⟩ ((τ 30).tok 0)) (wU (.ofNat q.c) c2++[leI (.ofNat q.c) 64262 false]++[leI 64256 (.ofNat q.c) true]++[leI (.ofNat q.c) 90 false]++[leI 65 (.ofNat q.c) true]++[pcT (zu q.c) false,(.b false,.b false)]++[leI 65024 (.ofNat q.c) false]++[yr q.c false]++[leI 64976 (.ofNat q.c) false]++[xd q.c false])) (ltR K b q c2 pos 94 vq α τ γ):=by
 obtain⟨w,b1,b2,V0,hw⟩:=K
 cases b1<;>kernel_rfl
def vp:List Nat:=[690,688,3,1,4,3,1,0,1,1,3,1,2,1,1,3,5,5,2,0,5,3,1,1,6,3,676,4,0,3,3,1,2,1,1,3,1,2,1,1,6,0,3,3,0]
theorem lt_else6:lhs 1 [2] (ltR K b q c2 pos 98 vp α τ γ)=rhs 2 (xC q (ltR K b q c2 pos 98 vp α τ γ) (.str ⟨#[c2]⟩ ((τ 32).tok 0)) (wU (.ofNat q.c) c2++[leI (.ofNat q.c) 64262 false]++[leI 64256 (.ofNat q.c) true]++[leI (.ofNat q.c) 90 false]++[leI 65 (.ofNat q.c) true]++[pcT (zu q.c) false,(.b false,.b false)]++[leI 65024 (.ofNat q.c) false]++[yr q.c false]++[leI (.ofNat q.c) 65007 false]++[leI 64976 (.ofNat q.c) true]++[xd q.c false])) (ltR K b q c2 pos 98 vp α τ γ):=by
 obtain⟨w,b1,b2,V0,hw⟩:=K
 cases b1<;>kernel_rfl
def vo:List Nat:=[690,688,3,1,4,3,1,0,1,1,3,1,2,1,1,3,5,5,2,0,5,3,1,2,1,1,6,3,676,4,0,3,3,1,2,1,1,3,1,2,1,1,6,0,3,3,0]
theorem lt_else7:lhs 1 [2] (ltR K b q c2 pos 102 vo α τ γ)=rhs 2 (xC q (ltR K b q c2 pos 102 vo α τ γ) (.str ⟨#[c2]⟩ ((τ 34).tok 0)) (wU (.ofNat q.c) c2++[leI (.ofNat q.c) 64262 false]++[leI 64256 (.ofNat q.c) true]++[leI (.ofNat q.c) 90 false]++[leI 65 (.ofNat q.c) true]++[pcT (zu q.c) false,(.b false,.b false)]++[leI (.ofNat q.c) 65039 false]++[leI 65024 (.ofNat q.c) true]++[yr q.c false]++[leI (.ofNat q.c) 65007 false]++[leI 64976 (.ofNat q.c) true]++[xd q.c false])) (ltR K b q c2 pos 102 vo α τ γ):=by
 obtain⟨w,b1,b2,V0,hw⟩:=K
 cases b1<;>kernel_rfl
def uw:List Nat:=[690,688,3,1,4,3,1,0,1,1,3,1,1,3,5,5,2,0,5,3,1,1,6,3,676,4,0,3,3,1,2,1,1,3,1,2,1,2,3,1,3,7,7,7,0,7,7,0]
theorem lt_lig0:lhs 1 [3] (ltR K b q c2 pos 111 uw α τ γ)=rhs 3 (xC q (ltR K b q c2 pos 111 uw α τ γ) (.str (xH 0) ((τ 30).tok 0)) ([ua q.c 0 ((τ 38).tok 0)]++[leI (.ofNat q.c) 64262 true]++[leI 64256 (.ofNat q.c) true]++[leI (.ofNat q.c) 90 false]++[leI 65 (.ofNat q.c) true]++[pcT (zu q.c) false,(.b false,.b false)]++[leI 65024 (.ofNat q.c) false]++[yr q.c false]++[leI 64976 (.ofNat q.c) false]++[xd q.c false])) (ltR K b q c2 pos 111 uw α τ γ):=by
 obtain⟨w,b1,b2,V0,hw⟩:=K
 cases b1<;>kernel_rfl
def uv:List Nat:=[690,688,3,1,4,3,1,0,1,1,3,1,1,3,5,5,2,0,5,3,1,1,6,3,676,4,0,3,3,1,2,1,1,3,1,2,1,2,3,1,4,7,7,7,0,7,7,0]
theorem lt_lig1:lhs 1 [3] (ltR K b q c2 pos 111 uv α τ γ)=rhs 3 (xC q (ltR K b q c2 pos 111 uv α τ γ) (.str (xH 1) ((τ 31).tok 0)) ([ua q.c 1 ((τ 38).tok 0)]++[leI (.ofNat q.c) 64262 true]++[leI 64256 (.ofNat q.c) true]++[leI (.ofNat q.c) 90 false]++[leI 65 (.ofNat q.c) true]++[pcT (zu q.c) false,(.b false,.b false)]++[leI 65024 (.ofNat q.c) false]++[yr q.c false]++[leI 64976 (.ofNat q.c) false]++[xd q.c false])) (ltR K b q c2 pos 111 uv α τ γ):=by
 obtain⟨w,b1,b2,V0,hw⟩:=K
 cases b1<;>kernel_rfl
def uu:List Nat:=[690,688,3,1,4,3,1,0,1,1,3,1,1,3,5,5,2,0,5,3,1,1,6,3,676,4,0,3,3,1,2,1,1,3,1,2,1,2,3,1,5,7,7,7,0,7,7,0]
theorem lt_lig2:lhs 1 [3] (ltR K b q c2 pos 111 uu α τ γ)=rhs 3 (xC q (ltR K b q c2 pos 111 uu α τ γ) (.str (xH 2) ((τ 32).tok 0)) ([ua q.c 2 ((τ 38).tok 0)]++[leI (.ofNat q.c) 64262 true]++[leI 64256 (.ofNat q.c) true]++[leI (.ofNat q.c) 90 false]++[leI 65 (.ofNat q.c) true]++[pcT (zu q.c) false,(.b false,.b false)]++[leI 65024 (.ofNat q.c) false]++[yr q.c false]++[leI 64976 (.ofNat q.c) false]++[xd q.c false])) (ltR K b q c2 pos 111 uu α τ γ):=by
 obtain⟨w,b1,b2,V0,hw⟩:=K
 cases b1<;>kernel_rfl
def ut:List Nat:=[690,688,3,1,4,3,1,0,1,1,3,1,1,3,5,5,2,0,5,3,1,1,6,3,676,4,0,3,3,1,2,1,1,3,1,2,1,2,3,1,6,7,7,7,0,7,7,0]
theorem lt_lig3:lhs 1 [3] (ltR K b q c2 pos 111 ut α τ γ)=rhs 3 (xC q (ltR K b q c2 pos 111 ut α τ γ) (.str (xH 3) ((τ 33).tok 0)) ([ua q.c 3 ((τ 38).tok 0)]++[leI (.ofNat q.c) 64262 true]++[leI 64256 (.ofNat q.c) true]++[leI (.ofNat q.c) 90 false]++[leI 65 (.ofNat q.c) true]++[pcT (zu q.c) false,(.b false,.b false)]++[leI 65024 (.ofNat q.c) false]++[yr q.c false]++[leI 64976 (.ofNat q.c) false]++[xd q.c false])) (ltR K b q c2 pos 111 ut α τ γ):=by
 obtain⟨w,b1,b2,V0,hw⟩:=K
 cases b1<;>kernel_rfl
def us:List Nat:=[690,688,3,1,4,3,1,0,1,1,3,1,1,3,5,5,2,0,5,3,1,1,6,3,676,4,0,3,3,1,2,1,1,3,1,2,1,2,3,1,7,7,7,7,0,7,7,0]
theorem lt_lig4:lhs 1 [3] (ltR K b q c2 pos 111 us α τ γ)=rhs 3 (xC q (ltR K b q c2 pos 111 us α τ γ) (.str (xH 4) ((τ 34).tok 0)) ([ua q.c 4 ((τ 38).tok 0)]++[leI (.ofNat q.c) 64262 true]++[leI 64256 (.ofNat q.c) true]++[leI (.ofNat q.c) 90 false]++[leI 65 (.ofNat q.c) true]++[pcT (zu q.c) false,(.b false,.b false)]++[leI 65024 (.ofNat q.c) false]++[yr q.c false]++[leI 64976 (.ofNat q.c) false]++[xd q.c false])) (ltR K b q c2 pos 111 us α τ γ):=by
 obtain⟨w,b1,b2,V0,hw⟩:=K
 cases b1<;>kernel_rfl
def ur:List Nat:=[690,688,3,1,4,3,1,0,1,1,3,1,1,3,5,5,2,0,5,3,1,1,6,3,676,4,0,3,3,1,2,1,1,3,1,2,1,2,3,1,8,7,7,7,0,7,7,0]
theorem lt_lig5:lhs 1 [3] (ltR K b q c2 pos 111 ur α τ γ)=rhs 3 (xC q (ltR K b q c2 pos 111 ur α τ γ) (.str (xH 5) ((τ 35).tok 0)) ([ua q.c 5 ((τ 38).tok 0)]++[leI (.ofNat q.c) 64262 true]++[leI 64256 (.ofNat q.c) true]++[leI (.ofNat q.c) 90 false]++[leI 65 (.ofNat q.c) true]++[pcT (zu q.c) false,(.b false,.b false)]++[leI 65024 (.ofNat q.c) false]++[yr q.c false]++[leI 64976 (.ofNat q.c) false]++[xd q.c false])) (ltR K b q c2 pos 111 ur α τ γ):=by
 obtain⟨w,b1,b2,V0,hw⟩:=K
 cases b1<;>kernel_rfl
def uq:List Nat:=[690,688,3,1,4,3,1,0,1,1,3,1,1,3,5,5,2,0,5,3,1,1,6,3,676,4,0,3,3,1,2,1,1,3,1,2,1,2,3,1,9,7,7,7,0,7,7,0]
theorem lt_lig6:lhs 1 [3] (ltR K b q c2 pos 111 uq α τ γ)=rhs 3 (xC q (ltR K b q c2 pos 111 uq α τ γ) (.str (xH 6) ((τ 36).tok 0)) ([ua q.c 6 ((τ 38).tok 0)]++[leI (.ofNat q.c) 64262 true]++[leI 64256 (.ofNat q.c) true]++[leI (.ofNat q.c) 90 false]++[leI 65 (.ofNat q.c) true]++[pcT (zu q.c) false,(.b false,.b false)]++[leI 65024 (.ofNat q.c) false]++[yr q.c false]++[leI 64976 (.ofNat q.c) false]++[xd q.c false])) (ltR K b q c2 pos 111 uq α τ γ):=by
 obtain⟨w,b1,b2,V0,hw⟩:=K
 cases b1<;>kernel_rfl
end
def tupB(c:Nat):Bool:=([173,847,6150,6155,6156,6157,8203,8204,8205,8288,65279]:List Int).any (·==Int.ofNat c)
def zp(c:Nat):Str:=
 if (Int.ofNat c).fmod 65536≥65534 then ⟨#[10]⟩
 else if 64976≤c∧c≤65007 then ⟨#[10]⟩
 else if tupB c then ⟨#[]⟩
 else if 65024≤c∧c≤65039 then ⟨#[]⟩
 else if zu c then ⟨#[32,c]⟩
 else if 65≤c∧c≤90 then ⟨#[c+32]⟩
 else if 64256≤c∧c≤64262 then xH (c - 64256)
 else ⟨#[c]⟩
theorem lt_exts{K:Wd}{W:List (Code × Pos)}{m:Nat}{c2:Nat}:∀F,Under (cfg K.P K.V W m []) F→∀e E,nth (ltX K c2) e=some E→ExtOk (cfg K.P K.V W m []) K.w F E:=fun F U=>
 (AllOk.cons zJ (.cons (.leaf U xTupIn_ok) (.cons (.leaf U xChr_ok) (.cons (xBarred_ok U wg) .nil)))).nth
def LtF(q:LtQ)(tl:zh)(s:St):Prop:=∃t,s.cur=.pure (.done (.ret (.str (zp q.c) t)))∧s.fs=[]∧s.T=(q.y,q.o)::tl
theorem yh{K:Wd}{b:Bag}{q:LtQ}{c2:Nat}{pos:Pos}{N na i j:Nat}{tp:List Nat}{x:Str}{pc:(Nat→Ch)→Lg}{tl:zh}(htl:∀p∈tl,p.2.isFreed=false)
  (hr:∀α τ γ,lhs 1 [i] (ltR K b q c2 pos N tp α τ γ)=rhs na (xC q (ltR K b q c2 pos N tp α τ γ) (.str x ((τ j).tok 0)) (pc τ)) (ltR K b q c2 pos N tp α τ γ)) (hpc:∀τ,Lg.Ok (pc τ)) (hx:x=zp q.c) :
  Seg K (WK ([4,0,0,3],b)) ⟨zx (ltC q.c q.t),ltC q.c q.t,pos,[],(q.y,q.o)::tl⟩ (LtF q tl):=by
 have h:=Seg.run (K:=K) (ltS K b q c2 pos) (tl:=[]) rfl rfl lt_exts _ [i] hr (by simp[ym,notIn]) rfl (by decide) (fun _ τ _=>hpc τ) (fun _ _ _=>rfl)
 have h2:=Seg.frame tl htl h
 rw[List.append_nil] at h2
 refine h2.mono ?_
 rintro s ⟨s',⟨α,τ,γ,_,rfl⟩,rfl⟩
 exact⟨(τ j).tok 0,by rw[←hx];rfl,rfl,rfl⟩
theorem ok1{p:LV × LV}(h:p.1=p.2):Lg.Ok [p]:=zc h zl
theorem le1{a:Int}{c:Nat}{v:Bool}(h:decide (a≤(c:Int))=v):Lg.Ok [leI a (.ofNat c) v]:=ok1 (by unfold leI;rw[←h];rfl)
theorem le2{a:Int}{c:Nat}{v:Bool}(h:decide ((c:Int)≤a)=v):Lg.Ok [leI (.ofNat c) a v]:=ok1 (by unfold leI;rw[←h];rfl)
theorem lt_seg{K:Wd}{b:Bag}{q:LtQ}{pos:Pos}{tl:zh}(htl:∀p∈tl,p.2.isFreed=false)(hc:q.c≤1114111):Seg K (WK ([4,0,0,3],b)) ⟨zx (ltC q.c q.t),ltC q.c q.t,pos,[],(q.y,q.o)::tl⟩ (LtF q tl):=by
 have T:∀{a:Int},a≤(q.c:Int)→Lg.Ok [leI a (.ofNat q.c) true]:=fun h=>le1 (decide_eq_true h)
 have F:∀{a:Int},¬a≤(q.c:Int)→Lg.Ok [leI a (.ofNat q.c) false]:=fun h=>le1 (decide_eq_false h)
 have T':∀{a:Int},(q.c:Int)≤a→Lg.Ok [leI (.ofNat q.c) a true]:=fun h=>le2 (decide_eq_true h)
 have F':∀{a:Int},¬(q.c:Int)≤a→Lg.Ok [leI (.ofNat q.c) a false]:=fun h=>le2 (decide_eq_false h)
 have hchr:Lg.Ok (wU (.ofNat q.c) q.c):=zc rfl (zc (by rw[decide_eq_true hc]) zl)
 by_cases hg:(Int.ofNat q.c).fmod 65536≥65534
 ·exact yh (c2:=0) htl (lt_nl1 K b q 0 pos) (fun τ=>ok1 (by unfold xd;rw[decide_eq_true hg])) (by unfold zp;rw[if_pos hg])
 have G:Lg.Ok [xd q.c false]:=ok1 (by unfold xd;rw[decide_eq_false hg])
 have e0:∀{x},x=(if 64976≤q.c∧q.c≤65007 then (⟨#[10]⟩:Str) else if tupB q.c then ⟨#[]⟩ else if 65024≤q.c∧q.c≤65039 then ⟨#[]⟩ else if zu q.c then ⟨#[32,q.c]⟩ else if 65≤q.c∧q.c≤90 then ⟨#[q.c+32]⟩ else if 64256≤q.c∧q.c≤64262 then xH (q.c - 64256) else ⟨#[q.c]⟩)→x=zp q.c:=fun h=>by unfold zp;rw[if_neg hg];exact h
 by_cases hA:64976≤q.c∧q.c≤65007
 ·exact yh (c2:=0) htl (lt_nl2 K b q 0 pos) (fun τ=>((T' (a:=65007) (by omega)).app (T (a:=64976) (by omega))).app G) (e0 (by rw[if_pos hA]))
 have e1:∀{x},x=(if tupB q.c then (⟨#[]⟩:Str) else if 65024≤q.c∧q.c≤65039 then ⟨#[]⟩ else if zu q.c then ⟨#[32,q.c]⟩ else if 65≤q.c∧q.c≤90 then ⟨#[q.c+32]⟩ else if 64256≤q.c∧q.c≤64262 then xH (q.c - 64256) else ⟨#[q.c]⟩)→x=zp q.c:=fun h=>e0 (by rw[if_neg hA];exact h)
 cases ht:tupB q.c with
 |true=>
  have ht':Lg.Ok [yr q.c true]:=ok1 (by unfold yr;rw[←ht];rfl)
  by_cases h1:64976≤q.c
  ·exact yh (c2:=0) htl (lt_e1b K b q 0 pos) (fun τ=>((ht'.app (F' (a:=65007) (by omega))).app (T (a:=64976) (by omega))).app G) (e1 (by rw[if_pos ht]))
  ·exact yh (c2:=0) htl (lt_e1 K b q 0 pos) (fun τ=>(ht'.app (F (a:=64976) (by omega))).app G) (e1 (by rw[if_pos ht]))
 |false=>
  have ht':Lg.Ok [yr q.c false]:=ok1 (by unfold yr;rw[←ht];rfl)
  have e2:∀{x},x=(if 65024≤q.c∧q.c≤65039 then (⟨#[]⟩:Str) else if zu q.c then ⟨#[32,q.c]⟩ else if 65≤q.c∧q.c≤90 then ⟨#[q.c+32]⟩ else if 64256≤q.c∧q.c≤64262 then xH (q.c - 64256) else ⟨#[q.c]⟩)→x=zp q.c:=fun h=>e1 (by rw[ht,if_neg Bool.false_ne_true];exact h)
  by_cases hB:65024≤q.c∧q.c≤65039
  ·exact yh (c2:=0) htl (lt_e2 K b q 0 pos) (fun τ=>(((((T' (a:=65039) (by omega)).app (T (a:=65024) (by omega))).app ht').app (F' (a:=65007) (by omega))).app (T (a:=64976) (by omega))).app G) (e2 (by rw[if_pos hB]))
  cases hb:zu q.c with
  |true=>
   have hb':Lg.Ok [pcT (zu q.c) true,(.b false,.b false)]:=z6 hb (ok1 rfl)
   have e3:(⟨#[32,q.c]⟩:Str)=zp q.c:=e2 (by rw[if_neg hB,if_pos hb])
   by_cases h1:64976≤q.c
   ·by_cases h2:65024≤q.c
    ·exact yh (c2:=q.c) htl (lt_bar7 K b q q.c pos) (fun τ=>((((((hchr.app hb').app (F' (a:=65039) (by omega))).app (T (a:=65024) (by omega))).app ht').app (F' (a:=65007) (by omega))).app (T (a:=64976) (by omega))).app G) e3
    ·exact yh (c2:=q.c) htl (lt_bar6 K b q q.c pos) (fun τ=>(((((hchr.app hb').app (F (a:=65024) (by omega))).app ht').app (F' (a:=65007) (by omega))).app (T (a:=64976) (by omega))).app G) e3
   ·exact yh (c2:=q.c) htl (lt_bar3 K b q q.c pos) (fun τ=>((((hchr.app hb').app (F (a:=65024) (by omega))).app ht').app (F (a:=64976) (by omega))).app G) e3
  |false=>
   have hb':Lg.Ok [pcT (zu q.c) false,(.b false,.b false)]:=z6 hb (ok1 rfl)
   have e3:∀{x},x=(if 65≤q.c∧q.c≤90 then (⟨#[q.c+32]⟩:Str) else if 64256≤q.c∧q.c≤64262 then xH (q.c - 64256) else ⟨#[q.c]⟩)→x=zp q.c:=fun h=>e2 (by rw[if_neg hB,hb,if_neg Bool.false_ne_true];exact h)
   by_cases hC:65≤q.c∧q.c≤90
   ·have hchr2:Lg.Ok (wU (Int.ofNat q.c+32) (q.c+32)):=zc rfl (zc (by rw[decide_eq_true (by omega)]) zl)
    exact yh (c2:=q.c+32) htl (lt_letter K b q (q.c+32) pos) (fun τ=>((((((hchr2.app (T' (a:=90) (by omega))).app (T (a:=65) (by omega))).app hb').app (F (a:=65024) (by omega))).app ht').app (F (a:=64976) (by omega))).app G) (e3 (by rw[if_pos hC]))
   have e4:∀{x},x=(if 64256≤q.c∧q.c≤64262 then xH (q.c - 64256) else (⟨#[q.c]⟩:Str))→x=zp q.c:=fun h=>e3 (by rw[if_neg hC];exact h)
   by_cases hD:64256≤q.c∧q.c≤64262
   ·have lig:∀{j:Nat} (τ:Nat→Ch),q.c=64256+j→Lg.Ok ([ua q.c j ((τ 38).tok 0)]++[leI (.ofNat q.c) 64262 true]++[leI 64256 (.ofNat q.c) true]++[leI (.ofNat q.c) 90 false]++[leI 65 (.ofNat q.c) true]++[pcT (zu q.c) false,(.b false,.b false)]++[leI 65024 (.ofNat q.c) false]++[yr q.c false]++[leI 64976 (.ofNat q.c) false]++[xd q.c false]):=fun {j} τ hj=>
     (((((((((ok1 (by unfold ua;rw[show (Int.ofNat q.c - 64256)=Int.ofNat j by simp only[Int.ofNat_eq_natCast];omega])).app (T' (a:=64262) (by omega))).app (T (a:=64256) (by omega))).app (F' (a:=90) (by omega))).app (T (a:=65) (by omega))).app hb').app (F (a:=65024) (by omega))).app ht').app (F (a:=64976) (by omega))).app G
    have:q.c=64256∨q.c=64257∨q.c=64258∨q.c=64259∨q.c=64260∨q.c=64261∨q.c=64262:=by omega
    rcases this with h|h|h|h|h|h|h
    ·exact yh (c2:=0) htl (lt_lig0 K b q 0 pos) (fun τ=>lig (j:=0) τ h) (e4 (by rw[if_pos hD,h]))
    ·exact yh (c2:=0) htl (lt_lig1 K b q 0 pos) (fun τ=>lig (j:=1) τ h) (e4 (by rw[if_pos hD,h]))
    ·exact yh (c2:=0) htl (lt_lig2 K b q 0 pos) (fun τ=>lig (j:=2) τ h) (e4 (by rw[if_pos hD,h]))
    ·exact yh (c2:=0) htl (lt_lig3 K b q 0 pos) (fun τ=>lig (j:=3) τ h) (e4 (by rw[if_pos hD,h]))
    ·exact yh (c2:=0) htl (lt_lig4 K b q 0 pos) (fun τ=>lig (j:=4) τ h) (e4 (by rw[if_pos hD,h]))
    ·exact yh (c2:=0) htl (lt_lig5 K b q 0 pos) (fun τ=>lig (j:=5) τ h) (e4 (by rw[if_pos hD,h]))
    ·exact yh (c2:=0) htl (lt_lig6 K b q 0 pos) (fun τ=>lig (j:=6) τ h) (e4 (by rw[if_pos hD,h]))
   have e5:(⟨#[q.c]⟩:Str)=zp q.c:=e4 (by rw[if_neg hD])
   by_cases c1:65≤q.c
   ·by_cases c2:64256≤q.c
    ·by_cases c3:64976≤q.c
     ·by_cases c4:65024≤q.c
      ·exact yh (c2:=q.c) htl (lt_else7 K b q q.c pos) (fun τ=>((((((((((hchr.app (F' (a:=64262) (by omega))).app (T (a:=64256) (by omega))).app (F' (a:=90) (by omega))).app (T (a:=65) (by omega))).app hb').app (F' (a:=65039) (by omega))).app (T (a:=65024) (by omega))).app ht').app (F' (a:=65007) (by omega))).app (T (a:=64976) (by omega))).app G) e5
      ·exact yh (c2:=q.c) htl (lt_else6 K b q q.c pos) (fun τ=>(((((((((hchr.app (F' (a:=64262) (by omega))).app (T (a:=64256) (by omega))).app (F' (a:=90) (by omega))).app (T (a:=65) (by omega))).app hb').app (F (a:=65024) (by omega))).app ht').app (F' (a:=65007) (by omega))).app (T (a:=64976) (by omega))).app G) e5
     ·exact yh (c2:=q.c) htl (lt_else5 K b q q.c pos) (fun τ=>((((((((hchr.app (F' (a:=64262) (by omega))).app (T (a:=64256) (by omega))).app (F' (a:=90) (by omega))).app (T (a:=65) (by omega))).app hb').app (F (a:=65024) (by omega))).app ht').app (F (a:=64976) (by omega))).app G) e5
    ·exact yh (c2:=q.c) htl (lt_else3 K b q q.c pos) (fun τ=>(((((((hchr.app (F (a:=64256) (by omega))).app (F' (a:=90) (by omega))).app (T (a:=65) (by omega))).app hb').app (F (a:=65024) (by omega))).app ht').app (F (a:=64976) (by omega))).app G) e5
   ·exact yh (c2:=q.c) htl (lt_else1 K b q q.c pos) (fun τ=>((((((hchr.app (F (a:=64256) (by omega))).app (F (a:=65) (by omega))).app hb').app (F (a:=65024) (by omega))).app ht').app (F (a:=64976) (by omega))).app G) e5
def lIt(l:Addr)(i:Nat):Obj:=⟨.type "list_iterator", none,.fields #[.ref l,.int (.ofNat i) 0],#[]⟩
def lcScope:Expr→Scope
 | .ListComp _ _ s _=>s
 | _=>progP.main.scope
def cmEnv(e:Expr)(dct:Addr)(qual:Str)(code fr:Addr):Env:={ scope:=lcScope e,locals:=dct,globals:=3,cells:=[],qual:=qual,func:=none,code:=.ref code,frame:=some fr,builtins:=0 }
structure CmA where
 a0:Addr
 src:Addr
 it:Addr
 acc:Addr
 dct:Addr
def y1(e:Expr)(env:Env)(z:CmA):Code:=.compLoop e 0 (.ref z.it) (.ref z.acc) env
def ye(e:Expr)(env:Env)(z:CmA):Code:=.compStart e 0 (.ref z.it) (.ref z.acc) env
def qPage:Str:=⟨#[95,108,97,119,95,112,97,103,101,46,60,108,111,99,97,108,115,62,46]⟩
def binL:Expr→Expr
 | .BinOp l _ _ _=>l
 |e=>e
def forI:Stmt→Expr
 | .For _ e _ _ _=>e
 | _=>.Constant .none 0 ⟨0,0,0,0⟩
def lpFor:Stmt:=sAt (wY (zs 25)) 2
def xP:Expr:=binL (forI lpFor)
def yB(z:CmA):Env:=cmEnv xP z.dct qPage 349 z.a0
def cmD(P:Params)(s:Str):Option (Value × Tok)→Obj
 |none=>dictO [] 0
 |some (v,t)=>dictO [ent P s t v] 1
def xTold(S:Str):Ext:=fnX 1 (fun _=>0) (shk [[4,0,0,3]]) ltRd (fun _ _ q=>ltC q.c q.t) (fun _ _ q=>[(q.y,q.o)]) (fun d _ q=>[(.s (zp q.c),.s S),(.b (decide (q.c≤1114111)),.b true)])
 (fun d _ q _ t=>⟨.ok (.ret (.str S (t.tok 0))),[q.o],[]⟩)
theorem xTold_ok{K:Wd}{W:List (Code × Pos)}{n:Nat}{tl:zh}{F:List Frame}{S:Str}(U:Under (cfg K.P K.V W n tl) F)(htl:∀p∈tl,p.2.isFreed=false):ExtOk (cfg K.P K.V W n tl) K.w F (xTold S):=by
 refine ExtOk.fn U htl WK (fun x=>x.1∈[[4,0,0,3]]) (fun wh x h=>xr h) (fun d c objs x q xs t h=>rfl) ?_
 rintro d ⟨ks,b⟩ q hk hpc _ pos
 have hk:ks=[4,0,0,3]:=by simpa using hk
 subst hk
 have e:=LV.s.inj (hpc _ (.head _))
 have e2:=of_decide_eq_true (LV.b.inj (hpc _ (.tail _ (.head _))))
 refine(lt_seg htl e2).mono ?_
 rintro s ⟨t,h1,h2,h3⟩
 refine⟨[],.of t,rfl,rfl,?_,h2,?_⟩
 ·rw[h1,e];rfl
 ·rw[h3];rfl
def zi(cl:List (Nat × Tok)):Array Value:=(cl.map fun p=>Value.int (.ofNat p.1) p.2).toArray
def cmX(x:Option (Value × Tok))(v:Value)(t:Tok):Option (Value × Tok):=match x with
 |none=>some (v,t)
 |some (_,t')=>some (v,t')
structure TcQ where
 z:CmA
 x:Option (Value × Tok)
 vs:Array Value
 ep:Nat
 i:Nat
 xs:Array Value
 e2:Nat
 c:Nat
 tc:Tok
 S:Str
def tcS1(K:Wd)(b:Bag)(q:TcQ)(pos:Pos):Start:=
 mkS K (WK ([0,0,3],b)) 4 [] [wu 2 (.int (.ofNat q.c) q.tc),xTold q.S,zD 1] [(q.z.dct,cmD K.P yy q.x),(q.z.acc,zd q.vs q.ep),(q.z.it,lIt q.z.src q.i),(q.z.src,zd q.xs q.e2)] (y1 xP (yB q.z) q.z) pos
def tcR(K:Wd)(b:Bag)(q:TcQ)(pos:Pos)(N:Nat)(tp:List Nat)(α:Nat→Addr)(τ:Nat→Ch)(γ:Nat→Nat):Option Out:=(tcS1 K b q pos).run α τ γ N tp
def tpTc:List Nat:=[3,1,1,3,1,7,3,6,7,690,2,0,3,3,0,5]
def TcQ.pcI(q:TcQ):LV × LV:=(.ov q.xs[q.i]?,.ov (some (.int (.ofNat q.c) q.tc)))
theorem tc_r(K:Wd)(b:Bag)(q:TcQ)(pos:Pos)(α τ γ):lhs 4 [0,1,2,3] (tcR K b q pos 19 tpTc α τ γ)=rhs 0 ⟨.pure (.again (y1 xP (yB q.z) q.z)),y1 xP (yB q.z) q.z,⟨171,17,171,32⟩,[],
  [(q.z.dct,cmD K.P yy (cmX q.x (.int (.ofNat q.c) q.tc) ((τ 1).tok 0))),(q.z.acc,zd (q.vs.push (.str q.S ((τ 2).tok 0))) ((τ 3).tok 0)),(q.z.it,lIt q.z.src (q.i+1)),(q.z.src,zd q.xs q.e2)],[],[small q.vs.size,(.s (zp q.c),.s q.S),(.b (decide (q.c≤1114111)),.b true),q.pcI]⟩ (tcR K b q pos 19 tpTc α τ γ):=by
 obtain⟨w,b1,b2,V0,hw⟩:=K
 obtain⟨z,x,vs,ep,i,xs,e2,c,tc,S⟩:=q
 cases b1<;>cases x<;>kernel_rfl
theorem tc_rE(K:Wd)(b:Bag)(q:TcQ)(pos:Pos)(α τ γ):lhs 4 [2,3] (tcR K b q pos 4 [3,1,0,3,1,11] α τ γ)=rhs 2 ⟨.pure (.done .next),y1 xP (yB q.z) q.z,⟨171,45,171,50⟩,[],
  [(q.z.dct,cmD K.P yy q.x),(q.z.acc,zd q.vs q.ep)],[],[(.ov q.xs[q.i]?,.ov none)]⟩ (tcR K b q pos 4 [3,1,0,3,1,11] α τ γ):=by
 obtain⟨w,b1,b2,V0,hw⟩:=K
 obtain⟨z,x,vs,ep,i,xs,e2,c,tc,S⟩:=q
 cases b1<;>cases x<;>kernel_rfl
theorem tc_exts{K:Wd}{W:List (Code × Pos)}{m:Nat}{v:Value}{S:Str}:∀F,Under (cfg K.P K.V W m []) F→∀e E,nth [wu 2 v,xTold S,zD 1] e=some E→ExtOk (cfg K.P K.V W m []) K.w F E:=fun F U=>
 (AllOk.cons (.leaf U xK) (.cons (xTold_ok U wg) (.cons (.leaf U zI) .nil))).nth
def TcT(K:Wd)(z:CmA)(x:Option (Value × Tok))(sl:List (Str × Tok))(ep:Nat)(i:Nat)(cl:List (Nat × Tok))(e2:Nat):zh:=[(z.dct,cmD K.P yy x),(z.acc,zd (za sl) ep),(z.it,lIt z.src i),(z.src,zd (zi cl) e2)]
theorem tc_loop{K:Wd}{b:Bag}{z:CmA}{e2:Nat}:∀(post pre:List (Nat × Tok)) (x:Option (Value × Tok)) (sl:List (Str × Tok)) (ep:Nat) (pos:Pos),(∀p∈post,p.1≤1114111)→sl.length+post.length≤1000→
  Seg K (WK ([0,0,3],b)) ⟨zx (y1 xP (yB z) z),y1 xP (yB z) z,pos,[],TcT K z x sl ep pre.length (pre++post) e2⟩ (fun s=>∃x' sl' ep',s.cur=.pure (.done .next)∧s.fs=[]∧s.T=[(z.dct,cmD K.P yy x'),(z.acc,zd (za sl') ep')]∧sl'.map (·.1)=sl.map (·.1)++post.map (fun p=>zp p.1)∧(x.isSome=true∨post≠[]→x'.isSome=true))
 |[],pre,x,sl,ep,pos,_,_=>by
  let q:TcQ:=⟨z,x,za sl,ep,pre.length,zi (pre++[]),e2,0,0,⟨#[]⟩⟩
  have h:=Seg.run (K:=K) (tcS1 K b q pos) (tl:=[]) rfl rfl tc_exts _ [2,3] (tc_rE K b q pos) (by decide) rfl (by decide) (fun _ _ _=>zc (by show LV.ov (zi (pre++[]))[pre.length]?=_;simp[zi]) zl) (fun _ _ _=>rfl)
  rw[List.append_nil] at h
  refine h.mono ?_
  rintro s ⟨α,τ,γ,_,rfl⟩
  exact⟨x,sl,ep,rfl,rfl,rfl,by simp,fun h=>h.elim id fun h=>absurd rfl h⟩
 |p::post,pre,x,sl,ep,pos,hc,hl=>by
  let q:TcQ:=⟨z,x,za sl,ep,pre.length,zi (pre++p::post),e2,p.1,p.2,zp p.1⟩
  have hpc:Lg.Ok [small q.vs.size,(.s (zp q.c),.s q.S),(.b (decide (q.c≤1114111)),.b true),q.pcI]:=zc (zk (by show (za sl).size≤1000;rw[zm];simp at hl;omega)) (zc rfl (zc (by rw[decide_eq_true (hc p (.head _))]) (zc (by
   show LV.ov (zi (pre++p::post))[pre.length]?=_
   simp[zi];rfl) zl)))
  have h:=Seg.run (K:=K) (tcS1 K b q pos) (tl:=[]) rfl rfl tc_exts _ [0,1,2,3] (tc_r K b q pos) (by decide) rfl (by decide) (fun _ _ _=>hpc) (fun _ _ _=>rfl)
  rw[List.append_nil] at h
  refine Seg.trans h ?_
  rintro s ⟨α,τ,γ,_,rfl⟩
  have e:pre++p::post=(pre++[p])++post:=by simp
  have el:pre.length+1=(pre++[p]).length:=by simp
  have ih:=tc_loop (K:=K) (b:=b) (z:=z) (e2:=e2) post (pre++[p]) (cmX x (.int (.ofNat p.1) p.2) ((τ 1).tok 0)) (sl++[(zp p.1,(τ 2).tok 0)]) ((τ 3).tok 0) ⟨171,17,171,32⟩ (fun q hq=>hc q (.tail _ hq)) (by simp at hl ⊢;omega)
  refine Seg.again rfl (Seg.perm (a:=⟨_,_,_,[],_⟩) (List.Perm.of_eq ?_) (ih.mono ?_))
  ·show _++[]=_
   unfold TcT
   rw[List.append_nil,←zA,←e,←el]
  ·rintro s ⟨x',sl',ep',e1,e2,e3,e4,e5⟩
   exact⟨x',sl',ep',e1,e2,e3,by rw[e4];simp,fun _=>e5 (.inl (by cases x<;>rfl))⟩
structure PgQ where
 l:Addr
 cl:List (Nat × Tok)
 e2:Nat
 rm:Int
 tR:Tok
 wd:Int
 tW:Tok
def pgC(q:PgQ):Code:=.call (.ref 350) ⟨[.ref q.l,.int q.rm q.tR,.int q.wd q.tW],[]⟩
def pgS(K:Wd)(b:Bag)(q:PgQ)(pos:Pos):Start:=mkS K (WK ([0,3],b)) 1 [] [] [(q.l,zd (zi q.cl) q.e2)] (pgC q) pos
def tpPg1:List Nat:=[700,698,3,1,3,1,3,1,4,3,1,5,2,3,1,1,0,1,11]
def sCodes:Str:=⟨#[99,111,100,101,115]⟩
def sRows:Str:=⟨#[114,111,119,115]⟩
def sTold:Str:=⟨#[116,111,108,100]⟩
def sHeld:Str:=⟨#[104,101,108,100]⟩
def sBlanks:Str:=⟨#[98,108,97,110,107,115]⟩
def sRow:Str:=⟨#[114,111,119]⟩
def sLine:Str:=⟨#[108,105,110,101]⟩
structure PgF where
 a0:Addr
 cell:Addr
 l:Addr
 t:Nat→Tok
 wd:Int
 tW:Tok
 ra:Addr
def PgF.ents(g:PgF)(P:Params)(rm:Int)(tR:Tok):List DictEntry:=[ent P sCodes (g.t 0) (.ref g.l),ent P sRoom (g.t 1) (.int rm tR),ent P sWidth (g.t 2) (.int g.wd g.tW),ent P sRows (g.t 3) (.ref g.ra)]
def pgZ(q:PgQ)(α:Nat→Addr):CmA:=⟨α 0,q.l,α 4,α 5,α 6⟩
def pgTk(τ:Nat→Ch)(i:Nat):Tok:=match i with
 |0=>(τ 0).tok 0
 |1=>(τ 1).tok 0
 |2=>(τ 2).tok 0
 | _=>(τ 3).tok 0
def pgG(q:PgQ)(α:Nat→Addr)(τ:Nat→Ch):PgF:=⟨α 0,α 1,q.l,pgTk τ,q.wd,q.tW,α 2⟩
section
variable (K:Wd) (b:Bag) (q:PgQ) (pos:Pos) (α:Nat→Addr) (τ:Nat→Ch) (γ:Nat→Nat)
def u9:Option Out:=(pgS K b q pos).run α τ γ 53 tpPg1
def pgX1:Exp:=⟨.call (ye xP (yB (pgZ q α)) (pgZ q α)) none true (lOf (u9 K b q pos α τ γ)) (kOf (u9 K b q pos α τ γ)),(eo (u9 K b q pos α τ γ)).code,⟨171,45,171,50⟩,[],
 TcT K (pgZ q α) none [] 0 0 q.cl q.e2++[(α 0,yp ((pgG q α τ).ents K.P q.rm q.tR) 4),(α 1,zU (.ref (α 3))),(α 2,zd #[] 0),(α 3,zd #[] 0)],[],[]⟩
theorem pg_r1:lhs 1 [0,1,2,7,6,5,4,3] (u9 K b q pos α τ γ)=rhs 7 (pgX1 K b q pos α τ γ) (u9 K b q pos α τ γ):=by
 obtain⟨w,b1,b2,V0,hw⟩:=K
 cases b1<;>kernel_rfl
end
def tcSS(K:Wd)(W:List (Code × Pos))(z:CmA)(pos:Pos):Start:=mkS K W 1 [] [] [(z.it,lIt z.src 0)] (ye xP (yB z) z) pos
theorem tc_rS(K:Wd)(W:List (Code × Pos))(z:CmA)(pos:Pos):∃N tp p,∀α τ γ,lhs 1 [0] ((tcSS K W z pos).run α τ γ N tp)=rhs 0 ⟨.pure (.again (y1 xP (yB z) z)),ye xP (yB z) z,p,[],[(z.it,lIt z.src 0)],[],[]⟩ ((tcSS K W z pos).run α τ γ N tp):=by
 obtain⟨w,b1,b2,V0,hw⟩:=K
 cases b2
 ·exact⟨11,[1,1,0,1,1],⟨171,45,171,50⟩,fun α τ γ=>by cases b1<;>kernel_rfl⟩
 ·exact⟨1,[],pos,fun α τ γ=>by cases b1<;>kernel_rfl⟩
def xLAdd:Ext:=⟨2,fun _=>1,false,fun _ c _ objs _ xs _=>match c with
 | .call (.builtin id) ⟨[.ref a,.ref b],[]⟩=>match idB id 29827096650756823847613524589 with
  |true=>match objs with
   |[(y,⟨.type T,none,.seq vs n,⟨[]⟩⟩),(y2,⟨.type T2,none,.seq vs2 n2,⟨[]⟩⟩)]=>match idB T 1970563693 with
    |true=>match idB T2 1970563693 with
     |true=>match xs with
      |[x]=>some ⟨.ok (.ret (.ref x)),[],[zd (vs++vs2) 0],[(.n a,.n y),(.n b,.n y2)],[small (vs++vs2).size]⟩
      | _=>none
     |false=>none
    |false=>none
   | _=>none
  |false=>none
 | _=>none⟩
theorem xLAdd_ok{w:World}{tl:zh}:zH w tl xLAdd:=by
 intro prog s d c wh objs gs hm hg _ _
 refine⟨[s.heap.objs.size],.of 0,rfl,yo,fun r hr hl hp=>?_⟩
 simp only[xLAdd] at hr
 split at hr<;>try(cases hr;done)
 rename_i id a b
 split at hr<;>try(cases hr;done)
 rename_i hid
 have hid:=zv hid (s:= "list.__add__") (by decide +kernel)
 subst hid
 split at hr<;>try(cases hr;done)
 rename_i y T vs n y2 T2 vs2 n2
 split at hr<;>try(cases hr;done)
 rename_i hT
 have hT:=zv hT (s:= "list") (by decide +kernel)
 subst hT
 split at hr<;>try(cases hr;done)
 rename_i hT
 have hT:=zv hT (s:= "list") (by decide +kernel)
 subst hT
 simp only[Option.some.injEq] at hr
 subst hr
 have e1:a=y:=LV.n.inj (hl _ (.head _))
 have e2:b=y2:=LV.n.inj (hl _ (.tail _ (.head _)))
 have hs:=yK hp (.head _)
 rw[Array.size_append] at hs
 subst e1 e2
 have h1:=hg _ (.head _)
 have h2:=hg _ (.tail _ (.head _))
 exact⟨{ s with heap:=s.heap.push (zd (vs++vs2) 0),toks:=s.toks },zO PySem.F.slot_list_add ⟨_,h1,rfl⟩ PySem.F.entry_list_add (PySem.F.args_list_add_2 _ _) (list_addW a b vs vs2 n n2 none none #[] #[] hs) ⟨h1,h2,rfl,rfl⟩,Eff.push (tk:=s.toks) rfl⟩
def leq:List Value→List Value→Bool
 |[],[]=>true
 | .str x _::l,.str y _::r=>x==y && leq l r
 | _,_=>false
def xf:List Value→List Value→Bool
 |[],[]=>true
 | .str _ _::l,.str _ _::r=>xf l r
 | _,_=>false
theorem leq_size:∀{l r:List Value},l.length≠r.length→leq l r=false
 |[],[],h=>absurd rfl h
 |[],_::_,_=>rfl
 |v::l,[],_=>by cases v<;>rfl
 |v::l,u::r,h=>by
  cases v<;>try rfl
  cases u<;>try rfl
  simp only[leq]
  rw[leq_size (l:=l) (r:=r) (fun e=>h (by simp[e])),Bool.and_false]
def eqV:Value→Value→Bool
 | .str x _,.str y _=>x==y
 | _,_=>false
theorem leqOk_at:∀{l r:List Value},xf l r=true→l.length=r.length∧∀j (h1:j < l.length) (h2:j < r.length),∃x t y u,l[j]=.str x t∧r[j]=.str y u
 |[],[],_=>⟨rfl,fun j h=>absurd h (Nat.not_lt_zero _)⟩
 | .str x t::l,.str y u::r,h=>by
  obtain⟨e,H⟩:=leqOk_at (l:=l) (r:=r) h
  refine⟨by simp[e],fun j h1 h2=>?_⟩
  cases j with
  |zero=>exact⟨x,t,y,u,rfl,rfl⟩
  |succ j=>exact H j (by simpa using h1) (by simpa using h2)
theorem leq_all:∀{l r:List Value},xf l r=true→leq l r=(List.range l.length).all fun j=>eqV (l[j]?.getD .none) (r[j]?.getD .none)
 |[],[],_=>rfl
 | .str x t::l,.str y u::r,h=>by
  simp only[leq,List.length_cons,List.range_succ_eq_map,List.all_cons,List.all_map]
  rw[leq_all (l:=l) (r:=r) h]
  rfl
def xLCmp(ne:Bool):Ext:=⟨2,fun _=>0,false,fun d c _ objs _ _ _=>match c with
 | .call (.builtin id) ⟨[.ref a,.ref b],[]⟩=>match idB id (bif ne then 116512115458775698011089517 else 116512336171186236184357485) with
  |true=>match objs with
   |[(y,⟨.type T,none,.seq vs n,⟨[]⟩⟩),(y2,⟨.type T2,none,.seq vs2 n2,⟨[]⟩⟩)]=>match idB T 1970563693 with
    |true=>match idB T2 1970563693 with
     |true=>some ⟨.ok (.ret (.bool (tfB d))),[],[],[(.n a,.n y),(.n b,.n y2)],[(.b (leq vs.toList vs2.toList),.b (ne != tfB d)),(.b (vs.size != vs2.size || xf vs.toList vs2.toList),.b true)]⟩
     |false=>none
    |false=>none
   | _=>none
  |false=>none
 | _=>none⟩
theorem wD{w:World}{tl:zh}{ne:Bool}:zH w tl (xLCmp ne):=by
 intro prog s d c wh objs gs hm hg _ _
 refine⟨[],.of 0,rfl,zw,fun r hr hl hp=>?_⟩
 simp only[xLCmp] at hr
 split at hr<;>try(cases hr;done)
 rename_i id a b
 split at hr<;>try(cases hr;done)
 rename_i hid
 have hid:=zv hid (s:=bif ne then "list.__ne__" else "list.__eq__") (by cases ne<;>decide +kernel)
 subst hid
 split at hr<;>try(cases hr;done)
 rename_i y T vs n y2 T2 vs2 n2
 split at hr<;>try(cases hr;done)
 rename_i hT
 have hT:=zv hT (s:= "list") (by decide +kernel)
 subst hT
 split at hr<;>try(cases hr;done)
 rename_i hT
 have hT:=zv hT (s:= "list") (by decide +kernel)
 subst hT
 simp only[Option.some.injEq] at hr
 subst hr
 have e1:a=y:=LV.n.inj (hl _ (.head _))
 have e2:b=y2:=LV.n.inj (hl _ (.tail _ (.head _)))
 have e3:=LV.b.inj (hp _ (.head _))
 have e4:=LV.b.inj (hp _ (.tail _ (.head _)))
 subst e1 e2
 have h1:=hg _ (.head _)
 have h2:=hg _ (.tail _ (.head _))
 refine⟨s,?_,Eff.toks⟩
 by_cases hs:(vs.size != vs2.size)=true
 ·have e5:leq vs.toList vs2.toList=false:=leq_size (by simpa using hs)
  rw[e5] at e3
  cases ne with
  |false=>
   rw[show tfB d=false by cases h:tfB d<;>rw[h] at e3<;>first|rfl|cases e3]
   exact zO PySem.F.slot_list_eq ⟨_,h1,rfl⟩ PySem.F.entry_list_eq (PySem.F.args_list_eq_2 _ _) (SeqAt.list_eq_lengthsAt a b vs vs2 n n2 none none #[] #[] hs) ⟨h1,h2,rfl,rfl⟩
  |true=>
   rw[show tfB d=true by cases h:tfB d<;>rw[h] at e3<;>first|rfl|cases e3]
   exact zO PySem.F.slot_list_ne ⟨_,h1,rfl⟩ PySem.F.entry_list_ne (PySem.F.args_list_ne_2 _ _) (SeqAt.list_ne_lengthsAt a b vs vs2 n n2 none none #[] #[] hs) ⟨h1,h2,rfl,rfl⟩
 ·have e5:xf vs.toList vs2.toList=true:=by
   rw[Bool.eq_false_iff.mpr hs] at e4;exact e4
  obtain⟨hl,H⟩:=leqOk_at e5
  have hsz:vs.size=vs2.size:=by simpa using hs
  have ha:=leq_all e5
  rw[e3] at ha
  have hE:∀(A:Around) (j:Nat) (h1:j < vs.size) (h2:j < vs2.size),SeqAt.EqAt A s vs[j] vs2[j] (eqV (vs.toList[j]?.getD .none) (vs2.toList[j]?.getD .none)):=fun A j h1 h2=>by
   obtain⟨x,t,y,u,e1,e2⟩:=H j (by simpa using h1) (by simpa using h2)
   have e1':vs[j]=.str x t:=by simpa using e1
   have e2':vs2[j]=.str y u:=by simpa using e2
   have f1:vs.toList[j]?.getD .none=.str x t:=by simp[h1,e1']
   have f2:vs2.toList[j]?.getD .none=.str y u:=by simp[h2,e2']
   rw[f1,f2,e1',e2']
   exact SeqAt.EqAt.str_str x t y u
  cases ne with
  |false=>
   refine zO PySem.F.slot_list_eq ⟨_,h1,rfl⟩ PySem.F.entry_list_eq (PySem.F.args_list_eq_2 _ _) (SeqAt.list_eqAt a b vs vs2 n n2 none none #[] #[] hsz fun j=>eqV (vs.toList[j]?.getD .none) (vs2.toList[j]?.getD .none)) ⟨h1,h2,fun j h1 h2=>hE _ j h1 h2,?_,rfl⟩
   rw[Array.length_toList] at ha
   rw[←ha]
   simp
  |true=>
   refine zO PySem.F.slot_list_ne ⟨_,h1,rfl⟩ PySem.F.entry_list_ne (PySem.F.args_list_ne_2 _ _) (SeqAt.list_neAt a b vs vs2 n n2 none none #[] #[] hsz fun j=>eqV (vs.toList[j]?.getD .none) (vs2.toList[j]?.getD .none)) ⟨h1,h2,fun j h1 h2=>hE _ j h1 h2,?_,rfl⟩
   rw[Array.length_toList] at ha
   rw[←ha]
   simp
def ww:List Value→Int
 | .int i _::r=>i+ww r
 | _::r=>ww r
 |[]=>0
def allI:List Value→Bool
 | .int _ _::r=>allI r
 | _::_=>false
 |[]=>true
def atI(vs:Array Value)(i:Nat):Int:=match vs[i]? with
 |some (.int i _)=>i
 | _=>0
theorem allI_at:∀{l:List Value},allI l=true→∀(i:Nat) (v:Value),l[i]?=some v→∃n t,v=Value.int n t
 | .int n t::r,h,0,v,e=>⟨n,t,by simpa using e.symm⟩
 | .int n t::r,h,i+1,v,e=>allI_at (l:=r) h i v (by simpa using e)
 |[],_,i,v,e=>by simp at e
theorem sumV_pre:∀(l:List Value) (f:Nat→Int) (k:Nat),(∀i,f (k+i)=match l[i]? with|some (.int i _)=>i | _=>0)→preSum f (k+l.length)=preSum f k+ww l
 |[],f,k,_=>by simp[ww]
 |v::r,f,k,h=>by
  have ih:=sumV_pre r f (k+1) fun i=>by rw[Nat.add_assoc,Nat.add_comm 1 i,h (i+1)];simp
  have h0:=h 0
  rw[List.length_cons,Nat.add_comm r.length 1,←Nat.add_assoc,ih]
  show preSum f k+f k+ww r=_
  simp only[Nat.add_zero,List.getElem?_cons_zero] at h0
  rw[h0]
  cases v<;>simp[ww,Int.add_assoc]
def xSumL:Ext:=mkG 1 (fun _=>0) false (fun _ c wh objs gs=>match c with
 | .call (.builtin id) ⟨[.ref a],[]⟩=>match idB id 7239284 with
  |true=>match objs with
   |[(y,⟨.type T,none,.seq vs n,⟨[]⟩⟩)]=>match idB T 1970563693 with
    |true=>some (a,y,vs)
    |false=>none
   | _=>none
  |false=>none
 | _=>none) (fun y=>[(.n y.1,.n y.2.1)]) (fun y=>[(.b (allI y.2.2.toList),.b true)]) (fun y _ t=>⟨.ok (.ret (.int (ww y.2.2.toList) (t.tok 0))),[],[]⟩)
theorem xSumL_ok{C:Cfg}{w:World}{F:List Frame}(U:Under C F):ExtOk C w F xSumL:=by
 refine ExtOk.leafM U fun prog s d c wh objs gs y hm hg hgs ht hy hlg hp=>?_
 split at hy<;>try(cases hy;done)
 rename_i id a
 split at hy<;>try(cases hy;done)
 rename_i hid
 have hid:=zv hid (s:= "sum") (by decide +kernel)
 subst hid
 split at hy<;>try(cases hy;done)
 rename_i y' T vs n
 split at hy<;>try(cases hy;done)
 rename_i hT
 have hT:=zv hT (s:= "list") (by decide +kernel)
 subst hT
 simp only[Option.some.injEq] at hy
 subst hy
 have e1:a=y':=LV.n.inj (hlg _ (.head _))
 have e2:=LV.b.inj (hp _ (.head _))
 subst e1
 have h1:=hg _ (.head _)
 have hL:s.heap.IsList a vs:=⟨_,h1,rfl,n,rfl⟩
 have hlt:a < s.heap.objs.size:=Heap.lt_size h1
 have hpre:preSum (atI vs) vs.size=ww vs.toList:=by
  have:=sumV_pre vs.toList (atI vs) 0 fun i=>by
   simp only[Nat.zero_add,atI,Array.getElem?_toList]
  rw[Nat.zero_add,Array.length_toList] at this
  rw[this]
  show 0+_=_
  omega
 have key:wpAny (model prog w) (yf wh) (call (.builtin "sum") [.ref a]) (fun v s₁=>∃t,v=.int (ww vs.toList) t∧Moved [s.heap.objs.size] (fun a b=>b=a) s s₁) (fun _ _=>False) s:=by
  refine call_sum_walkAnyS (wpAny_pyIter_list hL ?_)
  refine⟨s.heap.objs.size,[s.heap.objs.size,a],[s.heap.objs.size],_,vs.size,_,_,atI vs,rfl,(Walks.list rfl s.heap.objs.size a (Nat.ne_of_lt hlt) vs).toS,⟨⟨_,Heap.get?_push_size _ rfl,rfl,rfl⟩,hL.push _⟩,fun b hb=>?_,fun i v hv=>?_,fun s' t' hm=>⟨t',by rw[hpre],?_⟩⟩
  ·rw[show ({ s with heap:=s.heap.push _ }:Shared).heap.objs.size=s.heap.objs.size+1 from Heap.size_push ..]
   simp only[List.mem_cons,List.not_mem_nil,or_false] at hb
   rcases hb with rfl|rfl
   ·exact Nat.lt_succ_self _
   ·exact Nat.lt_succ_of_lt hlt
  ·obtain⟨m,t,rfl⟩:=allI_at e2 i v (by rw[Array.getElem?_toList];exact hv)
   exact⟨t,by simp only[atI,hv]⟩
  ·exact⟨fun b o hb e=>hm.heap b o hb (Heap.get?_push_of_some _ e),hm.gens,hm.drawn,hm.os,hm.toks⟩
 intro Γ p hh hw
 refine wpCode_mono ?_ (CallsAt.of_wpAny key Γ p hh hw)
 rintro r s' ⟨v,rfl,t,rfl,hm⟩
 refine⟨[],.of t,rfl,fun z hz=>(by cases hz),rfl,?_⟩
 exact⟨fun x o h q=>hm.heap x o (fun hb=>by
  rw[List.mem_singleton] at hb;subst hb
  exact absurd (Heap.lt_size h) (Nat.lt_irrefl _)) h,fun p hp=>by simp at hp,fun p hp=>by simp at hp,List.nodup_nil,fun g st h _=>by rw[hm.gens];exact h,fun h=>by rw[hm.gens];exact h,hm.os⟩
def xE(v l:Nat):Obj:=⟨.type "range_iterator", none,.fields #[.int (.ofNat v) 0,.int (.ofNat l) 0,.int 1 0],#[]⟩
def xRIterU(n:Nat):Ext:=⟨1,fun _=>1,false,fun d c _ objs _ xs _=>match objs with
 |[(y,⟨.type T,none,.fields ⟨[.int a ta,.int b tb,.int s ts]⟩,⟨[]⟩⟩)]=>match idB T 439838794355 with
  |true=>match xs with
   |[x]=>some ⟨.ok (.ret (.ref x)),[],[xE 1 (n - 1)],[(.c c,.c (.call (.builtin "range.__iter__") ⟨[.ref y],[]⟩))],[(.i a,.i 1),(.i b,.i (.ofNat n)),(.i s,.i 1),small n]⟩
   | _=>none
  |false=>none
 | _=>none⟩
theorem xRIterU_ok{w:World}{tl:zh}{n:Nat}:zH w tl (xRIterU n):=by
 intro prog s d c wh objs gs hm hg _ _
 refine⟨[s.heap.objs.size],.of 0,rfl,yo,fun r hr hl hp=>?_⟩
 simp only[xRIterU] at hr
 split at hr<;>try(cases hr;done)
 rename_i y T a ta b tb st ts
 split at hr<;>try(cases hr;done)
 rename_i hT
 have hT:=zv hT (s:= "range") (by decide +kernel)
 subst hT
 simp only[Option.some.injEq] at hr
 subst hr
 have e1:c=.call (.builtin "range.__iter__") ⟨[.ref y],[]⟩:=LV.c.inj (hl _ (.head _))
 have e2:a=1:=LV.i.inj (hp _ (.head _))
 have e3:b=.ofNat n:=LV.i.inj (hp _ (.tail _ (.head _)))
 have e4:st=1:=LV.i.inj (hp _ (.tail _ (.tail _ (.head _))))
 have hn:=of_decide_eq_true (LV.b.inj (hp _ (.tail _ (.tail _ (.tail _ (.head _))))))
 subst e1 e2 e3 e4
 have h1:=hg _ (.head _)
 have hsz:Builtin.Range.rangeSize 1 (Int.ofNat n) 1=Int.ofNat (n - 1):=by
  simp only[Builtin.Range.rangeSize,Int.ofNat_eq_natCast]
  rw[if_pos (by omega)]
  by_cases h0:(1:Int) < n
  ·rw[if_pos h0];show ((n:Int) - 1 - 1) / 1+1=_;omega
  ·rw[if_neg h0];omega
 have hc0:(!(Builtin.Range.rangeFitsLong 1 && Builtin.Range.rangeFitsLong (Int.ofNat n) && Builtin.Range.rangeFitsLong 1 && Builtin.Range.rangeFitsLong (Builtin.Range.rangeSize 1 (Int.ofNat n) 1) && (Builtin.Range.rangeSize 1 (Int.ofNat n) 1==0 || if (1:Int) > 0 then Builtin.Range.rangeFitsLong (Int.ofNat n+(1 - 1)) else Builtin.Range.rangeFitsLong (Int.ofNat n+(1+1)))))=false:=by
  rw[hsz,if_pos (by omega)]
  rw[u4 (i:=Int.ofNat n) (by simp only[Int.ofNat_eq_natCast];omega) (by simp only[Int.ofNat_eq_natCast];omega),u4 (i:=1) (by omega) (by omega),u4 (i:=Int.ofNat (n - 1)) (by simp only[Int.ofNat_eq_natCast];omega) (by simp only[Int.ofNat_eq_natCast];omega),u4 (i:=Int.ofNat n+(1 - 1)) (by simp only[Int.ofNat_eq_natCast];omega) (by simp only[Int.ofNat_eq_natCast];omega)]
  simp
 refine⟨{ s with heap:=s.heap.push (xE 1 (n - 1)) },zO PySem.F.slot_range_iter ⟨_,h1,rfl⟩ PySem.F.entry_range_iter (PySem.F.args_range_iter_1 _) (AutoRange.range___iter___range_1 y _ _ _ ta tb ts (by rw[hc0];decide)) ⟨h1,?_⟩,Eff.push (tk:=s.toks) rfl⟩
 rw[Bool.not_eq_false'] at hc0
 rw[if_pos (by first|exact hc0|(rw[hsz] at hc0 ⊢;exact hc0)),hsz]
 exact⟨rfl,rfl⟩
def xRNextU:Ext:=bx 9231062798198206674541908477283886571094360729114862195 2341386987387381298277481238717043 1 (fun d=>match d with|1=>0 | _=>2) fun d rest o others xs t=>match o.data with
 | .fields ⟨[.int (.ofNat v) t1,.int (.ofNat l) t2,.int s t3]⟩=>match rest with
  |[]=>match d with
   |1=>some ⟨.ok (.ret (.int (.ofNat v) (t.tok 0))),some (.fields #[.int (.ofNat (v+1)) 0,.int (.ofNat (l - 1)) 0,.int 1 0]),[],[(.n t1,.n 0),(.n t2,.n 0),(.n t3,.n 0)],[(.i s,.i 1),(.b (decide (0 < l)),.b true)]⟩
   | _=>match xs with
    |[x1,x2]=>some ⟨.error (.ref x2),none,[ve,xq x1],[(.n t1,.n 0),(.n t2,.n 0),(.n t3,.n 0)],[(.n l,.n 0)]⟩
    | _=>none
  | _=>none
 | _=>none
theorem xRNextU_ok{w:World}{tl:zh}:zH w tl xRNextU:=by
 refine bx_ok (id:= "range_iterator.__next__") (T:= "range_iterator") (by decide +kernel) (by decide +kernel) PySem.F.slot_range_iterator_next PySem.F.entry_range_iterator_next ?_
 intro prog A s d rest a dd dt sl others hh ha hO
 by_cases hd:d=1
 ·subst hd
  refine⟨[],.of s.toks,rfl,zw,fun r hr hl hp=>?_⟩
  dsimp only at hr
  split at hr<;>try(cases hr;done)
  rename_i v t1 l t2 st t3
  split at hr<;>try(cases hr;done)
  simp only[Option.some.injEq] at hr
  subst hr
  have e2:t1=0:=LV.n.inj (hl _ (.head _))
  have e3:t2=0:=LV.n.inj (hl _ (.tail _ (.head _)))
  have e4:t3=0:=LV.n.inj (hl _ (.tail _ (.tail _ (.head _))))
  have e5:st=1:=LV.i.inj (hp _ (.head _))
  have e6:=of_decide_eq_true (LV.b.inj (hp _ (.tail _ (.head _))))
  subst e2 e3 e4 e5
  have ev:Int.ofNat v+1=Int.ofNat (v+1):=rfl
  have el:Int.ofNat l - 1=Int.ofNat (l - 1):=by simp only[Int.ofNat_eq_natCast];omega
  have hn:¬Int.ofNat l≤0:=by simp only[Int.ofNat_eq_natCast];omega
  refine⟨PySem.F.args_range_iterator_next_1 _,{ s with heap:=(s.heap.update a (Obj.mapFields fun x_1=>x_1.setIfInBounds 0 (rawInt (Int.ofNat v+1)))).update a (Obj.mapFields fun x=>x.setIfInBounds 1 (rawInt (Int.ofNat l - 1))),toks:=s.toks+1 },?_,fun more gs=>?_⟩
  ·show wpAny _ _ (field (.ref a) 0 >>= _) _ _ s
   refine wpAny_bind (wpAny_field ha rfl (x:=rawInt (Int.ofNat v)) rfl ?_)
   show wpAny _ _ (field (.ref a) 1 >>= _) _ _ s
   refine wpAny_bind (wpAny_field ha rfl (x:=rawInt (Int.ofNat l)) rfl ?_)
   show wpAny _ _ (field (.ref a) 2 >>= _) _ _ s
   refine wpAny_bind (wpAny_field ha rfl (x:=rawInt 1) rfl ?_)
   show wpAny _ _ (if Int.ofNat l≤0 then _ else _) _ _ s
   rw[if_neg hn]
   have g1:=Heap.get?_update_self (Obj.mapFields fun x_1=>x_1.setIfInBounds 0 (rawInt (Int.ofNat v+1))) ha rfl
   show wpAny _ _ (setField (.ref a) 0 (rawInt (Int.ofNat v+1)) >>= _) _ _ s
   refine wpAny_bind (wpAny_setField ha rfl (by simp) ?_)
   show wpAny _ _ (setField (.ref a) 1 (rawInt (Int.ofNat l - 1)) >>= _) _ _ _
   refine wpAny_bind (wpAny_setField g1 rfl (by simp) ?_)
   exact wpAny_bind (wpAny_mkInt (wpAny_pure ⟨_,rfl,rfl,rfl⟩))
  ·have g1:=Heap.get?_update_self (Obj.mapFields fun x_1=>x_1.setIfInBounds 0 (rawInt (Int.ofNat v+1))) ha rfl
   have g2:=Heap.get?_update_self (Obj.mapFields fun x=>x.setIfInBounds 1 (rawInt (Int.ofNat l - 1))) g1 rfl
   refine⟨fun x o hx hne=>?_,fun p hp _=>?_,fun p hp=>(by simp at hp),List.nodup_nil,fun _ _ h _=>h,id,rfl⟩
   ·have hxy:a≠x:=hne _ (.head _)
    exact(Heap.get?_update_other _ _ hxy).trans ((Heap.get?_update_other _ _ hxy).trans hx)
   ·simp only[wJ,List.map_cons,List.zip_cons_cons,List.zip_nil_right,List.mem_singleton] at hp
    subst hp
    refine g2.trans ?_
    rw[ev,el]
    rfl
 ·refine⟨[s.heap.objs.size,s.heap.objs.size+1],.of 0,by
   split
   ·exact absurd rfl hd
   ·rfl,xO,fun r hr hl hp=>?_⟩
  dsimp only at hr
  split at hr<;>try(cases hr;done)
  rename_i v t1 l t2 st t3
  split at hr<;>try(cases hr;done)
  split at hr
  ·exact absurd rfl hd
  ·simp only[Option.some.injEq] at hr
   subst hr
   have e2:t1=0:=LV.n.inj (hl _ (.head _))
   have e3:t2=0:=LV.n.inj (hl _ (.tail _ (.head _)))
   have e4:t3=0:=LV.n.inj (hl _ (.tail _ (.tail _ (.head _))))
   have e5:l=0:=LV.n.inj (hp _ (.head _))
   subst e2 e3 e4 e5
   refine⟨PySem.F.args_range_iterator_next_1 _,{ s with heap:=(s.heap.push ve).push (xq s.heap.objs.size) },?_,fun more gs=>Eff.push2 (tk:=s.toks) rfl rfl⟩
   show wpAny _ _ (field (.ref a) 0 >>= _) _ _ s
   refine wpAny_bind (wpAny_field ha rfl (x:=rawInt (Int.ofNat v)) rfl ?_)
   show wpAny _ _ (field (.ref a) 1 >>= _) _ _ s
   refine wpAny_bind (wpAny_field ha rfl (x:=rawInt 0) rfl ?_)
   show wpAny _ _ (field (.ref a) 2 >>= _) _ _ s
   refine wpAny_bind (wpAny_field ha rfl (x:=rawInt st) rfl ?_)
   show wpAny _ _ (if (0:Int)≤0 then _ else _) _ _ s
   rw[if_pos (by omega)]
   refine wpAny_bind (wpAny_rule (wpAny_bind ?_))
   show wpAny _ _ (newExc (.type "StopIteration") [] >>= _) _ _ _
   refine wpAny_bind ?_
   simp only[newExc,newTuple]
   refine wpAny_bind (wpAny_newObj_type ?_ (by size_fits))
   refine wpAny_bind (m:=firstArgMember _ _) (wpAny_of_eq (a:=Value.none) (by first|rfl|(simp only[firstArgMember];rfl)) ?_)
   refine wpAny_newObj_type ?_ (by size_fits)
   simp only[raiseNew]
   refine wpAny_bind (wpAny_handled ?_)
   rw[hh]
   refine wpAny_bind (wpAny_pure (wpAny_throw ⟨?_,?_⟩))
   ·simp
   ·simp[ve,xq]
def pgEnv(a0 cell:Addr):Env:={ scope:=uc (zs 25),locals:=a0,globals:=3,cells:=[(sLine,cell)],qual:=qPage,func:=some 350,code:=.ref 349,frame:=some a0,builtins:=0 }
def pgLoop(a0 cell it:Addr):Code:=.forLoop (forT lpFor) (.ref it) (forB lpFor) (forO lpFor) (pgEnv a0 cell)
inductive PgW where
 |o
 |b (v3:Value) (t3:Tok)
 |r (v3:Value) (t3:Tok)
 |br (v3:Value) (t3:Tok) (v4:Value) (t4:Tok)
 |rb (v3:Value) (t3:Tok) (v4:Value) (t4:Tok)
def PgW.ents(P:Params):PgW→List DictEntry
 | .o=>[]
 | .b v3 t3=>[ent P sBlanks t3 v3]
 | .r v3 t3=>[ent P sRow t3 v3]
 | .br v3 t3 v4 t4=>[ent P sBlanks t3 v3,ent P sRow t4 v4]
 | .rb v3 t3 v4 t4=>[ent P sRow t3 v3,ent P sBlanks t4 v4]
def PgW.k:PgW→Nat
 | .o=>6
 | .b ..=>7
 | .r ..=>7
 | .br ..=>8
 | .rb ..=>8
def PgW.blanks(x:Value)(t:Tok):PgW→PgW
 | .o=>.b x t
 | .b _ t3=>.b x t3
 | .r v3 t3=>.rb v3 t3 x t
 | .br _ t3 v4 t4=>.br x t3 v4 t4
 | .rb v3 t3 _ t4=>.rb v3 t3 x t4
def PgW.row(x:Value)(t:Tok):PgW→PgW
 | .o=>.r x t
 | .b v3 t3=>.br v3 t3 x t
 | .r _ t3=>.r x t3
 | .br v3 t3 _ t4=>.br v3 t3 x t4
 | .rb _ t3 v4 t4=>.rb x t3 v4 t4
inductive PgV where
 |n
 |th (v1:Value) (t1:Tok) (v2:Value) (t2:Tok) (R:List DictEntry) (k:Nat)
def PgV.ents(P:Params):PgV→List DictEntry
 | .n=>[]
 | .th v1 t1 v2 t2 R _=>ent P sTold t1 v1::ent P sHeld t2 v2::R
def PgV.k:PgV→Nat
 | .n=>4
 | .th _ _ _ _ _ k=>k
def PgV.set(v h:Value)(ta tb:Tok):PgV→PgV
 | .n=>.th v ta h tb [] 6
 | .th _ t1 _ t2 R k=>.th v t1 h t2 R k
structure PgL where
 g:PgF
 it:Addr
 tl:Addr
 ln:Addr
 sl:List (Str × Tok)
 i:Nat
 rm:Int
 tR:Tok
 V:PgV
 rows:List (Str × Tok)
 er:Nat
 line:List (Str × Tok)
 el:Nat
def PgL.fr(q:PgL)(P:Params)(V:PgV):Addr × Obj:=(q.g.a0,yp (q.g.ents P q.rm q.tR++V.ents P) V.k)
def PgL.code(q:PgL):Code:=pgLoop q.g.a0 q.g.cell q.it
def PgL.T(q:PgL)(P:Params):zh:=[(q.it,lIt q.tl q.i),(q.tl,zd (za q.sl) 0),q.fr P q.V,(q.g.cell,zU (.ref q.ln)),(q.g.ra,zd (za q.rows) q.er),(q.ln,zd (za q.line) q.el)]
section
variable (K:Wd) (b:Bag) (q:PgQ) (pos:Pos) (fA:Nat→Addr) (fT:Nat→Ch) (x:Value × Tok) (sl:List (Str × Tok)) (ep:Nat) (g0:Nat→Nat) (α:Nat→Addr) (τ:Nat→Ch) (γ:Nat→Nat)
def pgS2:Start:=⟨cfg K.P K.V (WK ([0,3],b)) 6 [],[xLAdd],[((pgZ q fA).dct,cmD K.P yy (some x)),((pgZ q fA).acc,zd (za sl) ep),(fA 0,yp ((pgG q fA fT).ents K.P q.rm q.tR) 4),(fA 1,zU (.ref (fA 3))),(fA 2,zd #[] 0),(fA 3,zd #[] 0)],[],kOf (u9 K b q pos fA fT g0) (.ok .next),(eo (u9 K b q pos fA fT g0)).code,⟨171,45,171,50⟩,[]⟩
def pgR2:Option Out:=(pgS2 K b q pos fA fT x sl ep g0).run α τ γ 25 [11,11,5,9,13,9,1,0,9,13,15,15,0,15,17]
def nlT(t:Tok):Str × Tok:=(⟨#[10]⟩,t)
def pgL0(q:PgQ)(fA:Nat→Addr)(fT:Nat→Ch)(sl:List (Str × Tok))(α:Nat→Addr)(τ:Nat→Ch):PgL:=⟨pgG q fA fT,α 2,α 1,fA 3,sl++[nlT ((τ 0).tok 0)],0,q.rm,q.tR,.n,[],0,[],0⟩
def pgX2:Exp:=⟨.call (pgLoop (fA 0) (fA 1) (α 2)) none false [] (kOf (pgR2 K b q pos fA fT x sl ep g0 α τ γ)),(eo (pgR2 K b q pos fA fT x sl ep g0 α τ γ)).code,⟨171,16,171,60⟩,[],
 [(α 2,lIt (α 1) 0),(α 1,zd (za sl++#[Value.str ⟨#[10]⟩ ((τ 0).tok 0)]) 0),(fA 0,yp ((pgG q fA fT).ents K.P q.rm q.tR) 4),(fA 1,zU (.ref (fA 3))),(fA 2,zd #[] 0),(fA 3,zd #[] 0)],[],[small (za sl++#[Value.str ⟨#[10]⟩ ((τ 0).tok 0)]).size]⟩
theorem pg_r2:lhs 6 [0,1,5,6,7,8] (pgR2 K b q pos fA fT x sl ep g0 α τ γ)=rhs 3 (pgX2 K b q pos fA fT x sl ep g0 α τ γ) (pgR2 K b q pos fA fT x sl ep g0 α τ γ):=by
 obtain⟨w,b1,b2,V0,hw⟩:=K
 cases b1<;>kernel_rfl
end
def uB:Pos:=⟨0,0,0,0⟩
def plXs(K:Wd)(p:Str × Tok):List Ext:=[wu 2 (.str p.1 p.2),zD 1,zS K.P 8 []]
def plS(K:Wd)(b:Bag)(q:PgL)(p:Str × Tok)(pos:Pos):Start:=mkS K (WK ([0,0,3],b)) 6 [] (plXs K p) (q.T K.P) q.code pos
section
variable (K:Wd) (b:Bag) (q:PgL) (p:Str × Tok) (pos:Pos) (α:Nat→Addr) (τ:Nat→Ch) (γ:Nat→Nat)
def plR(N:Nat)(tp:List Nat):Option Out:=(plS K b q p pos).run α τ γ N tp
def vj(x y:Str)(v:Bool):LV × LV:=(.v (.bool (x.cps.toList==y.cps.toList)),.v (.bool v))
def vP(x y:Str)(v:Bool):LV × LV:=(.v (.bool (x.cps.toList != y.cps.toList)),.v (.bool v))
def PgL.pcN(q:PgL)(p:Str × Tok):LV × LV:=(.ov (za q.sl)[q.i]?,.ov (some (.str p.1 p.2)))
def PgL.nx(q:PgL)(p:Str × Tok)(ta tb:Tok)(h:Addr):PgL:={ q with i:=q.i+1,V:=q.V.set (.str p.1 p.2) (.ref h) ta tb }
def tpA1:List Nat:=[11,1,1,11,9,7,3,7,3,7,3,2]
def tpA2:List Nat:=[11,1,1,11,9,7,3,7,3,7,3,1,7,3,2,5,1,1,1,1,7,2,0,1,7,3,2]
def tpA3:List Nat:=[11,1,1,11,9,7,3,7,3,7,3,1,7,3,2,5,1,1,1,1,7,2,0,1,7,3,1,7,6,0,5,1,1,0,1,15]
def tpA4:List Nat:=[11,1,1,11,9,7,3,7,3,7,3,1,7,3,1,5,0,1,1,1]
def tpAE:List Nat:=[11,1,0,11,9,15]
def cα(i:Nat):Addr:=7000+i
def cτ(_:Nat):Ch:=.of 0
def PgL.can(q:PgL):PgL:=⟨q.g,q.it,6001,q.ln,[],0,q.rm,q.tR,.th .none 0 .none 0 [] 6,[],0,[],0⟩
def pgK3:Result→Sem Fin:=kOf (plR K b q.can (⟨#[]⟩,0) uB α cτ id 74 tpA3)
def pgK4:Result→Sem Fin:=kOf (plR K b q.can (⟨#[]⟩,0) uB (fun _=>α 1) cτ id 48 tpA4)
theorem pg_aE:lhs 6 [4,5,6,7] (plR K b q p pos α τ γ 5 tpAE)=rhs 2 ⟨.pure (.done .next),.block (forO lpFor) (pgEnv q.g.a0 q.g.cell),⟨171,8,171,12⟩,[],[q.fr K.P q.V,(q.g.cell,zU (.ref q.ln)),(q.g.ra,zd (za q.rows) q.er),(q.ln,zd (za q.line) q.el)],[],[(.ov (za q.sl)[q.i]?,.ov none)]⟩ (plR K b q p pos α τ γ 5 tpAE):=by
 obtain⟨w,b1,b2,V0,hw⟩:=K
 obtain⟨g,it,tl,ln,sl,i,rm,tR,V,rows,er,line,el⟩:=q
 cases b1<;>cases V<;>kernel_rfl
theorem pg_a1:lhs 6 [1,2,3,4,5,6] (plR K b q p pos α τ γ 28 tpA1)=rhs 1 ⟨.pure (.again q.code),q.code,⟨174,12,174,20⟩,[],(q.nx p ((τ 1).tok 0) ((τ 2).tok 0) (α 0)).T K.P,[],[vj p.1 ⟨#[]⟩ true,q.pcN p]⟩ (plR K b q p pos α τ γ 28 tpA1):=by
 obtain⟨w,b1,b2,V0,hw⟩:=K
 obtain⟨g,it,tl,ln,sl,i,rm,tR,V,rows,er,line,el⟩:=q
 cases b1<;>cases V<;>kernel_rfl
def PgL.fr'(q:PgL)(K:Wd)(p:Str × Tok)(ta tb:Tok)(h:Addr):Addr × Obj:=q.fr K.P (q.V.set (.str p.1 p.2) (.ref h) ta tb)
def PgL.T2(q:PgL)(K:Wd)(p:Str × Tok)(ta tb:Tok)(h:Addr)(e:Nat):zh:=[(q.it,lIt q.tl (q.i+1)),(q.tl,zd (za q.sl) 0),q.fr' K p ta tb h,(q.g.cell,zU (.ref q.ln)),(q.g.ra,zd (za q.rows) q.er),(q.ln,zd ((za q.line).push (.str p.1 p.2)) e)]
theorem pg_a2:lhs 6 [1,2,3,4,5,6] (plR K b q p pos α τ γ 56 tpA2)=rhs 1 ⟨.pure (.again q.code),q.code,⟨178,16,178,24⟩,[],q.T2 K p ((τ 1).tok 0) ((τ 2).tok 0) (α 0) ((τ 7).tok 0),[],[vj p.1 ⟨#[32]⟩ true,small (za q.line).size,vP p.1 ⟨#[10]⟩ true,vj p.1 ⟨#[]⟩ false,q.pcN p]⟩ (plR K b q p pos α τ γ 56 tpA2):=by
 obtain⟨w,b1,b2,V0,hw⟩:=K
 obtain⟨g,it,tl,ln,sl,i,rm,tR,V,rows,er,line,el⟩:=q
 cases b1<;>cases V<;>kernel_rfl
def ifE:Stmt→Expr
 | .If e _ _ _=>e
 | _=>.Constant .none 0 ⟨0,0,0,0⟩
def boR:Expr→Expr
 | .BoolOp _ [_,e] _=>e
 |e=>e
def cmL:Expr→Expr
 | .Compare e _ _ _=>e
 |e=>e
def binR:Expr→Expr
 | .BinOp _ _ r _=>r
 |e=>e
def arg0:Expr→Expr
 | .Call _ [a] _ _=>a
 |e=>e
def asgR:Stmt→Expr
 | .Assign _ e _=>e
 | _=>.Constant .none 0 ⟨0,0,0,0⟩
def lpIf:Stmt:=sAt (forB lpFor) 2
def lensE:Expr:=arg0 (binR (cmL (boR (ifE (sAt (ifB lpIf) 1)))))
def lensEnv(z:CmA):Env:=cmEnv lensE z.dct qPage 349 z.a0
def lensZ(q:PgL)(α:Nat→Addr):CmA:=⟨q.g.a0,q.ln,α 1,α 2,α 3⟩
theorem pg_a3:lhs 6 [2,1,0,9,4,5,6,7,8] (plR K b q p pos α τ γ 74 tpA3)=rhs 4 ⟨.call (ye lensE (lensEnv (lensZ q α)) (lensZ q α)) none true (lOf (plR K b q p pos α τ γ 74 tpA3)) (pgK3 K b q α),q.code,⟨177,66,177,70⟩,[],
  (α 1,lIt q.ln 0)::(α 2,zd #[] 0)::(α 3,dictO [] 0)::(q.ln,zd ((za q.line).push (.str p.1 p.2)) ((τ 7).tok 0))::(q.T2 K p ((τ 1).tok 0) ((τ 2).tok 0) (α 0) 0).take 5,[],[vj p.1 ⟨#[32]⟩ false,small (za q.line).size,vP p.1 ⟨#[10]⟩ true,vj p.1 ⟨#[]⟩ false,q.pcN p]⟩ (plR K b q p pos α τ γ 74 tpA3):=by
 obtain⟨w,b1,b2,V0,hw⟩:=K
 obtain⟨g,it,tl,ln,sl,i,rm,tR,V,rows,er,line,el⟩:=q
 cases b1<;>cases V<;>kernel_rfl
def slO(l h:Value):Obj:=⟨.type "slice", none,.fields #[l,h,.none],#[]⟩
def PgL.T4(q:PgL)(K:Wd)(sa:Addr)(ts:Tok)(h:Addr):zh:=[(sa,slO (.int (.negSucc 0) ts) .none),(h,zd #[] 0)]++q.T K.P
theorem pg_a4:lhs 6 [0,1,2,3,4,5,6,7] (plR K b q p pos α τ γ 48 tpA4)=rhs 2 ⟨.call (.call (.builtin "list.__getitem__") ⟨[.ref q.ln,.ref (α 1)],[]⟩) none false (lOf (plR K b q p pos α τ γ 48 tpA4)) (pgK4 K b q α),q.code,⟨189,11,189,20⟩,[],
  (q.nx p ((τ 1).tok 0) ((τ 2).tok 0) (α 0)).T4 K (α 1) ((τ 8).tok 0) (α 0),[],[vP p.1 ⟨#[10]⟩ false,vj p.1 ⟨#[]⟩ false,q.pcN p]⟩ (plR K b q p pos α τ γ 48 tpA4):=by
 obtain⟨w,b1,b2,V0,hw⟩:=K
 obtain⟨g,it,tl,ln,sl,i,rm,tR,V,rows,er,line,el⟩:=q
 cases b1<;>cases V<;>kernel_rfl
end
structure PfQ where
 q:PgL
 sa:Addr
 ts:Tok
 h:Addr
 ho:Obj
 ys1:Array Value
 ys2:Array Value
 rl:List (Str × Tok)
 S:Str
 l:List Value
def PfQ.T(z:PfQ)(K:Wd)(V:PgV):zh:=[(z.sa,slO (.int (.negSucc 0) z.ts) .none),(z.h,z.ho),(z.q.it,lIt z.q.tl z.q.i),(z.q.tl,zd (za z.q.sl) 0),z.q.fr K.P V,(z.q.g.cell,zU (.ref z.q.ln)),(z.q.g.ra,zd (za z.q.rows) z.q.er),(z.q.ln,zd (za z.q.line) z.q.el)]
def pfXs(K:Wd)(z:PfQ):List Ext:=[uO 2 z.ys1,xLCmp false,uO 2 z.ys2,um z.rl z.S]
def pfCur(K:Wd)(b:Bag)(z:PfQ):Sem Fin:=.call (.call (.builtin "list.__getitem__") ⟨[.ref z.q.ln,.ref z.sa],[]⟩) none false z.l (pgK4 K b z.q fun _=>z.sa)
def pfS(K:Wd)(b:Bag)(z:PfQ)(V:PgV)(pos:Pos):Start:=⟨cfg K.P K.V (WK ([0,0,3],b)) 8 [],pfXs K z,z.T K V,[],pfCur K b z,z.q.code,pos,[]⟩
def tpF0:List Nat:=[1,0,1,15,17,19,17,2,0,17,19,5,4,0,1,7,3,7,3,21,3]
def tpF1:List Nat:=[1,0,1,15,17,19,17,2,1,17,19,5,0,1,1,1,3,0,1,21,5,2,5,4,0,23,7,3,7,3,25,3]
section
variable (K:Wd) (b:Bag) (z:PfQ) (v1:Value) (t1:Tok) (t2:Tok) (w:PgW) (pos:Pos) (α:Nat→Addr) (τ:Nat→Ch) (γ:Nat→Nat)
def PfQ.V(z:PfQ)(K:Wd)(v1:Value)(t1 t2:Tok)(w:PgW):PgV:=.th v1 t1 (.ref z.h) t2 (w.ents K.P) w.k
def pfR(N:Nat)(tp:List Nat):Option Out:=(pfS K b z (z.V K v1 t1 t2 w) pos).run α τ γ N tp
def PfQ.can(q:PgL):PfQ:=⟨q.can,6003,0,6004,zd #[] 0,#[],#[],[],⟨#[]⟩,[]⟩
def pgKN(q:PgL)(na:Addr):Result→Sem Fin:=kOf ((pfS K b (PfQ.can q) ((PfQ.can q).V K .none 0 0 .o) uB).run (fun _=>na) cτ id 40 tpF0)
def PfQ.T2(z:PfQ)(K:Wd)(v1:Value)(t1 t2:Tok)(w:PgW)(na ln:Addr):zh:=[(na,zd #[] 0),(z.h,z.ho),(z.q.it,lIt z.q.tl z.q.i),(z.q.tl,zd (za z.q.sl) 0),z.q.fr K.P (z.V K v1 t1 t2 w),(z.q.g.cell,zU (.ref ln)),(z.q.g.ra,zd (za z.q.rows) z.q.er)]
def spcL(t:Tok):List Value:=[.str ⟨#[32]⟩ t]
def PfQ.pcJ(rl:List (Str × Tok))(S:Str)(A:Array Value):Lg:=[(.a A,.a (za rl)),(.s (Txt.join ⟨#[]⟩ (rl.map (·.1))),.s S),(.b (decide (((rl.map (·.1)).map Str.length).sum+rl.length*(⟨#[]⟩:Str).length≤1000)),.b true)]
def PfQ.pcE(z:PfQ)(t:Tok)(v:Bool):Lg:=[(.b (leq z.ys1.toList (spcL t)),.b v),(.b (z.ys1.size != 1 || xf z.ys1.toList (spcL t)),.b true),(.a (slicePick (za z.q.line) (some (Int.negSucc 0)) none none),.a z.ys1),small (za z.q.line).size]
def pfX(N:Nat)(tp:List Nat)(i:Nat)(T:zh)(pc:Lg):Exp:=⟨.call (.call (.builtin "list.__ne__") ⟨[.ref z.q.g.ra,.ref (α i)],[]⟩) none false (lOf (pfR K b z v1 t1 t2 w pos α τ γ N tp)) (pgKN K b z.q (α i)),z.q.code,⟨192,11,192,21⟩,[],T,[],pc⟩
theorem pg_f0:lhs 8 [0,4,5,6,7,8,9] (pfR K b z v1 t1 t2 w pos α τ γ 40 tpF0)=rhs 3 (pfX K b z v1 t1 t2 w pos α τ γ 40 tpF0 2 (z.T2 K v1 t1 t2 (w.row (.str z.S ((τ 4).tok 0)) ((τ 5).tok 0)) (α 2) z.q.ln) (PfQ.pcJ z.rl z.S (za z.q.line)++z.pcE ((τ 1).tok 0) false)) (pfR K b z v1 t1 t2 w pos α τ γ 40 tpF0):=by
 obtain⟨w',b1,b2,V0,hw⟩:=K
 cases b1<;>cases w<;>kernel_rfl
theorem pg_f1:lhs 8 [0,6,7,8,9,10,11] (pfR K b z v1 t1 t2 w pos α τ γ 61 tpF1)=rhs 5 (pfX K b z v1 t1 t2 w pos α τ γ 61 tpF1 4 (z.T2 K v1 t1 t2 (w.row (.str z.S ((τ 7).tok 0)) ((τ 8).tok 0)) (α 4) (α 3)) (PfQ.pcJ z.rl z.S z.ys2++[(.a (slicePick (za z.q.line) none (some (Int.negSucc 0)) none),.a z.ys2),small (za z.q.line).size]++z.pcE ((τ 1).tok 0) true)) (pfR K b z v1 t1 t2 w pos α τ γ 61 tpF1):=by
 obtain⟨w',b1,b2,V0,hw⟩:=K
 cases b1<;>cases w<;>kernel_rfl
end
def sItA(x:Str)(tx:Tok)(i:Nat):Obj:=⟨.type "str_ascii_iterator", none,.fields #[.str x tx,.int (.ofNat i) 0],#[]⟩
def uA:Bool→Str→Tok→Nat→Obj
 |true,x,tx,i=>sItA x tx i
 |false,x,tx,i=>sIt x tx i
def ul(asc:Bool):Ext:=⟨0,fun _=>1,false,fun _ c _ _ _ xs _=>match c with
 | .call (.builtin id) ⟨[.str x t],[]⟩=>match idB id 29827162783706237342122734964 with
  |true=>match xs with
   |[y]=>some ⟨.ok (.ret (.ref y)),[],[uA asc x t 0],[],[(.b (x.cps.all (· < 128)),.b asc)]⟩
   | _=>none
  |false=>none
 | _=>none⟩
theorem sItB_live(asc:Bool)(x:Str)(t:Tok)(i:Nat):(uA asc x t i).isFreed=false:=by cases asc<;>rfl
theorem xStrIterB_ok{w:World}{tl:zh}{asc:Bool}:zH w tl (ul asc):=by
 intro prog s d c wh objs gs hm hg _ _
 refine⟨[s.heap.objs.size],.of 0,rfl,yo,fun r hr hl hp=>?_⟩
 simp only[ul] at hr
 split at hr<;>try(cases hr;done)
 rename_i id x t
 split at hr<;>try(cases hr;done)
 rename_i hid
 have hid:=zv hid (s:= "str.__iter__") (by decide +kernel)
 subst hid
 simp only[Option.some.injEq] at hr
 subst hr
 have e:=LV.b.inj (hp _ (.head _))
 refine⟨{ s with heap:=s.heap.push (uA asc x t 0) },codeAny_call_builtin PySem.F.slot_str_iter.plain PySem.F.entry_str_iter (PySem.F.slot_str_iter.check _ _ _ _ _ _ _ _ (typeIs_str s x t) (PySem.F.args_str_iter_1 _) ?_),Eff.push (tk:=s.toks) (sItB_live ..)⟩
 show wpAny _ _ (newFields (if (true && x.cps.all (· < 128))=true then "str_ascii_iterator" else "str_iterator") [.str x t,rawInt 0] >>= fun r=>ret r) _ _ s
 rw[e]
 cases asc<;>exact wpAny_bind (wpAny_newObj_type (wpAny_pure ⟨rfl,rfl⟩))
def xSNextA(c:Nat):Ext:=bx 39647112825583545393006412691359451730623858335503063133055055220 10056180538108767159183876981558246666106228 1 (fun d=>match d with|1=>0 | _=>2) fun d rest o _ xs t=>match o.data with
 | .fields ⟨[.str x tx,.int (.ofNat i) ti]⟩=>match rest with
  |[]=>match d with
   |1=>some ⟨.ok (.ret (.str ⟨#[c]⟩ (t.tok 0))),some (.fields #[.str x tx,.int (.ofNat (i+1)) 0]),[],[],[(.ov (yH x.cps[i]?),.ov (some (.int (.ofNat c) 0)))]⟩
   | _=>match xs with
    |[x1,x2]=>some ⟨.error (.ref x2),some (.fields #[.none,.int (.ofNat i) ti]),[ve,xq x1],[],[(.ov (yH x.cps[i]?),.ov none)]⟩
    | _=>none
  | _=>none
 | _=>none
theorem xSNextA_ok{w:World}{tl:zh}{c:Nat}:zH w tl (xSNextA c):=by
 refine bx_ok (id:= "str_ascii_iterator.__next__") (T:= "str_ascii_iterator") (by decide +kernel) (by decide +kernel) PySem.F.slot_str_ascii_iterator_next PySem.F.entry_str_ascii_iterator_next ?_
 intro prog A s d rest a dd dt sl others hh ha hO
 by_cases hd:d=1
 ·subst hd
  refine⟨[],.of s.toks,rfl,zw,fun r hr hl hp=>?_⟩
  dsimp only at hr
  split at hr<;>try(cases hr;done)
  rename_i x tx i ti
  split at hr<;>try(cases hr;done)
  simp only[Option.some.injEq] at hr
  subst hr
  have hv:x.cps[i]?=some c:=by
   have h:=LV.ov.inj (hp _ (.head _))
   cases hx:x.cps[i]? with
   |none=>rw[hx] at h;cases h
   |some c'=>
    rw[hx] at h
    simp only[yH,Option.some.injEq,Value.int.injEq,Int.ofNat_eq_natCast,Int.natCast_inj,and_true] at h
    rw[h]
  refine⟨PySem.F.args_str_ascii_iterator_next_1 _,{ s with heap:=s.heap.update a (Obj.mapFields fun fs=>fs.setIfInBounds 1 (rawInt ((i:Int)+1))),toks:=s.toks+1 },?_,fun more gs=>Eff.upd (tk:=s.toks+1) ha (by simp[Obj.mapFields,rawInt]) rfl⟩
  show wpAny _ _ (field (.ref a) 0 >>= _) _ _ s
  refine wpAny_bind (wpAny_field ha rfl (x:=.str x tx) rfl ?_)
  show wpAny _ _ (field (.ref a) 1 >>= _) _ _ s
  refine wpAny_bind (wpAny_field ha rfl (x:=.int i ti) rfl ?_)
  simp only[Int.toNat_natCast,hv]
  refine wpAny_bind (wpAny_setField ha rfl (by simp) (wpAny_bind (wpAny_mkStr (wpAny_pure ⟨_,rfl,rfl,?_⟩))))
  rfl
 ·refine⟨[s.heap.objs.size,s.heap.objs.size+1],.of 0,by
   split
   ·exact absurd rfl hd
   ·rfl,xO,fun r hr hl hp=>?_⟩
  dsimp only at hr
  split at hr<;>try(cases hr;done)
  rename_i x tx i ti
  split at hr<;>try(cases hr;done)
  split at hr
  ·exact absurd rfl hd
  ·simp only[Option.some.injEq] at hr
   subst hr
   have hv:x.cps[i]?=none:=by
    have h:=LV.ov.inj (hp _ (.head _))
    cases hx:x.cps[i]? with
    |none=>rfl
    |some c'=>rw[hx] at h;cases h
   refine⟨PySem.F.args_str_ascii_iterator_next_1 _,{ s with heap:=((s.heap.update a (Obj.mapFields fun fs=>fs.setIfInBounds 0 .none)).push ve).push (xq s.heap.objs.size) },?_,fun more gs=>Eff.upd_push2 (tk:=s.toks) ha (by simp[Obj.mapFields]) rfl rfl rfl⟩
   show wpAny _ _ (field (.ref a) 0 >>= _) _ _ s
   refine wpAny_bind (wpAny_field ha rfl (x:=.str x tx) rfl ?_)
   show wpAny _ _ (field (.ref a) 1 >>= _) _ _ s
   refine wpAny_bind (wpAny_field ha rfl (x:=.int i ti) rfl ?_)
   simp only[Int.toNat_natCast,hv]
   refine wpAny_bind (wpAny_rule (wpAny_bind (wpAny_setField ha rfl (by simp) (wpAny_bind (wpAny_letGo ?_)))))
   show wpAny _ _ (newExc (.type "StopIteration") [] >>= _) _ _ _
   refine wpAny_bind ?_
   simp only[newExc,newTuple]
   refine wpAny_bind (wpAny_newObj_type ?_ (by size_fits))
   refine wpAny_bind (m:=firstArgMember _ _) (wpAny_of_eq (a:=Value.none) (by first|rfl|(simp only[firstArgMember];rfl)) ?_)
   refine wpAny_newObj_type ?_ (by size_fits)
   simp only[raiseNew]
   refine wpAny_bind (wpAny_handled ?_)
   rw[hh]
   refine wpAny_bind (wpAny_pure (wpAny_throw ⟨?_,?_⟩))
   ·simp
   ·simp[ve,xq]
def xStr0(c:Nat):Ext:=⟨0,fun _=>0,false,fun _ cd _ _ _ _ t=>match cd with
 | .call (.builtin id) ⟨[.str x tx,.int (.ofNat 0) u],[]⟩=>match idB id 500416356548588640944365259017385332 with
  |true=>some ⟨.ok (.ret (.str ⟨#[c]⟩ (t.tok 0))),[],[],[],[(.ov (yH x.cps[0]?),.ov (some (.int (.ofNat c) 0)))]⟩
  |false=>none
 | _=>none⟩
theorem signV_inj{x:Option Nat}{c:Nat}(h:LV.ov (yH x)=.ov (some (.int (.ofNat c) 0))):x=some c:=by
 have h:=LV.ov.inj h
 cases x with
 |none=>cases h
 |some c'=>
  simp only[yH,Option.some.injEq,Value.int.injEq,Int.ofNat_eq_natCast,Int.natCast_inj,and_true] at h
  rw[h]
theorem xStr0_ok{w:World}{tl:zh}{c:Nat}:zH w tl (xStr0 c):=by
 intro prog s d cd wh objs gs hm hg _ _
 refine⟨[],.of s.toks,rfl,zw,fun r hr hl hp=>?_⟩
 simp only[xStr0] at hr
 split at hr<;>try(cases hr;done)
 rename_i id x tx u
 split at hr<;>try(cases hr;done)
 rename_i hid
 have hid:=zv hid (s:= "str.__getitem__") (by decide +kernel)
 subst hid
 simp only[Option.some.injEq] at hr
 subst hr
 have e1:=signV_inj (hp _ (.head _))
 have hl':0 < x.length:=by
  have:=(Array.getElem?_eq_some_iff.mp e1).1
  exact this
 refine⟨{ s with toks:=s.toks+1 },y7 PySem.F.slot_str_getitem (typeIs_str s x tx) PySem.F.entry_str_getitem (PySem.F.args_str_getitem_2 _ _) (gives_str_getitem x (.ofNat 0) tx u c (by decide) ?_) ⟨(by show 1≤sizeLine;decide),rfl,rfl⟩,Eff.toks⟩
 have:seqIndex? (.ofNat 0) x.length=some 0:=by
  unfold seqIndex?
  simp[hl']
 rw[this]
 exact e1
structure PnQ where
 z:PfQ
 na:Addr
 ln:Addr
 v1:Value
 t1:Tok
 t2:Tok
 bl:Option (Value × Tok)
 t3:Tok
 t4:Tok
 R:List DictEntry
 k:Nat
def blE(P:Params):Option (Value × Tok)→List DictEntry→List DictEntry
 |none,l=>l
 |some (v,t),l=>ent P sBlanks t v::l
def PnQ.V(n:PnQ)(P:Params):PgV:=.th n.v1 n.t1 (.ref n.z.h) n.t2 (blE P n.bl (ent P sRow n.t3 (.str n.z.S n.t4)::n.R)) n.k
def PnQ.T(n:PnQ)(K:Wd):zh:=[(n.na,zd #[] 0),(n.z.h,n.z.ho),(n.z.q.it,lIt n.z.q.tl n.z.q.i),(n.z.q.tl,zd (za n.z.q.sl) 0),n.z.q.fr K.P (n.V K.P),(n.z.q.g.cell,zU (.ref n.ln)),(n.z.q.g.ra,zd (za n.z.q.rows) n.z.q.er)]
def pnXs(K:Wd)(asc:Bool):List Ext:=[xLCmp true,zS K.P 8 [],zD 1,ul asc]
def pnS(K:Wd)(b:Bag)(n:PnQ)(asc:Bool)(pos:Pos):Start:=⟨cfg K.P K.V (WK ([0,0,3],b)) 7 [],pnXs K asc,n.T K,[],.call (.call (.builtin "list.__ne__") ⟨[.ref n.z.q.g.ra,.ref n.na],[]⟩) none false n.z.l (pgKN K b n.z.q n.na),n.z.q.code,pos,[]⟩
def tpNa:List Nat:=[1,0,1,13,5,2,2,5,1,1,1,1,5,3,0,1,5,3,1,5,2]
def tpNb:List Nat:=[1,0,1,13,5,2,1,5,2,2,5,1,1,1,1,5,3,0,1,5,3,1,5,2]
def tpNc:List Nat:=[1,0,1,13,5,2,1,5,2,1,5,3,1,5,2]
def tpN1:List Nat:=[1,1,1,13,5,4,0,15]
def wsE:Expr:=cmL (boR (ifE (sAt (forB lpFor) 5)))
def wsEnv(z:CmA):Env:=cmEnv wsE z.dct qPage 349 z.a0
section
variable (K:Wd) (b:Bag) (n:PnQ) (asc:Bool) (pos:Pos) (α:Nat→Addr) (τ:Nat→Ch) (γ:Nat→Nat)
def pnR(N:Nat)(tp:List Nat):Option Out:=(pnS K b n asc pos).run α τ γ N tp
def PnQ.nx(n:PnQ)(t:Tok)(rows:Array Value)(e:Nat)(K:Wd):zh:=[(n.z.h,n.z.ho),(n.z.q.it,lIt n.z.q.tl n.z.q.i),(n.z.q.tl,zd (za n.z.q.sl) 0),{ n.z.q with rm:=0,tR:=t }.fr K.P (n.V K.P),(n.z.q.g.cell,zU (.ref n.z.h)),(n.z.q.g.ra,zd rows e)]
def gtI(a b:Int)(v:Bool):LV × LV:=(.v (.bool (decide (a > b))),.v (.bool v))
def PnQ.pcR(n:PnQ)(v:Bool):Lg:=[(.b (leq (za n.z.q.rows).toList []),.b (!v)),(.b ((za n.z.q.rows).size != 0 || xf (za n.z.q.rows).toList []),.b true)]
def PnQ.X(n:PnQ)(T:zh)(pc:Lg):Exp:=⟨.pure (.again n.z.q.code),n.z.q.code,⟨197,8,197,12⟩,[],T,[],pc⟩
theorem pn_a:lhs 7 [1,2,3,4,5,6] (pnR K b n asc pos α τ γ 40 tpNa)=rhs 0 (n.X (n.nx ((τ 4).tok 0) ((za n.z.q.rows).push (.str n.z.S n.t4)) ((τ 3).tok 0) K) (small (za n.z.q.rows).size::gtI n.z.q.rm 0 true::n.pcR false)) (pnR K b n asc pos α τ γ 40 tpNa):=by
 obtain⟨w',b1,b2,V0,hw⟩:=K
 obtain⟨z,na,ln,v1,t1,t2,bl,t3,t4,R,k⟩:=n
 cases b1<;>cases bl<;>kernel_rfl
theorem pn_b:lhs 7 [1,2,3,4,5,6] (pnR K b n asc pos α τ γ 46 tpNb)=rhs 0 (n.X (n.nx ((τ 6).tok 0) ((za n.z.q.rows).push (.str n.z.S n.t4)) ((τ 5).tok 0) K) (small (za n.z.q.rows).size::vP n.z.S ⟨#[]⟩ true::gtI n.z.q.rm 0 false::n.pcR false)) (pnR K b n asc pos α τ γ 46 tpNb):=by
 obtain⟨w',b1,b2,V0,hw⟩:=K
 obtain⟨z,na,ln,v1,t1,t2,bl,t3,t4,R,k⟩:=n
 cases b1<;>cases bl<;>kernel_rfl
theorem pn_c:lhs 7 [1,2,3,4,5,6] (pnR K b n asc pos α τ γ 32 tpNc)=rhs 0 (n.X (n.nx ((τ 5).tok 0) (za n.z.q.rows) n.z.q.er K) (vP n.z.S ⟨#[]⟩ false::gtI n.z.q.rm 0 false::n.pcR false)) (pnR K b n asc pos α τ γ 32 tpNc):=by
 obtain⟨w',b1,b2,V0,hw⟩:=K
 obtain⟨z,na,ln,v1,t1,t2,bl,t3,t4,R,k⟩:=n
 cases b1<;>cases bl<;>kernel_rfl
def PnQ.can(q:PgL):PnQ:=⟨PfQ.can q,6005,6006,.none,0,0,none,0,0,[],7⟩
def pgKC(q:PgL)(β:Nat→Addr):Result→Sem Fin:=kOf ((pnS K b (PnQ.can q) false uB).run β cτ id 10 tpN1)
def wsZ(q:PgL)(α:Nat→Addr):CmA:=⟨q.g.a0,0,α 0,α 1,α 2⟩
theorem pn_1:lhs 7 [2,1,0,4,5,6,7,8,9] (pnR K b n asc pos α τ γ 10 tpN1)=rhs 3 ⟨.call (ye wsE (wsEnv (wsZ n.z.q α)) (wsZ n.z.q α)) none true (lOf (pnR K b n asc pos α τ γ 10 tpN1)) (pgKC K b n.z.q α),n.z.q.code,⟨192,44,192,47⟩,[],
  (α 0,uA asc n.z.S n.t4 0)::(α 1,zd #[] 0)::(α 2,dictO [] 0)::(n.T K).tail,[],(.b (n.z.S.cps.all (· < 128)),.b asc)::n.pcR true⟩ (pnR K b n asc pos α τ γ 10 tpN1):=by
 obtain⟨w',b1,b2,V0,hw⟩:=K
 obtain⟨z,na,ln,v1,t1,t2,bl,t3,t4,R,k⟩:=n
 cases b1<;>cases bl<;>cases asc<;>kernel_rfl
end
structure PeQ where
 n:PnQ
 dct:Addr
 acc:Addr
 x:Option (Value × Tok)
 ws:Array Value
 e:Nat
 ys:Array Value
 F:Str
 tF:Tok
def PeQ.T(z:PeQ)(K:Wd):zh:=(z.dct,cmD K.P wK z.x)::(z.acc,zd z.ws z.e)::(z.n.T K).tail
def peXs(K:Wd)(z:PeQ):List Ext:=[xLCmp false,zS K.P 8 [],zD 1,xGet 1 (.str z.F z.tF),xY,xSetL 1 z.ys (.str z.F z.tF)]
def pe3(it acc dct:Addr):Nat→Addr
 |0=>it
 |1=>acc
 | _=>dct
def peS(K:Wd)(b:Bag)(z:PeQ)(it:Addr)(pos:Pos):Start:=⟨cfg K.P K.V (WK ([0,0,3],b)) 8 [],peXs K z,z.T K,[],pgKC K b z.n.z.q (pe3 it z.acc z.dct) (.ok .next),z.n.z.q.code,pos,[]⟩
def tpEa:List Nat:=[15,15,7,13,17,13,1,0,13,17,5,2,2,5,1,1,1,1,5,3,0,1,5,3,1,5,2]
def tpEb:List Nat:=[15,15,7,13,17,13,1,0,13,17,5,2,1,5,2,2,5,1,1,1,1,5,3,0,1,5,3,1,5,2]
def tpEc:List Nat:=[15,15,7,13,17,13,1,0,13,17,5,2,1,5,2,1,5,3,1,5,2]
def tpE1:List Nat:=[15,15,7,13,17,13,1,1,13,17,5,0,1,1,1,4,0,1,5,5,0,5,0,1,1,6,0,1,5,3,1,5,2]
def tpE2:List Nat:=[15,13,17,13,1,1,13,17,5,0,1,1,1,4,0,1,5,5,0,5,0,1,1,6,0,1,5,3,1,5,2]
section
variable (K:Wd) (b:Bag) (z:PeQ) (it:Addr) (pos:Pos) (α:Nat→Addr) (τ:Nat→Ch) (γ:Nat→Nat)
def peR(N:Nat)(tp:List Nat):Option Out:=(peS K b z it pos).run α τ γ N tp
def PeQ.pcW(z:PeQ)(v:Bool):Lg:=[(.b (leq z.ws.toList []),.b v),(.b (z.ws.size != 0 || xf z.ws.toList []),.b true)]
def PeQ.rw(z:PeQ):Array Value:=za z.n.z.q.rows
theorem pe_a(hx:z.x.isSome=true):lhs 8 [3,4,5,6,7,8] (peR K b z it pos α τ γ 53 tpEa)=rhs 1 (z.n.X (z.n.nx ((τ 4).tok 0) (z.rw.push (.str z.n.z.S z.n.t4)) ((τ 3).tok 0) K) (small z.rw.size::gtI z.n.z.q.rm 0 true::z.pcW false)) (peR K b z it pos α τ γ 53 tpEa):=by
 obtain⟨w',b1,b2,V0,hw⟩:=K
 obtain⟨⟨z,na,ln,v1,t1,t2,bl,t3,t4,R,k⟩,dct,acc,x,ws,e,ys,F,tF⟩:=z
 cases x with
 |none=>cases hx
 |some v=>cases b1<;>cases bl<;>kernel_rfl
theorem pe_b(hx:z.x.isSome=true):lhs 8 [3,4,5,6,7,8] (peR K b z it pos α τ γ 59 tpEb)=rhs 1 (z.n.X (z.n.nx ((τ 6).tok 0) (z.rw.push (.str z.n.z.S z.n.t4)) ((τ 5).tok 0) K) (small z.rw.size::vP z.n.z.S ⟨#[]⟩ true::gtI z.n.z.q.rm 0 false::z.pcW false)) (peR K b z it pos α τ γ 59 tpEb):=by
 obtain⟨w',b1,b2,V0,hw⟩:=K
 obtain⟨⟨z,na,ln,v1,t1,t2,bl,t3,t4,R,k⟩,dct,acc,x,ws,e,ys,F,tF⟩:=z
 cases x with
 |none=>cases hx
 |some v=>cases b1<;>cases bl<;>kernel_rfl
theorem pe_c(hx:z.x.isSome=true):lhs 8 [3,4,5,6,7,8] (peR K b z it pos α τ γ 45 tpEc)=rhs 1 (z.n.X (z.n.nx ((τ 5).tok 0) z.rw z.n.z.q.er K) (vP z.n.z.S ⟨#[]⟩ false::gtI z.n.z.q.rm 0 false::z.pcW false)) (peR K b z it pos α τ γ 45 tpEc):=by
 obtain⟨w',b1,b2,V0,hw⟩:=K
 obtain⟨⟨z,na,ln,v1,t1,t2,bl,t3,t4,R,k⟩,dct,acc,x,ws,e,ys,F,tF⟩:=z
 cases x with
 |none=>cases hx
 |some v=>cases b1<;>cases bl<;>kernel_rfl
theorem pe_1(hx:z.x.isSome=true):lhs 8 [3,4,5,6,7,8] (peR K b z it pos α τ γ 63 tpE1)=rhs 1 (z.n.X (z.n.nx ((τ 8).tok 0) (z.ys.push (.str (cat z.F z.n.z.S) ((τ 4).tok 0))) ((τ 7).tok 0) K) ((.a z.rw,.a (z.ys.push (.str z.F z.tF)))::small z.F.length::small z.n.z.S.length::(.ov (yU z.rw (.negSucc 0)),.ov (some (.str z.F z.tF)))::vD (.negSucc 0)::z.pcW true)) (peR K b z it pos α τ γ 63 tpE1):=by
 obtain⟨w',b1,b2,V0,hw⟩:=K
 obtain⟨⟨z,na,ln,v1,t1,t2,bl,t3,t4,R,k⟩,dct,acc,x,ws,e,ys,F,tF⟩:=z
 cases x with
 |none=>cases hx
 |some v=>cases b1<;>cases bl<;>kernel_rfl
theorem pe_2(hx:z.x.isNone=true):lhs 8 [3,4,5,6,7,8] (peR K b z it pos α τ γ 59 tpE2)=rhs 1 (z.n.X (z.n.nx ((τ 8).tok 0) (z.ys.push (.str (cat z.F z.n.z.S) ((τ 4).tok 0))) ((τ 7).tok 0) K) ((.a z.rw,.a (z.ys.push (.str z.F z.tF)))::small z.F.length::small z.n.z.S.length::(.ov (yU z.rw (.negSucc 0)),.ov (some (.str z.F z.tF)))::vD (.negSucc 0)::z.pcW true)) (peR K b z it pos α τ γ 59 tpE2):=by
 obtain⟨w',b1,b2,V0,hw⟩:=K
 obtain⟨⟨z,na,ln,v1,t1,t2,bl,t3,t4,R,k⟩,dct,acc,x,ws,e,ys,F,tF⟩:=z
 cases x with
 |none=>cases b1<;>cases bl<;>kernel_rfl
 |some v=>cases hx
end
structure PbQ where
 q:PgL
 v1:Value
 t1:Tok
 v2:Value
 t2:Tok
 R:List DictEntry
 k:Nat
 β:Nat→Addr
 x:Value × Tok
 ls:Array Value
 e:Nat
def xJ:Str:=⟨#[112,105,101,99,101]⟩
def PbQ.V(z:PbQ):PgV:=.th z.v1 z.t1 z.v2 z.t2 z.R z.k
def PbQ.f(z:PbQ):PgL:={ z.q with V:=z.V }
def PbQ.T(z:PbQ)(K:Wd):zh:=(z.β 3,cmD K.P xJ (some z.x))::(z.β 2,zd z.ls z.e)::z.f.T K.P
def pbXs(K:Wd)(z:PbQ):List Ext:=[xSumL,zS K.P 8 [],xRIterU z.q.line.length,xBLen z.q.line.length]
def pbS(K:Wd)(b:Bag)(z:PbQ)(pos:Pos):Start:=⟨cfg K.P K.V (WK ([0,0,3],b)) 8 [],pbXs K z,z.T K,[],pgK3 K b z.q z.β (.ok .next),z.q.code,pos,[]⟩
def tpB1:List Nat:=[15,15,7,1,0,13,2,0,7,2,2]
def tpB2:List Nat:=[15,15,7,1,0,13,2,0,7,2,1,6,0,6,0,5,4,0,1,0,0,17,17,0,17,17,17,17,3,0,17,19]
def bkE:Expr:=asgR (sAt (ifB lpIf) 2)
def freeCell:Str × NameKind→Str × NameKind
 |(s,.free)=>(s,.cell)
 |x=>x
def bkEnv(z:CmA)(cell:Addr):Env:={ cmEnv bkE z.dct qPage 349 z.a0 with cells:=[(sLine,cell)],scope:={ lcScope bkE with names:=(lcScope bkE).names.map freeCell } }
section
variable (K:Wd) (b:Bag) (z:PbQ) (pos:Pos) (α:Nat→Addr) (τ:Nat→Ch) (γ:Nat→Nat)
def pbR(N:Nat)(tp:List Nat):Option Out:=(pbS K b z pos).run α τ γ N tp
def PbQ.pcS(z:PbQ)(v:Bool):Lg:=[leI (z.q.rm+ww z.ls.toList) z.q.g.wd v,(.b (allI z.ls.toList),.b true)]
theorem pb_1:lhs 8 [2,3,4,5,6,7] (pbR K b z pos α τ γ 16 tpB1)=rhs 0 ⟨.pure (.again z.q.code),z.q.code,⟨178,16,178,24⟩,[],z.f.T K.P,[],z.pcS true⟩ (pbR K b z pos α τ γ 16 tpB1):=by
 obtain⟨w',b1,b2,V0,hw⟩:=K
 cases b1<;>kernel_rfl
def PbQ.can(q:PgL):PbQ:=⟨q.can,.none,0,.none,0,[],6,fun i=>6100+i,(.none,0),#[],0⟩
def pgKB(q:PgL)(α:Nat→Addr):Result→Sem Fin:=kOf ((pbS K b (PbQ.can q) uB).run α cτ id 54 tpB2)
def bkZ(q:PgL)(α:Nat→Addr):CmA:=⟨q.g.a0,0,α 1,α 2,α 3⟩
theorem pb_2:lhs 8 [2,1,0,6,7,8,9,10,11] (pbR K b z pos α τ γ 54 tpB2)=rhs 4 ⟨.call (ye bkE (bkEnv (bkZ z.q α) z.q.g.cell) (bkZ z.q α)) none true (lOf (pbR K b z pos α τ γ 54 tpB2)) (pgKB K b z.q α),z.q.code,⟨179,21,179,74⟩,[],
  (α 1,xE 1 (z.q.line.length - 1))::(α 2,zd #[] 0)::(α 3,dictO [] 0)::z.f.T K.P,[],[(.i 1,.i 1),(.i ((za z.q.line).size:Int),.i (.ofNat z.q.line.length)),(.i 1,.i 1),small z.q.line.length,small (za z.q.line).size,(.i ((za z.q.line).size:Int),.i ((za z.q.line).size:Int))]++z.pcS false⟩ (pbR K b z pos α τ γ 54 tpB2):=by
 obtain⟨w',b1,b2,V0,hw⟩:=K
 cases b1<;>kernel_rfl
end
structure PcQ where
 q:PgL
 S:Str
 c:Nat
 t0:Tok
 t1:Tok
 v2:Value
 t2:Tok
 β:Nat→Addr
 x:Option (Value × Tok)
 bs:Array Value
 e:Nat
 bk:Value
 ys1:Array Value
 rl:List (Str × Tok)
 J:Str
 ys2:Array Value
def sK:Str:=⟨#[107]⟩
def PcQ.V(z:PcQ)(P:Params)(w:PgW):PgV:=.th (.str z.S z.t0) z.t1 z.v2 z.t2 (w.ents P) w.k
def PcQ.f(z:PcQ)(P:Params)(w:PgW):PgL:={ z.q with V:=z.V P w }
def PcQ.T(z:PcQ)(K:Wd)(w:PgW):zh:=(z.β 3,cmD K.P sK z.x)::(z.β 2,zd z.bs z.e)::(z.f K.P w).T K.P
def pcXs(K:Wd)(z:PcQ):List Ext:=[xLCmp true,zS K.P 8 [],xGet 1 z.bk,uO 2 z.ys1,um z.rl z.J,zD 1,uO 2 z.ys2,xY,xStr0 z.c]
def pcS(K:Wd)(b:Bag)(z:PcQ)(w:PgW)(pos:Pos):Start:=⟨cfg K.P K.V (WK ([0,0,3],b)) 8 [],pcXs K z,z.T K w,[],pgKB K b z.q z.β (.ok .next),z.q.code,pos,[]⟩
def tpC1:List Nat:=[7,3,15,15,7,7,13,17,13,1,1,13,17,7,3,3,3,3,5,7,0,13,13,13,3,0,13,1,1,1,4,0,1,19,5,0,21,6,0,3,5,7,0,13,13,13,3,0,13,1,1,1,7,0,1,23,5,2,7,3]
def tpC2:List Nat:=[7,3,15,15,7,7,13,17,13,1,0,13,17,7,2,2]
def tpC2n:List Nat:=[7,3,15,7,13,17,13,1,0,13,17,7,2,2]
def tpC3a:List Nat:=[7,3,15,15,7,7,13,17,13,1,0,13,17,7,2,1,5,0,1,1,1,4,0,1,19,5,2,7,9,0,2,2,7,7,3,5,0,21,21,21]
def tpC3an:List Nat:=[7,3,15,7,13,17,13,1,0,13,17,7,2,1,5,0,1,1,1,4,0,1,19,5,2,7,9,0,2,2,7,7,3,5,0,21,21,21]
def tpC3b:List Nat:=[7,3,15,15,7,7,13,17,13,1,0,13,17,7,2,1,5,0,1,1,1,4,0,1,19,5,2,7,9,0,2,1,7,8,0,7,3,5,0,21,21,21]
def tpC3bn:List Nat:=[7,3,15,7,13,17,13,1,0,13,17,7,2,1,5,0,1,1,1,4,0,1,19,5,2,7,9,0,2,1,7,8,0,7,3,5,0,21,21,21]
def strEqI(a b:Int)(v:Bool):LV × LV:=(.v (.bool (a==b)),.v (.bool v))
section
variable (K:Wd) (b:Bag) (z:PcQ) (w:PgW) (pos:Pos) (α:Nat→Addr) (τ:Nat→Ch) (γ:Nat→Nat)
def pcR(N:Nat)(tp:List Nat):Option Out:=(pcS K b z w pos).run α τ γ N tp
def PcQ.pcB(z:PcQ)(v:Bool):Lg:=[(.b (leq z.bs.toList []),.b (!v)),(.b (z.bs.size != 0 || xf z.bs.toList []),.b true)]
def PcQ.pcG(z:PcQ):Lg:=[(.ov (yU z.bs (.negSucc 0)),.ov (some z.bk)),vD (.negSucc 0)]
def PcQ.wb(z:PcQ)(w:PgW)(t:Tok):PgW:=w.blanks (.ref (z.β 2)) t
def PcQ.nx(z:PcQ)(K:Wd)(w:PgW)(ln:Addr)(lo:Obj)(ro:Obj)(rm:Int)(tR:Tok):zh:=[(z.q.it,lIt z.q.tl z.q.i),(z.q.tl,zd (za z.q.sl) 0),{ z.q with rm:=rm,tR:=tR }.fr K.P (z.V K.P w),(z.q.g.cell,zU (.ref ln)),(z.q.g.ra,ro),(ln,lo)]
theorem pc_1(hx:z.x.isSome=true)(n:Nat)(tn:Tok)(hn:z.bk=.int n tn):lhs 8 [7,8,9,10,11,0] (pcR K b z w pos α τ γ 104 tpC1)=rhs 5 ⟨.pure (.again z.q.code),z.q.code,⟨184,16,184,24⟩,[],z.nx K (z.wb w ((τ 0).tok 0)) (α 4) (zd z.ys2 0) (zd ((za z.q.rows).push (.str z.J ((τ 7).tok 0))) ((τ 8).tok 0)) 0 ((τ 13).tok 0),[],
  [(.a (slicePick (za z.q.line) (some (n:Int)) none none),.a z.ys2),small (za z.q.line).size]++z.pcG++[small (za z.q.rows).size]++PfQ.pcJ z.rl z.J z.ys1++[(.a (slicePick (za z.q.line) none (some (n:Int)) none),.a z.ys1),small (za z.q.line).size]++z.pcG++z.pcB true⟩ (pcR K b z w pos α τ γ 104 tpC1):=by
 obtain⟨w',b1,b2,V0,hw⟩:=K
 obtain⟨q,S,c,t0,t1,v2,t2,β,x,bs,e,bk,ys1,rl,J,ys2⟩:=z
 cases hn
 cases x with
 |none=>cases hx
 |some v=>cases b1<;>cases w<;>kernel_rfl
theorem pc_2(hx:z.x.isSome=true):lhs 8 [3,4,5,6,7,8] (pcR K b z w pos α τ γ 34 tpC2)=rhs 1 ⟨.pure (.again z.q.code),z.q.code,⟨186,16,186,24⟩,[],z.nx K (z.wb w ((τ 0).tok 0)) z.q.ln (zd (za z.q.line) z.q.el) (zd (za z.q.rows) z.q.er) z.q.rm z.q.tR,[],
  strEqI z.q.rm 0 true::z.pcB false⟩ (pcR K b z w pos α τ γ 34 tpC2):=by
 obtain⟨w',b1,b2,V0,hw⟩:=K
 obtain⟨q,S,c,t0,t1,v2,t2,β,x,bs,e,bk,ys1,rl,J,ys2⟩:=z
 cases x with
 |none=>cases hx
 |some v=>cases b1<;>cases w<;>kernel_rfl
theorem pc_2n(hx:z.x.isNone=true):lhs 8 [3,4,5,6,7,8] (pcR K b z w pos α τ γ 30 tpC2n)=rhs 1 ⟨.pure (.again z.q.code),z.q.code,⟨186,16,186,24⟩,[],z.nx K (z.wb w ((τ 0).tok 0)) z.q.ln (zd (za z.q.line) z.q.el) (zd (za z.q.rows) z.q.er) z.q.rm z.q.tR,[],
  strEqI z.q.rm 0 true::z.pcB false⟩ (pcR K b z w pos α τ γ 30 tpC2n):=by
 obtain⟨w',b1,b2,V0,hw⟩:=K
 obtain⟨q,S,c,t0,t1,v2,t2,β,x,bs,e,bk,ys1,rl,J,ys2⟩:=z
 cases x with
 |none=>cases b1<;>cases w<;>kernel_rfl
 |some v=>cases hx
def PcQ.T3(z:PcQ)(K:Wd)(w:PgW)(sa h ln:Addr)(ts:Tok)(hv:Value):zh:=[(sa,slO (.int (.negSucc 0) ts) .none),(h,zd #[hv] 0),(z.q.it,lIt z.q.tl z.q.i),(z.q.tl,zd (za z.q.sl) 0),z.q.fr K.P (.th (.str z.S z.t0) z.t1 (.ref h) z.t2 (w.ents K.P) w.k),(z.q.g.cell,zU (.ref ln)),(z.q.g.ra,zd (za z.q.rows) z.q.er),(ln,zd z.ys1 0)]
def pcXX(N:Nat)(tp:List Nat)(T:zh)(pc:Lg):Exp:=⟨.call (.call (.builtin "list.__getitem__") ⟨[.ref (α 2),.ref (α 4)],[]⟩) none false (lOf (pcR K b z w pos α τ γ N tp)) (pgK4 K b { z.q with ln:=α 2 } fun _=>α 4),z.q.code,⟨189,11,189,20⟩,[],T,[],pc⟩
def PcQ.pc3(z:PcQ)(sp:Bool):Lg:=[vj ⟨#[z.c]⟩ ⟨#[32]⟩ sp,(.ov (yH z.S.cps[0]?),.ov (some (.int (.ofNat z.c) 0))),(.a (slicePick (za z.q.line) none (some (.negSucc 0)) none),.a z.ys1),small (za z.q.line).size,strEqI z.q.rm 0 false]++z.pcB false
theorem pc_3a(hx:z.x.isSome=true):lhs 8 [0,1,7,8,9,10,11,2] (pcR K b z w pos α τ γ 89 tpC3a)=rhs 5 (pcXX K b z w pos α τ γ 89 tpC3a (z.T3 K (z.wb w ((τ 0).tok 0)) (α 4) (α 3) (α 2) ((τ 13).tok 0) (.str z.S z.t0)) (z.pc3 true)) (pcR K b z w pos α τ γ 89 tpC3a):=by
 obtain⟨w',b1,b2,V0,hw⟩:=K
 obtain⟨q,S,c,t0,t1,v2,t2,β,x,bs,e,bk,ys1,rl,J,ys2⟩:=z
 cases x with
 |none=>cases hx
 |some v=>cases b1<;>cases w<;>kernel_rfl
theorem pc_3b(hx:z.x.isSome=true):lhs 8 [0,1,7,8,9,10,11,2] (pcR K b z w pos α τ γ 93 tpC3b)=rhs 5 (pcXX K b z w pos α τ γ 93 tpC3b (z.T3 K (z.wb w ((τ 0).tok 0)) (α 4) (α 3) (α 2) ((τ 15).tok 0) (.str (cat ⟨#[32]⟩ z.S) ((τ 12).tok 0))) ([small (⟨#[32]⟩:Str).length,small z.S.length]++z.pc3 false)) (pcR K b z w pos α τ γ 93 tpC3b):=by
 obtain⟨w',b1,b2,V0,hw⟩:=K
 obtain⟨q,S,c,t0,t1,v2,t2,β,x,bs,e,bk,ys1,rl,J,ys2⟩:=z
 cases x with
 |none=>cases hx
 |some v=>cases b1<;>cases w<;>kernel_rfl
theorem pc_3an(hx:z.x.isNone=true):lhs 8 [0,1,7,8,9,10,11,2] (pcR K b z w pos α τ γ 85 tpC3an)=rhs 5 (pcXX K b z w pos α τ γ 85 tpC3an (z.T3 K (z.wb w ((τ 0).tok 0)) (α 4) (α 3) (α 2) ((τ 13).tok 0) (.str z.S z.t0)) (z.pc3 true)) (pcR K b z w pos α τ γ 85 tpC3an):=by
 obtain⟨w',b1,b2,V0,hw⟩:=K
 obtain⟨q,S,c,t0,t1,v2,t2,β,x,bs,e,bk,ys1,rl,J,ys2⟩:=z
 cases x with
 |none=>cases b1<;>cases w<;>kernel_rfl
 |some v=>cases hx
theorem pc_3bn(hx:z.x.isNone=true):lhs 8 [0,1,7,8,9,10,11,2] (pcR K b z w pos α τ γ 89 tpC3bn)=rhs 5 (pcXX K b z w pos α τ γ 89 tpC3bn (z.T3 K (z.wb w ((τ 0).tok 0)) (α 4) (α 3) (α 2) ((τ 15).tok 0) (.str (cat ⟨#[32]⟩ z.S) ((τ 12).tok 0))) ([small (⟨#[32]⟩:Str).length,small z.S.length]++z.pc3 false)) (pcR K b z w pos α τ γ 89 tpC3bn):=by
 obtain⟨w',b1,b2,V0,hw⟩:=K
 obtain⟨q,S,c,t0,t1,v2,t2,β,x,bs,e,bk,ys1,rl,J,ys2⟩:=z
 cases x with
 |none=>cases b1<;>cases w<;>kernel_rfl
 |some v=>cases hx
end
def xStrLen:Ext:=mkG 0 (fun _=>0) false (fun _ c _ _ _=>match c with
 | .call (.builtin id) ⟨[.str x _],[]⟩=>match idB id 7300717 with
  |true=>some x
  |false=>none
 | _=>none) (fun _=>[]) (fun x=>[small x.length]) (fun x _ t=>⟨.ok (.ret (.int (.ofNat x.length) (t.tok 0))),[],[]⟩)
theorem xStrLen_ok{C:Cfg}{w:World}{F:List Frame}(U:Under C F):ExtOk C w F xStrLen:=by
 refine ExtOk.leafM U fun prog s d c wh objs gs y hm hg hgs ht hy hlg hp=>?_
 split at hy<;>try(cases hy;done)
 rename_i id x tx
 split at hy<;>try(cases hy;done)
 rename_i hid
 have hid:=zv hid (s:= "len") (by decide +kernel)
 subst hid
 simp only[Option.some.injEq] at hy
 subst hy
 have hs:=of_decide_eq_true (LV.b.inj (hp _ (.head _)))
 have key:wpAny (model prog w) (yf wh) (call (.builtin "len") [.str x tx]) (fun v s₁=>v=.int x.length (s.toks+1)∧s₁={ s with toks:=s.toks+1+1 }) (fun _ _=>False) s:=len_str (by omega) ⟨rfl,rfl⟩
 intro Γ p hh hw
 refine wpCode_mono ?_ (CallsAt.of_wpAny key Γ p hh hw)
 rintro r s' ⟨v,rfl,rfl,rfl⟩
 exact⟨[],.of (s.toks+1),rfl,fun z hz=>(by cases hz),rfl,Eff.none⟩
def strIn(x y:Str):Bool:=!(Builtin.Str.occurrences x y 0 x.length 1).isEmpty
def xStrIn:Ext:=⟨0,fun _=>0,false,fun d cd _ _ _ _ _=>match cd with
 | .call (.builtin id) ⟨[.str x tx,.str y ty],[]⟩=>match idB id 128106709680535770272165659069392319860 with
  |true=>some ⟨.ok (.ret (.bool (tfB d))),[],[],[],[(.b (strIn x y),.b (tfB d))]⟩
  |false=>none
 | _=>none⟩
theorem xStrIn_ok{w:World}{tl:zh}:zH w tl xStrIn:=by
 intro prog s d cd wh objs gs hm hg _ _
 refine⟨[],.of s.toks,rfl,zw,fun r hr hl hp=>?_⟩
 simp only[xStrIn] at hr
 split at hr<;>try(cases hr;done)
 rename_i id x tx y ty
 split at hr<;>try(cases hr;done)
 rename_i hid
 have hid:=zv hid (s:= "str.__contains__") (by decide +kernel)
 subst hid
 simp only[Option.some.injEq] at hr
 subst hr
 have e1:=LV.b.inj (hp _ (.head _))
 rw[←e1]
 exact⟨{ s with toks:=s.toks },y7 PySem.F.slot_str_contains (typeIs_str s x tx) PySem.F.entry_str_contains (PySem.F.args_str_contains_2 _ _) (gives_str_contains x y tx ty) ⟨rfl,rfl⟩,Eff.toks⟩
def vF(z:CmA):Code:=y1 lensE (lensEnv z) z
def lnStart(z:CmA):Code:=ye lensE (lensEnv z) z
def lnSS(K:Wd)(W:List (Code × Pos))(z:CmA)(pos:Pos):Start:=mkS K W 1 [] [] [(z.it,lIt z.src 0)] (lnStart z) pos
theorem ln_rS(K:Wd)(W:List (Code × Pos))(z:CmA)(pos:Pos):∃N tp p,∀α τ γ,lhs 1 [0] ((lnSS K W z pos).run α τ γ N tp)=rhs 0 ⟨.pure (.again (vF z)),lnStart z,p,[],[(z.it,lIt z.src 0)],[],[]⟩ ((lnSS K W z pos).run α τ γ N tp):=by
 obtain⟨w,b1,b2,V0,hw⟩:=K
 cases b2
 ·exact⟨11,[1,1,0,1,1],⟨177,66,177,70⟩,fun α τ γ=>by cases b1<;>kernel_rfl⟩
 ·exact⟨1,[],pos,fun α τ γ=>by cases b1<;>kernel_rfl⟩
def lnS(K:Wd)(W:List (Code × Pos))(z:CmA)(x:Option (Value × Tok))(vs:Array Value)(e i:Nat)(xs:Array Value)(e2:Nat)(p:Str × Tok)(pos:Pos):Start:=
 mkS K W 4 [] [wu 2 (.str p.1 p.2),zD 1,xStrLen] [(z.dct,cmD K.P xJ x),(z.acc,zd vs e),(z.it,lIt z.src i),(z.src,zd xs e2)] (vF z) pos
section
variable (K:Wd) (W:List (Code × Pos)) (z:CmA) (x:Option (Value × Tok)) (vs:Array Value) (e i:Nat) (xs:Array Value) (e2:Nat) (p:Str × Tok) (pos:Pos) (α:Nat→Addr) (τ:Nat→Ch) (γ:Nat→Nat)
def lnR(N:Nat)(tp:List Nat):Option Out:=(lnS K W z x vs e i xs e2 p pos).run α τ γ N tp
def tpLn:List Nat:=[3,1,1,3,1,7,3,6,0,7,3,0,2,0,5]
theorem ln_r:lhs 4 [0,1,2,3] (lnR K W z x vs e i xs e2 p pos α τ γ 19 tpLn)=rhs 0 ⟨.pure (.again (vF z)),vF z,⟨177,42,177,52⟩,[],
  [(z.dct,cmD K.P xJ (cmX x (.str p.1 p.2) ((τ 1).tok 0))),(z.acc,zd (vs.push (.int (.ofNat p.1.length) ((τ 2).tok 0))) ((τ 3).tok 0)),(z.it,lIt z.src (i+1)),(z.src,zd xs e2)],[],[small vs.size,small p.1.length,(.ov xs[i]?,.ov (some (.str p.1 p.2)))]⟩ (lnR K W z x vs e i xs e2 p pos α τ γ 19 tpLn):=by
 obtain⟨w,b1,b2,V0,hw⟩:=K
 cases b1<;>cases x<;>kernel_rfl
theorem ln_rE:lhs 4 [2,3,5] (lnR K W z x vs e i xs e2 p pos α τ γ 4 [3,1,0,3,1,11])=rhs 2 ⟨.pure (.done .next),vF z,⟨177,66,177,70⟩,[],[(z.dct,cmD K.P xJ x),(z.acc,zd vs e),(z.src,zd xs e2)],[],[(.ov xs[i]?,.ov none)]⟩ (lnR K W z x vs e i xs e2 p pos α τ γ 4 [3,1,0,3,1,11]):=by
 obtain⟨w,b1,b2,V0,hw⟩:=K
 cases b1<;>cases x<;>kernel_rfl
end
def wq(z:CmA)(cell:Addr):Code:=y1 bkE (bkEnv z cell) z
def bkStart(z:CmA)(cell:Addr):Code:=ye bkE (bkEnv z cell) z
def bkSS(K:Wd)(W:List (Code × Pos))(z:CmA)(cell:Addr)(l:Nat)(pos:Pos):Start:=mkS K W 1 [] [] [(z.it,xE 1 l)] (bkStart z cell) pos
theorem bk_rS(K:Wd)(W:List (Code × Pos))(z:CmA)(cell:Addr)(l:Nat)(pos:Pos):∃N tp p,∀α τ γ,lhs 1 [0] ((bkSS K W z cell l pos).run α τ γ N tp)=rhs 0 ⟨.pure (.again (wq z cell)),bkStart z cell,p,[],[(z.it,xE 1 l)],[],[]⟩ ((bkSS K W z cell l pos).run α τ γ N tp):=by
 obtain⟨w,b1,b2,V0,hw⟩:=K
 cases b2
 ·exact⟨11,[1,1,0,1,1],⟨179,33,179,52⟩,fun α τ γ=>by cases b1<;>kernel_rfl⟩
 ·exact⟨1,[],pos,fun α τ γ=>by cases b1<;>kernel_rfl⟩
def bkS(K:Wd)(W:List (Code × Pos))(z:CmA)(cell ln:Addr)(x:Option (Value × Tok))(vs:Array Value)(e k l:Nat)(xs:Array Value)(e2:Nat)(p:Str × Tok)(c:Nat)(pos:Pos):Start:=
 mkS K W 5 [] [xRNextU,xGet 1 (.str p.1 p.2),xStr0 c,zS K.P 8 [],zD 1] [(z.dct,cmD K.P sK x),(z.acc,zd vs e),(z.it,xE k l),(cell,zU (.ref ln)),(ln,zd xs e2)] (wq z cell) pos
section
variable (K:Wd) (W:List (Code × Pos)) (z:CmA) (cell ln:Addr) (x:Option (Value × Tok)) (vs:Array Value) (e k l:Nat) (xs:Array Value) (e2:Nat) (p:Str × Tok) (c:Nat) (pos:Pos) (α:Nat→Addr) (τ:Nat→Ch) (γ:Nat→Nat)
def bkR(N:Nat)(tp:List Nat):Option Out:=(bkS K W z cell ln x vs e k l xs e2 p c pos).run α τ γ N tp
def tpBk1:List Nat:=[5,1,1,5,9,4,3,9,1,1,1,2,0,1,3,0,4,2,9,5,0,7]
def tpBk2:List Nat:=[5,1,1,5,9,4,3,9,1,1,1,2,0,1,3,0,4,1]
def bkPc(xs:Array Value)(k l:Nat)(p:Str × Tok)(c:Nat)(v:Bool):Lg:=[vj ⟨#[c]⟩ ⟨#[32]⟩ v,(.ov (yH p.1.cps[0]?),.ov (some (.int (.ofNat c) 0))),(.ov (yU xs (.ofNat k)),.ov (some (.str p.1 p.2))),vD (.ofNat k),(.i 1,.i 1),(.b (decide (0 < l)),.b true)]
theorem bk_r1:lhs 5 [0,1,2,3,4] (bkR K W z cell ln x vs e k l xs e2 p c pos α τ γ 29 tpBk1)=rhs 0 ⟨.pure (.again (wq z cell)),wq z cell,⟨179,22,179,23⟩,[],
  [(z.dct,cmD K.P sK (cmX x (.int (.ofNat k) ((τ 0).tok 0)) ((τ 1).tok 0))),(z.acc,zd (vs.push (.int (.ofNat k) ((τ 0).tok 0))) ((τ 7).tok 0)),(z.it,xE (k+1) (l - 1)),(cell,zU (.ref ln)),(ln,zd xs e2)],[],small vs.size::bkPc xs k l p c true⟩ (bkR K W z cell ln x vs e k l xs e2 p c pos α τ γ 29 tpBk1):=by
 obtain⟨w,b1,b2,V0,hw⟩:=K
 cases b1<;>cases x<;>kernel_rfl
theorem bk_r2:lhs 5 [0,1,2,3,4] (bkR K W z cell ln x vs e k l xs e2 p c pos α τ γ 26 tpBk2)=rhs 0 ⟨.pure (.again (wq z cell)),wq z cell,⟨179,56,179,73⟩,[],
  [(z.dct,cmD K.P sK (cmX x (.int (.ofNat k) ((τ 0).tok 0)) ((τ 1).tok 0))),(z.acc,zd vs e),(z.it,xE (k+1) (l - 1)),(cell,zU (.ref ln)),(ln,zd xs e2)],[],bkPc xs k l p c false⟩ (bkR K W z cell ln x vs e k l xs e2 p c pos α τ γ 26 tpBk2):=by
 obtain⟨w,b1,b2,V0,hw⟩:=K
 cases b1<;>cases x<;>kernel_rfl
theorem bk_rE:lhs 5 [2,3,5,6] (bkR K W z cell ln x vs e k l xs e2 p c pos α τ γ 4 [5,1,0,5,13])=rhs 2 ⟨.pure (.done .next),wq z cell,⟨179,33,179,52⟩,[],[(z.dct,cmD K.P sK x),(z.acc,zd vs e),(cell,zU (.ref ln)),(ln,zd xs e2)],[],[(.n l,.n 0)]⟩ (bkR K W z cell ln x vs e k l xs e2 p c pos α τ γ 4 [5,1,0,5,13]):=by
 obtain⟨w,b1,b2,V0,hw⟩:=K
 cases b1<;>cases x<;>kernel_rfl
end
def x0(z:CmA):Code:=y1 wsE (wsEnv z) z
def wsStart(z:CmA):Code:=ye wsE (wsEnv z) z
def wsSS(K:Wd)(W:List (Code × Pos))(z:CmA)(asc:Bool)(S:Str)(tS:Tok)(pos:Pos):Start:=mkS K W 1 [] [] [(z.it,uA asc S tS 0)] (wsStart z) pos
theorem ws_rS(K:Wd)(W:List (Code × Pos))(z:CmA)(asc:Bool)(S:Str)(tS:Tok)(pos:Pos):∃N tp p,∀α τ γ,lhs 1 [0] ((wsSS K W z asc S tS pos).run α τ γ N tp)=rhs 0 ⟨.pure (.again (x0 z)),wsStart z,p,[],[(z.it,uA asc S tS 0)],[],[]⟩ ((wsSS K W z asc S tS pos).run α τ γ N tp):=by
 obtain⟨w,b1,b2,V0,hw⟩:=K
 cases b2
 ·exact⟨11,[1,1,0,1,1],⟨192,44,192,47⟩,fun α τ γ=>by cases b1<;>cases asc<;>kernel_rfl⟩
 ·exact⟨1,[],pos,fun α τ γ=>by cases b1<;>cases asc<;>kernel_rfl⟩
def wsC:Str:=⟨#[31,32,160,8202,8233,8239,8287]⟩
def wsS(K:Wd)(W:List (Code × Pos))(z:CmA)(asc:Bool)(x:Option (Value × Tok))(vs:Array Value)(e i:Nat)(S:Str)(tS:Tok)(c:Nat)(pos:Pos):Start:=
 mkS K W 3 [] [xSNext c,xSNextA c,xStrIn,zD 1] [(z.dct,cmD K.P wK x),(z.acc,zd vs e),(z.it,uA asc S tS i)] (x0 z) pos
section
variable (K:Wd) (W:List (Code × Pos)) (z:CmA) (asc:Bool) (x:Option (Value × Tok)) (vs:Array Value) (e i:Nat) (S:Str) (tS:Tok) (c:Nat) (pos:Pos) (α:Nat→Addr) (τ:Nat→Ch) (γ:Nat→Nat)
def wsR(N:Nat)(tp:List Nat):Option Out:=(wsS K W z asc x vs e i S tS c pos).run α τ γ N tp
def wsTp(asc:Bool)(l:List Nat):List Nat:=1::(bif asc then 2 else 1)::l
def isWs(c:Nat):Bool:=strIn wsC ⟨#[c]⟩
def wsPc(S:Str)(i c:Nat)(v:Bool):Lg:=[(.b (isWs c),.b v),(.ov (yH S.cps[i]?),.ov (some (.int (.ofNat c) 0)))]
theorem ws_r1:lhs 3 [0,1,2] (wsR K W z asc x vs e i S tS c pos α τ γ 15 (wsTp asc [1,1,5,2,5,3,1]))=rhs 0 ⟨.pure (.again (x0 z)),x0 z,⟨192,51,192,98⟩,[],
  [(z.dct,cmD K.P wK (cmX x (.str ⟨#[c]⟩ ((τ 0).tok 0)) ((τ 1).tok 0))),(z.acc,zd vs e),(z.it,uA asc S tS (i+1))],[],wsPc S i c true⟩ (wsR K W z asc x vs e i S tS c pos α τ γ 15 (wsTp asc [1,1,5,2,5,3,1])):=by
 obtain⟨w,b1,b2,V0,hw⟩:=K
 cases b1<;>cases x<;>cases asc<;>kernel_rfl
theorem ws_r2:lhs 3 [0,1,2] (wsR K W z asc x vs e i S tS c pos α τ γ 18 (wsTp asc [1,1,5,2,5,3,0,5,4,0,3]))=rhs 0 ⟨.pure (.again (x0 z)),x0 z,⟨192,27,192,31⟩,[],
  [(z.dct,cmD K.P wK (cmX x (.str ⟨#[c]⟩ ((τ 0).tok 0)) ((τ 1).tok 0))),(z.acc,zd (vs.push (.str ⟨#[c]⟩ ((τ 0).tok 0))) ((τ 4).tok 0)),(z.it,uA asc S tS (i+1))],[],small vs.size::wsPc S i c false⟩ (wsR K W z asc x vs e i S tS c pos α τ γ 18 (wsTp asc [1,1,5,2,5,3,0,5,4,0,3])):=by
 obtain⟨w,b1,b2,V0,hw⟩:=K
 cases b1<;>cases x<;>cases asc<;>kernel_rfl
theorem ws_rE:lhs 3 [2,3] (wsR K W z asc x vs e i S tS c pos α τ γ 4 (wsTp asc [0,1,9]))=rhs 2 ⟨.pure (.done .next),x0 z,⟨192,44,192,47⟩,[],[(z.dct,cmD K.P wK x),(z.acc,zd vs e)],[],[(.ov (yH S.cps[i]?),.ov none)]⟩ (wsR K W z asc x vs e i S tS c pos α τ γ 4 (wsTp asc [0,1,9])):=by
 obtain⟨w,b1,b2,V0,hw⟩:=K
 cases b1<;>cases x<;>cases asc<;>kernel_rfl
end
theorem wl(l:List (Nat × Tok))(p:Nat × Tok):zi (l++[p])=(zi l).push (.int (.ofNat p.1) p.2):=by simp[zi]
theorem yO(l:List (Nat × Tok)):(zi l).size=l.length:=by simp[zi]
theorem Seg.eqT{K:Wd}{W:List (Code × Pos)}{cur:Sem Fin}{code:Code}{pos:Pos}{fs:List Frame}{T T':zh}{B:St→Prop}(e:T=T')(h:Seg K W ⟨cur,code,pos,fs,T⟩ B):Seg K W ⟨cur,code,pos,fs,T'⟩ B:=e▸h
theorem yS{K:Wd}{W:List (Code × Pos)}{c1 c2:Code}{pos:Pos}{o:Addr × Obj}{R:zh}(hr:∃N tp p,∀α τ γ,lhs 1 [0] ((mkS K W 1 [] [] [o] c1 pos).run α τ γ N tp)=rhs 0 ⟨.pure (.again c2),c1,p,[],[o],[],[]⟩ ((mkS K W 1 [] [] [o] c1 pos).run α τ γ N tp))(hR:∀p∈R,p.2.isFreed=false) :
  Seg K W ⟨zx c1,c1,pos,[],o::R⟩ (fun s=>∃p,s=⟨.pure (.again c2),c1,p,[],o::R⟩):=by
 obtain⟨N,tp,p,hr⟩:=hr
 have h:=Seg.run (K:=K) (mkS K W 1 [] [] [o] c1 pos) (tl:=[]) rfl rfl yq _ [0] hr (by decide) rfl (by decide) (fun _ _ _=>zl) (fun _ _ _=>rfl)
 have h2:=Seg.frame R hR h
 rw[List.append_nil] at h2
 refine h2.mono ?_
 rintro s ⟨s',⟨α,τ,γ,_,rfl⟩,rfl⟩
 exact⟨p,rfl⟩
theorem ln_exts{K:Wd}{W:List (Code × Pos)}{m:Nat}{v:Value}:∀F,Under (cfg K.P K.V W m []) F→∀e E,nth [wu 2 v,zD 1,xStrLen] e=some E→ExtOk (cfg K.P K.V W m []) K.w F E:=fun F U=>
 (AllOk.cons (.leaf U xK) (.cons (.leaf U zI) (.cons (xStrLen_ok U) .nil))).nth
theorem ln_loop{K:Wd}{W:List (Code × Pos)}{z:CmA}{e2:Nat}:∀(post pre:List (Str × Tok)) (x:Option (Value × Tok)) (ns:List (Nat × Tok)) (e:Nat) (pos:Pos),(∀p∈post,p.1.length≤1000)→ns.length+post.length≤1000→
  Seg K W ⟨zx (vF z),vF z,pos,[],[(z.dct,cmD K.P xJ x),(z.acc,zd (zi ns) e),(z.it,lIt z.src pre.length),(z.src,zd (za (pre++post)) e2)]⟩ (fun s=>∃x' ns' e',s.cur=.pure (.done .next)∧s.fs=[]∧s.T=[(z.dct,cmD K.P xJ x'),(z.acc,zd (zi ns') e'),(z.src,zd (za (pre++post)) e2)]∧ns'.map (·.1)=ns.map (·.1)++post.map (fun p=>p.1.length)∧(x.isSome=true∨post≠[]→x'.isSome=true))
 |[],pre,x,ns,e,pos,_,_=>by
  have h:=Seg.run (K:=K) (lnS K W z x (zi ns) e pre.length (za (pre++[])) e2 (⟨#[]⟩,0) pos) (tl:=[]) rfl rfl ln_exts _ [2,3,5] (ln_rE K W z x (zi ns) e pre.length (za (pre++[])) e2 (⟨#[]⟩,0) pos) (by decide) rfl (by decide) (fun _ _ _=>zc (by show LV.ov (za (pre++[]))[pre.length]?=_;simp[za]) zl) (fun _ _ _=>rfl)
  have h:=Seg.eqT (List.append_nil _) h
  refine h.mono ?_
  rintro s ⟨α,τ,γ,_,rfl⟩
  exact⟨x,ns,e,rfl,rfl,rfl,by simp,fun h=>h.elim id fun h=>absurd rfl h⟩
 |p::post,pre,x,ns,e,pos,hc,hl=>by
  have hpc:Lg.Ok [small (zi ns).size,small p.1.length,(.ov (za (pre++p::post))[pre.length]?,.ov (some (.str p.1 p.2)))]:=zc (zk (by rw[yO];simp at hl;omega)) (zc (zk (hc p (.head _))) (zc (by
   simp[za]) zl))
  have h:=Seg.run (K:=K) (lnS K W z x (zi ns) e pre.length (za (pre++p::post)) e2 p pos) (tl:=[]) rfl rfl ln_exts _ [0,1,2,3] (ln_r K W z x (zi ns) e pre.length (za (pre++p::post)) e2 p pos) (by decide) rfl (by decide) (fun _ _ _=>hpc) (fun _ _ _=>rfl)
  rw[List.append_nil] at h
  refine Seg.trans h ?_
  rintro s ⟨α,τ,γ,_,rfl⟩
  have e0:pre++p::post=(pre++[p])++post:=by simp
  have el:pre.length+1=(pre++[p]).length:=by simp
  have ih:=ln_loop (K:=K) (W:=W) (z:=z) (e2:=e2) post (pre++[p]) (cmX x (.str p.1 p.2) ((τ 1).tok 0)) (ns++[(p.1.length,(τ 2).tok 0)]) ((τ 3).tok 0) ⟨177,42,177,52⟩ (fun q hq=>hc q (.tail _ hq)) (by simp at hl ⊢;omega)
  refine Seg.again rfl (Seg.perm (a:=⟨_,_,_,[],_⟩) (List.Perm.of_eq ?_) (ih.mono ?_))
  ·show _++[]=_
   rw[List.append_nil,wl,←e0,←el]
  ·rintro s ⟨x',ns',e',h1,h2,h3,h4,h5⟩
   exact⟨x',ns',e',h1,h2,by rw[h3,e0],by rw[h4];simp,fun _=>h5 (.inl (by cases x<;>rfl))⟩
theorem ln_seg{K:Wd}{W:List (Code × Pos)}{z:CmA}{e2:Nat}{l:List (Str × Tok)}{pos:Pos}(hc:∀p∈l,p.1.length≤1000)(hl:l.length≤1000) :
  Seg K W ⟨zx (lnStart z),lnStart z,pos,[],[(z.it,lIt z.src 0),(z.acc,zd #[] 0),(z.dct,dictO [] 0),(z.src,zd (za l) e2)]⟩ (fun s=>∃x' ns' e',s.cur=.pure (.done .next)∧s.fs=[]∧s.T=[(z.dct,cmD K.P xJ x'),(z.acc,zd (zi ns') e'),(z.src,zd (za l) e2)]∧ns'.map (·.1)=l.map (fun p=>p.1.length)∧(l≠[]→x'.isSome=true)):=by
 refine Seg.trans (yS (ln_rS K W z pos) (R:=[(z.acc,zd #[] 0),(z.dct,dictO [] 0),(z.src,zd (za l) e2)]) (by intro p hp;simp only[List.mem_cons,List.not_mem_nil,or_false] at hp;rcases hp with rfl|rfl|rfl<;>rfl)) ?_
 rintro s ⟨p,rfl⟩
 have ih:=ln_loop (K:=K) (W:=W) (z:=z) (e2:=e2) l [] none [] 0 p hc (by simpa using hl)
 refine Seg.again rfl (Seg.perm (a:=⟨_,_,_,[],_⟩) ?_ (ih.mono ?_))
 ·show List.Perm [(z.it,lIt z.src 0),(z.acc,zd #[] 0),(z.dct,dictO [] 0),(z.src,zd (za l) e2)] [(z.dct,dictO [] 0),(z.acc,zd #[] 0),(z.it,lIt z.src 0),(z.src,zd (za l) e2)]
  exact(List.Perm.swap _ _ _).trans ((List.Perm.cons _ (List.Perm.swap _ _ _)).trans (List.Perm.swap _ _ _))
 ·rintro s ⟨x',ns',e',h1,h2,h3,h4,h5⟩
  exact⟨x',ns',e',h1,h2,h3,by simpa using h4,fun h=>h5 (.inr h)⟩
theorem y8{x y:Str}{v:Bool}{l:Lg}(h:(x.cps.toList==y.cps.toList)=v)(hl:Lg.Ok l):Lg.Ok (vj x y v::l):=zc (by unfold vj;rw[h]) hl
theorem xp{x y:Str}{v:Bool}{l:Lg}(h:(x.cps.toList != y.cps.toList)=v)(hl:Lg.Ok l):Lg.Ok (vP x y v::l):=zc (by unfold vP;rw[h]) hl
def z7(k:Nat):List Str→List Nat
 |[]=>[]
 |p::r=>match p.cps[0]?==some 32 with
  |true=>k::z7 (k+1) r
  |false=>z7 (k+1) r
theorem bk_exts{K:Wd}{W:List (Code × Pos)}{m:Nat}{v:Value}{c:Nat}:∀F,Under (cfg K.P K.V W m []) F→∀e E,nth [xRNextU,xGet 1 v,xStr0 c,zS K.P 8 [],zD 1] e=some E→ExtOk (cfg K.P K.V W m []) K.w F E:=fun F U=>
 (AllOk.cons (.leaf U xRNextU_ok) (.cons (.leaf U vM) (.cons (.leaf U xStr0_ok) (.cons zJ (.cons (.leaf U zI) .nil))))).nth
theorem vz{x:Option Nat}{c:Nat}(h:x=some c):LV.ov (yH x)=.ov (some (.int (.ofNat c) 0)):=by subst h;rfl
theorem bk_loop{K:Wd}{W:List (Code × Pos)}{z:CmA}{cell ln:Addr}{e2:Nat}:∀(post pre:List (Str × Tok)) (x:Option (Value × Tok)) (ns:List (Nat × Tok)) (e:Nat) (pos:Pos),(∀p∈post,p.1.cps[0]?≠none)→pre.length+post.length≤500→ns.length≤pre.length→
  Seg K W ⟨zx (wq z cell),wq z cell,pos,[],[(z.dct,cmD K.P sK x),(z.acc,zd (zi ns) e),(z.it,xE pre.length post.length),(cell,zU (.ref ln)),(ln,zd (za (pre++post)) e2)]⟩ (fun s=>∃x' ns' e',s.cur=.pure (.done .next)∧s.fs=[]∧s.T=[(z.dct,cmD K.P sK x'),(z.acc,zd (zi ns') e'),(cell,zU (.ref ln)),(ln,zd (za (pre++post)) e2)]∧ns'.map (·.1)=ns.map (·.1)++z7 pre.length (post.map (·.1))∧(x.isSome=true∨post≠[]→x'.isSome=true))
 |[],pre,x,ns,e,pos,_,_,_=>by
  have h:=Seg.run (K:=K) (bkS K W z cell ln x (zi ns) e pre.length 0 (za (pre++[])) e2 (⟨#[]⟩,0) 0 pos) (tl:=[]) rfl rfl bk_exts _ [2,3,5,6] (bk_rE K W z cell ln x (zi ns) e pre.length 0 (za (pre++[])) e2 (⟨#[]⟩,0) 0 pos) (by decide) rfl (by decide) (fun _ _ _=>zc rfl zl) (fun _ _ _=>rfl)
  have h:=Seg.eqT (List.append_nil _) h
  refine h.mono ?_
  rintro s ⟨α,τ,γ,_,rfl⟩
  exact⟨x,ns,e,rfl,rfl,rfl,by simp[z7],fun h=>h.elim id fun h=>absurd rfl h⟩
 |p::post,pre,x,ns,e,pos,hc,hl,hn=>by
  obtain⟨c,hp0⟩:∃c,p.1.cps[0]?=some c:=Option.ne_none_iff_exists'.mp (hc p (.head _))
  have hat:yU (za (pre++p::post)) (.ofNat pre.length)=some (.str p.1 p.2):=by
   have hs:seqIndex? (.ofNat pre.length) (za (pre++p::post)).size=some pre.length:=by
    unfold seqIndex?
    rw[zm]
    have h0:¬((pre.length:Int) < 0):=by omega
    simp only[Int.ofNat_eq_natCast,h0,if_false]
    simp
    omega
   unfold yU
   rw[hs]
   simp[za]
  have hpc:∀v,((#[c]:Array Nat).toList==(#[32]:Array Nat).toList)=v→Lg.Ok (bkPc (za (pre++p::post)) pre.length (post.length+1) p c v):=fun v hv=>
   y8 hv (zc (vz hp0) (zc (by rw[hat]) (zc (near_mk (by simp only[List.length_cons] at hl;omega)) (zc rfl (zc (by rw[decide_eq_true (by omega)]) zl)))))
  have e0:pre++p::post=(pre++[p])++post:=by simp
  have el:pre.length+1=(pre++[p]).length:=by simp
  cases hv:((#[c]:Array Nat).toList==(#[32]:Array Nat).toList) with
  |true=>
   have hb:(p.1.cps[0]?==some 32)=true:=by rw[hp0];simpa using hv
   have h:=Seg.run (K:=K) (bkS K W z cell ln x (zi ns) e pre.length (post.length+1) (za (pre++p::post)) e2 p c pos) (tl:=[]) rfl rfl bk_exts _ [0,1,2,3,4] (bk_r1 K W z cell ln x (zi ns) e pre.length (post.length+1) (za (pre++p::post)) e2 p c pos) (by decide) rfl (by decide) (fun _ _ _=>zc (zk (by rw[yO];omega)) (hpc true hv)) (fun _ _ _=>rfl)
   have h:=Seg.eqT (List.append_nil _) h
   refine Seg.trans h ?_
   rintro s ⟨α,τ,γ,_,rfl⟩
   have ih:=bk_loop (K:=K) (W:=W) (z:=z) (cell:=cell) (ln:=ln) (e2:=e2) post (pre++[p]) (cmX x (.int (.ofNat pre.length) ((τ 0).tok 0)) ((τ 1).tok 0)) (ns++[(pre.length,(τ 0).tok 0)]) ((τ 7).tok 0) ⟨179,22,179,23⟩ (fun q hq=>hc q (.tail _ hq)) (by simp at hl ⊢;omega) (by simp;omega)
   refine Seg.again rfl (Seg.perm (a:=⟨_,_,_,[],_⟩) (List.Perm.of_eq ?_) (ih.mono ?_))
   ·show _++[]=_
    rw[List.append_nil,wl,←e0,←el]
    rfl
   ·rintro s ⟨x',ns',e',h1,h2,h3,h4,h5⟩
    exact⟨x',ns',e',h1,h2,by rw[h3,e0],by rw[h4,←el];simp[z7,hb],fun _=>h5 (.inl (by cases x<;>rfl))⟩
  |false=>
   have hb:(p.1.cps[0]?==some 32)=false:=by rw[hp0];simpa using hv
   have h:=Seg.run (K:=K) (bkS K W z cell ln x (zi ns) e pre.length (post.length+1) (za (pre++p::post)) e2 p c pos) (tl:=[]) rfl rfl bk_exts _ [0,1,2,3,4] (bk_r2 K W z cell ln x (zi ns) e pre.length (post.length+1) (za (pre++p::post)) e2 p c pos) (by decide) rfl (by decide) (fun _ _ _=>hpc false hv) (fun _ _ _=>rfl)
   have h:=Seg.eqT (List.append_nil _) h
   refine Seg.trans h ?_
   rintro s ⟨α,τ,γ,_,rfl⟩
   have ih:=bk_loop (K:=K) (W:=W) (z:=z) (cell:=cell) (ln:=ln) (e2:=e2) post (pre++[p]) (cmX x (.int (.ofNat pre.length) ((τ 0).tok 0)) ((τ 1).tok 0)) ns e ⟨179,56,179,73⟩ (fun q hq=>hc q (.tail _ hq)) (by simp at hl ⊢;omega) (by simp;omega)
   refine Seg.again rfl (Seg.perm (a:=⟨_,_,_,[],_⟩) (List.Perm.of_eq ?_) (ih.mono ?_))
   ·show _++[]=_
    rw[List.append_nil,←e0,←el]
    rfl
   ·rintro s ⟨x',ns',e',h1,h2,h3,h4,h5⟩
    exact⟨x',ns',e',h1,h2,by rw[h3,e0],by rw[h4,←el];simp[z7,hb],fun _=>h5 (.inl (by cases x<;>rfl))⟩
def ch1(c:Nat):Str:=⟨#[c]⟩
theorem ws_exts{K:Wd}{W:List (Code × Pos)}{m:Nat}{c:Nat}:∀F,Under (cfg K.P K.V W m []) F→∀e E,nth [xSNext c,xSNextA c,xStrIn,zD 1] e=some E→ExtOk (cfg K.P K.V W m []) K.w F E:=fun F U=>
 (AllOk.cons (.leaf U xSNext_ok) (.cons (.leaf U xSNextA_ok) (.cons (.leaf U xStrIn_ok) (.cons (.leaf U zI) .nil)))).nth
theorem ws_loop{K:Wd}{W:List (Code × Pos)}{z:CmA}{asc:Bool}{tS:Tok}:∀(post pre:List Nat) (x:Option (Value × Tok)) (ns:List (Str × Tok)) (e:Nat) (pos:Pos),pre.length+post.length≤1000→ns.length≤pre.length→
  Seg K W ⟨zx (x0 z),x0 z,pos,[],[(z.dct,cmD K.P wK x),(z.acc,zd (za ns) e),(z.it,uA asc ⟨⟨pre++post⟩⟩ tS pre.length)]⟩ (fun s=>∃x' ns' e',s.cur=.pure (.done .next)∧s.fs=[]∧s.T=[(z.dct,cmD K.P wK x'),(z.acc,zd (za ns') e')]∧ns'.map (·.1)=ns.map (·.1)++(post.filter fun c=>!isWs c).map ch1∧(x.isSome=true∨post≠[]→x'.isSome=true)∧(x=none→post=[]→x'=none))
 |[],pre,x,ns,e,pos,_,_=>by
  have h:=Seg.run (K:=K) (wsS K W z asc x (za ns) e pre.length ⟨⟨pre++[]⟩⟩ tS 0 pos) (tl:=[]) rfl rfl ws_exts _ [2,3] (ws_rE K W z asc x (za ns) e pre.length ⟨⟨pre++[]⟩⟩ tS 0 pos) (by decide) rfl (by decide) (fun _ _ _=>zc (by
   have:(⟨pre++[]⟩:Array Nat)[pre.length]?=none:=by simp
   show LV.ov (yH (⟨pre++[]⟩:Array Nat)[pre.length]?)=_
   rw[this];rfl) zl) (fun _ _ _=>rfl)
  have h:=Seg.eqT (List.append_nil _) h
  refine h.mono ?_
  rintro s ⟨α,τ,γ,_,rfl⟩
  exact⟨x,ns,e,rfl,rfl,rfl,by simp,fun h=>h.elim id fun h=>absurd rfl h,fun h _=>h⟩
 |c::post,pre,x,ns,e,pos,hl,hn=>by
  have hS:(⟨pre++c::post⟩:Array Nat)[pre.length]?=some c:=by simp
  have e0:pre++c::post=(pre++[c])++post:=by simp
  have el:pre.length+1=(pre++[c]).length:=by simp
  have hpc:∀v,isWs c=v→Lg.Ok (wsPc ⟨⟨pre++c::post⟩⟩ pre.length c v):=fun v hv=>zc (by rw[hv]) (zc (vz hS) zl)
  cases hv:isWs c with
  |true=>
   have h:=Seg.run (K:=K) (wsS K W z asc x (za ns) e pre.length ⟨⟨pre++c::post⟩⟩ tS c pos) (tl:=[]) rfl rfl ws_exts _ [0,1,2] (ws_r1 K W z asc x (za ns) e pre.length ⟨⟨pre++c::post⟩⟩ tS c pos) (by decide) rfl (by decide) (fun _ _ _=>hpc true hv) (fun _ _ _=>rfl)
   have h:=Seg.eqT (List.append_nil _) h
   refine Seg.trans h ?_
   rintro s ⟨α,τ,γ,_,rfl⟩
   have ih:=ws_loop (K:=K) (W:=W) (z:=z) (asc:=asc) (tS:=tS) post (pre++[c]) (cmX x (.str ⟨#[c]⟩ ((τ 0).tok 0)) ((τ 1).tok 0)) ns e ⟨192,51,192,98⟩ (by simp at hl ⊢;omega) (by simp;omega)
   refine Seg.again rfl (Seg.perm (a:=⟨_,_,_,[],_⟩) (List.Perm.of_eq ?_) (ih.mono ?_))
   ·show _++[]=_
    rw[List.append_nil,←e0,←el]
   ·rintro s ⟨x',ns',e',h1,h2,h3,h4,h5,h6⟩
    exact⟨x',ns',e',h1,h2,h3,by rw[h4];simp[hv],fun _=>h5 (.inl (by cases x<;>rfl)),fun _ h=>by cases h⟩
  |false=>
   have h:=Seg.run (K:=K) (wsS K W z asc x (za ns) e pre.length ⟨⟨pre++c::post⟩⟩ tS c pos) (tl:=[]) rfl rfl ws_exts _ [0,1,2] (ws_r2 K W z asc x (za ns) e pre.length ⟨⟨pre++c::post⟩⟩ tS c pos) (by decide) rfl (by decide) (fun _ _ _=>zc (zk (by rw[zm];omega)) (hpc false hv)) (fun _ _ _=>rfl)
   have h:=Seg.eqT (List.append_nil _) h
   refine Seg.trans h ?_
   rintro s ⟨α,τ,γ,_,rfl⟩
   have ih:=ws_loop (K:=K) (W:=W) (z:=z) (asc:=asc) (tS:=tS) post (pre++[c]) (cmX x (.str ⟨#[c]⟩ ((τ 0).tok 0)) ((τ 1).tok 0)) (ns++[(⟨#[c]⟩,(τ 0).tok 0)]) ((τ 4).tok 0) ⟨192,27,192,31⟩ (by simp at hl ⊢;omega) (by simp;omega)
   refine Seg.again rfl (Seg.perm (a:=⟨_,_,_,[],_⟩) (List.Perm.of_eq ?_) (ih.mono ?_))
   ·show _++[]=_
    rw[List.append_nil,←zA,←e0,←el]
   ·rintro s ⟨x',ns',e',h1,h2,h3,h4,h5,h6⟩
    exact⟨x',ns',e',h1,h2,h3,by rw[h4];simp[hv,ch1],fun _=>h5 (.inl (by cases x<;>rfl)),fun _ h=>by cases h⟩
theorem ws_seg{K:Wd}{W:List (Code × Pos)}{z:CmA}{asc:Bool}{S:Str}{tS:Tok}{pos:Pos}(hl:S.length≤1000) :
  Seg K W ⟨zx (wsStart z),wsStart z,pos,[],[(z.it,uA asc S tS 0),(z.acc,zd #[] 0),(z.dct,dictO [] 0)]⟩ (fun s=>∃x' ns' e',s.cur=.pure (.done .next)∧s.fs=[]∧s.T=[(z.dct,cmD K.P wK x'),(z.acc,zd (za ns') e')]∧ns'.map (·.1)=(S.cps.toList.filter fun c=>!isWs c).map ch1∧(x'=none↔S.cps.toList=[])):=by
 refine Seg.trans (yS (ws_rS K W z asc S tS pos) (R:=[(z.acc,zd #[] 0),(z.dct,dictO [] 0)]) (by intro p hp;simp only[List.mem_cons,List.not_mem_nil,or_false] at hp;rcases hp with rfl|rfl<;>rfl)) ?_
 rintro s ⟨p,rfl⟩
 have ih:=ws_loop (K:=K) (W:=W) (z:=z) (asc:=asc) (tS:=tS) S.cps.toList [] none [] 0 p (by simpa using (show S.cps.size≤1000 from hl)) (Nat.le_refl _)
 refine Seg.again rfl (Seg.perm (a:=⟨_,_,_,[],_⟩) ?_ (ih.mono ?_))
 ·show List.Perm [(z.it,uA asc S tS 0),(z.acc,zd #[] 0),(z.dct,dictO [] 0)] [(z.dct,dictO [] 0),(z.acc,zd #[] 0),(z.it,uA asc S tS 0)]
  exact(List.Perm.cons _ (List.Perm.swap _ _ _)).trans ((List.Perm.swap _ _ _).trans (List.Perm.cons _ (List.Perm.swap _ _ _)))
 ·rintro s ⟨x',ns',e',h1,h2,h3,h4,h5,h6⟩
  refine⟨x',ns',e',h1,h2,h3,by simpa using h4,⟨fun h=>Classical.byContradiction fun h'=>?_,fun h=>h6 rfl h⟩⟩
  have:=h5 (.inr h')
  rw[h] at this
  cases this
theorem bk_seg{K:Wd}{W:List (Code × Pos)}{z:CmA}{cell ln:Addr}{e2:Nat}{l:List (Str × Tok)}{pos:Pos}(hc:∀p∈l,p.1.cps[0]?≠none)(hl:l.length≤500)(h0:l≠[]) :
  Seg K W ⟨zx (bkStart z cell),bkStart z cell,pos,[],[(z.it,xE 1 (l.length - 1)),(z.acc,zd #[] 0),(z.dct,dictO [] 0),(cell,zU (.ref ln)),(ln,zd (za l) e2)]⟩ (fun s=>∃x' ns' e',s.cur=.pure (.done .next)∧s.fs=[]∧s.T=[(z.dct,cmD K.P sK x'),(z.acc,zd (zi ns') e'),(cell,zU (.ref ln)),(ln,zd (za l) e2)]∧ns'.map (·.1)=z7 1 ((l.map (·.1)).tail)∧(ns'≠[]→x'.isSome=true)):=by
 refine Seg.trans (yS (bk_rS K W z cell (l.length - 1) pos) (R:=[(z.acc,zd #[] 0),(z.dct,dictO [] 0),(cell,zU (.ref ln)),(ln,zd (za l) e2)]) (by intro p hp;simp only[List.mem_cons,List.not_mem_nil,or_false] at hp;rcases hp with rfl|rfl|rfl|rfl<;>rfl)) ?_
 rintro s ⟨p,rfl⟩
 match l,h0,hc,hl with
 |q::r,_,hc,hl=>
  have ih:=bk_loop (K:=K) (W:=W) (z:=z) (cell:=cell) (ln:=ln) (e2:=e2) r [q] none [] 0 p (fun p hp=>hc p (.tail _ hp)) (by simp at hl ⊢;omega) (Nat.zero_le _)
  refine Seg.again rfl (Seg.perm (a:=⟨_,_,_,[],_⟩) ?_ (ih.mono ?_))
  ·show List.Perm [(z.it,xE 1 ((q::r).length - 1)),(z.acc,zd #[] 0),(z.dct,dictO [] 0),(cell,zU (.ref ln)),(ln,zd (za (q::r)) e2)] [(z.dct,dictO [] 0),(z.acc,zd #[] 0),(z.it,xE 1 ((q::r).length - 1)),(cell,zU (.ref ln)),(ln,zd (za (q::r)) e2)]
   exact(List.Perm.cons _ (List.Perm.swap _ _ _)).trans ((List.Perm.swap _ _ _).trans (List.Perm.cons _ (List.Perm.swap _ _ _)))
  ·rintro s ⟨x',ns',e',h1,h2,h3,h4,h5⟩
   refine⟨x',ns',e',h1,h2,h3,by simpa using h4,fun h=>h5 (.inr fun hr=>h ?_)⟩
   subst hr
   have:ns'.map (·.1)=[]:=by simpa [z7] using h4
   simpa using this
structure PS where
 rows:List Str
 line:List Str
 room:Int
def xm(row:Str):Bool:=(row.cps.toList.filter fun c=>!isWs c).isEmpty
def yQ(line:List Str):Str:=Txt.join ⟨#[]⟩ (match line.getLast?==some ⟨#[32]⟩ with
 |true=>line.dropLast
 |false=>line)
def yD(rows:List Str)(room:Int)(row:Str):List Str:=match rows.getLast?,xm row with
 |some l,true=>rows.dropLast++[cat l row]
 | _,_=>match decide (room > 0) || row.cps.toList != [] with
  |true=>rows++[row]
  |false=>rows
def yY(held:List Str)(s:PS):PS:=⟨yD s.rows s.room (yQ s.line),held,0⟩
def u8(P:Params)(V:PgV):Prop:=V=.n∨∃v1 t1 v2 t2 w,V=.th v1 t1 v2 t2 (PgW.ents P w) w.k
def PgOk(K:Wd)(g:PgF)(it tl:Addr)(sl:List (Str × Tok))(i:Nat)(s:PS)(T:zh):Prop:=
 ∃q:PgL,q.g=g∧q.it=it∧q.tl=tl∧q.sl=sl∧q.i=i∧List.Perm T (q.T K.P)∧q.rm=s.room∧q.rows.map (·.1)=s.rows∧q.line.map (·.1)=s.line∧u8 K.P q.V
theorem row_split(P:Params)(w:PgW)(x:Value)(t:Tok):∃bl t' R,(w.row x t).ents P=blE P bl (ent P sRow t' x::R):=by
 cases w with
 |o=>exact⟨none,t,[],rfl⟩
 |b v3 t3=>exact⟨some (v3,t3),t,[],rfl⟩
 |r v3 t3=>exact⟨none,t3,[],rfl⟩
 |br v3 t3 v4 t4=>exact⟨some (v3,t3),t4,[],rfl⟩
 |rb v3 t3 v4 t4=>exact⟨none,t3,_,rfl⟩
theorem pn_exts{K:Wd}{W:List (Code × Pos)}{m:Nat}{asc:Bool}:∀F,Under (cfg K.P K.V W m []) F→∀e E,nth (pnXs K asc) e=some E→ExtOk (cfg K.P K.V W m []) K.w F E:=fun F U=>
 (AllOk.cons (.leaf U wD) (.cons zJ (.cons (.leaf U zI) (.cons (.leaf U xStrIterB_ok) .nil)))).nth
theorem vZ{K:Wd}{W:List (Code × Pos)}{m:Nat}{z:PeQ}:∀F,Under (cfg K.P K.V W m []) F→∀e E,nth (peXs K z) e=some E→ExtOk (cfg K.P K.V W m []) K.w F E:=fun F U=>
 (AllOk.cons (.leaf U wD) (.cons zJ (.cons (.leaf U zI) (.cons (.leaf U vM) (.cons (.leaf U vn) (.cons (.leaf U xSetL_ok) .nil)))))).nth
def NEnd(K:Wd)(n:PnQ)(hl:List (Str × Tok))(row:Str)(s:St):Prop:=s.cur=.pure (.again n.z.q.code)∧s.fs=[]∧s.code=n.z.q.code∧
 PgOk K n.z.q.g n.z.q.it n.z.q.tl n.z.q.sl n.z.q.i ⟨yD (n.z.q.rows.map (·.1)) n.z.q.rm row,hl.map (·.1),0⟩ s.T
theorem n_end{K:Wd}{n:PnQ}{hl:List (Str × Tok)}{eh:Nat}{w:PgW}{t:Tok}{rows:List (Str × Tok)}{e:Nat}{s:St}(hho:n.z.ho=zd (za hl) eh)(hV:n.V K.P=.th n.v1 n.t1 (.ref n.z.h) n.t2 (w.ents K.P) w.k)
  (hr:rows.map (·.1)=yD (n.z.q.rows.map (·.1)) n.z.q.rm n.z.S) (h1:s.cur=.pure (.again n.z.q.code)) (h2:s.fs=[]) (h3:s.code=n.z.q.code) (h4:s.T=n.nx t (za rows) e K):NEnd K n hl n.z.S s:=by
 refine⟨h1,h2,h3,⟨n.z.q.g,n.z.q.it,n.z.q.tl,n.z.h,n.z.q.sl,n.z.q.i,0,t,n.V K.P,rows,e,hl,eh⟩,rfl,rfl,rfl,rfl,rfl,?_,rfl,hr,rfl,.inr ⟨_,_,_,_,w,hV⟩⟩
 rw[h4]
 unfold PnQ.nx
 rw[hho]
 exact(List.perm_append_comm (l₁:=[(n.z.h,zd (za hl) eh)]) (l₂:=[_,_,_,_,_]))
theorem rowsArr_ne{l:List (Str × Tok)}(h:l≠[]):leq (za l).toList []=false:=by
 cases l with
 |nil=>exact absurd rfl h
 |cons p r=>rfl
theorem vT{l:List (Str × Tok)}(h:l≠[]):((za l).size != 0)=true:=by
 rw[zm]
 cases l with
 |nil=>exact absurd rfl h
 |cons p r=>simp
theorem wc(room:Int)(row:Str):yD [] room row=match decide (room > 0) || row.cps.toList != [] with
 |true=>[row]
 |false=>[]:=by
 unfold yD
 simp
theorem gt_ok{a b:Int}{v:Bool}{l:Lg}(h:decide (a > b)=v)(hl:Lg.Ok l):Lg.Ok (gtI a b v::l):=zc (by unfold gtI;rw[h]) hl
theorem n_nil{K:Wd}{b:Bag}{n:PnQ}{hl:List (Str × Tok)}{eh:Nat}{w:PgW}{pos:Pos}(hho:n.z.ho=zd (za hl) eh)(hV:n.V K.P=.th n.v1 n.t1 (.ref n.z.h) n.t2 (w.ents K.P) w.k)(hrows:n.z.q.rows=[]) :
  Seg K (WK ([0,0,3],b)) ⟨(pnS K b n false pos).cur,n.z.q.code,pos,[],n.T K⟩ (NEnd K n hl n.z.S):=by
 have hR:Lg.Ok (n.pcR false):=zc (by rw[hrows];rfl) (zc (by rw[hrows];rfl) zl)
 cases hg:decide (n.z.q.rm > 0) with
 |true=>
  have h:=Seg.run (K:=K) (pnS K b n false pos) (tl:=[]) rfl rfl pn_exts _ [1,2,3,4,5,6] (pn_a K b n false pos) (by decide) rfl (by decide) (fun _ _ _=>zc (zk (by rw[hrows];decide)) (gt_ok hg hR)) (fun _ _ _=>rfl)
  have h:=Seg.eqT (List.append_nil _) h
  refine h.mono ?_
  rintro s ⟨α,τ,γ,_,rfl⟩
  refine n_end (rows:=n.z.q.rows++[(n.z.S,n.t4)]) (t:=(τ 4).tok 0) (e:=(τ 3).tok 0) hho hV ?_ rfl rfl rfl ?_
  ·rw[hrows];simp[wc,hg]
  ·rw[zA];exact List.append_nil _
 |false=>
  cases hs:(n.z.S.cps.toList != (⟨#[]⟩:Str).cps.toList) with
  |true=>
   have h:=Seg.run (K:=K) (pnS K b n false pos) (tl:=[]) rfl rfl pn_exts _ [1,2,3,4,5,6] (pn_b K b n false pos) (by decide) rfl (by decide) (fun _ _ _=>zc (zk (by rw[hrows];decide)) (xp hs (gt_ok hg hR))) (fun _ _ _=>rfl)
   have h:=Seg.eqT (List.append_nil _) h
   refine h.mono ?_
   rintro s ⟨α,τ,γ,_,rfl⟩
   refine n_end (rows:=n.z.q.rows++[(n.z.S,n.t4)]) (t:=(τ 6).tok 0) (e:=(τ 5).tok 0) hho hV ?_ rfl rfl rfl ?_
   ·rw[hrows]
    have hs':(n.z.S.cps.toList != [])=true:=hs
    simp only[List.map_nil,wc,hs',Bool.or_true]
    rfl
   ·rw[zA];exact List.append_nil _
  |false=>
   have h:=Seg.run (K:=K) (pnS K b n false pos) (tl:=[]) rfl rfl pn_exts _ [1,2,3,4,5,6] (pn_c K b n false pos) (by decide) rfl (by decide) (fun _ _ _=>xp hs (gt_ok hg hR)) (fun _ _ _=>rfl)
   have h:=Seg.eqT (List.append_nil _) h
   refine h.mono ?_
   rintro s ⟨α,τ,γ,_,rfl⟩
   refine n_end (rows:=n.z.q.rows) (t:=(τ 5).tok 0) (e:=n.z.q.er) hho hV ?_ rfl rfl rfl ?_
   ·rw[hrows]
    have hs':(n.z.S.cps.toList != [])=false:=hs
    simp only[List.map_nil,wc,hs',hg,Bool.or_self]
   ·exact List.append_nil _
theorem xz{α:Type}{l:List α}(h:l≠[]):∃a x,l=a++[x]:=⟨l.dropLast,l.getLast h,(List.dropLast_concat_getLast h).symm⟩
theorem y9(a:List Str)(F:Str)(room:Int)(row:Str):yD (a++[F]) room row=match xm row with
 |true=>a++[cat F row]
 |false=>match decide (room > 0) || row.cps.toList != [] with
  |true=>a++[F]++[row]
  |false=>a++[F]:=by
 unfold yD
 simp only[List.getLast?_append,List.getLast?_singleton,Option.some_or,List.dropLast_concat]
 cases xm row<;>rfl
theorem pyAt_last(l:List (Str × Tok))(p:Str × Tok):yU (za (l++[p])) (.negSucc 0)=some (.str p.1 p.2):=by
 have hs:seqIndex? (.negSucc 0) (za (l++[p])).size=some l.length:=by
  unfold seqIndex?
  rw[zm]
  have h0:((Int.negSucc 0) < 0):=by decide
  simp only[h0,if_true,List.length_append,List.length_singleton]
  have e:Int.negSucc 0+((l.length+1:Nat):Int)=(l.length:Int):=by
   show (-1:Int)+_=_
   omega
  rw[e]
  simp
  omega
 unfold yU
 rw[hs]
 simp[za]
theorem near_last:(vD (.negSucc 0)).1=(vD (.negSucc 0)).2:=rfl
theorem n_cons{K:Wd}{b:Bag}{n:PnQ}{hl:List (Str × Tok)}{eh:Nat}{w:PgW}{pos:Pos}(hho:n.z.ho=zd (za hl) eh)(hV:n.V K.P=.th n.v1 n.t1 (.ref n.z.h) n.t2 (w.ents K.P) w.k)(hrows:n.z.q.rows≠[])
  (hS:n.z.S.length≤1000) (hL:∀p∈n.z.q.rows,p.1.length≤1000) (hn:n.z.q.rows.length≤1000) :
  Seg K (WK ([0,0,3],b)) ⟨(pnS K b n false pos).cur,n.z.q.code,pos,[],n.T K⟩ (NEnd K n hl n.z.S):=by
 have hR:Lg.Ok (n.pcR true):=zc (by rw[rowsArr_ne hrows];rfl) (zc (by rw[vT hrows];rfl) zl)
 have hlive:∀p∈(n.T K).tail,p.2.isFreed=false:=fun p hp=>by
  simp only[PnQ.T,List.tail_cons,List.mem_cons,List.not_mem_nil,or_false] at hp
  rcases hp with rfl|rfl|rfl|rfl|rfl|rfl<;>first|rfl|(rw[hho];rfl)
 have key:∀asc,(n.z.S.cps.all (· < 128))=asc→Seg K (WK ([0,0,3],b)) ⟨(pnS K b n false pos).cur,n.z.q.code,pos,[],n.T K⟩ (NEnd K n hl n.z.S):=fun asc hasc=>by
  have h:=Seg.run (K:=K) (pnS K b n asc pos) (tl:=[]) rfl rfl pn_exts _ [2,1,0,4,5,6,7,8,9] (pn_1 K b n asc pos) (by decide) rfl (by decide) (fun _ _ _=>zc (by rw[hasc]) hR) (fun _ _ _=>rfl)
  have h:=Seg.eqT (List.append_nil _) h
  refine Seg.trans h ?_
  rintro s ⟨α,τ,γ,_,rfl⟩
  have hc:=fun W=>Seg.frame (n.T K).tail hlive (ws_seg (K:=K) (W:=W) (z:=wsZ n.z.q α) (asc:=asc) (S:=n.z.S) (tS:=n.t4) (pos:=⟨192,44,192,47⟩) hS)
  refine Seg.eqT (List.append_nil _).symm (Seg.call rfl (hc _) ?_)
  rintro s ⟨s',⟨x',ns',e',e1,e2,e3,e4,e5⟩,rfl⟩
  refine⟨e2,.ok .next,e1,?_⟩
  dsimp only
  rw[e3]
  have hwh:ns'=[]↔xm n.z.S=true:=by
   unfold xm
   rw[List.isEmpty_iff]
   have hl:ns'.length=(n.z.S.cps.toList.filter fun c=>!isWs c).length:=by
    have:=congrArg List.length e4
    simpa using this
   rw[←List.length_eq_zero_iff,←List.length_eq_zero_iff (l:=n.z.S.cps.toList.filter fun c=>!isWs c),hl]
  obtain⟨a,F,ha⟩:=xz hrows
  let z:PeQ:=⟨n,α 2,α 1,x',za ns',e',za a,F.1,F.2⟩
  have eT:z.T K=[((wsZ n.z.q α).dct,cmD K.P wK x'),((wsZ n.z.q α).acc,zd (za ns') e')]++(n.T K).tail:=rfl
  have eβ:pe3 (α 0) z.acc z.dct=pe3 (α 0) (α 1) (α 2):=rfl
  have hcur:pgKC K b n.z.q α (.ok .next)=pgKC K b n.z.q (pe3 (α 0) z.acc z.dct) (.ok .next):=by
   obtain⟨w',b1,b2,V0,hw⟩:=K
   cases b1<;>kernel_rfl
  show Seg K _ ⟨pgKC K b n.z.q α (.ok .next),n.z.q.code,⟨192,44,192,47⟩,[],_⟩ _
  rw[hcur,←eT]
  have hmap:n.z.q.rows.map (·.1)=a.map (·.1)++[F.1]:=by rw[ha];simp
  by_cases hw:xm n.z.S=true
  ·have hns:ns'=[]:=hwh.mpr hw
   have hW:Lg.Ok (z.pcW true):=by
    show Lg.Ok [(.b (leq (za ns').toList []),.b true),(.b ((za ns').size != 0 || xf (za ns').toList []),.b true)]
    rw[hns]
    exact zc rfl (zc rfl zl)
   have hpc:Lg.Ok ((.a z.rw,.a (z.ys.push (.str z.F z.tF)))::small z.F.length::small z.n.z.S.length::(.ov (yU z.rw (.negSucc 0)),.ov (some (.str z.F z.tF)))::vD (.negSucc 0)::z.pcW true):=by
    have e:z.rw=za (a++[F]):=by show za n.z.q.rows=_;rw[ha]
    rw[e]
    exact zc (by rw[zA]) (zc (zk (hL F (by rw[ha];simp))) (zc (zk hS) (zc (by rw[pyAt_last]) (zc near_last hW))))
   have fin:∀{t e1 e2:Tok} {s:St},s.cur=.pure (.again n.z.q.code)→s.fs=[]→s.code=n.z.q.code→s.T=n.nx t ((za a).push (.str (cat F.1 n.z.S) e1)) e2 K→NEnd K n hl n.z.S s:=fun {t e1 e2 s} h1 h2 h3 h4=>by
    refine n_end (rows:=a++[(cat F.1 n.z.S,e1)]) (t:=t) (e:=e2) hho hV ?_ h1 h2 h3 (by rw[←zA];exact h4)
    rw[hmap,y9,hw];simp
   cases hx:x' with
   |some v=>
    have h:=Seg.run (K:=K) (peS K b z (α 0) ⟨192,44,192,47⟩) (tl:=[]) rfl rfl vZ _ [3,4,5,6,7,8] (pe_1 K b z (α 0) ⟨192,44,192,47⟩ (hx:=by show x'.isSome=true;rw[hx];rfl)) (by decide) rfl (by decide) (fun _ _ _=>hpc) (fun _ _ _=>rfl)
    have h:=Seg.eqT (List.append_nil _) h
    refine h.mono ?_
    rintro s ⟨α',τ',γ',_,rfl⟩
    exact fin rfl rfl rfl (List.append_nil _)
   |none=>
    have h:=Seg.run (K:=K) (peS K b z (α 0) ⟨192,44,192,47⟩) (tl:=[]) rfl rfl vZ _ [3,4,5,6,7,8] (pe_2 K b z (α 0) ⟨192,44,192,47⟩ (hx:=by show x'.isNone=true;rw[hx];rfl)) (by decide) rfl (by decide) (fun _ _ _=>hpc) (fun _ _ _=>rfl)
    have h:=Seg.eqT (List.append_nil _) h
    refine h.mono ?_
    rintro s ⟨α',τ',γ',_,rfl⟩
    exact fin rfl rfl rfl (List.append_nil _)
  ·have hns:ns'≠[]:=fun h=>hw (hwh.mp h)
   have hw':xm n.z.S=false:=by simpa using hw
   have hW:Lg.Ok (z.pcW false):=by
    show Lg.Ok [(.b (leq (za ns').toList []),.b false),(.b ((za ns').size != 0 || xf (za ns').toList []),.b true)]
    exact zc (by rw[rowsArr_ne hns]) (zc (by rw[vT hns];rfl) zl)
   have hx:z.x.isSome=true:=by
    cases hx:x' with
    |some v=>show x'.isSome=true;rw[hx];rfl
    |none=>
     have:=e5.mp hx
     rw[this] at e4
     simp at e4
     exact absurd e4 hns
   have hsm:small z.rw.size=small n.z.q.rows.length:=by show small (za n.z.q.rows).size=_;rw[zm]
   cases hg:decide (n.z.q.rm > 0) with
   |true=>
    have h:=Seg.run (K:=K) (peS K b z (α 0) ⟨192,44,192,47⟩) (tl:=[]) rfl rfl vZ _ [3,4,5,6,7,8] (pe_a K b z (α 0) ⟨192,44,192,47⟩ (hx:=hx)) (by decide) rfl (by decide) (fun _ _ _=>zc (by rw[hsm];exact zk hn) (gt_ok hg hW)) (fun _ _ _=>rfl)
    have h:=Seg.eqT (List.append_nil _) h
    refine h.mono ?_
    rintro s ⟨α',τ',γ',_,rfl⟩
    refine n_end (rows:=n.z.q.rows++[(n.z.S,n.t4)]) (t:=(τ' 4).tok 0) (e:=(τ' 3).tok 0) hho hV ?_ rfl rfl rfl ?_
    ·rw[hmap,y9,hw',hg,List.map_append,hmap];rfl
    ·rw[←zA];exact List.append_nil _
   |false=>
    cases hs:(n.z.S.cps.toList != (⟨#[]⟩:Str).cps.toList) with
    |true=>
     have h:=Seg.run (K:=K) (peS K b z (α 0) ⟨192,44,192,47⟩) (tl:=[]) rfl rfl vZ _ [3,4,5,6,7,8] (pe_b K b z (α 0) ⟨192,44,192,47⟩ (hx:=hx)) (by decide) rfl (by decide) (fun _ _ _=>zc (by rw[hsm];exact zk hn) (xp hs (gt_ok hg hW))) (fun _ _ _=>rfl)
     have h:=Seg.eqT (List.append_nil _) h
     refine h.mono ?_
     rintro s ⟨α',τ',γ',_,rfl⟩
     have hs':(n.z.S.cps.toList != [])=true:=hs
     refine n_end (rows:=n.z.q.rows++[(n.z.S,n.t4)]) (t:=(τ' 6).tok 0) (e:=(τ' 5).tok 0) hho hV ?_ rfl rfl rfl ?_
     ·rw[hmap,y9,hw',hg,hs',List.map_append,hmap];rfl
     ·rw[←zA];exact List.append_nil _
    |false=>
     have h:=Seg.run (K:=K) (peS K b z (α 0) ⟨192,44,192,47⟩) (tl:=[]) rfl rfl vZ _ [3,4,5,6,7,8] (pe_c K b z (α 0) ⟨192,44,192,47⟩ (hx:=hx)) (by decide) rfl (by decide) (fun _ _ _=>xp hs (gt_ok hg hW)) (fun _ _ _=>rfl)
     have h:=Seg.eqT (List.append_nil _) h
     refine h.mono ?_
     rintro s ⟨α',τ',γ',_,rfl⟩
     have hs':(n.z.S.cps.toList != [])=false:=hs
     refine n_end (rows:=n.z.q.rows) (t:=(τ' 5).tok 0) (e:=n.z.q.er) hho hV ?_ rfl rfl rfl ?_
     ·rw[hmap,y9,hw',hg,hs'];rfl
     ·exact List.append_nil _
 exact key _ rfl
def zo(l:List Str):Nat:=(l.map Str.length).sum
theorem joinLen(l:List Str):(Txt.join ⟨#[]⟩ l).length=zo l:=by
 have h:=congrArg List.length (uI l)
 simp only[Array.length_toList,List.length_flatMap] at h
 exact h
theorem zK(a b:List Str):zo (a++b)=zo a+zo b:=by simp[zo]
theorem u0{l:List Str}{x:Str}(h:x∈l):x.length≤zo l:=by
 induction l with
 |nil=>cases h
 |cons y r ih=>
  rcases List.mem_cons.mp h with rfl|h
  ·simp[zo]
  ·have:=ih h
   simp only[zo,List.map_cons,List.sum_cons] at this ⊢
   omega
theorem yX(l:List Str):zo l.dropLast≤zo l:=by
 by_cases h:l=[]
 ·subst h;exact Nat.le_refl _
 ·obtain⟨a,x,rfl⟩:=xz h
  rw[List.dropLast_concat,zK];omega
theorem rowOf_len(l:List Str):(yQ l).length≤zo l:=by
 unfold yQ
 rw[joinLen]
 split
 ·exact yX l
 ·exact Nat.le_refl _
theorem slice_lastR(l:List (Str × Tok)):slicePick (za l) (some (.negSucc 0)) none none=za (l.drop (l.length - 1)):=by
 have:=slicePick_last (za l) 1 (by omega)
 rw[show (Int.negSucc 0)=-((1:Nat):Int) from rfl,this,zm]
 simp[za]
theorem slice_butR(l:List (Str × Tok)):slicePick (za l) none (some (.negSucc 0)) none=za l.dropLast:=by
 have:=slicePick_butLast (za l) 1 (by omega)
 rw[show (Int.negSucc 0)=-((1:Nat):Int) from rfl,this,zm,List.dropLast_eq_take]
 simp[za]
theorem lastLeq(l:List (Str × Tok))(t:Tok):leq (za (l.drop (l.length - 1))).toList (spcL t)=((l.map (·.1)).getLast?==some ⟨#[32]⟩)∧((za (l.drop (l.length - 1))).size != 1 || xf (za (l.drop (l.length - 1))).toList (spcL t))=true:=by
 by_cases h:l=[]
 ·subst h
  exact⟨rfl,rfl⟩
 ·obtain⟨a,x,rfl⟩:=xz h
  have e:(a++[x]).drop ((a++[x]).length - 1)=[x]:=by simp
  rw[e]
  refine⟨?_,rfl⟩
  simp only[List.map_append,List.map_cons,List.map_nil,List.getLast?_append,List.getLast?_singleton,Option.some_or]
  show (x.1==⟨#[32]⟩ && true)=_
  rw[Bool.and_true]
  rfl
theorem pf_exts{K:Wd}{W:List (Code × Pos)}{m:Nat}{z:PfQ}:∀F,Under (cfg K.P K.V W m []) F→∀e E,nth (pfXs K z) e=some E→ExtOk (cfg K.P K.V W m []) K.w F E:=fun F U=>
 (AllOk.cons (.leaf U xL) (.cons (.leaf U wD) (.cons (.leaf U xL) (.cons (.leaf U w4) .nil)))).nth
theorem joinPc{rl:List (Str × Tok)}(h:zo (rl.map (·.1))≤1000):Lg.Ok (PfQ.pcJ rl (Txt.join ⟨#[]⟩ (rl.map (·.1))) (za rl)):=by
 refine zc rfl (zc rfl (zc ?_ zl))
 rw[decide_eq_true]
 show zo (rl.map (·.1))+rl.length*0≤1000
 omega
theorem flush_seg{K:Wd}{b:Bag}{z:PfQ}{v1:Value}{t1 t2:Tok}{w:PgW}{hl:List (Str × Tok)}{eh:Nat}{pos:Pos}(hho:z.ho=zd (za hl) eh)(hJ:zo (z.q.line.map (·.1))≤1000)(hN:z.q.line.length≤1000)
  (hL:∀p∈z.q.rows,p.1.length≤1000) (hn:z.q.rows.length≤1000) :
  Seg K (WK ([0,0,3],b)) ⟨pfCur K b z,z.q.code,pos,[],z.T K (z.V K v1 t1 t2 w)⟩ (fun s=>s.cur=.pure (.again z.q.code)∧s.fs=[]∧s.code=z.q.code∧
   PgOk K z.q.g z.q.it z.q.tl z.q.sl z.q.i (yY (hl.map (·.1)) ⟨z.q.rows.map (·.1),z.q.line.map (·.1),z.q.rm⟩) s.T):=by
 have hsz:Lg.Ok [small (za z.q.line).size]:=zc (zk (by rw[zm];exact hN)) zl
 have hE:∀(t:Tok) (v:Bool),((z.q.line.map (·.1)).getLast?==some ⟨#[32]⟩)=v→∀z':PfQ,z'.q=z.q→z'.ys1=za (z.q.line.drop (z.q.line.length - 1))→Lg.Ok (z'.pcE t v):=fun t v hv z' e1 e2=>by
  obtain⟨h1,h2⟩:=lastLeq z.q.line t
  unfold PfQ.pcE
  rw[e1,e2,h1,h2,hv,slice_lastR]
  exact zc rfl (zc rfl (zc rfl hsz))
 have go:∀{l:List Value} {na ln:Addr} {S:Str} {t t4:Tok} {pos':Pos},S=yQ (z.q.line.map (·.1))→
   Seg K (WK ([0,0,3],b)) ⟨.call (.call (.builtin "list.__ne__") ⟨[.ref z.q.g.ra,.ref na],[]⟩) none false l (pgKN K b z.q na),z.q.code,pos',[],z.T2 K v1 t1 t2 (w.row (.str S t) t4) na ln⟩ (fun s=>s.cur=.pure (.again z.q.code)∧s.fs=[]∧s.code=z.q.code∧
   PgOk K z.q.g z.q.it z.q.tl z.q.sl z.q.i (yY (hl.map (·.1)) ⟨z.q.rows.map (·.1),z.q.line.map (·.1),z.q.rm⟩) s.T):=fun {l na ln S t t4 pos'} hS=>by
  obtain⟨bl,t',R,hw⟩:=row_split K.P w (.str S t) t4
  let n:PnQ:=⟨{ z with l:=l,S:=S },na,ln,v1,t1,t2,bl,t',t,R,(w.row (.str S t) t4).k⟩
  have hV:n.V K.P=.th n.v1 n.t1 (.ref n.z.h) n.t2 ((w.row (.str S t) t4).ents K.P) (w.row (.str S t) t4).k:=by
   show PgV.th v1 t1 (.ref z.h) t2 (blE K.P bl (ent K.P sRow t' (.str S t)::R)) _=_
   rw[←hw]
  have hT:n.T K=z.T2 K v1 t1 t2 (w.row (.str S t) t4) na ln:=by
   show [_,_,_,_,z.q.fr K.P (n.V K.P),_,_]=_
   rw[hV];rfl
  have hSl:n.z.S.length≤1000:=by
   show S.length≤1000
   rw[hS];exact Nat.le_trans (rowOf_len _) hJ
  have key:Seg K (WK ([0,0,3],b)) ⟨(pnS K b n false pos').cur,n.z.q.code,pos',[],n.T K⟩ (NEnd K n hl n.z.S):=by
   by_cases hr:n.z.q.rows=[]
   ·exact n_nil hho hV hr
   ·exact n_cons hho hV hr hSl hL hn
  rw[hT] at key
  refine key.mono ?_
  rintro s ⟨h1,h2,h3,h4⟩
  refine⟨h1,h2,h3,?_⟩
  have e:yY (hl.map (·.1)) ⟨z.q.rows.map (·.1),z.q.line.map (·.1),z.q.rm⟩=⟨yD (n.z.q.rows.map (·.1)) n.z.q.rm n.z.S,hl.map (·.1),0⟩:=by
   show PS.mk (yD _ _ (yQ _)) _ _=PS.mk (yD _ _ S) _ _
   rw[hS]
  rw[e]
  exact h4
 cases hv:((z.q.line.map (·.1)).getLast?==some ⟨#[32]⟩) with
 |false=>
  have hrow:yQ (z.q.line.map (·.1))=Txt.join ⟨#[]⟩ (z.q.line.map (·.1)):=by unfold yQ;rw[hv]
  let z':PfQ:={ z with ys1:=za (z.q.line.drop (z.q.line.length - 1)),ys2:=#[],rl:=z.q.line,S:=yQ (z.q.line.map (·.1)) }
  have h:=Seg.run (K:=K) (pfS K b z' (z'.V K v1 t1 t2 w) pos) (tl:=[]) rfl rfl pf_exts _ [0,4,5,6,7,8,9] (pg_f0 K b z' v1 t1 t2 w pos) (by decide) rfl (by decide) (fun _ τ _=>Lg.Ok.app (by show Lg.Ok (PfQ.pcJ z.q.line (yQ (z.q.line.map (·.1))) (za z.q.line));rw[hrow];exact joinPc hJ) (hE _ false hv z' rfl rfl)) (fun _ _ _=>rfl)
  have h:=Seg.eqT (List.append_nil _) h
  refine Seg.trans h ?_
  rintro s ⟨α,τ,γ,_,rfl⟩
  exact Seg.eqT (List.append_nil _).symm (go rfl)
 |true=>
  have hrow:yQ (z.q.line.map (·.1))=Txt.join ⟨#[]⟩ (z.q.line.dropLast.map (·.1)):=by unfold yQ;rw[hv,List.map_dropLast]
  let z':PfQ:={ z with ys1:=za (z.q.line.drop (z.q.line.length - 1)),ys2:=za z.q.line.dropLast,rl:=z.q.line.dropLast,S:=yQ (z.q.line.map (·.1)) }
  have hJ':zo (z.q.line.dropLast.map (·.1))≤1000:=by
   rw[List.map_dropLast]
   exact Nat.le_trans (yX _) hJ
  have h:=Seg.run (K:=K) (pfS K b z' (z'.V K v1 t1 t2 w) pos) (tl:=[]) rfl rfl pf_exts _ [0,6,7,8,9,10,11] (pg_f1 K b z' v1 t1 t2 w pos) (by decide) rfl (by decide) (fun _ τ _=>Lg.Ok.app (Lg.Ok.app (by show Lg.Ok (PfQ.pcJ z.q.line.dropLast (yQ (z.q.line.map (·.1))) (za z.q.line.dropLast));rw[hrow];exact joinPc hJ') (zc (by show LV.a (slicePick (za z.q.line) none (some (.negSucc 0)) none)=LV.a (za z.q.line.dropLast);rw[slice_butR]) hsz)) (hE _ true hv z' rfl rfl)) (fun _ _ _=>rfl)
  have h:=Seg.eqT (List.append_nil _) h
  refine Seg.trans h ?_
  rintro s ⟨α,τ,γ,_,rfl⟩
  exact Seg.eqT (List.append_nil _).symm (go rfl)
def xg(t:Str):Str:=match t.cps[0]?==some 32 with
 |true=>t
 |false=>cat ⟨#[32]⟩ t
def zr(wd:Int)(s:PS)(t:Str):PS:=match t.cps.toList==[] with
 |true=>s
 |false=>match t.cps.toList != [10] with
  |false=>yY [] s
  |true=>match t.cps.toList==[32] || decide (s.room+zo (s.line++[t])≤wd) with
   |true=>{ s with line:=s.line++[t] }
   |false=>match (z7 1 (s.line++[t]).tail).getLast? with
    |some k=>⟨s.rows++[Txt.join ⟨#[]⟩ ((s.line++[t]).take k)],(s.line++[t]).drop k,0⟩
    |none=>match s.room==0 with
     |true=>{ s with line:=s.line++[t] }
     |false=>yY [xg t] s
def uk(K:Wd)(q:PgL)(s':PS)(s:St):Prop:=s.cur=.pure (.again q.code)∧s.fs=[]∧s.code=q.code∧PgOk K q.g q.it q.tl q.sl (q.i+1) s' s.T
def PgL.ps(q:PgL):PS:=⟨q.rows.map (·.1),q.line.map (·.1),q.rm⟩
theorem vQ{P:Params}{V:PgV}(h:u8 P V)(v hv:Value)(ta tb:Tok):∃t1 t2 w,V.set v hv ta tb=.th v t1 hv t2 (PgW.ents P w) w.k:=by
 rcases h with rfl|⟨v1,t1,v2,t2,w,rfl⟩
 ·exact⟨ta,tb,.o,rfl⟩
 ·exact⟨t1,t2,w,rfl⟩
theorem vX{K:Wd}{W:List (Code × Pos)}{m:Nat}{p:Str × Tok}:∀F,Under (cfg K.P K.V W m []) F→∀e E,nth (plXs K p) e=some E→ExtOk (cfg K.P K.V W m []) K.w F E:=fun F U=>
 (AllOk.cons (.leaf U xK) (.cons (.leaf U zI) (.cons zJ .nil))).nth
theorem pb_exts{K:Wd}{W:List (Code × Pos)}{m:Nat}{z:PbQ}:∀F,Under (cfg K.P K.V W m []) F→∀e E,nth (pbXs K z) e=some E→ExtOk (cfg K.P K.V W m []) K.w F E:=fun F U=>
 (AllOk.cons (xSumL_ok U) (.cons zJ (.cons (.leaf U xRIterU_ok) (.cons (.leaf U xBLen_ok) .nil)))).nth
theorem we{K:Wd}{W:List (Code × Pos)}{m:Nat}{z:PcQ}:∀F,Under (cfg K.P K.V W m []) F→∀e E,nth (pcXs K z) e=some E→ExtOk (cfg K.P K.V W m []) K.w F E:=fun F U=>
 (AllOk.cons (.leaf U wD) (.cons zJ (.cons (.leaf U vM) (.cons (.leaf U xL) (.cons (.leaf U w4) (.cons (.leaf U zI) (.cons (.leaf U xL) (.cons (.leaf U vn) (.cons (.leaf U xStr0_ok) .nil))))))))).nth
theorem sumV_ints:∀l:List (Nat × Tok),ww (zi l).toList=((l.map (·.1)).sum:Nat)
 |[]=>rfl
 |p::r=>by
  have ih:=sumV_ints r
  show (p.1:Int)+ww (zi r).toList=_
  rw[ih]
  simp
theorem uM:∀l:List (Nat × Tok),allI (zi l).toList=true
 |[]=>rfl
 |p::r=>uM r
theorem turn1{K:Wd}{b:Bag}{q:PgL}{p:Str × Tok}{pos:Pos}(hp:q.sl[q.i]?=some p)(hV:u8 K.P q.V)(h1:(p.1.cps.toList==[])=true):Seg K (WK ([0,0,3],b)) ⟨zx q.code,q.code,pos,[],q.T K.P⟩ (uk K q (zr q.g.wd q.ps p.1)):=by
 have hN:Lg.Ok [q.pcN p]:=zc (by unfold PgL.pcN;simp[za,hp]) zl
 have h:=Seg.run (K:=K) (plS K b q p pos) (tl:=[]) rfl rfl vX _ [1,2,3,4,5,6] (pg_a1 K b q p pos) (by decide) rfl (by decide) (fun _ _ _=>y8 h1 hN) (fun _ _ _=>rfl)
 have h:=Seg.eqT (List.append_nil _) h
 refine h.mono ?_
 rintro s ⟨α,τ,γ,_,rfl⟩
 obtain⟨t1,t2,w,hw⟩:=vQ hV (.str p.1 p.2) (.ref (α 0)) ((τ 1).tok 0) ((τ 2).tok 0)
 refine⟨rfl,rfl,rfl,q.nx p ((τ 1).tok 0) ((τ 2).tok 0) (α 0),rfl,rfl,rfl,rfl,rfl,List.Perm.of_eq (List.append_nil _),?_⟩
 have e:zr q.g.wd q.ps p.1=q.ps:=by unfold zr;rw[h1]
 rw[e]
 exact⟨rfl,rfl,rfl,.inr ⟨_,_,_,_,w,hw⟩⟩
theorem turn2{K:Wd}{b:Bag}{q:PgL}{p:Str × Tok}{pos:Pos}(hp:q.sl[q.i]?=some p)(hV:u8 K.P q.V)(hl:q.line.length≤1000)(h1:(p.1.cps.toList==[])=false)(h2:(p.1.cps.toList != [10])=true)(h3:(p.1.cps.toList==[32])=true) :
  Seg K (WK ([0,0,3],b)) ⟨zx q.code,q.code,pos,[],q.T K.P⟩ (uk K q (zr q.g.wd q.ps p.1)):=by
 have hN:Lg.Ok [q.pcN p]:=zc (by unfold PgL.pcN;simp[za,hp]) zl
 have h:=Seg.run (K:=K) (plS K b q p pos) (tl:=[]) rfl rfl vX _ [1,2,3,4,5,6] (pg_a2 K b q p pos) (by decide) rfl (by decide) (fun _ _ _=>y8 h3 (zc (zk (by rw[zm];exact hl)) (xp h2 (y8 h1 hN)))) (fun _ _ _=>rfl)
 have h:=Seg.eqT (List.append_nil _) h
 refine h.mono ?_
 rintro s ⟨α,τ,γ,_,rfl⟩
 obtain⟨t1,t2,w,hw⟩:=vQ hV (.str p.1 p.2) (.ref (α 0)) ((τ 1).tok 0) ((τ 2).tok 0)
 refine⟨rfl,rfl,rfl,{ q.nx p ((τ 1).tok 0) ((τ 2).tok 0) (α 0) with line:=q.line++[p],el:=(τ 7).tok 0 },rfl,rfl,rfl,rfl,rfl,List.Perm.of_eq ((List.append_nil _).trans ?_),?_⟩
 ·show q.T2 K p _ _ _ _=_
  unfold PgL.T2 PgL.T
  rw[zA]
  rfl
 have e:zr q.g.wd q.ps p.1={ q.ps with line:=q.ps.line++[p.1] }:=by unfold zr;rw[h1,h2,h3];rfl
 rw[e]
 exact⟨rfl,rfl,by show (q.line++[p]).map (·.1)=_;simp[PgL.ps],.inr ⟨_,_,_,_,w,hw⟩⟩
theorem turn4{K:Wd}{b:Bag}{q:PgL}{p:Str × Tok}{pos:Pos}(hp:q.sl[q.i]?=some p)(hV:u8 K.P q.V)(hJ:zo (q.line.map (·.1))≤1000)(hN':q.line.length≤1000)
  (hL:∀p∈q.rows,p.1.length≤1000) (hn:q.rows.length≤1000) (h1:(p.1.cps.toList==[])=false) (h2:(p.1.cps.toList != [10])=false) :
  Seg K (WK ([0,0,3],b)) ⟨zx q.code,q.code,pos,[],q.T K.P⟩ (uk K q (zr q.g.wd q.ps p.1)):=by
 have hN:Lg.Ok [q.pcN p]:=zc (by unfold PgL.pcN;simp[za,hp]) zl
 have h:=Seg.run (K:=K) (plS K b q p pos) (tl:=[]) rfl rfl vX _ [0,1,2,3,4,5,6,7] (pg_a4 K b q p pos) (by decide) rfl (by decide) (fun _ _ _=>xp h2 (y8 h1 hN)) (fun _ _ _=>rfl)
 have h:=Seg.eqT (List.append_nil _) h
 refine Seg.trans h ?_
 rintro s ⟨α,τ,γ,_,rfl⟩
 obtain⟨t1,t2,w,hw⟩:=vQ hV (.str p.1 p.2) (.ref (α 0)) ((τ 1).tok 0) ((τ 2).tok 0)
 let z:PfQ:=⟨q.nx p ((τ 1).tok 0) ((τ 2).tok 0) (α 0),α 1,(τ 8).tok 0,α 0,zd #[] 0,#[],#[],[],⟨#[]⟩,lOf (plR K b q p pos α τ γ 48 tpA4)⟩
 have hf:=flush_seg (K:=K) (b:=b) (z:=z) (v1:=.str p.1 p.2) (t1:=t1) (t2:=t2) (w:=w) (hl:=[]) (eh:=0) (pos:=⟨189,11,189,20⟩) rfl hJ hN' hL hn
 have eT:z.T K (z.V K (.str p.1 p.2) t1 t2 w)=(q.nx p ((τ 1).tok 0) ((τ 2).tok 0) (α 0)).T4 K (α 1) ((τ 8).tok 0) (α 0):=by
  have:z.V K (.str p.1 p.2) t1 t2 w=(q.nx p ((τ 1).tok 0) ((τ 2).tok 0) (α 0)).V:=hw.symm
  rw[this];rfl
 rw[eT] at hf
 have e:zr q.g.wd q.ps p.1=yY [] q.ps:=by unfold zr;rw[h1,h2]
 rw[e]
 exact Seg.eqT (List.append_nil _).symm hf
theorem slice_upR(l:List (Str × Tok))(k:Nat):slicePick (za l) none (some (k:Int)) none=za (l.take k):=by
 rw[slicePick_upto'];simp[za]
theorem slice_fromR(l:List (Str × Tok))(k:Nat):slicePick (za l) (some (k:Int)) none none=za (l.drop k):=by
 rw[slicePick_from'];simp[za]
theorem lensSum_take(l:List Str)(k:Nat):zo (l.take k)≤zo l:=by
 have:=zK (l.take k) (l.drop k)
 rw[List.take_append_drop] at this
 omega
theorem pyAt_lastI(l:List (Nat × Tok))(p:Nat × Tok):yU (zi (l++[p])) (.negSucc 0)=some (.int (.ofNat p.1) p.2):=by
 have hs:seqIndex? (.negSucc 0) (zi (l++[p])).size=some l.length:=by
  unfold seqIndex?
  rw[yO]
  have h0:((Int.negSucc 0) < 0):=by decide
  simp only[h0,if_true,List.length_append,List.length_singleton]
  have e:Int.negSucc 0+((l.length+1:Nat):Int)=(l.length:Int):=by
   show (-1:Int)+_=_
   omega
  rw[e]
  simp
  omega
 unfold yU
 rw[hs]
 simp[zi]
theorem intsArr_ne{l:List (Nat × Tok)}(h:l≠[]):leq (zi l).toList []=false∧((zi l).size != 0)=true:=by
 cases l with
 |nil=>exact absurd rfl h
 |cons p r=>exact⟨rfl,by rw[yO];simp⟩
def ui(S:Str)(s:PS):PS:=match (z7 1 s.line.tail).getLast? with
 |some k=>⟨s.rows++[Txt.join ⟨#[]⟩ (s.line.take k)],s.line.drop k,0⟩
 |none=>match s.room==0 with
  |true=>s
  |false=>yY [xg S] { s with line:=s.line.dropLast }
theorem vy{α:Type}(x:Option α):x.isSome=true∨x.isNone=true:=by cases x<;>simp
theorem eqJ_ok{a b:Int}{v:Bool}{l:Lg}(h:(a==b)=v)(hl:Lg.Ok l):Lg.Ok (strEqI a b v::l):=zc (by unfold strEqI;rw[h]) hl
theorem turnC{K:Wd}{b:Bag}{q:PgL}{S:Str}{c:Nat}{t0 t1 t2:Tok}{h:Addr}{β:Nat→Addr}{x:Option (Value × Tok)}{ns:List (Nat × Tok)}{e:Nat}{w:PgW}{pos:Pos}
  (hns:ns.map (·.1)=z7 1 (q.line.map (·.1)).tail) (hx:ns≠[]→x.isSome=true) (hS:S.cps[0]?=some c) (hSl:S.length≤1000) (hJ:zo (q.line.map (·.1))≤1000) (hN':q.line.length≤1000)
  (hL:∀p∈q.rows,p.1.length≤1000) (hn:q.rows.length≤1000) :
  Seg K (WK ([0,0,3],b)) ⟨pgKB K b q β (.ok .next),q.code,pos,[],(β 3,cmD K.P sK x)::(β 2,zd (zi ns) e)::({ q with V:=.th (.str S t0) t1 (.ref h) t2 (w.ents K.P) w.k }:PgL).T K.P⟩
   (fun s=>s.cur=.pure (.again q.code)∧s.fs=[]∧s.code=q.code∧PgOk K q.g q.it q.tl q.sl q.i (ui S q.ps) s.T):=by
 have hln:small (za q.line).size=small q.line.length:=by rw[zm]
 have hrw:small (za q.rows).size=small q.rows.length:=by rw[zm]
 by_cases hne:ns=[]
 ·have hb:z7 1 (q.line.map (·.1)).tail=[]:=by rw[←hns,hne];rfl
  have hcs:ui S q.ps=match q.rm==0 with
   |true=>q.ps
   |false=>yY [xg S] { q.ps with line:=q.ps.line.dropLast }:=by
   unfold ui
   show (match (z7 1 (q.line.map (·.1)).tail).getLast? with|some k=>_|none=>_)=_
   rw[hb];rfl
  have hB:∀z:PcQ,z.bs=zi ns→Lg.Ok (z.pcB false):=fun z hz=>by
   unfold PcQ.pcB
   rw[hz,hne]
   exact zc rfl (zc rfl zl)
  cases hr:(q.rm==0) with
  |true=>
   rw[hr] at hcs
   let z:PcQ:=⟨q,S,c,t0,t1,.ref h,t2,β,x,zi ns,e,.none,#[],[],⟨#[]⟩,#[]⟩
   have fin:∀s:St,∀t,s.cur=.pure (.again q.code)→s.fs=[]→s.code=q.code→s.T=z.nx K (z.wb w t) q.ln (zd (za q.line) q.el) (zd (za q.rows) q.er) q.rm q.tR→s.cur=.pure (.again q.code)∧s.fs=[]∧s.code=q.code∧PgOk K q.g q.it q.tl q.sl q.i (ui S q.ps) s.T:=fun s t h1 h2 h3 h4=>by
    refine⟨h1,h2,h3,{ q with V:=z.V K.P (z.wb w t) },rfl,rfl,rfl,rfl,rfl,List.Perm.of_eq h4,?_⟩
    rw[hcs]
    exact⟨rfl,rfl,rfl,.inr ⟨_,_,_,_,_,rfl⟩⟩
   rcases vy x with hxx|hxx
   ·have h:=Seg.run (K:=K) (pcS K b z w pos) (tl:=[]) rfl rfl we _ [3,4,5,6,7,8] (pc_2 K b z w pos (hx:=hxx)) (by decide) rfl (by decide) (fun _ _ _=>eqJ_ok hr (hB z rfl)) (fun _ _ _=>rfl)
    have h:=Seg.eqT (List.append_nil _) h
    refine h.mono ?_
    rintro s ⟨α,τ,γ,_,rfl⟩
    exact fin _ _ rfl rfl rfl (List.append_nil _)
   ·have h:=Seg.run (K:=K) (pcS K b z w pos) (tl:=[]) rfl rfl we _ [3,4,5,6,7,8] (pc_2n K b z w pos (hx:=hxx)) (by decide) rfl (by decide) (fun _ _ _=>eqJ_ok hr (hB z rfl)) (fun _ _ _=>rfl)
    have h:=Seg.eqT (List.append_nil _) h
    refine h.mono ?_
    rintro s ⟨α,τ,γ,_,rfl⟩
    exact fin _ _ rfl rfl rfl (List.append_nil _)
  |false=>
   rw[hr] at hcs
   let z:PcQ:=⟨q,S,c,t0,t1,.ref h,t2,β,x,zi ns,e,.none,za q.line.dropLast,[],⟨#[]⟩,#[]⟩
   have hpc:∀v,((#[c]:Array Nat).toList==(#[32]:Array Nat).toList)=v→Lg.Ok (z.pc3 v):=fun v hv=>
    Lg.Ok.app (y8 hv (zc (vz hS) (zc (by show LV.a (slicePick (za q.line) none (some (.negSucc 0)) none)=LV.a (za q.line.dropLast);rw[slice_butR]) (zc (by show (small (za q.line).size).1=_;rw[hln];exact zk hN') (eqJ_ok hr zl))))) (hB z rfl)
   have fl:∀(α:Nat→Addr) (l:List Value) (t ts tv:Tok) (hv:Str),xg S=hv→
     Seg K (WK ([0,0,3],b)) ⟨.call (.call (.builtin "list.__getitem__") ⟨[.ref (α 2),.ref (α 4)],[]⟩) none false l (pgK4 K b { q with ln:=α 2 } fun _=>α 4),q.code,⟨189,11,189,20⟩,[],z.T3 K (z.wb w t) (α 4) (α 3) (α 2) ts (.str hv tv)⟩
      (fun s=>s.cur=.pure (.again q.code)∧s.fs=[]∧s.code=q.code∧PgOk K q.g q.it q.tl q.sl q.i (ui S q.ps) s.T):=fun α l t ts tv hv hhv=>by
    let zf:PfQ:=⟨{ q with ln:=α 2,line:=q.line.dropLast,el:=0 },α 4,ts,α 3,zd #[.str hv tv] 0,#[],#[],[],⟨#[]⟩,l⟩
    have hf:=flush_seg (K:=K) (b:=b) (z:=zf) (v1:=.str S t0) (t1:=t1) (t2:=t2) (w:=z.wb w t) (hl:=[(hv,tv)]) (eh:=0) (pos:=⟨189,11,189,20⟩) rfl (by
     show zo (q.line.dropLast.map (·.1))≤1000
     rw[List.map_dropLast]
     exact Nat.le_trans (yX _) hJ) (by show q.line.dropLast.length≤1000;rw[List.length_dropLast];omega) hL hn
    refine hf.mono ?_
    rintro s ⟨h1,h2,h3,h4⟩
    refine⟨h1,h2,h3,?_⟩
    rw[hcs,hhv]
    have:({ q.ps with line:=q.ps.line.dropLast }:PS)=⟨zf.q.rows.map (·.1),zf.q.line.map (·.1),zf.q.rm⟩:=by
     show PS.mk _ _ _=PS.mk _ (q.line.dropLast.map (·.1)) _
     rw[List.map_dropLast];rfl
    rw[this]
    exact h4
   cases hsp:((#[c]:Array Nat).toList==(#[32]:Array Nat).toList) with
   |true=>
    have hh:xg S=S:=by
     have:(S.cps[0]?==some 32)=true:=by rw[hS];simpa using hsp
     unfold xg;rw[this]
    rcases vy x with hxx|hxx
    ·have h:=Seg.run (K:=K) (pcS K b z w pos) (tl:=[]) rfl rfl we _ [0,1,7,8,9,10,11,2] (pc_3a K b z w pos (hx:=hxx)) (by decide) rfl (by decide) (fun _ _ _=>hpc true hsp) (fun _ _ _=>rfl)
     have h:=Seg.eqT (List.append_nil _) h
     refine Seg.trans h ?_
     rintro s ⟨α,τ,γ,_,rfl⟩
     exact Seg.eqT (List.append_nil _).symm (fl α _ _ _ _ _ hh)
    ·have h:=Seg.run (K:=K) (pcS K b z w pos) (tl:=[]) rfl rfl we _ [0,1,7,8,9,10,11,2] (pc_3an K b z w pos (hx:=hxx)) (by decide) rfl (by decide) (fun _ _ _=>hpc true hsp) (fun _ _ _=>rfl)
     have h:=Seg.eqT (List.append_nil _) h
     refine Seg.trans h ?_
     rintro s ⟨α,τ,γ,_,rfl⟩
     exact Seg.eqT (List.append_nil _).symm (fl α _ _ _ _ _ hh)
   |false=>
    have hh:xg S=cat ⟨#[32]⟩ S:=by
     have:(S.cps[0]?==some 32)=false:=by rw[hS];simpa using hsp
     unfold xg;rw[this]
    rcases vy x with hxx|hxx
    ·have h:=Seg.run (K:=K) (pcS K b z w pos) (tl:=[]) rfl rfl we _ [0,1,7,8,9,10,11,2] (pc_3b K b z w pos (hx:=hxx)) (by decide) rfl (by decide) (fun _ _ _=>Lg.Ok.app (zc (zk (by decide)) (zc (zk hSl) zl)) (hpc false hsp)) (fun _ _ _=>rfl)
     have h:=Seg.eqT (List.append_nil _) h
     refine Seg.trans h ?_
     rintro s ⟨α,τ,γ,_,rfl⟩
     exact Seg.eqT (List.append_nil _).symm (fl α _ _ _ _ _ hh)
    ·have h:=Seg.run (K:=K) (pcS K b z w pos) (tl:=[]) rfl rfl we _ [0,1,7,8,9,10,11,2] (pc_3bn K b z w pos (hx:=hxx)) (by decide) rfl (by decide) (fun _ _ _=>Lg.Ok.app (zc (zk (by decide)) (zc (zk hSl) zl)) (hpc false hsp)) (fun _ _ _=>rfl)
     have h:=Seg.eqT (List.append_nil _) h
     refine Seg.trans h ?_
     rintro s ⟨α,τ,γ,_,rfl⟩
     exact Seg.eqT (List.append_nil _).symm (fl α _ _ _ _ _ hh)
 ·obtain⟨a,k,ha⟩:=xz hne
  have hb:(z7 1 (q.line.map (·.1)).tail).getLast?=some k.1:=by
   rw[←hns,ha];simp
  have hcs:ui S q.ps=⟨q.ps.rows++[Txt.join ⟨#[]⟩ (q.ps.line.take k.1)],q.ps.line.drop k.1,0⟩:=by
   unfold ui
   show (match (z7 1 (q.line.map (·.1)).tail).getLast? with|some k=>_|none=>_)=_
   rw[hb]
  let z:PcQ:=⟨q,S,c,t0,t1,.ref h,t2,β,x,zi ns,e,.int (k.1:Int) k.2,za (q.line.take k.1),q.line.take k.1,Txt.join ⟨#[]⟩ ((q.line.take k.1).map (·.1)),za (q.line.drop k.1)⟩
  have hB:Lg.Ok (z.pcB true):=by
   obtain⟨g1,g2⟩:=intsArr_ne hne
   show Lg.Ok [(.b (leq (zi ns).toList []),.b false),(.b ((zi ns).size != 0 || xf (zi ns).toList []),.b true)]
   rw[g1,g2]
   exact zc rfl (zc rfl zl)
  have hG:Lg.Ok z.pcG:=by
   show Lg.Ok [(.ov (yU (zi ns) (.negSucc 0)),.ov (some (.int (k.1:Int) k.2))),vD (.negSucc 0)]
   rw[ha,pyAt_lastI]
   exact zc rfl (zc near_last zl)
  have hsz:Lg.Ok [small (za z.q.line).size]:=zc (by show (small (za q.line).size).1=_;rw[hln];exact zk hN') zl
  have hpc:Lg.Ok ([(.a (slicePick (za z.q.line) (some (k.1:Int)) none none),.a z.ys2),small (za z.q.line).size]++z.pcG++[small (za z.q.rows).size]++PfQ.pcJ z.rl z.J z.ys1++[(.a (slicePick (za z.q.line) none (some (k.1:Int)) none),.a z.ys1),small (za z.q.line).size]++z.pcG++z.pcB true):=by
   refine Lg.Ok.app (Lg.Ok.app (Lg.Ok.app (Lg.Ok.app (Lg.Ok.app (Lg.Ok.app (zc ?_ hsz) hG) (zc ?_ zl)) (joinPc ?_)) (zc ?_ hsz)) hG) hB
   ·show LV.a (slicePick (za q.line) (some (k.1:Int)) none none)=LV.a (za (q.line.drop k.1))
    rw[slice_fromR]
   ·show (small (za q.rows).size).1=_
    rw[hrw];exact zk hn
   ·rw[List.map_take]
    exact Nat.le_trans (lensSum_take _ _) hJ
   ·show LV.a (slicePick (za q.line) none (some (k.1:Int)) none)=LV.a (za (q.line.take k.1))
    rw[slice_upR]
  have h:=Seg.run (K:=K) (pcS K b z w pos) (tl:=[]) rfl rfl we _ [7,8,9,10,11,0] (pc_1 K b z w pos (hx:=hx hne) (n:=k.1) (tn:=k.2) (hn:=rfl)) (by decide) rfl (by decide) (fun _ _ _=>hpc) (fun _ _ _=>rfl)
  have h:=Seg.eqT (List.append_nil _) h
  refine h.mono ?_
  rintro s ⟨α,τ,γ,_,rfl⟩
  refine⟨rfl,rfl,rfl,{ q with ln:=α 4,rm:=0,tR:=(τ 13).tok 0,V:=z.V K.P (z.wb w ((τ 0).tok 0)),rows:=q.rows++[(z.J,(τ 7).tok 0)],er:=(τ 8).tok 0,line:=q.line.drop k.1,el:=0 },rfl,rfl,rfl,rfl,rfl,List.Perm.of_eq ((List.append_nil _).trans ?_),?_⟩
  ·show z.nx K _ _ _ _ _ _=_
   unfold PcQ.nx PgL.T
   rw[zA]
   rfl
  ·rw[hcs]
   refine⟨rfl,?_,?_,.inr ⟨_,_,_,_,_,rfl⟩⟩
   ·show (q.rows++[(z.J,(τ 7).tok 0)]).map (·.1)=_
    have ej:z.J=Txt.join ⟨#[]⟩ ((q.line.map (·.1)).take k.1):=by
     show Txt.join ⟨#[]⟩ ((q.line.take k.1).map (·.1))=_
     rw[List.map_take]
    rw[List.map_append]
    show _++[z.J]=_
    rw[ej]
    rfl
   ·show (q.line.drop k.1).map (·.1)=_
    rw[List.map_drop]
    rfl
theorem cps0{S:Str}(h:(S.cps.toList==[])=false):∃c,S.cps[0]?=some c:=by
 cases hS:S.cps.toList with
 |nil=>rw[hS] at h;cases h
 |cons c r=>exact⟨c,by rw[←Array.getElem?_toList,hS];rfl⟩
theorem turn3{K:Wd}{b:Bag}{q:PgL}{p:Str × Tok}{pos:Pos}(hp:q.sl[q.i]?=some p)(hV:u8 K.P q.V)(hJ:zo (q.line.map (·.1))≤400)(hN':q.line.length≤400)
  (hL:∀p∈q.rows,p.1.length≤1000) (hn:q.rows.length≤1000) (hpl:p.1.length≤10) (hne:∀p∈q.line,(p.1.cps.toList==[])=false)
  (h1:(p.1.cps.toList==[])=false) (h2:(p.1.cps.toList != [10])=true) (h3:(p.1.cps.toList==[32])=false) :
  Seg K (WK ([0,0,3],b)) ⟨zx q.code,q.code,pos,[],q.T K.P⟩ (uk K q (zr q.g.wd q.ps p.1)):=by
 have hN:Lg.Ok [q.pcN p]:=zc (by unfold PgL.pcN;simp[za,hp]) zl
 have h:=Seg.run (K:=K) (plS K b q p pos) (tl:=[]) rfl rfl vX _ [2,1,0,9,4,5,6,7,8] (pg_a3 K b q p pos) (by decide) rfl (by decide) (fun _ _ _=>y8 h3 (zc (zk (by rw[zm];omega)) (xp h2 (y8 h1 hN)))) (fun _ _ _=>rfl)
 have h:=Seg.eqT (List.append_nil _) h
 refine Seg.trans h ?_
 rintro s ⟨α,τ,γ,_,rfl⟩
 obtain⟨t1,t2,w,hw⟩:=vQ hV (.str p.1 p.2) (.ref (α 0)) ((τ 1).tok 0) ((τ 2).tok 0)
 let q':PgL:={ q with i:=q.i+1,line:=q.line++[p],el:=(τ 7).tok 0,V:=.th (.str p.1 p.2) t1 (.ref (α 0)) t2 (w.ents K.P) w.k }
 have hlen:(q.line++[p]).length≤401:=by simp;omega
 have hsum:zo ((q.line++[p]).map (·.1))≤410:=by
  rw[List.map_append,zK]
  have:zo ([p].map (·.1))=p.1.length:=by simp[zo]
  omega
 have hmem:∀x∈q.line++[p],x.1.length≤1000:=fun x hx=>by
  have:=u0 (List.mem_map_of_mem (f:=(·.1)) hx)
  omega
 have eT2:(q.T2 K p ((τ 1).tok 0) ((τ 2).tok 0) (α 0) 0).take 5=(q'.T K.P).take 5:=by
  show [_,_,q.fr K.P (q.V.set (.str p.1 p.2) (.ref (α 0)) _ _),_,_]=_
  rw[hw];rfl
 have hlive:∀x∈(q'.T K.P).take 5,x.2.isFreed=false:=fun x hx=>by
  have hx:x∈q'.T K.P:=List.mem_of_mem_take hx
  simp only[PgL.T,List.mem_cons,List.not_mem_nil,or_false] at hx
  rcases hx with rfl|rfl|rfl|rfl|rfl|rfl<;>rfl
 have hc:=fun W=>Seg.frame ((q'.T K.P).take 5) hlive (ln_seg (K:=K) (W:=W) (z:=lensZ q α) (e2:=(τ 7).tok 0) (l:=q.line++[p]) (pos:=⟨177,66,177,70⟩) hmem (by omega))
 refine Seg.eqT (List.append_nil _).symm ?_
 rw[eT2,zA]
 refine Seg.call rfl (hc _) ?_
 rintro s ⟨s',⟨x',ns',e',e1,e2,e3,e4,e5⟩,rfl⟩
 refine⟨e2,.ok .next,e1,?_⟩
 dsimp only
 rw[e3]
 obtain⟨xv,hxv⟩:=Option.isSome_iff_exists.mp (e5 (by simp))
 subst hxv
 have hs:ww (zi ns').toList=(zo (q.line.map (·.1)++[p.1]):Nat):=by
  rw[sumV_ints,e4]
  have:(q.line++[p]).map (fun p=>p.1.length)=(q.line.map (·.1)++[p.1]).map Str.length:=by simp
  rw[this];rfl
 let z:PbQ:=⟨q',.str p.1 p.2,t1,.ref (α 0),t2,w.ents K.P,w.k,α,xv,zi ns',e'⟩
 have eTB:List.Perm ([((lensZ q α).dct,cmD K.P xJ (some xv)),((lensZ q α).acc,zd (zi ns') e'),((lensZ q α).src,zd (za (q.line++[p])) ((τ 7).tok 0))]++(q'.T K.P).take 5) (z.T K):=by
  show List.Perm [(α 3,cmD K.P xJ (some xv)),(α 2,zd (zi ns') e'),(q.ln,zd (za (q.line++[p])) ((τ 7).tok 0)),_,_,_,_,_] [(α 3,cmD K.P xJ (some xv)),(α 2,zd (zi ns') e'),_,_,_,_,_,(q.ln,zd (za (q.line++[p])) ((τ 7).tok 0))]
  exact List.Perm.cons _ (List.Perm.cons _ (List.perm_append_comm (l₁:=[_]) (l₂:=[_,_,_,_,_])))
 have cur3:pgK3 K b q α (.ok .next)=(pbS K b z ⟨177,66,177,70⟩).cur:=rfl
 refine Seg.perm (a:=⟨_,_,_,[],_⟩) eTB ?_
 cases hle:decide (q.rm+zo (q.line.map (·.1)++[p.1])≤q.g.wd) with
 |true=>
  have hpc:Lg.Ok (z.pcS true):=vG (by show decide (q.rm+ww (zi ns').toList≤q.g.wd)=true;rw[hs];exact hle) (zc (by show LV.b (allI (zi ns').toList)=_;rw[uM]) zl)
  have h:=Seg.run (K:=K) (pbS K b z ⟨177,66,177,70⟩) (tl:=[]) rfl rfl pb_exts _ [2,3,4,5,6,7] (pb_1 K b z ⟨177,66,177,70⟩) (by decide) rfl (by decide) (fun _ _ _=>hpc) (fun _ _ _=>rfl)
  have h:=Seg.eqT (List.append_nil _) h
  refine h.mono ?_
  rintro s ⟨α',τ',γ',_,rfl⟩
  refine⟨rfl,rfl,rfl,q',rfl,rfl,rfl,rfl,rfl,List.Perm.of_eq (List.append_nil _),?_⟩
  have e:zr q.g.wd q.ps p.1={ q.ps with line:=q.ps.line++[p.1] }:=by
   unfold zr
   rw[h1,h2,h3]
   show (match false || decide (q.rm+(zo (q.line.map (·.1)++[p.1]):Nat)≤q.g.wd) with|true=>_|false=>_)=_
   rw[hle];rfl
  rw[e]
  exact⟨rfl,rfl,by show (q.line++[p]).map (·.1)=_;simp[PgL.ps],.inr ⟨_,_,_,_,w,rfl⟩⟩
 |false=>
  have hpc:Lg.Ok (z.pcS false):=vG (by show decide (q.rm+ww (zi ns').toList≤q.g.wd)=false;rw[hs];exact hle) (zc (by show LV.b (allI (zi ns').toList)=_;rw[uM]) zl)
  have hsz:(za (q.line++[p])).size=(q.line++[p]).length:=zm _
  have hpc2:Lg.Ok ([(.i 1,.i 1),(.i ((za z.q.line).size:Int),.i (.ofNat z.q.line.length)),(.i 1,.i 1),small z.q.line.length,small (za z.q.line).size,(.i ((za z.q.line).size:Int),.i ((za z.q.line).size:Int))]++z.pcS false):=by
   refine Lg.Ok.app (zc rfl (zc ?_ (zc rfl (zc (zk (by show (q.line++[p]).length≤1000;omega)) (zc (zk (by show (za (q.line++[p])).size≤1000;rw[hsz];omega)) (zc rfl zl)))))) hpc
   show LV.i ((za (q.line++[p])).size:Int)=LV.i (.ofNat (q.line++[p]).length)
   rw[hsz];rfl
  have h:=Seg.run (K:=K) (pbS K b z ⟨177,66,177,70⟩) (tl:=[]) rfl rfl pb_exts _ [2,1,0,6,7,8,9,10,11] (pb_2 K b z ⟨177,66,177,70⟩) (by decide) rfl (by decide) (fun _ _ _=>hpc2) (fun _ _ _=>rfl)
  have h:=Seg.eqT (List.append_nil _) h
  refine Seg.trans h ?_
  rintro s ⟨β,τ',γ',_,rfl⟩
  refine Seg.eqT (List.append_nil _).symm ?_
  let R:zh:=[(q'.it,lIt q'.tl q'.i),(q'.tl,zd (za q'.sl) 0),q'.fr K.P q'.V,(q'.g.ra,zd (za q'.rows) q'.er)]
  have hliveR:∀x∈R,x.2.isFreed=false:=fun x hx=>by
   simp only[R,List.mem_cons,List.not_mem_nil,or_false] at hx
   rcases hx with rfl|rfl|rfl|rfl<;>rfl
  have hne':∀x∈q.line++[p],x.1.cps[0]?≠none:=fun x hx=>by
   have hx':(x.1.cps.toList==[])=false:=by
    rcases List.mem_append.mp hx with hx|hx
    ·exact hne x hx
    ·rw[List.mem_singleton] at hx;subst hx;exact h1
   obtain⟨c,hc⟩:=cps0 hx'
   rw[hc];exact Option.some_ne_none c
  have hbk:=fun W=>Seg.frame R hliveR (bk_seg (K:=K) (W:=W) (z:=bkZ q' β) (cell:=q.g.cell) (ln:=q.ln) (e2:=(τ 7).tok 0) (l:=q.line++[p]) (pos:=⟨179,21,179,74⟩) hne' (by omega) (by simp))
  have eP:List.Perm ([((bkZ q' β).it,xE 1 ((q.line++[p]).length - 1)),((bkZ q' β).acc,zd #[] 0),((bkZ q' β).dct,dictO [] 0),(q.g.cell,zU (.ref q.ln)),(q.ln,zd (za (q.line++[p])) ((τ 7).tok 0))]++R) ((β 1,xE 1 (z.q.line.length - 1))::(β 2,zd #[] 0)::(β 3,dictO [] 0)::z.f.T K.P):=by
   refine List.Perm.cons _ (List.Perm.cons _ (List.Perm.cons _ ?_))
   show List.Perm ([(q.g.cell,zU (.ref q.ln)),(q.ln,zd (za (q.line++[p])) ((τ 7).tok 0))]++([(q'.it,lIt q'.tl q'.i),(q'.tl,zd (za q'.sl) 0),q'.fr K.P q'.V]++[(q'.g.ra,zd (za q'.rows) q'.er)])) ([(q'.it,lIt q'.tl q'.i),(q'.tl,zd (za q'.sl) 0),q'.fr K.P q'.V]++([(q.g.cell,zU (.ref q.ln))]++([(q'.g.ra,zd (za q'.rows) q'.er)]++[(q.ln,zd (za (q.line++[p])) ((τ 7).tok 0))])))
   refine(List.perm_append_comm_assoc _ _ _).trans (List.Perm.append_left _ ?_)
   exact List.Perm.cons _ (List.perm_append_comm (l₁:=[_]) (l₂:=[_]))
  refine Seg.perm (a:=⟨_,_,_,[],_⟩) eP.symm ?_
  refine Seg.call rfl (hbk _) ?_
  rintro s ⟨s',⟨x2,ns2,e2',f1,f2,f3,f4,f5⟩,rfl⟩
  refine⟨f2,.ok .next,f1,?_⟩
  dsimp only
  rw[f3]
  obtain⟨c,hcS⟩:=cps0 h1
  have hC:=turnC (K:=K) (b:=b) (q:=q') (S:=p.1) (c:=c) (t0:=p.2) (t1:=t1) (t2:=t2) (h:=α 0) (β:=β) (x:=x2) (ns:=ns2) (e:=e2') (w:=w) (pos:=⟨179,21,179,74⟩)
   f4 f5 hcS (by omega) (by show zo ((q.line++[p]).map (·.1))≤1000;omega) (by show (q.line++[p]).length≤1000;omega) hL hn
  have eP2:List.Perm ([((bkZ q' β).dct,cmD K.P sK x2),((bkZ q' β).acc,zd (zi ns2) e2'),(q.g.cell,zU (.ref q.ln)),(q.ln,zd (za (q.line++[p])) ((τ 7).tok 0))]++R) ((β 3,cmD K.P sK x2)::(β 2,zd (zi ns2) e2')::q'.T K.P):=by
   refine List.Perm.cons _ (List.Perm.cons _ ?_)
   show List.Perm ([(q.g.cell,zU (.ref q.ln)),(q.ln,zd (za (q.line++[p])) ((τ 7).tok 0))]++([(q'.it,lIt q'.tl q'.i),(q'.tl,zd (za q'.sl) 0),q'.fr K.P q'.V]++[(q'.g.ra,zd (za q'.rows) q'.er)])) ([(q'.it,lIt q'.tl q'.i),(q'.tl,zd (za q'.sl) 0),q'.fr K.P q'.V]++([(q.g.cell,zU (.ref q.ln))]++([(q'.g.ra,zd (za q'.rows) q'.er)]++[(q.ln,zd (za (q.line++[p])) ((τ 7).tok 0))])))
   refine(List.perm_append_comm_assoc _ _ _).trans (List.Perm.append_left _ ?_)
   exact List.Perm.cons _ (List.perm_append_comm (l₁:=[_]) (l₂:=[_]))
  refine Seg.perm (a:=⟨_,_,_,[],_⟩) eP2 (hC.mono ?_)
  rintro s ⟨g1,g2,g3,g4⟩
  refine⟨g1,g2,g3,?_⟩
  have e:zr q.g.wd q.ps p.1=ui p.1 q'.ps:=by
   unfold zr
   rw[h1,h2,h3]
   show (match false || decide (q.rm+(zo (q.line.map (·.1)++[p.1]):Nat)≤q.g.wd) with|true=>_|false=>_)=_
   rw[hle]
   have el:q'.ps=⟨q.ps.rows,q.ps.line++[p.1],q.ps.room⟩:=by show PS.mk _ ((q.line++[p]).map (·.1)) _=_;simp[PgL.ps];exact⟨rfl,rfl⟩
   unfold ui
   rw[el]
   simp only[List.dropLast_concat]
   rfl
  rw[e]
  exact g4
def PS.M(s:PS):Nat:=zo s.line+s.line.length+(zo s.rows+s.rows.length)
theorem yc(x:Str):zo [x]=x.length:=by simp[zo]
theorem putRow_M(r:List Str)(m:Int)(w:Str):zo (yD r m w)+(yD r m w).length≤zo r+r.length+w.length+1:=by
 by_cases h:r=[]
 ·subst h
  rw[wc]
  split
  ·rw[yc];simp[zo]
  ·simp[zo]
 ·obtain⟨a,F,rfl⟩:=xz h
  rw[y9]
  split
  ·simp only[zK,yc,List.length_append,List.length_singleton,cat_len];omega
  ·split
   ·simp only[zK,yc,List.length_append,List.length_singleton];omega
   ·simp only[zK,yc,List.length_append,List.length_singleton];omega
theorem flushP_M(held:List Str)(s:PS):(yY held s).M≤s.M+1+zo held+held.length:=by
 have h1:=putRow_M s.rows s.room (yQ s.line)
 have h2:=rowOf_len s.line
 unfold yY PS.M
 dsimp only
 omega
theorem heldP_len(t:Str):(xg t).length≤t.length+1:=by
 unfold xg
 split
 ·omega
 ·rw[cat_len];show 1+t.length≤_;omega
theorem pageStep_M(wd:Int)(s:PS)(t:Str)(h:t.length≤3):(zr wd s t).M≤s.M+8:=by
 unfold zr
 split
 ·omega
 split
 ·have:=flushP_M [] s
  have e:zo ([]:List Str)=0:=rfl
  simp only[e,List.length_nil] at this
  omega
 split
 ·unfold PS.M
  dsimp only
  rw[zK,yc,List.length_append,List.length_singleton]
  omega
 split
 ·rename_i k _
  have h1:=zK ((s.line++[t]).take k) ((s.line++[t]).drop k)
  rw[List.take_append_drop,zK,yc] at h1
  have h2:((s.line++[t]).drop k).length≤s.line.length+1:=by simp only[List.length_drop,List.length_append,List.length_singleton];omega
  unfold PS.M
  dsimp only
  rw[zK,yc,joinLen,List.length_append,List.length_singleton]
  omega
 split
 ·unfold PS.M
  dsimp only
  rw[zK,yc,List.length_append,List.length_singleton]
  omega
 ·have:=flushP_M [xg t] s
  have h3:=heldP_len t
  rw[yc,List.length_singleton] at this
  omega
def PS.full(s:PS):Prop:=∀x∈s.line,(x.cps.toList==[])=false
theorem heldP_full{t:Str}(h:(t.cps.toList==[])=false):((xg t).cps.toList==[])=false:=by
 unfold xg
 split
 ·exact h
 ·unfold cat;simp
theorem pageStep_full(wd:Int)(s:PS)(t:Str)(h:s.full):(zr wd s t).full:=by
 unfold zr
 split
 ·exact h
 rename_i h1
 have hap:∀x∈s.line++[t],(x.cps.toList==[])=false:=fun x hx=>by
  rcases List.mem_append.mp hx with hx|hx
  ·exact h x hx
  ·rw[List.mem_singleton] at hx;subst hx;exact h1
 split
 ·intro x hx;cases hx
 split
 ·exact hap
 split
 ·exact fun x hx=>hap x (List.mem_of_mem_drop hx)
 split
 ·exact hap
 ·intro x hx
  have hx:x∈[xg t]:=hx
  rw[List.mem_singleton] at hx
  subst hx
  exact heldP_full h1
theorem turn_seg{K:Wd}{b:Bag}{q:PgL}{p:Str × Tok}{pos:Pos}(hp:q.sl[q.i]?=some p)(hV:u8 K.P q.V)(hM:q.ps.M≤390)(hF:q.ps.full)(hpl:p.1.length≤3) :
  Seg K (WK ([0,0,3],b)) ⟨zx q.code,q.code,pos,[],q.T K.P⟩ (uk K q (zr q.g.wd q.ps p.1)):=by
 have hM':zo (q.line.map (·.1))+(q.line.map (·.1)).length+(zo (q.rows.map (·.1))+(q.rows.map (·.1)).length)≤390:=hM
 rw[List.length_map,List.length_map] at hM'
 have hL:∀p∈q.rows,p.1.length≤1000:=fun p hp=>by
  have:=u0 (List.mem_map_of_mem (f:=(·.1)) hp)
  omega
 have hne:∀p∈q.line,(p.1.cps.toList==[])=false:=fun p hp=>hF p.1 (List.mem_map_of_mem (f:=(·.1)) hp)
 cases h1:(p.1.cps.toList==[]) with
 |true=>exact turn1 hp hV h1
 |false=>
  cases h2:(p.1.cps.toList != [10]) with
  |false=>exact turn4 hp hV (by omega) (by omega) hL (by omega) h1 h2
  |true=>
   cases h3:(p.1.cps.toList==[32]) with
   |true=>exact turn2 hp hV (by omega) h1 h2 h3
   |false=>exact turn3 hp hV (by omega) (by omega) hL (by omega) (by omega) hne h1 h2 h3
def LoopEnd(K:Wd)(g:PgF)(s':PS)(s:St):Prop:=s.cur=.pure (.done .next)∧s.fs=[]∧∃(q:PgL),q.g=g∧List.Perm s.T [q.fr K.P q.V,(q.g.cell,zU (.ref q.ln)),(q.g.ra,zd (za q.rows) q.er),(q.ln,zd (za q.line) q.el)]∧q.rows.map (·.1)=s'.rows∧u8 K.P q.V
theorem page_loop{K:Wd}{b:Bag}{g:PgF}{it tl:Addr}{sl:List (Str × Tok)}:∀(n i:Nat) (s:PS) (T:zh) (pos:Pos),n+i=sl.length→(∀p∈sl,p.1.length≤3)→PgOk K g it tl sl i s T→s.M+8*n≤390→s.full→
  Seg K (WK ([0,0,3],b)) ⟨zx (pgLoop g.a0 g.cell it),pgLoop g.a0 g.cell it,pos,[],T⟩ (LoopEnd K g (((sl.drop i).map (·.1)).foldl (zr g.wd) s))
 |0,i,s,T,pos,hn,hsl,⟨q,e1,e2,e3,e4,e5,hT,e6,e7,e8,hV⟩,hM,hF=>by
  subst e1 e2 e3 e4 e5
  have hend:(q.sl.drop q.i)=[]:=List.drop_eq_nil_of_le (by omega)
  have h:=Seg.run (K:=K) (plS K b q (⟨#[]⟩,0) pos) (tl:=[]) rfl rfl vX _ [4,5,6,7] (pg_aE K b q (⟨#[]⟩,0) pos) (by decide) rfl (by decide) (fun _ _ _=>zc (by
   have:(za q.sl)[q.i]?=none:=by rw[Array.getElem?_eq_none_iff,zm];omega
   rw[this]) zl) (fun _ _ _=>rfl)
  have h:=Seg.eqT (List.append_nil _) h
  refine Seg.perm (a:=⟨_,_,_,[],_⟩) hT (h.mono ?_)
  rintro s' ⟨α,τ,γ,_,rfl⟩
  refine⟨rfl,rfl,q,rfl,List.Perm.of_eq (List.append_nil _),?_,hV⟩
  rw[hend]
  exact e7
 |n+1,i,s,T,pos,hn,hsl,⟨q,e1,e2,e3,e4,e5,hT,e6,e7,e8,hV⟩,hM,hF=>by
  subst e1 e2 e3 e4 e5
  have hi:q.i < q.sl.length:=by omega
  have hp:q.sl[q.i]?=some q.sl[q.i]:=List.getElem?_eq_getElem hi
  have hps:q.ps=s:=by
   obtain⟨r,l,m⟩:=s
   show PS.mk _ _ _=_
   rw[e6,e7,e8]
  have hpl:=hsl q.sl[q.i] (List.getElem_mem hi)
  have h:=turn_seg (K:=K) (b:=b) (q:=q) (p:=q.sl[q.i]) (pos:=pos) hp hV (by rw[hps];omega) (by rw[hps];exact hF) hpl
  refine Seg.perm (a:=⟨_,_,_,[],_⟩) hT (Seg.trans h ?_)
  rintro⟨c',code',pos',fs',T'⟩ ⟨h1,h2,h3,h4⟩
  dsimp only at h1 h2 h3 h4
  subst h1 h2 h3
  rw[hps] at h4
  have hm:=pageStep_M q.g.wd s q.sl[q.i].1 hpl
  have ih:=page_loop (K:=K) (b:=b) (g:=q.g) (it:=q.it) (tl:=q.tl) (sl:=q.sl) n (q.i+1) (zr q.g.wd s q.sl[q.i].1) T' pos' (by omega) hsl h4 (by omega) (pageStep_full _ _ _ hF)
  have ed:q.sl.drop q.i=q.sl[q.i]::q.sl.drop (q.i+1):=List.drop_eq_getElem_cons hi
  rw[ed]
  exact Seg.again rfl ih
structure PzQ where
 q:PgL
 fA:Nat→Addr
 fT:Nat→Ch
 x:Value × Tok
 sl:List (Str × Tok)
 ep:Nat
 gA:Nat→Addr
 gT:Nat→Ch
 g0:Nat→Nat
def PzQ.T(z:PzQ)(K:Wd):zh:=[z.q.fr K.P z.q.V,(z.q.g.cell,zU (.ref z.q.ln)),(z.q.g.ra,zd (za z.q.rows) z.q.er),(z.q.ln,zd (za z.q.line) z.q.el)]
def pzS(K:Wd)(b:Bag)(q0:PgQ)(uB:Pos)(z:PzQ)(γ:Nat→Nat)(pos:Pos):Start:=⟨cfg K.P K.V (WK ([0,3],b)) 4 [],[],z.T K,[],kOf (pgR2 K b q0 uB z.fA z.fT z.x z.sl z.ep z.g0 z.gA z.gT γ) (.ok .next),(eo (pgR2 K b q0 uB z.fA z.fT z.x z.sl z.ep z.g0 z.gA z.gT γ)).code,pos,[]⟩
section
variable (K:Wd) (b:Bag) (q0:PgQ) (p0:Pos) (fA:Nat→Addr) (fT:Nat→Ch) (x:Value × Tok) (sl:List (Str × Tok)) (ep:Nat) (g0:Nat→Nat) (gA:Nat→Addr) (gT:Nat→Ch) (gm:Nat→Nat) (q:PgL) (pos:Pos) (α:Nat→Addr) (τ:Nat→Ch) (γ:Nat→Nat)
def pzZ:PzQ:=⟨{ q with g:=pgG q0 fA fT },fA,fT,x,sl,ep,gA,gT,g0⟩
def pzR:Option Out:=(pzS K b q0 p0 (pzZ q0 fA fT x sl ep g0 gA gT q) gm pos).run α τ γ 3 [7]
theorem pz_r:lhs 4 [2] (pzR K b q0 p0 fA fT x sl ep g0 gA gT gm q pos α τ γ)=rhs 0 ⟨.pure (.done (.ret (.ref (fA 2)))),(eo (pzR K b q0 p0 fA fT x sl ep g0 gA gT gm q pos α τ γ)).code,⟨198,11,198,15⟩,[],[(fA 2,zd (za q.rows) q.er)],[],[]⟩ (pzR K b q0 p0 fA fT x sl ep g0 gA gT gm q pos α τ γ):=by
 obtain⟨w',b1,b2,V0,hw⟩:=K
 obtain⟨g,it,tl,ln,sl,i,rm,tR,V,rows,er,line,el⟩:=q
 cases b1<;>cases V<;>kernel_rfl
theorem pg_W2:shk [[0,0,3]] (((eo (pgR2 K b q0 p0 fA fT x sl ep g0 α τ γ)).code,(⟨171,16,171,60⟩:Pos))::(([]:List Frame).map Frame.where_++WK ([0,3],b)))=some ([0,0,3],yj (((eo (pgR2 K b q0 p0 fA fT x sl ep g0 α τ γ)).code,(⟨171,16,171,60⟩:Pos))::(([]:List Frame).map Frame.where_++WK ([0,3],b)))):=by
 obtain⟨w',b1,b2,V0,hw⟩:=K
 cases b1<;>kernel_rfl
theorem pg_W1':shk [[0,0,3]] (((eo (u9 K b q0 p0 α τ γ)).code,(⟨171,45,171,50⟩:Pos))::(([]:List Frame).map Frame.where_++WK ([0,3],b)))=some ([0,0,3],yj (((eo (u9 K b q0 p0 α τ γ)).code,(⟨171,45,171,50⟩:Pos))::(([]:List Frame).map Frame.where_++WK ([0,3],b)))):=by
 obtain⟨w',b1,b2,V0,hw⟩:=K
 cases b1<;>kernel_rfl
end
theorem lawTold_len(c:Nat):(zp c).length≤3:=by
 unfold zp
 split;· exact(by decide)
 split;· exact(by decide)
 split;· exact(by decide)
 split;· exact(by decide)
 split;· exact(by show 2≤3;decide)
 split;· exact(by show 1≤3;decide)
 split
 ·generalize c - 64256=k
  unfold xH
  split<;>decide
 ·exact(by show 1≤3;decide)
def pageP(wd rm:Int)(told:List Str):List Str:=((told++[(⟨#[10]⟩:Str)]).foldl (zr wd) ⟨[],[],rm⟩).rows
theorem page_seg{K:Wd}{b:Bag}{q:PgQ}{pos:Pos}(hc:∀p∈q.cl,p.1≤1114111)(hn:q.cl.length≤40)(h0:q.cl≠[]) :
  Seg K (WK ([0,3],b)) ⟨zx (pgC q),pgC q,pos,[],[(q.l,zd (zi q.cl) q.e2)]⟩ (fun s=>∃a rows e,s.cur=.pure (.done (.ret (.ref a)))∧s.fs=[]∧s.T=[(a,zd (za rows) e)]∧rows.map (·.1)=pageP q.wd q.rm (q.cl.map fun p=>zp p.1)):=by
 have h:=Seg.run (K:=K) (pgS K b q pos) (tl:=[]) rfl rfl yq _ [0,1,2,7,6,5,4,3] (pg_r1 K b q pos) (by decide) rfl (by decide) (fun _ _ _=>zl) (fun _ _ _=>rfl)
 have h:=Seg.eqT (List.append_nil _) h
 refine Seg.trans h ?_
 rintro s ⟨fA,fT,γ,_,rfl⟩
 refine Seg.eqT (List.append_nil _).symm ?_
 let R:zh:=[(fA 0,yp ((pgG q fA fT).ents K.P q.rm q.tR) 4),(fA 1,zU (.ref (fA 3))),(fA 2,zd #[] 0),(fA 3,zd #[] 0)]
 have hR:∀x∈R,x.2.isFreed=false:=fun x hx=>by
  simp only[R,List.mem_cons,List.not_mem_nil,or_false] at hx
  rcases hx with rfl|rfl|rfl|rfl<;>rfl
 obtain⟨hW,_⟩:=xr (pg_W1' K b q pos fA fT γ)
 let z:=pgZ q fA
 have hin:∀b',Seg K (WK ([0,0,3],b')) ⟨zx (ye xP (yB z) z),ye xP (yB z) z,⟨171,45,171,50⟩,[],TcT K z none [] 0 0 q.cl q.e2++R⟩ (fun s=>∃x' sl' ep',s.cur=.pure (.done .next)∧s.fs=[]∧s.T=[(z.dct,cmD K.P yy (some x')),(z.acc,zd (za sl') ep')]++R∧sl'.map (·.1)=q.cl.map (fun p=>zp p.1)):=fun b'=>by
  have hlive:∀x∈[(z.dct,cmD K.P yy none),(z.acc,zd #[] 0),(z.src,zd (zi q.cl) q.e2)]++R,x.2.isFreed=false:=fun x hx=>by
   rcases List.mem_append.mp hx with hx|hx
   ·simp only[List.mem_cons,List.not_mem_nil,or_false] at hx
    rcases hx with rfl|rfl|rfl<;>rfl
   ·exact hR x hx
  have h1:=yS (K:=K) (W:=WK ([0,0,3],b')) (tc_rS K (WK ([0,0,3],b')) z ⟨171,45,171,50⟩) hlive
  refine Seg.perm (a:=⟨_,_,_,[],_⟩) ?_ (Seg.trans h1 ?_)
  ·show List.Perm ([(z.dct,cmD K.P yy none),(z.acc,zd #[] 0)]++(z.it,lIt z.src 0)::([(z.src,zd (zi q.cl) q.e2)]++R)) _
   exact List.perm_middle (l₁:=[(z.dct,cmD K.P yy none),(z.acc,zd #[] 0)])
  ·rintro s ⟨p',rfl⟩
   have h2:=Seg.frame R hR (tc_loop (K:=K) (b:=b') (z:=z) (e2:=q.e2) q.cl [] none [] 0 p' hc (by simp;omega))
   refine Seg.again rfl (Seg.perm (a:=⟨_,_,_,[],_⟩) ?_ (h2.mono ?_))
   ·exact(List.perm_middle (l₁:=[(z.dct,cmD K.P yy none),(z.acc,zd #[] 0)])).symm
   ·rintro s ⟨s',⟨x',sl',ep',e1,e2,e3,e4,e5⟩,rfl⟩
    obtain⟨xv,rfl⟩:=Option.isSome_iff_exists.mp (e5 (.inr h0))
    exact⟨xv,sl',ep',e1,e2,by rw[e3],by simpa using e4⟩
 refine Seg.call (B':=fun s=>∃x' sl' ep',s.cur=.pure (.done .next)∧s.fs=[]∧s.T=[(z.dct,cmD K.P yy (some x')),(z.acc,zd (za sl') ep')]++R∧sl'.map (·.1)=q.cl.map (fun p=>zp p.1)) rfl ?_ ?_
 ·have:=hin (yj (((eo (u9 K b q pos fA fT γ)).code,(⟨171,45,171,50⟩:Pos))::(([]:List Frame).map Frame.where_++WK ([0,3],b))))
  rw[←hW] at this
  exact this
 rintro s ⟨x',sl,ep,e1,e2,e3,e4⟩
 refine⟨e2,.ok .next,e1,?_⟩
 rw[e3]
 have hsl:sl.length=q.cl.length:=by
  have:=congrArg List.length e4
  simpa using this
 have h2:=Seg.run (K:=K) (pgS2 K b q pos fA fT x' sl ep γ) (tl:=[]) rfl rfl (fun F U=>xi (.leaf U xLAdd_ok)) _ [0,1,5,6,7,8] (pg_r2 K b q pos fA fT x' sl ep γ) (by decide) rfl (by decide) (fun _ _ _=>zc (zk (by rw[Array.size_append,zm,hsl];simp;omega)) zl) (fun _ _ _=>rfl)
 have h2:=Seg.eqT (List.append_nil _) h2
 show Seg K _ ⟨kOf (u9 K b q pos fA fT γ) (.ok .next),(eo (u9 K b q pos fA fT γ)).code,⟨171,45,171,50⟩,[],_⟩ _
 refine Seg.trans h2 ?_
 rintro s ⟨gA,gT,gm,_,rfl⟩
 refine Seg.eqT (List.append_nil _).symm ?_
 obtain⟨hW2,_⟩:=xr (pg_W2 K b q pos fA fT x' sl ep γ gA gT gm)
 let L:=pgL0 q fA fT sl gA gT
 have hsl':L.sl.map (·.1)=(q.cl.map fun p=>zp p.1)++[(⟨#[10]⟩:Str)]:=by
  show (sl++[nlT _]).map (·.1)=_
  rw[List.map_append,e4];rfl
 have hlen:∀p∈L.sl,p.1.length≤3:=fun p hp=>by
  have hm:p.1∈L.sl.map (·.1):=List.mem_map_of_mem hp
  rw[hsl'] at hm
  rcases List.mem_append.mp hm with hm|hm
  ·obtain⟨c,_,hc⟩:=List.mem_map.mp hm
   rw[←hc];exact lawTold_len _
  ·rw[List.mem_singleton] at hm
   rw[hm];decide
 have hcount:L.sl.length=q.cl.length+1:=by
  show (sl++[nlT _]).length=_
  rw[List.length_append,hsl];rfl
 have hl:=fun b'=>page_loop (K:=K) (b:=b') (g:=L.g) (it:=L.it) (tl:=L.tl) (sl:=L.sl) L.sl.length 0 ⟨[],[],q.rm⟩ (L.T K.P) ⟨171,16,171,60⟩ (by omega) hlen ⟨L,rfl,rfl,rfl,rfl,rfl,List.Perm.refl _,rfl,rfl,rfl,.inl rfl⟩ (by
  have e:(⟨[],[],q.rm⟩:PS).M=0:=rfl
  rw[e,hcount];omega) (fun x hx=>by cases hx)
 have eT:(pgX2 K b q pos fA fT x' sl ep γ gA gT gm).T=L.T K.P:=by
  show [(gA 2,lIt (gA 1) 0),(gA 1,zd (za sl++#[Value.str ⟨#[10]⟩ ((gT 0).tok 0)]) 0),_,_,_,_]=[(gA 2,lIt (gA 1) 0),(gA 1,zd (za (sl++[nlT ((gT 0).tok 0)])) 0),_,_,_,_]
  have:za (sl++[nlT ((gT 0).tok 0)])=za sl++#[Value.str ⟨#[10]⟩ ((gT 0).tok 0)]:=by simp[za,nlT]
  rw[this]
  rfl
 refine Seg.call (B':=LoopEnd K L.g (((L.sl.drop 0).map (·.1)).foldl (zr L.g.wd) ⟨[],[],q.rm⟩)) rfl ?_ ?_
 ·have:=hl (yj (((eo (pgR2 K b q pos fA fT x' sl ep γ gA gT gm)).code,(⟨171,16,171,60⟩:Pos))::(([]:List Frame).map Frame.where_++WK ([0,3],b))))
  rw[←hW2,←eT] at this
  exact this
 rintro s ⟨f1,f2,ql,f3,f4,f5,f6⟩
 refine⟨f2,.ok .next,f1,?_⟩
 have h3:=Seg.run (K:=K) (pzS K b q pos (pzZ q fA fT x' sl ep γ gA gT ql) gm ⟨171,16,171,60⟩) (tl:=[]) rfl rfl yq _ [2] (pz_r K b q pos fA fT x' sl ep γ gA gT gm ql ⟨171,16,171,60⟩) (by decide) rfl (by decide) (fun _ _ _=>zl) (fun _ _ _=>rfl)
 have h3:=Seg.eqT (List.append_nil _) h3
 have f3':ql.g=pgG q fA fT:=f3
 have eZ:(pzS K b q pos (pzZ q fA fT x' sl ep γ gA gT ql) gm ⟨171,16,171,60⟩).T=[ql.fr K.P ql.V,(ql.g.cell,zU (.ref ql.ln)),(ql.g.ra,zd (za ql.rows) ql.er),(ql.ln,zd (za ql.line) ql.el)]:=by
  show [PgL.fr { ql with g:=pgG q fA fT } K.P ql.V,((pgG q fA fT).cell,_),((pgG q fA fT).ra,_),_]=_
  rw[←f3']
  rfl
 refine Seg.perm (a:=⟨_,_,_,[],_⟩) f4 ?_
 rw[←eZ]
 refine h3.mono ?_
 rintro s ⟨α,τ,γ',_,rfl⟩
 refine⟨fA 2,ql.rows,ql.er,rfl,rfl,List.append_nil _,?_⟩
 rw[f5,List.drop_zero,hsl']
 rfl
structure LwQ where
 l:Addr
 vs:Array Value
 ys:Array Value
 e:Nat
def lwC(l:Addr):Code:=.call (.ref 362) ⟨[.ref l],[]⟩
def lwS(K:Wd)(b:Bag)(q:LwQ)(pos:Pos):Start:=mkS K (WK ([3],b)) 1 [] [uO 2 q.ys] [(q.l,zd q.vs q.e)] (lwC q.l) pos
def lwB(i:Nat):Stmt:=sAt (wY (zs 27)) i
def numE:Expr:=binL (asgR (lwB 0))
def qLaw:Str:=⟨#[108,97,119,46,60,108,111,99,97,108,115,62,46]⟩
def numEnv(z:CmA):Env:=cmEnv numE z.dct qLaw 361 z.a0
def y5:Str:=⟨#[115,99,114,105,112,116]⟩
def numZ(α:Nat→Addr):CmA:=⟨α 0,α 2,α 3,α 4,α 5⟩
def tpLw1:List Nat:=[724,722,3,1,4,3,1,1,1,1,0,1,5,7,7,0,7,9]
section
variable (K:Wd) (b:Bag) (q:LwQ) (pos:Pos) (α:Nat→Addr) (τ:Nat→Ch) (γ:Nat→Nat)
def lwR1:Option Out:=(lwS K b q pos).run α τ γ 34 tpLw1
theorem lw_r1:lhs 1 [2,1,0,3,5,6] (lwR1 K b q pos α τ γ)=rhs 6 ⟨.call (ye numE (numEnv (numZ α)) (numZ α)) none true (lOf (lwR1 K b q pos α τ γ)) (kOf (lwR1 K b q pos α τ γ)),(eo (lwR1 K b q pos α τ γ)).code,⟨211,36,211,47⟩,[],
  [(α 3,lIt (α 2) 0),(α 4,zd #[] 0),(α 5,dictO [] 0),(α 2,zd q.ys 0),(α 0,yp [ent K.P y5 ((τ 0).tok 0) (.ref q.l)] 1),(q.l,zd q.vs q.e)],[],[(.a (slicePick q.vs none (some 12) none),.a q.ys),small q.vs.size]⟩ (lwR1 K b q pos α τ γ):=by
 obtain⟨w',b1,b2,V0,hw⟩:=K
 cases b1<;>kernel_rfl
end
def sX:Str:=⟨#[120]⟩
def zy(l:List (Int × Tok)):Array Value:=(l.map fun p=>Value.int p.1 p.2).toArray
theorem zArr_push(l:List (Int × Tok))(p:Int × Tok):zy (l++[p])=(zy l).push (.int p.1 p.2):=by simp[zy]
theorem w3(l:List (Int × Tok)):(zy l).size=l.length:=by simp[zy]
def wf(z:CmA):Code:=y1 numE (numEnv z) z
def v0(z:CmA):Code:=ye numE (numEnv z) z
def numSS(K:Wd)(W:List (Code × Pos))(z:CmA)(pos:Pos):Start:=mkS K W 1 [] [] [(z.it,lIt z.src 0)] (v0 z) pos
theorem num_rS(K:Wd)(W:List (Code × Pos))(z:CmA)(pos:Pos):∃N tp p,∀α τ γ,lhs 1 [0] ((numSS K W z pos).run α τ γ N tp)=rhs 0 ⟨.pure (.again (wf z)),v0 z,p,[],[(z.it,lIt z.src 0)],[],[]⟩ ((numSS K W z pos).run α τ γ N tp):=by
 obtain⟨w,b1,b2,V0,hw⟩:=K
 cases b2
 ·exact⟨11,[1,1,0,1,1],⟨211,36,211,47⟩,fun α τ γ=>by cases b1<;>kernel_rfl⟩
 ·exact⟨1,[],pos,fun α τ γ=>by cases b1<;>kernel_rfl⟩
def numS(K:Wd)(W:List (Code × Pos))(z:CmA)(x:Option (Value × Tok))(vs:Array Value)(e i:Nat)(xs:Array Value)(e2:Nat)(p:Int × Tok)(pos:Pos):Start:=
 mkS K W 4 [] [wu 2 (.int p.1 p.2),zS K.P 8 [],zD 1] [(z.dct,cmD K.P sX x),(z.acc,zd vs e),(z.it,lIt z.src i),(z.src,zd xs e2)] (wf z) pos
section
variable (K:Wd) (W:List (Code × Pos)) (z:CmA) (x:Option (Value × Tok)) (vs:Array Value) (e i:Nat) (xs:Array Value) (e2:Nat) (p:Int × Tok) (pos:Pos) (α:Nat→Addr) (τ:Nat→Ch) (γ:Nat→Nat)
def numR(N:Nat)(tp:List Nat):Option Out:=(numS K W z x vs e i xs e2 p pos).run α τ γ N tp
def tpNum:List Nat:=[3,1,1,3,1,7,3,7,2,0,3,0,5]
theorem num_r:lhs 4 [0,1,2,3] (numR K W z x vs e i xs e2 p pos α τ γ 16 tpNum)=rhs 0 ⟨.pure (.again (wf z)),wf z,⟨211,15,211,26⟩,[],
  [(z.dct,cmD K.P sX (cmX x (.int p.1 p.2) ((τ 1).tok 0))),(z.acc,zd (vs.push (.int (p.1.fmod 1000000) ((τ 3).tok 0))) ((τ 4).tok 0)),(z.it,lIt z.src (i+1)),(z.src,zd xs e2)],[],[small vs.size,(.ov xs[i]?,.ov (some (.int p.1 p.2)))]⟩ (numR K W z x vs e i xs e2 p pos α τ γ 16 tpNum):=by
 obtain⟨w,b1,b2,V0,hw⟩:=K
 cases b1<;>cases x<;>kernel_rfl
theorem num_rE:lhs 4 [2,3] (numR K W z x vs e i xs e2 p pos α τ γ 4 [3,1,0,3,1,11])=rhs 2 ⟨.pure (.done .next),wf z,⟨211,36,211,47⟩,[],[(z.dct,cmD K.P sX x),(z.acc,zd vs e)],[],[(.ov xs[i]?,.ov none)]⟩ (numR K W z x vs e i xs e2 p pos α τ γ 4 [3,1,0,3,1,11]):=by
 obtain⟨w,b1,b2,V0,hw⟩:=K
 cases b1<;>cases x<;>kernel_rfl
end
theorem num_exts{K:Wd}{W:List (Code × Pos)}{m:Nat}{v:Value}:∀F,Under (cfg K.P K.V W m []) F→∀e E,nth [wu 2 v,zS K.P 8 [],zD 1] e=some E→ExtOk (cfg K.P K.V W m []) K.w F E:=fun F U=>
 (AllOk.cons (.leaf U xK) (.cons zJ (.cons (.leaf U zI) .nil))).nth
theorem num_loop{K:Wd}{W:List (Code × Pos)}{z:CmA}{e2:Nat}:∀(post pre:List (Int × Tok)) (x:Option (Value × Tok)) (ns:List (Int × Tok)) (e:Nat) (pos:Pos),ns.length+post.length≤1000→
  Seg K W ⟨zx (wf z),wf z,pos,[],[(z.dct,cmD K.P sX x),(z.acc,zd (zy ns) e),(z.it,lIt z.src pre.length),(z.src,zd (zy (pre++post)) e2)]⟩ (fun s=>∃x' ns' e',s.cur=.pure (.done .next)∧s.fs=[]∧s.T=[(z.dct,cmD K.P sX x'),(z.acc,zd (zy ns') e')]∧ns'.map (·.1)=ns.map (·.1)++post.map (fun p=>p.1.fmod 1000000)∧(x'=none↔x=none∧post=[]))
 |[],pre,x,ns,e,pos,_=>by
  have h:=Seg.run (K:=K) (numS K W z x (zy ns) e pre.length (zy (pre++[])) e2 (0,0) pos) (tl:=[]) rfl rfl num_exts _ [2,3] (num_rE K W z x (zy ns) e pre.length (zy (pre++[])) e2 (0,0) pos) (by decide) rfl (by decide) (fun _ _ _=>zc (by show LV.ov (zy (pre++[]))[pre.length]?=_;simp[zy]) zl) (fun _ _ _=>rfl)
  have h:=Seg.eqT (List.append_nil _) h
  refine h.mono ?_
  rintro s ⟨α,τ,γ,_,rfl⟩
  exact⟨x,ns,e,rfl,rfl,rfl,by simp,by simp⟩
 |p::post,pre,x,ns,e,pos,hl=>by
  have h:=Seg.run (K:=K) (numS K W z x (zy ns) e pre.length (zy (pre++p::post)) e2 p pos) (tl:=[]) rfl rfl num_exts _ [0,1,2,3] (num_r K W z x (zy ns) e pre.length (zy (pre++p::post)) e2 p pos) (by decide) rfl (by decide) (fun _ _ _=>zc (zk (by rw[w3];simp at hl;omega)) (zc (by simp[zy]) zl)) (fun _ _ _=>rfl)
  have h:=Seg.eqT (List.append_nil _) h
  refine Seg.trans h ?_
  rintro s ⟨α,τ,γ,_,rfl⟩
  have e0:pre++p::post=(pre++[p])++post:=by simp
  have el:pre.length+1=(pre++[p]).length:=by simp
  have ih:=num_loop (K:=K) (W:=W) (z:=z) (e2:=e2) post (pre++[p]) (cmX x (.int p.1 p.2) ((τ 1).tok 0)) (ns++[(p.1.fmod 1000000,(τ 3).tok 0)]) ((τ 4).tok 0) ⟨211,15,211,26⟩ (by simp at hl ⊢;omega)
  refine Seg.again rfl (Seg.perm (a:=⟨_,_,_,[],_⟩) (List.Perm.of_eq ?_) (ih.mono ?_))
  ·show _++[]=_
   rw[List.append_nil,zArr_push,←e0,←el]
  ·rintro s ⟨x',ns',e',h1,h2,h3,h4,h5⟩
   exact⟨x',ns',e',h1,h2,h3,by rw[h4];simp,by rw[h5];cases x<;>simp[cmX]⟩
def fixT(τ:Nat→Ch):List (Int × Tok):=[(4,(τ 0).tok 0),(5,(τ 1).tok 0),(44,(τ 2).tok 0),(163,(τ 3).tok 0),(2,(τ 4).tok 0),(9,(τ 5).tok 0),(1,(τ 6).tok 0),(2,(τ 7).tok 0),(203,(τ 8).tok 0),(12,(τ 9).tok 0)]
def xt:Str:=⟨#[110,117,109,98,101,114,115]⟩
def codE:Expr:=asgR (lwB 1)
def codEnv(z:CmA):Env:=cmEnv codE z.dct qLaw 361 z.a0
def tpLw2:List Nat:=[5,5,2,3,7,3,1,0,3,7,1,0,1,9,9,0,9,11]
def up:List Nat:=[5,3,7,3,1,0,3,7,1,0,1,9,9,0,9,11]
section
variable (K:Wd) (b:Bag) (q:LwQ) (p0:Pos) (fA:Nat→Addr) (fT:Nat→Ch) (g0:Nat→Nat) (x:Option (Value × Tok)) (vs:Array Value) (e:Nat) (α:Nat→Addr) (τ:Nat→Ch) (γ:Nat→Nat)
def lwS2:Start:=⟨cfg K.P K.V (WK ([3],b)) 3 [],[xLAdd],[((numZ fA).dct,cmD K.P sX x),((numZ fA).acc,zd vs e),(fA 0,yp [ent K.P y5 ((fT 0).tok 0) (.ref q.l)] 1)],[],kOf (lwR1 K b q p0 fA fT g0) (.ok .next),(eo (lwR1 K b q p0 fA fT g0)).code,⟨211,36,211,47⟩,[]⟩
def v9(N:Nat)(tp:List Nat):Option Out:=(lwS2 K b q p0 fA fT g0 x vs e).run α τ γ N tp
def codZ(fA α:Nat→Addr):CmA:=⟨fA 0,α 1,α 2,α 3,α 4⟩
def lwX2(N:Nat)(tp:List Nat):Exp:=⟨.call (ye codE (codEnv (codZ fA α)) (codZ fA α)) none true (lOf (v9 K b q p0 fA fT g0 x vs e α τ γ N tp)) (kOf (v9 K b q p0 fA fT g0 x vs e α τ γ N tp)),(eo (v9 K b q p0 fA fT g0 x vs e α τ γ N tp)).code,⟨212,12,212,53⟩,[],
 [(α 2,lIt (α 1) 0),(α 3,zd #[] 0),(α 4,dictO [] 0),(α 1,zd (vs++zy (fixT τ)) 0),(fA 0,yp [ent K.P y5 ((fT 0).tok 0) (.ref q.l),ent K.P xt ((τ 11).tok 0) (.ref (α 1))] 2)],[],[small (vs++zy (fixT τ)).size]⟩
theorem lw_r2(hx:x.isSome=true):lhs 3 [2,1,0,3,7] (v9 K b q p0 fA fT g0 x vs e α τ γ 47 tpLw2)=rhs 5 (lwX2 K b q p0 fA fT g0 x vs e α τ γ 47 tpLw2) (v9 K b q p0 fA fT g0 x vs e α τ γ 47 tpLw2):=by
 obtain⟨w',b1,b2,V0,hw⟩:=K
 cases x with
 |none=>cases hx
 |some v=>cases b1<;>kernel_rfl
theorem lw_r2n(hx:x.isNone=true):lhs 3 [2,1,0,3,7] (v9 K b q p0 fA fT g0 x vs e α τ γ 43 up)=rhs 5 (lwX2 K b q p0 fA fT g0 x vs e α τ γ 43 up) (v9 K b q p0 fA fT g0 x vs e α τ γ 43 up):=by
 obtain⟨w',b1,b2,V0,hw⟩:=K
 cases x with
 |none=>cases b1<;>kernel_rfl
 |some v=>cases hx
end
def lcRd(d:Nat)(c:Code)(objs:zh):Option LcQ:=match c with
 | .call _ ⟨[.int n t],[]⟩=>match objs with
  |[(y,o)]=>some ⟨n,t,y,o⟩
  | _=>none
 | _=>none
def xCode(c:Nat):Ext:=fnX 1 (fun _=>0) (shk [[4,0,3]]) lcRd (fun _ _ q=>lcC q.n q.t) (fun _ _ q=>[(q.y,q.o)]) (fun d _ q=>[(.i (zE q.n),.i (.ofNat c))])
 (fun d _ q _ t=>⟨.ok (.ret (.int (.ofNat c) (t.tok 0))),[q.o],[]⟩)
theorem xCode_ok{K:Wd}{W:List (Code × Pos)}{n:Nat}{tl:zh}{F:List Frame}{c:Nat}(U:Under (cfg K.P K.V W n tl) F)(htl:∀p∈tl,p.2.isFreed=false):ExtOk (cfg K.P K.V W n tl) K.w F (xCode c):=by
 refine ExtOk.fn U htl WK (fun x=>x.1∈[[4,0,3]]) (fun wh x h=>xr h) (fun d c objs x q xs t h=>rfl) ?_
 rintro d ⟨ks,b⟩ q hk hpc _ pos
 have hk:ks=[4,0,3]:=by simpa using hk
 subst hk
 have e:=LV.i.inj (hpc _ (.head _))
 refine(lc_seg htl).mono ?_
 rintro s ⟨t,h1,h2,h3⟩
 refine⟨[],.of t,rfl,rfl,?_,h2,?_⟩
 ·rw[h1,e];rfl
 ·rw[h3];rfl
def x8:Str:=⟨#[110,117,109,98,101,114]⟩
def wo(z:CmA):Code:=y1 codE (codEnv z) z
def w1(z:CmA):Code:=ye codE (codEnv z) z
def codSS(K:Wd)(W:List (Code × Pos))(z:CmA)(pos:Pos):Start:=mkS K W 1 [] [] [(z.it,lIt z.src 0)] (w1 z) pos
theorem cod_rS(K:Wd)(W:List (Code × Pos))(z:CmA)(pos:Pos):∃N tp p,∀α τ γ,lhs 1 [0] ((codSS K W z pos).run α τ γ N tp)=rhs 0 ⟨.pure (.again (wo z)),w1 z,p,[],[(z.it,lIt z.src 0)],[],[]⟩ ((codSS K W z pos).run α τ γ N tp):=by
 obtain⟨w,b1,b2,V0,hw⟩:=K
 cases b2
 ·exact⟨11,[1,1,0,1,1],⟨212,45,212,52⟩,fun α τ γ=>by cases b1<;>kernel_rfl⟩
 ·exact⟨1,[],pos,fun α τ γ=>by cases b1<;>kernel_rfl⟩
def codS(K:Wd)(b:Bag)(z:CmA)(x:Option (Value × Tok))(vs:Array Value)(e i:Nat)(xs:Array Value)(e2:Nat)(p:Int × Tok)(c:Nat)(pos:Pos):Start:=
 mkS K (WK ([0,3],b)) 4 [] [wu 2 (.int p.1 p.2),xCode c,zD 1] [(z.dct,cmD K.P x8 x),(z.acc,zd vs e),(z.it,lIt z.src i),(z.src,zd xs e2)] (wo z) pos
section
variable (K:Wd) (b:Bag) (z:CmA) (x:Option (Value × Tok)) (vs:Array Value) (e i:Nat) (xs:Array Value) (e2:Nat) (p:Int × Tok) (c:Nat) (pos:Pos) (α:Nat→Addr) (τ:Nat→Ch) (γ:Nat→Nat)
def codR(N:Nat)(tp:List Nat):Option Out:=(codS K b z x vs e i xs e2 p c pos).run α τ γ N tp
def tpCod:List Nat:=[3,1,1,3,1,7,3,6,7,666,2,0,3,3,0,5]
theorem cod_r:lhs 4 [0,1,2,3] (codR K b z x vs e i xs e2 p c pos α τ γ 19 tpCod)=rhs 0 ⟨.pure (.again (wo z)),wo z,⟨212,13,212,30⟩,[],
  [(z.dct,cmD K.P x8 (cmX x (.int p.1 p.2) ((τ 1).tok 0))),(z.acc,zd (vs.push (.int (.ofNat c) ((τ 2).tok 0))) ((τ 3).tok 0)),(z.it,lIt z.src (i+1)),(z.src,zd xs e2)],[],[small vs.size,(.i (zE p.1),.i (.ofNat c)),(.ov xs[i]?,.ov (some (.int p.1 p.2)))]⟩ (codR K b z x vs e i xs e2 p c pos α τ γ 19 tpCod):=by
 obtain⟨w,b1,b2,V0,hw⟩:=K
 cases b1<;>cases x<;>kernel_rfl
end
theorem cod_rE(K:Wd)(b:Bag)(z:CmA)(x:Option (Value × Tok))(vs:Array Value)(e i:Nat)(xs:Array Value)(e2:Nat)(p:Int × Tok)(c:Nat)(pos:Pos)(α:Nat→Addr)(τ:Nat→Ch)(γ:Nat→Nat):lhs 4 [2,3,5] (codR K b z x vs e i xs e2 p c pos α τ γ 4 [3,1,0,3,1,11])=rhs 2 ⟨.pure (.done .next),wo z,⟨212,45,212,52⟩,[],[(z.dct,cmD K.P x8 x),(z.acc,zd vs e),(z.src,zd xs e2)],[],[(.ov xs[i]?,.ov none)]⟩ (codR K b z x vs e i xs e2 p c pos α τ γ 4 [3,1,0,3,1,11]):=by
 obtain⟨w,b1,b2,V0,hw⟩:=K
 cases b1<;>cases x<;>kernel_rfl
theorem cod_exts{K:Wd}{W:List (Code × Pos)}{m:Nat}{v:Value}{c:Nat}:∀F,Under (cfg K.P K.V W m []) F→∀e E,nth [wu 2 v,xCode c,zD 1] e=some E→ExtOk (cfg K.P K.V W m []) K.w F E:=fun F U=>
 (AllOk.cons (.leaf U xK) (.cons (xCode_ok U wg) (.cons (.leaf U zI) .nil))).nth
theorem cod_loop{K:Wd}{b:Bag}{z:CmA}{e2:Nat}:∀(post pre:List (Int × Tok)) (x:Option (Value × Tok)) (cl:List (Nat × Tok)) (e:Nat) (pos:Pos),(∀p∈post,0≤zE p.1)→cl.length+post.length≤1000→
  Seg K (WK ([0,3],b)) ⟨zx (wo z),wo z,pos,[],[(z.dct,cmD K.P x8 x),(z.acc,zd (zi cl) e),(z.it,lIt z.src pre.length),(z.src,zd (zy (pre++post)) e2)]⟩ (fun s=>∃x' cl' e',s.cur=.pure (.done .next)∧s.fs=[]∧s.T=[(z.dct,cmD K.P x8 x'),(z.acc,zd (zi cl') e'),(z.src,zd (zy (pre++post)) e2)]∧cl'.map (·.1)=cl.map (·.1)++post.map (fun p=>(zE p.1).toNat)∧(x.isSome=true∨post≠[]→x'.isSome=true))
 |[],pre,x,cl,e,pos,_,_=>by
  have h:=Seg.run (K:=K) (codS K b z x (zi cl) e pre.length (zy (pre++[])) e2 (0,0) 0 pos) (tl:=[]) rfl rfl cod_exts _ [2,3,5] (cod_rE K b z x (zi cl) e pre.length (zy (pre++[])) e2 (0,0) 0 pos) (by decide) rfl (by decide) (fun _ _ _=>zc (by show LV.ov (zy (pre++[]))[pre.length]?=_;simp[zy]) zl) (fun _ _ _=>rfl)
  have h:=Seg.eqT (List.append_nil _) h
  refine h.mono ?_
  rintro s ⟨α,τ,γ,_,rfl⟩
  exact⟨x,cl,e,rfl,rfl,rfl,by simp,fun h=>h.elim id fun h=>absurd rfl h⟩
 |p::post,pre,x,cl,e,pos,hc,hl=>by
  have h:=Seg.run (K:=K) (codS K b z x (zi cl) e pre.length (zy (pre++p::post)) e2 p (zE p.1).toNat pos) (tl:=[]) rfl rfl cod_exts _ [0,1,2,3] (cod_r K b z x (zi cl) e pre.length (zy (pre++p::post)) e2 p (zE p.1).toNat pos) (by decide) rfl (by decide) (fun _ _ _=>zc (zk (by rw[yO];simp at hl;omega)) (zc (by
   have:=hc p (.head _)
   show LV.i (zE p.1)=LV.i (Int.ofNat (zE p.1).toNat)
   congr 1
   exact(Int.toNat_of_nonneg this).symm) (zc (by simp[zy]) zl))) (fun _ _ _=>rfl)
  have h:=Seg.eqT (List.append_nil _) h
  refine Seg.trans h ?_
  rintro s ⟨α,τ,γ,_,rfl⟩
  have e0:pre++p::post=(pre++[p])++post:=by simp
  have el:pre.length+1=(pre++[p]).length:=by simp
  have ih:=cod_loop (K:=K) (b:=b) (z:=z) (e2:=e2) post (pre++[p]) (cmX x (.int p.1 p.2) ((τ 1).tok 0)) (cl++[((zE p.1).toNat,(τ 2).tok 0)]) ((τ 3).tok 0) ⟨212,13,212,30⟩ (fun q hq=>hc q (.tail _ hq)) (by simp at hl ⊢;omega)
  refine Seg.again rfl (Seg.perm (a:=⟨_,_,_,[],_⟩) (List.Perm.of_eq ?_) (ih.mono ?_))
  ·show _++[]=_
   rw[List.append_nil,wl,←e0,←el]
  ·rintro s ⟨x',cl',e',h1,h2,h3,h4,h5⟩
   exact⟨x',cl',e',h1,h2,by rw[h3,←e0],by rw[h4];simp,fun _=>h5 (.inl (by cases x<;>rfl))⟩
def lwα(a0 acc dct:Addr)(i:Nat):Addr:=match i with
 |0=>a0
 |3=>acc
 |4=>dct
 |n+1=>7000+n
def lwCq:LwQ:=⟨6000,#[],#[],0⟩
def lwK(K:Wd)(b:Bag)(a0 acc dct:Addr):Result→Sem Fin:=kOf (v9 K b lwCq uB (lwα a0 acc dct) cτ id (some (.none,0)) #[] 0 (lwα a0 acc dct) cτ id 47 tpLw2)
def wx(K:Wd)(b:Bag)(a0:Addr):Code:=(eo (lwR1 K b lwCq uB (lwα a0 0 0) cτ id)).code
def sTotal:Str:=⟨#[116,111,116,97,108]⟩
def chrE:Expr:=match lwB 5 with
 | .Return (some (.Compare (.Call _ (.Call _ (e::_) _ _::_) _ _) _ _ _)) _=>e
 | _=>.Constant .none 0 ⟨0,0,0,0⟩
structure LvQ where
 l:Addr
 a0:Addr
 src:Addr
 t0:Tok
 t1:Tok
 z:CmA
 x:Value × Tok
 cl:List (Nat × Tok)
 e:Nat
 ns:List (Int × Tok)
 e2:Nat
def LvQ.total(q:LvQ):Int:=ww (zy q.ns).toList
def LvQ.wd(q:LvQ):Int:=q.total.fmod 9
def LvQ.rm(q:LvQ):Int:=(q.total.fdiv 9).fmod 4
def LvQ.fr(q:LvQ)(P:Params)(τ:Nat→Ch):Obj:=yp [ent P y5 q.t0 (.ref q.l),ent P xt q.t1 (.ref q.src),ent P sCodes ((τ 0).tok 0) (.ref q.z.acc),ent P sTotal ((τ 2).tok 0) (.int q.total ((τ 1).tok 0)),ent P sWidth ((τ 5).tok 0) (.int q.wd ((τ 4).tok 0)),ent P sRoom ((τ 10).tok 0) (.int q.rm ((τ 9).tok 0))] 6
def tpLw3:List Nat:=[1,0,7,7,3,6,0,1,1,0,3,1,0,1,2,0,1,0,1,2,0,2,0,1,0,6,1,5,5,0,5,9]
section
variable (K:Wd) (b:Bag) (q:LvQ) (p0:Pos) (α:Nat→Addr) (τ:Nat→Ch) (γ:Nat→Nat)
def lwS3:Start:=⟨cfg K.P K.V (WK ([3],b)) 4 [],[xSumL,zS K.P 8 []],[(q.z.dct,cmD K.P x8 (some q.x)),(q.z.acc,zd (zi q.cl) q.e),(q.src,zd (zy q.ns) q.e2),(q.a0,yp [ent K.P y5 q.t0 (.ref q.l),ent K.P xt q.t1 (.ref q.src)] 2)],[],lwK K b q.a0 q.z.acc q.z.dct (.ok .next),wx K b q.a0,p0,[]⟩
def lwR3:Option Out:=(lwS3 K b q p0).run α τ γ 78 tpLw3
def chZ(q:LvQ)(α:Nat→Addr):CmA:=⟨q.a0,q.z.acc,α 0,α 1,α 2⟩
def chEnv(z:CmA):Env:=cmEnv chrE z.dct qLaw 361 z.a0
theorem lw_r3:lhs 4 [0,1,2,4,6] (lwR3 K b q p0 α τ γ)=rhs 3 ⟨.call (ye chrE (chEnv (chZ q α)) (chZ q α)) none true (lOf (lwR3 K b q p0 α τ γ)) (kOf (lwR3 K b q p0 α τ γ)),wx K b q.a0,⟨216,52,216,57⟩,[],
  [(α 2,dictO [] 0),(α 1,zd #[] 0),(α 0,lIt q.z.acc 0),(q.z.acc,zd (zi q.cl) q.e),(q.a0,q.fr K.P τ)],[],[(.b (allI (zy q.ns).toList),.b true)]⟩ (lwR3 K b q p0 α τ γ):=by
 obtain⟨w',b1,b2,V0,hw⟩:=K
 cases b1<;>kernel_rfl
theorem lw_k2{q:LwQ}{fA:Nat→Addr}{fT:Nat→Ch}{g0:Nat→Nat}{x:Option (Value × Tok)}{vs:Array Value}{e:Nat}(hx:x.isSome=true):kOf (v9 K b q p0 fA fT g0 x vs e α τ γ 47 tpLw2)=lwK K b (fA 0) (α 3) (α 4):=by
 obtain⟨w',b1,b2,V0,hw⟩:=K
 cases x with
 |none=>cases hx
 |some v=>cases b1<;>kernel_rfl
theorem lw_k2n{q:LwQ}{fA:Nat→Addr}{fT:Nat→Ch}{g0:Nat→Nat}{x:Option (Value × Tok)}{vs:Array Value}{e:Nat}(hx:x.isNone=true):kOf (v9 K b q p0 fA fT g0 x vs e α τ γ 43 up)=lwK K b (fA 0) (α 3) (α 4):=by
 obtain⟨w',b1,b2,V0,hw⟩:=K
 cases x with
 |none=>cases b1<;>kernel_rfl
 |some v=>cases hx
theorem lw_cd{q:LwQ}{fA:Nat→Addr}{fT:Nat→Ch}{g0:Nat→Nat}{x:Option (Value × Tok)}{vs:Array Value}{e:Nat}(hx:x.isSome=true):(eo (v9 K b q p0 fA fT g0 x vs e α τ γ 47 tpLw2)).code=wx K b (fA 0):=by
 obtain⟨w',b1,b2,V0,hw⟩:=K
 cases x with
 |none=>cases hx
 |some v=>cases b1<;>kernel_rfl
theorem lw_cdn{q:LwQ}{fA:Nat→Addr}{fT:Nat→Ch}{g0:Nat→Nat}{x:Option (Value × Tok)}{vs:Array Value}{e:Nat}(hx:x.isNone=true):(eo (v9 K b q p0 fA fT g0 x vs e α τ γ 43 up)).code=wx K b (fA 0):=by
 obtain⟨w',b1,b2,V0,hw⟩:=K
 cases x with
 |none=>cases b1<;>kernel_rfl
 |some v=>cases hx
end
def wp(z:CmA):Code:=y1 chrE (chEnv z) z
def uh(z:CmA):Code:=ye chrE (chEnv z) z
def chrSS(K:Wd)(W:List (Code × Pos))(z:CmA)(pos:Pos):Start:=mkS K W 1 [] [] [(z.it,lIt z.src 0)] (uh z) pos
theorem chr_rS(K:Wd)(W:List (Code × Pos))(z:CmA)(pos:Pos):∃N tp p,∀α τ γ,lhs 1 [0] ((chrSS K W z pos).run α τ γ N tp)=rhs 0 ⟨.pure (.again (wp z)),uh z,p,[],[(z.it,lIt z.src 0)],[],[]⟩ ((chrSS K W z pos).run α τ γ N tp):=by
 obtain⟨w,b1,b2,V0,hw⟩:=K
 cases b2
 ·exact⟨11,[1,1,0,1,1],⟨216,52,216,57⟩,fun α τ γ=>by cases b1<;>kernel_rfl⟩
 ·exact⟨1,[],pos,fun α τ γ=>by cases b1<;>kernel_rfl⟩
def chrS(K:Wd)(W:List (Code × Pos))(z:CmA)(x:Option (Value × Tok))(vs:Array Value)(e i:Nat)(xs:Array Value)(e2:Nat)(p:Nat × Tok)(pos:Pos):Start:=
 mkS K W 4 [] [wu 2 (.int (.ofNat p.1) p.2),xChr p.1,zD 1] [(z.dct,cmD K.P yy x),(z.acc,zd vs e),(z.it,lIt z.src i),(z.src,zd xs e2)] (wp z) pos
section
variable (K:Wd) (W:List (Code × Pos)) (z:CmA) (x:Option (Value × Tok)) (vs:Array Value) (e i:Nat) (xs:Array Value) (e2:Nat) (p:Nat × Tok) (pos:Pos) (α:Nat→Addr) (τ:Nat→Ch) (γ:Nat→Nat)
def chrR(N:Nat)(tp:List Nat):Option Out:=(chrS K W z x vs e i xs e2 p pos).run α τ γ N tp
def tpChr:List Nat:=[3,1,1,3,1,7,3,6,0,7,2,0,3,0,5]
theorem chr_r:lhs 4 [0,1,2,3] (chrR K W z x vs e i xs e2 p pos α τ γ 19 tpChr)=rhs 0 ⟨.pure (.again (wp z)),wp z,⟨216,30,216,39⟩,[],
  [(z.dct,cmD K.P yy (cmX x (.int (.ofNat p.1) p.2) ((τ 1).tok 0))),(z.acc,zd (vs.push (.str ⟨#[p.1]⟩ ((τ 2).tok 0))) ((τ 3).tok 0)),(z.it,lIt z.src (i+1)),(z.src,zd xs e2)],[],[small vs.size,(.i (.ofNat p.1),.i (.ofNat p.1)),(.b (decide (p.1≤1114111)),.b true),(.ov xs[i]?,.ov (some (.int (.ofNat p.1) p.2)))]⟩ (chrR K W z x vs e i xs e2 p pos α τ γ 19 tpChr):=by
 obtain⟨w,b1,b2,V0,hw⟩:=K
 cases b1<;>cases x<;>kernel_rfl
theorem chr_rE:lhs 4 [2,3,5] (chrR K W z x vs e i xs e2 p pos α τ γ 4 [3,1,0,3,1,11])=rhs 2 ⟨.pure (.done .next),wp z,⟨216,52,216,57⟩,[],[(z.dct,cmD K.P yy x),(z.acc,zd vs e),(z.src,zd xs e2)],[],[(.ov xs[i]?,.ov none)]⟩ (chrR K W z x vs e i xs e2 p pos α τ γ 4 [3,1,0,3,1,11]):=by
 obtain⟨w,b1,b2,V0,hw⟩:=K
 cases b1<;>cases x<;>kernel_rfl
end
theorem chr_exts{K:Wd}{W:List (Code × Pos)}{m:Nat}{v:Value}{c:Nat}:∀F,Under (cfg K.P K.V W m []) F→∀e E,nth [wu 2 v,xChr c,zD 1] e=some E→ExtOk (cfg K.P K.V W m []) K.w F E:=fun F U=>
 (AllOk.cons (.leaf U xK) (.cons (.leaf U xChr_ok) (.cons (.leaf U zI) .nil))).nth
theorem chr_loop{K:Wd}{W:List (Code × Pos)}{z:CmA}{e2:Nat}:∀(post pre:List (Nat × Tok)) (x:Option (Value × Tok)) (sl:List (Str × Tok)) (e:Nat) (pos:Pos),(∀p∈post,p.1≤1114111)→sl.length+post.length≤1000→
  Seg K W ⟨zx (wp z),wp z,pos,[],[(z.dct,cmD K.P yy x),(z.acc,zd (za sl) e),(z.it,lIt z.src pre.length),(z.src,zd (zi (pre++post)) e2)]⟩ (fun s=>∃x' sl' e',s.cur=.pure (.done .next)∧s.fs=[]∧s.T=[(z.dct,cmD K.P yy x'),(z.acc,zd (za sl') e'),(z.src,zd (zi (pre++post)) e2)]∧sl'.map (·.1)=sl.map (·.1)++post.map (fun p=>(⟨#[p.1]⟩:Str))∧(x.isSome=true∨post≠[]→x'.isSome=true))
 |[],pre,x,sl,e,pos,_,_=>by
  have h:=Seg.run (K:=K) (chrS K W z x (za sl) e pre.length (zi (pre++[])) e2 (0,0) pos) (tl:=[]) rfl rfl chr_exts _ [2,3,5] (chr_rE K W z x (za sl) e pre.length (zi (pre++[])) e2 (0,0) pos) (by decide) rfl (by decide) (fun _ _ _=>zc (by show LV.ov (zi (pre++[]))[pre.length]?=_;simp[zi]) zl) (fun _ _ _=>rfl)
  have h:=Seg.eqT (List.append_nil _) h
  refine h.mono ?_
  rintro s ⟨α,τ,γ,_,rfl⟩
  exact⟨x,sl,e,rfl,rfl,rfl,by simp,fun h=>h.elim id fun h=>absurd rfl h⟩
 |p::post,pre,x,sl,e,pos,hc,hl=>by
  have h:=Seg.run (K:=K) (chrS K W z x (za sl) e pre.length (zi (pre++p::post)) e2 p pos) (tl:=[]) rfl rfl chr_exts _ [0,1,2,3] (chr_r K W z x (za sl) e pre.length (zi (pre++p::post)) e2 p pos) (by decide) rfl (by decide) (fun _ _ _=>zc (zk (by rw[zm];simp at hl;omega)) (zc rfl (zc (by rw[decide_eq_true (hc p (.head _))]) (zc (by simp[zi]) zl)))) (fun _ _ _=>rfl)
  have h:=Seg.eqT (List.append_nil _) h
  refine Seg.trans h ?_
  rintro s ⟨α,τ,γ,_,rfl⟩
  have e0:pre++p::post=(pre++[p])++post:=by simp
  have el:pre.length+1=(pre++[p]).length:=by simp
  have ih:=chr_loop (K:=K) (W:=W) (z:=z) (e2:=e2) post (pre++[p]) (cmX x (.int (.ofNat p.1) p.2) ((τ 1).tok 0)) (sl++[((⟨#[p.1]⟩:Str),(τ 2).tok 0)]) ((τ 3).tok 0) ⟨216,30,216,39⟩ (fun q hq=>hc q (.tail _ hq)) (by simp at hl ⊢;omega)
  refine Seg.again rfl (Seg.perm (a:=⟨_,_,_,[],_⟩) (List.Perm.of_eq ?_) (ih.mono ?_))
  ·show _++[]=_
   rw[List.append_nil,zA,←e0,←el]
  ·rintro s ⟨x',sl',e',h1,h2,h3,h4,h5⟩
   exact⟨x',sl',e',h1,h2,by rw[h3,←e0],by rw[h4];simp,fun _=>h5 (.inl (by cases x<;>rfl))⟩
def lwβ(acc dct:Addr)(i:Nat):Addr:=match i with
 |1=>acc
 |2=>dct
 |n=>7000+n
def lwCv(a0:Addr):LvQ:=⟨6000,a0,6002,0,0,⟨0,6003,6004,6005,6006⟩,(.none,0),[],0,[],0⟩
def lwK4(K:Wd)(b:Bag)(a0 acc dct:Addr)(t:Tok):Result→Sem Fin:=kOf (lwR3 K b (lwCv a0) uB (lwβ acc dct) (fun _=>.of t) id)
structure LxQ where
 z:CmA
 t:Tok
 x:Value × Tok
 sl:List (Str × Tok)
 S:Str
 e:Nat
 cl:List (Nat × Tok)
 e2:Nat
 v:LvQ
 τ:Nat→Ch
def LxQ.fr(q:LxQ)(P:Params):Obj:=q.v.fr P q.τ
def tpLw4:List Nat:=[7,7,3,1,0,5,1,1,714]
section
variable (K:Wd) (b:Bag) (q:LxQ) (p0:Pos) (α:Nat→Addr) (τ:Nat→Ch) (γ:Nat→Nat)
theorem lw_k3{v:LvQ}:kOf (lwR3 K b v p0 α τ γ)=lwK4 K b v.a0 (α 1) (α 2) ((τ 11).tok 0):=by
 obtain⟨w',b1,b2,V0,hw⟩:=K
 cases b1<;>kernel_rfl
def lwS4:Start:=⟨cfg K.P K.V (WK ([3],b)) 4 [],[um q.sl q.S],[(q.z.dct,cmD K.P yy (some q.x)),(q.z.acc,zd (za q.sl) q.e),(q.z.src,zd (zi q.cl) q.e2),(q.z.a0,q.fr K.P)],[],lwK4 K b q.z.a0 q.z.acc q.z.dct q.t (.ok .next),wx K b q.z.a0,p0,[]⟩
def lwR4:Option Out:=(lwS4 K b q p0).run α τ γ 14 tpLw4
def lwLa(q:LxQ)(t:Tok):LaQ:=⟨q.S,t,q.v.rm,(q.τ 9).tok 0,q.v.wd,(q.τ 4).tok 0,284,zn 124 19 none⟩
theorem lw_r4:lhs 4 [2,3] (lwR4 K b q p0 α τ γ)=rhs 0 ⟨.call (laC (lwLa q ((τ 0).tok 0))) none false (lOf (lwR4 K b q p0 α τ γ)) (kOf (lwR4 K b q p0 α τ γ)),wx K b q.z.a0,⟨216,11,216,73⟩,[],
  [(q.z.src,zd (zi q.cl) q.e2),(q.z.a0,q.fr K.P)],[],[(.a (za q.sl),.a (za q.sl)),(.s (Txt.join ⟨#[]⟩ (q.sl.map (·.1))),.s q.S),(.b (decide (((q.sl.map (·.1)).map Str.length).sum+q.sl.length*Str.length ⟨#[]⟩≤1000)),.b true)]⟩ (lwR4 K b q p0 α τ γ):=by
 obtain⟨w',b1,b2,V0,hw⟩:=K
 cases b1<;>kernel_rfl
end
def lwCx(a0:Addr):LxQ:=⟨⟨a0,6001,6002,6003,6004⟩,0,(.none,0),[],⟨#[]⟩,0,[],0,lwCv a0,fun _=>.of 0⟩
def lwK5(K:Wd)(b:Bag)(a0:Addr):Result→Sem Fin:=kOf (lwR4 K b (lwCx a0) uB cα cτ id)
structure LyQ where
 a:Addr
 rl:List (Str × Tok)
 e3:Nat
 cl:List (Nat × Tok)
 e2:Nat
 v:LvQ
 τ:Nat→Ch
section
variable (K:Wd) (b:Bag) (q:LyQ) (p0:Pos) (α:Nat→Addr) (τ:Nat→Ch) (γ:Nat→Nat)
theorem lw_k4{x:LxQ}:kOf (lwR4 K b x p0 α τ γ)=lwK5 K b x.z.a0:=by
 obtain⟨w',b1,b2,V0,hw⟩:=K
 cases b1<;>kernel_rfl
def lwS5:Start:=⟨cfg K.P K.V (WK ([3],b)) 3 [],[],[(q.a,zd (za q.rl) q.e3),(q.v.z.acc,zd (zi q.cl) q.e2),(q.v.a0,q.v.fr K.P q.τ)],[],lwK5 K b q.v.a0 (.ok (.ret (.ref q.a))),wx K b q.v.a0,p0,[]⟩
def lwR5:Option Out:=(lwS5 K b q p0).run α τ γ 11 [6,1,1,1,700]
def lwPg(q:LyQ):PgQ:=⟨q.v.z.acc,q.cl,q.e2,q.v.rm,(q.τ 9).tok 0,q.v.wd,(q.τ 4).tok 0⟩
theorem lw_r5:lhs 3 [0,1] (lwR5 K b q p0 α τ γ)=rhs 0 ⟨.call (pgC (lwPg q)) none false (lOf (lwR5 K b q p0 α τ γ)) (kOf (lwR5 K b q p0 α τ γ)),wx K b q.v.a0,⟨216,77,216,106⟩,[],
  [(q.a,zd (za q.rl) q.e3),(q.v.z.acc,zd (zi q.cl) q.e2)],[],[]⟩ (lwR5 K b q p0 α τ γ):=by
 obtain⟨w',b1,b2,V0,hw⟩:=K
 cases b1<;>kernel_rfl
def lwCy(a0 a:Addr):LyQ:=⟨a,[],0,[],0,lwCv a0,fun _=>.of 0⟩
def lwK6(a0 a:Addr):Result→Sem Fin:=kOf (lwR5 K b (lwCy a0 a) uB cα cτ id)
theorem lw_k5:kOf (lwR5 K b q p0 α τ γ)=lwK6 K b q.v.a0 q.a:=by
 obtain⟨w',b1,b2,V0,hw⟩:=K
 cases b1<;>kernel_rfl
end
section
variable (K:Wd) (b:Bag) (a0 a a2:Addr) (rl rl2:List (Str × Tok)) (e3 e4:Nat) (p0:Pos) (α:Nat→Addr) (τ:Nat→Ch) (γ:Nat→Nat)
def lwS6:Start:=⟨cfg K.P K.V (WK ([3],b)) 2 [],[xLCmp false],[(a2,zd (za rl2) e4),(a,zd (za rl) e3)],[],lwK6 K b a0 a (.ok (.ret (.ref a2))),wx K b a0,p0,[]⟩
def lwR6(d:Nat):Option Out:=(lwS6 K b a0 a a2 rl rl2 e3 e4 p0).run α τ γ 9 [1,3,1,1,d,1,3]
theorem lw_r6(d:Nat):lhs 2 [0] (lwR6 K b a0 a a2 rl rl2 e3 e4 p0 α τ γ d)=rhs 0 ⟨.pure (.done (.ret (.bool (tfB d)))),wx K b a0,⟨216,11,216,106⟩,[],[(a2,zd (za rl2) e4)],[],
  [(.b (leq (za rl).toList (za rl2).toList),.b (false != tfB d)),(.b ((za rl).size != (za rl2).size || xf (za rl).toList (za rl2).toList),.b true)]⟩ (lwR6 K b a0 a a2 rl rl2 e3 e4 p0 α τ γ d):=by
 obtain⟨w',b1,b2,V0,hw⟩:=K
 cases b1<;>kernel_rfl
end
section
variable (K:Wd) (b:Bag) (p0:Pos) (fA:Nat→Addr) (fT:Nat→Ch) (g0:Nat→Nat) (q:LwQ) (x:Option (Value × Tok)) (vs:Array Value) (e:Nat) (α:Nat→Addr) (τ:Nat→Ch) (γ:Nat→Nat)
theorem lw_Wc(a0:Addr)(pos:Pos):shk [[0,3]] ((wx K b a0,pos)::(([]:List Frame).map Frame.where_++WK ([3],b)))=some ([0,3],yj ((wx K b a0,pos)::(([]:List Frame).map Frame.where_++WK ([3],b)))):=by
 obtain⟨w',b1,b2,V0,hw⟩:=K
 cases b1<;>kernel_rfl
end
theorem take12(l:List (Int × Tok)):slicePick (zy l) none (some 12) none=zy (l.take 12):=by
 rw[show (12:Int)=((12:Nat):Int) from rfl,slicePick_upto'];simp[zy]
def numsOf(l:List (Int × Tok)):List Int:=(l.take 12).map fun p=>p.1.fmod 1000000
def fixN:List Int:=[4,5,44,163,2,9,1,2,203,12]
theorem perm13{α:Type}{a b c:α}{R:List α}:(a::b::c::R).Perm (c::b::a::R):=((List.Perm.swap b a _).trans ((List.Perm.swap c a _).cons b)).trans (List.Perm.swap c b _)
theorem num_seg{K:Wd}{W:List (Code × Pos)}{z:CmA}{e2:Nat}{l:List (Int × Tok)}{R:zh}{pos:Pos}(hl:l.length≤900)(hR:∀p∈R,p.2.isFreed=false) :
  Seg K W ⟨zx (v0 z),v0 z,pos,[],[(z.it,lIt z.src 0),(z.acc,zd #[] 0),(z.dct,dictO [] 0),(z.src,zd (zy l) e2)]++R⟩
   (fun s=>∃x' ns' e',s.cur=.pure (.done .next)∧s.fs=[]∧s.T=[(z.dct,cmD K.P sX x'),(z.acc,zd (zy ns') e')]++R∧ns'.map (·.1)=l.map (fun p=>p.1.fmod 1000000)∧(x'=none↔l=[])):=by
 have hlive:∀x∈[(z.acc,zd #[] 0),(z.dct,dictO [] 0),(z.src,zd (zy l) e2)]++R,x.2.isFreed=false:=fun x hx=>by
  rcases List.mem_append.mp hx with hx|hx
  ·simp only[List.mem_cons,List.not_mem_nil,or_false] at hx
   rcases hx with rfl|rfl|rfl<;>rfl
  ·exact hR x hx
 refine(yS (K:=K) (W:=W) (num_rS K W z pos) hlive).trans ?_
 rintro s ⟨p',rfl⟩
 have h2:=Seg.frame R hR (num_loop (K:=K) (W:=W) (z:=z) (e2:=e2) l [] none [] 0 p' (by simp;omega))
 refine Seg.again rfl (Seg.perm (a:=⟨_,_,_,[],_⟩) ?_ (h2.mono ?_))
 ·show List.Perm ((z.it,lIt z.src 0)::(z.acc,zd #[] 0)::(z.dct,dictO [] 0)::(z.src,zd (zy l) e2)::R) ((z.dct,dictO [] 0)::(z.acc,zd #[] 0)::(z.it,lIt z.src 0)::(z.src,zd (zy l) e2)::R)
  exact perm13
 ·rintro s ⟨s',⟨x',ns',e',h1,h2,h3,h4,h5⟩,rfl⟩
  exact⟨x',ns',e',h1,h2,by rw[h3],by simpa using h4,by simpa using h5⟩
theorem cod_seg{K:Wd}{b:Bag}{z:CmA}{e2:Nat}{l:List (Int × Tok)}{R:zh}{pos:Pos}(hl:l.length≤900)(h0:l≠[])(hc:∀p∈l,0≤zE p.1)(hR:∀p∈R,p.2.isFreed=false) :
  Seg K (WK ([0,3],b)) ⟨zx (w1 z),w1 z,pos,[],[(z.it,lIt z.src 0),(z.acc,zd #[] 0),(z.dct,dictO [] 0),(z.src,zd (zy l) e2)]++R⟩
   (fun s=>∃x' cl' e',s.cur=.pure (.done .next)∧s.fs=[]∧s.T=[(z.dct,cmD K.P x8 (some x')),(z.acc,zd (zi cl') e'),(z.src,zd (zy l) e2)]++R∧cl'.map (·.1)=l.map (fun p=>(zE p.1).toNat)):=by
 have hlive:∀x∈[(z.acc,zd #[] 0),(z.dct,dictO [] 0),(z.src,zd (zy l) e2)]++R,x.2.isFreed=false:=fun x hx=>by
  rcases List.mem_append.mp hx with hx|hx
  ·simp only[List.mem_cons,List.not_mem_nil,or_false] at hx
   rcases hx with rfl|rfl|rfl<;>rfl
  ·exact hR x hx
 refine(yS (K:=K) (W:=WK ([0,3],b)) (cod_rS K (WK ([0,3],b)) z pos) hlive).trans ?_
 rintro s ⟨p',rfl⟩
 have h2:=Seg.frame R hR (cod_loop (K:=K) (b:=b) (z:=z) (e2:=e2) l [] none [] 0 p' hc (by simp;omega))
 refine Seg.again rfl (Seg.perm (a:=⟨_,_,_,[],_⟩) ?_ (h2.mono ?_))
 ·show List.Perm ((z.it,lIt z.src 0)::(z.acc,zd #[] 0)::(z.dct,dictO [] 0)::(z.src,zd (zy l) e2)::R) ((z.dct,dictO [] 0)::(z.acc,zd #[] 0)::(z.it,lIt z.src 0)::(z.src,zd (zy l) e2)::R)
  exact perm13
 ·rintro s ⟨s',⟨x',cl',e',h1,h2,h3,h4,h5⟩,rfl⟩
  obtain⟨xv,rfl⟩:=Option.isSome_iff_exists.mp (h5 (.inr h0))
  exact⟨xv,cl',e',h1,h2,by rw[h3];rfl,by simpa using h4⟩
theorem chr_seg{K:Wd}{W:List (Code × Pos)}{z:CmA}{e2:Nat}{l:List (Nat × Tok)}{R:zh}{pos:Pos}(hl:l.length≤900)(h0:l≠[])(hc:∀p∈l,p.1≤1114111)(hR:∀p∈R,p.2.isFreed=false) :
  Seg K W ⟨zx (uh z),uh z,pos,[],[(z.it,lIt z.src 0),(z.acc,zd #[] 0),(z.dct,dictO [] 0),(z.src,zd (zi l) e2)]++R⟩
   (fun s=>∃x' sl' e',s.cur=.pure (.done .next)∧s.fs=[]∧s.T=[(z.dct,cmD K.P yy (some x')),(z.acc,zd (za sl') e'),(z.src,zd (zi l) e2)]++R∧sl'.map (·.1)=l.map (fun p=>(⟨#[p.1]⟩:Str))):=by
 have hlive:∀x∈[(z.acc,zd #[] 0),(z.dct,dictO [] 0),(z.src,zd (zi l) e2)]++R,x.2.isFreed=false:=fun x hx=>by
  rcases List.mem_append.mp hx with hx|hx
  ·simp only[List.mem_cons,List.not_mem_nil,or_false] at hx
   rcases hx with rfl|rfl|rfl<;>rfl
  ·exact hR x hx
 refine(yS (K:=K) (W:=W) (chr_rS K W z pos) hlive).trans ?_
 rintro s ⟨p',rfl⟩
 have h2:=Seg.frame R hR (chr_loop (K:=K) (W:=W) (z:=z) (e2:=e2) l [] none [] 0 p' hc (by simp;omega))
 refine Seg.again rfl (Seg.perm (a:=⟨_,_,_,[],_⟩) ?_ (h2.mono ?_))
 ·show List.Perm ((z.it,lIt z.src 0)::(z.acc,zd #[] 0)::(z.dct,dictO [] 0)::(z.src,zd (zi l) e2)::R) ((z.dct,dictO [] 0)::(z.acc,zd #[] 0)::(z.it,lIt z.src 0)::(z.src,zd (zi l) e2)::R)
  exact perm13
 ·rintro s ⟨s',⟨x',cl',e',h1,h2,h3,h4,h5⟩,rfl⟩
  obtain⟨xv,rfl⟩:=Option.isSome_iff_exists.mp (h5 (.inr h0))
  exact⟨xv,cl',e',h1,h2,by rw[h3];rfl,by simpa using h4⟩
theorem leq_rows:∀(a b:List (Str × Tok)),leq (za a).toList (za b).toList=decide (a.map (·.1)=b.map (·.1))
 |[],[]=>rfl
 |[],_::_=>by simp[za,leq]
 | _::_,[]=>by simp[za,leq]
 |p::a,q::b=>by
  have ih:=leq_rows a b
  show (p.1==q.1 && leq (za a).toList (za b).toList)=_
  rw[ih]
  by_cases h:p.1=q.1<;>simp[h]
theorem leqOk_rows:∀(a b:List (Str × Tok)),a.length=b.length→xf (za a).toList (za b).toList=true
 |[],[],_=>rfl
 |[],_::_,h=>by cases h
 | _::_,[],h=>by cases h
 |p::a,q::b,h=>leqOk_rows a b (Nat.succ.inj h)
theorem leqPc(a b:List (Str × Tok))(d:Nat)(h:tfB d=decide (a.map (·.1)=b.map (·.1))):Lg.Ok [(.b (leq (za a).toList (za b).toList),.b (false != tfB d)),(.b ((za a).size != (za b).size || xf (za a).toList (za b).toList),.b true)]:=by
 refine zc (by rw[leq_rows,h,Bool.false_bne]) (zc ?_ zl)
 rw[zm,zm]
 by_cases hl:a.length=b.length
 ·rw[leqOk_rows a b hl,Bool.or_true]
 ·simp[hl]
def xc(script:List (Int × Tok)):List Int:=numsOf script++fixN
def yb(script:List (Int × Tok)):List Nat:=(xc script).map fun n=>(zE n).toNat
def lwTotal(script:List (Int × Tok)):Int:=(xc script).sum
def lwWd(script:List (Int × Tok)):Int:=(lwTotal script).fmod 9
def lwRm(script:List (Int × Tok)):Int:=((lwTotal script).fdiv 9).fmod 4
theorem sumV_zArr:∀l:List (Int × Tok),ww (zy l).toList=(l.map (·.1)).sum
 |[]=>rfl
 |p::r=>by
  have ih:=sumV_zArr r
  show p.1+ww (zy r).toList=_
  rw[ih];simp
theorem allI_zArr:∀l:List (Int × Tok),allI (zy l).toList=true
 |[]=>rfl
 |p::r=>allI_zArr r
theorem join_one:∀(l:List (Str × Tok)) (cl:List (Nat × Tok)),l.map (·.1)=cl.map (fun p=>(⟨#[p.1]⟩:Str))→Txt.join ⟨#[]⟩ (l.map (·.1))=⟨(cl.map (·.1)).toArray⟩:=fun l cl h=>by
 have e:=uI (l.map (·.1))
 have e2:(l.map (·.1)).flatMap (·.cps.toList)=cl.map (·.1):=by
  rw[h]
  clear e h
  induction cl with
  |nil=>rfl
  |cons p r ih=>simp only[List.map_cons,List.flatMap_cons,ih];rfl
 rw[e2] at e
 generalize Txt.join ⟨#[]⟩ (l.map (·.1))=x at e ⊢
 obtain⟨x⟩:=x
 dsimp only at e
 rw[←e]
structure LawOk (K:Wd) (S:Nat→Int→Bool) (tab:Int→Option Str) (script:List (Int × Tok)):Prop where
 len:script.length≤900
 nn:∀n∈xc script,0≤zE n
 hi:∀c∈yb script,c≤1114111
 ok:∀c∈yb script,SignQ S tab c
 wide:((yb script).all (· < 128))=false
def lawAns(S:Nat→Int→Bool)(tab:Int→Option Str)(script:List (Int × Tok)):Bool:=decide (y6 S tab (yb script) (lwRm script) (lwWd script)=pageP (lwWd script) (lwRm script) ((yb script).map zp))
def LawEnd(S:Nat→Int→Bool)(tab:Int→Option Str)(script:List (Int × Tok))(l:Addr)(e:Nat)(s:St):Prop:=
 s.cur=.pure (.done (.ret (.bool (lawAns S tab script))))∧s.fs=[]∧∃a rows e2 m1 m2,s.T=(a,zd rows e2)::[(284,zn 124 19 m1),(291,zn 127 32 m2),(l,zd (zy script) e)]
theorem ones:∀cl:List (Nat × Tok),((cl.map fun p=>(⟨#[p.1]⟩:Str)).map Str.length).sum=cl.length
 |[]=>rfl
 |p::r=>by
  have ih:=ones r
  rw[List.map_cons,List.map_cons,List.sum_cons,ih,List.length_cons]
  show 1+r.length=_
  omega
theorem swap23{α:Type}{a b c d e:α}:List.Perm [a,b,c,d,e] [c,d,a,b,e]:=by
 have h:List.Perm ([a,b]++[c,d]) ([c,d]++[a,b]):=List.perm_append_comm
 exact h.append_right [e]
section
variable {K:Wd} {b:Bag} {S:Nat→Int→Bool} {fd:Int→Option Value} {tab:Int→Option Str} (T:TopOk K S fd tab) {script:List (Int × Tok)} (O:LawOk K S tab script) {l:Addr} {e:Nat}
include T O
theorem law_c{v:LvQ}{e1:Nat}{p0:Pos}(hl:v.l=l)(hns:v.ns.map (·.1)=xc script)(hcl:v.cl.map (·.1)=yb script) :
  Seg K (WK ([3],b)) ⟨lwK K b v.a0 v.z.acc v.z.dct (.ok .next),wx K b v.a0,p0,[],(lwS3 K b v p0).T++[(284,zn 124 19 none),(291,zn 127 32 none),(l,zd (zy script) e)]⟩ (LawEnd S tab script l e):=by
 let R0:zh:=[(284,zn 124 19 none),(291,zn 127 32 none),(l,zd (zy script) e)]
 have hR0:∀p∈R0,p.2.isFreed=false:=fun p hp=>by
  simp only[R0,List.mem_cons,List.not_mem_nil,or_false] at hp
  rcases hp with rfl|rfl|rfl<;>rfl
 have htot:v.total=lwTotal script:=by unfold LvQ.total;rw[sumV_zArr,hns];rfl
 have hwd:v.wd=lwWd script:=by unfold LvQ.wd;rw[htot];rfl
 have hrm:v.rm=lwRm script:=by unfold LvQ.rm;rw[htot];rfl
 have hclen:v.cl.length≤22:=by
  have:=congrArg List.length hcl
  rw[List.length_map] at this
  rw[this]
  simp[yb,xc,numsOf,fixN]
  omega
 have hcl0:v.cl≠[]:=fun h=>by
  rw[h] at hcl
  have:=congrArg List.length hcl
  simp[yb,xc,numsOf,fixN] at this
 have h3:=Seg.frame R0 hR0 (Seg.eqT (List.append_nil _) (Seg.run (K:=K) (lwS3 K b v p0) (tl:=[]) rfl rfl (fun F U=>two_ext (xSumL_ok U) zJ) _ [0,1,2,4,6] (lw_r3 K b v p0) (by decide) rfl (by decide) (fun _ _ _=>zc (by rw[allI_zArr]) zl) (fun _ _ _=>rfl)))
 refine h3.trans ?_
 rintro s ⟨s',⟨α,τ,γ,_,rfl⟩,rfl⟩
 rw[lw_k3]
 let z:=chZ v α
 have hcs:=chr_seg (K:=K) (W:=(wx K b v.a0,(⟨216,52,216,57⟩:Pos))::(([]:List Frame).map Frame.where_++WK ([3],b))) (z:=z) (e2:=v.e) (l:=v.cl) (R:=(v.a0,v.fr K.P τ)::R0) (pos:=⟨216,52,216,57⟩) (by omega) hcl0 (fun p hp=>O.hi _ (by rw[←hcl];exact List.mem_map_of_mem hp)) (fun p hp=>by
  rcases List.mem_cons.mp hp with rfl|hp
  ·rfl
  ·exact hR0 p hp)
 refine Seg.call rfl (Seg.perm (a:=⟨_,_,_,[],_⟩) ?_ hcs) ?_
 ·show List.Perm ((α 2,dictO [] 0)::(α 1,zd #[] 0)::(α 0,lIt v.z.acc 0)::(v.z.acc,zd (zi v.cl) v.e)::(v.a0,v.fr K.P τ)::([]++R0)) ((α 0,lIt v.z.acc 0)::(α 1,zd #[] 0)::(α 2,dictO [] 0)::(v.z.acc,zd (zi v.cl) v.e)::(v.a0,v.fr K.P τ)::R0)
  exact perm13
 rintro s ⟨x',sl,e',c1,c2,c3,c4⟩
 refine⟨c2,.ok .next,c1,?_⟩
 rw[c3]
 have hsl:sl.length=v.cl.length:=by simpa using congrArg List.length c4
 have hS:=join_one sl v.cl c4
 let x:LxQ:=⟨z,(τ 11).tok 0,x',sl,Txt.join ⟨#[]⟩ (sl.map (·.1)),e',v.cl,v.e,v,τ⟩
 have h4:=Seg.frame R0 hR0 (Seg.eqT (List.append_nil _) (Seg.run (K:=K) (lwS4 K b x ⟨216,52,216,57⟩) (tl:=[]) rfl rfl (fun F U=>xi (.leaf U w4)) _ [2,3] (lw_r4 K b x ⟨216,52,216,57⟩) (by decide) rfl (by decide) (fun _ _ _=>zc rfl (zc rfl (zc (by
  have e0:Str.length ⟨#[]⟩=0:=rfl
  show LV.b (decide (((sl.map (·.1)).map Str.length).sum+sl.length*Str.length ⟨#[]⟩≤1000))=_
  rw[c4,ones,e0,decide_eq_true (by omega)]) zl))) (fun _ _ _=>rfl)))
 refine Seg.trans (a:=⟨_,_,_,[],_⟩) h4 ?_
 rintro s ⟨s',⟨α4,τ4,γ4,_,rfl⟩,rfl⟩
 rw[lw_k4]
 have eW:=W_of (lw_Wc K b v.a0 ⟨216,11,216,73⟩)
 let q:=lwLa x ((τ4 0).tok 0)
 have htx:q.tx=⟨(v.cl.map (·.1)).toArray⟩:=hS
 have hrm0:=yd (v.total.fdiv 9) 4 (by decide)
 have hla:=laid_seg (K:=K) (b:=yj ((wx K b v.a0,(⟨216,11,216,73⟩:Pos))::(([]:List Frame).map Frame.where_++WK ([3],b)))) (q:=q) (pos:=⟨216,11,216,73⟩) (m1:=none) (m2:=none) T rfl rfl (by
  rw[htx,←O.wide,←hcl];simp) (by rw[htx];simpa using hclen) (fun c hc=>O.ok c (by rw[htx] at hc;rw[←hcl];exact hc)) hrm0.1 (by have:=hrm0.2;show v.rm≤3;unfold LvQ.rm;omega)
 let R4:zh:=[(v.z.acc,zd (zi v.cl) v.e),(v.a0,v.fr K.P τ),(l,zd (zy script) e)]
 have hR4:∀p∈R4,p.2.isFreed=false:=fun p hp=>by
  simp only[R4,List.mem_cons,List.not_mem_nil,or_false] at hp
  rcases hp with rfl|rfl|rfl<;>rfl
 have hla:=Seg.frame R4 hR4 hla
 rw[←eW] at hla
 refine Seg.call rfl (Seg.perm (a:=⟨_,_,_,[],_⟩) swap23 hla) ?_
 rintro s ⟨s',⟨a,tk,m1,m2,d1,d2,d3⟩,rfl⟩
 refine⟨d2,.ok (.ret (.ref a)),d1,?_⟩
 have hout:y6 S tab q.tx.cps.toList q.rm q.wd=y6 S tab (yb script) (lwRm script) (lwWd script):=by
  have e1:q.rm=lwRm script:=hrm
  have e2:q.wd=lwWd script:=hwd
  rw[htx,e1,e2,←hcl]
 rw[hout] at d3
 let y:LyQ:=⟨a,tokd tk (y6 S tab (yb script) (lwRm script) (lwWd script)) 0,0,v.cl,v.e,v,τ⟩
 let R5:zh:=[(284,zn 124 19 m1),(291,zn 127 32 m2),(l,zd (zy script) e)]
 have hR5:∀p∈R5,p.2.isFreed=false:=fun p hp=>by
  simp only[R5,List.mem_cons,List.not_mem_nil,or_false] at hp
  rcases hp with rfl|rfl|rfl<;>rfl
 have h5:=Seg.frame R5 hR5 (Seg.eqT (List.append_nil _) (Seg.run (K:=K) (lwS5 K b y ⟨216,11,216,73⟩) (tl:=[]) rfl rfl yq _ [0,1] (lw_r5 K b y ⟨216,11,216,73⟩) (by decide) rfl (by decide) (fun _ _ _=>zl) (fun _ _ _=>rfl)))
 have eT5:List.Perm (s'.T++R4) ((lwS5 K b y ⟨216,11,216,73⟩).T++R5):=by
  rw[d3]
  show List.Perm [(a,_),(284,_),(291,_),(v.z.acc,_),(v.a0,_),(l,_)] [(a,_),(v.z.acc,_),(v.a0,_),(284,_),(291,_),(l,_)]
  exact List.Perm.cons _ swap23
 refine Seg.perm (a:=⟨_,_,_,[],_⟩) eT5 (Seg.trans (a:=⟨_,_,_,[],_⟩) h5 ?_)
 rintro s ⟨s2,⟨α5,τ5,γ5,_,rfl⟩,rfl⟩
 rw[lw_k5]
 have eW2:=W_of (lw_Wc K b v.a0 ⟨216,77,216,106⟩)
 have hpg:=page_seg (K:=K) (b:=yj ((wx K b v.a0,(⟨216,77,216,106⟩:Pos))::(([]:List Frame).map Frame.where_++WK ([3],b)))) (q:=lwPg y) (pos:=⟨216,77,216,106⟩) (fun p hp=>O.hi _ (by rw[←hcl];exact List.mem_map_of_mem hp)) (by show v.cl.length≤40;omega) hcl0
 let R6:zh:=[(a,zd (za y.rl) 0),(284,zn 124 19 m1),(291,zn 127 32 m2),(l,zd (zy script) e)]
 have hR6:∀p∈R6,p.2.isFreed=false:=fun p hp=>by
  simp only[R6,List.mem_cons,List.not_mem_nil,or_false] at hp
  rcases hp with rfl|rfl|rfl|rfl<;>rfl
 have hpg:=Seg.frame R6 hR6 hpg
 rw[←eW2] at hpg
 refine Seg.call rfl (Seg.perm (a:=⟨_,_,_,[],_⟩) (List.Perm.swap _ _ _) hpg) ?_
 rintro s ⟨s3,⟨a2,rows,e4,f1,f2,f3,f4⟩,rfl⟩
 refine⟨f2,.ok (.ret (.ref a2)),f1,?_⟩
 rw[f3]
 have hpage:rows.map (·.1)=pageP (lwWd script) (lwRm script) ((yb script).map zp):=by
  rw[f4]
  show pageP v.wd v.rm (v.cl.map fun p=>zp p.1)=_
  rw[hwd,hrm,←hcl,List.map_map]
  rfl
 have hrl:y.rl.map (·.1)=y6 S tab (yb script) (lwRm script) (lwWd script):=tokd_fst _ _ _
 have hans:lawAns S tab script=decide (y.rl.map (·.1)=rows.map (·.1)):=by rw[hrl,hpage];rfl
 have hd:tfB (if y.rl.map (·.1)=rows.map (·.1) then 1 else 0)=decide (y.rl.map (·.1)=rows.map (·.1)):=by
  by_cases h:y.rl.map (·.1)=rows.map (·.1)
  ·rw[if_pos h,decide_eq_true h];rfl
  ·rw[if_neg h,decide_eq_false h];rfl
 have h6:=Seg.frame R5 hR5 (Seg.eqT (List.append_nil _) (Seg.run (K:=K) (lwS6 K b v.a0 a a2 y.rl rows 0 e4 ⟨216,77,216,106⟩) (tl:=[]) rfl rfl (fun F U=>xi (.leaf U wD)) _ [0] (fun α τ γ=>lw_r6 K b v.a0 a a2 y.rl rows 0 e4 ⟨216,77,216,106⟩ α τ γ (if y.rl.map (·.1)=rows.map (·.1) then 1 else 0)) (by decide) rfl (by decide) (fun _ _ _=>leqPc _ _ _ hd) (fun _ _ _=>rfl)))
 refine Seg.trans (a:=⟨_,_,_,[],_⟩) h6 ?_
 rintro s ⟨s4,⟨α6,τ6,γ6,_,rfl⟩,rfl⟩
 refine Seg.refl ⟨?_,rfl,a2,za rows,e4,m1,m2,rfl⟩
 rw[hans,←hd]
end
end Mine
end
noncomputable section
open PyProof.Rows PySem PySem.W
set_option maxRecDepth 100000
namespace Mine
def chOk(x:Nat):Prop:=x≠10∧isWs x=Unicode.isSpace x
def emS:Str:=⟨#[]⟩
structure PcOk (S:Str):Prop where
 ne:S.cps.toList≠[]
 hd:S.cps[0]?≠some 32
 ch:∀x∈S.cps.toList,chOk x
def TxP(p:Str × Str):Prop:=(p.1=spc∧p.2=emS)∨((p.1=spc∨p.1=emS)∧PcOk p.2)
def ctL(tx:List (Str × Str)):List Str:=tx.map fun p=>cat p.1 p.2
theorem yk{x y:Str}(h:x.cps.toList=y.cps.toList):x=y:=by
 obtain⟨x⟩:=x
 obtain⟨y⟩:=y
 exact congrArg Str.mk (Array.toList_inj.mp h)
theorem xb(x y:Str):(cat x y).cps.toList=x.cps.toList++y.cps.toList:=by simp[cat]
theorem cat_em(x:Str):cat x emS=x:=yk (by rw[xb];exact List.append_nil _)
theorem em_cat(x:Str):cat emS x=x:=yk (by rw[xb];rfl)
theorem txText_join(tx:List (Str × Str)):zV tx=Txt.join ⟨#[]⟩ (ctL tx):=rfl
theorem txp_blank{p:Str × Str}(h:TxP p):(cat p.1 p.2=spc↔(p.1=spc∧p.2=emS)):=by
 constructor
 ·intro e
  rcases h with h|⟨h1,h2⟩
  ·exact h
  ·exfalso
   have e2:(cat p.1 p.2).cps.toList=spc.cps.toList:=congrArg (fun s:Str=>s.cps.toList) e
   rw[xb] at e2
   rcases h1 with h1|h1
   ·rw[h1] at e2
    have:=congrArg List.length e2
    have hn:=h2.ne
    cases hq:p.2.cps.toList with
    |nil=>exact hn hq
    |cons a r=>rw[hq] at this;simp[spc] at this
   ·rw[h1] at e2
    have e3:p.2.cps.toList=[32]:=e2
    refine h2.hd ?_
    rw[←Array.getElem?_toList,e3];rfl
 ·rintro⟨h1,h2⟩
  rw[h1,h2];rfl
theorem txp_head{p:Str × Str}(h:TxP p):((cat p.1 p.2).cps[0]?==some 32)=(p.1==spc):=by
 rcases h with ⟨h1,h2⟩|⟨h1,h2⟩
 ·rw[h1,h2];decide
 ·rcases h1 with h1|h1
  ·rw[h1,beq_self_eq_true]
   have:(cat spc p.2).cps[0]?=some 32:=by rw[←Array.getElem?_toList,xb];rfl
   rw[this];rfl
  ·rw[h1,em_cat]
   have e1:(p.2.cps[0]?==some 32)=false:=by
    have:=h2.hd
    simpa using this
   have e2:(emS==spc)=false:=by decide
   rw[e1,e2]
theorem txp_ne{p:Str × Str}(h:TxP p):cat p.1 p.2≠emS:=by
 intro e
 have e2:(cat p.1 p.2).cps.toList=emS.cps.toList:=congrArg (fun s:Str=>s.cps.toList) e
 rw[xb] at e2
 have e3:=List.append_eq_nil_iff.mp e2
 rcases h with ⟨h1,h2⟩|⟨h1,h2⟩
 ·rw[h1] at e3;exact absurd e3.1 (by decide)
 ·exact h2.ne e3.2
theorem ctL_last(tx:List (Str × Str)):(ctL tx).getLast?=tx.getLast?.map fun p=>cat p.1 p.2:=by
 unfold ctL;rw[List.getLast?_map]
theorem ctL_dropLast(tx:List (Str × Str)):(ctL tx).dropLast=ctL tx.dropLast:=by
 unfold ctL;rw[List.map_dropLast]
theorem rowOf_tx{tx:List (Str × Str)}(h:∀p∈tx,TxP p):yQ (ctL tx)=zV (zT tx):=by
 unfold yQ zT
 rw[ctL_last,txText_join]
 cases hl:tx.getLast? with
 |none=>
  rw[List.getLast?_eq_none_iff] at hl
  subst hl
  rfl
 |some p=>
  have hp:=h p (List.mem_of_getLast? hl)
  have hb:=txp_blank hp
  by_cases hc:p.1=spc∧p.2=emS
  ·have e1:(Option.map (fun p:Str × Str=>cat p.1 p.2) (some p)==some ⟨#[32]⟩)=true:=by
    show (some (cat p.1 p.2)==some spc)=true
    rw[hb.mpr hc,beq_self_eq_true]
   have e2:(p.1==spc && p.2==⟨#[]⟩)=true:=by
    rw[hc.1,hc.2];decide
   rw[e1]
   dsimp only
   rw[if_pos e2,ctL_dropLast]
  ·have e1:(Option.map (fun p:Str × Str=>cat p.1 p.2) (some p)==some ⟨#[32]⟩)=false:=by
    show (some (cat p.1 p.2)==some spc)=false
    have hn:cat p.1 p.2≠spc:=fun e=>hc (hb.mp e)
    simpa using hn
   have e2:¬((p.1==spc && p.2==⟨#[]⟩)=true):=by
    intro e
    rw[Bool.and_eq_true] at e
    exact hc ⟨eq_of_beq e.1,eq_of_beq e.2⟩
   rw[e1]
   dsimp only
   rw[if_neg e2]
theorem ch32:chOk 32:=⟨by decide,by decide +kernel⟩
def okL(l:List Nat):Prop:=∀x∈l,chOk x
theorem txp_ok{p:Str × Str}(h:TxP p):okL (p.1.cps.toList++p.2.cps.toList):=by
 intro x hx
 have hs:∀x∈spc.cps.toList,chOk x:=fun x hx=>by
  have:x=32:=by simpa [spc] using hx
  subst this;exact ch32
 rcases List.mem_append.mp hx with hx|hx
 ·rcases h with ⟨h1,_⟩|⟨h1|h1,_⟩
  ·rw[h1] at hx;exact hs x hx
  ·rw[h1] at hx;exact hs x hx
  ·rw[h1] at hx;cases hx
 ·rcases h with ⟨_,h2⟩|⟨_,h2⟩
  ·rw[h2] at hx;cases hx
  ·exact h2.ch x hx
theorem norm1_sub{tx:List (Str × Str)}{p:Str × Str}(h:p∈zT tx):p∈tx∨p=(⟨#[]⟩,⟨#[]⟩):=by
 unfold zT at h
 cases hl:tx.getLast? with
 |none=>rw[hl] at h;exact .inr (by simpa using h)
 |some q=>
  rw[hl] at h
  dsimp only at h
  split at h
  ·exact .inl (List.dropLast_subset _ h)
  ·exact .inl h
theorem text_ok{tx:List (Str × Str)}(h:∀p∈tx,TxP p):okL (zV tx).cps.toList:=by
 rw[wH]
 intro x hx
 obtain⟨p,hp,hx⟩:=List.mem_flatMap.mp hx
 exact txp_ok (h p hp) x hx
theorem row_ok{tx:List (Str × Str)}(h:∀p∈tx,TxP p):okL (zV (zT tx)).cps.toList:=by
 rw[wH]
 intro x hx
 obtain⟨p,hp,hx⟩:=List.mem_flatMap.mp hx
 rcases norm1_sub hp with hp|rfl
 ·exact txp_ok (h p hp) x hx
 ·cases hx
theorem white_sp{T:Str}(h:okL T.cps.toList):T.cps.all Unicode.isSpace=xm T:=by
 rw[←Array.all_toList]
 unfold xm
 generalize T.cps.toList=l at h ⊢
 induction l with
 |nil=>rfl
 |cons a r ih=>
  have h1:=h a (.head _)
  have ih:=ih fun x hx=>h x (.tail _ hx)
  rw[List.all_cons,List.filter_cons,ih,←h1.2]
  cases isWs a<;>simp
theorem last_back{α:Type}{l:List α}{x:α}(h:l.getLast?=some x):l.dropLast++[x]=l:=by
 obtain⟨ys,rfl⟩:=List.getLast?_eq_some_iff.mp h
 simp
theorem nl_put{n:Int}{tx:List (Str × Str)}{rows:List Str}(h:∀p∈tx,TxP p)(h0:0≤n)(h1:0 < n→rows=[]):z0 n tx rows=yD rows n (yQ (ctL tx)):=by
 rw[rowOf_tx h]
 have hw:=white_sp (row_ok h)
 have hlen:=xn (zT tx)
 unfold z0 yD spB
 generalize zV (zT tx)=T at hw hlen ⊢
 rw[hw,←hlen]
 have hl:T.length=T.cps.toList.length:=by simp[Str.length]
 by_cases hT:T.cps.toList=[]
 ·have hl0:T.length=0:=by rw[hl,hT];rfl
  have hTe:T=emS:=yk hT
  have hws:xm T=true:=by rw[hTe];decide
  rw[hl0,hws,hT]
  by_cases hn:n=0
  ·subst hn
   simp only[Int.ofNat_zero,Int.add_zero,gt_iff_lt,Int.lt_irrefl,if_false]
   cases hg:rows.getLast? with
   |none=>simp
   |some l=>
    dsimp only
    rw[hTe,cat_em,last_back hg]
  ·have hp:0 < n:=by omega
   rw[h1 hp]
   have e1:n+((0:Nat):Int) > 0:=by omega
   have e2:(n==0)=false:=by simpa using hn
   rw[if_pos e1,e2]
   simp[hp]
 ·have hl1:0 < T.length:=by
   rw[hl]
   cases hc:T.cps.toList with
   |nil=>exact absurd hc hT
   |cons a r=>simp
  have e1:n+(T.length:Int) > 0:=by omega
  have e3:decide (T.length > 0)=true:=decide_eq_true hl1
  have e4:(T.cps.toList != [])=true:=by simpa using hT
  rw[if_pos e1,e3,e4,Bool.true_and,Bool.or_true]
  by_cases hn:n=0
  ·subst hn
   rw[beq_self_eq_true,Bool.true_and]
   cases hwt:xm T with
   |false=>
    rw[if_neg (by decide)]
    cases rows.getLast?<;>rfl
   |true=>
    rw[if_pos rfl]
    cases hg:rows.getLast? with
    |none=>
     rw[List.getLast?_eq_none_iff] at hg
     subst hg;rfl
    |some l=>rfl
  ·have hp:0 < n:=by omega
   rw[h1 hp]
   have e2:(n==0)=false:=by simpa using hn
   rw[e2,Bool.false_and,if_neg (by decide)]
   rfl
theorem bkFrom_app:∀(k:Nat) (a:List Str) (x:Str),z7 k (a++[x])=z7 k a++(match x.cps[0]?==some 32 with|true=>[k+a.length]|false=>[])
 |k,[],x=>by
  show z7 k [x]=_
  unfold z7
  cases x.cps[0]?==some 32<;>simp[z7]
 |k,p::r,x=>by
  rw[List.cons_append]
  unfold z7
  rw[bkFrom_app (k+1) r x,show k+1+r.length=k+(p::r).length by rw[List.length_cons];omega]
  cases p.cps[0]?==some 32<;>rfl
theorem ud{F G:Nat→Str}:∀(m:Nat),(∀i,i≤m→F i=G i)→z4 F m=z4 G m
 |0,_=>rfl
 |m+1,h=>by
  unfold z4
  rw[h (m+1) (Nat.le_refl _),ud m fun i hi=>h i (by omega)]
theorem bk_find(p0:Str × Str):∀(m:Nat) (q:List (Str × Str)),q.length=m→(∀p∈q,TxP p)→(z7 1 (ctL q)).getLast?=z4 (xh (p0::q)) m
 |0,q,hq,_=>by
  have:q=[]:=List.length_eq_zero_iff.mp hq
  subst this;rfl
 |m+1,q,hq,h=>by
  obtain⟨q',x,rfl⟩:∃q' x,q=q'++[x]:=by
   have hne:q≠[]:=fun e=>by rw[e] at hq;cases hq
   exact⟨q.dropLast,q.getLast hne,(List.dropLast_concat_getLast hne).symm⟩
  have hm:q'.length=m:=by simpa using hq
  have ih:=bk_find p0 m q' hm fun p hp=>h p (List.mem_append_left _ hp)
  have e1:ctL (q'++[x])=ctL q'++[cat x.1 x.2]:=by unfold ctL;simp
  have e2:xh (p0::(q'++[x])) (m+1)=x.1:=by
   unfold xh
   rw[List.getElem?_cons_succ,←hm,List.getElem?_append_right (Nat.le_refl _),Nat.sub_self];rfl
  have e3:z4 (xh (p0::(q'++[x]))) m=z4 (xh (p0::q')) m:=ud m fun i hi=>by
   unfold xh
   rw[show p0::(q'++[x])=(p0::q')++[x] from rfl,List.getElem?_append_left (by rw[List.length_cons];omega)]
  rw[e1,bkFrom_app,txp_head (h x (by simp))]
  unfold z4
  rw[e2,e3,←ih]
  have e4:(ctL q').length=m:=by unfold ctL;rw[List.length_map,hm]
  rw[e4,Nat.add_comm 1 m]
  cases hx:(x.1==spc) with
  |true=>simp
  |false=>simp
inductive Tell (S:Nat→Int→Bool) (tab:Int→Option Str) (c:Nat):Prop where
 |nl (h:c4P c=true) (t:zp c=⟨#[10]⟩)
 |bl (h:c4P c=false) (h2:wC c=true) (t:zp c=spc)
 |no (h:c4P c=false) (h2:wC c=false) (h3:S 29 c=true) (t:zp c=emS)
 |ch (h:c4P c=false) (h2:wC c=false) (h3:S 29 c=false) (t:zp c=cat (if vK S c then spc else emS) (b3P tab c)) (ok:PcOk (b3P tab c))
structure Inv (z:LnSt) (s:PS):Prop where
 room:s.room=z.n
 n0:0≤z.n
 line:s.line=ctL z.tx
 rows:s.rows=z.rows
 first:0 < z.n→z.rows=[]
 tx:∀p∈z.tx,TxP p
 free:∀r∈z.rows,10∉r.cps.toList
theorem lens_ct(tx:List (Str × Str)):((zo (ctL tx):Nat):Int)=zt tx:=by
 rw[←joinLen,←xn];rfl
theorem nl_free{n:Int}{tx:List (Str × Str)}{rows:List Str}(h:∀p∈tx,TxP p)(hr:∀r∈rows,10∉r.cps.toList):∀r∈z0 n tx rows,10∉r.cps.toList:=by
 have ht:10∉(zV (zT tx)).cps.toList:=fun hx=>(row_ok h 10 hx).1 rfl
 unfold z0
 split
 ·split
  ·cases hg:rows.getLast? with
   |none=>intro r hm;dsimp only at hm;rw[List.mem_singleton] at hm;subst hm;exact ht
   |some R=>
    intro r hm
    dsimp only at hm
    rcases List.mem_append.mp hm with hm|hm
    ·exact hr r (List.dropLast_subset _ hm)
    ·rw[List.mem_singleton] at hm
     subst hm
     rw[xb]
     intro hx
     rcases List.mem_append.mp hx with hx|hx
     ·exact hr R (List.mem_of_getLast? hg) hx
     ·exact ht hx
  ·intro r hm
   rcases List.mem_append.mp hm with hm|hm
   ·exact hr r hm
   ·rw[List.mem_singleton] at hm;subst hm;exact ht
 ·exact hr
theorem uJ{z:LnSt}{s:PS}(I:Inv z s):s.rows=z.rows∧yD s.rows s.room (yQ s.line)=z0 z.n z.tx z.rows:=by
 refine⟨I.rows,?_⟩
 rw[I.rows,I.room,I.line,nl_put I.tx I.n0 I.first]
theorem held_ct{F S:Str}(hF:F=spc∨F=emS)(hS:PcOk S):xg (cat F S)=cat spc S:=by
 have hh:=txp_head (p:=(F,S)) (.inr ⟨hF,hS⟩)
 unfold xg
 dsimp only at hh
 rw[hh]
 rcases hF with rfl|rfl
 ·rw[beq_self_eq_true]
 ·have e:(emS==spc)=false:=by decide
  rw[e,em_cat];rfl
theorem step_inv{S:Nat→Int→Bool}{tab:Int→Option Str}{wd:Int}{c:Nat}{z:LnSt}{s:PS}(h:Tell S tab c)(I:Inv z s):Inv (zq S tab wd z c) (zr wd s (zp c)):=by
 cases h with
 |nl h t=>
  unfold zq zr
  rw[if_pos h,t]
  obtain⟨h1,h2⟩:=uJ I
  show Inv _ (yY [] s)
  unfold yY
  rw[h2]
  exact⟨rfl,Int.le_refl _,rfl,rfl,fun h=>absurd h (Int.lt_irrefl 0),fun p hp=>(by cases hp),nl_free I.tx I.free⟩
 |bl h h2 t=>
  unfold zq zr
  rw[if_neg (by rw[h];decide),if_pos h2,t]
  show Inv _ { s with line:=s.line++[spc] }
  refine⟨I.room,I.n0,?_,I.rows,I.first,fun p hp=>?_,I.free⟩
  ·show s.line++[spc]=ctL (z.tx++[(spc,⟨#[]⟩)])
   rw[I.line];unfold ctL;rw[List.map_append];rfl
  ·rcases List.mem_append.mp hp with hp|hp
   ·exact I.tx p hp
   ·rw[List.mem_singleton] at hp;subst hp;exact .inl ⟨rfl,rfl⟩
 |no h h2 h3 t=>
  unfold zq zr
  rw[if_neg (by rw[h];decide),if_neg (by rw[h2];decide),if_pos h3,t]
  exact I
 |ch h h2 h3 t ok=>
  have hF:(if vK S c then spc else (⟨#[]⟩:Str))=spc∨(if vK S c then spc else (⟨#[]⟩:Str))=emS:=by
   cases vK S c
   ·exact .inr rfl
   ·exact .inl rfl
  unfold zq
  rw[if_neg (by rw[h];decide),if_neg (by rw[h2];decide),if_neg (by rw[h3];decide),t]
  show Inv (w2 wd z (if vK S c then spc else ⟨#[]⟩) (b3P tab c)) (zr wd s (cat (if vK S c then spc else ⟨#[]⟩) (b3P tab c)))
  generalize (if vK S c then spc else (⟨#[]⟩:Str))=F at hF ⊢
  generalize b3P tab c=X at ok ⊢
  have hp:TxP (F,X):=.inr ⟨hF,ok⟩
  have hX:X≠emS:=fun e=>ok.ne (by rw[e];rfl)
  have t1:((cat F X).cps.toList==[])=false:=by
   cases hq:(cat F X).cps.toList with
   |nil=>exact absurd (yk hq) (txp_ne hp)
   |cons a r=>rfl
  have t2:((cat F X).cps.toList != [10])=true:=by
   have:(cat F X).cps.toList≠[10]:=fun e=>(txp_ok hp 10 (by rw[←xb,e];exact .head _)).1 rfl
   simpa using this
  have t3:((cat F X).cps.toList==[32])=false:=by
   have:(cat F X).cps.toList≠[32]:=fun e=>hX ((txp_blank hp).mp (yk e)).2
   simpa using this
  have hall:∀p∈z.tx++[(F,X)],TxP p:=fun p hm=>by
   rcases List.mem_append.mp hm with hm|hm
   ·exact I.tx p hm
   ·rw[List.mem_singleton] at hm;subst hm;exact hp
  have hline:s.line++[cat F X]=ctL (z.tx++[(F,X)]):=by rw[I.line];unfold ctL;rw[List.map_append];rfl
  unfold zr w2
  rw[t1,t2,t3,Bool.false_or,I.room,hline,lens_ct]
  dsimp only
  by_cases hw:z.n+zt (z.tx++[(F,X)]) > wd
  ·have hd:decide (z.n+zt (z.tx++[(F,X)])≤wd)=false:=decide_eq_false (by omega)
   rw[if_pos hw,hd]
   dsimp only
   have hbk:(z7 1 (ctL (z.tx++[(F,X)])).tail).getLast?=z4 (xh (z.tx++[(F,X)])) z.tx.length:=by
    cases hz:z.tx with
    |nil=>rfl
    |cons p0 q=>
     have e1:(ctL (p0::q++[(F,X)])).tail=ctL (q++[(F,X)]):=rfl
     rw[e1]
     refine(bk_find p0 (q++[(F,X)]).length (q++[(F,X)]) rfl fun p hm=>hall p (by rw[hz];exact .tail _ hm)).trans ?_
     rw[List.length_append,List.length_singleton,List.length_cons];rfl
   rw[hbk]
   cases hfb:z4 (xh (z.tx++[(F,X)])) z.tx.length with
   |some j=>
    dsimp only
    have ht:ctL (z.tx++[(F,X)])=ctL ((z.tx++[(F,X)]).take j)++ctL ((z.tx++[(F,X)]).drop j):=by
     unfold ctL;rw[←List.map_append,List.take_append_drop]
    have hd1:(ctL (z.tx++[(F,X)])).drop j=ctL ((z.tx++[(F,X)]).drop j):=by unfold ctL;rw[List.map_drop]
    have ht1:(ctL (z.tx++[(F,X)])).take j=ctL ((z.tx++[(F,X)]).take j):=by unfold ctL;rw[List.map_take]
    refine⟨rfl,Int.le_refl _,hd1,?_,fun h=>absurd h (Int.lt_irrefl 0),fun p hm=>hall p (List.mem_of_mem_drop hm),fun r hm=>?_⟩
    ·show s.rows++[Txt.join ⟨#[]⟩ ((ctL (z.tx++[(F,X)])).take j)]=_
     rw[I.rows,ht1];rfl
    ·rcases List.mem_append.mp hm with hm|hm
     ·exact I.free r hm
     ·rw[List.mem_singleton] at hm
      subst hm
      exact fun hx=>(text_ok (fun p hp=>hall p (List.mem_of_mem_take hp)) 10 hx).1 rfl
   |none=>
    dsimp only
    by_cases hn:z.n=0
    ·have e1:(z.n==0)=true:=by rw[hn];rfl
     rw[e1,if_neg (by omega)]
     exact⟨rfl,I.n0,rfl,I.rows,I.first,hall,I.free⟩
    ·have e1:(z.n==0)=false:=by simpa using hn
     have hn0:=I.n0
     rw[e1,if_pos (by omega)]
     dsimp only
     obtain⟨h1,h2⟩:=uJ I
     unfold yY
     rw[h2,held_ct hF ok]
     refine⟨rfl,Int.le_refl _,rfl,rfl,fun h=>absurd h (Int.lt_irrefl 0),fun p hm=>?_,nl_free I.tx I.free⟩
     rw[List.mem_singleton] at hm
     subst hm
     exact .inr ⟨.inl rfl,ok⟩
  ·have hd:decide (z.n+zt (z.tx++[(F,X)])≤wd)=true:=decide_eq_true (by omega)
   rw[if_neg hw,hd]
   exact⟨rfl,I.n0,rfl,I.rows,I.first,hall,I.free⟩
theorem app10:∀{x y X Y:List Nat},10∉x→10∉y→x++10::X=y++10::Y→x=y∧X=Y
 |[],[],_,_,_,_,h=>⟨rfl,(List.cons.inj h).2⟩
 |[],b::y,_,_,_,h2,h=>absurd (List.cons.inj h).1 fun e=>h2 (e▸.head _)
 |a::x,[],_,_,h1,_,h=>absurd (List.cons.inj h).1 fun e=>h1 (e▸.head _)
 |a::x,b::y,_,_,h1,h2,h=>by
  obtain⟨e1,e2⟩:=List.cons.inj h
  obtain⟨e3,e4⟩:=app10 (fun q=>h1 (.tail _ q)) (fun q=>h2 (.tail _ q)) e2
  exact⟨by rw[e1,e3],e4⟩
theorem w9(x y:Str)(r:List Str):(Str.join sNL (x::y::r)).cps.toList=x.cps.toList++10::(Str.join sNL (y::r)).cps.toList:=by
 show (x++sNL++Str.join sNL (y::r)).cps.toList=_
 show ((x.cps++sNL.cps)++(Str.join sNL (y::r)).cps).toList=_
 simp[sNL]
theorem join_inj:∀(A B:List Str),A≠[]→B≠[]→(∀r∈A,10∉r.cps.toList)→(∀r∈B,10∉r.cps.toList)→(Str.join sNL A).cps.toList=(Str.join sNL B).cps.toList→A=B
 |[],_,h,_,_,_,_=>absurd rfl h
 | _::_,[],_,h,_,_,_=>absurd rfl h
 |[x],[y],_,_,_,_,e=>by rw[yk (x:=x) (y:=y) e]
 |[x],y::z::r,_,_,hA,_,e=>by
  rw[w9] at e
  have e:x.cps.toList=y.cps.toList++10::_:=e
  exact absurd (show 10∈x.cps.toList by rw[e];simp) (hA x (.head _))
 |x::z::r,[y],_,_,_,hB,e=>by
  rw[w9] at e
  have e:x.cps.toList++10::_=y.cps.toList:=e
  exact absurd (show 10∈y.cps.toList by rw[←e];simp) (hB y (.head _))
 |x::x'::r,y::y'::r',_,_,hA,hB,e=>by
  rw[w9,w9] at e
  obtain⟨e1,e2⟩:=app10 (hA x (.head _)) (hB y (.head _)) e
  rw[yk e1,join_inj (x'::r) (y'::r') (by simp) (by simp) (fun q hq=>hA q (.tail _ hq)) (fun q hq=>hB q (.tail _ hq)) e2]
theorem split_rows{A:List Str}(h0:A≠[])(h:∀r∈A,10∉r.cps.toList):Txt.split (Txt.join sNL A) sNL=A:=by
 have ej:Txt.join sNL A=Str.join sNL A:=StrLaws.glued_eq_join sNL A
 have hs:Str.join sNL (Txt.split (Txt.join sNL A) sNL)=Txt.join sNL A:=StrLaws.join_split _ _
 have hf:∀p∈Txt.split (Txt.join sNL A) sNL,10∉p.cps.toList:=StrLaws.split_free _ _
 have hn:Txt.split (Txt.join sNL A) sNL≠[]:=fun e=>by
  rw[e] at hs
  have e2:Txt.join sNL A=emS:=hs.symm
  rw[e2] at e
  exact absurd e (by decide)
 exact join_inj _ A hn h0 hf h (by rw[hs,ej])
theorem fold_inv{S:Nat→Int→Bool}{tab:Int→Option Str}{wd:Int}:∀(cs:List Nat) (z:LnSt) (s:PS),(∀c∈cs,Tell S tab c)→Inv z s→Inv (cs.foldl (zq S tab wd) z) ((cs.map zp).foldl (zr wd) s)
 |[],_,_,_,I=>I
 |c::cs,z,s,h,I=>by
  have I2:Inv (zq S tab wd z c) (zr wd s (zp c)):=step_inv (h c (.head _)) I
  rw[List.map_cons,List.foldl_cons,List.foldl_cons]
  exact fold_inv cs (zq S tab wd z c) (zr wd s (zp c)) (fun d hd=>h d (.tail _ hd)) I2
def Some'(z:LnSt):Prop:=z.rows≠[]∨∃p∈z.tx,p.2≠emS
theorem nl_ne{n:Int}{tx:List (Str × Str)}{rows:List Str}(h0:0≤n)(h:rows≠[]∨∃p∈tx,p.2≠emS):z0 n tx rows≠[]:=by
 unfold z0
 by_cases hc:n+zt (zT tx) > 0
 ·rw[if_pos hc]
  split
  ·cases rows.getLast?<;>simp
  ·simp
 ·rw[if_neg hc]
  rcases h with h|⟨p,hp,h2⟩
  ·exact h
  ·exfalso
   have hm:p∈zT tx:=by
    unfold zT
    cases hl:tx.getLast? with
    |none=>
     rw[List.getLast?_eq_none_iff] at hl
     subst hl;cases hp
    |some q=>
     dsimp only
     split
     ·rename_i hq
      have e:=last_back hl
      rw[←e] at hp
      rcases List.mem_append.mp hp with hp|hp
      ·exact hp
      ·rw[List.mem_singleton] at hp
       subst hp
       rw[Bool.and_eq_true] at hq
       exact absurd (eq_of_beq hq.2) h2
     ·exact hp
   have hlen:0 < p.2.length:=by
    rcases Nat.eq_zero_or_pos p.2.length with e|e
    ·exfalso
     refine h2 (yk ?_)
     have:p.2.cps.toList.length=0:=by simpa [Str.length] using e
     exact List.length_eq_zero_iff.mp this
    ·exact e
   obtain⟨a,b,hab⟩:=List.append_of_mem hm
   rw[hab,z9] at hc
   have e1:zt (p::b)=((p.1.length:Int)+p.2.length)+zt b:=by simp[zt]
   have:=zP a
   have:=zP b
   omega
theorem step_some{S:Nat→Int→Bool}{tab:Int→Option Str}{wd:Int}{c:Nat}{z:LnSt}{s:PS}(h:Tell S tab c)(I:Inv z s)(J:Some' z∨(c4P c=false∧wC c=false∧S 29 c=false)):Some' (zq S tab wd z c):=by
 cases h with
 |nl h t=>
  have J:Some' z:=J.elim id fun q=>by rw[h] at q;cases q.1
  unfold zq
  rw[if_pos h]
  exact .inl (nl_ne I.n0 J)
 |bl h h2 t=>
  have J:Some' z:=J.elim id fun q=>by rw[h2] at q;cases q.2.1
  unfold zq
  rw[if_neg (by rw[h];decide),if_pos h2]
  rcases J with J|⟨p,hp,J⟩
  ·exact .inl J
  ·exact .inr ⟨p,List.mem_append_left _ hp,J⟩
 |no h h2 h3 t=>
  have J:Some' z:=J.elim id fun q=>by rw[h3] at q;cases q.2.2
  unfold zq
  rw[if_neg (by rw[h];decide),if_neg (by rw[h2];decide),if_pos h3]
  exact J
 |ch h h2 h3 t ok=>
  unfold zq
  rw[if_neg (by rw[h];decide),if_neg (by rw[h2];decide),if_neg (by rw[h3];decide)]
  generalize (if vK S c then spc else (⟨#[]⟩:Str))=F
  generalize b3P tab c=X at ok ⊢
  have hX:X≠emS:=fun e=>ok.ne (by rw[e];rfl)
  unfold w2
  split
  ·split
   ·exact .inl (by simp)
   ·split
    ·exact .inr ⟨_,.head _,hX⟩
    ·exact .inr ⟨(F,X),by simp,hX⟩
  ·exact .inr ⟨(F,X),by simp,hX⟩
theorem fold_some{S:Nat→Int→Bool}{tab:Int→Option Str}{wd:Int}:∀(cs:List Nat) (z:LnSt) (s:PS),(∀c∈cs,Tell S tab c)→Inv z s→(Some' z∨∃c∈cs,c4P c=false∧wC c=false∧S 29 c=false)→Some' (cs.foldl (zq S tab wd) z)
 |[],_,_,_,_,J=>J.elim id fun⟨c,hc,_⟩=>(by cases hc)
 |c::cs,z,s,h,I,J=>by
  have I2:Inv (zq S tab wd z c) (zr wd s (zp c)):=step_inv (h c (.head _)) I
  rw[List.foldl_cons]
  refine fold_some cs (zq S tab wd z c) (zr wd s (zp c)) (fun d hd=>h d (.tail _ hd)) I2 ?_
  rcases J with J|⟨d,hd,J⟩
  ·exact .inl (step_some (h c (.head _)) I (.inl J))
  ·rcases List.mem_cons.mp hd with rfl|hd
   ·exact .inl (step_some (h d (.head _)) I (.inr J))
   ·exact .inr ⟨d,hd,J⟩
theorem plain_law{S:Nat→Int→Bool}{tab:Int→Option Str}{wd rm:Int}{cs:List Nat}(h:∀c∈cs,Tell S tab c)(hs:∃c∈cs,c4P c=false∧wC c=false∧S 29 c=false)(h0:0≤rm):y6 S tab cs rm wd=pageP wd rm (cs.map zp):=by
 have I0:Inv ⟨rm,[],[]⟩ ⟨[],[],rm⟩:=⟨rfl,h0,rfl,rfl,fun _=>rfl,fun p hp=>(by cases hp),fun r hr=>(by cases hr)⟩
 have I:=fold_inv (wd:=wd) cs _ _ h I0
 have J:=fold_some (wd:=wd) cs _ _ h I0 (.inr hs)
 have hl:wX S tab cs rm wd=z0 (cs.foldl (zq S tab wd) ⟨rm,[],[]⟩).n (cs.foldl (zq S tab wd) ⟨rm,[],[]⟩).tx (cs.foldl (zq S tab wd) ⟨rm,[],[]⟩).rows:=rfl
 have hp:pageP wd rm (cs.map zp)=z0 (cs.foldl (zq S tab wd) ⟨rm,[],[]⟩).n (cs.foldl (zq S tab wd) ⟨rm,[],[]⟩).tx (cs.foldl (zq S tab wd) ⟨rm,[],[]⟩).rows:=by
  unfold pageP
  rw[List.foldl_append]
  generalize (cs.map zp).foldl (zr wd) ⟨[],[],rm⟩=s at I ⊢
  obtain⟨h1,h2⟩:=uJ I
  rw[←h2]
  rfl
 rw[hp]
 unfold y6
 rw[hl]
 exact split_rows (nl_ne I.n0 J) (nl_free I.tx I.free)
end Mine
end
noncomputable section
open PyProof.Rows PySem PySem.W
set_option maxRecDepth 100000
set_option maxHeartbeats 0
namespace Mine
def seM(l:List (Int × Value))(k:Int):Bool:=l.any fun e=>Value.isInt k e.2
def hS(n:Nat)(k:Int):Bool:=seM (match n with
 |29=>seL29
 |101=>seL101
 |113=>seL113
 |137=>seL137
 | _=>seL155) k
def Zb(k:Int):Option Str:=(dL.find? fun p=>p.1==k).map (·.2)
def pcB(S:Str):Bool:=S.cps.toList != [] && S.cps[0]? != some 32 && S.cps.toList.all fun x=>x != 10 && (isWs x==Unicode.isSpace x)
def skB(S:Str):Bool:=match S.cps.toList with
 |[a]=>a != 32
 |[_,b]=>b != 32
 |[_,_,c]=>c != 32
 | _=>false
def zC(c:Nat):Bool:=match c4P c with
 |true=>(zp c).cps.toList==[10]
 |false=>match wC c with
  |true=>(zp c).cps.toList==[32]
  |false=>match hS 29 c with
   |true=>(zp c).cps.toList==[]
   |false=>(zp c).cps.toList==(match vK hS c with|true=>32::(b3P Zb c).cps.toList|false=>(b3P Zb c).cps.toList) && pcB (b3P Zb c) && skB (b3P Zb c)
def cdR:List (Nat × Nat):=[(97,26),(65,26),(64256,7),(32,1),(160,1),(8287,1),(64976,32),(31,3),(172,3),(831,4),(846,3),(6149,3),(6154,5),(8202,7),(8233,7),(8287,3),(8297,8),(12271,14),(64975,34),(65023,18),(65278,3),(65528,8),(917504,3),(917535,98)]++(List.range 17).map fun k=>(65533+65536*k,3)
def rgB(f:Nat→Bool)(a:Nat):Nat→Bool
 |0=>true
 |n+1=>match f a with
  |true=>rgB f (a+1) n
  |false=>false
theorem yN(f:Nat→Bool):∀(n a m:Nat),rgB f a n=true→rgB f (a+n) m=true→rgB f a (n+m)=true
 |0,a,m,_,h=>by rw[Nat.zero_add];exact h
 |n+1,a,m,h,k=>by
  rw[Nat.succ_add]
  unfold rgB at h ⊢
  cases e:f a with
  |false=>rw[e] at h;cases h
  |true=>
   rw[e] at h
   exact yN f n (a+1) m h (by rw[Nat.add_right_comm];exact k)
theorem tc0_0:rgB zC 97 17=true:=by kernel_rfl
theorem tc0_1:rgB zC 114 9=true:=by kernel_rfl
theorem td0:rgB zC 97 26=true:=(yN zC 17 97 9 tc0_0 tc0_1)
theorem tc1_0:rgB zC 65 17=true:=by kernel_rfl
theorem tc1_1:rgB zC 82 9=true:=by kernel_rfl
theorem td1:rgB zC 65 26=true:=(yN zC 17 65 9 tc1_0 tc1_1)
theorem tc2_0:rgB zC 64256 7=true:=by kernel_rfl
theorem tc3_0:rgB zC 32 1=true:=by kernel_rfl
theorem tc4_0:rgB zC 160 1=true:=by kernel_rfl
theorem tc5_0:rgB zC 8287 1=true:=by kernel_rfl
theorem tc6_0:rgB zC 64976 17=true:=by kernel_rfl
theorem tc6_1:rgB zC 64993 15=true:=by kernel_rfl
theorem td6:rgB zC 64976 32=true:=(yN zC 17 64976 15 tc6_0 tc6_1)
theorem tc7_0:rgB zC 31 3=true:=by kernel_rfl
theorem tc8_0:rgB zC 172 3=true:=by kernel_rfl
theorem tc9_0:rgB zC 831 4=true:=by kernel_rfl
theorem tc10_0:rgB zC 846 3=true:=by kernel_rfl
theorem tc11_0:rgB zC 6149 3=true:=by kernel_rfl
theorem tc12_0:rgB zC 6154 5=true:=by kernel_rfl
theorem tc13_0:rgB zC 8202 7=true:=by kernel_rfl
theorem tc14_0:rgB zC 8233 7=true:=by kernel_rfl
theorem tc15_0:rgB zC 8287 3=true:=by kernel_rfl
theorem tc16_0:rgB zC 8297 8=true:=by kernel_rfl
theorem tc17_0:rgB zC 12271 14=true:=by kernel_rfl
theorem tc18_0:rgB zC 64975 17=true:=by kernel_rfl
theorem tc18_1:rgB zC 64992 17=true:=by kernel_rfl
theorem td18:rgB zC 64975 34=true:=(yN zC 17 64975 17 tc18_0 tc18_1)
theorem tc19_0:rgB zC 65023 17=true:=by kernel_rfl
theorem tc19_1:rgB zC 65040 1=true:=by kernel_rfl
theorem td19:rgB zC 65023 18=true:=(yN zC 17 65023 1 tc19_0 tc19_1)
theorem tc20_0:rgB zC 65278 3=true:=by kernel_rfl
theorem tc21_0:rgB zC 65528 8=true:=by kernel_rfl
theorem tc22_0:rgB zC 917504 3=true:=by kernel_rfl
theorem tc23_0:rgB zC 917535 17=true:=by kernel_rfl
theorem tc23_1:rgB zC 917552 17=true:=by kernel_rfl
theorem tc23_2:rgB zC 917569 17=true:=by kernel_rfl
theorem tc23_3:rgB zC 917586 17=true:=by kernel_rfl
theorem tc23_4:rgB zC 917603 17=true:=by kernel_rfl
theorem tc23_5:rgB zC 917620 13=true:=by kernel_rfl
theorem td23:rgB zC 917535 98=true:=(yN zC 17 917535 81 tc23_0 (yN zC 17 917552 64 tc23_1 (yN zC 17 917569 47 tc23_2 (yN zC 17 917586 30 tc23_3 (yN zC 17 917603 13 tc23_4 tc23_5)))))
theorem tz0:(((List.range 9).map fun k=>(65533+65536*k,3)).all fun p=>rgB zC p.1 p.2)=true:=by kernel_rfl
theorem tz1:(((List.range 8).map fun k=>(65533+65536*(k+9),3)).all fun p=>rgB zC p.1 p.2)=true:=by kernel_rfl
theorem tz2:((List.range 17).map fun k=>(65533+65536*k,3))=((List.range 9).map fun k=>(65533+65536*k,3))++((List.range 8).map fun k=>(65533+65536*(k+9),3)):=by kernel_rfl
theorem t_all:(cdR.all fun p=>rgB zC p.1 p.2)=true:=by
 unfold cdR
 rw[tz2,List.all_append,List.all_append,tz0,tz1,Bool.and_true,Bool.and_true]
 simp only[List.all_cons,List.all_nil,Bool.and_true,td0,td1,tc2_0,tc3_0,tc4_0,tc5_0,td6,tc7_0,tc8_0,tc9_0,tc10_0,tc11_0,tc12_0,tc13_0,tc14_0,tc15_0,tc16_0,tc17_0,td18,td19,tc20_0,tc21_0,tc22_0,td23]
end Mine
end
noncomputable section
open PyProof.Rows PySem PySem.W
set_option maxRecDepth 100000
namespace Mine
theorem rgB_at{f:Nat→Bool}:∀{n a c:Nat},rgB f a n=true→a≤c→c < a+n→f c=true
 |0,a,c,_,h1,h2=>by omega
 |n+1,a,c,h,h1,h2=>by
  unfold rgB at h
  split at h
  ·rename_i hf
   rcases Nat.eq_or_lt_of_le h1 with e|e
   ·rw[←e];exact hf
   ·exact rgB_at h (by omega) (by omega)
  ·cases h
def InR(c:Nat):Prop:=∃p∈cdR,p.1≤c∧c < p.1+p.2
theorem tell_at{c:Nat}(h:InR c):zC c=true:=by
 obtain⟨p,hp,h1,h2⟩:=h
 have:=List.all_eq_true.mp t_all p hp
 exact rgB_at this h1 h2
theorem pcB_ok{S:Str}(h:pcB S=true):PcOk S:=by
 unfold pcB at h
 simp only[Bool.and_eq_true,bne_iff_ne,ne_eq,List.all_eq_true,beq_iff_eq] at h
 exact⟨h.1.1,h.1.2,fun x hx=>h.2 x hx⟩
theorem skB_ok{S:Str}(h:skB S=true):∃sk:SK,S=sk.str∧(sk≠.s0→sk.last≠32):=by
 unfold skB at h
 split at h
 ·rename_i a e
  exact⟨.s1 a,yk e,fun _=>by simpa [SK.last] using h⟩
 ·rename_i a b e
  exact⟨.s2 a b,yk e,fun _=>by simpa [SK.last] using h⟩
 ·rename_i a b c e
  exact⟨.s3 a b c,yk e,fun _=>by simpa [SK.last] using h⟩
 ·cases h
theorem tell_ok{c:Nat}(h:zC c=true):Tell hS Zb c∧SignQ hS Zb c:=by
 unfold zC at h
 cases h1:c4P c with
 |true=>
  rw[h1] at h
  exact⟨.nl h1 (yk (by simpa using h)),fun g=>by rw[h1] at g;cases g⟩
 |false=>
  rw[h1] at h
  cases h2:wC c with
  |true=>
   rw[h2] at h
   exact⟨.bl h1 h2 (yk (by simpa [spc] using h)),fun _ g=>by rw[h2] at g;cases g⟩
  |false=>
   rw[h2] at h
   cases h3:hS 29 c with
   |true=>
    rw[h3] at h
    exact⟨.no h1 h2 h3 (yk (by simpa [emS] using h)),fun _ _ g=>by rw[h3] at g;cases g⟩
   |false=>
    rw[h3] at h
    simp only[Bool.and_eq_true] at h
    obtain⟨⟨ht,hp⟩,hk⟩:=h
    refine⟨.ch h1 h2 h3 (yk ?_) (pcB_ok hp),fun _ _ _=>skB_ok hk⟩
    have ht:=eq_of_beq ht
    rw[ht,xb]
    cases vK hS c<;>rfl
theorem inR_of{c a n:Nat}(hm:(a,n)∈cdR)(h1:a≤c)(h2:c < a+n):InR c:=⟨_,hm,h1,h2⟩
theorem inZ{z:Int}{a n:Nat}(hm:(a,n)∈cdR)(h1:(a:Int)≤z)(h2:z < (a:Int)+n):0≤z∧InR z.toNat:=⟨by omega,inR_of hm (by omega) (by omega)⟩
theorem code_in(n:Int):0≤zE n∧InR (zE n).toNat:=by
 unfold zE
 generalize n.fdiv 4=p
 split
 ·have hj:=yd p 3 (by decide)
  obtain⟨j,hj'⟩:∃j:Nat,p.fmod 3=j:=⟨_,(Int.toNat_of_nonneg hj.1).symm⟩
  rw[hj',Int.toNat_natCast]
  have:j=0∨j=1∨j=2:=by omega
  rcases this with rfl|rfl|rfl
  ·have:=yd (p.fdiv 3) 26 (by decide)
   exact inZ (a:=97) (n:=26) (by decide) (by show (97:Int)≤97+(p.fdiv 3).fmod 26;omega) (by show 97+(p.fdiv 3).fmod 26 < (97:Int)+26;omega)
  ·have:=yd (p.fdiv 3) 26 (by decide)
   exact inZ (a:=65) (n:=26) (by decide) (by show (65:Int)≤65+(p.fdiv 3).fmod 26;omega) (by show 65+(p.fdiv 3).fmod 26 < (65:Int)+26;omega)
  ·have:=yd (p.fdiv 3) 7 (by decide)
   exact inZ (a:=64256) (n:=7) (by decide) (by show (64256:Int)≤64256+(p.fdiv 3).fmod 7;omega) (by show 64256+(p.fdiv 3).fmod 7 < (64256:Int)+7;omega)
 split
 ·have hj:=yd p 4 (by decide)
  obtain⟨j,hj'⟩:∃j:Nat,p.fmod 4=j:=⟨_,(Int.toNat_of_nonneg hj.1).symm⟩
  rw[hj',Int.toNat_natCast]
  have:j=0∨j=1∨j=2∨j=3:=by omega
  rcases this with rfl|rfl|rfl|rfl
  ·exact inZ (a:=32) (n:=1) (by decide) (by decide) (by decide)
  ·exact inZ (a:=32) (n:=1) (by decide) (by decide) (by decide)
  ·exact inZ (a:=160) (n:=1) (by decide) (by decide) (by decide)
  ·exact inZ (a:=8287) (n:=1) (by decide) (by decide) (by decide)
 split
 ·split
  ·have:=yd (p.fdiv 2) 32 (by decide)
   exact inZ (a:=64976) (n:=32) (by decide) (by omega) (by omega)
  ·have h1:=yd (p.fdiv 2) 3 (by decide)
   have h2:=yd (p.fdiv 6) 17 (by decide)
   obtain⟨k,hk⟩:∃k:Nat,(p.fdiv 6).fmod 17=k:=⟨_,(Int.toNat_of_nonneg h2.1).symm⟩
   rw[hk] at h2 ⊢
   refine inZ (a:=65533+65536*k) (n:=3) ?_ (by omega) (by omega)
   unfold cdR
   refine List.mem_append_right _ (List.mem_map.mpr ⟨k,List.mem_range.mpr (by omega),rfl⟩)
 ·have hj:=yd p 17 (by decide)
  obtain⟨j,hj'⟩:∃j:Nat,p.fmod 17=j:=⟨_,(Int.toNat_of_nonneg hj.1).symm⟩
  rw[hj',Int.toNat_natCast]
  have hj2:j < 17:=by omega
  have key:∀a n:Nat,(a,n)∈cdR→wN lB3 j=a→wN lL3 j=n→0 < n→0≤wN lB3 j+(p.fdiv 17).fmod (wN lL3 j)∧InR (wN lB3 j+(p.fdiv 17).fmod (wN lL3 j)).toNat:=fun a n hm e1 e2 hn=>by
   rw[e1,e2]
   have:=yd (p.fdiv 17) n (by omega)
   exact inZ hm (by omega) (by omega)
  have:j=0∨j=1∨j=2∨j=3∨j=4∨j=5∨j=6∨j=7∨j=8∨j=9∨j=10∨j=11∨j=12∨j=13∨j=14∨j=15∨j=16:=by omega
  rcases this with rfl|rfl|rfl|rfl|rfl|rfl|rfl|rfl|rfl|rfl|rfl|rfl|rfl|rfl|rfl|rfl|rfl
  ·exact key 31 3 (by decide) rfl rfl (by decide)
  ·exact key 172 3 (by decide) rfl rfl (by decide)
  ·exact key 831 4 (by decide) rfl rfl (by decide)
  ·exact key 846 3 (by decide) rfl rfl (by decide)
  ·exact key 6149 3 (by decide) rfl rfl (by decide)
  ·exact key 6154 5 (by decide) rfl rfl (by decide)
  ·exact key 8202 7 (by decide) rfl rfl (by decide)
  ·exact key 8233 7 (by decide) rfl rfl (by decide)
  ·exact key 8287 3 (by decide) rfl rfl (by decide)
  ·exact key 8297 8 (by decide) rfl rfl (by decide)
  ·exact key 12271 14 (by decide) rfl rfl (by decide)
  ·exact key 64975 34 (by decide) rfl rfl (by decide)
  ·exact key 65023 18 (by decide) rfl rfl (by decide)
  ·exact key 65278 3 (by decide) rfl rfl (by decide)
  ·exact key 65528 8 (by decide) rfl rfl (by decide)
  ·exact key 917504 3 (by decide) rfl rfl (by decide)
  ·exact key 917535 98 (by decide) rfl rfl (by decide)
theorem inR_hi{c:Nat}(h:InR c):c≤1114111:=by
 obtain⟨p,hp,h1,h2⟩:=h
 have:∀p∈cdR,p.1+p.2≤1114112:=by decide
 have:=this p hp
 omega
theorem law_ok{K:Wd}{script:List (Int × Tok)}(h:script.length≤900):LawOk K hS Zb script:=by
 have hc:∀c∈yb script,InR c:=fun c hm=>by
  obtain⟨n,_,rfl⟩:=List.mem_map.mp hm
  exact(code_in n).2
 refine⟨h,fun n _=>(code_in n).1,fun c hm=>inR_hi (hc c hm),fun c hm=>(tell_ok (tell_at (hc c hm))).2,?_⟩
 have hm:(163:Int)∈xc script:=List.mem_append_right _ (by decide)
 have hm2:(zE 163).toNat∈yb script:=List.mem_map_of_mem (f:=fun n=>(zE n).toNat) hm
 have e:¬(zE 163).toNat < 128:=by decide
 rw[Bool.eq_false_iff]
 intro ha
 have:=List.all_eq_true.mp ha _ hm2
 exact e (of_decide_eq_true this)
theorem law_true(script:List (Int × Tok)):lawAns hS Zb script=true:=by
 have hc:∀c∈yb script,InR c:=fun c hm=>by
  obtain⟨n,_,rfl⟩:=List.mem_map.mp hm
  exact(code_in n).2
 unfold lawAns
 refine decide_eq_true (plain_law (fun c hm=>(tell_ok (tell_at (hc c hm))).1) ?_ (yd _ 4 (by decide)).1)
 have hm:(4:Int)∈xc script:=List.mem_append_right _ (by decide)
 exact⟨_,List.mem_map_of_mem (f:=fun n=>(zE n).toNat) hm,by decide,by decide,by decide +kernel⟩
end Mine
end
noncomputable section
open PyProof.Rows PySem PySem.W
set_option maxRecDepth 100000
set_option maxHeartbeats 0
namespace Mine
def VH(P:Params):TopV where
 av n:=n
 tk t:=t
 se L:=match L with
  |29=>seL29.toArray
  |101=>seL101.toArray
  |113=>seL113.toArray
  |137=>seL137.toArray
  | _=>seL155.toArray
 sp L:=match L with
  |29=>29
  |101=>6
  |113=>13
  |137=>16
  | _=>100
 st L:=match L with
  |29=>stL29 P
  |101=>stL101 P
  |113=>stL113 P
  |137=>stL137 P
  | _=>stL155 P
 de:=deL.toArray
 dp:=650
def mrg:X.KT→BT→BT
 | .nil,t=>t
 | .node v l r,.nil=>.node (v.getD default) (mrg l .nil) (mrg r .nil)
 | .node v l r,.node v' l' r'=>.node (match v with|some o=>o|none=>v') (mrg l l') (mrg r r')
theorem v6:∀(k:X.KT) (t:BT) (L:Nat) (o:Obj),k.get L=some o→(mrg k t).get L=some o
 | .nil,_,_,_,h=>by cases h
 | .node v l r,.nil,L,o,h=>by
  unfold mrg
  rw[X.KT.get_node] at h
  rw[BT.get_node]
  by_cases h0:L=0
  ·rw[if_pos h0] at h ⊢;rw[h];rfl
  ·rw[if_neg h0] at h ⊢
   by_cases h1:L % 2=1
   ·rw[if_pos h1] at h ⊢;exact v6 l _ _ _ h
   ·rw[if_neg h1] at h ⊢;exact v6 r _ _ _ h
 | .node v l r,.node v' l' r',L,o,h=>by
  unfold mrg
  rw[X.KT.get_node] at h
  rw[BT.get_node]
  by_cases h0:L=0
  ·rw[if_pos h0] at h ⊢;rw[h]
  ·rw[if_neg h0] at h ⊢
   by_cases h1:L % 2=1
   ·rw[if_pos h1] at h ⊢;exact v6 l _ _ _ h
   ·rw[if_neg h1] at h ⊢;exact v6 r _ _ _ h
theorem base_mrg(P:Params):mrg (u7 P (VH P)) ((hSt 28).tree P)=(hSt 28).tree P:=by kernel_rfl
def ktAll(f:Obj→Bool)(n:Nat):X.KT→Nat→Nat→Bool
 | .nil,_,_=>true
 | .node v l r,a,b=>(match v with|some o=>Nat.blt b n && f o|none=>true) && (ktAll f n l (2*a) (a+b) && ktAll f n r (2*a) (2*a+b))
theorem w8{f:Obj→Bool}{n:Nat}:∀(k:X.KT) (a b L:Nat) (o:Obj),ktAll f n k a b=true→k.get L=some o→b+a*L < n∧f o=true
 | .nil,_,_,_,_,_,h=>by cases h
 | .node v l r,a,b,L,o,hk,h=>by
  unfold ktAll at hk
  rw[Bool.and_eq_true,Bool.and_eq_true] at hk
  obtain⟨h1,h2,h3⟩:=hk
  rw[X.KT.get_node] at h
  by_cases h0:L=0
  ·rw[if_pos h0] at h
   subst h h0
   dsimp only at h1
   rw[Bool.and_eq_true,Nat.blt_eq] at h1
   exact⟨by simpa using h1.1,h1.2⟩
  ·rw[if_neg h0] at h
   by_cases hp:L % 2=1
   ·rw[if_pos hp] at h
    obtain⟨q1,q2⟩:=w8 l (2*a) (a+b) (L / 2) o h2 h
    refine⟨?_,q2⟩
    obtain⟨m,hm⟩:∃m,L=2*m+1:=⟨L / 2,by omega⟩
    subst hm
    have:(2*m+1) / 2=m:=by omega
    rw[this] at q1
    rw[Nat.mul_add,Nat.mul_one,←Nat.mul_assoc,Nat.mul_comm a 2]
    omega
   ·rw[if_neg hp] at h
    obtain⟨q1,q2⟩:=w8 r (2*a) (2*a+b) (L / 2 - 1) o h3 h
    refine⟨?_,q2⟩
    obtain⟨m,hm⟩:∃m,L=2*m+2:=⟨L / 2 - 1,by omega⟩
    subst hm
    have:(2*m+2) / 2 - 1=m:=by omega
    rw[this] at q1
    rw[Nat.mul_add,←Nat.mul_assoc,Nat.mul_comm a 2]
    omega
theorem base_live(P:Params):ktAll (fun o=>!o.isFreed) 363 (u7 P (VH P)) 1 0=true:=by kernel_rfl
theorem base_end{P:Params}{L:Nat}{p:Addr × Obj}(h:base P (VH P) L=some p):(hH P).get? p.1=some p.2:=by
 unfold base at h
 cases ho:(u7 P (VH P)).get L with
 |none=>rw[ho] at h;cases h
 |some o=>
  rw[ho] at h
  simp only[Option.some.injEq] at h
  subst h
  have ea:adOf (VH P) L=L:=by unfold adOf;split<;>rfl
  dsimp only
  rw[ea]
  have h1:=v6 _ ((hSt 28).tree P) L o ho
  rw[base_mrg] at h1
  obtain⟨h2,h3⟩:=w8 _ 1 0 L o (base_live P) ho
  unfold hH
  rw[abs_get (by omega) h1]
  obtain⟨c,d,dt,sl⟩:=o
  cases dt<;>first|rfl|cases h3
def seB(l:List (Int × Value)):Bool:=l.all fun e=>match e.2 with
 | .int i _=>e.1==hashInt i
 | _=>false
theorem seB_ok{l:List (Int × Value)}(h:seB l=true):∀e∈l,(∃k,Value.isInt k e.2=true∧e.1=hashInt k)∧e.2.scannable=true:=fun e he=>by
 have:=List.all_eq_true.mp h e he
 obtain⟨a,v⟩:=e
 cases v with
 |int i t=>exact⟨⟨i,beq_self_eq_true i,eq_of_beq this⟩,rfl⟩
 | _=>cases this
theorem xW{l:List (Int × Value)}{n:Nat}{t:SetTable}{S:Int→Bool}(h:seB l=true)(hS:∀k,S k=seM l k)(hl:l.length < scanBound)(hf:t.fits l.length=true):Obj.IntSet ⟨.type "set", none,.set l.toArray n t,#[]⟩ S:=by
 refine⟨l.toArray,n,t,⟨rfl,rfl,rfl⟩,rfl,seB_ok h,fun k=>?_,by rw[List.size_toArray];exact hl,by rw[List.size_toArray];exact hf⟩
 rw[hS]
 unfold seM
 rw[List.any_eq_true]
def fdH(k:Int):Option Value:=findBy Value.isInt deL.toArray k
theorem find_enE{t:Nat}{p:Int × Str}{k:Int}:Value.isInt k (enE t p).key=(p.1==k):=rfl
theorem find_enL:∀(t:Nat) (l:List (Int × Str)) (k:Int),match ((enL t l).find? fun e=>Value.isInt k e.key).map (·.val) with
  |none=>(l.find? fun p=>p.1==k)=none
  |some v=>∃S u,v=.str S u∧(l.find? fun p=>p.1==k).map (·.2)=some S
 | _,[],_=>rfl
 |t,p::l,k=>by
  rw[enL,List.find?_cons,List.find?_cons,find_enE]
  cases h:p.1==k with
  |true=>exact⟨p.2,t+1,rfl,rfl⟩
  |false=>exact find_enL (t+3) l k
theorem find_enV:∀(t:Nat) (l:List (Int × Str)) (k:Int),match ((enV t l).find? fun e=>Value.isInt k e.key).map (·.val) with
  |none=>(l.find? fun p=>p.1==k)=none
  |some v=>∃S u,v=.str S u∧(l.find? fun p=>p.1==k).map (·.2)=some S
 | _,[],_=>rfl
 |t,p::l,k=>by
  rw[enV,List.find?_cons,List.find?_cons,find_enE]
  cases h:p.1==k with
  |true=>exact⟨p.2,t+1,rfl,rfl⟩
  |false=>exact find_enV (t+2) l k
theorem fdH_tab(k:Int):match fdH k with|none=>Zb k=none|some v=>∃S t,v=.str S t∧Zb k=some S:=by
 unfold fdH findBy Zb
 rw[List.find?_toArray]
 have e1:deL=enL 263 (dL.take 646)++enV 2201 (dL.drop 646):=rfl
 have e3:(dL.find? fun p=>p.1==k)=((dL.take 646)++(dL.drop 646)).find? (fun p=>p.1==k):=by rw[List.take_append_drop]
 have h1:=find_enL 263 (dL.take 646) k
 have h2:=find_enV 2201 (dL.drop 646) k
 rw[e1,List.find?_append,e3,List.find?_append]
 generalize (enL 263 (dL.take 646)).find? (fun e=>Value.isInt k e.key)=x at h1 ⊢
 generalize (enV 2201 (dL.drop 646)).find? (fun e=>Value.isInt k e.key)=y at h2 ⊢
 generalize (dL.take 646).find? (fun p=>p.1==k)=u at h1 ⊢
 generalize (dL.drop 646).find? (fun p=>p.1==k)=v at h2 ⊢
 cases x with
 |some x=>
  obtain⟨S,t,h3,h4⟩:=h1
  refine⟨S,t,h3,?_⟩
  cases u with
  |none=>cases h4
  |some u=>exact h4
 |none=>
  have h1:u=none:=h1
  subst h1
  cases y with
  |some y=>exact h2
  |none=>
   have h2:v=none:=h2
   subst h2
   rfl
theorem enL_int{P:DictEntry→Prop}:∀(t:Nat) (l:List (Int × Str)),(∀t p,P (enE t p))→∀e∈enL t l,P e
 | _,[],_,e,he=>by cases he
 |t,p::l,h,e,he=>by
  rcases List.mem_cons.mp he with rfl|he
  ·exact h t p
  ·exact enL_int (t+3) l h e he
theorem enV_int{P:DictEntry→Prop}:∀(t:Nat) (l:List (Int × Str)),(∀t p,P (enE t p))→∀e∈enV t l,P e
 | _,[],_,e,he=>by cases he
 |t,p::l,h,e,he=>by
  rcases List.mem_cons.mp he with rfl|he
  ·exact h t p
  ·exact enV_int (t+2) l h e he
theorem deL_int:∀e∈deL,∃k,Value.isInt k e.key=true∧e.hash=hashInt k:=fun e he=>by
 have hE:∀(t:Nat) (p:Int × Str),∃k,Value.isInt k (enE t p).key=true∧(enE t p).hash=hashInt k:=fun t p=>⟨p.1,beq_self_eq_true _,rfl⟩
 rcases List.mem_append.mp he with he|he
 ·exact enL_int (P:=fun e=>∃k,Value.isInt k e.key=true∧e.hash=hashInt k) _ _ hE e he
 ·exact enV_int (P:=fun e=>∃k,Value.isInt k e.key=true∧e.hash=hashInt k) _ _ hE e he
def hK(w:World)(b1 b2:Bool)(hw:w=vU w b1 b2):Wd:=⟨w,b1,b2,VH (vU w b1 b2).params,hw⟩
theorem head_ok{w:World}{b1 b2:Bool}{hw:w=vU w b1 b2}:TopOk (hK w b1 b2 hw) hS fdH Zb:=by
 refine⟨xW (l:=seL29) (by kernel_rfl) (fun _=>rfl) (by decide +kernel) (by kernel_rfl),xW (l:=seL101) (by kernel_rfl) (fun _=>rfl) (by decide +kernel) (by kernel_rfl),xW (l:=seL113) (by kernel_rfl) (fun _=>rfl) (by decide +kernel) (by kernel_rfl),
  xW (l:=seL137) (by kernel_rfl) (fun _=>rfl) (by decide +kernel) (by kernel_rfl),xW (l:=seL155) (by kernel_rfl) (fun _=>rfl) (by decide +kernel) (by kernel_rfl),?_,fdH_tab⟩
 refine⟨deL.toArray,650,⟨rfl,rfl,rfl⟩,rfl,fun e he=>deL_int e (by simpa using he),fun k=>rfl⟩
section
variable {K:Wd} {b:Bag} {S:Nat→Int→Bool} {fd:Int→Option Value} {tab:Int→Option Str} (T:TopOk K S fd tab) {script:List (Int × Tok)} (O:LawOk K S tab script) {l:Addr} {e:Nat}
include T O
theorem law_b{a0 src dct it acc:Addr}{t0 t1:Tok}{ns:List (Int × Tok)}{k:Result→Sem Fin}{lv:List Value}{pos:Pos}(hk:k=lwK K b a0 acc dct)(hns:ns.map (·.1)=xc script) :
  Seg K (WK ([3],b)) ⟨.call (w1 ⟨a0,src,it,acc,dct⟩) none true lv k,wx K b a0,pos,[],[(it,lIt src 0),(acc,zd #[] 0),(dct,dictO [] 0),(src,zd (zy ns) 0)]++((a0,yp [ent K.P y5 t0 (.ref l),ent K.P xt t1 (.ref src)] 2)::[(284,zn 124 19 none),(291,zn 127 32 none),(l,zd (zy script) e)])⟩ (LawEnd S tab script l e):=by
 have hlen:ns.length≤22:=by
  have:=congrArg List.length hns
  rw[List.length_map] at this
  rw[this]
  simp[xc,numsOf,fixN]
  omega
 have h0:ns≠[]:=fun h=>by
  rw[h] at hns
  have:=congrArg List.length hns
  simp[xc,numsOf,fixN] at this
 let R:zh:=(a0,yp [ent K.P y5 t0 (.ref l),ent K.P xt t1 (.ref src)] 2)::[(284,zn 124 19 none),(291,zn 127 32 none),(l,zd (zy script) e)]
 have hR:∀p∈R,p.2.isFreed=false:=fun p hp=>by
  simp only[R,List.mem_cons,List.not_mem_nil,or_false] at hp
  rcases hp with rfl|rfl|rfl|rfl<;>rfl
 have eW:=W_of (lw_Wc K b a0 pos)
 have hc:=cod_seg (K:=K) (b:=yj ((wx K b a0,pos)::(([]:List Frame).map Frame.where_++WK ([3],b)))) (z:=⟨a0,src,it,acc,dct⟩) (e2:=0) (l:=ns) (R:=R) (pos:=pos) (by omega) h0 (fun p hp=>O.nn _ (by rw[←hns];exact List.mem_map_of_mem hp)) hR
 rw[←eW] at hc
 refine Seg.call rfl hc ?_
 rintro s ⟨x',cl,e',c1,c2,c3,c4⟩
 refine⟨c2,.ok .next,c1,?_⟩
 rw[c3,hk]
 have hcl:cl.map (·.1)=yb script:=by
  rw[c4]
  unfold yb
  rw[←hns,List.map_map]
  rfl
 let v:LvQ:=⟨l,a0,src,t0,t1,⟨a0,src,it,acc,dct⟩,x',cl,e',ns,0⟩
 exact law_c (K:=K) (b:=b) T O (l:=l) (e:=e) (v:=v) (e1:=0) (p0:=pos) rfl hns hcl
theorem law_seg{pos:Pos}:Seg K (WK ([3],b)) ⟨zx (lwC l),lwC l,pos,[],[(l,zd (zy script) e),(284,zn 124 19 none),(291,zn 127 32 none)]⟩ (LawEnd S tab script l e):=by
 let q:LwQ:=⟨l,zy script,zy (script.take 12),e⟩
 let R0:zh:=[(284,zn 124 19 none),(291,zn 127 32 none)]
 have hR0:∀p∈R0,p.2.isFreed=false:=fun p hp=>by
  simp only[R0,List.mem_cons,List.not_mem_nil,or_false] at hp
  rcases hp with rfl|rfl<;>rfl
 have h1:=Seg.frame R0 hR0 (Seg.eqT (List.append_nil _) (Seg.run (K:=K) (lwS K b q pos) (tl:=[]) rfl rfl (fun F U=>xi (.leaf U xL)) _ [2,1,0,3,5,6] (lw_r1 K b q pos) (by decide) rfl (by decide) (fun _ _ _=>zc (by rw[take12]) (zc (zk (by rw[w3];have:=O.len;omega)) zl)) (fun _ _ _=>rfl)))
 refine Seg.trans (a:=⟨_,_,_,[],_⟩) h1 ?_
 rintro s ⟨s',⟨fA,fT,γ,_,rfl⟩,rfl⟩
 let z:=numZ fA
 let R1:zh:=[(fA 0,yp [ent K.P y5 ((fT 0).tok 0) (.ref l)] 1),(l,zd (zy script) e),(284,zn 124 19 none),(291,zn 127 32 none)]
 have hR1:∀p∈R1,p.2.isFreed=false:=fun p hp=>by
  simp only[R1,List.mem_cons,List.not_mem_nil,or_false] at hp
  rcases hp with rfl|rfl|rfl|rfl<;>rfl
 have hn:=num_seg (K:=K) (W:=((eo (lwR1 K b q pos fA fT γ)).code,(⟨211,36,211,47⟩:Pos))::(([]:List Frame).map Frame.where_++WK ([3],b))) (z:=z) (e2:=0) (l:=script.take 12) (R:=R1) (pos:=⟨211,36,211,47⟩) (by simp;omega) hR1
 refine Seg.call rfl hn ?_
 rintro s ⟨x',ns,e',c1,c2,c3,c4,c5⟩
 refine⟨c2,.ok .next,c1,?_⟩
 rw[c3]
 have hnl:ns.length≤12:=by
  have:=congrArg List.length c4
  simp at this
  omega
 let R2:zh:=[(l,zd (zy script) e),(284,zn 124 19 none),(291,zn 127 32 none)]
 have hR2:∀p∈R2,p.2.isFreed=false:=fun p hp=>by
  simp only[R2,List.mem_cons,List.not_mem_nil,or_false] at hp
  rcases hp with rfl|rfl|rfl<;>rfl
 have hsz:∀τ:Nat→Ch,(zy ns++zy (fixT τ)).size≤1000:=fun τ=>by
  rw[Array.size_append,w3,w3]
  show ns.length+10≤_
  omega
 have hap:∀τ:Nat→Ch,zy ns++zy (fixT τ)=zy (ns++fixT τ):=fun τ=>by simp[zy]
 have hns:∀τ:Nat→Ch,(ns++fixT τ).map (·.1)=xc script:=fun τ=>by
  rw[List.map_append,c4];rfl
 have hperm:∀X:zh,List.Perm (X++R2) (X++[(284,zn 124 19 none),(291,zn 127 32 none),(l,zd (zy script) e)]):=fun X=>
  List.Perm.append_left X ((List.Perm.swap ((284:Addr),zn 124 19 none) (l,zd (zy script) e) [(291,zn 127 32 none)]).trans (List.Perm.cons _ (List.Perm.swap ((291:Addr),zn 127 32 none) (l,zd (zy script) e) [])))
 cases hx:x' with
 |some xv=>
  have h2:=Seg.frame R2 hR2 (Seg.eqT (List.append_nil _) (Seg.run (K:=K) (lwS2 K b q pos fA fT γ (some xv) (zy ns) e') (tl:=[]) rfl rfl (fun F U=>xi (.leaf U xLAdd_ok)) _ [2,1,0,3,7] (fun α τ γ'=>lw_r2 K b q pos fA fT γ (some xv) (zy ns) e' α τ γ' rfl) (by decide) rfl (by decide) (fun _ τ _=>zc (zk (hsz τ)) zl) (fun _ _ _=>rfl)))
  refine Seg.trans (a:=⟨_,_,_,[],_⟩) h2 ?_
  rintro s ⟨s2,⟨α,τ,γ2,_,rfl⟩,rfl⟩
  have hcd:=lw_cd K b pos α τ γ2 (q:=q) (fA:=fA) (fT:=fT) (g0:=γ) (x:=some xv) (vs:=zy ns) (e:=e') rfl
  have hk2:=lw_k2 K b pos α τ γ2 (q:=q) (fA:=fA) (fT:=fT) (g0:=γ) (x:=some xv) (vs:=zy ns) (e:=e') rfl
  have hB:=law_b (K:=K) (b:=b) T O (l:=l) (e:=e) (a0:=fA 0) (src:=α 1) (dct:=α 4) (it:=α 2) (acc:=α 3) (t0:=(fT 0).tok 0) (t1:=(τ 11).tok 0) (ns:=ns++fixT τ) (lv:=lOf (v9 K b q pos fA fT γ (some xv) (zy ns) e' α τ γ2 47 tpLw2)) (pos:=⟨212,12,212,53⟩) hk2 (hns τ)
  rw[←hcd] at hB
  refine Seg.perm (a:=⟨_,_,_,[],_⟩) ?_ hB
  rw[←hap τ]
  exact hperm [(α 2,lIt (α 1) 0),(α 3,zd #[] 0),(α 4,dictO [] 0),(α 1,zd (zy ns++zy (fixT τ)) 0),(fA 0,yp [ent K.P y5 ((fT 0).tok 0) (.ref l),ent K.P xt ((τ 11).tok 0) (.ref (α 1))] 2)]
 |none=>
  have h2:=Seg.frame R2 hR2 (Seg.eqT (List.append_nil _) (Seg.run (K:=K) (lwS2 K b q pos fA fT γ none (zy ns) e') (tl:=[]) rfl rfl (fun F U=>xi (.leaf U xLAdd_ok)) _ [2,1,0,3,7] (fun α τ γ'=>lw_r2n K b q pos fA fT γ none (zy ns) e' α τ γ' rfl) (by decide) rfl (by decide) (fun _ τ _=>zc (zk (hsz τ)) zl) (fun _ _ _=>rfl)))
  refine Seg.trans (a:=⟨_,_,_,[],_⟩) h2 ?_
  rintro s ⟨s2,⟨α,τ,γ2,_,rfl⟩,rfl⟩
  have hcd:=lw_cdn K b pos α τ γ2 (q:=q) (fA:=fA) (fT:=fT) (g0:=γ) (x:=none) (vs:=zy ns) (e:=e') rfl
  have hk2:=lw_k2n K b pos α τ γ2 (q:=q) (fA:=fA) (fT:=fT) (g0:=γ) (x:=none) (vs:=zy ns) (e:=e') rfl
  have hB:=law_b (K:=K) (b:=b) T O (l:=l) (e:=e) (a0:=fA 0) (src:=α 1) (dct:=α 4) (it:=α 2) (acc:=α 3) (t0:=(fT 0).tok 0) (t1:=(τ 11).tok 0) (ns:=ns++fixT τ) (lv:=lOf (v9 K b q pos fA fT γ none (zy ns) e' α τ γ2 43 up)) (pos:=⟨212,12,212,53⟩) hk2 (hns τ)
  rw[←hcd] at hB
  refine Seg.perm (a:=⟨_,_,_,[],_⟩) ?_ hB
  rw[←hap τ]
  exact hperm [(α 2,lIt (α 1) 0),(α 3,zd #[] 0),(α 4,dictO [] 0),(α 1,zd (zy ns++zy (fixT τ)) 0),(fA 0,yp [ent K.P y5 ((fT 0).tok 0) (.ref l),ent K.P xt ((τ 11).tok 0) (.ref (α 1))] 2)]
end
abbrev lawRow:RowW:=PySem.Challenge.rw_pe0284_01.row.toRowW
theorem items_ints{R:WRecords}:∀ds:List WData,WShape.hasItems R ds .int=true→∃xs:List Int,ds=xs.map .int
 |[],_=>⟨[],rfl⟩
 |d::ds,h=>by
  simp only[WShape.hasItems,Bool.and_eq_true] at h
  obtain⟨i,rfl⟩:=hasW_int h.1
  obtain⟨xs,rfl⟩:=items_ints ds h.2
  exact⟨i::xs,rfl⟩
theorem pre_len{args:List WData}(h:lawRow.claim.pre args=true):∃xs:List Int,args=[.list (xs.map .int)]∧xs.length≤63:=by
 obtain⟨h1,h2⟩:=pre_splitW h
 obtain⟨d,r,rfl,h3,h4⟩:=hasAllW_cons (R:=lawRow.records) (e:=.list .int) (es:=[]) h1
 have h5:r=[]:=by
  cases r with
  |nil=>rfl
  |cons _ _=>simp[WShape.hasAll] at h4
 subst h5
 obtain⟨ds,rfl,h6⟩:=hasW_list h3
 obtain⟨xs,rfl⟩:=items_ints ds h6
 refine⟨xs,rfl,?_⟩
 have e:lawRow.pre=.and (.not (.lt (.lit (.int ((63:Nat):Int))) (.len (.arg 0)))) (.lit (.bool true)):=rfl
 rw[e] at h2
 by_cases hx:xs.length≤63
 ·exact hx
 ·exfalso
  have hl:less? (.int ((63:Nat):Int)) (.int ((xs.length:Nat):Int))=some true:=by
   have:((63:Nat):Int) < ((xs.length:Nat):Int):=by omega
   show some (decide (((63:Nat):Int) < ((xs.length:Nat):Int)))=some true
   rw[decide_eq_true this]
  simp[WTm.holds,WTm.value,List.length_map] at h2
  rw[show (63:Int)=((63:Nat):Int) from rfl,hl] at h2
  simp at h2
def tkI:Nat→List Int→List (Int × Tok)
 | _,[]=>[]
 |t,x::xs=>(x,t)::tkI (t+1) xs
theorem tkI_len:∀(t:Nat) (xs:List Int),(tkI t xs).length=xs.length
 | _,[]=>rfl
 |t,x::xs=>by rw[tkI,List.length_cons,tkI_len (t+1) xs,List.length_cons]
theorem lay_ints{R:WRecords}{cl:Str→Option Addr}{P:Params}{ord:List DictEntry→List DictEntry}:∀(xs:List Int) (s:Shared),layAllW R cl P ord (xs.map .int) s=some ((tkI s.toks xs).map (fun p=>.int p.1 p.2),{ s with toks:=s.toks+xs.length })
 |[],s=>rfl
 |x::xs,s=>by
  have ih:=lay_ints (R:=R) (cl:=cl) (P:=P) (ord:=ord) xs { s with toks:=s.toks+1 }
  rw[List.map_cons]
  unfold layAllW layW
  dsimp only
  rw[ih]
  dsimp only
  rw[tkI,List.map_cons,List.length_cons,Nat.add_assoc s.toks 1,Nat.add_comm 1]
def lsD(xs:List Int)(t:Nat):Obj:=zd (zy (tkI t xs)) 0
theorem lay_law{R:WRecords}{cl:Str→Option Addr}{P:Params}{ord:List DictEntry→List DictEntry}(xs:List Int)(s:Shared):layAllW R cl P ord [.list (xs.map .int)] s=some ([.ref s.heap.objs.size],{ s with heap:=s.heap.push (lsD xs s.toks),toks:=s.toks+xs.length }):=by
 unfold layAllW layW
 dsimp only
 rw[lay_ints]
 rfl
section
variable (K:Wd) (l:Addr) (vs:Array Value) (α:Nat→Addr) (τ:Nat→Ch) (γ:Nat→Nat)
def stS:Start:=⟨cfg K.P K.V [] 1 [],[],[(l,zd vs 0)],[],(callStub "law" [.ref l]).cur,.builtin "claim.caller" {},default,[]⟩
def stR:Option Out:=(stS K l vs).run α τ γ 1 [6]
theorem st_r:lhs 1 [0] (stR K l vs α τ γ)=rhs 0 ⟨.call (lwC l) none false (lOf (stR K l vs α τ γ)) (kOf (stR K l vs α τ γ)),.builtin "claim.caller" {},default,[],[(l,zd vs 0)],[],[]⟩ (stR K l vs α τ γ):=by
 obtain⟨w',b1,b2,V0,hw⟩:=K
 cases b1<;>kernel_rfl
theorem st_k(v:Value):kOf (stR K l vs α τ γ) (.ok (.ret v))=.pure (.done (.ret v)):=by
 obtain⟨w',b1,b2,V0,hw⟩:=K
 cases b1<;>kernel_rfl
theorem st_W:shk [[3]] ((.builtin "claim.caller" {},default)::(([]:List Frame).map Frame.where_++[]))=some ([3],yj ((.builtin "claim.caller" {},default)::(([]:List Frame).map Frame.where_++[]))):=by kernel_rfl
end
theorem stub_seg{K:Wd}{S:Nat→Int→Bool}{fd:Int→Option Value}{tab:Int→Option Str}(T:TopOk K S fd tab){script:List (Int × Tok)}(O:LawOk K S tab script){l:Addr} :
  Seg K [] ⟨(callStub "law" [.ref l]).cur,.builtin "claim.caller" {},default,[],[(l,zd (zy script) 0),(284,zn 124 19 none),(291,zn 127 32 none)]⟩ (LawEnd S tab script l 0):=by
 let R0:zh:=[(284,zn 124 19 none),(291,zn 127 32 none)]
 have hR0:∀p∈R0,p.2.isFreed=false:=fun p hp=>by
  simp only[R0,List.mem_cons,List.not_mem_nil,or_false] at hp
  rcases hp with rfl|rfl<;>rfl
 have h1:=Seg.frame R0 hR0 (Seg.eqT (List.append_nil _) (Seg.run (K:=K) (W:=[]) (stS K l (zy script)) (tl:=[]) rfl rfl yq _ [0] (st_r K l (zy script)) (by decide) rfl (by decide) (fun _ _ _=>zl) (fun _ _ _=>rfl)))
 refine Seg.trans (a:=⟨_,_,_,[],_⟩) h1 ?_
 rintro s ⟨s',⟨α,τ,γ,_,rfl⟩,rfl⟩
 have hl:=law_seg (b:=yj ((.builtin "claim.caller" {},default)::(([]:List Frame).map Frame.where_++[]))) T O (l:=l) (e:=0) (pos:=default)
 rw[←W_of st_W] at hl
 refine Seg.call rfl hl ?_
 rintro s ⟨h1,h2,h3⟩
 refine⟨h2,.ok (.ret (.bool (lawAns S tab script))),h1,?_⟩
 rw[st_k]
 exact Seg.refl ⟨rfl,rfl,h3⟩
theorem Comes.halts{M:Model}{s s':Shared}{th:Thread}{r:Result}{c:Code}{p:Pos}(h:Comes M s th s' ⟨leafOf r,c,p,[]⟩)(hl:leftWithCleanup s'.gens=false):∃n,M.runN n s th=.halted (outcomeOf r) s':=by
 obtain⟨n,hn⟩:=h
 induction n generalizing s th with
 |zero=>
  have e:Run.running s th=.running s' ⟨leafOf r,c,p,[]⟩:=hn
  injection e with e1 e2
  subst e1 e2
  refine⟨1,?_⟩
  rw[runN_succ,step_leaf_nil]
  unfold finish
  rw[if_neg (by rw[hl];decide)]
 |succ n ih=>
  rw[runN_succ] at hn
  cases hs:M.step s th with
  |go s₂ t₂=>
   simp only[hs] at hn
   obtain⟨m,hm⟩:=ih hn
   exact⟨m+1,by rw[runN_succ,hs];exact hm⟩
  |halt o s₂=>simp only[hs] at hn;cases hn
def hF(w:World)(os:OsState):Shared:=((hSt 28).at w.params os).abs
def wz(w:World)(os:OsState)(xs:List Int):Shared:={ hF w os with heap:=(hH w.params).push (lsD xs 2806),toks:=2806+xs.length }
theorem hH_size(P:Params):(hH P).objs.size=363:=absHeap_size _ _ _
def lawT(xs:List Int):zh:=[(363,lsD xs 2806),(284,zn 124 19 none),(291,zn 127 32 none)]
theorem mem_end(P:Params):(hH P).get? 284=some (zn 124 19 none)∧(hH P).get? 291=some (zn 127 32 none):=by
 constructor
 ·kernel_rfl
 ·kernel_rfl
theorem base_no(P:Params):(u7 P (VH P)).get 284=none∧(u7 P (VH P)).get 291=none:=by
 constructor
 ·kernel_rfl
 ·kernel_rfl
theorem base_at{P:Params}{L:Nat}{q:Addr × Obj}(h:base P (VH P) L=some q):q.1=L∧(u7 P (VH P)).get L=some q.2:=by
 unfold base at h
 cases ho:(u7 P (VH P)).get L with
 |none=>rw[ho] at h;cases h
 |some o=>
  rw[ho] at h
  simp only[Option.some.injEq] at h
  subst h
  refine⟨?_,rfl⟩
  show adOf (VH P) L=L
  unfold adOf;split<;>rfl
theorem arg_rel(w:World)(b1 b2:Bool)(hw:w=vU w b1 b2)(os:OsState)(xs:List Int):RB (hK w b1 b2 hw) (lawT xs) (wz w os xs):=by
 have eP:(hK w b1 b2 hw).P=w.params:=by show (vU w b1 b2).params=w.params;rw[←hw]
 have eV:(hK w b1 b2 hw).V=VH w.params:=by
  show ({ VH (vU w b1 b2).params with av:=fun n=>n }:TopV)=VH w.params
  rw[←hw];rfl
 have hsz:=hH_size w.params
 have hm:=mem_end w.params
 have old:∀x o,(hH w.params).get? x=some o→(wz w os xs).heap.get? x=some o:=fun x o h=>by
  have hlt:x < (hH w.params).objs.size:=Heap.lt_size h
  show ((hH w.params).push _).get? x=_
  rw[Heap.get?_push_ne _ _ _ (Nat.ne_of_lt hlt)];exact h
 have new:(wz w os xs).heap.get? 363=some (lsD xs 2806):=by
  have:=yx (h:=hH w.params) (o:=lsD xs 2806) rfl
  rw[hsz] at this
  exact this
 have hsize:(wz w os xs).heap.objs.size=364:=by
  show ((hH w.params).push _).objs.size=_
  rw[Heap.size_push,hsz]
 have hbase:∀L q,(cfg (hK w b1 b2 hw).P (hK w b1 b2 hw).V [] 1 []).base L=some q→base w.params (VH w.params) L=some q:=fun L q h=>by
  have h:base (hK w b1 b2 hw).P (hK w b1 b2 hw).V L=some q:=h
  rw[eP,eV] at h;exact h
 refine⟨fun p hp _=>?_,fun p hp=>?_,(by decide:[363,284,291].Nodup),fun L p h=>old _ _ (base_end (hbase L p h)),fun p hp L q h=>?_,fun p hp=>(by cases hp),List.nodup_nil,AllBare.empty⟩
 ·simp only[lawT,List.mem_cons,List.not_mem_nil,or_false] at hp
  rcases hp with rfl|rfl|rfl
  ·exact new
  ·exact old _ _ hm.1
  ·exact old _ _ hm.2
 ·rw[hsize]
  simp only[lawT,List.mem_cons,List.not_mem_nil,or_false] at hp
  rcases hp with rfl|rfl|rfl
  ·exact(by decide:(363:Nat) < 364)
  ·exact(by decide:(284:Nat) < 364)
  ·exact(by decide:(291:Nat) < 364)
 ·obtain⟨h1,h2⟩:=base_at (hbase L q h)
  rw[h1]
  simp only[lawT,List.mem_cons,List.not_mem_nil,or_false] at hp
  rcases hp with rfl|rfl|rfl
  ·have:=w8 _ 1 0 L q.2 (base_live w.params) h2
   show L≠363
   omega
  ·show L≠284
   rintro rfl
   rw[(base_no w.params).1] at h2;cases h2
  ·show L≠291
   rintro rfl
   rw[(base_no w.params).2] at h2;cases h2
theorem call_ends(w:World)(os:OsState)(xs:List Int)(hx:xs.length≤63)(hz:(wz w os xs).asleep) :
  ∃n s' σ,schedN (denote table) progP w n (.single (wz w os xs) (callStub "law" [.ref 363]))=.halted (.done (.ret (.bool true))) σ∧runN (denote table) progP w n (wz w os xs) (callStub "law" [.ref 363])=.halted (.done (.ret (.bool true))) σ∧σ.forget=s'.forget∧
   Kp (lawT xs) [] (wz w os xs) s'∧AllBare s'.gens∧s'.heap.get? 363=some (lsD xs 2806)∧∃m1 m2,s'.heap.get? 284=some (zn 124 19 m1)∧s'.heap.get? 291=some (zn 127 32 m2):=by
 obtain⟨b1,b2,hw⟩:=rowW_self w
 have hseg:=stub_seg (K:=hK w b1 b2 hw) head_ok (law_ok (K:=hK w b1 b2 hw) (script:=tkI 2806 xs) (by rw[tkI_len];omega)) (l:=363)
 obtain⟨⟨cur,code,pos,fs,T⟩,s',⟨h1,h2,a,rows,e2,m1,m2,h3⟩,hc,R,K,_⟩:=hseg (wz w os xs) [] ⟨rfl,rfl,rfl⟩ (arg_rel w b1 b2 hw os xs)
 dsimp only at h1 h2 h3 hc R
 subst h1 h2 h3
 rw[law_true] at hc
 have hl:leftWithCleanup s'.gens=false:=leftWithCleanup_false_of_bare R.bare
 obtain⟨n,hn⟩:=Comes.halts (r:=.ok (.ret (.bool true))) hc hl
 obtain⟨σ,hs,hr,hf⟩:=runNI_full (denote table) progP w hn (outcomeOf_ends _) hz
 exact⟨n,s',σ,hs,hr,hf,K,R.bare,R.slots (363,lsD xs 2806) (by simp[lsD]) rfl,m1,m2,R.slots (284,zn 124 19 m1) (by simp) (by cases m1<;>rfl),R.slots (291,zn 127 32 m2) (by simp) (by cases m2<;>rfl)⟩
end Mine
end
noncomputable section
open PySem PySem.W
set_option maxRecDepth 100000
set_option maxHeartbeats 0
namespace Mine
theorem hp_0(w:World):(fun os=>yE w os 30 0 [zs 0])=fun os=>yw w os 1:=by kernel_rfl
theorem hp_1(w:World):(fun os=>yE w os 10 1 [zs 1])=fun os=>yw w os 2:=by kernel_rfl
theorem hp_3(w:World):(fun os=>yE w os 30 3 [zs 3])=fun os=>yw w os 4:=by kernel_rfl
theorem hp_5(w:World):(fun os=>yE w os 31 5 [zs 5])=fun os=>yw w os 6:=by kernel_rfl
theorem hp_6(w:World):(fun os=>yE w os 30 6 [zs 6])=fun os=>yw w os 7:=by kernel_rfl
theorem hp_7(w:World):(fun os=>yE w os 31 7 [zs 7])=fun os=>yw w os 8:=by kernel_rfl
theorem hp_9(w:World):(fun os=>yE w os 30 9 [zs 9])=fun os=>yw w os 10:=by kernel_rfl
theorem hp_11(w:World):(fun os=>yE w os 30 11 [zs 11])=fun os=>yw w os 12:=by kernel_rfl
theorem hp_13(w:World):(fun os=>yE w os 30 13 [zs 13])=fun os=>yw w os 14:=by kernel_rfl
theorem hp_15(w:World):(fun os=>yE w os 30 15 [zs 15])=fun os=>yw w os 16:=by kernel_rfl
theorem hp_16(w:World):(fun os=>yE w os 10 16 [zs 16])=fun os=>yw w os 17:=by kernel_rfl
theorem hp_17(w:World):(fun os=>yE w os 10 17 [zs 17])=fun os=>yw w os 18:=by kernel_rfl
theorem hp_18(w:World):(fun os=>yE w os 10 18 [zs 18])=fun os=>yw w os 19:=by kernel_rfl
theorem hp_19(w:World):(fun os=>yE w os 494 19 [zs 19])=fun os=>yw w os 20:=by kernel_rfl
theorem hp_20(w:World):(fun os=>yE w os 505 20 [zs 20])=fun os=>yw w os 21:=by kernel_rfl
theorem hp_21(w:World):(fun os=>yE w os 10 21 [zs 21])=fun os=>yw w os 22:=by kernel_rfl
theorem hp_22(w:World):(fun os=>yE w os 32 22 [zs 22])=fun os=>yw w os 23:=by kernel_rfl
theorem hp_23(w:World):(fun os=>yE w os 27 23 [zs 23])=fun os=>yw w os 24:=by kernel_rfl
theorem hp_24(w:World):(fun os=>yE w os 30 24 [zs 24])=fun os=>yw w os 25:=by kernel_rfl
theorem hp_25(w:World):(fun os=>yE w os 27 25 [zs 25])=fun os=>yw w os 26:=by kernel_rfl
theorem hp_26(w:World):(fun os=>yE w os 35 26 [zs 26])=fun os=>yw w os 27:=by kernel_rfl
theorem hp_27(w:World):(fun os=>yE w os 27 27 [zs 27])=fun os=>yw w os 28:=by kernel_rfl
def gR(w:World)(b:Bool):World:=w.withFollow "special-get-raises" b
theorem hs_2(b:Bool)(w:World):(fun os=>yE (gR w b) os 999 2 [zs 2])=fun os=>yw (gR w b) os 3:=by cases b<;>kernel_rfl
theorem hs_8(b:Bool)(w:World):(fun os=>yE (gR w b) os 200 8 [zs 8])=fun os=>yw (gR w b) os 9:=by cases b<;>kernel_rfl
theorem hs_10(b:Bool)(w:World):(fun os=>yE (gR w b) os 361 10 [zs 10])=fun os=>yw (gR w b) os 11:=by cases b<;>kernel_rfl
theorem hs_12(b:Bool)(w:World):(fun os=>yE (gR w b) os 775 12 [zs 12])=fun os=>yw (gR w b) os 13:=by cases b<;>kernel_rfl
def c9V(n:Nat):List Value:=(List.range n).map fun i=>vI (917536+i) (2347+i)
def c9L(i:Nat):Obj:=lsO (c9V i) (2+i)
def c9R(i:Nat):Obj:=fdO (.type "range_iterator") [vI (917536+i) 0,vI (96 - i) 0,vI 1 0]
def c9Vs(k:Nat):List Value:=(vI 917505 2341::c9V 96).take k
def c9E(k:Nat):List (Int × Value):=(c9Vs k).map fun v=>match v with
 | .int i t=>(i,.int i t)
 | _=>(0,.none)
def c9P(k:Nat):List Nat:=(1::(List.range 96).map (32+·)).take k
def c9M(k:Nat):Nat × Nat:=match Nat.blt k 5 with
 |true=>(7,0)
 |false=>match Nat.blt k 19 with
 |true=>(31,1)
 |false=>match Nat.blt k 77 with
 |true=>(127,2)
 |false=>(511,3)
def c9S(P:Params)(k:Nat):Obj:=⟨.type "set", none,.set (c9E k).toArray (k+(c9M k).2) ⟨(c9M k).1,(c9P k).toArray,#[],0,!(P.followText "set-order"),(c9M k).2,true⟩,#[]⟩
def c9I(k:Nat):Obj:=fdO (.type "list_iterator") [vR 154,vI k 0]
def c9Ob(P:Params)(i k L:Nat):Obj:=match Nat.beq L 150 with
 |true=>c9L i
 |false=>match Nat.beq L 151 with
  |true=>c9R i
  |false=>match Nat.beq L 155 with
   |true=>c9S P k
   |false=>match Nat.beq L 156 with
    |true=>c9I k
    |false=>hO P (hSt 14).nm (hSt 14).k (hSt 14).c L
def c9A(P:Params)(os:OsState)(n i k t:Nat):SharedT:=⟨hB (c9Ob P i k) n 12 1 0,n,(boot_heap P).life,#[],boot_drawn,t,os⟩
def c9a(P:Params)(os:OsState)(i:Nat):SharedT:=c9A P os 152 i 0 (2347+i)
def c9b(P:Params)(os:OsState)(k:Nat):SharedT:=c9A P os 157 96 k (2443+k)
def thOf(o:Option (SharedT × Thread)):Thread:=match o with
 |some (_,t)=>t
 |none=>ddTh
def c9t1(w:World)(os:OsState):Thread:=thOf (hGo w 103 ((hSt 14).at w.params os) (hTh 14 [zs 14]))
def vh(w:World)(os:OsState):Thread:=thOf (hGo w 99 (c9a w.params os 96) (c9t1 w os))
theorem c9_0(b:Bool)(w:World):(fun os=>hGo (gR w b) 103 ((hSt 14).at (gR w b).params os) (hTh 14 [zs 14]))=fun os=>some (c9a (gR w b).params os 1,c9t1 (gR w b) os):=by cases b<;>kernel_rfl
theorem c9_a1(b:Bool)(w:World):(fun os=>hGo (gR w b) 408 (c9a (gR w b).params os 1) (c9t1 (gR w b) os))=fun os=>some (c9a (gR w b).params os 25,c9t1 (gR w b) os):=by cases b<;>kernel_rfl
theorem c9_a25(b:Bool)(w:World):(fun os=>hGo (gR w b) 408 (c9a (gR w b).params os 25) (c9t1 (gR w b) os))=fun os=>some (c9a (gR w b).params os 49,c9t1 (gR w b) os):=by cases b<;>kernel_rfl
theorem c9_a49(b:Bool)(w:World):(fun os=>hGo (gR w b) 408 (c9a (gR w b).params os 49) (c9t1 (gR w b) os))=fun os=>some (c9a (gR w b).params os 73,c9t1 (gR w b) os):=by cases b<;>kernel_rfl
theorem c9_a73(b:Bool)(w:World):(fun os=>hGo (gR w b) 391 (c9a (gR w b).params os 73) (c9t1 (gR w b) os))=fun os=>some (c9a (gR w b).params os 96,c9t1 (gR w b) os):=by cases b<;>kernel_rfl
theorem c9_m(b:Bool)(w:World):(fun os=>hGo (gR w b) 503 (c9a (gR w b).params os 96) (c9t1 (gR w b) os))=fun os=>some (c9b (gR w b).params os 22,vh (gR w b) os):=by cases b<;>kernel_rfl
theorem c9_b22(b:Bool)(w:World):(fun os=>hGo (gR w b) 240 (c9b (gR w b).params os 22) (vh (gR w b) os))=fun os=>some (c9b (gR w b).params os 34,vh (gR w b) os):=by cases b<;>kernel_rfl
theorem c9_b34(b:Bool)(w:World):(fun os=>hGo (gR w b) 240 (c9b (gR w b).params os 34) (vh (gR w b) os))=fun os=>some (c9b (gR w b).params os 46,vh (gR w b) os):=by cases b<;>kernel_rfl
theorem c9_b46(b:Bool)(w:World):(fun os=>hGo (gR w b) 240 (c9b (gR w b).params os 46) (vh (gR w b) os))=fun os=>some (c9b (gR w b).params os 58,vh (gR w b) os):=by cases b<;>kernel_rfl
theorem c9_b58(b:Bool)(w:World):(fun os=>hGo (gR w b) 240 (c9b (gR w b).params os 58) (vh (gR w b) os))=fun os=>some (c9b (gR w b).params os 70,vh (gR w b) os):=by cases b<;>kernel_rfl
theorem c9_b70(b:Bool)(w:World):(fun os=>hGo (gR w b) 120 (c9b (gR w b).params os 70) (vh (gR w b) os))=fun os=>some (c9b (gR w b).params os 76,vh (gR w b) os):=by cases b<;>kernel_rfl
theorem c9_b76(b:Bool)(w:World):(fun os=>hGo (gR w b) 42 (c9b (gR w b).params os 76) (vh (gR w b) os))=fun os=>some (c9b (gR w b).params os 78,vh (gR w b) os):=by cases b<;>kernel_rfl
theorem c9_b78(b:Bool)(w:World):(fun os=>hGo (gR w b) 200 (c9b (gR w b).params os 78) (vh (gR w b) os))=fun os=>some (c9b (gR w b).params os 88,vh (gR w b) os):=by cases b<;>kernel_rfl
theorem c9_e(b:Bool)(w:World):(fun os=>segD zx progP (gR w b) 11 none 1 208 (c9b (gR w b).params os 88) (vh (gR w b) os))=fun os=>yw (gR w b) os 15:=by cases b<;>kernel_rfl
end Mine
end
noncomputable section
open PyProof.Rows PySem PySem.W
set_option maxRecDepth 100000
set_option maxHeartbeats 0
namespace Mine
def hS0(w:World)(os:OsState)(i:Nat):Shared:=((hSt i).at w.params os).abs
def RS(w:World)(os:OsState)(i:Nat):Prop:=∃N,topRun treeTable progP w 11 none N (hS0 w os i) (restOf (((List.range 28).map zs).drop i) vg hC (wy i) tF)=some (hS0 w os 28)
theorem rs_end{w:World}{os:OsState}:RS w os 28:=⟨2,piece_nil (env:=vg) (h_fin w (hS0 w os 28) (wy 28))⟩
theorem seg_of{w:World}{os:OsState}{N i:Nat}{l:List Stmt}(h:yE w os N i l=yw w os (i+1)):segRun treeTable progP w 11 none 1 N (hS0 w os i) (piecesOf l vg hC (wy i) tF)=some (.next,hS0 w os (i+1),hC,wy (i+1)):=by
 unfold yE yw at h
 rw[vc,segD_eq] at h
 exact segRun_of h
theorem zN{w:World}{os:OsState}{N i:Nat}(hd:((List.range 28).map zs).drop i=[zs i]++((List.range 28).map zs).drop (i+1))(h:(fun os=>yE w os N i [zs i])=fun os=>yw w os (i+1))(R:RS w os (i+1)):RS w os i:=by
 obtain⟨M,hM⟩:=R
 refine⟨N+M,?_⟩
 rw[hd]
 exact piece_app (seg_of (congrFun h os)) hM
theorem wa{w:World}{N i:Nat}(h:∀(b:Bool) (w:World),(fun os=>yE (gR w b) os N i [zs i])=fun os=>yw (gR w b) os (i+1)):(fun os=>yE w os N i [zs i])=fun os=>yw w os (i+1):=by
 have:=h (w.params.followText "special-get-raises") w
 unfold gR at this
 rw[World.withFollow_self] at this
 exact this
theorem st4(w:World)(os:OsState):∃N,segRun treeTable progP w 11 none 1 N (hS0 w os 4) (pieceOf (zs 4) vg hC (wy 4) tF)=some (.next,hS0 w os 5,hC,wy 5):=by
 have g1:Go w (hS0 w os 4) ⟨(PySem.exec (zs 4) vg).wrap doneF deadEnd id id,hC,wy 4,tF⟩ (hS0 w os 4) ddTh:=Go.tree 2 (h4_in w os)
 have hc:=cs_table (w:=w) (h:=absHeap ((hSt 4).tree w.params) 40 (boot_heap w.params).life) (gens:=#[]) (drawn:=boot_drawn) (os:=os) (absHeap_size _ _ _)
 rw[h4_heap] at hc
 obtain⟨pos',g2⟩:=hc (fun v=>(ddG v).wrap doneF deadEnd id id) (fun e=>(Sem.raise e:Sem Flow).wrap doneF deadEnd id id) (fun g=>id (id g)) (fun l=>id (id l)) b3E.pos
 have g2':Go w (hS0 w os 4) ddTh (h4S.at w.params os).abs ⟨(ddG (.ref 40)).wrap doneF deadEnd id id,hC,pos',tF⟩:=by
  unfold ddTh
  rw[Sem.bind_eq_wrap' (forIn ddI (none,[]) ddX.1.1 >>= ddX.1.2) ddG,Sem.wrap_wrap]
  exact g2
 have g3:segRun treeTable progP w 11 none 1 9 (h4S.at w.params os).abs ⟨(ddG (.ref 40)).wrap doneF deadEnd id id,hC,pos',tF⟩=some (.next,hS0 w os 5,hC,wy 5):=by
  have h:=h4_out w os pos'
  unfold yw at h
  rw[vc,segD_eq] at h
  exact segRun_of h
 obtain⟨n,hn⟩:=g1.trans g2'
 exact⟨n+9,seg_go hn g3⟩
theorem rs_4{w:World}{os:OsState}(hd:((List.range 28).map zs).drop 4=zs 4::((List.range 28).map zs).drop 5)(R:RS w os 5):RS w os 4:=by
 obtain⟨M,hM⟩:=R
 obtain⟨N,hN⟩:=st4 w os
 refine⟨N+M,?_⟩
 rw[hd]
 exact piece_cons hN hM
theorem st14b(b:Bool)(w:World)(os:OsState):∃N,segRun treeTable progP (gR w b) 11 none 1 N (hS0 (gR w b) os 14) (piecesOf [zs 14] vg hC (wy 14) tF)=some (.next,hS0 (gR w b) os 15,hC,wy 15):=by
 have g0:=Go.tree _ (congrFun (c9_0 b w) os)
 have g:=(((((((((((g0.trans (Go.tree _ (congrFun (c9_a1 b w) os))).trans (Go.tree _ (congrFun (c9_a25 b w) os))).trans (Go.tree _ (congrFun (c9_a49 b w) os))).trans (Go.tree _ (congrFun (c9_a73 b w) os))).trans (Go.tree _ (congrFun (c9_m b w) os))).trans (Go.tree _ (congrFun (c9_b22 b w) os))).trans (Go.tree _ (congrFun (c9_b34 b w) os))).trans (Go.tree _ (congrFun (c9_b46 b w) os))).trans (Go.tree _ (congrFun (c9_b58 b w) os))).trans (Go.tree _ (congrFun (c9_b70 b w) os))).trans (Go.tree _ (congrFun (c9_b76 b w) os))).trans (Go.tree _ (congrFun (c9_b78 b w) os))
 have h:=congrFun (c9_e b w) os
 unfold yw at h
 rw[vc,segD_eq] at h
 obtain⟨n,hn⟩:=g
 exact⟨_,seg_go hn (segRun_of h)⟩
theorem st14(w:World)(os:OsState):∃N,segRun treeTable progP w 11 none 1 N (hS0 w os 14) (piecesOf [zs 14] vg hC (wy 14) tF)=some (.next,hS0 w os 15,hC,wy 15):=by
 have:=st14b (w.params.followText "special-get-raises") w os
 unfold gR at this
 rw[World.withFollow_self] at this
 exact this
theorem rs_14{w:World}{os:OsState}(hd:((List.range 28).map zs).drop 14=[zs 14]++((List.range 28).map zs).drop 15)(R:RS w os 15):RS w os 14:=by
 obtain⟨M,hM⟩:=R
 obtain⟨N,hN⟩:=st14 w os
 refine⟨N+M,?_⟩
 rw[hd]
 exact piece_app hN hM
theorem rs_all(w:World)(os:OsState):RS w os 0:=
 zN rfl (hp_0 w) (zN rfl (hp_1 w) (zN rfl (wa fun b w=>hs_2 b w) (zN rfl (hp_3 w) (rs_4 rfl (zN rfl (hp_5 w) (zN rfl (hp_6 w) (zN rfl (hp_7 w)
 (zN rfl (wa fun b w=>hs_8 b w) (zN rfl (hp_9 w) (zN rfl (wa fun b w=>hs_10 b w) (zN rfl (hp_11 w) (zN rfl (wa fun b w=>hs_12 b w) (zN rfl (hp_13 w) (rs_14 rfl (zN rfl (hp_15 w)
 (zN rfl (hp_16 w) (zN rfl (hp_17 w) (zN rfl (hp_18 w) (zN rfl (hp_19 w) (zN rfl (hp_20 w) (zN rfl (hp_21 w) (zN rfl (hp_22 w) (zN rfl (hp_23 w) (zN rfl (hp_24 w) (zN rfl (hp_25 w) (zN rfl (hp_26 w) (zN rfl (hp_27 w) rs_end)))))))))))))))))))))))))))
theorem top_run(w:World)(os:OsState):∃N,topRun treeTable progP w 11 none N (hBoot w.params os) (topStub progP)=some (hS0 w os 28):=by
 obtain⟨M,hM⟩:=rs_all w os
 rw[List.drop_zero,←h_body] at hM
 have h1:=piece_block (h_block w (hS0 w os 0)) hM
 have h2:=h_pre w os
 rw[vc,topD_eq] at h2
 exact⟨_,go_top h2 h1⟩
theorem opening_eq:opening progP=plainProg progP.main.scope.names:=by kernel_rfl
theorem fence_eq(s:Shared):fenceModules? progP s=some s:=by kernel_rfl
theorem top_ran(w:World):(∃s,AfterRun (opening progP) w s)∧∀s,AfterRun (opening progP) w s→∃s₀,fenceModules? progP s=some s₀∧s₀.gens=#[]∧∃os,TopRan progP w s₀ (hS0 w os 28)∧(hS0 w os 28).asleep:=by
 have h:=boot_open (p:=progP) (N:=600) opening_eq (by decide) fence_eq w
 rw[←table_eq_tree] at h
 obtain⟨s₀,h2,e⟩:=Option.map_eq_some_iff.mp h
 obtain⟨s,h4,h5⟩:=Option.bind_eq_some_iff.mp h2
 have A:=AfterImport.of_importEnds h4
 refine⟨⟨s,A⟩,fun s' hs'=>?_⟩
 obtain rfl:s'=s:=AfterImport.unique hs' A
 have z:s₀.asleep:=Shared.asleep_of_life (fence_lifeW h5) A.life
 obtain⟨heap,gens,drawn,toks,os⟩:=s₀
 simp only[Prod.mk.injEq] at e
 obtain⟨rfl,rfl,rfl,rfl⟩:=e
 refine⟨_,h5,rfl,os,?_⟩
 obtain⟨N,hN⟩:=top_run w os
 rw[←table_eq_tree] at hN
 obtain⟨a,l,o,fr⟩:=topRun_spec N (hBoot w.params os) (topStub progP) (hS0 w os 28) z hN
 have hg0:=u_isg w.params
 obtain⟨hg,hg1⟩:=Bool.and_eq_true_iff.mp hg0
 have hb:=u_isb w.params
 have hm:=u_mods
 have size:(boot_heap w.params).objs.size=11:=by kernel_rfl
 refine⟨⟨a,l,Shared.rest_eq o,fun b ob hb hn=>fr b ob (by have:=Heap.lt_size hb;rw[size] at this;exact this) (fun q=>hn (.inl q)) (fun q=>hn (.inr (.inl q))) (fun q=>by cases q) hb,
  ?_,?_,Pin.keysAreStrs_of hg1,fun x hx=>(Pin.builtinOf_eq hb x).trans (Heap.of_bltView hb (u_blt w.params) x hx),?_,gens_of_done (s:=hS0 w os 28) rfl,names_of_bound (u_names w.params),laid_of_kept (u_laid w.params)⟩,Shared.asleep_of_life l z⟩
 ·rw[hm];exact Heap.accountedI_of_ok (u_acc w.params)
 ·rw[hm];exact statics_of_ok (u_stat w.params)
 ·obtain⟨bm,ob,a,_,c,d,f,_⟩:=Heap.bmainOk_spec (u_bmain w.params)
  exact⟨bm,ob,(Pin.globalOf_eq hg1 _).trans a,c,d,f⟩
theorem hS_hF(w:World)(os:OsState):hS0 w os 28=hF w os:=rfl
theorem code_tab(P:Params):isCodeTable (hH P) 284∧isCodeTable (hH P) 291:=by
 refine⟨⟨288,_,_,(by kernel_rfl:(hH P).get? 288=some (o_288 P (VH P))),rfl,rfl,rfl⟩,⟨295,_,_,(by kernel_rfl:(hH P).get? 295=some (o_295 P (VH P))),rfl,rfl,rfl⟩⟩
theorem the_def(P:Params):isTheDefsW progP (hH P) "law" :=by
 have hg:=(Bool.and_eq_true_iff.mp (u_isg P)).2
 refine⟨362,o_362 P (VH P),fnD (zs 27) ⟨#[108,97,119]⟩ [] .none (.str ⟨#[108,97,119,95,112,101,48,50,56,52,95,48,49]⟩ 2758) (.ref 361) .none,fnArgs (zs 27),wY (zs 27),uc (zs 27),
  (Pin.globalOf_eq hg _).trans (by kernel_rfl),by kernel_rfl,by kernel_rfl,by kernel_rfl,by kernel_rfl,by kernel_rfl,rfl,rfl,rfl,rfl,rfl,rfl,?_⟩
 exact⟨.inl ⟨by kernel_rfl,rfl⟩,[],by kernel_rfl,.inl ⟨rfl,rfl⟩⟩
theorem arg_new(w:World)(os:OsState)(xs:List Int):(wz w os xs).heap.get? 363=some (lsD xs 2806):=by
 have:=yx (h:=hH w.params) (o:=lsD xs 2806) rfl
 rw[hH_size] at this
 exact this
theorem code_keep{h h':Heap}{b:Addr}(k:∀b o,h.get? b=some o→h'.get? b=some o)(x:isCodeTable h b):isCodeTable h' b:=by
 obtain⟨c,o,vs,h1,h2,h3,h4⟩:=x
 exact⟨c,o,vs,k _ _ h1,h2,h3,h4⟩
abbrev lawC:ClaimW:=lawRow.claim
theorem call_from(w:World)(os:OsState)(hz:(hF w os).asleep){free:Addr→Prop}{gens:Prop}{kept:Heap→Prop}(hk:∀h,kept h):lawC.CallFrom (callStub "law") w free gens kept (hF w os):=by
 intro args hpre hlay ord hord
 obtain⟨xs,rfl,hx⟩:=pre_len hpre
 have hlaid:layAllW lawC.records (classAt (hF w os).heap) w.params ord [.list (xs.map .int)] (hF w os)=some ([.ref 363],wz w os xs):=by
  rw[lay_law]
  rfl
 have keeps:=layAllW_keeps _ _ _ hlaid
 have hal:=layAllW_rest _ _ _ hlaid
 obtain⟨as,hrd,hin,hold⟩:=reads_layAllW hord _ _ _ hlaid hlay (wz w os xs).heap (fun _ _ e=>e)
 have L:Laid lawC.records w (hF w os) (wz w os xs) [.list (xs.map .int)] [.ref 363] as:=⟨⟨ord,hord,hlaid⟩,hrd,hin,hold,keeps,rfl,hal.2.2.1⟩
 have hz1:(wz w os xs).asleep:=Shared.asleep_of_life hal.2.2.2 hz
 obtain⟨n,s',σ,hs,hr,hf,K,hbare,g1,m1,m2,g2,g3⟩:=call_ends w os xs hx hz1
 have htab:=code_tab w.params
 have hm:=mem_end w.params
 have hO:OldK (wz w os xs).heap s'.heap:=by
  have old:∀b o,(wz w os xs).heap.get? b=some o→asItWas (wz w os xs).heap s'.heap b o:=fun b o hb=>by
   by_cases e1:b=363
   ·subst e1
    have:=(arg_new w os xs).symm.trans hb
    cases this
    exact .inl g1
   by_cases e2:b=284
   ·subst e2
    have:=(keeps _ _ hm.1).symm.trans hb
    cases this
    exact .inr (.inl ⟨code_keep keeps htab.1,rfl,#[],memArr 124 19 m1,rfl,by rw[g2,Array.empty_append];rfl⟩)
   by_cases e3:b=291
   ·subst e3
    have:=(keeps _ _ hm.2).symm.trans hb
    cases this
    exact .inr (.inl ⟨code_keep keeps htab.2,rfl,#[],memArr 127 32 m2,rfl,by rw[g3,Array.empty_append];rfl⟩)
   exact .inl (K.heap b o hb fun p hp=>by
    simp only[lawT,List.mem_cons,List.not_mem_nil,or_false] at hp
    rcases hp with rfl|rfl|rfl
    ·exact Ne.symm e1
    ·exact Ne.symm e2
    ·exact Ne.symm e3)
  exact⟨old,fun b o hb=>by
   rcases old b o hb with h|⟨_,_,vs,more,_,h⟩|⟨_,_,⟨o',_,_,h,_⟩,_⟩
   ·exact⟨_,h⟩
   ·exact⟨_,h⟩
   ·exact⟨_,h⟩⟩
 have hpost:lawC.post [.list (xs.map .int)] (.bool true) [.list (xs.map .int)]=true:=by kernel_rfl
 obtain⟨hsame,hu,ha,hap,hmk⟩:=frees_parts (r:=lawRow) (by kernel_rfl)
 have hG:GoodWG lawC (classAt (hF w os).heap) (ExcName.means (hF w os).heap) [.list (xs.map .int)] (wz w os xs) (.ok (.ret (.bool true))) s':=
  ⟨.inl ⟨.bool true,.bool true,[],rfl,fun _=>rfl,.bool true,hpost,fun _=>⟨List.nodup_nil,fun a ha=>by cases ha⟩⟩,hO,K.os,hbare⟩
 have hE:=hG.laid (c:=lawC) rfl rfl (ident_freeW hu ha hap) L
 obtain⟨eh,_,_,eo,_⟩:=Shared.forget_eq hf
 have hcase:=hE.1.congr eh
 have hos:σ.os=(hF w os).os:=eo.trans hE.2.1
 have hlife:σ.heap.life=(hF w os).heap.life:=(runN_life _ _ _ hr).trans hal.2.2.2
 refine⟨_,_,hlaid,n,_,σ,hs,?_,(fun _ i x hx=>by cases hx),hk _,by rw[hlife],Shared.rest_eq hos⟩
 rcases hcase with ⟨v,hv,d1,d2,d3,d4,d5⟩|⟨e,ob,cls,hv,_⟩
 ·cases hv
  exact .inl ⟨_,rfl,d1,d2,d3,fun b o y _=>d4 b o y,d5⟩
 ·cases hv
theorem holds_by:lawC.HoldsOpenBy (callStub "law") ["law"] PySem.Challenge.rw_pe0284_01.row.keeps false:=by
 refine⟨⟨⟨rfl,rfl,rfl,rfl,rfl,by decide +kernel⟩,by decide +kernel,rfl⟩,⟨[.list []],by decide +kernel,by decide +kernel⟩,fun w=>⟨(top_ran w).1,fun s hs=>?_⟩⟩
 obtain⟨s₀,h1,h2,os,h3,h4⟩:=(top_ran w).2 s hs
 refine⟨s₀,h1,h2,hS0 w os 28,h3,fun n hn=>?_,fun x hx=>(by cases hx),fun x hx=>(by cases hx),?_⟩
 ·rw[List.mem_singleton] at hn
  subst hn
  exact the_def w.params
 ·rw[hS_hF] at h4 ⊢
  exact call_from w os h4 fun h hw=>absurd hw (by decide)
end Mine
end
open PySem PySem.W PyProof.Rows
set_option maxRecDepth 100000 in
set_option maxHeartbeats 8000000 in
theorem PySem.Challenge.cw_pe0284_01_holds : PySem.Challenge.rw_pe0284_01.Holds := by
  o_law
  rename_i said
  exact ⟨said, ⟨[.list [.int 3, .int 1]], by decide +kernel, by decide +kernel⟩, Mine.holds_by⟩
