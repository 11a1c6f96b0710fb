import PyProof.Rows.All
import PyProof.AttrMiss
import PyProof.ToksMono
import PyProof.StrWalks
import PyProof.CollectStr
import PyProof.DefCall
import PyProof.SliceStr2
import PyProof.WalksMore
import PyProof.ZipIter
import PyProof.Rows.StrItems
import PyProof.StrLawsReplace
import PyProof.Rows.SortStr
import Wide.Vals
import Wide.BytesRules
import Wide.WTab
import KE.BytesK
import KE.BytesMul
import KE.KBytesWalk
import KE.KBytesCut
import KE.KDictAnyGet
import KE.KEqSeq
import KE.KTurns
import KE.KFromBytes
import KE.KIntText
import KE.KIsAll
import KE.KLcPair
import KE.KPairComp
import KE.KPar
import KE.KParC
import KE.KxPercent
import KE.KxSplit
import KE.KSuper
import KE.KToBytes
import KE.KTryDeep
import KE.KTypeName
import KE.KTypeOf
import KE.KWhile
import KE.KxDecode
import KE.RegKSuper
import Wide.FinOn
import OpenK.AllK
import Wide.All
import Lean
import PySem.Challenge.RW_ai0024_01
set_option Elab.async false
set_option maxRecDepth 1000000
set_option maxHeartbeats 0
set_option linter.all false
set_option genInjectivity false
set_option genSizeOf false
set_option tactic.hygienic false
namespace Mini.Internal
open PySem PySem.W PyProof.Rows PySem.Calls PySem.Spec PyProof.Rows.LCg PyProof.Rows.LCt PyProof.V
noncomputable section
def a0A:=@PySem.wpAny_bind
def a0B:=@of_decide_eq_true
def a0C:=@List.append_assoc
def a0D:=@LawfulBEq.eq_of_beq
def a0E:=@Option.some.inj
def a0F:=@Nat.le_trans
def a0G:=@List.mem_append_right
def a0H:=@List.mem_append_left
def a0I:=@PySem.wpAny_pure
def a0J:=@List.all_eq_true
def a0K:=@Nat.le_refl
def a0L:=@List.mem_singleton
def a0M:=@List.lookup_cons
def a0N:=@PySem.wpAny_execs_cons
def a0O:=@List.length_reverse
def a0P:=@List.mem_cons_of_mem
def a0Q:=@decide_eq_true
def a0R:=@PySem.wpAny_holding
def a0S:=@Nat.ne_of_lt
def a0T:=@List.mem_cons
def a0U:=@PySem.wpAny_of_eq
def a0V:=@List.map_cons
def a0W:=@PySem.Heap.lt_size
def a0X:=@Ne.symm
def a0Y:=@List.map_inj_left
def a0Z:=@Nat.le_of_ble_eq_true
def a1A:=@Nat.lt_succ_self
def a1B:=@Bool.and_eq_true
def a1C:=@PySem.W.look_both
def a1D:=@List.length_map
def a1E:=@Int.le_trans
def a1F:=@decide_eq_false
def a1G:=@List.mem_cons_self
def a1H:=@List.append_nil
def a1I:=@PySem.sizeLine_eq
def a1J:=@PySem.wpAny_Constant_int
def a1K:=@List.length_append
def a1L:=@beq_eq_false_iff_ne
def a1M:=@List.reverse_reverse
def a1N:=@List.size_toArray
def a1O:=@List.mem_append
def a1P:=@PySem.wpAny_ite_false
def a1Q:=@Int.emod_lt_of_pos
def a1R:=@PySem.wpAny_standAt
def a1S:=@PySem.wpAny_field
def a1T:=@List.length_cons
def a1U:=@PySem.Heap.size_push
def a1V:=@bne_self_eq_false
def a1W:=@Int.natCast_nonneg
def a1X:=@Array.length_toList
def a1Y:=@Nat.succ_le_succ
def a1Z:=@Nat.lt_succ_of_lt
def a2A:=@Int.emod_nonneg
def a2B:=@beq_self_eq_true
def a2C:=@PySem.wpAny_truthy_bool
def a2D:=@Nat.ne_of_gt
def a2E:=@List.reverse_cons
def a2F:=@PySem.wpAny_mono
def a2G:=@List.take_of_length_le
def a2H:=@Nat.le_add_right
def a2I:=@List.reverse_append
def a2J:=@PySem.wpAny_newObj_type
def a2K:=@Nat.zero_le
def a2L:=@List.sum_cons
def a2M:=@PySem.Around.frames_deeper
def a2N:=@Int.not_lt
def a2O:=@PySem.wpAny_execs_nil
def a2P:=@List.map_append
def a2Q:=@PySem.wpAny_setField_rec
def a2R:=@PyProof.Rows.assign_Name
def a2S:=@Int.ne_of_gt
def a2T:=@List.of_mem_zip
def a2U:=@Int.lt_of_le_of_lt
def a2V:=@PySem.Calls.spliced_cons
def a2W:=@Bool.false_ne_true
def a2X:=@PySem.W.FB.args_bytes_getitem_2
def a2Y:=@PySem.wpAny_call_entry
def a2Z:=@Nat.ne_of_beq_eq_false
def a3A:=@Int.add_le_add_left
theorem x0 {α:Type}{v:α}{P:Prop}(h:none=some v):P:=by cases h
theorem x0' {α:Type}{v:α}{P:Prop}(h:some v=none):P:=by cases h
theorem xf {P:Prop}(h:false=true):P:=by cases h
@[elab_as_elim] theorem x1 {α:Type} {a b:α} {motive:α→Prop} (h:some a=some b) (q:motive a):motive b:=by cases h;exact q
@[elab_as_elim] theorem x1' {α:Type} {a b:α} {motive:α→Prop} (h:some a=some b) (q:motive b):motive a:=by cases h;exact q
noncomputable def gd {β:Type}(c:Bool)(x:Option β):Option β:=bif c then x else none
theorem x2 {β:Type}{c:Bool}{x:Option β}{v:β}{P:Prop}(h:gd c x=some v)(q:c=true→x=some v→P):P:=by
 cases c with
 | true=>exact q rfl h
 | false=>cases h
theorem x3 {α β:Type}{x:Option α}{k:α→Option β}{v:β}{P:Prop}(h:x.bind k=some v)(q: ∀ a,x=some a→k a=some v→P):P:=by
 cases x with
 | none=>cases h
 | some a=>exact q a rfl h
@[elab_as_elim] theorem x4 {α β:Type} {x:Option α} {k:α→β} {v:β} {motive:β→Prop} (h:x.map k=some v) (q: ∀ a,x=some a→motive (k a)):motive v:=by
 cases x with
 | none=>cases h
 | some a=>cases h;exact q a rfl
theorem x4e {α β:Type}{x:Option α}{k:α→β}{v:β}{P:Prop}(h:x.map k=some v)(q: ∀ a,x=some a→v=k a→P):P:=x4 (motive:=fun v=>(∀ a,x=some a→v=k a→P)→P) h (fun a e q=>q a e rfl) q
theorem x5 {a b:Bool}{P:Prop}(h:(a&&b)=true)(q:a=true→b=true→P):P:=by
 cases a with
 | true=>exact q rfl h
 | false=>cases h
theorem x6 {a b c:Bool}{P:Prop}(h:(a&&b&&c)=true)(q:a=true→b=true→c=true→P):P:=x5 h fun h z=>x5 h fun x y=>q x y z
theorem x7 {a b c d:Bool}{P:Prop}(h:(a&&b&&c&&d)=true)(q:a=true→b=true→c=true→d=true→P):P:=x5 h fun h w=>x6 h fun x y z=>q x y z w
theorem x8 {a b c d e:Bool}{P:Prop}(h:(a&&b&&c&&d&&e)=true)(q:a=true→b=true→c=true→d=true→e=true→P):P:=x5 h fun h w=>x7 h fun x y z t=>q x y z t w
theorem xo {α:Type}{a b:Option α}{v:α}{P:Prop}(h:a.or b=some v)(q:a=some v→P)(r:b=some v→P):P:=by
 cases a with
 | none=>exact r h
 | some a=>exact q h
theorem xn {b:Bool}(h:(!b)=true):b=false:=by cases b with
 | true=>cases h
 | false=>rfl
@[elab_as_elim] theorem xs {α:Type} [BEq α] [LawfulBEq α] {a b:α} {motive:α→Prop} (h:(a==b)=true) (q:motive b):motive a:=by have:=a0D h;subst this;exact q
noncomputable def orM {α β:Type}(o:Option α)(f:α→Option β)(g:Option β):Option β:=match o with
 | some a=>f a
 | none=>g
theorem xm {α β:Type}{o:Option α}{f:α→Option β}{g:Option β}{v:β}{P:Prop}(h:orM o f g=some v)(q: ∀ a,o=some a→f a=some v→P)(r:o=none→g=some v→P):P:=by
 cases o with
 | some a=>exact q a rfl h
 | none=>exact r rfl h
theorem xb {β:Type}{c:Bool}{a b:Option β}{v:β}{P:Prop}(h:(bif c then a else b)=some v)(q:c=true→a=some v→P)(r:c=false→b=some v→P):P:=by
 cases c with
 | true=>exact q rfl h
 | false=>exact r rfl h
noncomputable def onS {β:Type}(b:Nat)(k:Nat→Option β):Option β:=match b with
 | b+1=>k b
 | 0=>none
theorem xp {β:Type}{b:Nat}{k:Nat→Option β}{v:β}{P:Prop}(h:onS b k=some v)(q: ∀ c,b=c+1→k c=some v→P):P:=by
 cases b with
 | zero=>exact x0 h
 | succ c=>exact q c rfl h
theorem fm {α:Type}{P:α→Prop}{a:α}{l:List α}(h:P a)(k: ∀ x∈l,P x): ∀ x∈a::l,P x:=List.forall_mem_cons.mpr ⟨h,k⟩
theorem fn {α:Type}{P:α→Prop}: ∀ x∈ ([]:List α),P x:=fun Ω h=>nomatch h
structure Gx where
 prog:Program
 w:World
 K:Frag
 p:Program
 loose:List Str
 mean:ExcName→Option Value
 mg:Str→Option Value
 mb:Str→Option Value
noncomputable abbrev Gx.M (G:Gx):Model:=model G.prog G.w
noncomputable abbrev Held:=Addr→Obj→Prop
noncomputable def A7v (h₀:Heap)(news:List (Addr×Obj)):Held:=fun a o=>h₀.get? a=some o∨(a,o)∈news
def Held.le (Z Z':Held):Prop:= ∀ a o,Z a o→Z' a o
theorem Held.le.rfl {Z:Held}:Z.le Z:=fun Ω Ω h=>h
theorem Held.le.trans {Z Z' Z'':Held}(x:Z.le Z')(y:Z'.le Z''):Z.le Z'':=fun a o h=>y a o (x a o h)
theorem A8d {h₀:Heap}{news own:List (Addr×Obj)}:(A7v h₀ news).le (A7v h₀ (own++news)):=fun Ω Ω h=>h.imp id fun q=>a0G _ q
theorem A1f {h₀ g:Heap}{news:List (Addr×Obj)}(k:h₀.StaysIn g):(A7v h₀ news).le (A7v g news):=fun a o h=>h.imp (k a o) id
structure Fc where
 base:Heap
 outer:List Env
 h₀:Heap
 L:Addr
 env:Env
 news:List (Addr×Obj)
 H:Held
 os:OsState
 dr:Drawn
structure Fc.Ok (G:Gx)(c:Fc)(A:Around):Prop where
 below: ∃ A₀,Below A₀ c.base c.outer c.h₀
 frames:A.frames=some (c.env::c.outer)
 frame:c.env.frame=some c.L
 kind:c.env.scope.kind= .function
 free:A.handled=none
 XB:G.K.In c.base
 TB:Top G.p G.loose G.mean G.mg G.mb c.base
 le:c.H.le (A7v c.h₀ c.news)
def Room (A:Around)(n:Nat):Prop:=A.depth+2*n<recursionLimit∧A.units+20*n<cLine
theorem Room.less {A:Around}{n m:Nat}(h:Room A n)(e:m≤n):Room A m:=⟨by have:=h.1;lia,by have:=h.2;lia⟩
theorem Room.in1 {A:Around}{n m:Nat}(h:Room A n)(e:m<n):Room A.in1 m:=⟨by show A.depth+_<_;have:=h.1;lia,by show A.units+1+_<_;have:=h.2;lia⟩
theorem Room.deeper {A:Around}{env:Env}{n m:Nat}(h:Room A n)(e:m<n):Room (A.deeper env) m:=⟨by show A.depth+1+_<_;have:=h.1;lia,by show A.units+3+_<_;have:=h.2;lia⟩
theorem Room.depth {A:Around}{n:Nat}(h:Room A n):A.depth<recursionLimit:=by have:=h.1;lia
theorem Room.units {A:Around}{n:Nat}(h:Room A n):A.units<cLine:=by have:=h.2;lia
structure St (c:Fc)(m:Str→Option Value)(own:List (Addr×Obj))(s:Shared):Prop where
 F:Fr c.h₀ c.L s.heap m
 N:News c.h₀ c.L s.heap (own++c.news)
 gens:s.gens= #[]
 os:s.os=c.os
 dr:s.drawn=c.dr
noncomputable def vis (c:Fc)(own:List (Addr×Obj)):Held:=fun a o=>c.H a o∨(a,o)∈own
theorem A0a {c:Fc}{own own':List (Addr×Obj)}:(vis c own).le (vis c (own'++own)):=fun Ω Ω h=>h.imp id fun q=>a0G _ q
theorem A1M {c:Fc}{own:List (Addr×Obj)}{x:Addr×Obj}:(vis c own).le (vis c (x::own)):=fun Ω Ω h=>h.imp id fun q=>a0P _ q
theorem Fc.Ok.X₀ {G:Gx}{c:Fc}{A:Around}(h:c.Ok G A):G.K.In c.h₀:=let ⟨_,B⟩:=h.below;h.XB.keeps B.stays
theorem Fc.Ok.T₀ {G:Gx}{c:Fc}{A:Around}(h:c.Ok G A):Top G.p G.loose G.mean G.mg G.mb c.h₀:=let ⟨_,B⟩:=h.below;h.TB.keeps B.stays
theorem Fc.Ok.in1 {G:Gx}{c:Fc}{A:Around}(h:c.Ok G A):c.Ok G A.in1:=⟨h.below,h.frames,h.frame,h.kind,h.free,h.XB,h.TB,h.le⟩
section
variable {G:Gx}{c:Fc}{A:Around}{m:Str→Option Value}{own:List (Addr×Obj)}{s:Shared}
theorem St.X (S:St c m own s)(h:c.Ok G A):G.K.In s.heap:=h.X₀.keeps S.F.keep
theorem Fc.Ok.vis_held (h:c.Ok G A):(vis c own).le (A7v c.h₀ (own++c.news)):=fun a o q=>q.elim (fun z=>A8d a o (h.le a o z)) fun z=> .inr (a0H _ z)
theorem St.get (S:St c m own s)(ok:c.Ok G A){a:Addr}{o:Obj}(h:vis c own a o):s.heap.get? a=some o:=
 (ok.vis_held a o h).elim (S.F.keep a o) fun q=>(S.N _ q).1
theorem St.asc {a b o:List (Addr×Obj)}(S:St c m (a++ (b++o)) s):St c m (a++b++o) s:=by rw [a0C];exact S
theorem St.cmp {C:Addr}{oC:Obj}{a b o:List (Addr×Obj)}(S:St c m (a++ (b++o)) s)(h:(C,oC)∈b):s.heap.get? C=some oC:=(S.N _ (a0H _ (a0G _ (a0H _ h)))).1
theorem St.tok (S:St c m own s)(t:Nat):St c m own {s with toks:=t}:=⟨S.F,S.N,S.gens,S.os,S.dr⟩
end
theorem A4J {s s':Shared}(h1:s'.gens=s.gens)(h2:s'.os=s.os)(h3:s'.drawn=s.drawn):s'= {s with heap:=s'.heap,toks:=s'.toks}:=
 show Shared.mk s'.heap s'.gens s'.drawn s'.toks s'.os=_ by rw [h1,h2,h3]
theorem St.like {c:Fc}{m:Str→Option Value}{own:List (Addr×Obj)}{s s₀:Shared}(S:St c m own s)(hs:s₀.gens= #[]∧s₀.os=c.os∧s₀.drawn=c.dr):s= {s₀ with heap:=s.heap,toks:=s.toks}:=
 A4J (S.gens.trans hs.1.symm) (S.os.trans hs.2.1.symm) (S.dr.trans hs.2.2.symm)
theorem A9t {items:Array Value}{i:Nat}{w v:Value}{vs:List Value}(h: ∀ j,items[i+j]?=(v::vs)[j]?)(e:items[i]?=some w):w=v:=a0E (e.symm.trans (h 0))
theorem A4w {items:Array Value}{i:Nat}{v:Value}{vs:List Value}(h: ∀ j,items[i+j]?=(v::vs)[j]?)(j:Nat):items[i+1+j]?=vs[j]?:=by
 have:=h (j+1)
 rw [show i+ (j+1)=i+1+j from by lia] at this
 exact this
def Raised (c:Fc)(C:Addr)(m:Str→Option Value)(own:List (Addr×Obj))(e:Value)(s':Shared):Prop:=
 ∃ a t vs G own',e= .ref a∧Fr c.h₀ c.L G m∧G.UpToSlots s'.heap∧RaisedS c.base G (c.env::c.outer) a (.ref C) t vs (own'++ (own++c.news)) s'.heap∧s'.gens= #[]∧s'.os=c.os∧s'.drawn=c.dr
def Calls (G:Gx)(C:Addr)(n:Nat)(Z:Held)(f:Addr)(args:Args)(post:Held→Value→Prop)(raises:Prop):Prop:=
 ∀ (c:Fc) (A:Around) (m:Str→Option Value) (own:List (Addr×Obj)) (s:Shared) (R:Result→Shared→Prop),
  c.Ok G A→Room A n→St c m own s→Z.le (vis c own)→
  (∀ own' v s',St c m (own'++own) s'→post (vis c (own'++own)) v→R (.ok (.ret v)) s')→
  (∀ e s',raises→Raised c C m own e s'→R (.error e) s')→
  codeAny G.M A (.call (.ref f) args) R s
theorem Calls.mono {G:Gx}{C:Addr}{n n':Nat}{Z Z':Held}{f:Addr}{args:Args}{post post':Held→Value→Prop}{r r':Prop}(h:Calls G C n Z f args post r)(hn:n≤n')(hZ:Z.le Z')(hp: ∀ H v,post H v→post' H v)(hr:r→r'):
  Calls G C n' Z' f args post' r':=fun c A m own s R ok room S le k e=>
 h c A m own s R ok (room.less hn) S (hZ.trans le) (fun own' v s' S' p=>k own' v s' S' (hp _ _ p)) fun x s' q=>e x s' (hr q)
structure Ends (G:Gx)(C:Addr)(c:Fc)(A:Around)(own:List (Addr×Obj))(raises:Prop)(E:Value→Shared→Prop):Prop where
 made:raises→ ∀ h m' own' e vs s',Heap.MadeExcOf h s'.heap e (.ref C) vs→Fr c.h₀ c.L h m'→News c.h₀ c.L h (own'++own++c.news)→s'.gens= #[]→s'.os=c.os→s'.drawn=c.dr→E (.ref e) s'
 came:raises→ ∀ m' own' e s',Raised c C m' (own'++own) e s'→E e s'
 own:PassesOwn G.M A c.env E
theorem Ends.more {G:Gx}{C:Addr}{c:Fc}{A:Around}{own own':List (Addr×Obj)}{r:Prop}{E:Value→Shared→Prop}(X:Ends G C c A own r E):Ends G C c A (own'++own) r E:=
 ⟨fun q h m' o e vs s' x F N=>X.made q h m' (o++own') e vs s' x F (by rw [a0C o];exact N),fun q m' o e s' x=>X.came q m' (o++own') e s' (by rw [a0C];exact x),X.own⟩
theorem Ends.less {G:Gx}{C:Addr}{c:Fc}{A:Around}{own:List (Addr×Obj)}{r r':Prop}{E:Value→Shared→Prop}(X:Ends G C c A own r E)(h:r'→r):Ends G C c A own r' E:=
 ⟨fun q=>X.made (h q),fun q=>X.came (h q),X.own⟩
section
variable {M:Model}{A:Around}{E:Value→Shared→Prop}{s':Shared}{base g g₂ h:Heap}{outer:List Env}{L e t:Addr}{m:Str→Option Value}{env:Env}{Q:Unit→Shared→Prop}{news:List (Addr×Obj)}
theorem B0G {b:Addr}(hf:env.frame=some L)(hm:b∈ (env::outer).filterMap (·.frame)):b=L∨b∈outer.filterMap (·.frame):=by
 obtain⟨env',he,hf'⟩:=List.mem_filterMap.mp hm
 rcases a0T.mp he with rfl| he
 ·exact .inl (a0E (hf.symm.trans hf')).symm
 ·exact .inr (List.mem_filterMap.mpr ⟨env',he,hf'⟩)
theorem A1R {cls:Value}{vs:List Value}(hf:env.frame=some L)(K:Below A base outer g)(hx:Heap.MadeExcOf h s'.heap e cls vs)(F:Fr g L h m)(N:News g L h news)
  (hQ: ∀ h' t,RaisedS base g outer e cls t vs news h'→g.UpToSlots h'→Q () {s' with heap:=h'}) (hk:env.scope.kind= .function):
  wpAny M (A.deeper env) (leaving env (.ref e)) Q E s':=by
 have K':=pushX K F hf hk
 have hin: ∀ env'∈ (env::outer),∀ b,env'.frame=some b→b∈ (env::outer).filterMap (·.frame):=fun env he b hb=>List.mem_filterMap.mpr ⟨env,he,hb⟩
 have st:base.StaysIn (hideAll h ((env::outer).filterMap (·.frame))):=fun b o q=>hideAll_get _ (K'.stays b o q) fun hm=>by
  rw [(K'.frames.mem hm).1] at q;exact x0 q
 have sg: ∀ b o,g.get? b=some o→b∉outer.filterMap (·.frame)→(hideAll h ((env::outer).filterMap (·.frame))).get? b=some o:=fun b o q nm=>hideAll_get _ (F.keep b o q) fun hm=>by
  rcases B0G hf hm with z| z
  ·rw [z,kts_self F] at q
   exact x0 q
  ·exact nm z
 have hl: ∀ q∈news,(hideAll h ((env::outer).filterMap (·.frame))).get? q.1=some q.2∧g.get? q.1=none∧base.get? q.1=none:=fun q hq=>by
  refine⟨hideAll_get _ (N q hq).1 fun hm=> ?_,(N q hq).2.2,fresh_of_stays K.stays (N q hq).2.2⟩
  obtain⟨env',he,hf'⟩:=List.mem_filterMap.mp hm
  rcases a0T.mp he with rfl| he
  ·exact(N q hq).2.1 (a0E (hf.symm.trans hf')).symm
  ·obtain⟨o,ho,_⟩:=(K.frames.mem (List.mem_filterMap.mpr ⟨env',he,hf'⟩)).2
   rw [(N q hq).2.2] at ho;exact x0 ho
 exact wpAny_leaves_madeW K'.stack hf (fun b o q=>of_hideAll _ q) (funFrames_hide K'.frames hin) hx fun h' t x1 x2 x3 x4=>
  have R:RaisedS base g outer e cls t vs news h':=⟨⟨_,st,sg,hl,x1,x3⟩,x2⟩
  hQ h' t R (((Heap.UpToSlots.of_keeps F.keep).trans (Heap.UpToSlots.of_keeps hx.keeps)).trans x4)
theorem A3x {cls:Value}{vs:List Value}(hf:env.frame=some L)(K:Below A base outer g)(F:Fr g L g₂ m)(R:RaisedS base g₂ (env::outer) e cls t vs news s'.heap)(hsm:g₂.UpToSlots s'.heap)
  (hQ: ∀ h',RaisedS base g outer e cls t vs news h'→g.UpToSlots h'→Q () {s' with heap:=h'}):
  wpAny M (A.deeper env) (leaving env (.ref e)) Q E s':=by
 obtain⟨⟨B,hB,hBG,hl,hfl,hnew⟩,htup⟩:=R
 exact wpAny_leaves_onW (a2M K.stack) hf hfl fun h' x1 x2=>
  have R:RaisedS base g outer e cls t vs news h':=⟨⟨B,hB,fun b o q nm=>hBG b o (F.keep b o q) (fun hm=>by
   rcases B0G hf hm with z| z
   ·rw [z,kts_self F] at q
    exact x0 q
   ·exact nm z),fun q hq=>⟨(hl q hq).1,kts_none F.keep (hl q hq).2.1,(hl q hq).2.2⟩,x1,hnew⟩,htup.of_slots x2⟩
  hQ h' R ((Heap.UpToSlots.of_keeps F.keep).trans (hsm.trans x2))
end
structure Fd where
 name:Str
 qual:Str
 params:Arguments
 body:List Stmt
 scope:Scope
 cl:List (Str×Addr)
 dV:Value
 kV:Value
 doc:Value
 pm:Value
 an:Option Addr
 cdv:Value
 ct:Value
noncomputable def Fd.data (d:Fd):FuncData:=fnX d.name d.qual d.params d.body d.scope d.cl d.dV d.kV d.doc d.pm d.an d.cdv d.ct
noncomputable def Fd.env (d:Fd)(f L:Addr):Env:=envX d.qual d.scope L f d.cdv d.cl
set_option backward.match.sparseCases false in
noncomputable def B4t:Option Obj→Option FuncData
 | some o=>(match o.data with
  | .func fd=>some fd
  | _=>none)
 | none=>none
theorem B4s {o:Option Obj}{fd:FuncData}(h:B4t o=some fd): ∃ a b sl,o=some ⟨a,b,.func fd,sl⟩:=by
 cases o with
 | none=>exact x0 h
 | some o=>
  obtain⟨a,b,dt,e⟩:=o
  cases dt with
  | func ws=>exact⟨a,b,e,by rw [←a0E h]⟩
  | _=>exact x0 h
set_option backward.match.sparseCases false in
noncomputable def B3e:FuncBody→Option (List Stmt)
 | .stmts b=>some b
 | _=>none
theorem B1w {o:FuncBody}{b:List Stmt}(h:B3e o=some b):o= .stmts b:=by
 cases o with
 | stmts=>exact congrArg FuncBody.stmts (a0E h)
 | _=>exact x0 h
noncomputable def A2V (K:Frag)(f:Addr):Option Fd:=(B4t (K.lookup f)).bind fun fd=>(B3e fd.body).map fun b=>⟨fd.name,fd.qualname,fd.params,b,fd.scope,fd.closure,fd.defaults,fd.kwdefaults,fd.doc,fd.pyModule,fd.annotations,fd.code,fd.closureTuple⟩
noncomputable def B0S (K:Frag)(f:Addr)(t:Bool):Bool:=(B4t (K.lookup f)).any fun fd=>fd.globals==mainGlobals&&fd.builtins==builtinsNs&&t
noncomputable def A0H (K:Frag)(f:Addr)(d:Fd):Bool:=B0S K f (codeIn K d.cdv d.qual&&d.scope.names.all (fun x=>x.2 != .cell)&& !d.scope.isCoroutine&& !d.scope.isGenerator&&d.scope.kind== .function)
theorem C0o (fd:FuncData)(b:List Stmt)(h1:fd.body= .stmts b)(h2:fd.globals=mainGlobals)(h3:fd.builtins=builtinsNs):fnX fd.name fd.qualname fd.params b fd.scope fd.closure fd.defaults fd.kwdefaults fd.doc fd.pyModule fd.annotations fd.code fd.closureTuple=fd:=by
 unfold fnX
 rw [←h1,←h2,←h3]
theorem A3z {K:Frag}{f:Addr}{d:Fd}{t:Bool}(e:A2V K f=some d)(q:B0S K f t=true): ∃ oc od sl,K.lookup f=some ⟨oc,od,.func d.data,sl⟩∧t=true:=by
 refine x3 e fun fd h1 e=>x4e e fun b h2 ed=> ?_
 obtain⟨a,c,sl,hk⟩:=B4s h1
 unfold B0S at q
 rw [h1] at q
 exact x6 q fun q1 q2 ht=>⟨a,c,sl,by rw [hk,show d.data=fd by rw [ed];exact C0o fd b (B1w h2) (a0D q1) (a0D q2)],ht⟩
theorem B9W {K:Frag}{h:Heap}(X:K.In h){f:Addr}{d:Fd}(e:A2V K f=some d)(q:A0H K f d=true): ∃ o,h.get? f=some o∧o.data= .func d.data∧h.CodeRec d.cdv d.qual∧(∀ x∈d.scope.names,x.2≠ .cell)∧
  d.scope.isCoroutine=false∧d.scope.isGenerator=false∧d.scope.kind= .function:=by
 obtain⟨oc,od,sl,ho,ht⟩:=A3z e q
 exact x8 ht fun q3 q4 q5 q6 q7=>⟨_,X _ _ ho,rfl,codeRec_of X q3,fun x hx=>bne_iff_ne.mp (a0J.mp q4 x hx),xn q5,xn q6,a0D q7⟩
def C5P (G:Gx)(C:Addr)(n:Nat)(Z:Held)(f:Addr)(d:Fd)(binds:List (Str×Value))(post:Held→Value→Prop)(raises:Prop):Prop:=
 ∀ (c:Fc) (A:Around) (s:Shared) (Q:Flow→Shared→Prop) (E:Value→Shared→Prop),
  c.Ok G A→c.env=d.env f c.L→Room A n→St c (fun y=>binds.reverse.lookup y) [] s→Z.le (vis c [])→
  (∀ own m' fl s',St c m' own s'→post (vis c own) (match fl with| .ret v=>v| _=> .none)→Q fl s')→Ends G C c A [] raises E→
  wpAny G.M A (execs d.body c.env) Q E s
theorem A3J {G:Gx}{C:Addr}{n:Nat}{Z:Held}{f:Addr}{d:Fd}{args:Args}{binds:List (Str×Value)}{post:Held→Value→Prop}{raises:Prop}
  (e:A2V G.K f=some d) (q:A0H G.K f d=true) (hbind: ∀ s,G.K.In s.heap→BindsTo s d.data args binds) (hloc: ∀ y∈binds,d.scope.names.lookup y.1=some .local)
  (hp: ∀ H H' v,Held.le H H'→post H v→post H' v) (hb:C5P G C n Z f d binds post raises):Calls G C (n+1) Z f args post raises:=by
 intro c A m own s R ok room S le k er
 obtain⟨o,ho,hd,hc,h1,h2,h3,h4⟩:=B9W (S.X ok) e q
 obtain⟨A₀,B⟩:=ok.below
 refine callX_plain (prog:=G.prog) (w:=G.w) B S.F S.N ok.T₀.nolimit ok.frames ok.frame ok.kind ho hd hc room.depth (hbind s (S.X ok)) hloc (fun g L' h₁ FG F' N' B' st lt=> ?_) h1 h2 h3 h4
 let c':Fc:=⟨c.base,c.env::c.outer,g,L',d.env f L',own++c.news,vis c own,c.os,c.dr⟩
 have S':St c' (fun y=>binds.reverse.lookup y) [] {s with heap:=h₁,toks:=s.toks+binds.length}:=⟨F',N',S.gens,S.os,S.dr⟩
 have ok':c'.Ok G (A.deeper (d.env f L')):=⟨⟨_,B'⟩,a2M B'.stack,rfl,h4,ok.free,ok.XB,ok.TB,ok.vis_held.trans (A1f st)⟩
 refine hb c' _ _ _ _ ok' rfl (room.deeper (a1A n)) S' (le.trans fun Ω Ω=> .inl) (fun own' m' fl s' S₂ p=> ?_) ⟨fun hr h m' own' e vs s' hx F N hg hos hdr=> ?_,fun hr m' own' e s' x=> ?_,PassesOwn.leaving⟩
 ·refine leaveK_ S₂.F S₂.N fun F₃ N₃=>k own' _ s' ⟨F₃,by rw [a0C];exact N₃,S₂.gens,S₂.os,S₂.dr⟩ ?_
  refine hp _ _ _ ?_ p
  exact fun a o h=>h.elim (fun z=>A0a a o z) fun z=> .inr (a0H _ z)
 ·exact A1R rfl B' hx F N (fun h' t R U=>er _ _ hr ⟨e,t,vs,g,own'++ [],rfl,FG,U,R,hg,hos,hdr⟩) h4
 ·obtain⟨a,t,vs,G',own'',rfl,FG',U,R,hg,hos,hdr⟩:=x
  refine A3x rfl B' FG' (by rw [←a0C] at R;exact R) U (fun h' R U=>er _ _ hr ⟨a,t,vs,g,own''++ (own'++ []),rfl,FG,U,R,hg,hos,hdr⟩)
noncomputable def A3i:List (Int×Int)→Int→Int
 | [],q=>q
 | (d,b)::ds,q=>d+b*A3i ds q
noncomputable def A1h:List (Int×Int)→Bool
 | []=>true
 | (d,b)::ds=>decide (0≤d)&&decide (d<b)&&A1h ds
inductive SV where
 | dig (ds:List (Int×Int)) (q:Int)
 | none
 | bool (b:Bool)
 | int (i:Int)
 | bint (i lo hi:Int)
 | str (s:Str) (n:Nat)
 | pstr (s:Str) (z o n d u:Bool)
 | bytes (r:List UInt8) (n:Nat)
noncomputable def inS (x y:Str):Bool:= !(Builtin.Str.occurrences y x 0 y.length 1).isEmpty
noncomputable def A2x (s:Str)(c:Nat):Bool:=inS ⟨#[c]⟩ s
inductive SRep:Value→SV→Prop
 | dig {ds q t}:A1h ds=true→SRep (.int (A3i ds q) t) (.dig ds q)
 | none:SRep .none .none
 | bool {b}:SRep (.bool b) (.bool b)
 | int {i t}:SRep (.int i t) (.int i)
 | bint {i t lo hi}:lo≤i→i≤hi→SRep (.int i t) (.bint i lo hi)
 | str {s t n}:s.length≤n→SRep (.str s t) (.str s n)
 | pstr {s t}:s.length≤16→SRep (.str s t) (.pstr s (A2x s 122) (A2x s 111) (A2x s 110) (A2x s 100) (A2x s 117))
 | bytes {b t r n}:b.toList=r.reverse→r.length≤n→SRep (.bytes b t) (.bytes r n)
structure D where
 n:Nat
 meths:List (Str×SV)
 props:List (Str×SV)
 own:List (Str×SV)
 spec:List (Str×SV)
 isa:List (Addr×Bool)
 ver:Option Bool
inductive V where
 | s (v:SV)
 | k (v:Value)
 | tup (l:List V)
 | list (l:List V)
 | inst (C:Addr) (fs:List (Str×V))
 | abs (d:D)
noncomputable def A1o (K:Frag)(C:Addr):Bool:=plainGet K C Str.empty&&hasDictIn K C&&noSeq K C&&findIn K (.ref C) "__class__" ==some (some (.builtin "object.__class__"))&&
 specialIn K (.builtin "object.__class__") "__get__" ==some (some (.builtin "getset_descriptor.__get__"))&&takesIn K (.builtin "object.__class__")==some true&&mroIn K C (.type "object")==some true
structure ConAt (G:Gx)(C₀:Addr)(Z:Held)(x:Addr)(d:D)(C:Addr)(es:List DictEntry):Prop where
 plain:A1o G.K C=true
 meths: ∀ p∈d.meths,∃ f,findIn G.K (.ref C) p.1=some (some (.ref f))∧isFn G.K (.ref f)=true∧keepIn G.K (.ref f)=true∧getL p.1 es=some none∧Calls G C₀ d.n Z f ⟨[.ref x],[]⟩ (fun Ω v=>SRep v p.2) False
 props: ∀ p∈d.props,∃ q fget rest,findIn G.K (.ref C) p.1=some (some (.ref q))∧specialIn G.K (.ref q) "__get__" =some (some (.builtin "property.__get__"))∧takesIn G.K (.ref q)=some true∧
  recIn G.K q "property" =some (.ref fget::rest)∧Calls G C₀ d.n Z fget ⟨[.ref x],[]⟩ (fun Ω v=>SRep v p.2) False
 own: ∀ p∈d.own,findIn G.K (.ref C) p.1=some none∧ ∃ v,getL p.1 es=some (some v)∧SRep v p.2
 spec: ∀ p∈d.spec,∃ f,findIn G.K (.ref C) p.1=some (some (.ref f))∧isFn G.K (.ref f)=true∧Calls G C₀ d.n Z f ⟨[.ref x],[]⟩ (fun Ω v=>SRep v p.2) False
 isa: ∀ p∈d.isa,(if p.2 then isIn G.K (.ref C) p.1 else kin_not G.K C p.1)=true
 ver: ∀ b,d.ver=some b→ ∃ f,findIn G.K (.ref C) "verify" =some (some (.ref f))∧isFn G.K (.ref f)=true∧keepIn G.K (.ref f)=true∧getL "verify" es=some none∧
  Calls G C₀ d.n Z f ⟨[.ref x],[]⟩ (fun Ω v=>b=true∧v= .none) (b=false)
def Con (G:Gx)(C₀:Addr)(Z:Held)(x:Addr)(d:D):Prop:=
 ∃ C dx es n,Z x ⟨.ref C,some dx,.plain,#[]⟩∧Z dx (dictOf es n)∧ConAt G C₀ Z x d C es
theorem ConAt.mono {G:Gx}{C₀:Addr}{Z Z':Held}{x:Addr}{d:D}{C:Addr}{es:List DictEntry}(h:ConAt G C₀ Z x d C es)(k:Z.le Z'):ConAt G C₀ Z' x d C es:=by
 have up: ∀ {n f args post r},Calls G C₀ n Z f args post r→Calls G C₀ n Z' f args post r:=fun e=>e.mono (a0K _) k (fun Ω Ω z=>z) id
 refine⟨h.plain,fun p hp=> ?_,fun p hp=> ?_,h.own,fun p hp=> ?_,h.isa,fun b hb=> ?_⟩
 ·obtain⟨f,a,b,b',c,e⟩:=h.meths p hp;exact⟨f,a,b,b',c,up e⟩
 ·obtain⟨q,f,r,a,b,c,c',e⟩:=h.props p hp;exact⟨q,f,r,a,b,c,c',up e⟩
 ·obtain⟨f,a,b,e⟩:=h.spec p hp;exact⟨f,a,b,up e⟩
 ·obtain⟨f,a,b,b',c,e⟩:=h.ver b hb;exact⟨f,a,b,b',c,up e⟩
theorem Con.mono {G:Gx}{C₀:Addr}{Z Z':Held}{x:Addr}{d:D}(h:Con G C₀ Z x d)(k:Z.le Z'):Con G C₀ Z' x d:=by
 obtain⟨C,dx,es,n,a,b,e⟩:=h;exact⟨C,dx,es,n,k _ _ a,k _ _ b,e.mono k⟩
noncomputable def nc (Z:Held):Held:=fun a o=>Z a o∧o.data≠ .cell none
theorem C4l {Z:Held}:Held.le (nc Z) Z:=fun Ω Ω h=>h.1
theorem B9p {Z Z':Held}(k:Z.le Z'):Held.le (nc Z) (nc Z'):=fun a o h=>⟨k a o h.1,h.2⟩
theorem C4k {Z:Held}:Held.le (nc Z) (nc (nc Z)):=fun Ω Ω h=>⟨h,h.2⟩
mutual
inductive Rep (G:Gx)(C₀:Addr)(Z:Held):Value→V→Prop
 | s {v r}:SRep v r→Rep G C₀ Z v (.s r)
 | k {v}:Rep G C₀ Z v (.k v)
 | tup {a vs n rs}:Z a ⟨.type "tuple",none,.seq (List.toArray vs) n,#[]⟩→Reps G C₀ Z vs rs→Rep G C₀ Z (.ref a) (.tup rs)
 | list {a vs n rs}:Z a ⟨.type "list",none,.seq (List.toArray vs) n,#[]⟩→Reps G C₀ Z vs rs→Rep G C₀ Z (.ref a) (.list rs)
 | inst {a C dx es n fs}:Z a ⟨.ref C,some dx,.plain,#[]⟩→Z dx (dictOf es n)→Flds G C₀ Z es fs→Rep G C₀ Z (.ref a) (.inst C fs)
 | abs {a d}:Con G C₀ (nc Z) a d→Rep G C₀ Z (.ref a) (.abs d)
inductive Reps (G:Gx)(C₀:Addr)(Z:Held):List Value→List V→Prop
 | nil:Reps G C₀ Z [] []
 | cons {v r vs rs}:Rep G C₀ Z v r→Reps G C₀ Z vs rs→Reps G C₀ Z (v::vs) (r::rs)
inductive Flds (G:Gx)(C₀:Addr)(Z:Held):List DictEntry→List (Str×V)→Prop
 | nil:Flds G C₀ Z [] []
 | cons {h k t v r es fs}:Rep G C₀ Z v r→Flds G C₀ Z es fs→Flds G C₀ Z (⟨h,.str k t,v⟩::es) ((k,r)::fs)
end
def C7d (v:Value):SV→Prop
 | .dig ds q=> ∃ t,v= .int (A3i ds q) t∧A1h ds=true
 | .none=>v= .none
 | .bool b=>v= .bool b
 | .int i=> ∃ t,v= .int i t
 | .bint i lo hi=> ∃ t,v= .int i t∧lo≤i∧i≤hi
 | .str s n=> ∃ t,v= .str s t∧s.length≤n
 | .pstr s _ _ _ _ _=> ∃ t,v= .str s t∧s.length≤16
 | .bytes r n=> ∃ b t,v= .bytes b t∧b.toList=r.reverse∧r.length≤n
theorem SRep.inv {v:Value}{r:SV}(h:SRep v r):C7d v r:=by
 cases h with
 | dig h=>exact⟨_,rfl,h⟩
 | none=>exact rfl
 | bool=>exact rfl
 | int=>exact⟨_,rfl⟩
 | bint a b=>exact⟨_,rfl,a,b⟩
 | str h=>exact⟨_,rfl,h⟩
 | pstr h=>exact⟨_,rfl,h⟩
 | bytes a b=>exact⟨_,_,rfl,a,b⟩
def C7e (G:Gx)(C₀:Addr)(Z:Held)(v:Value):V→Prop
 | .s r=>SRep v r
 | .k w=>v=w
 | .tup rs=> ∃ a vs n,v= .ref a∧Z a ⟨.type "tuple",none,.seq (List.toArray vs) n,#[]⟩∧Reps G C₀ Z vs rs
 | .list rs=> ∃ a vs n,v= .ref a∧Z a ⟨.type "list",none,.seq (List.toArray vs) n,#[]⟩∧Reps G C₀ Z vs rs
 | .inst C fs=> ∃ a dx es n,v= .ref a∧Z a ⟨.ref C,some dx,.plain,#[]⟩∧Z dx (dictOf es n)∧Flds G C₀ Z es fs
 | .abs d=> ∃ a,v= .ref a∧Con G C₀ (nc Z) a d
section
variable {motive:Value→Prop}{v:Value}
theorem SRep.digI {ds q}(h:SRep v (.dig ds q)): ∃ t,v= .int (A3i ds q) t∧A1h ds=true:=h.inv
theorem SRep.boolI {i}(h:SRep v (.bool i)):v= .bool i:=h.inv
theorem SRep.noneI (h:SRep v .none):v= .none:=h.inv
theorem SRep.intI {i}(h:SRep v (.int i)): ∃ t,v= .int i t:=h.inv
theorem SRep.strI {s n}(h:SRep v (.str s n)): ∃ t,v= .str s t∧s.length≤n:=h.inv
theorem SRep.pstrI {s z o n d u}(h:SRep v (.pstr s z o n d u)): ∃ t,v= .str s t∧s.length≤16:=h.inv
theorem SRep.bytesI {r n}(h:SRep v (.bytes r n)): ∃ b t,v= .bytes b t∧b.toList=r.reverse∧r.length≤n:=h.inv
theorem SRep.bintI {i lo hi}(h:SRep v (.bint i lo hi)): ∃ t,v= .int i t∧lo≤i∧i≤hi:=h.inv
@[elab_as_elim] theorem SRep.digE {ds q} (h:SRep v (.dig ds q)) (k: ∀ t,A1h ds=true→motive (.int (A3i ds q) t)):motive v:=by obtain⟨t,rfl,a⟩:=h.digI;exact k t a
@[elab_as_elim] theorem SRep.noneE (h:SRep v .none) (k:motive .none):motive v:=h.noneI▸k
@[elab_as_elim] theorem SRep.boolE {b} (h:SRep v (.bool b)) (k:motive (.bool b)):motive v:=h.boolI▸k
@[elab_as_elim] theorem SRep.intE {i} (h:SRep v (.int i)) (k: ∀ t,motive (.int i t)):motive v:=by obtain⟨t,rfl⟩:=h.intI;exact k t
@[elab_as_elim] theorem SRep.bintE {i lo hi} (h:SRep v (.bint i lo hi)) (k: ∀ t,lo≤i→i≤hi→motive (.int i t)):motive v:=by obtain⟨t,rfl,a,b⟩:=h.bintI;exact k t a b
@[elab_as_elim] theorem SRep.strE {s n} (h:SRep v (.str s n)) (k: ∀ t,s.length≤n→motive (.str s t)):motive v:=by obtain⟨t,rfl,a⟩:=h.strI;exact k t a
@[elab_as_elim] theorem SRep.bytesE {r n} (h:SRep v (.bytes r n)) (k: ∀ b t,b.toList=r.reverse→r.length≤n→motive (.bytes b t)):motive v:=by obtain⟨b,t,rfl,x,y⟩:=h.bytesI;exact k b t x y
variable {G:Gx}{C₀:Addr}{Z:Held}
theorem Rep.inv {r:V}(h:Rep G C₀ Z v r):C7e G C₀ Z v r:=by
 cases h with
 | s h=>exact h
 | k=>exact rfl
 | tup a b=>exact⟨_,_,_,rfl,a,b⟩
 | list a b=>exact⟨_,_,_,rfl,a,b⟩
 | inst a b c=>exact⟨_,_,_,_,rfl,a,b,c⟩
 | abs h=>exact⟨_,rfl,h⟩
theorem Rep.sI {r}(h:Rep G C₀ Z v (.s r)):SRep v r:=h.inv
theorem Rep.kI {w}(h:Rep G C₀ Z v (.k w)):v=w:=h.inv
theorem Rep.tupI {rs}(h:Rep G C₀ Z v (.tup rs)): ∃ a vs n,v= .ref a∧Z a ⟨.type "tuple",none,.seq (List.toArray vs) n,#[]⟩∧Reps G C₀ Z vs rs:=h.inv
theorem Rep.listI {rs}(h:Rep G C₀ Z v (.list rs)): ∃ a vs n,v= .ref a∧Z a ⟨.type "list",none,.seq (List.toArray vs) n,#[]⟩∧Reps G C₀ Z vs rs:=h.inv
theorem Rep.inst_at {C fs}(h:Rep G C₀ Z v (.inst C fs)): ∃ x dx es k,v= .ref x∧Z x ⟨.ref C,some dx,.plain,#[]⟩∧Z dx (dictOf es k)∧Flds G C₀ Z es fs:=h.inv
theorem Rep.absI {d}(h:Rep G C₀ Z v (.abs d)): ∃ a,v= .ref a∧Con G C₀ (Internal.nc Z) a d:=h.inv
@[elab_as_elim] theorem Rep.kE {w} (h:Rep G C₀ Z v (.k w)) (k:motive w):motive v:=h.kI▸k
@[elab_as_elim] theorem Rep.tupE {rs} (h:Rep G C₀ Z v (.tup rs)) (k: ∀ a vs n,Z a ⟨.type "tuple",none,.seq (List.toArray vs) n,#[]⟩→Reps G C₀ Z vs rs→motive (.ref a)):motive v:=by obtain⟨a,vs,n,rfl,x,y⟩:=h.tupI;exact k a vs n x y
@[elab_as_elim] theorem Rep.listE {rs} (h:Rep G C₀ Z v (.list rs)) (k: ∀ a vs n,Z a ⟨.type "list",none,.seq (List.toArray vs) n,#[]⟩→Reps G C₀ Z vs rs→motive (.ref a)):motive v:=by obtain⟨a,vs,n,rfl,x,y⟩:=h.listI;exact k a vs n x y
@[elab_as_elim] theorem Rep.instE {C fs} (h:Rep G C₀ Z v (.inst C fs)) (k: ∀ a dx es n,Z a ⟨.ref C,some dx,.plain,#[]⟩→Z dx (dictOf es n)→Flds G C₀ Z es fs→motive (.ref a)):motive v:=by obtain⟨a,dx,es,n,rfl,x,y,z⟩:=h.inst_at;exact k a dx es n x y z
@[elab_as_elim] theorem Rep.absE {d} (h:Rep G C₀ Z v (.abs d)) (k: ∀ a,Con G C₀ (Internal.nc Z) a d→motive (.ref a)):motive v:=by obtain⟨a,rfl,x⟩:=h.absI;exact k a x
def C5g (G:Gx)(C₀:Addr)(Z:Held)(vs:List Value):List V→Prop
 | []=>vs= []
 | r::rs=> ∃ v vs',vs=v::vs'∧Rep G C₀ Z v r∧Reps G C₀ Z vs' rs
def C5j (G:Gx)(C₀:Addr)(Z:Held)(es:List DictEntry):List (Str×V)→Prop
 | []=>es= []
 | p::fs=> ∃ h t v es',es=⟨h,.str p.1 t,v⟩::es'∧Rep G C₀ Z v p.2∧Flds G C₀ Z es' fs
theorem Reps.inv {vs rs}(h:Reps G C₀ Z vs rs):C5g G C₀ Z vs rs:=by
 cases h with
 | nil=>exact rfl
 | cons a b=>exact⟨_,_,rfl,a,b⟩
theorem Flds.inv {vs rs}(h:Flds G C₀ Z vs rs):C5j G C₀ Z vs rs:=by
 cases h with
 | nil=>exact rfl
 | cons a b=>exact⟨_,_,_,_,rfl,a,b⟩
theorem Reps.nilI {vs}(h:Reps G C₀ Z vs []):vs= []:=h.inv
theorem Reps.consI {vs r rs}(h:Reps G C₀ Z vs (r::rs)): ∃ v vs',vs=v::vs'∧Rep G C₀ Z v r∧Reps G C₀ Z vs' rs:=h.inv
theorem Flds.nilI {vs}(h:Flds G C₀ Z vs []):vs= []:=h.inv
theorem Flds.consI {es p fs}(h:Flds G C₀ Z es (p::fs)): ∃ h t v es',es=⟨h,.str p.1 t,v⟩::es'∧Rep G C₀ Z v p.2∧Flds G C₀ Z es' fs:=h.inv
@[elab_as_elim] theorem Reps.nilE {motive:List Value→Prop} {vs} (h:Reps G C₀ Z vs []) (k:motive []):motive vs:=h.nilI▸k
@[elab_as_elim] theorem Reps.consE {motive:List Value→Prop} {vs r rs} (h:Reps G C₀ Z vs (r::rs)) (k: ∀ v vs,Rep G C₀ Z v r→Reps G C₀ Z vs rs→motive (v::vs)):motive vs:=by obtain⟨v,vs',rfl,a,b⟩:=h.consI;exact k v vs' a b
theorem Rep.sE {r}{P:Prop}(h:Rep G C₀ Z v (.s r))(k:SRep v r→P):P:=k h.sI
end
section
variable {G:Gx}{C₀:Addr}{Z Z':Held}
theorem Rep.map (k: ∀ a o,Z a o→o.data≠ .cell none→Z' a o)(kc: ∀ a d,Con G C₀ (Internal.nc Z) a d→Con G C₀ (Internal.nc Z') a d){v r}(h:Rep G C₀ Z v r):Rep G C₀ Z' v r:=
 Rep.rec (motive_1:=fun v r Ω=>Rep G C₀ Z' v r) (motive_2:=fun v r Ω=>Reps G C₀ Z' v r) (motive_3:=fun v r Ω=>Flds G C₀ Z' v r) .s .k (fun a Ω ih=> .tup (k _ _ a fun e=>nomatch e) ih) (fun a Ω ih=> .list (k _ _ a fun e=>nomatch e) ih)
  (fun a b Ω ih=> .inst (k _ _ a fun e=>nomatch e) (k _ _ b fun e=>nomatch e) ih) (fun h=> .abs (kc _ _ h)) .nil (fun Ω Ω a b=> .cons a b) .nil (fun Ω Ω a b=> .cons a b) h
theorem Rep.mono (k:Z.le Z'){v r}(h:Rep G C₀ Z v r):Rep G C₀ Z' v r:=h.map (fun a o z Ω=>k a o z) fun Ω Ω c=>c.mono (B9p k)
theorem Rep.nc {v r}(h:Rep G C₀ Z v r):Rep G C₀ (nc Z) v r:=h.map (fun a o z e=>⟨z,e⟩) fun Ω Ω c=>c.mono C4k
theorem Reps.map (f: ∀ {v r},Rep G C₀ Z v r→Rep G C₀ Z' v r){rs}: ∀ {vs},Reps G C₀ Z vs rs→Reps G C₀ Z' vs rs:=by
 induction rs with
 | nil=>exact fun h=>h.nilE .nil
 | cons r rs ih=>exact fun h=>h.consE fun Ω Ω a b=> .cons (f a) (ih b)
theorem Flds.map (f: ∀ {v r},Rep G C₀ Z v r→Rep G C₀ Z' v r){rs}: ∀ {vs},Flds G C₀ Z vs rs→Flds G C₀ Z' vs rs:=by
 induction rs with
 | nil=>exact fun h=>by rw [h.nilI];exact .nil
 | cons r rs ih=>
  intro vs h
  obtain⟨_,_,_,_,rfl,a,b⟩:=h.consI
  exact .cons (f a) (ih b)
theorem Reps.mono (k:Z.le Z'){v r}(h:Reps G C₀ Z v r):Reps G C₀ Z' v r:=h.map fun a=>a.mono k
theorem Flds.mono (k:Z.le Z'){v r}(h:Flds G C₀ Z v r):Flds G C₀ Z' v r:=h.map fun a=>a.mono k
noncomputable abbrev Loc:=List (Str×V)
def Locs (G:Gx)(C₀:Addr)(Z:Held)(m:Str→Option Value)(ρ:Loc):Prop:= ∀ x r,ρ.lookup x=some r→ ∃ v,m x=some v∧Rep G C₀ Z v r
theorem Locs.mono {m:Str→Option Value}{ρ:Loc}(h:Locs G C₀ Z m ρ)(k:Z.le Z'):Locs G C₀ Z' m ρ:=fun x r e=>let ⟨v,a,b⟩:=h x r e; ⟨v,a,b.mono k⟩
theorem Locs.set {m:Str→Option Value}{ρ:Loc}{x:Str}{v:Value}{r:V}(h:Locs G C₀ Z m ρ)(hv:Rep G C₀ Z v r):Locs G C₀ Z (fun y=>if y=x then some v else m y) ((x,r)::ρ):=fun y r' e=>by
 rw [a0M] at e
 cases q:y==x with
 | true=>rw [q] at e;exact⟨v,if_pos (a0D q),x1 e hv⟩
 | false=>rw [q] at e;exact let ⟨w,a,b⟩:=h y r' e; ⟨w,(if_neg (ne_of_beq_false q)).trans a,b⟩
def Ev (G:Gx)(C₀:Addr)(c:Fc)(A:Around)(m:Str→Option Value)(own:List (Addr×Obj))(t:Sem Value)(r:V):Prop:=
 ∀ s Q E,St c m own s→(∀ own' v s',St c m (own'++own) s'→Rep G C₀ (vis c (own'++own)) v r→Q v s')→wpAny G.M A t Q E s
end
noncomputable def A0V:V→Option SV
 | .s x=>some x
 | _=>none
noncomputable def C0G:V→Option Value
 | .k x=>some x
 | _=>none
set_option backward.match.sparseCases false
noncomputable def A5U:V→Option (List V)
 | .tup l=>some l
 | _=>none
noncomputable def A1V:V→Option (List V)
 | .list l=>some l
 | _=>none
noncomputable def B0n:V→Option D
 | .abs d=>some d
 | _=>none
set_option backward.match.sparseCases true
noncomputable def A4L:V→Option (Addr×List (Str×V))
 | .inst C fs=>some (C,fs)
 | _=>none
noncomputable def A0U:SV→Option Int
 | .int i=>some i
 | _=>none
noncomputable def A2C:SV→Option Bool
 | .bool i=>some i
 | _=>none
noncomputable def A0x:SV→Option (Str×Nat)
 | .str x n=>some (x,n)
 | _=>none
noncomputable def A0q:SV→Option (List UInt8×Nat)
 | .bytes x n=>some (x,n)
 | _=>none
noncomputable def A1m {α:Type}:List α→Option α
 | [a]=>some a
 | _=>none
noncomputable def A7E {α:Type}:List α→Option (α×α)
 | [a,b]=>some (a,b)
 | _=>none
section
variable {a:V}{o:Option V}{y:SV}{p:Option SV}
@[elab_as_elim] theorem A6A {x} {motive:V→Prop} (h:A0V a=some x) (q:motive (.s x)):motive a:=by
 cases a with
 | s=>exact x1' h q
 | _=>exact x0 h
@[elab_as_elim] theorem C1C {x} {motive:V→Prop} (h:C0G a=some x) (q:motive (.k x)):motive a:=by
 cases a with
 | k=>exact x1' h q
 | _=>exact x0 h
@[elab_as_elim] theorem A9a {x} {motive:V→Prop} (h:A5U a=some x) (q:motive (.tup x)):motive a:=by
 cases a with
 | tup=>exact x1' h q
 | _=>exact x0 h
@[elab_as_elim] theorem B0m {x} {motive:V→Prop} (h:A1V a=some x) (q:motive (.list x)):motive a:=by
 cases a with
 | list=>exact x1' h q
 | _=>exact x0 h
@[elab_as_elim] theorem B3u {x} {motive:V→Prop} (h:B0n a=some x) (q:motive (.abs x)):motive a:=by
 cases a with
 | abs=>exact x1' h q
 | _=>exact x0 h
@[elab_as_elim] theorem A4u {x} {motive:V→Prop} (h:A4L a=some x) (q:motive (.inst x.1 x.2)):motive a:=by
 cases a with
 | inst=>cases h;exact q
 | _=>exact x0 h
@[elab_as_elim] theorem A2k {x} {motive:SV→Prop} (h:A0U y=some x) (q:motive (.int x)):motive y:=by
 cases y with
 | int=>exact x1' h q
 | _=>exact x0 h
@[elab_as_elim] theorem A2l {x} {motive:SV→Prop} (h:A2C y=some x) (q:motive (.bool x)):motive y:=by
 cases y with
 | bool=>exact x1' h q
 | _=>exact x0 h
@[elab_as_elim] theorem A0F {x} {motive:SV→Prop} (h:A0x y=some x) (q:motive (.str x.1 x.2)):motive y:=by
 cases y with
 | str=>cases h;exact q
 | _=>exact x0 h
@[elab_as_elim] theorem A1B {x} {motive:SV→Prop} (h:A0q y=some x) (q:motive (.bytes x.1 x.2)):motive y:=by
 cases y with
 | bytes=>cases h;exact q
 | _=>exact x0 h
theorem A0i {x}(h:o.bind A0V=some x):o=some (.s x):=x3 h fun Ω e h=>e.trans (congrArg some (A6A h rfl))
theorem A9b {x}(h:o.bind C0G=some x):o=some (.k x):=x3 h fun Ω e h=>e.trans (congrArg some (C1C h rfl))
theorem A7D {x}(h:o.bind A5U=some x):o=some (.tup x):=x3 h fun Ω e h=>e.trans (congrArg some (A9a h rfl))
theorem A5V {x}(h:o.bind A1V=some x):o=some (.list x):=x3 h fun Ω e h=>e.trans (congrArg some (B0m h rfl))
theorem B3t {x}(h:o.bind B0n=some x):o=some (.abs x):=x3 h fun Ω e h=>e.trans (congrArg some (B3u h rfl))
theorem A2B {x}(h:p.bind A0U=some x):p=some (.int x):=x3 h fun Ω e h=>e.trans (congrArg some (A2k h rfl))
theorem A2d {x}(h:p.bind A0x=some x):p=some (.str x.1 x.2):=x3 h fun Ω e h=>e.trans (congrArg some (A0F h rfl))
theorem A0J {x}(h:p.bind A0q=some x):p=some (.bytes x.1 x.2):=x3 h fun Ω e h=>e.trans (congrArg some (A1B h rfl))
@[elab_as_elim] theorem A1b {α:Type} {l:List α} {x} {motive:List α→Prop} (h:A1m l=some x) (q:motive [x]):motive l:=by
 cases l with
 | nil=>exact x0 h
 | cons a l=>cases l with
  | nil=>exact x1' h q
  | cons=>exact x0 h
@[elab_as_elim] theorem A3Q {α:Type} {l:List α} {x} {motive:List α→Prop} (h:A7E l=some x) (q:motive [x.1,x.2]):motive l:=by
 cases l with
 | nil=>exact x0 h
 | cons a l=>cases l with
  | nil=>exact x0 h
  | cons b l=>cases l with
   | nil=>cases h;exact q
   | cons=>exact x0 h
end
@[elab_as_elim] theorem A0O {α:Type} {l:List α} {motive:List α→Prop} (h:l.isEmpty=true) (q:motive []):motive l:=by
 cases l with
 | nil=>exact q
 | cons=>exact xf h
section
variable {G:Gx}{C₀:Addr}{Z:Held}{v:Value}{r:V}
theorem Rep.ofS {x}(h:Rep G C₀ Z v r)(e:A0V r=some x):SRep v x:=A6A (motive:=fun r=>Rep G C₀ Z v r→SRep v x) e Rep.sI h
theorem Rep.ofInt {i}(h:Rep G C₀ Z v r)(e:(A0V r).bind A0U=some i):SRep v (.int i):=x3 e fun Ω hx e=>A2k (motive:=fun x=>SRep v x→SRep v (.int i)) e id (h.ofS hx)
theorem Rep.ofBytes {i}(h:Rep G C₀ Z v r)(e:(A0V r).bind A0q=some i):SRep v (.bytes i.1 i.2):=x3 e fun Ω hx e=>A1B (motive:=fun x=>SRep v x→SRep v (.bytes i.1 i.2)) e id (h.ofS hx)
@[elab_as_elim] theorem Reps.oneE {motive:List Value→Prop} {vs:List Value} {rs:List V} {a:V} (R:Reps G C₀ Z vs rs) (h:A1m rs=some a) (k: ∀ v,Rep G C₀ Z v a→motive [v]):motive vs:=
 (A1b (motive:=fun rs=>Reps G C₀ Z vs rs→Reps G C₀ Z vs [a]) h id R).consE fun v Ω R Rs=>Rs.nilE (k v R)
@[elab_as_elim] theorem Reps.twoE {motive:List Value→Prop} {vs:List Value} {rs:List V} {a:V×V} (R:Reps G C₀ Z vs rs) (h:A7E rs=some a) (k: ∀ v w,Rep G C₀ Z v a.1→Rep G C₀ Z w a.2→motive [v,w]):motive vs:=
 (A3Q (motive:=fun rs=>Reps G C₀ Z vs rs→Reps G C₀ Z vs [a.1,a.2]) h id R).consE fun v Ω R Rs=>Rs.consE fun w Ω R' Rs=>Rs.nilE (k v w R R')
@[elab_as_elim] theorem Reps.list1 {motive:List Value→Prop} {vs:List Value} {rs:List V} {l:List V} (R:Reps G C₀ Z vs rs) (h:(A1m rs).bind A1V=some l) (k: ∀ v,Rep G C₀ Z v (.list l)→motive [v]):motive vs:=
 x3 h fun Ω h1 h2=>R.oneE h1 fun v R=>k v (B0m (motive:=fun a=>Rep G C₀ Z v a→Rep G C₀ Z v (.list l)) h2 id R)
@[elab_as_elim] theorem Reps.s1 {motive:List Value→Prop} {vs:List Value} {rs:List V} {x:SV} (R:Reps G C₀ Z vs rs) (h:(A1m rs).bind A0V=some x) (k: ∀ v,SRep v x→motive [v]):motive vs:=
 x3 h fun Ω h1 h2=>R.oneE h1 fun v R=>k v (R.ofS h2)
end
noncomputable def B8Y:SV→Option (UInt8×List UInt8×Nat)
 | .bytes x n=>(match x with
  | h::t=>some (h,t,n)
  | []=>none)
 | _=>none
theorem B7T {y:SV}{x}(h:B8Y y=some x):y= .bytes (x.1::x.2.1) x.2.2:=by
 cases y with
 | bytes l n=>cases l with
  | nil=>exact x0 h
  | cons a l=>obtain rfl:=a0E h;rfl
 | _=>exact x0 h
noncomputable def A6C:SV→Option (Int×Int×Int)
 | .bint i lo hi=>some (i,lo,hi)
 | _=>none
@[elab_as_elim] theorem A6B {y:SV} {x} {motive:SV→Prop} (h:A6C y=some x) (q:motive (.bint x.1 x.2.1 x.2.2)):motive y:=by
 cases y with
 | bint=>cases h;exact q
 | _=>exact x0 h
variable {m:Str→Option Value}{own:List (Addr×Obj)}{A:Around}{E:Value→Shared→Prop}{Q:Value→Shared→Prop}{env:Env}{pos:Pos}{vs:List Value}{C₀:Addr}{v:Value}{n:Nat}{s:Shared}{f:Addr}{x:Str}{scope:Scope}{prog:Program}{b:Nat}{cl:List (Str×Addr)}{C:Addr}{es:List Expr}{value:Expr}{t:Bool}{G:Gx}{Z:Held}{rs:List V}{c:Fc}{d:Fd}{ρ:Loc}
noncomputable abbrev pw:Program:=PySem.Challenge.pw_ai0024_01
noncomputable def vS (s:String)(t:Nat):Value:= .str (Str.ofString s) t
noncomputable def m0_:Value:=vS "embit.descriptor.miniscript" 1741
noncomputable def m1_:Value:=vS "embit.descriptor.arguments" 1420
noncomputable def m2_:Value:=vS "law_ai0024_01" 3161
noncomputable def m3_:Value:=vS "embit.misc" 194
noncomputable def m4_:Value:=vS "embit.descriptor.errors" 1179
noncomputable def m5_:Value:=vS "embit.base" 981
noncomputable def m6_:Value:=vS "embit.ec" 1302
noncomputable def tO_:Value:= .type "object"
noncomputable def tU_ (l:List Value):Obj:=⟨.type "tuple",none,.seq l.toArray 0,#[]⟩
noncomputable def de (P:Params)(k:String)(t:Nat)(v:Value):DictEntry:=⟨PyData.keyHash P (Str.ofString k),.str (Str.ofString k) t,v⟩
noncomputable def dO (es:List DictEntry)(n:Nat):Obj:=⟨.type "dict",none,.dict es.toArray n,#[]⟩
noncomputable def C6n:Stmt:= .Pass ⟨0,0,0,0⟩
noncomputable def atS:List Stmt→Nat→Stmt
 | [],_=>C6n
 | s::_,0=>s
 | _::r,n+1=>atS r n
set_option backward.match.sparseCases false in
noncomputable def sIn:Stmt→Nat→Stmt
 | .ClassDef _ _ _ b _ _ _ _ _ _ _,j=>atS b j
 | s,_=>s
noncomputable def s1 (i:Nat):Stmt:=atS pw.main.body i
noncomputable def s2 (i j:Nat):Stmt:=sIn (s1 i) j
set_option backward.match.sparseCases false in
noncomputable def sP:Stmt→Arguments
 | .FunctionDef _ a _ _ _ _ _ _ _ _=>a
 | _=>⟨[],[],none,[],[],none,[]⟩
noncomputable def sB:Stmt→List Stmt
 | .FunctionDef _ _ b _ _ _ _ _ _ _=>b
 | _=> []
noncomputable def sS:Stmt→Scope
 | .FunctionDef _ _ _ _ _ _ s _ _ _=>s
 | _=>default
noncomputable def C4g (l:List Nat):List Value:=l.map .ref
noncomputable def o_n (P:Params)(l:List (String×Nat×Nat)):List DictEntry:=l.map fun x=>de P x.1 x.2.1 (.ref x.2.2)
noncomputable def o_q (tl:List Value)(nw:String)(a:Nat)(nm:String)(mr sb:List Nat)(n t:Nat):Obj:=
 ⟨.type "type",none,.cls {name:=Str.ofString nm,bases:=(C4g mr++tl).take 1,mro:=C4g (a::mr)++tl,ns:=a - 1,qualname:=Str.ofString nm,subclasses:=C4g sb},#[match n with| 0=>none| k+1=>some (.ref (k+1)),none,some (vS nm t),some (vS nm (t+8)),some (.builtin nw),some (.bool true)]⟩
noncomputable def o_o:Nat→String→List Nat→List Nat→Nat→Nat→Obj:=o_q [tO_] "object.__new__"
noncomputable def o_x:Nat→String→List Nat→List Nat→Nat→Nat→Obj:=o_q [.type "Exception",.type "BaseException",tO_] "Exception.__new__"
noncomputable def o_v (P:Params)(t:Nat):List (String× (Nat→Value))→List DictEntry→List DictEntry
 | [],r=>r
 | x::l,r=>de P x.1 (t+2) (x.2 (t+1))::o_v P (t+2) l r
noncomputable def o_e (P:Params)(a:Nat)(o:Obj)(m:Value)(t ln dt k:Nat)(vl:List (String× (Nat→Value)))(rs:List (String×Nat×Nat)):Frag:=
 [(a,o),(a - 1,dO (de P "__module__" (t+7) m::de P "__firstlineno__" (t+11) (.int (.ofNat ln) (t+10))::o_v P (t+11) vl (o_n P rs++ [de P "__doc__" dt .none])) k)]
noncomputable def o_d (P:Params)(a:Nat)(o:Obj)(m:Value)(t ln dt k:Nat)(vl:List (String× (Nat→Value)))(rs:List (String×Nat×Nat)):Frag:=
 o_e P a o m t ln dt k vl (rs++ [("__static_attributes__",dt+1 - k,a - 2)])
noncomputable def o_3 (P:Params)(m:Value)(s i n:Nat):Obj:=dO ((de P "__name__" 165 m::de P "__doc__" 166 .none::de P "__package__" 167 .none::de P "__loader__" 168 (.builtin "__main__.__loader__#opaque")::de P "__spec__" 169 .none::de P "__annotations__" 170 (.ref 6)::de P "__builtins__" 171 (.ref 4)::de P "__file__" 173 (vS "/claim/cut.py" 172)::de P "__cached__" 174 .none::de P "_wall" 193 (.ref 21)::o_n P [("hexlify",201,26),("unhexlify",207,31),("Sha256",253,s),("Sha256_misc",254,63),("hashlib",294,88),("ripemd160",301,99),("EmbitError",323,109),("_whence",333,119),("_index",341,126),("UnsupportedOperation",363,136),("IOBase",395,156),("BufferedIOBase",413,171),("TextIOBase",431,183),("BytesIO",693,413),("StringIO",980,660),("EmbitBase",1124,744),("EmbitKey",1178,794),("DescriptorError",1196,806),("MiniscriptError",1212,818),("ArgumentError",1228,830),("DescriptorBase",1287,866)]++[de P "EC_COMPRESSED" 1291 (.int (258) 1290)]++[de P "EC_UNCOMPRESSED" 1293 (.int (2) 1292)]++o_n P [("ec_pubkey_serialize",1301,876),("PublicKey",1400,958),("to_bytes",1410,967),("hash160",1419,974),("Key",1555,1091),("KeyHash",1595,1124),("Number",1642,1164),("Raw",1690,1204),("Raw32",1715,1223),("Raw20",1740,1242),("Miniscript",1819,1308),("OneArg",1851,1336),("PkK",1887,1362),("PkH",1923,1388),("Older",1968,1423),("After",1993,1442),("Sha256_miniscript",2030,1468),("Hash256",2055,1487),("Ripemd160",2080,1506),("Hash160",2105,1525),("AndOr",2162,1574),("AndV",2218,1623),("AndB",2268,1664),("AndN",2325,1713),("OrB",2375,1754),("OrC",2426,1795),("OrD",2477,1836),("OrI",2533,1885),("Thresh",2586,1924),("Pk",2622,1950),("Pkh",2658,1976),("Wrapper",2689,2003),("A",2740,2046),("S",2791,2089),("C",2843,2132),("T",2886,2166),("D",2937,2209),("V",2982,2245),("J",3027,2281),("N",3079,2324),("L",3130,2367),("U",3160,2393),("_law_old",3175,2396),("_law_new",3188,2397),("_law_number",3196,2404),("_law_body",3204,2411),("_law_leaf",3221,2418),("_law_made",3237,2425),("_law_items",3247,2432),("_law_let",3254,2439),("law",3260,2444)]).take i) n
noncomputable def o_t (P:Params)(l:List (String×Nat×Nat)):List DictEntry:=l.map fun x=>de P ("type.__subclasses__." ++x.1) x.2.1 (.int (.ofNat x.2.2) 0)
noncomputable def o_p (s:String)(l:List (Nat×Nat)):Frag:=l.map fun x=>(x.1,⟨.type "property",none,.fields #[.ref (x.1 - 1),.none,.none,.none,vS s x.2,.bool false],#[]⟩)
noncomputable def o_c (l:List (Nat×Nat)):Frag:=l.map fun x=>(x.1,⟨.type "cell",none,.cell (some (.ref x.2)),#[]⟩)
noncomputable def o_l (n:Nat)(l:List String):Obj:=⟨.type "list",none,.seq (l.zipIdx.map fun x=>vS x.1 (n+x.2)).toArray 0,#[]⟩
noncomputable def sN:Stmt→Str
 | .FunctionDef n _ _ _ _ _ _ _ _ _=>n
 | _=>default
noncomputable def o_k (s:Stmt)(c:String):Str:=⟨((Str.ofString c).cps.toList++ (sN s).cps.toList).toArray⟩
noncomputable def o_f (s:Stmt)(c:String)(a:Nat)(m:Value)(cl:List (String×Addr))(dV ct:Value)(an:Option Addr)(b:Bool)(t ln ac f d:Nat):Frag:=
 [(a,⟨.type "function",none,.func {name:=sN s,qualname:=o_k s c,params:=sP s,body:= .stmts (sB s),scope:=sS s,globals:=3,closure:=cl.map fun x=>(Str.ofString x.1,x.2),closureTuple:=ct,code:= .ref (a - 1),builtins:=0,defaults:=dV,kwdefaults:= .none,annotations:=an,pyModule:=m,doc:= .none},#[]⟩),
  (a - 1,⟨.type "code",none,.fields (([.str (sN s) t,.str (o_k s c) (t+1),vS "/claim/cut.py" (t+2),.int (.ofNat ln) 0,.int (.ofNat ac) 0,.int 0 0,.int 0 0,.int (.ofNat f) 0,.ref (bif b then a - 4 else a - 6),.bool true,.int 181 0,.ref (bif b then a - 3 else a - 5),.none]:List Value)++ (bif b then [Value.none,.none] else [Value.ref (a - 4),.ref (a - 3)])++ [.ref (a - 2),.int (.ofNat (t+d)) 0,.int (.ofNat ln) 0,vS "/claim/cut.py" (t+d+1)]).toArray,#[]⟩)]
noncomputable def o_r (i:Nat)(c:String)(m:Value)(A:List (Nat×Nat×Nat×Nat×Nat))(B:List (Nat×Nat×Nat×Nat))(C:List (Nat×Nat×Nat×Nat×Nat×Nat×Nat)):Frag:=
 (A.flatMap fun x=>o_f (s2 i x.1) c x.2.1 m [] .none .none none false x.2.2.1 x.2.2.2.1 1 3 x.2.2.2.2)++
 (B.flatMap fun x=>o_f (s2 i x.1) c x.2.1 m [] .none .none none true x.2.2.1 x.2.2.2 1 3 3)++
 C.flatMap fun x=>o_f (s2 i x.1) c x.2.1 m [("__class__",x.2.2.2.2.2.1)] .none (.ref x.2.2.2.2.2.2) none false x.2.2.1 x.2.2.2.1 1 3 x.2.2.2.2.1
noncomputable def o_w:List Nat:= [2003,1336,1308,866,744]
noncomputable def o_1:List Nat:= [1336,1308,866,744]
noncomputable def o_m:List Nat:= [1308,866,744]
noncomputable def K (P:Params):Frag:=List.flatten [
o_d P 1308 (o_o 1308 "Miniscript" [866,744] [1336,1574,1623,1664,1713,1754,1795,1836,1885,1924] 1245 1743) m0_ 1743 704 1817 2 [] [("__init__",1763,1258),("compile",1770,1265),("verify",1778,1272),("properties",1786,1280),("type",1794,1288),("__str__",1800,1293),("__len__",1807,1300),("len_args",1813,1305)],
o_d P 1336 (o_o 1336 "OneArg" o_m [1362,1388,1423,1468,1950,1976,2003] 1311 1820) m0_ 1820 734 1849 2 [] [("arg",1839,1325),("carg",1847,1333)],
o_d P 2003 (o_o 2003 "Wrapper" o_1 [2046,2089,2132,2166,2209,2245,2281,2324,2367] 1979 2659) m0_ 2659 1130 2687 2 [] [("op",2678,1993),("__str__",2685,2000)],
o_d P 866 (o_o 866 "DescriptorBase" [744] [1091,1164,1204,1308] 833 1231) (vS "embit.descriptor.base" 1229) 1231 507 1285 2 [] [("from_string",1264,848),("serialize",1274,856),("to_string",1283,863)],
[(744,o_o 744 "EmbitBase" [] [794,866] 0 983),(743,dO (de P "__module__" 990 m5_::de P "__firstlineno__" 994 (.int (438) 993)::o_n P [("read_from",1016,678),("parse",1040,688),("write_to",1050,696),("serialize",1060,703),("to_string",1070,710),("from_string",1092,719),("__str__",1099,727),("__eq__",1107,734),("__ne__",1115,741),("__static_attributes__",1116,742),("__dict__",1118,745),("__weakref__",1120,746)]++[de P "__doc__" 1121 .none,de P "__hash__" 1122 .none]) 5)],
o_d P 1468 (o_o 1468 "Sha256" o_1 [1487,1506] 1445 1994) m0_ 1994 783 2027 2 [("NAME",vS "sha256"),("TYPE",vS "B"),("PROPS",vS "ondu")] [("inner_compile",2018,1458),("__len__",2025,1465)],
o_d P 1506 (o_o 1506 "Ripemd160" [1468,1336,1308,866,744] [1525] 1490 2056) m0_ 2056 799 2078 2 [("NAME",vS "ripemd160")] [("inner_compile",2076,1503)],
o_d P 1423 (o_o 1423 "Older" o_1 [1442] 1391 1924) m0_ 1924 763 1966 3 [("NAME",vS "older"),("TYPE",vS "B"),("PROPS",vS "z")] [("inner_compile",1948,1405),("verify",1956,1413),("__len__",1963,1420)],
o_d P 2367 (o_o 2367 "L" o_w [2393] 2327 3080) m0_ 3080 1324 3128 3 [("TYPE",vS "B")] [("inner_compile",3100,2341),("__len__",3107,2348),("verify",3115,2356),("properties",3125,2364)],
o_e P 63 (o_o 63 "Sha256" [] [] 0 208) m3_ 208 12 251 4 [] [("__init__",228,46),("update",236,53),("digest",244,60),("__static_attributes__",246,61),("__dict__",248,64),("__weakref__",250,65)],
o_e P 88 (o_o 88 "hashlib" [] [] 0 255) m3_ 255 24 292 4 [] [("sha256",286,84),("__static_attributes__",287,86),("__dict__",289,89),("__weakref__",291,90)],
o_e P 109 (o_x 109 "EmbitError" [] [806] 100 304) (vS "embit.base" 302) 304 32 319 3 [] [("__static_attributes__",316,107),("__weakref__",318,110)],
o_d P 794 (o_o 794 "EmbitKey" [744] [958] 749 1125) m5_ 1125 482 1176 2 [] [("sec",1143,762),("xonly",1150,769),("is_private",1158,777),("__lt__",1166,784),("__gt__",1174,791)],
o_d P 806 (o_x 806 "DescriptorError" [109] [818] 797 1181) m4_ 1181 500 1194 2 [] [],
o_d P 818 (o_x 818 "MiniscriptError" [806,109] [830] 809 1197) m4_ 1197 502 1210 2 [] [],
o_d P 830 (o_x 830 "ArgumentError" [818,806,109] [] 821 1213) m4_ 1213 504 1226 2 [] [],
[(958,o_o 958 "PublicKey" [794,744] [] 877 1304),(957,dO (de P "__module__" 1311 m6_::de P "__firstlineno__" 1315 (.int (526) 1314)::o_n P [("__init__",1324,891),("sec",1332,898),("xonly",1339,905),("write_to",1347,912),("serialize",1354,919),("is_private",1362,927),("to_string",1369,934),("__lt__",1377,941),("__gt__",1385,948),("__eq__",1393,955),("__static_attributes__",1396,956)]++[de P "__doc__" 1397 .none,de P "__hash__" 1398 .none]) 3)],
o_d P 1091 (o_o 1091 "Key" [866,744] [1124] 975 1422) m1_ 1422 578 1553 2 [] [("__init__",1445,989),("__len__",1452,996),("derivation",1460,1004),("sec",1467,1011),("xonly",1474,1018),("serialize",1481,1025),("compile",1489,1032),("prefix",1497,1040),("suffix",1505,1048),("can_derive",1513,1056),("branches",1521,1064),("num_branches",1529,1072),("is_wildcard",1537,1080),("to_string",1546,1088)],
o_d P 1124 (o_o 1124 "KeyHash" [1091,866,744] [] 1094 1556) m1_ 1556 642 1593 2 [] [("serialize",1576,1107),("__len__",1583,1114),("compile",1591,1121)],
o_d P 1164 (o_o 1164 "Number" [866,744] [] 1127 1596) m1_ 1596 657 1640 2 [] [("__init__",1615,1140),("compile",1623,1147),("__len__",1630,1154),("__str__",1637,1161)],
o_d P 1204 (o_o 1204 "Raw" [866,744] [1223,1242] 1167 1643) m1_ 1643 677 1688 2 [("LEN",.int 32)] [("__init__",1664,1180),("__str__",1671,1187),("compile",1678,1194),("__len__",1685,1201)],
o_d P 1223 (o_o 1223 "Raw32" [1204,866,744] [] 1207 1691) m1_ 1691 693 1713 2 [("LEN",.int 32)] [("__len__",1711,1220)],
o_d P 1242 (o_o 1242 "Raw20" [1204,866,744] [] 1226 1716) m1_ 1716 698 1738 2 [("LEN",.int 20)] [("__len__",1736,1239)],
o_d P 1362 (o_o 1362 "PkK" o_1 [] 1339 1852) m0_ 1852 743 1885 2 [("NAME",vS "pk_k"),("TYPE",vS "K"),("PROPS",vS "ondu")] [("inner_compile",1876,1352),("__len__",1883,1359)],
o_d P 1388 (o_o 1388 "PkH" o_1 [] 1365 1888) m0_ 1888 753 1921 2 [("NAME",vS "pk_h"),("TYPE",vS "K"),("PROPS",vS "ndu")] [("inner_compile",1912,1378),("__len__",1919,1385)],
o_d P 1442 (o_o 1442 "After" [1423,1336,1308,866,744] [] 1426 1969) m0_ 1969 778 1991 2 [("NAME",vS "after")] [("inner_compile",1989,1439)],
o_d P 1487 (o_o 1487 "Hash256" [1468,1336,1308,866,744] [] 1471 2031) m0_ 2031 794 2053 2 [("NAME",vS "hash256")] [("inner_compile",2051,1484)],
o_d P 1525 (o_o 1525 "Hash160" [1506,1468,1336,1308,866,744] [] 1509 2081) m0_ 2081 804 2103 2 [("NAME",vS "hash160")] [("inner_compile",2101,1522)],
o_d P 1574 (o_o 1574 "AndOr" o_m [] 1528 2106) m0_ 2106 809 2160 3 [("NAME",vS "andor")] [("type",2127,1543),("verify",2136,1551),("properties",2143,1557),("inner_compile",2150,1564),("__len__",2157,1571)],
o_d P 1623 (o_o 1623 "AndV" o_m [] 1577 2163) m0_ 2163 847 2216 3 [("NAME",vS "and_v")] [("inner_compile",2183,1591),("__len__",2190,1598),("verify",2198,1606),("type",2206,1614),("properties",2213,1620)],
o_d P 1664 (o_o 1664 "AndB" o_m [] 1626 2219) m0_ 2219 880 2266 3 [("NAME",vS "and_b"),("TYPE",vS "B")] [("inner_compile",2241,1640),("__len__",2248,1647),("verify",2256,1655),("properties",2263,1661)],
o_d P 1713 (o_o 1713 "AndN" o_m [] 1667 2269) m0_ 2269 911 2323 3 [("NAME",vS "and_n")] [("inner_compile",2289,1681),("__len__",2296,1688),("type",2304,1696),("verify",2313,1704),("properties",2320,1710)],
o_d P 1754 (o_o 1754 "OrB" o_m [] 1716 2326) m0_ 2326 948 2373 3 [("NAME",vS "or_b"),("TYPE",vS "B")] [("inner_compile",2348,1730),("__len__",2355,1737),("verify",2363,1745),("properties",2370,1751)],
o_d P 1795 (o_o 1795 "OrC" o_m [] 1757 2376) m0_ 2376 979 2424 3 [("NAME",vS "or_c"),("TYPE",vS "V")] [("inner_compile",2398,1771),("__len__",2405,1778),("verify",2414,1786),("properties",2421,1792)],
o_d P 1836 (o_o 1836 "OrD" o_m [] 1798 2427) m0_ 2427 1008 2475 3 [("NAME",vS "or_d"),("TYPE",vS "B")] [("inner_compile",2449,1812),("__len__",2456,1819),("verify",2465,1827),("properties",2472,1833)],
o_d P 1885 (o_o 1885 "OrI" o_m [] 1839 2478) m0_ 2478 1041 2531 3 [("NAME",vS "or_i")] [("inner_compile",2498,1853),("__len__",2505,1860),("verify",2513,1868),("type",2521,1876),("properties",2528,1882)],
o_d P 1924 (o_o 1924 "Thresh" o_m [] 1888 2534) m0_ 2534 1072 2584 3 [("NAME",vS "thresh"),("TYPE",vS "B")] [("inner_compile",2555,1900),("__len__",2562,1907),("verify",2574,1915),("properties",2581,1921)],
o_d P 1950 (o_o 1950 "Pk" o_1 [] 1927 2587) m0_ 2587 1110 2620 2 [("NAME",vS "pk"),("TYPE",vS "B"),("PROPS",vS "ondu")] [("inner_compile",2611,1940),("__len__",2618,1947)],
o_d P 1976 (o_o 1976 "Pkh" o_1 [] 1953 2623) m0_ 2623 1120 2656 2 [("NAME",vS "pkh"),("TYPE",vS "B"),("PROPS",vS "ndu")] [("inner_compile",2647,1966),("__len__",2654,1973)],
o_d P 2046 (o_o 2046 "A" o_w [] 2006 2690) m0_ 2690 1140 2738 3 [("TYPE",vS "W")] [("inner_compile",2710,2020),("__len__",2717,2027),("verify",2725,2035),("properties",2735,2043)],
o_d P 2089 (o_o 2089 "S" o_w [] 2049 2741) m0_ 2741 1163 2789 3 [("TYPE",vS "W")] [("inner_compile",2761,2063),("__len__",2768,2070),("verify",2776,2078),("properties",2786,2086)],
o_d P 2132 (o_o 2132 "C" o_w [] 2092 2792) m0_ 2792 1188 2841 3 [("TYPE",vS "B")] [("inner_compile",2812,2106),("__len__",2819,2113),("verify",2827,2121),("properties",2838,2129)],
o_d P 2166 (o_o 2166 "T" o_w [] 2135 2844) m0_ 2844 1211 2884 2 [("TYPE",vS "B")] [("inner_compile",2864,2148),("__len__",2871,2155),("properties",2882,2163)],
o_d P 2209 (o_o 2209 "D" o_w [] 2169 2887) m0_ 2887 1234 2935 3 [("TYPE",vS "B")] [("inner_compile",2907,2183),("__len__",2914,2190),("verify",2922,2198),("properties",2932,2206)],
o_d P 2245 (o_o 2245 "V" o_w [] 2212 2938) m0_ 2938 1260 2980 3 [("TYPE",vS "V")] [("inner_compile",2958,2226),("verify",2966,2234),("properties",2977,2242)],
o_d P 2281 (o_o 2281 "J" o_w [] 2248 2983) m0_ 2983 1281 3025 3 [("TYPE",vS "B")] [("inner_compile",3003,2262),("verify",3011,2270),("properties",3022,2278)],
o_d P 2324 (o_o 2324 "N" o_w [] 2284 3028) m0_ 3028 1302 3077 3 [("TYPE",vS "B")] [("inner_compile",3048,2298),("__len__",3055,2305),("verify",3063,2313),("properties",3074,2321)],
o_d P 2393 (o_o 2393 "U" [2367,2003,1336,1308,866,744] [] 2370 3131) m0_ 3131 1347 3158 2 [] [("inner_compile",3149,2383),("__len__",3156,2390)],
[(3,o_3 P m2_ 1468 84 84),(2,⟨.none,none,.dict (o_t P [("Exception.0",320,109),("Exception.n",321,1),("OSError.0",360,136),("OSError.n",361,1)]).toArray 4,#[]⟩)],
o_p "properties" [(1280,1786),(1557,2143),(1620,2213),(1661,2263),(1710,2320),(1751,2370),(1792,2421),(1833,2472),(1882,2528),(1921,2581),(2043,2735),(2086,2786),(2129,2838),(2163,2882),(2206,2932),(2242,2977),(2278,3022),(2321,3074),(2364,3125)],
o_p "type" [(1288,1794),(1543,2127),(1614,2206),(1696,2304),(1876,2521)],
o_p "prefix" [(1040,1497)],
o_p "arg" [(1325,1839)],
o_p "carg" [(1333,1847)],
o_p "op" [(1993,2678)],
o_c [(1394,1423),(1531,1574),(1580,1623),(1629,1664),(1670,1713),(1719,1754),(1760,1795),(1801,1836),(1842,1885),(1891,1924),(2009,2046),(2052,2089),(2095,2132),(2172,2209),(2215,2245),(2251,2281),(2287,2324),(2330,2367)],
[(39,tU_ [(.bytes #[] 220)]),(75,tU_ [(.bytes #[] 267)]),(84,⟨(.type "staticmethod"),(some 83),.fields ([.ref 82,.bool false]).toArray,#[]⟩),(869,tU_ [(.int (258) 1290)]),(884,tU_ [.bool true]),(982,tU_ [.none,.none,.bool false,.bool false]),(1081,tU_ [.none]),(2396,o_l 3163 ["11","22","33","41","42","43","51","52","53","61","62","63"]),(2397,o_l 3176 ["14","25","36","47","48","49","57","58","59","67","68","69"])],
o_f (s1 2) "" 26 m3_ [] .none .none none true 196 5 1 3 3,
o_f (s1 3) "" 31 m3_ [] .none .none none true 202 8 1 3 3,
o_f (s2 4 0) "Sha256." 46 m3_ [] (.ref 39) .none none false 221 14 2 3 5,
o_f (s2 6 0) "hashlib." 82 m3_ [] (.ref 75) .none (some 85) false 268 26 1 3 4,
o_f (s1 7) "" 99 m3_ [] .none .none none false 295 29 1 3 4,
o_f (s1 31) "" 876 (vS "embit.util.secp256k1" 1288) [] (.ref 869) .none none false 1294 523 2 3 5,
o_f (s2 33 0) "PublicKey." 891 m6_ [] (.ref 884) .none none false 1316 528 3 3 6,
o_f (s1 35) "" 967 (vS "embit.compact" 1401) [] .none .none none false 1403 561 1 3 5,
o_f (s1 37) "" 974 (vS "embit.hashes" 1411) [] .none .none none false 1413 575 1 3 4,
o_f (s2 39 0) "Key." 989 m1_ [] (.ref 982) .none none false 1434 580 6 3 9,
o_f (s2 39 13) "Key." 1088 m1_ [] (.ref 1081) .none none false 1538 637 2 3 6,
o_f (s2 40 0) "KeyHash." 1107 m1_ [] .none .none none false 1568 644 1 15 6,
o_f (s2 41 0) "Number." 1140 m1_ [] .none .none none false 1608 659 2 3 5,
o_f (s2 42 1) "Raw." 1180 m1_ [] .none .none none false 1657 680 2 3 5,
o_f (s2 46 0) "Miniscript." 1258 m0_ [] .none .none none false 1755 706 1 15 6,
o_f (s1 82) "" 2404 m2_ [] .none .none none false 3189 1357 2 3 5,
o_f (s1 83) "" 2411 m2_ [] .none .none none false 3197 1359 2 3 5,
o_f (s1 84) "" 2418 m2_ [] .none .none none false 3205 1361 4 3 14,
o_f (s1 85) "" 2425 m2_ [] .none .none none false 3222 1377 5 3 13,
o_f (s1 86) "" 2432 m2_ [] .none .none none false 3238 1399 1 3 7,
o_f (s1 87) "" 2439 m2_ [] .none .none none false 3248 1407 1 3 4,
o_f (s1 88) "" 2444 m2_ [] .none .none none true 3255 1413 1 3 3,
o_r 4 "Sha256." m3_ [(2,60,237,20,5)] [] [],
o_r 20 "EmbitBase." m5_ [(6,727,1093,472,4)] [] [],
o_r 33 "PublicKey." m6_ [(1,898,1325,532,5)] [] [],
o_r 39 "Key." m1_ [(1,996,1446,589,4),(3,1011,1461,596,4),(5,1025,1475,602,4),(6,1032,1482,607,5),(7,1039,1490,611,4)] [] [],
o_r 40 "KeyHash." m1_ [(1,1114,1577,651,4),(2,1121,1584,654,5)] [] [],
o_r 41 "Number." m1_ [(1,1147,1616,662,5),(2,1154,1624,672,4),(3,1161,1631,675,4)] [] [],
o_r 42 "Raw." m1_ [(2,1187,1665,685,4),(3,1194,1672,688,4)] [] [],
o_r 43 "Raw32." m1_ [(1,1220,1705,696,4)] [] [],
o_r 44 "Raw20." m1_ [(1,1239,1730,701,4)] [] [],
o_r 46 "Miniscript." m0_ [(1,1265,1764,710,4),(2,1272,1771,713,5),(3,1279,1779,718,4),(4,1287,1787,722,4),(6,1300,1801,729,4)] [(5,1293,1795,726),(7,1305,1808,732)] [],
o_r 47 "OneArg." m0_ [(0,1324,1832,736,4),(1,1332,1840,740,4)] [] [],
o_r 48 "PkK." m0_ [(3,1352,1870,748,4),(4,1359,1877,751,4)] [] [],
o_r 49 "PkH." m0_ [(3,1378,1906,758,4),(4,1385,1913,761,4)] [] [],
o_r 50 "Older." m0_ [(3,1405,1942,768,4),(5,1420,1957,776,4)] [] [(4,1413,1949,771,5,1394,1406)],
o_r 51 "After." m0_ [(1,1439,1983,781,4)] [] [],
o_r 52 "Sha256." m0_ [(3,1458,2012,788,4),(4,1465,2019,791,4)] [] [],
o_r 54 "Hash256." m0_ [(1,1484,2045,797,4)] [] [],
o_r 55 "Ripemd160." m0_ [(1,1503,2070,802,4)] [] [],
o_r 56 "Hash160." m0_ [(1,1522,2095,807,4)] [] [],
o_r 57 "AndOr." m0_ [(1,1542,2120,812,4),(4,1564,2144,842,4),(5,1571,2151,845,4)] [(3,1556,2137,828)] [(2,1551,2128,816,6,1531,1544)],
o_r 58 "AndV." m0_ [(1,1591,2177,850,4),(2,1598,2184,853,4),(4,1613,2199,863,4)] [(5,1619,2207,867)] [(3,1606,2191,856,5,1580,1599)],
o_r 59 "AndB." m0_ [(2,1640,2235,884,4),(3,1647,2242,887,4)] [(5,1660,2257,897)] [(4,1655,2249,890,5,1629,1648)],
o_r 60 "AndN." m0_ [(1,1681,2283,914,4),(2,1688,2290,917,4),(3,1695,2297,920,4)] [(5,1709,2314,934)] [(4,1704,2305,924,6,1670,1697)],
o_r 61 "OrB." m0_ [(2,1730,2342,952,4),(3,1737,2349,955,4)] [(5,1750,2364,969)] [(4,1745,2356,958,5,1719,1738)],
o_r 62 "OrC." m0_ [(2,1771,2392,983,4),(3,1778,2399,986,4)] [(5,1791,2415,999)] [(4,1786,2406,989,6,1760,1779)],
o_r 63 "OrD." m0_ [(2,1812,2443,1012,4),(3,1819,2450,1015,4)] [(5,1832,2466,1028)] [(4,1827,2457,1018,6,1801,1820)],
o_r 64 "OrI." m0_ [(1,1853,2492,1044,4),(2,1860,2499,1047,4),(4,1875,2514,1057,4)] [(5,1881,2522,1061)] [(3,1868,2506,1050,5,1842,1861)],
o_r 65 "Thresh." m0_ [(3,1907,2556,1079,4)] [(2,1900,2550,1076),(5,1920,2575,1098)] [(4,1915,2563,1082,9,1891,1908)],
o_r 66 "Pk." m0_ [(3,1940,2605,1115,4),(4,1947,2612,1118,4)] [] [],
o_r 67 "Pkh." m0_ [(3,1966,2641,1125,4),(4,1973,2648,1128,4)] [] [],
o_r 68 "Wrapper." m0_ [(0,1992,2671,1132,4),(1,2000,2679,1136,4)] [] [],
o_r 69 "A." m0_ [(1,2020,2704,1143,4),(2,2027,2711,1146,4),(4,2042,2726,1154,6)] [] [(3,2035,2718,1149,5,2009,2028)],
o_r 70 "S." m0_ [(1,2063,2755,1166,4),(2,2070,2762,1169,4),(4,2085,2777,1179,6)] [] [(3,2078,2769,1172,5,2052,2071)],
o_r 71 "C." m0_ [(1,2106,2806,1191,4),(2,2113,2813,1194,4),(4,2128,2828,1202,7)] [] [(3,2121,2820,1197,5,2095,2114)],
o_r 72 "T." m0_ [(1,2148,2858,1214,4),(2,2155,2865,1217,4),(3,2162,2872,1220,7)] [] [],
o_r 73 "D." m0_ [(1,2183,2901,1237,4),(2,2190,2908,1240,4),(4,2205,2923,1250,6)] [] [(3,2198,2915,1243,5,2172,2191)],
o_r 74 "V." m0_ [(1,2226,2952,1263,4),(3,2241,2967,1273,7)] [] [(2,2234,2959,1268,5,2215,2227)],
o_r 75 "J." m0_ [(1,2262,2997,1284,4),(3,2277,3012,1294,7)] [] [(2,2270,3004,1287,5,2251,2263)],
o_r 76 "N." m0_ [(1,2298,3042,1305,4),(2,2305,3049,1308,4),(4,2320,3064,1316,7)] [] [(3,2313,3056,1311,5,2287,2306)],
o_r 77 "L." m0_ [(1,2341,3094,1327,4),(2,2348,3101,1330,4),(4,2363,3116,1338,6)] [] [(3,2356,3108,1333,5,2330,2349)],
o_r 78 "U." m0_ [(0,2383,3143,1349,4),(1,2390,3150,1352,4)] [] []]
noncomputable def o_a (n:Nat):Obj:=⟨.none,none,.fields ((List.take n [(1,20),(5,25),(8,30),(12,37),(24,73),(29,98),(32,105),(35,118),(40,125),(47,132),(49,145),(56,167),(58,179),(60,191),(231,421),(438,668),(482,754),(500,802),(502,814),(504,826),(507,838),(523,875),(526,882),(561,966),(575,973),(578,980),(642,1099),(657,1132),(677,1172),(693,1212),(698,1231),(704,1250),(734,1316),(743,1344),(753,1370),(763,1397),(778,1431),(783,1450),(794,1476),(799,1495),(804,1514),(809,1534),(847,1583),(880,1632),(911,1673),(948,1722),(979,1763),(1008,1804),(1041,1845),(1072,1894),(1110,1932),(1120,1958),(1130,1984)]).flatMap fun x:Nat×Nat=> [Value.int (.ofNat x.1) 0,.int 0 0,.ref x.2]).toArray,#[]⟩
noncomputable def C0w (P:Params):Obj:=dO [de P "builtins" 162 (.ref 4),de P "__main__" 163 (.ref 5)] 2
noncomputable def C0v:Obj:=⟨.type "module",some 0,.plain,#[]⟩
noncomputable def B5k:Obj:=⟨(.type "code"),none,.fields ([(vS "<module>" 182),(vS "<module>" 183),(vS "/claim/cut.py" 184),(.int (1) 0),(.int (0) 0),(.int (0) 0),(.int (0) 0),(.int (0) 0),.ref 11,.bool false,(.int (181) 0),.ref 12,.none,.none,.none,.none,(.int (185) 0),(.int (1) 0),(vS "/claim/cut.py" 186)]).toArray,#[]⟩
noncomputable def B1h:Obj:=⟨.none,none,.fields #[],#[]⟩
noncomputable def o_z (P:Params)(n:Nat)(l:Frag):Frag:= [(0,boot_o_0 P),(1,C0w P),(4,C0v),(13,B5k)]++l++ (K P).filter fun p=>Nat.blt p.1 n&&l.all fun x=> !(Nat.beq x.1 p.1)
noncomputable def l24 (P:Params):Frag:=o_z P 809 [(3,o_3 P m4_ 63 28 28),(12,o_a 18),(744,o_o 744 "EmbitBase" [] [794] 0 983),(794,o_o 794 "EmbitKey" [744] [] 749 1125),(806,o_x 806 "DescriptorError" [109] [] 797 1181)]
noncomputable def l46 (P:Params):Frag:=o_z P 1245 [(3,o_3 P m0_ 63 43 43),(12,o_a 31),(866,o_o 866 "DescriptorBase" [744] [1091,1164,1204] 833 1231)]
noncomputable def l58 (P:Params):Frag:=o_z P 1577 [(3,o_3 P m0_ 1468 54 54),(12,o_a 42),(1308,o_o 1308 "Miniscript" [866,744] [1336,1574] 1245 1743),(1336,o_o 1336 "OneArg" o_m [1362,1388,1423,1468] 1311 1820)]
noncomputable def l69 (P:Params):Frag:=o_z P 2006 [(3,o_3 P m0_ 1468 65 65),(12,o_a 53),(2003,o_o 2003 "Wrapper" o_1 [] 1979 2659)]
noncomputable def l89 (P:Params):Frag:= [(2441,B1h),(0,boot_o_0 P),(1,C0w P),(4,C0v)]++K P
inductive PT where
 | nil
 | node (v:Option Obj) (l r:PT)
namespace PT
noncomputable def V:PT→Option Obj
 | .nil=>none
 | .node v _ _=>v
noncomputable def L:PT→PT
 | .nil=> .nil
 | .node _ l _=>l
noncomputable def R:PT→PT
 | .nil=> .nil
 | .node _ _ r=>r
noncomputable def get (t:PT):Nat→Option Obj:=t.rec (fun Ω=>none) fun v Ω Ω l r i=>bif Nat.beq i 0 then v else bif Nat.beq (i%2) 1 then l (i / 2) else r (i / 2 - 1)
noncomputable def ins (n:Nat):PT→Nat→Obj→PT:=n.rec (fun Ω Ω Ω=> .nil) fun Ω f t i o=>bif Nat.beq i 0 then .node (some o) t.L t.R else bif Nat.beq (i%2) 1 then .node t.V (f t.L (i / 2) o) t.R else .node t.V t.L (f t.R (i / 2 - 1) o)
theorem B0O (t:PT)(j:Nat):t.get j=bif Nat.beq j 0 then t.V else bif Nat.beq (j%2) 1 then t.L.get (j / 2) else t.R.get (j / 2 - 1):=by
 cases t with
 | node=>rfl
 | nil=>show none=_;cases Nat.beq j 0<;>cases Nat.beq (j%2) 1<;>rfl
theorem bT {α:Type}{b:Bool}{x y:α}(h:b=true):(bif b then x else y)=x:=by rw [h];rfl
theorem bF {α:Type}{b:Bool}{x y:α}(h:b=false):(bif b then x else y)=y:=by rw [h];rfl
theorem C5G {i j:Nat}(a:j / 2=i / 2)(p:j%2=i%2):j=i:=by rw [←Nat.div_add_mod j 2,a,p,Nat.div_add_mod]
theorem up2 {x:Nat}(p:x%2≠1)(n:x≠0):x / 2 - 1+1=x / 2:=
 Nat.succ_pred fun q=>n (by rw [←Nat.div_add_mod x 2,show x / 2=0 from q,(Nat.mod_two_eq_zero_or_one x).resolve_right p])
theorem ins_get (o x:Obj)(n:Nat): ∀ (t:PT) (i j:Nat),(ins n t i o).get j=some x→(j=i∧x=o)∨(j≠i∧t.get j=some x):=by
 induction n with
 | zero=>exact fun Ω Ω Ω h=>x0 h
 | succ n ih=>
  intro t i j h
  rw [B0O t j]
  have E:ins (n+1) t i o=bif Nat.beq i 0 then .node (some o) t.L t.R else bif Nat.beq (i%2) 1 then .node t.V (ins n t.L (i / 2) o) t.R else .node t.V t.L (ins n t.R (i / 2 - 1) o):=rfl
  rw [E] at h
  cases ei:Nat.beq i 0 with
  | true=>
   rw [bT ei,B0O] at h
   obtain rfl:=Nat.eq_of_beq_eq_true ei
   cases ej:Nat.beq j 0 with
   | true=>rw [bT ej] at h;exact .inl ⟨Nat.eq_of_beq_eq_true ej,(a0E h).symm⟩
   | false=>rw [bF ej] at h;exact .inr ⟨a2Z ej,h⟩
  | false=>
   have ni:=a2Z ei
   cases pi:Nat.beq (i%2) 1 with
   | true=>
    rw [bF ei,bT pi,B0O] at h
    have pi:=Nat.eq_of_beq_eq_true pi
    cases ej:Nat.beq j 0 with
    | true=>rw [bT ej] at h;exact .inr ⟨fun q=>ni (q.symm.trans (Nat.eq_of_beq_eq_true ej)),h⟩
    | false=>
     rw [bF ej] at h
     have nj:=a2Z ej
     cases pj:Nat.beq (j%2) 1 with
     | true=>
      rw [bT pj] at h
      have pj:=Nat.eq_of_beq_eq_true pj
      rcases ih _ _ _ h with ⟨a,b⟩| ⟨a,b⟩
      ·exact .inl ⟨C5G a (pj.trans pi.symm),b⟩
      ·exact .inr ⟨fun q=>a (congrArg (· / 2) q),b⟩
     | false=>rw [bF pj] at h;exact .inr ⟨fun q=>a2Z pj (q▸pi),h⟩
   | false=>
    rw [bF ei,bF pi,B0O] at h
    have pi:=a2Z pi
    cases ej:Nat.beq j 0 with
    | true=>rw [bT ej] at h;exact .inr ⟨fun q=>ni (q.symm.trans (Nat.eq_of_beq_eq_true ej)),h⟩
    | false=>
     rw [bF ej] at h
     have nj:=a2Z ej
     cases pj:Nat.beq (j%2) 1 with
     | true=>rw [bT pj] at h;exact .inr ⟨fun q=>pi (q▸Nat.eq_of_beq_eq_true pj),h⟩
     | false=>
      rw [bF pj] at h
      have pj:=a2Z pj
      rcases ih _ _ _ h with ⟨a,b⟩| ⟨a,b⟩
      ·exact .inl ⟨C5G ((up2 pj nj).symm.trans ((congrArg (· +1) a).trans (up2 pi ni))) (((Nat.mod_two_eq_zero_or_one j).resolve_right pj).trans ((Nat.mod_two_eq_zero_or_one i).resolve_right pi).symm),b⟩
      ·exact .inr ⟨fun q=>a (congrArg (· / 2 - 1) q),b⟩
noncomputable def of:Frag→PT
 | []=> .nil
 | p::l=>ins 40 (of l) p.1 p.2
end PT
def Sub (T:PT)(h:Heap):Prop:= ∀ j x,T.get j=some x→h.get? j=some x
theorem C1j {h:Heap}{l:Frag}(a:X.AllIn h l):Sub (PT.of l) h:=by
 induction l with
 | nil=>exact fun Ω Ω e=>x0 e
 | cons p l ih=>exact fun j x e=>(PT.ins_get p.2 x 40 (PT.of l) p.1 j e).elim (fun q=>by rw [q.1,q.2];exact a.1) fun q=>ih a.2 j x q.2
structure SP where
 tree:PT
 n:Nat
 gens:Array GenState
 drawn:Drawn
 toks:Nat
 os:OsState
def SP.On (s:SP)(h:Heap):Prop:=Sub s.tree h∧h.objs.size=s.n
noncomputable def SP.sh (s:SP)(h:Heap):Shared:=⟨h,s.gens,s.drawn,s.toks,s.os⟩
set_option backward.match.sparseCases false in
noncomputable def B6W:Sem Fin→Bool
 | .load .. | .update .. | .alloc .. | .loadIfAlive .. =>false
 | _=>true
noncomputable def B8S (st:(Code→Sem Fin)→Program→World→Shared→Thread→Step)(den:Code→Sem Fin)(p:Program)(w:World):SP→Thread→Option (SP×Thread)
 | ⟨T,n,gens,drawn,toks,os⟩,⟨cur,code,pos,stack⟩=>match cur with
  | .load a _ k=>(T.get a).map fun o=>(⟨T,n,gens,drawn,toks,os⟩,⟨k o,code,pos,stack⟩)
  | .update a _ f k=>(T.get a).bind fun o=>gd (!(f o).isFreed) (some (⟨PT.ins 40 T a (f o),n,gens,drawn,toks,os⟩,⟨k (),code,pos,stack⟩))
  | .alloc o k=>gd (!o.isFreed) (some (⟨PT.ins 40 T n o,n+1,gens,drawn,toks,os⟩,⟨k n,code,pos,stack⟩))
  | .loadIfAlive _ _=>none
  | c=>match st den p w ⟨{},gens,drawn,toks,os⟩ ⟨c,code,pos,stack⟩ with
   | .go s' t'=>some (⟨T,n,s'.gens,s'.drawn,s'.toks,s'.os⟩,t')
   | .halt _ _=>none
section
variable {den:Code→Sem Fin}{p:Program}{w:World}
theorem A8U {T:PT}{gens:Array GenState}{drawn:Drawn}{toks:Nat}{os:OsState}{cur:Sem Fin}{code:Code}{stack:List Frame}{s':SP}{t':Thread}{h:Heap}
  (hc:B6W cur=true) (O:SP.On ⟨T,n,gens,drawn,toks,os⟩ h)
  (e:(match step den p w ⟨{},gens,drawn,toks,os⟩ ⟨cur,code,pos,stack⟩ with
   | .go s' t'=>some ((⟨T,n,s'.gens,s'.drawn,s'.toks,s'.os⟩:SP),t')
   | .halt _ _=>none)=some (s',t')):
  ∃ h',s'.On h'∧step den p w ⟨h,gens,drawn,toks,os⟩ ⟨cur,code,pos,stack⟩= .go (s'.sh h') t':=by
 cases q:step den p w ⟨{},gens,drawn,toks,os⟩ ⟨cur,code,pos,stack⟩ with
 | halt o s=>rw [q] at e;exact x0 e
 | go s₀ t₀=>rw [q] at e;cases e;exact⟨h,O,PySem.W.step_heap (fun Ω Ω Ω x=>by rw [x] at hc;exact xf hc) (fun Ω Ω Ω Ω x=>by rw [x] at hc;exact xf hc) (fun Ω Ω x=>by rw [x] at hc;exact xf hc) (fun Ω Ω x=>by rw [x] at hc;exact xf hc) q⟩
theorem B1x {s s':SP}{t t':Thread}{h:Heap}(O:s.On h)(e:B8S step den p w s t=some (s',t')): ∃ h',s'.On h'∧step den p w (s.sh h) t= .go (s'.sh h') t':=by
 obtain⟨T,n,gens,drawn,toks,os⟩:=s
 obtain⟨cur,code,pos,stack⟩:=t
 obtain⟨Hs,Hn⟩:=O
 cases cur with
 | load a q k=>
  refine x4e e fun o g e=> ?_
  cases e
  refine⟨h,⟨Hs,Hn⟩,?_⟩
  show step den p w ⟨h,gens,drawn,toks,os⟩ ⟨.load a q k,code,pos,stack⟩=_
  simp only [step,Hs a o g];rfl
 | update a q f k=>
  refine x3 e fun o g e=>x2 e fun al e=> ?_
  cases e
  have ho:=Hs a o g
  refine⟨h.update a f,⟨fun j x gj=>(PT.ins_get (f o) x 40 T a j gj).elim (fun z=> ?_) fun z=> ?_,(Heap.size_after_update ..).trans Hn⟩,if_pos (congrArg Option.isSome ho)⟩
  ·rw [z.1,z.2];exact Heap.get?_update_self f ho (xn al)
  ·rw [Heap.get?_update_other h f (a0X z.1)];exact Hs j x z.2
 | alloc o k=>
  refine x2 e fun al e=> ?_
  cases e
  refine⟨h.push o,⟨fun j x gj=>(PT.ins_get o x 40 T n j gj).elim (fun z=> ?_) fun z=>Heap.get?_push_of_some o (Hs j x z.2),by rw [a1U];exact congrArg (· +1) Hn⟩,congrArg (fun a=>Step.go ⟨h.push o,gens,drawn,toks,os⟩ ⟨k a,code,pos,stack⟩) Hn⟩
  rw [z.1,z.2]
  have:=Heap.get?_push_size h (xn al)
  rw [Hn] at this
  exact this
 | loadIfAlive a k=>exact x0 e
 | _=>exact A8U rfl ⟨Hs,Hn⟩ e
end
noncomputable def B7U (p:Program)(w:World)(n₀:Nat)(ann:Option Value)(b n:Nat):SP→Thread→Option (Flow×SP×Code×Pos):=n.rec (fun Ω Ω=>none) fun Ω go s t=>
 match endAt b t with
  | some f=>some (f,s,t.code,t.pos)
  | none=>gd (PySem.W.Fast.tw6613529449190102663 n₀ ann t) ((B8S PySem.W.Fast.tw8437177126325714943 (PySem.W.Fast.tw11892475500146522536 PySem.W.Fast.tw14364793385576792824) p w s t).bind fun r=>go r.1 r.2)
theorem B8Z {p:Program}{w:World}{n₀:Nat}{ann:Option Value}: ∀ {s s':SP} {t:Thread} {f:Flow} {c:Code} {q:Pos} {h:Heap},s.On h→B7U p w n₀ ann b n s t=some (f,s',c,q)→
  ∃ h',s'.On h'∧segRun treeTable p w n₀ ann b n (s.sh h) t=some (f,s'.sh h',c,q):=by
 induction n with
 | zero=>exact fun Ω e=>x0 e
 | succ n ih=>
  intro s s' t f c q h O e
  change (match endAt b t with
   | some f=>some (f,s,t.code,t.pos)
   | none=>gd (PySem.W.Fast.tw6613529449190102663 n₀ ann t) ((B8S PySem.W.Fast.tw8437177126325714943 (PySem.W.Fast.tw11892475500146522536 PySem.W.Fast.tw14364793385576792824) p w s t).bind fun r=>B7U p w n₀ ann b n r.1 r.2))=_ at e
  unfold segRun
  cases he:endAt b t with
  | some x=>rw [he] at e;cases e;exact⟨h,O,rfl⟩
  | none=>
   rw [he,←PySem.W.Fast.te6613529449190102663,←PySem.W.Fast.te8437177126325714943,←PySem.W.Fast.te11892475500146522536,←PySem.W.Fast.te14364793385576792824] at e
   refine x2 e fun hk e=>x3 e fun r hs e=> ?_
   obtain⟨h₂,O₂,e₂⟩:=B1x O hs
   rw [hk,e₂]
   exact ih O₂ e
noncomputable def p0:Pos:=⟨0,0,0,0⟩
noncomputable def bd:List Stmt:=behindTheImports pw
noncomputable def B5s:Env:= {scope:=pw.main.scope,locals:=mainNs,globals:=mainNs,cells:= [],code:= .ref 13,frame:=some 14}
noncomputable def cT:Code:= .body bd B5s
noncomputable def B5n:Option Value:=some (.ref 6)
noncomputable def h0 (P:Params):List Obj:= [boot_o_0 P,boot_o_1 P,boot_o_2 P,boot_o_3 P,boot_o_4 P,boot_o_5 P,boot_o_6 P,boot_o_7 P,boot_o_8 P,boot_o_9 P,boot_o_10 P,
 ⟨.type "tuple",none,.seq #[] 0,#[]⟩,⟨.none,none,.fields #[],#[]⟩,B5k,
 ⟨.type "frame",none,.plain,#[some (.ref 13),some (.ref 3),some (.ref 3),none,some (vS "__main__" 164),none,some (.ref 0)]⟩]
noncomputable def shA (P:Params)(os:OsState):Shared:=⟨⟨(h0 P).toArray,{}⟩,#[],boot_drawn,187,os⟩
noncomputable def shZ (P:Params)(os:OsState):Shared:=⟨boot_heap P,#[],boot_drawn,boot_toks,os⟩
theorem B9d: ∀ (w:World) (os:OsState),topGo treeTable pw w 11 B5n 12 (shZ w.params os) (topStub pw)=some (shA w.params os,⟨denote treeTable (.body bd B5s),cT,p0,[topFrame p0]⟩):=by
 intro w os;kernel_rfl
noncomputable def z0 (P:Params):Frag:= [(0,boot_o_0 P),(1,boot_o_1 P),(2,boot_o_2 P),(3,boot_o_3 P),(4,boot_o_4 P),(5,boot_o_5 P),(6,boot_o_6 P),(7,boot_o_7 P),(8,boot_o_8 P),(9,boot_o_9 P),(10,boot_o_10 P),
 (12,⟨.none,none,.fields #[],#[]⟩),(13,B5k),(14,⟨.type "frame",none,.plain,#[some (.ref 13),some (.ref 3),some (.ref 3),none,some (vS "__main__" 164),none,some (.ref 0)]⟩)]
noncomputable def B8W (l:Frag)(n toks:Nat)(os:OsState):SP:=⟨PT.of l,n,#[],boot_drawn,toks,os⟩
noncomputable def g1:List Stmt:=bd.take 24
noncomputable def g2:List Stmt:=(bd.drop 24).take 22
noncomputable def g3:List Stmt:=(bd.drop 46).take 12
noncomputable def g4:List Stmt:=(bd.drop 58).take 11
noncomputable def g5:List Stmt:=bd.drop 69
noncomputable def q1:Pos:=⟨500,0,501,8⟩
noncomputable def q2:Pos:=⟨703,0,703,8⟩
noncomputable def q3:Pos:=⟨809,0,846,34⟩
noncomputable def q4:Pos:=⟨1130,0,1139,44⟩
noncomputable def q5:Pos:=⟨1413,0,1445,144⟩
noncomputable def look (l:Frag)(r:Flow×SP×Code×Pos):=(r.1,r.2.2.1,r.2.2.2,r.2.1.n,r.2.1.gens,r.2.1.drawn,r.2.1.toks,r.2.1.os,l.map fun p=>r.2.1.tree.get p.1)
noncomputable def A4M (l:Frag)(n toks:Nat)(os:OsState)(q:Pos):=(Flow.next,cT,q,n,(#[]:Array GenState),boot_drawn,toks,os,l.map fun p=>some p.2)
theorem A6n {h:Heap}{T:PT}(S:Sub T h): ∀ {l:Frag},(l.map fun p=>T.get p.1)=(l.map fun p=>some p.2)→X.AllIn h l
 | [],_=>trivial
 | p::l,e=>by
  rw [a0V,a0V] at e
  injection e with e1 e2
  exact⟨S _ _ e1,A6n S e2⟩
theorem B4Z {w:World}{os:OsState}{l l':Frag}{n' toks toks' N:Nat}{g:List Stmt}{q q':Pos}{h:Heap}
  (c:(B7U pw w 11 B5n 1 N (B8W l n toks os) (piecesOf g B5s cT q [topFrame p0])).map (look l')=some (A4M l' n' toks' os q')) (A:X.AllIn h l) (hn:h.objs.size=n):
  ∃ h',X.AllIn h' l'∧h'.objs.size=n'∧segRun treeTable pw w 11 B5n 1 N ⟨h,#[],boot_drawn,toks,os⟩ (piecesOf g B5s cT q [topFrame p0])=some (.next,⟨h',#[],boot_drawn,toks',os⟩,cT,q'):=by
 obtain⟨⟨f,s',c',p'⟩,e,e'⟩:=Option.map_eq_some_iff.mp c
 obtain⟨T',m',gs',d',t',o'⟩:=s'
 simp only [look,A4M,Prod.mk.injEq] at e'
 obtain⟨rfl,rfl,rfl,rfl,rfl,rfl,rfl,rfl,e'⟩:=e'
 obtain⟨h',⟨S',hn'⟩,r⟩:=B8Z (h:=h) (s:=B8W l n toks _) ⟨C1j A,hn⟩ e
 exact⟨h',A6n S' e',hn',r⟩
theorem c1: ∀ (w:World) (os:OsState),(B7U pw w 11 B5n 1 6343 (B8W (z0 w.params) 15 187 os) (piecesOf g1 B5s cT p0 [topFrame p0])).map (look (l24 w.params))=some (A4M (l24 w.params) 809 1197 os q1):=by
 intro w os;kernel_rfl
theorem c2: ∀ (w:World) (os:OsState),(B7U pw w 11 B5n 1 4391 (B8W (l24 w.params) 809 1197 os) (piecesOf g2 B5s cT q1 [topFrame p0])).map (look (l46 w.params))=some (A4M (l46 w.params) 1245 1743 os q2):=by
 intro w os;kernel_rfl
theorem c3: ∀ (w:World) (os:OsState),(B7U pw w 11 B5n 1 4234 (B8W (l46 w.params) 1245 1743 os) (piecesOf g3 B5s cT q2 [topFrame p0])).map (look (l58 w.params))=some (A4M (l58 w.params) 1577 2163 os q3):=by
 intro w os;kernel_rfl
theorem c4: ∀ (w:World) (os:OsState),(B7U pw w 11 B5n 1 4948 (B8W (l58 w.params) 1577 2163 os) (piecesOf g4 B5s cT q3 [topFrame p0])).map (look (l69 w.params))=some (A4M (l69 w.params) 2006 2690 os q4):=by
 intro w os;kernel_rfl
theorem c5: ∀ (w:World) (os:OsState),(B7U pw w 11 B5n 1 4820 (B8W (l69 w.params) 2006 2690 os) (piecesOf g5 B5s cT q4 [topFrame p0])).map (look (l89 w.params))=some (A4M (l89 w.params) 2445 3261 os q5):=by
 intro w os;kernel_rfl
theorem C4Z:bd=g1++ (g2++ (g3++ (g4++ (g5++ [])))):=by kernel_rfl
theorem B7D (P:Params):X.AllIn ⟨(h0 P).toArray,{}⟩ (z0 P):=by
 refine X.allIn_of ?_
 kernel_rfl
theorem B9V {w:World}{q:Pos}:topRun treeTable pw w 11 B5n 5 s ⟨doneF .next,cT,q,[topFrame p0]⟩=some s:=by
 obtain⟨h,g,d,t,os⟩:=s
 rfl
theorem B2N (w:World)(os:OsState): ∃ h',X.AllIn h' (l89 w.params)∧h'.objs.size=2445∧
  topRun treeTable pw w 11 B5n 30000 (shZ w.params os) (topStub pw)=some ⟨h',#[],boot_drawn,3261,os⟩:=by
 obtain⟨h1,A1,n1,r1⟩:=B4Z (c1 w os) (B7D w.params) rfl
 obtain⟨h2,A2,n2,r2⟩:=B4Z (c2 w os) A1 n1
 obtain⟨h3,A3,n3,r3⟩:=B4Z (c3 w os) A2 n2
 obtain⟨h4,A4,n4,r4⟩:=B4Z (c4 w os) A3 n3
 obtain⟨h5,A5,n5,r5⟩:=B4Z (c5 w os) A4 n4
 refine⟨h5,A5,n5,?_⟩
 have k5:=piece_app (rest:= []) r5 (piece_nil (env:=B5s) B9V)
 have k4:=piece_app r4 k5
 have k3:=piece_app r3 k4
 have k2:=piece_app r2 k3
 have k1:=piece_app r1 k2
 rw [←C4Z] at k1
 have kb:=piece_block (n:=1) (s:=shA w.params os) (s':=shA w.params os) (p':=p0) (by rfl) k1
 have kk:=go_top (B9d w os) kb
 have:=topRun_mono (30000 - (12+ (1+ (6343+ (4391+ (4234+ (4948+ (4820+5)))))))) _ _ _ _ kk
 exact this
noncomputable def qT:Program:= {pw with main:= {pw.main with body:= [s1 88]}}
noncomputable def A6b:List Str:=List.map Str.ofString ["_wall","hexlify","unhexlify","Sha256","Sha256_misc","hashlib","ripemd160","EmbitError","_whence","_index","UnsupportedOperation","IOBase","BufferedIOBase","TextIOBase","BytesIO","StringIO","EmbitBase","EmbitKey","DescriptorError","MiniscriptError","ArgumentError","DescriptorBase","EC_COMPRESSED","EC_UNCOMPRESSED","ec_pubkey_serialize","PublicKey","to_bytes","hash160","Key","KeyHash","Number","Raw","Raw32","Raw20","Miniscript","OneArg","PkK","PkH","Older","After","Sha256_miniscript","Hash256","Ripemd160","Hash160","AndOr","AndV","AndB","AndN","OrB","OrC","OrD","OrI","Thresh","Pk","Pkh","Wrapper","A","S","C","T","D","V","J","N","L","U","_law_old","_law_new","_law_number","_law_body","_law_leaf","_law_made","_law_items","_law_let"]
noncomputable def lS (P:Params):Frag:= [(0,boot_o_0 P),(1,C0w P),(4,C0v),(2441,B1h)]++ (K P).filter fun p=>Nat.blt p.1 4|| Nat.blt 2442 p.1
noncomputable def C2G:Obj:=⟨.none,none,.freed,#[]⟩
noncomputable def A9z (l:Frag):Nat→Nat→List Obj
 | 0,_=> []
 | n+1,i=>((l.lookup i).getD C2G)::A9z l n (i+1)
noncomputable def hS (P:Params):Heap:=⟨(A9z (lS P) 2445 0).toArray,{}⟩
theorem A8g (l:Frag): ∀ (n i j:Nat),(A9z l n i)[j]?=if j<n then some ((l.lookup (i+j)).getD C2G) else none
 | 0,_,_=>by simp [A9z]
 | n+1,i,0=>by simp [A9z]
 | n+1,i,j+1=>by
  rw [A9z,List.getElem?_cons_succ,A8g l n (i+1) j,show i+1+j=i+ (j+1) by lia]
  by_cases h:j<n
  ·rw [if_pos h,if_pos (Nat.succ_lt_succ h)]
  ·rw [if_neg h,if_neg (fun q=>h (Nat.lt_of_succ_lt_succ q))]
theorem A3w {h:Heap}: ∀ {l:Frag},X.AllIn h l→ ∀ {a:Addr} {o:Obj},l.lookup a=some o→h.get? a=some o
 | [],_,_,_,e=>by exact x0 e
 | p::l,A,a,o,e=>by
  obtain⟨b,ob⟩:=p
  rw [a0M] at e
  by_cases hb:(a==b)=true
  ·rw [hb] at e
   obtain rfl:=a0D hb
   refine x1 e ?_
   exact A.1
  ·rw [Bool.not_eq_true] at hb
   rw [hb] at e
   exact A3w A.2 e
theorem B6X {P:Params}{h:Heap}(A:X.AllIn h (lS P)): ∀ b o,(hS P).get? b=some o→h.get? b=some o:=by
 intro b o e
 obtain⟨e1,e2⟩:=Heap.get?_some_iff.mp e
 have e1:(A9z (lS P) 2445 0)[b]?=some o:=by simpa [hS] using e1
 rw [A8g,Nat.zero_add] at e1
 split at e1
 ·cases q:(lS P).lookup b with
  | none=>rw [q] at e1;obtain rfl:=a0E e1;cases e2
  | some x=>rw [q] at e1;refine x1 e1 ?_;exact A3w A q
 ·exact x0 e1
noncomputable def XtT (s:Shared):Bool:=xlAt qT [] s&&recOk [] s
theorem C0p:chainsOk qT=true:=by kernel_rfl
theorem C3Z: ∀ (w:World) (os:OsState),openSeen qT A6b [] XtT true ⟨hS w.params,#[],boot_drawn,3261,os⟩=openGood qT A6b:=by
 intro w os
 rw [PySem.W.Fast.te4187177175401517315]
 kernel_rfl
theorem B5E: ∀ (w:World),staticsOk [] (boot_heap w.params) (hS w.params)=true:=by intro w;kernel_rfl
theorem C1Y: ∀ (w:World),namesBound pw (hS w.params)=true:=by intro w;kernel_rfl
theorem C4r: ∀ (w:World),laidKept (boot_heap w.params) (hS w.params)=true:=by intro w;kernel_rfl
theorem C5D:importedModules pw.main.body= []:=by kernel_rfl
theorem C6D: ∀ (P:Params),((hS P).isNs mainGlobals&& (hS P).isNs cStatics)=true:=by intro P;kernel_rfl
theorem C6Y: ∀ (P:Params),(hS P).isNs builtinsNs=true:=by intro P;kernel_rfl
theorem C5c: ∀ (P:Params),(boot_heap P).nsMap mainGlobals "__annotations__" =B5n:=by intro P;kernel_rfl
theorem C3c: ∀ (P:Params),(boot_heap P).isNs mainGlobals=true:=by intro P;kernel_rfl
noncomputable abbrev lwR:OpenLaw:=PySem.Challenge.rw_ai0024_01
theorem w1:decide (lwR.foot≤ (behindTheImports lwR.prog).length)=true:=by kernel_rfl
theorem w2:lwR.footing.all footLine=true:=by
 rw [PySem.W.Fast.te10501279942588096481];kernel_rfl
theorem w3:noClassBlock lwR.prog lwR.footing=true:=(congrFun (congrFun PySem.W.Fast.te8179353310426384613 _) _).trans (by kernel_rfl)
theorem w4:lwR.most.all (fun n=>decide (63≤n))=true:=by kernel_rfl
theorem w5:lwR.bound.all (fun n=>decide (2^63≤n))=true:=by kernel_rfl
theorem w6:noRoadLSs {strict:=true,foot:=some lwR.bound',writes:=lwR.writes,may:=lwR.may} lwR.footing=true:=by
 rw [PySem.W.Fast.te797321630700447069];exact(congrFun (congrFun PySem.W.Fast.te8326940854005059898 _) _).trans (by kernel_rfl)
theorem w7:defStands lwR.about lwR.above=true:=(congrFun (congrFun PySem.W.Fast.te9558739934217749035 _) _).trans (by kernel_rfl)
theorem w10:lwR.bound'.all (fun n=> !builtinNamed n|| lwR.about== [n]|| !lwR.reads n)=true:=by
 rw [PySem.W.Fast.te797321630700447069,PySem.W.Fast.te6984425678791042302,PySem.W.Fast.named_eq];kernel_rfl
theorem w8:lwR.namesIt=true:=(congrFun PySem.W.Fast.te16286561074155671207 _).trans (by kernel_rfl)
theorem w9:(["type","isinstance","issubclass","getattr","hasattr"]:List Str).all (fun n=>lwR.about != [n])=true:=by kernel_rfl
theorem w11:(!lwR.writes|| (lwR.prog.main.body.flatMap importedNames).all fun n=> !lwR.reads n)=true:=by kernel_rfl
theorem w12:(lwR.prog.main.body.flatMap importedNames).all (fun n=> !lwR.reads n|| (drawsOf n lwR.prog.main.body).all fun mn=>mn.2 !=("attrgetter" :Str)&&mn.2 !=("methodcaller" :Str))=true:=by kernel_rfl
theorem w13:namesMeet lwR.prog lwR.footing (fun sc n=>(!(["type","isinstance","issubclass","getattr","hasattr"]:List Str).contains n|| sc.names.lookup n==some .globalImplicit)&&
 (lwR.may !=some n|| sc.kind== .module|| sc.names.lookup n==some .globalImplicit))=true:=(congrFun (congrFun (congrFun PySem.W.Fast.te17119622794617984870 _) _) _).trans (by kernel_rfl)
theorem w14:lwR.own.contains lwR.name=true:=by
 rw [PySem.W.Fast.te10792542408131684335];kernel_rfl
theorem w15:(lwR.own.eraseDups.length==lwR.own.length)=true:=by
 rw [PySem.W.Fast.te10792542408131684335];kernel_rfl
theorem w16:lwR.own.all (fun n=> !builtinNamed n)=true:=by
 rw [PySem.W.Fast.te10792542408131684335,PySem.W.Fast.named_eq];kernel_rfl
theorem w18:namesMeet lwR.prog lwR.footing (fun sc n=>sc.kind== .module|| sc.names.lookup n !=some .globalExplicit)=true:=(congrFun (congrFun (congrFun PySem.W.Fast.te17119622794617984870 _) _) _).trans (by kernel_rfl)
theorem w17:namesMeet lwR.prog lwR.above (fun Ω n=> !lwR.own.contains n)=true:=by
 rw [PySem.W.Fast.te10792542408131684335];exact(congrFun (congrFun (congrFun PySem.W.Fast.te17119622794617984870 _) _) _).trans (by kernel_rfl)
theorem wx1:sreFenced lwR.row.prog.main=true:=(congrFun PySem.W.Fast.te11788848310118352699 _).trans (by kernel_rfl)
theorem wx2:((moduleNames lwR.row.prog.main.body).isEmpty|| lookedIntoSs (moduleNames lwR.row.prog.main.body) lwR.row.prog.main.body)=true:=by
 rw [PySem.W.Fast.te9807087744658564304];kernel_rfl
theorem wx3:namesResolve lwR.row.prog=true:=(congrFun PySem.W.Fast.te8377067652309620493 _).trans (by kernel_rfl)
theorem wx4:lwR.row.prog.boundNames.all (fun n=> !worldNames.contains n)=true:=by
 rw [PySem.W.Fast.te18344453789297297638,PySem.W.Fast.te14412699480532031325];kernel_rfl
theorem wx6:namesMeet lwR.row.prog lwR.row.prog.main.body (fun Ω n=>attrL n)=true:=by
 rw [PySem.W.Fast.te17868728402115742887];exact(congrFun (congrFun (congrFun PySem.W.Fast.te17119622794617984870 _) _) _).trans (by kernel_rfl)
noncomputable def lk0:Look:= {strict:=false,foot:=none}
theorem xlk:({strict:= !(importedModules lwR.row.prog.main.body).all cThrough.contains,foot:=none,bare:=(["vars","dir","locals"]:List Str).filter (readsOut lwR.row.prog lwR.row.prog.main.body)}:Look)=lk0:=by
 rw [PySem.W.Fast.te13343964577679436407];kernel_rfl
theorem B1N (lk:Look)(a b:List Stmt)(x:noRoadLSs lk a=true)(y:noRoadLSs lk b=true):noRoadLSs lk (a++b)=true:=by
 induction a with
 | nil=>exact y
 | cons s a ih=>
  have x:=Bool.and_eq_true_iff.mp (show (_&&_)=true from x)
  show (_&&_)=true
  exact Bool.and_eq_true_iff.mpr ⟨x.1,ih x.2⟩
theorem y5a:noRoadLSs lk0 (lwR.row.prog.main.body.take 40)=true:=(congrFun (congrFun PySem.W.Fast.te8326940854005059898 _) _).trans (by kernel_rfl)
theorem y5b:noRoadLSs lk0 ((lwR.row.prog.main.body.drop 40))=true:=(congrFun (congrFun PySem.W.Fast.te8326940854005059898 _) _).trans (by kernel_rfl)
theorem wx5:noRoadLSs {strict:= !(importedModules lwR.row.prog.main.body).all cThrough.contains,foot:=none,bare:=(["vars","dir","locals"]:List Str).filter (readsOut lwR.row.prog lwR.row.prog.main.body)} lwR.row.prog.main.body=true:=by
 rw [xlk,←List.take_append_drop 40 lwR.row.prog.main.body]
 exact B1N _ _ _ y5a y5b
theorem wx7:(lwR.row.loose.isEmpty&&lwR.row.makers.isEmpty)=true:=by kernel_rfl
theorem wx8:lwR.row.partSaid=true:=by
 have a:looksOpen lwR.row.prog=true:=a1C (a1C (a1C (a1C (a1C wx1 wx2) wx3) wx4) wx5) wx6
 have b:(lwR.row.records.isEmpty|| lwR.row.raises.all fun ct=>ct.1 != .builtin "AttributeError" &&ct.1 != .builtin "TypeError")=true:=by kernel_rfl
 have c:(lwR.row.raises.all fun ct=>match ct.1 with| .builtin n=> !lwR.row.prog.boundNames.contains (Str.ofString n)&& !ofTheWorld.contains n| .own _=>true)=true:=by kernel_rfl
 have d:decide (lwR.row.records.map (·.1)).Nodup=true:=by kernel_rfl
 have e:(lwR.row.records.all fun x=> !x.1.opensWith "__" && !builtinNamed x.1&&lwR.row.prog.boundNames.contains x.1&&x.2.all fun f=> !f.1.opensWith "__")=true:=by kernel_rfl
 have f:lwR.row.toRowW.solid=true:=(congrFun PySem.W.Fast.te13582783067957832011 _).trans (by kernel_rfl)
 have g:lwR.row.pre.litsOk=true:=by kernel_rfl
 have h:lwR.row.post.litsOk=true:=by kernel_rfl
 have i:lwR.row.raises.all (·.2.litsOk)=true:=by kernel_rfl
 have j:lwR.row.mutates.all (fun i=>match lwR.row.args[i]? with
  | some sh=> !sh.arms.any WShape.isObj
  | none=>false)=true:=by kernel_rfl
 have k:lwR.row.within.all (fun i=>decide (i<lwR.row.args.length))=true:=by kernel_rfl
 have l:lwR.row.same.all (fun i=>decide (i<lwR.row.args.length))=true:=by kernel_rfl
 have m1:lwR.row.loose.isEmpty=true:=by kernel_rfl
 have m2:lwR.row.makers.isEmpty=true:=by kernel_rfl
 exact a1C (a1C (a1C (a1C (a1C (a1C (a1C (a1C (a1C (a1C (a1C (a1C (a1C a m1) m2) b) c) d) e) f) g) h) i) j) k) l
theorem wx9:lwR.row.prog.boundNames.contains lwR.row.name=true:=by
 rw [PySem.W.Fast.te18344453789297297638];kernel_rfl
theorem x10:(!startupNames.contains lwR.row.name)=true:=by kernel_rfl
theorem w0:lwR.row.wellSaid=true:=a1C (a1C wx8 wx9) x10
theorem C6i:lwR.wellSaid=true:=a1C (a1C (a1C (a1C (a1C (a1C (a1C (a1C (a1C (a1C (a1C (a1C (a1C (a1C (a1C (a1C (a1C (a1C w0 w1) w2) w3) w4) w5) w6) w7) w8) w9) w10) w11) w12) w13) w14) w15) w16) w17) w18
noncomputable abbrev rT:OpenRow:=lwR.row
noncomputable def C6j (w:World)(os:OsState):Shared:=⟨hS w.params,#[],boot_drawn,3261,os⟩
theorem A7r {h:Heap}{l:Frag}(A:X.AllIn h l): ∀ {l':Frag},(l'.map fun p=>l.lookup p.1)=(l'.map fun p=>some p.2)→X.AllIn h l'
 | [],_=>trivial
 | p::l',e=>by
  rw [a0V,a0V] at e
  injection e with e1 e2
  exact⟨A3w A e1,A7r A e2⟩
theorem C2n (P:Params):((lS P).map fun p=>(l89 P).lookup p.1)=((lS P).map fun p=>some p.2):=by kernel_rfl
theorem C5h (P:Params):((K P).map fun p=>(l89 P).lookup p.1)=((K P).map fun p=>some p.2):=by kernel_rfl
theorem B3D:opening pw=plainProg pw.main.scope.names:=by kernel_rfl
theorem B6Z (s:Shared):fenceModules? pw s=some s:=by kernel_rfl
theorem A1u {h h':Heap}(k: ∀ b o,h.get? b=some o→h'.get? b=some o)(x:h.isNs mainGlobals=true)(n:Str):globalOf h' n=globalOf h n:=by
 obtain⟨o,es,ep,ho,_⟩:=Heap.Ns.of_isNs x
 unfold globalOf
 have e1:h.get? mainNs=some o:=ho
 have e2:h'.get? mainNs=some o:=k _ _ ho
 rw [e1,e2]
theorem B4g {h h':Heap}(k: ∀ b o,h.get? b=some o→h'.get? b=some o){a:Addr}(x:h.isNs a=true):h'.isNs a=true:=by
 obtain⟨o,es,ep,ho,_⟩:=Heap.Ns.of_isNs x
 unfold Heap.isNs at x ⊢
 rw [ho] at x
 rw [k _ _ ho];exact x
theorem A5X {h h':Heap}(k: ∀ b o,h.get? b=some o→h'.get? b=some o){a:Addr}(x:h.isNs a=true):h'.nsMap a=h.nsMap a:=by
 obtain⟨o,es,ep,ho,_⟩:=Heap.Ns.of_isNs x
 funext n
 unfold Heap.nsMap
 rw [ho,k _ _ ho]
theorem A3p {h h':Heap}(k: ∀ b o,h.get? b=some o→h'.get? b=some o)(x:h.isNs cStatics=true)(n:Str):staticOf h' n=staticOf h n:=by
 obtain⟨o,es,ep,ho,_⟩:=Heap.Ns.of_isNs x
 unfold staticOf
 rw [ho,k _ _ ho]
theorem A5K {h h':Heap}(k: ∀ b o,h.get? b=some o→h'.get? b=some o)(x:h.isNs builtinsNs=true)(n:Str):builtinOf h' n=builtinOf h n:=by
 obtain⟨o,es,ep,ho,_⟩:=Heap.Ns.of_isNs x
 unfold builtinOf
 rw [ho,k _ _ ho]
theorem C5Y (w:World): ∃ s s₀ s₁,AfterRun (opening pw) w s∧fenceModules? pw s=some s₀∧s₀.gens= #[]∧TopRan pw w s₀ s₁∧s₁.asleep∧s₁.gens= #[]∧s₁.heap.isNs mainGlobals=true∧
  Ground qT A6b [] (XL qT []) w s₁ (s₁.heap.nsMap mainGlobals) (s₁.heap.nsMap builtinsNs) s₁.heap∧(K w.params).In s₁.heap:=by
 have hb:=boot_open (p:=pw) (N:=30000) B3D (by decide) B6Z w
 obtain⟨s₀,h1,e⟩:=Option.map_eq_some_iff.mp hb
 obtain⟨hh,gs,dr,tk,os⟩:=s₀
 simp only [Prod.mk.injEq] at e
 obtain⟨rfl,rfl,rfl,rfl⟩:=e
 unfold fencedOpening at h1
 rw [←table_eq_tree] at h1
 obtain⟨s,h4,h5⟩:=Option.bind_eq_some_iff.mp h1
 have A:=AfterImport.of_importEnds h4
 obtain⟨h',AI,hn,hr⟩:=B2N w os
 rw [←table_eq_tree] at hr
 have z:(shZ w.params os).asleep:=Shared.asleep_of_life (fence_lifeW h5) A.life
 obtain⟨a,l,osE,fr⟩:=topRun_spec _ _ _ _ z hr
 have AS:X.AllIn h' (lS w.params):=A7r AI (C2n w.params)
 have AK:(K w.params).In h':=fun b o e=>A3w (A7r AI (C5h w.params)) e
 have ks:=B6X AS
 obtain⟨G,g0,g1,g2,g3,g4,g5⟩:=ground_of_open (mods:= []) (XP:=XL qT []) (w:=w) (s:=C6j w os) (fun s e=>xl_of s (Bool.and_eq_true_iff.mp e).1) C0p (C3Z w os)
 obtain⟨nsG,nsS⟩:=Bool.and_eq_true_iff.mp (C6D w.params)
 have nsG':h'.isNs mainGlobals=true:=B4g ks nsG
 have eG:h'.nsMap mainGlobals=(hS w.params).nsMap mainGlobals:=A5X ks nsG
 have nsB:(hS w.params).isNs builtinsNs=true:=C6Y w.params
 have eB:h'.nsMap builtinsNs=(hS w.params).nsMap builtinsNs:=A5X ks nsB
 have G':=G.keeps XL.keeps (h':=h') ks
 refine⟨s,_,⟨h',#[],boot_drawn,3261,os⟩,A,h5,rfl,⟨a,l,Shared.rest_eq osE,fun b o hb hn'=>fr b o (a0W hb) (fun q=>hn' (.inl q)) (fun q=>hn' (.inr (.inl q))) (fun q=>hn' (.inr (.inr ?_))) hb,?_,?_,?_,?_,?_,?_,?_,?_⟩,Shared.asleep_of_life l z,rfl,nsG',?_,AK⟩
 ·show globalOf (boot_heap w.params) "__annotations__" =some (.ref b)
  rw [Pin.globalOf_eq (C3c w.params),C5c];exact q
 ·rw [C5D]
  have se:staticOf h'=staticOf (hS w.params):=funext (A3p ks nsS)
  show staticsAccountedI h' []
  unfold staticsAccountedI
  rw [se];exact g2
 ·rw [C5D]
  intro key
  have:=statics_of_ok (B5E w) key
  rw [A3p ks nsS]
  exact this
 ·obtain⟨o,es,n,e1,e2,e3⟩:=g3
  exact⟨o,es,n,ks _ _ e1,e2,e3⟩
 ·intro name hn
  exact(A5K ks nsB name).trans (g4 name hn)
 ·obtain⟨bm,o,e1,e2,e3,e4⟩:=g5
  exact⟨bm,o,(A1u ks nsG _).trans e1,ks _ _ e2,e3,e4⟩
 ·intro g hg;simp at hg
 ·intro x v hx
  exact names_of_bound (C1Y w) x v ((A1u ks nsG x).symm.trans hx)
 ·intro x hx
  exact(A1u ks nsG x).trans (laid_of_kept (C4r w) x hx)
 ·have me:ExcName.means h'=ExcName.means (hS w.params):=by
   funext y
   cases y with
   | builtin n=>rfl
   | own n=>delta ExcName.means;dsimp only;rw [A1u ks nsG]
  rw [eG,eB]
  refine⟨by(have t:=G'.T); (have t':Top qT (looseW qT A6b) (ExcName.means (hS w.params)) ((hS w.params).nsMap mainGlobals) ((hS w.params).nsMap builtinsNs) h':=t);rw [←me] at t';exact t',G'.B,G'.D,G'.TE,G'.TD,G'.W,G'.X,fun c a=> ?_,fun c hc=>(nomatch hc),fun c c' a hc=>(nomatch hc),fun c fs hf=>(nomatch hf),G'.K⟩
  have hg:h'.isNs mainGlobals=true:=nsG'
  refine⟨fun hc=> ?_,fun hc=> ?_⟩
  ·have:=(Pin.globalOf_eq hg c).symm.trans (classAt_global hc)
   rw [eG] at this;exact this
  ·unfold classAt;rw [Pin.globalOf_eq hg,eG,hc]
theorem C6V:(defOf qT rT.name).isSome=true:=by kernel_rfl
theorem C6U:(defOf qT rT.name).map (fun x=>(x.1.params,x.1.body,x.1.scope))=pw.theDef rT.name:=by kernel_rfl
theorem C6T:(defOf qT rT.name).map (fun x=>kwWritten? x.1.params.kwonlyargs x.1.params.kw_defaults)=(defOf qT rT.name).map (fun x=>some x.2):=by kernel_rfl
theorem ow1:(opening pw).tameTopW=true:=by rw [B3D];kernel_rfl
theorem ow2:(!bearImports (behindTheImports pw))=true:=by kernel_rfl
theorem ow3:opensWell pw=true:=by rw [opensWell];exact a1C ow1 ow2
theorem C6l:(frees rT.toRowW&&rT.within.isEmpty)=true:=by kernel_rfl
theorem C0O:pw.tablesWhole=true:=by
 unfold Program.tablesWhole TablesWhole.wProgram
 rw [PySem.W.Fast.te6116379765354995101];kernel_rfl
theorem C5a:pw.bare:=⟨rfl,rfl,rfl,rfl,rfl,C0O⟩
theorem promT:PySem.Challenge.rw_ai0024_01.row.toRowW.promised:=by w_witness2
theorem C6G (w:World):nsIn (K w.params) mainGlobals rT.name=some (some (.ref 2444)):=by kernel_rfl
noncomputable abbrev cT1:ClaimW:=rT.toRowW.claim
def C3l:Prop:= ∀ (w:World) (s₀ s₁:Shared) (mg mb:Str→Option Value),Top qT (looseW qT A6b) (ExcName.means s₀.heap) mg mb s₁.heap→(K w.params).In s₁.heap→s₁.gens= #[]→
 ∀ (args:List WData) (vs:List Value) (as:List Addr),cT1.pre args=true→WData.layableAll args=true→ReadsAllW [] (classAt s₀.heap) s₁.heap vs args as→WellAll w.params s₁.heap vs args→(∀ a∈as,(a==sysModules)=false)→
  wpAny (model pw w) callerA (PySem.call (.ref 2444) vs) (fun v s'=>GoodW cT1 (classAt s₀.heap) (ExcName.means s₀.heap) args s₁ (.ok (.ret v)) s') (fun Ω Ω=>False) s₁
theorem B1Q (walk:C3l):PySem.Challenge.rw_ai0024_01.Holds:=by
 refine⟨C6i,w0,promT,?_⟩
 obtain⟨k5,k6⟩:=Bool.and_eq_true_iff.mp C6l
 obtain⟨hsame,hu,ha,hap,hm⟩:=frees_parts k5
 have hi:=ident_freeW hu ha hap
 have hwi:cT1.within= []:=List.isEmpty_iff.mp k6
 refine⟨⟨C5a,ow3,by kernel_rfl⟩,promT.witness,fun w=> ?_⟩
 obtain⟨s,s₀,s₁,A,h5,hg0,hT,hz,hgens,hg,G,hK⟩:=C5Y w
 refine⟨⟨s,A⟩,fun s' hs'=> ?_⟩
 obtain rfl:s'=s:=AfterImport.unique hs' A
 refine⟨s₀,h5,hg0,s₁,hT,?_,fun x hx=>(nomatch hx),fun x hx=>(nomatch hx),?_⟩
 ·intro n hn
  obtain rfl:n=rT.name:=by
   have:n∈ [rT.name]:=hn
   exact a0L.mp this
  obtain⟨⟨d,kwd⟩,hd⟩:=Option.isSome_iff_exists.mp C6V
  have e2:=C6U
  have e3:=C6T
  rw [hd] at e2 e3
  exact pinned_of_view hg G hd e2.symm (a0E e3)
 ·refine ClaimW.callFrom_of_specG (c:=cT1) (tree:=fun vs=>do match ←nsGet mainNs rT.name with
    | some f=>do ret (←PySem.call f vs)
    | none=>unsupported "claim.caller:no-such-global") hz hgens fun args hpre hlay ord hord=> ?_
  obtain⟨⟨vs,s₂⟩,hlaid⟩:=Option.isSome_iff_exists.mp (layAllW_isSome (P:=w.params) (ord:=ord) G.has args rT.toRowW.args s₁ (pre_splitW hpre).1)
  have keeps:=layAllW_keeps _ _ _ hlaid
  have hal:=layAllW_rest _ _ _ hlaid
  obtain⟨as,hrd,hin,hold⟩:=reads_layAllW hord _ _ _ hlaid hlay s₂.heap (fun Ω Ω e=>e)
  have L:Laid [] w s₁ s₂ args vs as:=⟨⟨ord,hord,hlaid⟩,hrd,hin,hold,keeps,hal.1.trans hgens,hal.2.2.1⟩
  have G₁:=G.keeps XL.keeps keeps
  have hf:s₁.heap.nsMap mainGlobals rT.name=some (.ref 2444):=mg_of (hK.keeps keeps) G₁.T.g (C6G w)
  have W:=walk w s₁ s₂ _ _ G₁.T (hK.keeps keeps) L.gens args vs as hpre hlay L.reads L.well (L.low G.low)
  refine⟨vs,s₂,hlaid,?_⟩
  refine a0A (wpAny_nsGet G₁.T.g ?_)
  rw [hf]
  refine a0A (a2F W (fun v s' g=>a0I ?_) fun e s' g=>g.elim)
  have z:=(GoodW.toG g).laid (c:=cT1) hsame hwi hi L
  exact⟨_,rfl,z.1,z.2.1,z.2.2,fun q=>by exact xf q⟩
noncomputable def A0v:Expr→Bool
 | .Call (.Name _ _) [] [] _=>false
 | _=>true
theorem A0e {o:Expr}{attr:Str}{whole:Sem Value}(h:A0v o=true):attributeBase o attr env whole=whole:=by
 cases o with
 | Call f args kws p=>cases f with
  | Name=>cases args with
   | nil=>cases kws with
    | nil=>exact xf h
    | cons=>rfl
   | cons=>rfl
  | _=>rfl
 | _=>rfl
theorem SRep.handed {r:SV}(h:SRep v r):handedIn v=true:=by cases h<;>rfl
noncomputable def A0g:Expr→Bool
 | .Starred _ _=>false
 | _=>true
theorem A0E {e:Expr}(h:A0g e=true):starEach (e::es) env=(false,eval e env)::starEach es env:=by
 cases e<;>first| rfl| exact xf h
theorem A9i (h:es.all A0g=true):(backTo pos (starEach es env)).all (!·.1)=true:=by
 induction es with
 | nil=>rfl
 | cons e es ih=>exact x5 h fun h1 h2=>by rw [A0E h1];exact ih h2
theorem A1D (h:es.all A0g=true):(backTo pos (starEach es env)).any (·.1)=false:=by
 induction es with
 | nil=>rfl
 | cons e es ih=>exact x5 h fun h1 h2=>by rw [A0E h1];exact ih h2
section
variable {r r':V}{t:Sem Value}
theorem A8q {attr:Str}(hs:A0v value=true)(h:Ev G C₀ c A m own (eval value env) r)
  (k: ∀ own' v,Rep G C₀ (vis c (own'++own)) v r→Ev G C₀ c A m (own'++own) (getAttr v attr true) r'):Ev G C₀ c A m own (eval (.Attribute value attr pos) env) r':=by
 intro s Q E S q
 rw [arm_eval_Attribute,A0e hs]
 refine a0A (h s _ E S fun own' v s' S' R=>a0A (a1R (a0A (a0R ?_))))
 refine k own' v R s' _ E S' fun own'' w s'' S'' R'=>a0A (wpAny_letTemporaryGo (a0I ?_))
 exact q (own''++own') w s'' S''.asc (by rw [a0C];exact R')
theorem A0A {K:Frag}(h:A1o K C=true)(name:Str):plainGet K C name=true∧hasDictIn K C=true∧noSeq K C=true:=by
 unfold A1o at h
 simp only [a1B] at h
 exact⟨h.1.1.1.1.1.1,h.1.1.1.1.1.2,h.1.1.1.1.2⟩
theorem A2E {K:Frag}(h:A1o K C=true):findIn K (.ref C) "__class__" =some (some (.builtin "object.__class__"))∧
  specialIn K (.builtin "object.__class__") "__get__" =some (some (.builtin "getset_descriptor.__get__"))∧takesIn K (.builtin "object.__class__")=some true∧mroIn K C (.type "object")=some true:=by
 unfold A1o at h
 simp only [a1B,beq_iff_eq] at h
 exact⟨h.1.1.1.2,h.1.1.2,h.1.2,h.2⟩
theorem inst_at {x dx:Addr}{es:List DictEntry}{k:Nat}(S:St c m own s)(ok:c.Ok G A)(h1:vis c own x ⟨.ref C,some dx,.plain,#[]⟩)(h2:vis c own dx (dictOf es k)):
 InstAt s.heap x ⟨.ref C,some dx,.plain,#[]⟩ C (some (dictOf es k)):=⟨S.get ok h1,rfl,rfl,S.get ok h2⟩
theorem A6h {x dx:Addr}{es:List DictEntry}{k:Nat}{name:Str}{attr:Option Value}{e:Bool}(ok:c.Ok G A)(h1:vis c own x ⟨.ref C,some dx,.plain,#[]⟩)(h2:vis c own dx (dictOf es k))(hp:A1o G.K C=true)
  (ha:findIn G.K (.ref C) name=some attr) (hn:noGet G.K attr=true) (hl:getL name es=some (some v)) (hh:handedIn v=true) (R:Rep G C₀ (vis c own) v r):Ev G C₀ c A m own (getAttr (.ref x) name e) r:=by
 intro s Q E S q
 exact get_own S.F ok.X₀ (inst_at S ok h1 h2) (A0A hp name).1 (A0A hp name).2.1 ha hn hl hh (q [] v _ (S.tok _) R)
theorem B2i {x dx:Addr}{es:List DictEntry}{k:Nat}{name:Str}{e:Bool}(ok:c.Ok G A)(h1:vis c own x ⟨.ref C,some dx,.plain,#[]⟩)(h2:vis c own dx (dictOf es k))(hp:A1o G.K C=true)
  (ha:findIn G.K (.ref C) name=some (some v)) (hn:specialIn G.K v "__get__" =some none) (hh:handedIn v=true) (hc:copiedNames.contains name=false) (hl:getL name es=some none) (R:Rep G C₀ (vis c own) v r):
  Ev G C₀ c A m own (getAttr (.ref x) name e) r:=by
 intro s Q E S q
 exact get_cls S.F ok.X₀ (inst_at S ok h1 h2) (A0A hp name).1 (A0A hp name).2.1 ha hn hh hc hl (q [] v _ (S.tok _) R)
theorem A5i {x dx p fget:Addr}{es:List DictEntry}{k:Nat}{name:Str}{rest:List Value}{e:Bool}{post:Held→Value→Prop}(ok:c.Ok G A)(room:Room A (n+1))(h1:vis c own x ⟨.ref C,some dx,.plain,#[]⟩)(h2:vis c own dx (dictOf es k))(hp:A1o G.K C=true)
  (ha:findIn G.K (.ref C) name=some (some (.ref p))) (hn:specialIn G.K (.ref p) "__get__" =some (some (.builtin "property.__get__"))) (ht:takesIn G.K (.ref p)=some true) (hr:recIn G.K p "property" =some (.ref fget::rest))
  (hc:Calls G C₀ n Z fget ⟨[.ref x],[]⟩ post False) (hz:Z.le (vis c own)) (hpost: ∀ own' v,post (vis c (own'++own)) v→handedIn v=true∧Rep G C₀ (vis c (own'++own)) v r):Ev G C₀ c A m own (getAttr (.ref x) name e) r:=by
 intro s Q E S q
 refine get_prop S.F ok.X₀ (inst_at S ok h1 h2) (A0A hp name).1 (A0A hp name).2.1 ha hn ht hr ?_
 refine hc c A.in1 m own _ _ ok.in1 (room.in1 (a1A n)) (S.tok _) hz (fun own' v s' S' p=> ?_) fun Ω Ω x=>x.elim
 have:=hpost own' v p
 exact handed_on this.1 (q own' v s' S' this.2)
theorem A0j {o:Expr}{name:Str}{apos:Pos}{args:List Expr}{ov:Value}(hp:(apos.endLine==pos.line)=true)(hs:args.all A0g=true)(hl:args.length<30):
  methodCall o name apos pos env ov (args.length+0) (backTo pos (starEach args env)) (backToKw pos (keywordEach [] env))=
   (do let (f,first) ←holding [ov] (getMethod ov name (do return (←importBound o env).getD true));callWith pos f first (backTo pos (starEach args env)) []):=by
 have hf:methodCallForm (args.length+0) (backTo pos (starEach args env)) (backToKw pos (keywordEach [] env))=true:=by
  unfold methodCallForm
  rw [A9i hs]
  exact a0Q hl
 unfold methodCall calleeOf methodCallPos
 rw [hf,hp]
 rfl
end
section
variable {r r':V}{t:Sem Value}
def EvR (G:Gx)(C₀:Addr)(c:Fc)(A:Around)(m:Str→Option Value)(own:List (Addr×Obj))(raises:Prop)(t:Sem Value)(P:Held→Value→Prop):Prop:=
 ∀ s Q E,St c m own s→(∀ own' v s',St c m (own'++own) s'→P (vis c (own'++own)) v→Q v s')→(raises→ ∀ own' e s',Raised c C₀ m (own'++own) e s'→E e s')→wpAny G.M A t Q E s
theorem EvR.ev {P:Held→Value→Prop}(h:EvR G C₀ c A m own False t P)(hp: ∀ own' v,P (vis c (own'++own)) v→Rep G C₀ (vis c (own'++own)) v r):Ev G C₀ c A m own t r:=
 fun s Q E S q=>h s Q E S (fun own' v s' S' p=>q own' v s' S' (hp own' v p)) fun x=>x.elim
theorem Raised.assoc {own' own'':List (Addr×Obj)}{e:Value}{s':Shared}(h:Raised c C₀ m (own''++ (own'++own)) e s'):Raised c C₀ m ((own''++own')++own) e s':=by rw [a0C];exact h
theorem A0I {args:List Value}{kw:List (Str×Value)}{post:Held→Value→Prop}{raises:Prop}(ok:c.Ok G A)(room:Room A n)(hc:Calls G C₀ n Z f ⟨args,kw⟩ post raises)(hz:Z.le (vis c own)):
  EvR G C₀ c A m own raises (call (.ref f) args kw) post:=fun s Q E S q e=>
 wpAny_call (hc c A m own s _ ok room S hz (fun own' v s' S' p=>q own' v s' S' p) fun x s' hr R=>e hr [] x s' R)
theorem A2s {o:Expr}{name:Str}{apos:Pos}{raises:Prop}{P:Held→Value→Prop}(ok:c.Ok G A)(room:Room A n)(hs:A0v o=true)(hp:(apos.endLine==pos.line)=true)(h:Ev G C₀ c A m own (eval o env) r)
  (k: ∀ own' v,Rep G C₀ (vis c (own'++own)) v r→ ∃ x C dx es kk f Z,v= .ref x∧vis c (own'++own) x ⟨.ref C,some dx,.plain,#[]⟩∧vis c (own'++own) dx (dictOf es kk)∧A1o G.K C=true∧
   findIn G.K (.ref C) name=some (some (.ref f))∧isFn G.K (.ref f)=true∧keepIn G.K (.ref f)=true∧getL name es=some none∧Calls G C₀ n Z f ⟨[.ref x],[]⟩ P raises∧Z.le (vis c (own'++own))):
  EvR G C₀ c A m own raises (eval (.Call (.Attribute o name apos) [] [] pos) env) P:=by
 intro s Q E S q e
 rw [arm_eval_Call,A0e hs]
 refine a0A (h s _ E S fun own' v s' S' R=>a0A (a1R ?_))
 obtain⟨x,C,dx,es,kk,f,Z,rfl,h1,h2,h3,h4,h5,h6,h7,hc,hz⟩:=k own' v R
 rw [show (([]:List Expr).length+ ([]:List Keyword).length)=([]:List Expr).length+0 from rfl,A0j hp rfl (by decide)]
 refine a0A (a0R (method_inst S'.F ok.X₀ (inst_at S' ok h1 h2) (A0A h3 name).1 h4 h5 h7 ?_))
 refine callWith_K0 (S'.X ok) h6 ?_
 refine A0I ok room hc hz s' Q E S' (fun own'' w s'' S'' p=>q (own''++own') w s'' S''.asc (by rw [a0C];exact p)) fun hr own'' x s'' R=>e hr (own''++own') x s'' R.assoc
section
theorem A0R (ok:c.Ok G A)(he:c.env=d.env f c.L)(hl:Locs G C₀ (vis c own) m ρ)(hx:ρ.lookup x=some r)(hk:d.scope.names.lookup x=some .local)(hd:(x==("__debug__" :Str))=false):
  Ev G C₀ c A m own (eval (.Name x pos) c.env) r:=by
 intro s Q E S q
 obtain⟨v,hv,R⟩:=hl x r hx
 have hkind:=ok.kind
 rw [he] at hkind ⊢
 exact nameX_L S.F hv (q [] v s S R) hkind hk hd
theorem A8m (ok:c.Ok G A)(he:c.env=d.env f c.L)(hx:nsIn G.K mainGlobals x=some (some v))(hk:d.scope.names.lookup x=some .globalImplicit)(hd:(x==("__debug__" :Str))=false)(R: ∀ Z,Rep G C₀ Z v r):
  Ev G C₀ c A m own (eval (.Name x pos) c.env) r:=by
 intro s Q E S q
 have hkind:=ok.kind
 rw [he] at hkind ⊢
 exact nameX_K S.F ok.X₀ (topRead_of ok.T₀) hx (q [] v s S (R _)) hkind hk hd
theorem A1x (ok:c.Ok G A)(he:c.env=d.env f c.L)(hx:nsIn G.K mainGlobals x=some none)(hb:bootBuiltins x=some v)(hn:x≠ "__name__")(hk:d.scope.names.lookup x=some .globalImplicit)(hd:(x==("__debug__" :Str))=false):
  Ev G C₀ c A m own (eval (.Name x pos) c.env) (.k v):=by
 intro s Q E S q
 have hkind:=ok.kind
 rw [he] at hkind ⊢
 exact nameX_B S.F ok.X₀ (topRead_of ok.T₀) hx hb hn (q [] v s S .k) hkind hk hd
end
theorem A8j {k:Nat}:Ev G C₀ c A m own (eval (.Constant (.str x) k pos) env) (.s (.str x x.length)):=
 fun s Q E S q=>Constant_str (q [] _ _ (S.tok _) (.s (.str (a0K _))))
theorem A7e {x:List UInt8}{k:Nat}:Ev G C₀ c A m own (eval (.Constant (.bytes x) k pos) env) (.s (.bytes x.reverse x.length)):=
 fun s Q E S q=>Constant_bytes (q [] _ _ (S.tok _) (.s (.bytes (by simp) (by simp))))
theorem A5h {x:Int}{k:Nat}:Ev G C₀ c A m own (eval (.Constant (.int x) k pos) env) (.s (.int x)):=
 fun s Q E S q=>a1J (q [] _ _ (S.tok _) (.s .int))
theorem B9Y {k:Nat}:Ev G C₀ c A m own (eval (.Constant .none k pos) env) (.s .none):=
 fun s Q E S q=>Constant_none (q [] _ _ S (.s .none))
theorem C0d {b:Bool}{k:Nat}:Ev G C₀ c A m own (eval (.Constant (.bool b) k pos) env) (.s (.bool b)):=
 fun s Q E S q=>Constant_bool (q [] _ _ S (.s .bool))
end
set_option backward.match.sparseCases false in
noncomputable def SV.strOf:SV→Option (Str×Nat)
 | .str s n=>some (s,n)
 | .pstr s _ _ _ _ _=>some (s,16)
 | _=>Option.none
theorem SRep.strOf {r:SV}{q:Str×Nat}(h:SRep v r)(e:r.strOf=some q): ∃ t,v= .str q.1 t∧q.1.length≤q.2:=by
 cases r with
 | str=>exact x1 e h.strI
 | pstr=>exact x1 e h.pstrI
 | _=>exact x0 e
noncomputable def B5Y:SV→Option (Int×Int×Int)
 | .int i=>some (i,i,i)
 | .bint i lo hi=>some (i,lo,hi)
 | _=>none
theorem A2p {x:SV}{q:Int×Int×Int}(h:B5Y x=some q)(R:SRep v x): ∃ t,v= .int q.1 t∧q.2.1≤q.1∧q.1≤q.2.2:=by
 cases x with
 | int=>exact x1 h (R.intE fun t=>⟨t,rfl,Int.le_refl _,Int.le_refl _⟩)
 | bint=>exact x1 h (R.bintE fun t a b=>⟨t,rfl,a,b⟩)
 | _=>exact x0 h
noncomputable def B0J:SV→Bool
 | .int _=>true
 | _=>false
noncomputable def B9m (t:Bool)(i lo hi:Int):SV:=bif t then .int i else .bint i lo hi
theorem A7K {i lo hi:Int}{u:Tok}(h1:lo≤i)(h2:i≤hi):SRep (.int i u) (B9m t i lo hi):=by
 cases t with
 | true=>exact .int
 | false=>exact .bint h1 h2
noncomputable def B2G (a b:SV):Option SV:=orM (B5Y a) (fun p=>(B5Y b).map fun q=>B9m (B0J a&&B0J b) (p.1+q.1) (p.2.1+q.2.1) (p.2.2+q.2.2))
 (orM (A0q a) (fun p=>(A0q b).bind fun q=>gd (decide (p.2+q.2≤16777216)) (some (.bytes (q.1++p.1) (p.2+q.2))))
  (a.strOf.bind fun p=>b.strOf.bind fun q=>gd (decide (p.2+q.2≤16777216)) (some (.str (p.1++q.1) (p.2+q.2)))))
noncomputable def C3V (a b:SV):Option SV:=(B5Y a).bind fun p=>(A0U b).map fun j=>B9m (B0J a) (p.1 - j) (p.2.1 - j) (p.2.2 - j)
set_option backward.match.sparseCases false in
noncomputable def C0u:Operator→SV→SV→Option SV
 | .Add,a,b=>B2G a b
 | .Sub,a,b=>C3V a b
 | _,_,_=>none
noncomputable def B0E (x:Str)(z o n d u:Bool):Option Bool:=
 bif x==⟨#[122]⟩ then some z else bif x==⟨#[111]⟩ then some o else bif x==⟨#[110]⟩ then some n else bif x==⟨#[100]⟩ then some d else gd (x==⟨#[117]⟩) (some u)
noncomputable def A6Q (x:Str):SV→Option Bool
 | .str y _=>some (inS x y)
 | .pstr _ z o n d u=>B0E x z o n d u
 | _=>none
set_option backward.match.sparseCases false
noncomputable def C6Z (op:CmpOp)(lo hi j:Int):Option Bool:=match op with
 | .Lt=>bif decide (hi<j) then some true else gd (decide (j≤lo)) (some false)
 | .GtE=>bif decide (hi<j) then some false else gd (decide (j≤lo)) (some true)
 | .LtE=>bif decide (hi≤j) then some true else gd (decide (j<lo)) (some false)
 | .Gt=>bif decide (hi≤j) then some false else gd (decide (j<lo)) (some true)
 | _=>none
noncomputable def C6I (op:CmpOp)(i j:Int):Option Bool:=match op with
 | .Lt=>some (decide (i<j))| .LtE=>some (decide (i≤j))| .Gt=>some (decide (j<i))| .GtE=>some (decide (j≤i))| .Eq=>some (i==j)| .NotEq=>some (i !=j)| _=>none
noncomputable def C2U (x:Str)(b:SV):CmpOp→Option Bool
 | .In=>A6Q x b
 | .NotIn=>(A6Q x b).map (!·)
 | .Eq=>(A0x b).map fun q=>x==q.1
 | .NotEq=>(A0x b).map fun q=>x !=q.1
 | _=>none
set_option backward.match.sparseCases true
noncomputable def A5J (op:CmpOp)(a b:SV):Option Bool:=orM (A0x a) (fun p=>C2U p.1 b op) ((B5Y a).bind fun p=>(A0U b).bind fun j=>bif B0J a then C6I op p.1 j else C6Z op p.2.1 p.2.2 j)
section
variable {w:World}{va vb:Value}{a b r:SV}
theorem SRep.ofInt {i:Int}(h:A0U a=some i)(R:SRep va a):SRep va (.int i):=A2k (motive:=fun a=>SRep va a→SRep va (.int i)) h id R
theorem SRep.ofStr {q:Str×Nat}(h:A0x a=some q)(R:SRep va a):SRep va (.str q.1 q.2):=A0F (motive:=fun a=>SRep va a→SRep va (.str q.1 q.2)) h id R
theorem SRep.ofBytes {q:List UInt8×Nat}(h:A0q a=some q)(R:SRep va a):SRep va (.bytes q.1 q.2):=A1B (motive:=fun a=>SRep va a→SRep va (.bytes q.1 q.2)) h id R
theorem B1i {P:Prop}(ha:SRep va a)(hb:SRep vb b)(e:B2G a b=some r)(hi: ∀ i j t u,va= .int i t→vb= .int j u→(∀ k,SRep (.int (i+j) k) r)→P)
  (hy: ∀ x y t u,va= .bytes x t→vb= .bytes y u→A0q a≠none→x.size+y.size≤16777216→(∀ k,SRep (.bytes (x++y) k) r)→P) (hs: ∀ x y t u,va= .str x t→vb= .str y u→(x++y).length≤16777216→(∀ k,SRep (.str (x++y) k) r)→P):P:=by
 refine xm e (fun p hp e=>x4e e fun q hq e=> ?_) fun Ω e=>xm e (fun p hp e=>x3 e fun q hq e=>x2 e fun hc e=> ?_) fun Ω e=>x3 e fun p hp e=>x3 e fun q hq e=>x2 e fun hc e=> ?_
 ·obtain⟨t,h1,l1,l2⟩:=A2p hp ha
  obtain⟨u,h2,l3,l4⟩:=A2p hq hb
  exact hi _ _ _ _ h1 h2 fun k=>e▸A7K (Int.add_le_add l1 l3) (Int.add_le_add l2 l4)
 ·obtain⟨x,t,h1,e1,l1⟩:=(ha.ofBytes hp).bytesI
  obtain⟨y,u,h2,e2,l2⟩:=(hb.ofBytes hq).bytesI
  have s1:x.size=p.1.length:=(congrArg List.length e1).trans (a0O ..)
  have s2:y.size=q.1.length:=(congrArg List.length e2).trans (a0O ..)
  have hc:=a0B hc
  exact hy _ _ _ _ h1 h2 (by rw [hp];exact Option.some_ne_none _) (by lia) fun k=>a0E e▸ .bytes (by rw [Array.toList_append,e1,e2,a2I]) (by rw [a1K,Nat.add_comm];exact Nat.add_le_add l1 l2)
 ·obtain⟨t,h1,l1⟩:=ha.strOf hp
  obtain⟨u,h2,l2⟩:=hb.strOf hq
  have l:=Nat.add_le_add l1 l2
  rw [←strLen_append] at l
  exact hs _ _ _ _ h1 h2 (a0F l (a0B hc)) fun k=>a0E e▸ .str l
theorem B5o (ha:SRep va a)(hb:SRep vb b)(e:B2G a b=some r)(h: ∀ v tk,SRep v r→Q v {s with toks:=tk}):wpAny (model prog w) A (binaryOp .Add va vb) Q E s:=
 B1i ha hb e (fun i j t u h1 h2 k=>by subst h1 h2;exact PyProof.Rows.add_int (h _ _ (k _))) (fun x y t u h1 h2 Ω l k=>by subst h1 h2;exact KBy.add_bytes l fun Ω Ω=>h _ _ (k _)) fun x y t u h1 h2 l k=>by
  subst h1 h2;exact PyProof.Rows.add_str (fun Ω Ω=>h _ _ (k _)) (by rw [a1I,←strLen_append];exact l)
theorem B2F (ha:SRep va a)(hb:SRep vb b)(e:B2G a b=some r)(hs: ∀ x k,a= .bytes x k→False)(h: ∀ v tk,SRep v r→Q v {s with toks:=tk}):wpAny (model prog w) A (inplaceOp .Add va vb) Q E s:=
 B1i ha hb e (fun i j t u h1 h2 k=>by subst h1 h2;exact PyProof.Rows.iadd_int (h _ _ (k _))) (fun x y t u h1 h2 n l k=>(n (by
  cases a with
  | bytes=>exact(hs _ _ rfl).elim
  | _=>rfl)).elim) fun x y t u h1 h2 l k=>by
  subst h1 h2;exact PyProof.Rows.iadd_str (fun Ω Ω=>h _ _ (k _)) (by rw [a1I,←strLen_append];exact l)
theorem A5w {op:Operator}(ha:SRep va a)(hb:SRep vb b)(e:C0u op a b=some r)(h: ∀ v tk,SRep v r→Q v {s with toks:=tk}):wpAny (model prog w) A (binaryOp op va vb) Q E s:=by
 cases op with
 | Add=>exact B5o ha hb e h
 | Sub=>
  refine x3 e fun p hp e=>x4e e fun j hj e=>(hb.ofInt hj).intE fun u=> ?_
  obtain⟨t,rfl,l1,l2⟩:=A2p hp ha
  exact PyProof.Rows.sub_int (h _ _ (e▸A7K (Int.sub_le_sub_right l1 _) (Int.sub_le_sub_right l2 _)))
 | _=>exact x0 e
theorem B3P {y:Str}(e:B0E x (A2x y 122) (A2x y 111) (A2x y 110) (A2x y 100) (A2x y 117)=some t):inS x y=t:=by
 have go: ∀ {c:Nat},(x==⟨#[c]⟩)=true→some (A2x y c)=some t→inS x y=t:=fun q e=>by rw [a0D q];exact a0E e
 exact xb e go fun Ω e=>xb e go fun Ω e=>xb e go fun Ω e=>xb e go fun Ω e=>x2 e go
theorem A8a (hb:SRep vb b)(e:A6Q x b=some t): ∃ y u,vb= .str y u∧inS x y=t:=by
 cases hb with
 | str=>exact⟨_,_,rfl,a0E e⟩
 | pstr=>exact⟨_,_,rfl,B3P e⟩
 | _=>exact x0 e
theorem A2L {op:CmpOp}(ha:SRep va a)(hb:SRep vb b)(e:A5J op a b=some t)(h:Q (.bool t) s):wpAny (model prog w) A (compareOp op va vb) Q E s:=by
 refine xm e (fun p hp e=>(ha.ofStr hp).strE fun u Ω=> ?_) fun Ω e=>x3 e fun p hp e=>x3 e fun j hj e=>(hb.ofInt hj).intE fun u=> ?_
 ·cases op with
  | In=>
   obtain⟨y,u,rfl,rfl⟩:=A8a hb e
   exact PyProof.Rows.in_str h
  | NotIn=>
   refine x4e e fun t' e' et=> ?_
   subst et
   obtain⟨y,u,rfl,rfl⟩:=A8a hb e'
   exact PyProof.Rows.notIn_str h
  | Eq=>exact x4e e fun q hq et=>(hb.ofStr hq).strE fun Ω Ω=>PyProof.Rows.eq_str (et▸h)
  | NotEq=>exact x4e e fun q hq et=>(hb.ofStr hq).strE fun Ω Ω=>PyProof.Rows.ne_str (et▸h)
  | _=>exact x0 e
 ·obtain⟨t',rfl,l1,l2⟩:=A2p hp ha
  refine xb e (fun Ω e=> ?_) fun Ω e=> ?_
  ·cases op with
   | Lt=>exact PyProof.Rows.lt_int (a0E e▸h)
   | LtE=>exact PyProof.Rows.le_int (a0E e▸h)
   | Gt=>exact PyProof.Rows.gt_int (a0E e▸h)
   | GtE=>exact PyProof.Rows.ge_int (a0E e▸h)
   | Eq=>exact PyProof.Rows.eq_int (a0E e▸h)
   | NotEq=>exact PyProof.Rows.ne_int (a0E e▸h)
   | _=>exact x0 e
  ·have T: ∀ {q:Prop} [Decidable q],q→some true=some t→Q (.bool (decide q)) s:=fun x e=>by rw [a0Q x,a0E e];exact h
   have F: ∀ {q:Prop} [Decidable q],¬ q→some false=some t→Q (.bool (decide q)) s:=fun x e=>by rw [a1F x,a0E e];exact h
   cases op with
   | Lt=>exact PyProof.Rows.lt_int (xb e (fun c e=>T (a2U l2 (a0B c)) e) fun Ω e=>x2 e fun c e=>F (a2N.mpr (a1E (a0B c) l1)) e)
   | LtE=>exact PyProof.Rows.le_int (xb e (fun c e=>T (a1E l2 (a0B c)) e) fun Ω e=>x2 e fun c e=>F (Int.not_le.mpr (Int.lt_of_lt_of_le (a0B c) l1)) e)
   | Gt=>exact PyProof.Rows.gt_int (xb e (fun c e=>F (a2N.mpr (a1E l2 (a0B c))) e) fun Ω e=>x2 e fun c e=>T (Int.lt_of_lt_of_le (a0B c) l1) e)
   | GtE=>exact PyProof.Rows.ge_int (xb e (fun c e=>F (Int.not_le.mpr (a2U l2 (a0B c))) e) fun Ω e=>x2 e fun c e=>T (a1E (a0B c) l1) e)
   | _=>exact x0 e
end
section
variable {r r':V}{t:Sem Value}
theorem Reps.length: ∀ {vs:List Value},Reps G C₀ Z vs rs→vs.length=rs.length:=by
 induction rs with
 | nil=>exact fun h=>h.nilE rfl
 | cons r rs ih=>exact fun h=>h.consE fun Ω Ω Ω h=>congrArg (· +1) (ih h)
def EvL (G:Gx)(C₀:Addr)(c:Fc)(A:Around)(m:Str→Option Value)(own:List (Addr×Obj))(t:Sem (List Value))(rs:List V):Prop:=
 ∀ s Q E,St c m own s→(∀ own' vs s',St c m (own'++own) s'→Reps G C₀ (vis c (own'++own)) vs rs→Q vs s')→wpAny G.M A t Q E s
theorem A0N:EvL G C₀ c A m own (spliced (backTo pos (starEach [] env))) []:=fun s Q E S q=>Calls.spliced_nil (q [] [] s S .nil)
theorem A0s {e:Expr}(hs:A0g e=true)(h:Ev G C₀ c A m own (eval e env) r)(k: ∀ own',EvL G C₀ c A m (own'++own) (spliced (backTo pos (starEach es env))) rs):
  EvL G C₀ c A m own (spliced (backTo pos (starEach (e::es) env))) (r::rs):=by
 intro s Q E S q
 rw [A0E hs]
 refine a2V (h s _ E S fun own' v s' S' R=>k own' s' _ E S' fun own'' vs s'' S'' R'=> ?_)
 exact q (own''++own') (v::vs) s'' S''.asc (by rw [a0C];exact .cons (R.mono A0a) R')
noncomputable def A0L (K:Frag):Value→Bool
 | .ref a=>keepIn K (.ref a)
 | _=>true
theorem A3S {M:Model}{K:Frag}{f:Value}(hk:A0L K f=true)(h:Heap)(X:K.In h): ∃ k,(k=Keeper.frame∨k=Keeper.machine∨k=Keeper.boundFrame)∧Looks M h (keeperOf f) k:=by
 cases f with
 | ref a=>exact keeps_K (f:= .ref a) hk h X
 | _=>exact⟨.machine,.inr (.inl rfl),Looks.of_pure rfl⟩
theorem A0k {f:Value}{Q:Args→Shared→Prop}{M:Model}(hs:es.all A0g=true)
  (h:wpAny M A (spliced (backTo pos (starEach es env))) (fun vs s₁=>Q ⟨vs,[]⟩ s₁) E s):wpAny M A (evalArgs f true (backTo pos (starEach es env)) []) Q E s:=by
 cases es with
 | nil=>
  unfold evalArgs
  show wpAny M A (spliced (backTo pos (starEach [] env))>>=_) Q E s
  refine a0A (a2F h (fun vs s' h'=> ?_) fun Ω Ω x=>x)
  refine a0R ?_
  exact a0A (a0I (a0A (a0I (a0I h'))))
 | cons e es=>
  simp only [List.all_cons,a1B] at hs
  rw [A0E hs.1] at h ⊢
  exact Calls.evalArgs_plain h
theorem A0z {np:Pos}{f:Value}{raises:Prop}{P:Held→Value→Prop}(ok:c.Ok G A)(hs:es.all A0g=true)(hk:A0L G.K f=true)(hf:Ev G C₀ c A m own (eval (.Name x np) env) (.k f))
  (ha: ∀ own',EvL G C₀ c A m (own'++own) (spliced (backTo pos (starEach es env))) rs) (hc: ∀ own' vs,Reps G C₀ (vis c (own'++own)) vs rs→EvR G C₀ c A m (own'++own) raises (call f vs) P):
  EvR G C₀ c A m own raises (eval (.Call (.Name x np) es [] pos) env) P:=by
 intro s Q E S q e
 show wpAny _ _ (do callWith pos (←eval (.Name x np) env) [] (backTo pos (starEach es env)) (backToKw pos (keywordEach [] env))) Q E s
 refine a0A (hf s _ E S fun own' v s' S' R=> ?_)
 refine R.kE ?_
 refine callWith_of (P:=fun h=>G.K.In h) (by rw [A1D hs];rfl) (A3S hk) (A0k hs (ha own' s' _ E S' fun own'' vs s'' S'' R=>⟨S''.X ok,?_⟩))
 have S₃:St c m ((own''++own')++own) s'':=by rw [a0C];exact S''
 refine hc (own''++own') vs (by rw [a0C];exact R) s'' Q E S₃ (fun own₃ v s₃ S₃ p=>q (own₃++ (own''++own')) v s₃ S₃.asc (by rw [a0C];exact p)) fun hr own₃ x s₃ R=>e hr (own₃++ (own''++own')) x s₃ (by rw [a0C];exact R)
theorem Rep.inst_inv {d:D}(h:Rep G C₀ Z v (.abs d)): ∃ x C dx es k,v= .ref x∧Z x ⟨.ref C,some dx,.plain,#[]⟩∧Z dx (dictOf es k)∧ConAt G C₀ Z x d C es:=by
 refine h.absE fun Ω h=> ?_
 obtain⟨C,dx,es,k,a,b,e⟩:=Con.mono h C4l;exact⟨_,C,dx,es,k,rfl,a,b,e⟩
theorem A5I {d:D}{D':Addr}{b:Bool}(ok:c.Ok G A)(hm:(D',b)∈d.isa)(R:Rep G C₀ (vis c own) v (.abs d)):
  EvR G C₀ c A m own False (call (.builtin "isinstance") [v,.ref D']) (fun Ω v=>SRep v (.bool b)):=by
 intro s Q E S q e
 obtain⟨y,C,dx,es,k',rfl,a,a',K⟩:=R.inst_inv
 have:=K.isa _ hm
 cases b with
 | true=>exact isi_call (S.X ok) (fun Ω=>(inst_at S ok a a').type) this (fun e=>nomatch e) (q [] _ _ S .bool)
 | false=>
  obtain⟨p1,p2,p3,p4⟩:=A2E K.plain
  exact kin_callC (S.X ok) (inst_at S ok a a') this (A0A K.plain "__class__").1 (A0A K.plain Str.empty).2.1 p1 p2 p3 p4 (q [] _ _ (S.tok _) .bool)
theorem A9I {l:List V}(hl:l.length<1000)(ok:c.Ok G A)(R:Rep G C₀ (vis c own) v (.tup l)):EvR G C₀ c A m own False (call (.builtin "len") [v]) (fun Ω v=>SRep v (.int l.length)):=by
 intro s Q E S q e
 refine R.tupE fun Ω Ω Ω h R=> ?_
 have hlen:=R.length
 refine len_tuple ⟨_,S.get ok h,rfl,_,rfl⟩ (by simp only [a1N];lia) ?_
 have: ∀ k:Nat,k=l.length→Q (.int (k:Int) (s.toks+1)) {s with toks:=s.toks+1+1}:=fun k hk=>by subst hk;exact q [] _ _ (S.tok _) .int
 exact this _ (by simp [hlen])
end
section
variable {r r':V}{t:Sem Value}
theorem Reps.get: ∀ {vs:List Value} {j:Nat} {r:V},Reps G C₀ Z vs rs→rs[j]?=some r→ ∃ v,vs[j]?=some v∧Rep G C₀ Z v r:=by
 induction rs with
 | nil=>exact fun Ω e=>x0 e
 | cons a rs ih=>
  intro vs j r h e
  obtain⟨v,vs',rfl,x,y⟩:=h.consI
  cases j with
  | zero=>exact⟨v,rfl,x1 e x⟩
  | succ j=>exact ih (j:=j) y e
theorem A0b {w:World}{slice:Expr}{o i:Value}{T id:String}(hT:s.TypeIs o T)
  (hl:typeLookup (.type T) "__getitem__" =pure (some (.builtin id))) (h:wpAny (model prog w) A (getItem o i) Q E s)
  (hs:subscripted slice false o i=operate [o,i] (getItem o i)∨subscripted slice false o i=operate [i,o] (getItem o i)):
  wpAny (model prog w) A (subscriptTail value slice o i) Q E s:=by
 unfold subscriptTail
 refine a0A ?_
 rw [getitemInPython_of_ne hT.not_modules]
 refine a0A (wpAny_specialOf hT hl ?_)
 have fin:wpAny (model prog w) A (subscripted slice false o i) (fun r s₃=>wpAny (model prog w) A (letTemporaryGo value o r>>=fun Ω=>pure r) Q E s₃) E s:=by
  rcases hs with hs| hs<;>rw [hs]<;>
  exact wpAny_operating (a2F h (fun r s₃ h₃=>a0A (wpAny_letTemporaryGo (a0I h₃))) fun Ω Ω x=>x)
 first
  | exact a0I (a0A fin)
  | exact a0A (a0I (a0A fin))
  | exact a0A fin
theorem A9F {k:Int}{kk j:Nat}{p:Pos}{l:List V}(ok:c.Ok G A)(h:Ev G C₀ c A m own (eval value env) (.tup l))(hlo: -1000≤k)(hhi:k<1000)(hj:seqIndex? k l.length=some j)(hx:l[j]?=some r):
  Ev G C₀ c A m own (eval (.Subscript value (.Constant (.int k) kk p) pos) env) r:=by
 intro s Q E S q
 refine Subscript_ (h s _ E S fun own' v s' S' R=>a1J ?_)
 refine R.tupE fun _ _ _ hz R=> ?_
 obtain⟨v,hv,R'⟩:=R.get hx
 rename_i a vs nn
 have ht:IsTup s'.heap a vs.toArray:=⟨_,S'.get ok hz,rfl,_,rfl⟩
 refine A0b (T:= "tuple") (IsTup.typeIs (s:= {s' with toks:=s'.toks+1}) ht) slot_tuple_getitem.lookup (getItem_tuple (s:= {s' with toks:=s'.toks+1}) ht (by lia) (by lia) (j:=j) (by simpa [R.length] using hj) (by simpa using hv) ?_) (.inl rfl)
 exact q own' v _ (S'.tok _) R'
theorem A7h {op:Operator}{l e:Expr}{a b x:SV}(hl:Ev G C₀ c A m own (eval l env) (.s a))(hr: ∀ own',Ev G C₀ c A m (own'++own) (eval e env) (.s b))(hx:C0u op a b=some x):
  Ev G C₀ c A m own (eval (.BinOp l op e pos) env) (.s x):=by
 intro s Q E S q
 refine wpAny_BinOp (hl s _ E S fun own' va s' S' R=>hr own' s' _ E S' fun own'' vb s'' S'' R'=> ?_)
 refine R.sE fun _=> ?_;refine R'.sE fun _=> ?_
 rename_i ha hb
 exact A5w ha hb hx fun v tk h=>q (own''++own') v _ (by rw [a0C];exact S''.tok _) (.s h)
noncomputable def A0Y (op:CmpOp)(e:Expr):Bool:= !behindInMarks op e
def EvT (G:Gx)(c:Fc)(A:Around)(m:Str→Option Value)(own:List (Addr×Obj))(t:Sem Bool)(b:Bool):Prop:=
 ∀ s (Q:Bool→Shared→Prop) E,St c m own s→(∀ own' s',St c m (own'++own) s'→Q b s')→wpAny G.M A t Q E s
theorem B2l {op:CmpOp}{l e:Expr}{a b:SV}{x:Bool}(hm:A0Y op e=true)(hl:Ev G C₀ c A m own (eval l env) (.s a))(hr: ∀ own',Ev G C₀ c A m (own'++own) (eval e env) (.s b))(hx:A5J op a b=some x):
  Ev G C₀ c A m own (eval (.Compare l [op] [e] pos) env) (.s (.bool x)):=by
 intro s Q E S q
 refine wpAny_Compare1 (hl s _ E S fun own' va s' S' R=>hr own' s' _ E S' fun own'' vb s'' S'' R'=> ?_) (xn hm)
 refine R.sE fun _=> ?_;refine R'.sE fun _=> ?_
 rename_i ha hb
 exact A2L ha hb hx (q (own''++own') _ _ S''.asc (.s .bool))
theorem A3f {op:CmpOp}{l e:Expr}{a b:SV}{x:Bool}{whole:Sem Value}(hm:A0Y op e=true)(hl:Ev G C₀ c A m own (eval l env) (.s a))(hr: ∀ own',Ev G C₀ c A m (own'++own) (eval e env) (.s b))(hx:A5J op a b=some x):
  EvT G c A m own (isTrue (.Compare l [op] [e] pos) env whole) x:=by
 intro s Q E S q
 refine wpAny_isTrue_Compare1 (hl s _ E S fun own' va s' S' R=>hr own' s' _ E S' fun own'' vb s'' S'' R'=> ?_) (xn hm)
 refine R.sE fun _=> ?_;refine R'.sE fun _=> ?_
 rename_i ha hb
 exact A2L ha hb hx (a2C (q (own''++own') _ S''.asc))
theorem C0h {e:Expr}{b:Bool}{whole:Sem Value}(h:EvT G c A m own (isTrue e env (eval e env)) b):EvT G c A m own (isTrue (.UnaryOp .Not e pos) env whole) (!b):=
 fun s Q E S q=>isTrue_not (h s _ E S fun own' s' S'=>q own' s' S')
theorem A5l {whole:Sem Value}:EvT G c A m own (isTrue (.BoolOp .And [] pos) env whole) true:=fun s Q E S q=>isTrue_and_nil (q [] s S)
theorem evT_or_nil {whole:Sem Value}:EvT G c A m own (isTrue (.BoolOp .Or [] pos) env whole) false:=fun s Q E S q=>isTrue_or_nil (q [] s S)
theorem A9G {e:Expr}{b x:Bool}{whole:Sem Value}(h:EvT G c A m own (isTrue e env (eval e env)) b)(k:b=true→ ∀ own',EvT G c A m (own'++own) (isTrue (.BoolOp .And es pos) env whole) x)(hx:b=false→x=false):
  EvT G c A m own (isTrue (.BoolOp .And (e::es) pos) env whole) x:=by
 intro s Q E S q
 refine isTrue_and (h s _ E S fun own' s' S'=> ?_)
 cases b with
 | false=>rw [hx rfl] at q;exact q own' s' S'
 | true=>exact k rfl own' s' Q E S' fun own'' s'' S''=>q (own''++own') s'' S''.asc
theorem A2j {e:Expr}{b x:Bool}{whole:Sem Value}(h:EvT G c A m own (isTrue e env (eval e env)) b)(k:b=false→ ∀ own',EvT G c A m (own'++own) (isTrue (.BoolOp .Or es pos) env whole) x)(hx:b=true→x=true):
  EvT G c A m own (isTrue (.BoolOp .Or (e::es) pos) env whole) x:=by
 intro s Q E S q
 refine isTrue_or (h s _ E S fun own' s' S'=> ?_)
 cases b with
 | true=>rw [hx rfl] at q;exact q own' s' S'
 | false=>exact k rfl own' s' Q E S' fun own'' s'' S''=>q (own''++own') s'' S''.asc
noncomputable def A2D:Expr→Bool
 | .UnaryOp .Not _ _=>false
 | .BoolOp _ _ _=>false
 | .IfExp _ _ _ _=>false
 | .Compare _ _ _ _=>false
 | _=>true
theorem B0Y {e:Expr}{b:Bool}(hp:A2D e=true)(h:Ev G C₀ c A m own (eval e env) (.s (.bool b))):EvT G c A m own (isTrue e env (eval e env)) b:=by
 intro s Q E S q
 have he:isTrue e env (eval e env)=(do let v ←eval e env;standAt e.pos;holding [v] (truthy v)):=by
  cases e with
  | UnaryOp op x p=>cases op<;>first| rfl| exact Bool.noConfusion hp
  | BoolOp=>exact Bool.noConfusion hp
  | IfExp=>exact Bool.noConfusion hp
  | Compare=>exact Bool.noConfusion hp
  | _=>rfl
 refine isTrue_plain (h s _ E S fun own' v s' S' R=> ?_) he
 refine R.sE fun _=> ?_
 rename_i hb
 refine hb.boolE ?_
 exact a2C (q own' s' S')
end
inductive SRes where
 | nxt (as:List Str) (ρ:Loc)
 | ret (r:V)
 | rse
 | ite (b:Bool) (x y:SRes)
set_option backward.match.sparseCases false in
noncomputable def SRes.bad:SRes→Bool
 | .rse=>true
 | .ite b x y=>bif b then x.bad else y.bad
 | _=>false
noncomputable def SRes.pre (as:List Str):SRes→SRes
 | .nxt bs ρ=> .nxt (as++bs) ρ
 | .ite b x y=> .ite b (x.pre as) (y.pre as)
 | .ret r=> .ret r
 | .rse=> .rse
noncomputable def SRes.iteO (b:Bool):Option SRes→Option SRes→Option SRes
 | some x,some y=>some (.ite b x y)
 | some x,none=>if b then some x else none
 | none,some y=>if b then none else some y
 | none,none=>none
noncomputable def SRes.andThen (k:Loc→Option SRes):SRes→Option SRes
 | .nxt as ρ=>(k ρ).bind fun r=>some (r.pre as)
 | .ite b x y=>SRes.iteO b (x.andThen k) (y.andThen k)
 | .ret r=>some (.ret r)
 | .rse=>some .rse
section
variable {r r':V}
noncomputable def FlRep (G:Gx)(C₀:Addr)(Z:Held)(m m':Str→Option Value)(fl:Flow):SRes→Prop
 | .nxt as ρ=>fl= .next∧Locs G C₀ Z m' ρ∧ ∀ y,y∉as→m' y=m y
 | .ret r=> ∃ v,fl= .ret v∧Rep G C₀ Z v r
 | .rse=>False
 | .ite b x y=>match b with
  | true=>FlRep G C₀ Z m m' fl x
  | false=>FlRep G C₀ Z m m' fl y
theorem FlRep.pre {m₀ m':Str→Option Value}{fl:Flow}{as:List Str}(k: ∀ y,y∉as→m y=m₀ y){res:SRes}:FlRep G C₀ Z m m' fl res→FlRep G C₀ Z m₀ m' fl (res.pre as):=by
 induction res with
 | nxt=>exact fun h=>⟨h.1,h.2.1,fun y hy=>(h.2.2 y fun q=>hy (a0G _ q)).trans (k y fun q=>hy (a0H _ q))⟩
 | ret=>exact id
 | rse=>exact id
 | ite b x y hx hy=>cases b with
  | true=>exact hx
  | false=>exact hy
theorem SRes.bad_pre (as:List Str)(r:SRes):(r.pre as).bad=r.bad:=by
 induction r with
 | ite b x y hx hy=>cases b with
  | true=>exact hx
  | false=>exact hy
 | _=>rfl
def Ex (G:Gx)(C₀:Addr)(c:Fc)(A:Around)(m:Str→Option Value)(own:List (Addr×Obj))(t:Sem Flow)(res:SRes):Prop:=
 ∀ s Q E,St c m own s→Ends G C₀ c A own (res.bad=true) E→(∀ own' m' fl s',St c m' (own'++own) s'→FlRep G C₀ (vis c (own'++own)) m m' fl res→Q fl s')→wpAny G.M A t Q E s
theorem Ex.ite {t:Sem Flow}{b:Bool}{x y:SRes}(h1:b=true→Ex G C₀ c A m own t x)(h2:b=false→Ex G C₀ c A m own t y):Ex G C₀ c A m own t (.ite b x y):=by
 cases b with
 | true=>exact h1 rfl
 | false=>exact h2 rfl
theorem A2h (hl:Locs G C₀ (vis c own) m ρ):Ex G C₀ c A m own (execs [] env) (.nxt [] ρ):=fun s Q E S Ω q=>a2O (q [] m _ s S ⟨rfl,hl,fun Ω Ω=>rfl⟩)
theorem B8b {X Y:Option SRes}{res:SRes}{P:SRes→Prop}(e:SRes.iteO true X Y=some res)(q: ∀ x,X=some x→P x)(i: ∀ x y,P x→P (.ite true x y)):P res:=by
 cases X with
 | none=>cases Y<;>exact x0 e
 | some x=>cases Y with
  | none=>exact x1 e (q x rfl)
  | some y=>exact x1 e (i x y (q x rfl))
theorem B8c {X Y:Option SRes}{res:SRes}{P:SRes→Prop}(e:SRes.iteO false X Y=some res)(q: ∀ y,Y=some y→P y)(i: ∀ x y,P y→P (.ite false x y)):P res:=by
 cases X with
 | none=>cases Y with
  | none=>exact x0 e
  | some y=>exact x1 e (q y rfl)
 | some x=>cases Y with
  | none=>exact x0 e
  | some y=>exact x1 e (i x y (q y rfl))
theorem B4y {st:Stmt}{rest:List Stmt}{k:Loc→Option SRes}(r₁:SRes): ∀ (res:SRes),r₁.andThen k=some res→Ex G C₀ c A m own (exec st env) r₁→
  (∀ ρ res own' m',k ρ=some res→Locs G C₀ (vis c (own'++own)) m' ρ→Ex G C₀ c A m' (own'++own) (execs rest env) res)→Ex G C₀ c A m own (execs (st::rest) env) res:=by
 induction r₁ with
 | nxt as ρ=>
  refine fun res e h hk s Q E S en q=>x3 e fun res' hr e=> ?_
  obtain rfl:=a0E e
  refine a0N (h s _ E S (en.less fun x=>nomatch x) fun own' m' fl s' S' R=> ?_)
  obtain⟨rfl,hl,hm⟩:=R
  rw [SRes.bad_pre] at en
  exact hk ρ res' own' m' hr hl s' Q E S' en.more fun own'' m'' fl s'' S'' R=>q (own''++own') m'' fl s'' S''.asc (by rw [a0C];exact R.pre hm)
 | ret r=>
  refine fun res e h hk=>x1 e fun s Q E S en q=>a0N (h s _ E S en fun own' m' fl s' S' R=> ?_)
  obtain⟨v,rfl,R'⟩:=R
  exact q own' m' _ s' S' ⟨v,rfl,R'⟩
 | rse=>exact fun res e h hk=>x1 e fun s Q E S en q=>a0N (h s _ E S en fun own' m' fl s' S' R=>R.elim)
 | ite b x y hx hy=>
  intro res e h hk
  cases b with
  | true=>exact B8b e (fun x' ex=>hx x' ex h hk) fun Ω Ω p=>p
  | false=>exact B8c e (fun y' ey=>hy y' ey h hk) fun Ω Ω p=>p
theorem A2i {e:Expr}(h:Ev G C₀ c A m own (eval e env) r):Ex G C₀ c A m own (exec (.Return (some e) pos) env) (.ret r):=
 fun s Q E S Ω q=>wpAny_Return_some (h s _ E S fun own' v s' S' R=>q own' m _ s' S' ⟨v,rfl,R⟩)
theorem A3B {test:Expr}{body orelse:List Stmt}{b:Bool}{res:SRes}(h:EvT G c A m own (isTrue test env (eval test env)) b)(k: ∀ own',Ex G C₀ c A m (own'++own) (execs (if b then body else orelse) env) res):
  Ex G C₀ c A m own (exec (.If test body orelse pos) env) res:=by
 intro s Q E S e q
 refine wpAny_If (h s _ E S fun own' s' S'=> ?_)
 have:=k own' s' Q E S' e.more fun own'' m'' fl s'' S'' R=>q (own''++own') m'' fl s'' S''.asc (by rw [a0C];exact R)
 cases b<;>exact this
theorem B7e {test:Expr}{body orelse:List Stmt}{b:Bool}{x y:SRes}(h:EvT G c A m own (isTrue test env (eval test env)) b)(k1: ∀ own',Ex G C₀ c A m (own'++own) (execs body env) x)(k2: ∀ own',Ex G C₀ c A m (own'++own) (execs orelse env) y):
  Ex G C₀ c A m own (exec (.If test body orelse pos) env) (.ite b x y):=by
 refine A3B h fun own'=>Ex.ite (fun e=> ?_) fun e=> ?_
 ·subst e;exact k1 own'
 ·subst e;exact k2 own'
theorem Ex.one {st:Stmt}{res:SRes}(h:Ex G C₀ c A m own (exec st env) res):Ex G C₀ c A m own (execs [st] env) res:=by
 have: ∀ (r:SRes),(r.andThen fun ρ=>some (.nxt [] ρ))=some r:=by
  intro r
  induction r with
  | nxt as ρ=>exact congrArg (fun as=>some (SRes.nxt as ρ)) (a1H as)
  | ret=>rfl
  | rse=>rfl
  | ite b x y h1 h2=>show SRes.iteO b (x.andThen _) (y.andThen _)=_;rw [h1,h2];rfl
 exact B4y res res (this res) h fun ρ res' own' m' hr hl=>by refine x1 hr ?_;exact A2h hl
set_option backward.match.sparseCases false in
noncomputable def A2G:Expr→Bool
 | .ListComp _ _ _ _=>false
 | .SetComp _ _ _ _=>false
 | .DictComp _ _ _ _ _=>false
 | _=>true
theorem A0l {t:Option Expr}{l:Nat}(h:A2G value=true):swapsWith value t l env=pure false:=by
 cases value<;>first| rfl| exact Bool.noConfusion h
theorem A0o {Q:Unit→Shared→Prop}(ok:c.Ok G A)(he:c.env=d.env f c.L)(hk:d.scope.names.lookup x=some .local)(S:St c m own s)
  (h: ∀ s',St c (fun y=>if y=x then some v else m y) own s'→Q () s'):wpAny G.M A (storeName c.env x v) Q E s:=by
 have hkind:=ok.kind
 rw [he] at hkind ⊢
 exact storeX_L S.F S.N (fun h' F N=>h _ ⟨F,N,S.gens,S.os,S.dr⟩) hkind hk
theorem A2c: ∀ y,y∉ [x]→(fun y=>if y=x then some v else m y) y=m y:=fun y hy=>if_neg (by simpa using hy)
theorem A5f {p':Pos}(ok:c.Ok G A)(he:c.env=d.env f c.L)(hk:d.scope.names.lookup x=some .local)(hc:A2G value=true)(hl:Locs G C₀ (vis c own) m ρ)(h:Ev G C₀ c A m own (eval value c.env) r):
  Ex G C₀ c A m own (exec (.Assign [.Name x p'] value pos) c.env) (.nxt [x] ((x,r)::ρ)):=by
 intro s Q E S e q
 exact wpAny_Assign_Name (h s _ E S fun own' v s' S' R=>A0o ok he hk S' fun s'' S''=>q own' _ _ s'' S'' ⟨rfl,(hl.mono A0a).set R,A2c⟩) (A0l hc)
noncomputable def B0r:SV→Bool
 | .bytes _ _=>false
 | _=>true
theorem A4d {p':Pos}{a b y:SV}(ok:c.Ok G A)(he:c.env=d.env f c.L)(hk:d.scope.names.lookup x=some .local)(hl:Locs G C₀ (vis c own) m ρ)(hx:ρ.lookup x=some (.s a))
  (h:Ev G C₀ c A m own (eval value c.env) (.s b)) (hy:B2G a b=some y) (hs:B0r a=true):Ex G C₀ c A m own (exec (.AugAssign (.Name x p') .Add value pos) c.env) (.nxt [x] ((x,.s y)::ρ)):=by
 intro s Q E S e q
 obtain⟨v,hv,R⟩:=hl x _ hx
 refine R.sE fun _=> ?_
 rename_i ha
 have hkind:=ok.kind
 refine wpAny_AugAssign_Name (wpAny_loadName_local hkind (by rw [he];exact hk) ?_ hv (h s _ E S fun own' vb s' S' R'=> ?_))
 ·rw [he];exact S.F.ns
 ·refine R'.sE fun _=> ?_
  rename_i hb
  exact B2F ha hb hy (fun x k e=>by subst e;exact xf hs) fun w tk hw=>A0o ok he hk (S'.tok tk) fun s'' S''=>q own' _ _ s'' S'' ⟨rfl,(hl.mono A0a).set (.s hw),A2c⟩
theorem B7f {e:Expr}{b:Bool}{P:Held→Value→Prop}(hc:A2G e=true)(hl:Locs G C₀ (vis c own) m ρ)(hkind:interactive c.env=false)(h:EvR G C₀ c A m own (b=false) (eval e c.env) P)(hp: ∀ Z v,P Z v→v= .none∧b=true):
  Ex G C₀ c A m own (exec (.Expr e pos) c.env) (.ite b (.nxt [] ρ) .rse):=by
 intro s Q E S e' q
 refine wpAny_Expr (h s _ E S (fun own' v s' S' p=> ?_) fun hr' own' x s' R=> ?_) hkind (A0l hc)
 ·obtain⟨rfl,e⟩:=hp _ _ p
  subst e
  exact q own' m _ s' S' ⟨rfl,hl.mono A0a,fun Ω Ω=>rfl⟩
 ·subst hr'
  exact e'.came rfl m own' x s' R
end
variable {res:SRes}
section
variable {r r':V}
noncomputable def A6Y:List Value:= [.type "Exception",.type "BaseException",.type "object"]
theorem B7d {np cpos:Pos}{e:Expr}{r:V}(ok:c.Ok G A)(hs:A0g e=true)(hx:nsIn G.K mainGlobals x=some (some (.ref C₀)))(hq:excIn G.K C₀ A6Y "Exception.__new__" =true)
  (hf:Ev G C₀ c A m own (eval (.Name x np) env) (.k (.ref C₀))) (he: ∀ own',Ev G C₀ c A m (own'++own) (eval e env) r):Ex G C₀ c A m own (exec (.Raise (some (.Call (.Name x np) [e] [] cpos)) none pos) env) .rse:=by
 intro s Q E S en q
 have O:=own_of_in (bmB:=A6Y) ok.X₀ (topRead_of ok.T₀) hx hq
 obtain⟨tl,N,nm,qn,bs,hdct,sn,sub,ab,col,dd,k0,k1,k2,k3,k5,mN,hC,hN,hni,T⟩:=O.obj
 have FB:=PySem.F.excBase_Exception
 have hes: [e].all A0g=true:=by simp [hs]
 refine wpAny_Raise_call_subT (C:=C₀) (nm:=nm) (q:=qn) (N:=N) (bs:=bs) (bm:=tl) (hdct:=hdct) (sn:=sn) (sub:=sub) (ab:=ab) (col:=col) (dd:=dd) (k0:=k0) (k1:=k1) (k2:=k2) (k3:=k3) (k5:=k5)
  FB (mN:=mN) (T.hasType FB.hasBase) ok.free (A1D hes) hni (hf s _ E S fun own' v s' S' R=> ?_)
 refine R.kE ?_
 refine⟨rfl,A0k hes (A0s hs (he own') (fun Ω=>A0N) s' _ E S' fun own'' vs s'' S'' R=> ?_)⟩
 have keep:=S''.F.keep
 refine⟨rfl,?_,keep _ _ hC,hN.keeps keep,T.keeps keep,fun h' e' hx'=> ?_⟩
 ·have:=R.length
  show vs.length≤sizeLine
  rw [this,a1I];show 1≤16777216;decide
 ·refine en.made rfl s''.heap m (own''++own') e' vs _ hx' S''.F ?_ S''.gens S''.os S''.dr
  have:=S''.N
  rw [←a0C] at this
  exact this
end
section
variable {r r':V}
theorem A0S {oC:Obj}{m₂:Str→Option Value}(ok:c.Ok G A)(hk:scope.kind= .function)(hx:scope.names.lookup x=some .local)(hC: ∀ s,St c m own s→s.heap.get? C=some oC)
  (hN:NsObj oC m₂) (hv:m₂ x=some v) (R:Rep G C₀ (vis c own) v r) (hd:(x==("__debug__" :Str))=false):Ev G C₀ c A m own (eval (.Name x pos) (compEnvC scope cl C env)) r:=by
 intro s Q E S q
 refine wpAny_Name (wpAny_loadName_local (env:=compEnvC scope cl C env) hk ?_ (NsObj.ns hN (hC s S)) hv (q [] v s S R)) hd
 exact lookup_relabel_local hx
theorem A1k {names:List (Str×NameKind)}(h:names.lookup x=some .globalImplicit):
  (names.map fun (n,k)=>if (k==NameKind.free&&env.scope.kind== .function&&env.kindOf n==some .cell) then (n,NameKind.cell) else (n,k)).lookup x=some .globalImplicit:=by
 induction names with
 | nil=>exact x0 h
 | cons q r ih=>
  obtain⟨n,k⟩:=q
  show List.lookup x ((if (k==NameKind.free&&env.scope.kind== .function&&env.kindOf n==some .cell)=true then (n,NameKind.cell) else (n,k))::_)=_
  cases hx:x==n with
  | true=>
   simp only [a0M,hx] at h
   refine x1' h ?_
   simp [a0M,hx]
  | false=>
   simp only [a0M,hx] at h
   by_cases hc:(k==NameKind.free&&env.scope.kind== .function&&env.kindOf n==some .cell)=true
   ·rw [if_pos hc];simp only [a0M,hx];exact ih h
   ·rw [if_neg hc];simp only [a0M,hx];exact ih h
theorem A7d (ok:c.Ok G A)(hk:scope.kind= .function)(hx:scope.names.lookup x=some .globalImplicit)(hg:env.globals=mainGlobals)
  (hv:nsIn G.K mainGlobals x=some (some v)) (R: ∀ Z,Rep G C₀ Z v r) (hd:(x==("__debug__" :Str))=false):Ev G C₀ c A m own (eval (.Name x pos) (compEnvC scope cl C env)) r:=by
 intro s Q E S q
 exact nameG_K S.F ok.X₀ (topRead_of ok.T₀) hv (q [] v s S (R _)) hg hk (A1k hx) hd
theorem A5F (ok:c.Ok G A)(hk:scope.kind= .function)(hx:scope.names.lookup x=some .globalImplicit)(hg:env.globals=mainGlobals)(hb:env.builtins=builtinsNs)
  (hv:nsIn G.K mainGlobals x=some none) (hb':bootBuiltins x=some v) (hn:x≠ "__name__") (hd:(x==("__debug__" :Str))=false):Ev G C₀ c A m own (eval (.Name x pos) (compEnvC scope cl C env)) (.k v):=by
 intro s Q E S q
 have T:=topRead_of ok.T₀
 exact Name_function_global hk (A1k hx) (loadGlobal_builtin (env:=compEnvC scope cl C env) (by show s.heap.Ns env.globals _;rw [hg];exact T.g.keeps S.F.keep) (mg_none_of ok.X₀ T.g hv) (by show s.heap.Ns env.builtins _;rw [hb];exact T.b.keeps S.F.keep) ((T.builtins x hn).trans hb') (q [] v s S .k)) hd
theorem A8z (h:(scope.names.all fun x=>x.2 != .free)=true):closureFor scope env=pure []:=by
 unfold closureFor
 dsimp only
 rw [forIn_yield_id [] (fun x hx cs=> ?_)]
 ·rfl
 ·have:=a0J.mp h x hx
  obtain⟨nm,k⟩:=x
  have hb:(k==NameKind.free)=false:=by simpa using this
  dsimp only
  rw [if_neg (by rw [hb];decide)]
noncomputable def B2H (G:Gx)(C₀:Addr)(c:Fc)(A:Around)(m:Str→Option Value)(own:List (Addr×Obj))(env:Env)(scope:Scope)(cl:List (Str×Addr))(x:Str)(elt:Expr):List V→List SV→Prop
 | [],ys=>ys= []
 | r::rs,ys=> ∃ y ys',ys=y::ys'∧(∀ own' C oC m₂ v,(C,oC)∈own'→NsObj oC m₂→m₂ x=some v→Rep G C₀ (vis c (own'++own)) v r→Ev G C₀ c A m (own'++own) (eval elt (compEnvC scope cl C env)) (.s y))∧B2H G C₀ c A m own env scope cl x elt rs ys'
inductive SReps:List Value→List SV→Prop
 | nil:SReps [] []
 | snoc {vs v ys y}:SReps vs ys→SRep v y→SReps (vs++ [v]) (ys++ [y])
theorem Reps.app {as bs:List Value}{ss:List V}(h1:Reps G C₀ Z as rs)(h2:Reps G C₀ Z bs ss):Reps G C₀ Z (as++bs) (rs++ss):=by
 induction rs generalizing as with
 | nil=>exact h1.nilE h2
 | cons r rs ih=>exact h1.consE fun Ω Ω h h1=> .cons h (ih h1)
theorem SReps.reps {ys:List SV}(h:SReps vs ys):Reps G C₀ Z vs (ys.map .s):=by
 induction h with
 | nil=>exact .nil
 | snoc h hy ih=>
  rw [a2P]
  exact ih.app (.cons (.s hy) .nil)
theorem A5q {elt:Expr}{its:Array Value}{S:List (Addr×Obj)→Prop}{Fin:List Value→List (Addr×Obj)→Prop}(ok:c.Ok G A)(hS:S (own++c.news)){s₂:Shared}(hs:s₂.gens= #[]∧s₂.os=c.os∧s₂.drawn=c.dr)
  (rs:List V): ∀ (i:Nat) (vs:List Value) (done:List Value) (ys₀ ys:List SV),B2H G C₀ c A m own env scope cl x elt rs ys→SReps done ys₀→Reps G C₀ (vis c own) vs rs→(∀ j,its[i+j]?=vs[j]?)→
   (∀ all,SReps all (ys₀++ys)→Fin all (own++c.news))→CompRest G.prog G.w A c.h₀ c.L m env elt x scope cl s₂ S (fun i v=>its[i]?=some v) Fin rs.length i done (own++c.news):=by
 induction rs with
 | nil=>exact fun i vs done ys₀ ys T D R hi k=>CompRest.zero (k done (by rw [show ys= [] from T,a1H];exact D))
 | cons r rs ih=>
  intro i vs done ys₀ ys T D R hi k
  obtain⟨y,ys',rfl,he,T'⟩:=T
  obtain⟨v,vs',rfl,Rv,R'⟩:=R.consI
  refine CompRest.succ fun w I oI C oC D' m₂ h tk E' hP hN hm F N off ne=> ?_
  have Rw:Rep G C₀ (vis c own) w r:=A9t hi hP▸Rv
  refine he [(I,oI),(C,oC),(D',lst done)] C oC m₂ w (.tail _ (.head _)) hN hm (Rw.mono A0a) _ _ _ (show St c m ([(I,oI),(C,oC),(D',lst done)]++own) {s₂ with heap:=h,toks:=tk} from⟨F,N,hs.1,hs.2.1,hs.2.2⟩) fun own'' u s' S'' Ru=> ?_
  exact⟨s'.heap,s'.toks,own++c.news,S''.like hs,S''.F,fun p hp=>S''.N p (by rw [a0C];exact a0G _ hp),off,hS,ih (i+1) vs' (done++ [u]) (ys₀++ [y]) ys' T' (.snoc D Ru.sI) R' (A4w hi) fun all ha=>k all (by rw [a0C] at ha;exact ha)⟩
end
section
variable {r r':V}
structure CompScope (scope:Scope)(x:Str):Prop where
 nofree:(scope.names.all fun y=>y.2 != .free)=true
 nocell: ∀ y∈scope.names,y.2≠ .cell
 kind:scope.kind= .function
 names: ∀ y∈scope.names,y.2= .local→scope.names.lookup y.1=some .local
 var:scope.names.lookup x=some .local
noncomputable def A2u (scope:Scope)(x:Str):Bool:=(scope.names.all fun y=>y.2 != .free)&& (scope.names.all fun y=>y.2 != .cell)&&scope.kind== .function&& (scope.names.all fun y=>y.2 != .local|| scope.names.lookup y.1==some .local)&&scope.names.lookup x==some .local
theorem A1T (h:A2u scope x=true):CompScope scope x:=by
 unfold A2u at h
 simp only [a1B,beq_iff_eq] at h
 obtain⟨⟨⟨⟨a,b⟩,c⟩,e⟩,f⟩:=h
 refine⟨a,fun y hy=>by simpa using a0J.mp b y hy,c,fun y hy hl=> ?_,f⟩
 have:=a0J.mp e y hy
 rw [hl] at this
 simpa using this
set_option backward.match.sparseCases false in
noncomputable def A1P:Expr→Bool
 | .Set _ _ _=>false
 | _=>true
theorem A0y {e:Expr}(h:A1P e=true): ∀ x,foldedSetIterable e env x=pure x:=by
 intro x
 cases e<;>first| rfl| exact Bool.noConfusion h
def A8I (h₀:Heap)(ax:Addr)(o:Obj)(nw:List (Addr×Obj)):Prop:=h₀.get? ax=some o∨(ax,o)∈nw
structure CompScopeC (scope:Scope)(x:Str)(env:Env)(cl:List (Str×Addr)):Prop where
 clos:closureFor scope env=pure cl
 nocell: ∀ y∈scope.names,y.2≠ .cell
 kind:scope.kind= .function
 names: ∀ y∈scope.names,y.2= .local→scope.names.lookup y.1=some .local
 var:scope.names.lookup x=some .local
theorem CompScope.toC (h:CompScope scope x)(env:Env):CompScopeC scope x env []:=⟨A8z h.nofree,h.nocell,h.kind,h.names,h.var⟩
set_option tactic.hygienic true in
theorem A5j {elt iter:Expr}{px:Pos}{ys:List SV}{tup:Bool}(ok:c.Ok G A)(hsc:CompScopeC scope x env cl)(hset:A1P iter=true)(hlen:rs.length≤1000)
  (hi:Ev G C₀ c A m own (eval iter env) (if tup then .tup rs else .list rs)) (T: ∀ own',B2H G C₀ c A m (own'++own) env scope cl x elt rs ys):
  Ev G C₀ c A m own (eval (.ListComp elt [⟨.Name x px,iter,[],0⟩] scope pos) env) (.list (ys.map .s)):=by
 intro s Q E S q
 rw [eval_ListComp]
 refine wpAny_comprehension_free (use:=none) rfl (A0y hset) hsc.clos hsc.kind hsc.names (hi s _ E S fun own' v s₁ S₁ R=> ?_)
 have fin: ∀ (s₂:Shared) (h: ∃ h,s₂= {s₁ with heap:=h}) all,SReps all ys→FinE c.h₀ c.L m s₂ Q all ((own'++own)++c.news):=by
  rintro s₂ ⟨g,rfl⟩ all hall D h tk F N off
  refine q ((D,lst all)::own') _ _ ⟨F,N,S₁.gens,S₁.os,S₁.dr⟩ ?_
  exact .list (vs:=all) (n:=all.length) (.inr (.head _)) hall.reps
 cases tup with
 | true=>
  cases R with
  | tup hz R=>
   rename_i ax vs nn
   have hz':=ok.vis_held ax _ hz
   have hT:s₁.heap.IsTuple ax vs.toArray:=⟨_,S₁.get ok hz,rfl,nn,rfl⟩
   have hlt:ax<s₁.heap.objs.size:=a0W (S₁.get ok hz)
   refine wpAny_pyIter_tuple hT ?_
   have up: ∀ b o,s₁.heap.get? b=some o→(s₁.heap.push {cls:= .type "tuple_iterator",data:= .fields #[.ref ax,.int 0 0]}).get? b=some o:=fun b o e=>Heap.get?_push_of_some _ e
   have hsz:vs.toArray.size≤sizeLine:=by rw [a1I];simp only [a1N,R.length];lia
   have hl:vs.toArray.size=rs.length:=by simp [R.length]
   refine block_U (S:=A8I c.h₀ ax ⟨.type "tuple",none,.seq vs.toArray nn,#[]⟩) (Fin:=FinE c.h₀ c.L m {s₁ with heap:=s₁.heap.push {cls:= .type "tuple_iterator",data:= .fields #[.ref ax,.int 0 0]}} Q) (Walks.tuple ok.free s₁.heap.objs.size ax (a0S hlt) vs.toArray) hsz (fun i h st=>by obtain⟨o,e,_⟩:=st.1;exact⟨o,e⟩) ?_
    hsc.nocell hsc.kind hsc.var ⟨⟨_,Heap.get?_push_size _ rfl,rfl,rfl⟩,⟨_,up _ _ (S₁.get ok hz),rfl,nn,rfl⟩⟩ (fun b hb=> ?_)
    (S₁.F.keeps up) (S₁.N.grown up) (a0S S₁.F.ns.lt) (next_is_new S₁.F) (fun p hp=>a0S (a0W (S₁.N p hp).1)) hz' ?_ ?_
   ·intro i h h' o nw st e e' k N hS
    refine⟨by obtain⟨o',q',r⟩:=st.1;rw [e] at q';obtain rfl:=a0E q';exact⟨o,e',r⟩,?_⟩
    rcases hS with z| z
    ·exact⟨_,k _ _ z,rfl,nn,rfl⟩
    ·exact⟨_,(N _ z).1,rfl,nn,rfl⟩
   ·show b< (s₁.heap.push _).objs.size
    rw [a1U]
    rcases a0T.mp hb with rfl| hb
    ·exact a1A _
    ·rw [a0L.mp hb];exact a1Z hlt
   ·rw [hl]
    exact A5q (its:=vs.toArray) (S:=A8I c.h₀ ax ⟨.type "tuple",none,.seq vs.toArray nn,#[]⟩) (Fin:=FinE c.h₀ c.L m {s₁ with heap:=s₁.heap.push {cls:= .type "tuple_iterator",data:= .fields #[.ref ax,.int 0 0]}} Q) (s₂:= {s₁ with heap:=s₁.heap.push {cls:= .type "tuple_iterator",data:= .fields #[.ref ax,.int 0 0]}}) ok hz' ⟨S₁.gens,S₁.os,S₁.dr⟩ rs 0 vs [] [] ys (T own') .nil R (fun j=>by simp) (fun all ha=>fin _ ⟨_,rfl⟩ all (by simpa using ha))
   ·intro D C h tk m' ys' news' F' N' o1 hn hC₀ hD₀ hCL hDL hCD offC fn
    refine⟨m',hn,fun h'' hs''=>fn D h'' tk (F'.change hs'' hCL hC₀) (fun p hp=> ?_) o1⟩
    refine⟨hs''.extBut _ _ ?_ (N' p hp).1,(N' p hp).2⟩
    rcases a0T.mp hp with rfl| hp
    ·exact a0X hCD
    ·exact offC p hp
 | false=>
  cases R with
  | list hz R=>
   rename_i ax vs nn
   have hz':=ok.vis_held ax _ hz
   have hT:s₁.heap.IsList ax vs.toArray:=⟨_,S₁.get ok hz,rfl,nn,rfl⟩
   have hlt:ax<s₁.heap.objs.size:=a0W (S₁.get ok hz)
   refine wpAny_pyIter_list hT ?_
   have up: ∀ b o,s₁.heap.get? b=some o→(s₁.heap.push {cls:= .type "list_iterator",data:= .fields #[.ref ax,.int 0 0]}).get? b=some o:=fun b o e=>Heap.get?_push_of_some _ e
   have hsz:vs.toArray.size≤sizeLine:=by rw [a1I];simp only [a1N,R.length];lia
   have hl:vs.toArray.size=rs.length:=by simp [R.length]
   refine block_U (S:=A8I c.h₀ ax ⟨.type "list",none,.seq vs.toArray nn,#[]⟩) (Fin:=FinE c.h₀ c.L m {s₁ with heap:=s₁.heap.push {cls:= .type "list_iterator",data:= .fields #[.ref ax,.int 0 0]}} Q) (Walks.list ok.free s₁.heap.objs.size ax (a0S hlt) vs.toArray) hsz (fun i h st=>by obtain⟨o,e,_⟩:=st.1;exact⟨o,e⟩) ?_
    hsc.nocell hsc.kind hsc.var ⟨⟨_,Heap.get?_push_size _ rfl,rfl,rfl⟩,⟨_,up _ _ (S₁.get ok hz),rfl,nn,rfl⟩⟩ (fun b hb=> ?_)
    (S₁.F.keeps up) (S₁.N.grown up) (a0S S₁.F.ns.lt) (next_is_new S₁.F) (fun p hp=>a0S (a0W (S₁.N p hp).1)) hz' ?_ ?_
   ·intro i h h' o nw st e e' k N hS
    refine⟨by obtain⟨o',q',r⟩:=st.1;rw [e] at q';obtain rfl:=a0E q';exact⟨o,e',r⟩,?_⟩
    rcases hS with z| z
    ·exact⟨_,k _ _ z,rfl,nn,rfl⟩
    ·exact⟨_,(N _ z).1,rfl,nn,rfl⟩
   ·show b< (s₁.heap.push _).objs.size
    rw [a1U]
    rcases a0T.mp hb with rfl| hb
    ·exact a1A _
    ·rw [a0L.mp hb];exact a1Z hlt
   ·rw [hl]
    exact A5q (its:=vs.toArray) (S:=A8I c.h₀ ax ⟨.type "list",none,.seq vs.toArray nn,#[]⟩) (Fin:=FinE c.h₀ c.L m {s₁ with heap:=s₁.heap.push {cls:= .type "list_iterator",data:= .fields #[.ref ax,.int 0 0]}} Q) (s₂:= {s₁ with heap:=s₁.heap.push {cls:= .type "list_iterator",data:= .fields #[.ref ax,.int 0 0]}}) ok hz' ⟨S₁.gens,S₁.os,S₁.dr⟩ rs 0 vs [] [] ys (T own') .nil R (fun j=>by simp) (fun all ha=>fin _ ⟨_,rfl⟩ all (by simpa using ha))
   ·intro D C h tk m' ys' news' F' N' o1 hn hC₀ hD₀ hCL hDL hCD offC fn
    refine⟨m',hn,fun h'' hs''=>fn D h'' tk (F'.change hs'' hCL hC₀) (fun p hp=> ?_) o1⟩
    refine⟨hs''.extBut _ _ ?_ (N' p hp).1,(N' p hp).2⟩
    rcases a0T.mp hp with rfl| hp
    ·exact a0X hCD
    ·exact offC p hp
end
section
variable {r r':V}
noncomputable def C3u:List V→Option (Int×Int×Int)
 | []=>some (0,0,0)
 | v::rest=>((A0V v).bind B5Y).bind fun q=>(C3u rest).map fun x=>(q.1+x.1,q.2.1+x.2.1,q.2.2+x.2.2)
theorem B2Y: ∀ {vs:List Value} {x:Int×Int×Int},Reps G C₀ Z vs rs→C3u rs=some x→ ∃ ns,IntsAre vs ns∧ns.sum=x.1∧x.2.1≤x.1∧x.1≤x.2.2:=by
 induction rs with
 | nil=>exact fun R e=>R.nilE (x1 e ⟨[],.nil,rfl,Int.le_refl _,Int.le_refl _⟩)
 | cons r rest ih=>
  refine fun R e=>x3 e fun q hq e=>x4 e fun y hy=>R.consE fun v vs h R=>x3 hq fun x hx hq=> ?_
  obtain⟨t,rfl,h1,h2⟩:=A2p hq (h.ofS hx)
  obtain⟨ns,k1,k2,k3,k4⟩:=ih R hy
  exact⟨q.1::ns,.cons _ _ k1,by rw [a2L,k2],Int.add_le_add h1 k3,Int.add_le_add h2 k4⟩
theorem C0k {x:Int×Int×Int}(ok:c.Ok G A)(hx:C3u rs=some x)(R:Rep G C₀ (vis c own) v (.list rs)):EvR G C₀ c A m own False (call (.builtin "sum") [v]) (fun Ω v=>SRep v (.bint x.1 x.2.1 x.2.2)):=by
 intro s Q E S q e
 refine R.listE fun Ω Ω Ω hz R=> ?_
 obtain⟨ns,h1,h2,h3,h4⟩:=B2Y R hx
 refine sumK ok.free S.F S.N ⟨_,S.get ok hz,rfl,_,rfl⟩ h1 fun h' tk t' F N=> ?_
 rw [h2]
 exact q [] _ _ ⟨F,N,S.gens,S.os,S.dr⟩ (.bint h3 h4)
theorem A2K {l:List V}(hl:l.length<1000)(ok:c.Ok G A)(R:Rep G C₀ (vis c own) v (.list l)):EvR G C₀ c A m own False (call (.builtin "len") [v]) (fun Ω v=>SRep v (.int l.length)):=by
 intro s Q E S q e
 refine R.listE fun Ω Ω Ω h R=> ?_
 have hlen:=R.length
 refine Calls.call_len_list ⟨_,S.get ok h,rfl,_,rfl⟩ (by simp only [a1N];lia) ?_
 have: ∀ k:Nat,k=l.length→Q (.int (k:Int) (s.toks+1)) {s with toks:=s.toks+1+1}:=fun k hk=>by subst hk;exact q [] _ _ (S.tok _) .int
 exact this _ (by simp [hlen])
noncomputable def A8S:List V→Option (List Str×Nat)
 | []=>some ([],0)
 | v::rest=>((A0V v).bind SV.strOf).bind fun q=>(A8S rest).map fun p=>(q.1::p.1,q.2+p.2)
theorem B3a: ∀ {vs:List Value} {x:List Str×Nat},Reps G C₀ Z vs rs→A8S rs=some x→StrsAre vs x.1∧(x.1.map (·.length)).sum≤x.2∧x.1.length=rs.length:=by
 induction rs with
 | nil=>exact fun R e=>R.nilE (x1 e ⟨.nil,a0K _,rfl⟩)
 | cons r rest ih=>
  refine fun R e=>x3 e fun q hq e=>x4 e fun y hy=>R.consE fun v vs h R=>x3 hq fun x hx hq=> ?_
  obtain⟨t,rfl,h1⟩:=SRep.strOf (h.ofS hx) hq
  obtain⟨k1,k2,k3⟩:=ih R hy
  exact⟨.cons _ _ k1,Nat.add_le_add h1 k2,congrArg (· +1) k3⟩
end
section
variable {r r':V}
theorem A1G {o:Expr}{name:Str}{id:String}{apos:Pos}{a:SV}{P:Held→Value→Prop}(ok:c.Ok G A)(hso:A0v o=true)(hp:(apos.endLine==pos.line)=true)(hs:es.all A0g=true)(hl:es.length<30)
  (ho:Ev G C₀ c A m own (eval o env) (.s a))
  (hg: ∀ (v:Value) (s:Shared) (pl:Sem Bool) (Q:Value×List Value→Shared→Prop) (E:Value→Shared→Prop),SRep v a→Q (.builtin id,[v]) s→wpAny G.M A (getMethod v name pl) Q E s)
  (ha: ∀ own',EvL G C₀ c A m (own'++own) (spliced (backTo pos (starEach es env))) rs)
  (hc: ∀ own' v vs,SRep v a→Reps G C₀ (vis c (own'++own)) vs rs→EvR G C₀ c A m (own'++own) False (call (.builtin id) (v::vs)) P):
  EvR G C₀ c A m own False (eval (.Call (.Attribute o name apos) es [] pos) env) P:=by
 intro s Q E S q e
 rw [arm_eval_Call,A0e hso]
 refine a0A (ho s _ E S fun own' v s' S' R=>a0A (a1R ?_))
 refine R.sE fun _=> ?_
 rename_i hv
 rw [show (es.length+ ([]:List Keyword).length)=es.length+0 from rfl,A0j hp hs hl]
 refine a0A (a0R (hg v s' _ _ E hv ?_))
 refine callWith_of (P:=fun _=>True) (by rw [A1D hs];rfl) (fun h _=>⟨.machine,.inr (.inl rfl),Looks.of_pure rfl⟩) (A0k hs (ha own' s' _ E S' fun own'' vs s'' S'' R=>⟨trivial,?_⟩))
 have S₃:St c m ((own''++own')++own) s'':=by rw [a0C];exact S''
 exact hc (own''++own') v vs hv (by rw [a0C];exact R) s'' Q E S₃ (fun own₃ v s₃ S₃ p=>q (own₃++ (own''++own')) v s₃ S₃.asc (by rw [a0C];exact p)) fun hr=>hr.elim
theorem A2r {o:Expr}{name:Str}{id:String}{apos:Pos}{k:Nat}{P:Held→Value→Prop}(ok:c.Ok G A)(hso:A0v o=true)(hp:(apos.endLine==pos.line)=true)(hs:es.all A0g=true)(hl:es.length<30)
  (ho:Ev G C₀ c A m own (eval o env) (.s (.str x k)))
  (hg: ∀ (t:Tok) (s:Shared) (pl:Sem Bool) (Q:Value×List Value→Shared→Prop) (E:Value→Shared→Prop),Q (.builtin id,[.str x t]) s→wpAny G.M A (getMethod (.str x t) name pl) Q E s)
  (ha: ∀ own',EvL G C₀ c A m (own'++own) (spliced (backTo pos (starEach es env))) rs)
  (hc: ∀ own' t vs,Reps G C₀ (vis c (own'++own)) vs rs→EvR G C₀ c A m (own'++own) False (call (.builtin id) (.str x t::vs)) P):
  EvR G C₀ c A m own False (eval (.Call (.Attribute o name apos) es [] pos) env) P:=
 A1G ok hso hp hs hl ho (fun v s pl Q E hv q=>by obtain⟨t,rfl,_⟩:=hv.strI;exact hg t s pl Q E q) ha fun own' v vs hv R=>by obtain⟨t,rfl,_⟩:=hv.strI;exact hc own' t vs R
theorem B6K (x:Str)(ys:List Str):(Txt.join x ys).length≤ (ys.map (·.length)).sum+ys.length*x.length:=by
 show (Builtin.Str.glued x ys).length≤_
 rw [StrLaws.glued_eq_join]
 cases ys with
 | nil=>show (Str.empty).length≤_;simp [Str.empty,Str.length]
 | cons a l=>
  rw [len_join_cons]
  have h1:l.length*x.length≤ (a::l).length*x.length:=Nat.mul_le_mul_right _ (Nat.le_succ _)
  lia
theorem B7n {t:Tok}{p:List Str×Nat}(ok:c.Ok G A)(hp:A8S rs=some p)(hx:x.length≤16)(hb:p.2+rs.length*16≤16777216)(R:Rep G C₀ (vis c own) v (.list rs)):
  EvR G C₀ c A m own False (call (.builtin "str.join") [.str x t,v]) (fun Ω v=>SRep v (.str (Txt.join x p.1) (p.2+rs.length*16))):=by
 intro s Q E S q e
 refine R.listE fun Ω Ω Ω hz R=> ?_
 obtain⟨h1,h2,h3⟩:=B3a R hp
 have hm:p.1.length*x.length≤rs.length*16:=by rw [h3];exact Nat.mul_le_mul_left _ hx
 refine join_list ⟨_,S.get ok hz,rfl,_,rfl⟩ h1 (by lia) fun t' k=>q [] _ _ (S.tok _) (.str ?_)
 have:=B6K x p.1
 lia
end
section
variable {w:World}
theorem B4O {I l:Addr}{items:Array Value}(hh:A.handled=none)(hne:l≠I): ∀ (n i:Nat) (s:Shared) (Q:List Value→Shared→Prop) (E:Value→Shared→Prop),s.heap.IsListIter I l i→s.heap.IsList l items→i+n≤items.size→
  (∀ h' tk,h'.IsListIter I l (i+n)→h'.IsList l items→(∀ b o,b≠I→s.heap.get? b=some o→h'.get? b=some o)→Q ((items.toList.drop i).take n) {s with heap:=h',toks:=tk})→wpAny (model prog w) A (draw (.ref I) n) Q E s:=by
 have W:=Walks.list (prog:=prog) (w:=w) hh I l hne items
 intro n
 induction n with
 | zero=>
  intro i s Q E h1 h2 _ hQ
  show wpAny _ _ (pure []) Q E s
  exact a0I (by simpa using hQ s.heap s.toks h1 h2 fun Ω Ω Ω e=>e)
 | succ n ih=>
  intro i s Q E h1 h2 hle hQ
  have hlt:i<items.size:=by lia
  show wpAny _ _ (pyNext (.ref I)>>=_) Q E s
  refine a0A (W.item i s _ E hlt ⟨h1,h2⟩ fun v h' tk hP st hk=> ?_)
  have hv:v=items[i]:=by
   have e:items[i]?=some v:=hP
   rw [Array.getElem?_eq_getElem hlt] at e
   exact(a0E e).symm
  subst hv
  refine a0A (a0R (ih (i+1) {s with heap:=h',toks:=tk} _ E st.1 st.2 (by lia) fun h'' tk' a b e=>a0I ?_))
  have hd:items.toList.drop i=items[i]::items.toList.drop (i+1):=by simp [List.drop_eq_getElem_cons,hlt]
  have:=hQ h'' tk' (by rw [show i+ (n+1)=i+1+n by lia];exact a) b fun b' o ne q=>e b' o ne (hk b' o (by simpa using ne) q)
  rw [hd,List.take_succ_cons] at this
  exact this
theorem A4k {l:Addr}{items:Array Value}{Q:List Value→Shared→Prop}(hh:A.handled=none)(hl:s.heap.IsList l items)
  (hQ: ∀ h' tk,(∀ b o,s.heap.get? b=some o→h'.get? b=some o)→Q items.toList {s with heap:=h',toks:=tk}):wpAny (model prog w) A (unpackItems (.ref l) items.size none) Q E s:=by
 have hlt:l≠s.heap.objs.size:=by obtain⟨o,ho,_⟩:=hl;exact a0S (a0W ho)
 unfold unpackItems
 refine a0A ?_
 unfold notIterableAtAll
 refine a0A (wpAny_specialOf hl.typeIs slot_list_iter.lookup ?_)
 refine a0I ?_
 simp only [Bool.false_eq_true,if_false]
 refine a0A (a0R (wpAny_pyIter_list hl ?_))
 refine a0A (a0R (B4O hh hlt items.size 0 _ _ _ ⟨_,Heap.get?_push_size _ rfl,rfl,rfl⟩ (hl.push _) (by lia) fun h₁ tk₁ hi₁ hl₁ k₁=> ?_))
 have hall:List.take items.size (List.drop 0 items.toList)=items.toList:=by
  rw [List.drop_zero];exact a2G (by simp)
 rw [hall]
 rw [if_neg (by simp)]
 have W:=Walks.list (prog:=prog) (w:=w) hh s.heap.objs.size l hlt items
 refine a0A (a0R (W.done {s with heap:=h₁,toks:=tk₁} _ _ ⟨by simpa using hi₁,hl₁⟩ fun h₂ tk₂ k₂=> ?_))
 simp only [Option.isSome_none,Bool.false_eq_true,if_false]
 refine a0I (hQ h₂ tk₂ fun b o e=> ?_)
 have ne:b≠s.heap.objs.size:=a0S (a0W e)
 exact k₂ b o (by simpa using ne) (k₁ b o ne (Heap.get?_push_of_some _ e))
end
section
variable {r r':V}
noncomputable def A1r:Expr→Option Str
 | .Name x _=>some x
 | _=>none
@[elab_as_elim] theorem A0T {e:Expr} {motive:Expr→Prop} (h:A1r e=some x) (q: ∀ p,motive (.Name x p)):motive e:=by
 cases e with
 | Name=>exact x1' h (q _)
 | _=>exact x0 h
noncomputable def A3v:List Expr→Option (List Str)
 | []=>some []
 | e::rest=>(A1r e).bind fun x=>(A3v rest).map (x:: ·)
noncomputable def A3k:List Str→List V→Loc→Loc
 | x::xs,r::rs,ρ=>A3k xs rs ((x,r)::ρ)
 | _,_,ρ=>ρ
theorem St.grown (S:St c m own s){h':Heap}{tk:Nat}(k: ∀ b o,s.heap.get? b=some o→h'.get? b=some o):St c m own {s with heap:=h',toks:=tk}:=⟨S.F.keeps k,S.N.grown k,S.gens,S.os,S.dr⟩
theorem A8G {Q:Unit→Shared→Prop}(ok:c.Ok G A)(he:c.env=d.env f c.L)(elts:List Expr): ∀ (xs:List Str) (vs:List Value) (rs:List V) (m:Str→Option Value) (ρ:Loc) (s:Shared),A3v elts=some xs→(∀ x∈xs,d.scope.names.lookup x=some .local)→
  vs.length=xs.length→Reps G C₀ (vis c own) vs rs→Locs G C₀ (vis c own) m ρ→St c m own s→(∀ m' s',St c m' own s'→Locs G C₀ (vis c own) m' (A3k xs rs ρ)→(∀ y,y∉xs→m' y=m y)→Q () s')→wpAny G.M A (assignInOrder ((assignEach elts c.env).map (·.2)) vs) Q E s:=by
 induction elts with
 | nil=>
  intro xs vs rs m ρ s hn hk hl R hρ S q
  obtain rfl:=a0E hn
  have e:rs= []:=List.length_eq_zero_iff.mp (R.length.symm.trans hl)
  subst e
  rw [R.nilI]
  exact a0I (q m s S hρ fun Ω Ω=>rfl)
 | cons e rest ih=>
  intro xs vs rs m ρ s hn hk hl R hρ S q
  refine x3 hn fun x hx hn=>x4e hn fun ys hy exs=>A0T hx fun p=> ?_
  subst exs
  cases rs with
  | nil=>exact absurd (R.length.symm.trans hl) (by simp)
  | cons r rs=>
   obtain⟨v,vs,rfl,h,R'⟩:=R.consI
   show wpAny G.M A (assignInOrder ((fun v=>assign (.Name x p) c.env v)::(assignEach rest c.env).map (·.2)) (v::vs)) Q E s
   have step:wpAny G.M A (assign (.Name x p) c.env v) (fun Ω s'=>wpAny G.M A (assignInOrder ((assignEach rest c.env).map (·.2)) vs) Q E s') E s:=
    a2R (A0o ok he (hk x (.head _)) S fun s' S'=>ih ys vs rs _ _ s' hy (fun y hy=>hk y (.tail _ hy)) (Nat.succ.inj hl) R' (hρ.set h) S' fun m' s' S' l e=>q m' s' S' l fun y hy=>(e y fun q=>hy (.tail _ q)).trans (if_neg fun (z:y=x)=>hy (z▸a1G ..)))
   exact a0A (a0R step)
theorem A7M {l:List Expr}: ∀ {ys:List Str},A3v l=some ys→(assignEach l env).length=ys.length∧(assignEach l env).findIdx? (·.1)=none:=by
 induction l with
 | nil=>exact fun h=>x1 h ⟨rfl,rfl⟩
 | cons e l ih=>exact fun h=>x3 h fun x hx h=>x4 h fun zs hz=>A0T hx fun p=>⟨congrArg (· +1) (ih hz).1,by
  show List.findIdx? _ ((false,_)::assignEach l env)=none
  rw [List.findIdx?_cons,(ih hz).2];rfl⟩
theorem A5E {elts:List Expr}{k:Nat}{tpos:Pos}{xs:List Str}(ok:c.Ok G A)(he:c.env=d.env f c.L)(hn:A3v elts=some xs)(hk: ∀ x∈xs,d.scope.names.lookup x=some .local)(hx:xs.length=rs.length)
  (hv:swappedStores [.Tuple elts k tpos] value c.env=pure none) (hl:Locs G C₀ (vis c own) m ρ) (h:Ev G C₀ c A m own (eval value c.env) (.list rs)):
  Ex G C₀ c A m own (exec (.Assign [.Tuple elts k tpos] value pos) c.env) (.nxt xs (A3k xs rs ρ)):=by
 intro s Q E S e q
 have hsw:swapsWithSole [.Tuple elts k tpos] value pos.line c.env=pure false:=by
  unfold swapsWithSole swapsWith
  cases value<;>rfl
 refine Assign_Tuple (h s _ E S fun own' v s' S' R=> ?_) hsw hv
 obtain⟨l,vs,nn,rfl,hz,R⟩:=R.listI
 have hL:s'.heap.IsList l vs.toArray:=⟨_,S'.get ok hz,rfl,nn,rfl⟩
 rw [assign_Tuple]
 refine a0A (a1R ?_)
 unfold unpack
 have hlen:=A7M (env:=c.env) hn
 rw [show (assignEach elts c.env).length=vs.toArray.size from hlen.1.trans (hx.trans R.length.symm),hlen.2]
 refine a0A (a0R (A4k ok.free hL fun h' tk keep=> ?_))
 refine A8G ok he elts xs vs rs m ρ _ hn hk (by rw [hx,R.length]) R (hl.mono A0a) (S'.grown keep) fun m' s'' S'' hl' hm=> ?_
 exact q own' m' _ s'' S'' ⟨rfl,hl',hm⟩
end
section
variable {r r':V}
structure SrcW (G:Gx)(c:Fc)(A:Around)(m:Str→Option Value)(own:List (Addr×Obj))(s₂:Shared)(I:Addr)(vs:List Value)(fp:List Addr)(Sx:Nat→Heap→Prop)(S:List (Addr×Obj)→Prop):Prop where
 W:Walks G.prog G.w A I fp [I] vs.toArray.size (fun i v=>vs.toArray[i]?=some v) Sx
 sz:vs.toArray.size≤sizeLine
 io: ∀ i h,Sx i h→ ∃ o,h.get? I=some o
 st: ∀ i h h' o nw,Sx i h→h.get? I=some o→h'.get? I=some o→(∀ b o,c.h₀.get? b=some o→h'.get? b=some o)→News c.h₀ c.L h' nw→S nw→Sx i h'
 s0:Sx 0 s₂.heap
 fps: ∀ b∈fp,b<s₂.heap.objs.size
 sts:St c m own s₂
 ne:c.L≠I
 new:c.h₀.get? I=none
 off: ∀ p∈own++c.news,p.1≠I
 inS:S (own++c.news)
set_option tactic.hygienic true in
theorem B0j {tup:Bool}{s₁:Shared}(ok:c.Ok G A)(S₁:St c m own s₁)(hlen:rs.length≤1000)(R:Rep G C₀ (vis c own) v (if tup then .tup rs else .list rs))
  (k: ∀ I g vs fp Sx S,SrcW G c A m own {s₁ with heap:=g} I vs fp Sx S→Reps G C₀ (vis c own) vs rs→Q (.ref I) {s₁ with heap:=g}):wpAny G.M A (pyIter v) Q E s₁:=by
 cases tup with
 | true=>
  cases R with
  | tup hz R=>
   rename_i ax vs nn
   have hz':=ok.vis_held ax _ hz
   have hT:s₁.heap.IsTuple ax vs.toArray:=⟨_,S₁.get ok hz,rfl,nn,rfl⟩
   have hlt:ax<s₁.heap.objs.size:=a0W (S₁.get ok hz)
   refine wpAny_pyIter_tuple hT ?_
   have up: ∀ b o,s₁.heap.get? b=some o→(s₁.heap.push {cls:= .type "tuple_iterator",data:= .fields #[.ref ax,.int 0 0]}).get? b=some o:=fun b o e=>Heap.get?_push_of_some _ e
   refine k _ _ vs [s₁.heap.objs.size,ax] _ (A8I c.h₀ ax ⟨.type "tuple",none,.seq vs.toArray nn,#[]⟩) ⟨Walks.tuple ok.free s₁.heap.objs.size ax (a0S hlt) vs.toArray,by rw [a1I];simp only [a1N,R.length];lia,
    fun i h st=>by obtain⟨o,e,_⟩:=st.1;exact⟨o,e⟩,?_,⟨⟨_,Heap.get?_push_size _ rfl,rfl,rfl⟩,⟨_,up _ _ (S₁.get ok hz),rfl,nn,rfl⟩⟩,?_,⟨S₁.F.keeps up,S₁.N.grown up,S₁.gens,S₁.os,S₁.dr⟩,a0S S₁.F.ns.lt,next_is_new S₁.F,fun p hp=>a0S (a0W (S₁.N p hp).1),hz'⟩ R
   ·intro i h h' o nw st e e' k N hS
    refine⟨by obtain⟨o',q',r⟩:=st.1;rw [e] at q';obtain rfl:=a0E q';exact⟨o,e',r⟩,?_⟩
    rcases hS with z| z
    ·exact⟨_,k _ _ z,rfl,nn,rfl⟩
    ·exact⟨_,(N _ z).1,rfl,nn,rfl⟩
   ·intro b hb
    show b< (s₁.heap.push _).objs.size
    rw [a1U]
    rcases a0T.mp hb with rfl| hb
    ·exact a1A _
    ·rw [a0L.mp hb];exact a1Z hlt
 | false=>
  cases R with
  | list hz R=>
   rename_i ax vs nn
   have hz':=ok.vis_held ax _ hz
   have hT:s₁.heap.IsList ax vs.toArray:=⟨_,S₁.get ok hz,rfl,nn,rfl⟩
   have hlt:ax<s₁.heap.objs.size:=a0W (S₁.get ok hz)
   refine wpAny_pyIter_list hT ?_
   have up: ∀ b o,s₁.heap.get? b=some o→(s₁.heap.push {cls:= .type "list_iterator",data:= .fields #[.ref ax,.int 0 0]}).get? b=some o:=fun b o e=>Heap.get?_push_of_some _ e
   refine k _ _ vs [s₁.heap.objs.size,ax] _ (A8I c.h₀ ax ⟨.type "list",none,.seq vs.toArray nn,#[]⟩) ⟨Walks.list ok.free s₁.heap.objs.size ax (a0S hlt) vs.toArray,by rw [a1I];simp only [a1N,R.length];lia,
    fun i h st=>by obtain⟨o,e,_⟩:=st.1;exact⟨o,e⟩,?_,⟨⟨_,Heap.get?_push_size _ rfl,rfl,rfl⟩,⟨_,up _ _ (S₁.get ok hz),rfl,nn,rfl⟩⟩,?_,⟨S₁.F.keeps up,S₁.N.grown up,S₁.gens,S₁.os,S₁.dr⟩,a0S S₁.F.ns.lt,next_is_new S₁.F,fun p hp=>a0S (a0W (S₁.N p hp).1),hz'⟩ R
   ·intro i h h' o nw st e e' k N hS
    refine⟨by obtain⟨o',q',r⟩:=st.1;rw [e] at q';obtain rfl:=a0E q';exact⟨o,e',r⟩,?_⟩
    rcases hS with z| z
    ·exact⟨_,k _ _ z,rfl,nn,rfl⟩
    ·exact⟨_,(N _ z).1,rfl,nn,rfl⟩
   ·intro b hb
    show b< (s₁.heap.push _).objs.size
    rw [a1U]
    rcases a0T.mp hb with rfl| hb
    ·exact a1A _
    ·rw [a0L.mp hb];exact a1Z hlt
end
section
variable {r r':V}
noncomputable def A6o (G:Gx)(C₀:Addr)(c:Fc)(A:Around)(m:Str→Option Value)(own:List (Addr×Obj))(env:Env)(scope:Scope)(cl:List (Str×Addr))(x:Str)(ct elt:Expr):List V→List SV→Prop
 | [],ys=>ys= []
 | r::rs,ys=> ∃ b y ys',(∀ own' C oC m₂ v,(C,oC)∈own'→NsObj oC m₂→m₂ x=some v→Rep G C₀ (vis c (own'++own)) v r→EvT G c A m (own'++own) (isTrue ct (compEnvC scope cl C env) (eval ct (compEnvC scope cl C env))) b)∧
  (b=true→ys=y::ys'∧(∀ own' C oC m₂ v,(C,oC)∈own'→NsObj oC m₂→m₂ x=some v→Rep G C₀ (vis c (own'++own)) v r→Ev G C₀ c A m (own'++own) (eval elt (compEnvC scope cl C env)) (.s y)))∧(b=false→ys=ys')∧A6o G C₀ c A m own env scope cl x ct elt rs ys'
theorem A6m {ct elt:Expr}{its:Array Value}{S:List (Addr×Obj)→Prop}{Fin:List Value→List (Addr×Obj)→Prop}(ok:c.Ok G A)(hS:S (own++c.news)){s₂:Shared}(hs:s₂.gens= #[]∧s₂.os=c.os∧s₂.drawn=c.dr)
  (rs:List V): ∀ (i:Nat) (vs:List Value) (done:List Value) (ys₀ ys:List SV),A6o G C₀ c A m own env scope cl x ct elt rs ys→SReps done ys₀→Reps G C₀ (vis c own) vs rs→(∀ j,its[i+j]?=vs[j]?)→
   (∀ all,SReps all (ys₀++ys)→Fin all (own++c.news))→CompRestT G.prog G.w A c.h₀ c.L m env ct elt x scope cl s₂ S (fun i v=>its[i]?=some v) Fin rs.length i done (own++c.news):=by
 induction rs with
 | nil=>exact fun i vs done ys₀ ys T D R hi k=>CompRestT.zero (k done (by rw [show ys= [] from T,a1H];exact D))
 | cons r rs ih=>
  intro i vs done ys₀ ys T D R hi k
  obtain⟨b,y,ys',ht,h1,h2,T'⟩:=T
  obtain⟨v,vs',rfl,Rv,R'⟩:=R.consI
  refine CompRestT.succ fun w I oI C oC D' m₂ h tk E' hP hN hm F N off ne=> ?_
  have Rw:Rep G C₀ (vis c own) w r:=A9t hi hP▸Rv
  have mem:(C,oC)∈ [(I,oI),(C,oC),(D',lst done)]:=a0P _ (.head _)
  refine ht [(I,oI),(C,oC),(D',lst done)] C oC m₂ w mem hN hm (Rw.mono A0a) _ _ _ (show St c m ([(I,oI),(C,oC),(D',lst done)]++own) {s₂ with heap:=h,toks:=tk} from⟨F,N,hs.1,hs.2.1,hs.2.2⟩) fun own₁ s' S₁=> ?_
  have fin: ∀ (own₂:List (Addr×Obj)) (s'':Shared) (y:Value) (rest:Value→List (Addr×Obj)→Prop),St c m (own₂++ ([(I,oI),(C,oC),(D',lst done)]++own)) s''→rest y (own++c.news)→
    CompEnd c.h₀ c.L m {s₂ with heap:=h,toks:=tk} I oI C oC D' (lst done) S rest y s'':=fun own₂ s'' y rest S'' hr=>
   ⟨s''.heap,s''.toks,own++c.news,S''.like hs,S''.F,fun p hp=>S''.N p (by rw [a0C];exact a0G _ hp),off,hS,hr⟩
  cases b with
  | true=>
   obtain⟨rfl,he⟩:=h1 rfl
   have Ee:=he (own₁++ [(I,oI),(C,oC),(D',lst done)]) C oC m₂ w (a0G _ mem) hN hm (Rw.mono A0a)
   rw [a0C] at Ee
   exact Ee _ _ _ S₁ fun own₂ u s'' S₂ Ru=>fin (own₂++own₁) s'' u _ S₂.asc (ih (i+1) vs' (done++ [u]) (ys₀++ [y]) ys' T' (.snoc D Ru.sI) R' (A4w hi) fun all ha=>k all (by rw [a0C] at ha;exact ha))
  | false=>
   obtain rfl:=h2 rfl
   rw [if_neg (by decide)]
   exact fin own₁ s' Value.none _ S₁ (ih (i+1) vs' done ys₀ ys T' D R' (A4w hi) k)
theorem A3D {elt iter:Expr}{y:Str}{px py spos:Pos}{ct:Option Expr}{ys:List SV}{tup:Bool}(ok:c.Ok G A)(he:c.env=d.env f c.L)(hsc:CompScopeC scope x c.env cl)(hset:A1P iter=true)(hlen:rs.length≤1000)
  (hy:d.scope.names.lookup y=some .local) (hsw:swapsWith (.ListComp elt [⟨.Name x px,iter,ct.toList,0⟩] scope pos) (some (.Name y py)) spos.line c.env=pure true) (hl:Locs G C₀ (vis c own) m ρ)
  (hi:Ev G C₀ c A m own (eval iter c.env) (if tup then .tup rs else .list rs))
  (T: ∀ own',match ct with| none=>B2H G C₀ c A m (own'++own) c.env scope cl x elt rs ys| some ct=>A6o G C₀ c A m (own'++own) c.env scope cl x ct elt rs ys):
  Ex G C₀ c A m own (exec (.Assign [.Name y py] (.ListComp elt [⟨.Name x px,iter,ct.toList,0⟩] scope pos) spos) c.env) (.nxt [y] ((y,.list (ys.map .s))::ρ)):=by
 intro s Q E S e q
 have hkind:=ok.kind
 have hp:(c.env.scope.kind== .class|| (c.env.scope.kind== .module&&c.env.locals !=c.env.globals))=false:=by rw [hkind];rfl
 have hLe:c.env.locals=c.L:=by rw [he];rfl
 have hky:c.env.kindOf y=some .local:=by rw [he];exact hy
 rw [exec_Assign_Name_used _ _ _ _ hsw]
 refine a0A (a1R (a0A ?_))
 show wpAny _ A (do let _ ←comprehension (.ListComp elt [⟨.Name x px,iter,ct.toList,0⟩] scope pos) scope c.env _ (newList []) false (eval iter c.env) (some (assign (.Name y py) c.env))) _ _ s
 refine a0A (a2F (wpAny_comprehension_free (use:=some (assign (.Name y py) c.env)) (Q:=fun Ω s'=>Q .next s') rfl (A0y hset) hsc.clos hsc.kind hsc.names
  (hi s _ E S fun own' v s₁ S₁ R=>B0j ok S₁ hlen R fun I g vs fp Sx Sp W Rs=> ?_)) (fun Ω s' hq=>a0I (a0I hq)) fun Ω Ω e=>e)
 have hlen':vs.toArray.size=rs.length:=by simp [Rs.length]
 have fin: ∀ all,SReps all ys→FinA c.h₀ c.L m {s₁ with heap:=g} y Q all ((own'++own)++c.news):=by
  intro all hall D h tk F N off
  refine q ((D,lst all)::own') (fun z=>if z=y then some (.ref D) else m z) _ _ ⟨F,N,S₁.gens,S₁.os,S₁.dr⟩ ⟨rfl,?_,A2c⟩
  exact(hl.mono (A0a (own':=(D,lst all)::own'))).set (.list (vs:=all) (n:=all.length) (.inr (.head _)) hall.reps)
 have end_: ∀ D C h' tk m' ys' news',Fr c.h₀ c.L h' m→News c.h₀ c.L h' ((D,lst ys')::news')→Off1 D news'→h'.Ns C m'→c.h₀.get? C=none→c.h₀.get? D=none→C≠c.L→D≠c.L→C≠D→(∀ p∈news',p.1≠C)→FinA c.h₀ c.L m {s₁ with heap:=g} y Q ys' news'→
   compPost G.M A E (some (assign (.Name y py) c.env)) (fun Ω s'=>Q .next s') (.ref D) C (.ok .next) {s₁ with heap:=h',toks:=tk}:=by
  intro D C h' tk m' ys' news' F' N' o1 hn hC₀ hD₀ hCL hDL hCD offC fn
  show wpAny _ A (assign (.Name y py) c.env (.ref D)) _ _ _
  have ns:h'.Ns c.env.locals m:=by rw [hLe];exact F'.ns
  refine wpAny_assign_Name (wpAny_storeName_local hky ns (fun h₂ hn₂ hs₂=> ?_) hp)
  rw [hLe] at hn₂ hs₂
  have hL₀:c.h₀.get? c.L=none:=Heap.get?_none_of_le F'.above
  have F₂:Fr c.h₀ c.L h₂ (fun z=>if z=y then some (.ref D) else m z):=⟨hn₂,fun b o e=>hs₂.extBut b o (fun q=>by rw [q,hL₀] at e;exact x0 e) (F'.keep b o e),F'.above⟩
  refine⟨m',hn.sameBut hs₂ hCL,fun h'' hs''=>fn D h'' _ (F₂.change hs'' hCL hC₀) (fun p hp=> ?_) o1⟩
  have z:h₂.get? p.1=some p.2:=hs₂.extBut _ _ (N' p hp).2.1 (N' p hp).1
  refine⟨hs''.extBut _ _ ?_ z,(N' p hp).2⟩
  rcases a0T.mp hp with rfl| hp
  ·exact a0X hCD
  ·exact offC p hp
 cases ct with
 | none=>
  refine block_U (S:=Sp) (Fin:=FinA c.h₀ c.L m {s₁ with heap:=g} y Q) W.W W.sz W.io W.st hsc.nocell hsc.kind hsc.var W.s0 W.fps W.sts.F W.sts.N W.ne W.new W.off W.inS ?_ end_
  rw [hlen']
  exact A5q (its:=vs.toArray) (S:=Sp) (Fin:=FinA c.h₀ c.L m {s₁ with heap:=g} y Q) (s₂:= {s₁ with heap:=g}) ok W.inS ⟨S₁.gens,S₁.os,S₁.dr⟩ rs 0 vs [] [] ys (T own') .nil Rs (fun j=>by simp) (fun all ha=>fin all (by simpa using ha))
 | some ct=>
  refine block_T (S:=Sp) (Fin:=FinA c.h₀ c.L m {s₁ with heap:=g} y Q) W.W W.sz W.io W.st hsc.nocell hsc.kind hsc.var W.s0 W.fps W.sts.F W.sts.N W.ne W.new W.off W.inS ?_ end_
  rw [hlen']
  exact A6m (its:=vs.toArray) (S:=Sp) (Fin:=FinA c.h₀ c.L m {s₁ with heap:=g} y Q) (s₂:= {s₁ with heap:=g}) ok W.inS ⟨S₁.gens,S₁.os,S₁.dr⟩ rs 0 vs [] [] ys (T own') .nil Rs (fun j=>by simp) (fun all ha=>fin all (by simpa using ha))
end
section
variable {r r':V}
theorem Reps.drop: ∀ {vs:List Value} {rs:List V} (k:Nat),Reps G C₀ Z vs rs→Reps G C₀ Z (vs.drop k) (rs.drop k)
 | _,_,0,h=>by simpa using h
 | _,_,k+1,.nil=>by simpa using .nil
 | _,_,k+1,.cons _ h=>by simpa using h.drop k
theorem A8k {a kk:Nat}{p sp:Pos}{l:List V}(ok:c.Ok G A)(h:Ev G C₀ c A m own (eval value env) (.tup l))(h1:1≤a)(ha:a≤l.length)(hlen:l.length≤1000):
  Ev G C₀ c A m own (eval (.Subscript value (.Slice (some (.Constant (.int a) kk p)) none none sp) pos) env) (.tup (l.drop a)):=by
 intro s Q E S q
 refine Subscript_ (h s _ E S fun own' v s' S' R=> ?_)
 refine R.tupE fun _ _ _ hz R=> ?_
 rename_i t vs nn
 show wpAny _ _ (do
  let l ←valueOrNone (evalOpt (some (.Constant (.int a) kk p)) env)
  let u ←holding [l] (valueOrNone (evalOpt none env))
  let s ←holding [l,u] (valueOrNone (evalOpt none env))
  newFields "slice" [l,u,s]) _ _ s'
 refine a0A (m:=valueOrNone (evalOpt (some (.Constant (.int a) kk p)) env)) (a1J (k:=kk) (pos:=p) (a0A (a0R (a0I (a0A (a0R (a0I ?_)))))))
 unfold newFields
 refine a2J ?_ (by size_fits)
 have ht:IsTup s'.heap t vs.toArray:=⟨_,S'.get ok hz,rfl,_,rfl⟩
 have ht':IsTup (s'.heap.push {cls:= .type "slice",data:= .fields #[.int a s'.toks,.none,.none]}) t vs.toArray:=ht.keeps fun _ _ e=>Heap.get?_push_of_some _ e
 refine A0b (value:=value) (slice:= .Slice (some (.Constant (.int a) kk p)) none none sp) (T:= "tuple") (s:= {s' with heap:=s'.heap.push {cls:= .type "slice",data:= .fields #[.int a s'.toks,.none,.none]},toks:=s'.toks+1}) (IsTup.typeIs ht') slot_tuple_getitem.lookup
  (getItem_tuple_from (s:= {s' with heap:=s'.heap.push {cls:= .type "slice",data:= .fields #[.int a s'.toks,.none,.none]},toks:=s'.toks+1}) ht' (Heap.IsSliceOf.new ..) h1 (by simpa [R.length] using ha) ?_ (by rw [a1I];simp only [a1N,R.length];lia)) (.inr rfl)
 have F1:=S'.F.push {cls:= .type "slice",data:= .fields #[.int a s'.toks,.none,.none]}
 have N1:=News.push F1 (S'.N.grown fun _ _ e=>Heap.get?_push_of_some _ e) {cls:= .type "tuple",data:= .seq (vs.toArray.toList.drop a).toArray}
 refine q (((s'.heap.push {cls:= .type "slice",data:= .fields #[.int a s'.toks,.none,.none]}).objs.size,{cls:= .type "tuple",data:= .seq (vs.toArray.toList.drop a).toArray})::own') _ _ ⟨F1.push _,N1,S'.gens,S'.os,S'.dr⟩ ?_
 exact .tup (vs:=vs.drop a) (n:=0) (.inr (.head _)) ((R.mono A1M).drop a)
end
theorem A5M: ∀ {ns:List Str} {vs:List Value},vs.length=ns.length→ ∀ x∈ns,((ns.zip vs).lookup x).isSome=true
 | n::ns,v::vs,h,x,hx=>by
  rw [List.zip_cons_cons,a0M]
  cases e:x==n with
  | true=>rfl
  | false=>
   rcases a0T.mp hx with rfl| hx
   ·rw [a2B] at e;cases e
   ·exact A5M (by simpa using h) x hx
theorem A3m: ∀ {ns:List Str} {vs:List Value},vs.length=ns.length→ns.Nodup→ns.filterMap (fun n=>((ns.zip vs).lookup n).map fun v=>(n,v))=ns.zip vs
 | [],vs,h,_=>by cases vs<;>rfl
 | n::ns,v::vs,h,hn=>by
  obtain⟨h1,h2⟩:=List.nodup_cons.mp hn
  rw [List.zip_cons_cons,List.filterMap_cons]
  simp only [a0M,a2B,if_true,Option.map_some]
  refine congrArg (List.cons (n,v)) ?_
  refine Eq.trans ?_ (A3m (ns:=ns) (vs:=vs) (by simpa using h) h2)
  have key: ∀ l:List Str,(∀ x∈l,(x==n)=false)→l.filterMap (fun x=>Option.map (fun v=>(x,v)) (match x==n with| true=>some v| false=>(ns.zip vs).lookup x))=l.filterMap (fun x=>((ns.zip vs).lookup x).map fun v=>(x,v)):=by
   intro l
   induction l with
   | nil=>intro _;rfl
   | cons a l ih=>
    intro hl
    rw [List.filterMap_cons,List.filterMap_cons,ih fun x hx=>hl x (.tail _ hx),hl a (.head _)]
  exact key ns fun x hx=>a1L.mpr fun e=>h1 (e▸hx)
theorem B4v {α β:Type}{l:List α}{f:α→β→Sem (ForInStep β)}(c:β)(h: ∀ x∈l,f x c=pure (.yield c)):forIn l c f=pure c:=by
 induction l with
 | nil=>rfl
 | cons x l ih=>
  rw [List.forIn_cons,h x a1G,pure_bind]
  exact ih fun y hy=>h y (.tail _ hy)
structure PlainPar (p:Arguments)(ns:List Str):Prop where
 pos:p.posonlyargs= []
 kwo:p.kwonlyargs= []
 va:p.vararg=none
 kw:p.kwarg=none
 names:p.args.map (·.arg)=ns
 nodup:ns.Nodup
noncomputable def A0r (p:Arguments):Option (List Str):=if p.posonlyargs.isEmpty&&p.kwonlyargs.isEmpty&&p.vararg.isNone&&p.kwarg.isNone&&decide (p.args.map (·.arg)).Nodup then some (p.args.map (·.arg)) else none
theorem A1C {p:Arguments}{ns:List Str}(h:A0r p=some ns):PlainPar p ns:=by
 unfold A0r at h
 split at h
 ·rename_i q
  simp only [a1B,List.isEmpty_iff,Option.isNone_iff_eq_none,decide_eq_true_eq] at q
  refine x1 h ?_
  exact⟨q.1.1.1.1,q.1.1.1.2,q.1.1.2,q.1.2,rfl,q.2⟩
 ·exact x0 h
theorem B2B {fd:FuncData}{ns:List Str}(h:PlainPar fd.params ns)(hl:vs.length=ns.length):
  ∃ k,bindArgs fd ⟨vs,[]⟩=seqItems? fd.defaults>>=k∧ ∀ d,k d=pure (ns.zip vs):=by
 refine⟨_,rfl,fun d=> ?_⟩
 obtain⟨e1,e2,e3,e4,e5,nd⟩:=h
 generalize fd.params=p at*
 obtain⟨po,ar,va,kwo,kd,kwa,df⟩:=p
 dsimp only at e1 e2 e3 e4 e5
 subst e1 e2 e3 e4 e5
 have no: ∀ x∈ar.map (·.arg),(((ar.map (·.arg)).zip vs).lookup x).isNone=false:=fun x hx=>by
  cases e:((ar.map (·.arg)).zip vs).lookup x with
  | some _=>rfl
  | none=>have:=A5M hl x hx;rw [e] at this;exact xf this
 have hf: ∀ k,((((ar.map (·.arg)).take k).filter fun n=>(((ar.map (·.arg)).zip vs).lookup n).isNone).isEmpty)=true:=fun k=>by
  rw [List.filter_eq_nil_iff.mpr fun x hx=>Bool.eq_false_iff.mp (no x (List.mem_of_mem_take hx))];rfl
 refine(if_neg fun q=> ?_).trans ((if_neg fun q=> ?_).trans ((congrArg (· >>=_) (B4v ((ar.map (·.arg)).zip vs) fun x hx=>if_neg fun q=> ?_)).trans ?_))
 ·rw [a1B,decide_eq_true_eq] at q
  exact absurd hl (a2D q.1)
 ·exact xf ((congrArg not (hf _)).symm.trans q)
 ·exact xf ((no _ (List.mem_of_mem_drop (a2T (show (x.1,x.2)∈_ from hx)).1)).symm.trans q)
 ·show (pure (List.filterMap (fun n=>Option.map (fun x=>(n,x)) (List.lookup n ((ar.map (·.arg)).zip vs))) (ar.map (·.arg)++ [])):Sem (List (Str×Value)))=_
  rw [a1H,A3m hl nd]
section
open Builtin Builtin.ObjectAttr Builtin.Getset_descriptor
theorem B9i (d tp:Value)(C:Addr):descrGetArgs ⟨[d,.ref C,tp],[]⟩=pure (d,some (.ref C),given tp):=by kernel_rfl
noncomputable def C1l:Value→Option Str
 | .str s _=>some s
 | _=>none
set_option backward.match.sparseCases false in
noncomputable def B7Q:Obj→Option (Array (Option Value))
 | ⟨_,_,.cls _,sl⟩=>some sl
 | _=>none
noncomputable def B3H (K:Frag)(C:Addr):Option Str:=(K.lookup C).bind fun o=>(B7Q o).bind fun sl=>(sl.toList[2]?).bind fun v=>v.bind C1l
theorem C1k {n:Str}(h:C1l v=some n): ∃ t,v= .str n t:=by
 cases v with
 | str x t=>exact⟨t,by rw [a0E h]⟩
 | _=>exact x0 h
theorem B8X {o:Obj}{sl:Array (Option Value)}(h:B7Q o=some sl): ∃ a b d,o=⟨a,b,.cls d,sl⟩:=by
 obtain⟨a,b,d,s⟩:=o
 cases d with
 | cls d=>exact⟨a,b,d,by rw [a0E h]⟩
 | _=>exact x0 h
section
variable {w:World}{K:Frag}{R:Result→Shared→Prop}{nm:Str}
theorem A7J {tp:Value}(X:K.In s.heap)(ht:typeIn K (.ref C)=some (.type "type"))(hn:B3H K C=some nm)(h: ∀ t,R (.ok (.ret (.str nm t))) s):
  codeAny (model prog w) A (.call (.builtin "getset_descriptor.__get__") ⟨[.builtin "type.__name__",.ref C,tp],[]⟩) R s:=by
 obtain⟨hh,g,dr,t,os⟩:=s
 have L0:Looks (model prog w) hh (typeOf (.ref C)) (.type "type"):=looks_typeIn X ht
 have L1:Looks (model prog w) hh (isSubtype (.type "type") (.type "type")) true:=Looks.of_pure (by rw [isSubtype_type];kernel_rfl)
 refine codeAny_call_builtin KF.slot_gs.plain KF.entry_gs (KF.slot_gs.check _ _ _ _ _ _ _ _ ktyn_type (KF.args_gs _ _ _) ?_)
 unfold Builtin.«getset_descriptor.__get__» descrGet
 rw [B9i]
 refine a0A (a0I ?_)
 unfold descrGetter descrCheckInstance descrNameAndClass isInstance
 dsimp only
 rw [ktyn_owner]
 repeat lk
 refine⟨Code.quiet_builtin _ (by decide+kernel),codeAny_builtin ktyn_entry ?_⟩
 unfold Builtin.«type.__name__»
 dsimp only
 unfold keptObject
 unfold B3H at hn
 refine x3 hn fun o ho hn=>x3 hn fun sl hsl hn=>x3 hn fun v hv hn=>x3 hn fun u hu hn=> ?_
 obtain⟨tk,rfl⟩:=C1k hn
 obtain⟨a,b,e,rfl⟩:=B8X hsl
 unfold slotAt
 refine a0A (a0A (wpAny_loadPart (X _ _ ho) (a0I ?_)))
 dsimp only
 rw [←Array.getElem?_toList,hv,hu]
 exact a0I (h tk)
noncomputable def C5H:Option CFound→Option (Value×Value×Value×Value)
 | some (.get g a i C)=>some (g,a,i,C)
 | _=>none
theorem B9S {o:Option CFound}{q:Value×Value×Value×Value}(h:C5H o=some q):o=some (.get q.1 q.2.1 q.2.2.1 q.2.2.2):=by
 cases o with
 | none=>exact x0 h
 | some f=>cases f with
  | get g a i C=>rw [←a0E h]
  | _=>exact x0 h
noncomputable def C1Z (K:Frag)(C:Addr):Option Str:=gd (readsIn K C (.type "type")&&typeIn K (.ref C)==some (.type "type")) ((C5H (findCls K (.ref C) (.type "type") "__name__")).bind fun q=>
 gd (q.1== .builtin "getset_descriptor.__get__" &&q.2.1== .builtin "type.__name__" &&q.2.2.1== .ref C&&q.2.2.2== .type "type") (B3H K C))
theorem B5V {expr:Bool}(X:K.In s.heap)(hn:C1Z K C=some nm)(h: ∀ t k,Q (.str nm t) {s with toks:=k}):wpAny (model prog w) A (getAttr (.ref C) "__name__" expr) Q E s:=by
 refine x2 hn fun hc hn=>x3 hn fun q e hn=>x2 hn fun hq hn=>x5 hc fun c1 c2=>x7 hq fun q1 q2 q3 q4=> ?_
 have e:=B9S e
 rw [a0D q1,a0D q2,a0D q3,a0D q4] at e
 refine cls_bind X c1 e (wpAny_call (A7J (s:= {s with toks:=s.toks+1}) X (a0D c2) hn fun t=> ?_))
 exact handed_on rfl (h _ _)
end
end
set_option backward.match.sparseCases false
noncomputable def A8x:Value→V
 | .str s _=> .s (.str s s.length)
 | .int i _=> .s (.int i)
 | .bool b=> .s (.bool b)
 | .none=> .s .none
 | .bytes b _=> .s (.bytes b.toList.reverse b.size)
 | v=> .k v
noncomputable def B8q:Const→Option V
 | .str s=>some (.s (.str s s.length))
 | .int i=>some (.s (.int i))
 | .bool b=>some (.s (.bool b))
 | .none=>some (.s .none)
 | .bytes b=>some (.s (.bytes b.reverse b.length))
 | _=>none
set_option backward.match.sparseCases true
noncomputable def builtinTab:List (Str×Value):= [("len",.builtin "len"),("str",.type "str"),("sum",.builtin "sum"),("isinstance",.builtin "isinstance"),("type",.type "type"),("bytes",.type "bytes"),("int",.type "int"),("zip",.type "zip"),("enumerate",.type "enumerate"),
 ("range",.type "range"),("sorted",.builtin "sorted"),("hasattr",.builtin "hasattr")]
noncomputable def B1f (x:Str):Option Value:=builtinTab.lookup x
noncomputable abbrev A0w:=Str→Option V
noncomputable def B9Q (K:Frag)(x:Str):Option V:=(nsIn K mainGlobals x).bind fun o=>orM o (fun v=>some (A8x v)) ((B1f x).map .k)
set_option backward.match.sparseCases false in
noncomputable def C3b (a b:Option V):NameKind→Option V
 | .local=>a
 | .globalImplicit=>b
 | _=>none
noncomputable def nmK (K:Frag)(scope:Scope)(x:Str)(a:Option V):Option V:=bif x== "__debug__" then none else (scope.names.lookup x).bind (C3b a (B9Q K x))
noncomputable def nmF (K:Frag)(d:Fd)(ρ:Loc):A0w:=fun x=>nmK K d.scope x (ρ.lookup x)
noncomputable def nmC (K:Frag)(scope:Scope)(y:Str)(r:V):A0w:=fun x=>nmK K scope x (gd (x==y) (some r))
noncomputable def A6K (b:Bool):SV→SV→Option SV
 | .str x n,.str y k=>some (.str (bif b then x else y) (max n k))
 | .bytes x n,.bytes y k=>some (.bytes (bif b then x else y) (max n k))
 | .bool x,.bool y=>some (.bool (bif b then x else y))
 | _,_=>none
noncomputable def B0o:SRes→Option V
 | .ret r=>some r
 | .nxt _ _=>some (.s .none)
 | .rse=>none
 | .ite b x y=>((B0o x).bind A0V).bind fun a=>((B0o y).bind A0V).bind fun a'=>(A6K b a a').map .s
noncomputable def isNone:V→Option Bool
 | .s x=>(match x with
  | .none=>some true
  | _=>none)
 | _=>none
noncomputable def okB:SRes→Option Bool
 | .nxt _ _=>some true
 | .ret r=>isNone r
 | .rse=>some false
 | .ite b x y=>(okB x).bind fun a=>(okB y).map fun a'=>bif b then a else a'
structure Evs where
 E:Nat→A0w→Expr→Option V
 T:Nat→A0w→Expr→Option Bool
 A:Nat→V→Str→Option V
 M:Nat→V→Str→List V→Option V
 C:Nat→Value→List V→Option V
 F:Nat→Addr→List V→Option SRes
 S:Nat→Fd→Loc→List Stmt→Option SRes
section
variable (K:Frag)(r:Evs)
set_option backward.match.sparseCases false in
noncomputable def C3h (i:Int):Operator→Int→Option SV
 | .Mult,j=>gd (decide (i.natAbs<1000000)&&decide (j.natAbs<1000000)) (some (.int (i*j)))
 | .Pow,j=>gd (decide (i.natAbs<1000)&&decide (0≤j)&&decide (j<50)) (some (.int (i^j.toNat)))
 | .RShift,j=>gd (decide (0≤j)) (some (.int (i.fdiv (2^j.toNat))))
 | _,_=>none
noncomputable def C4Y (op:Operator)(a b:SV):Option SV:=((A0U a).bind fun i=>(A0U b).bind fun j=>C3h i op j).or (C0u op a b)
noncomputable def A3M (b:Nat)(η:A0w):List Expr→Option (List V)
 | []=>some []
 | e::es=>gd (A0g e) ((r.E b η e).bind fun v=>(A3M b η es).map fun vs=>v::vs)
noncomputable def A7i (b:Nat)(scope:Scope)(x:Str)(elt:Expr):List V→Option (List SV)
 | []=>some []
 | v::vs=>((r.E b (nmC K scope x v) elt).bind A0V).bind fun y=>(A7i b scope x elt vs).map fun ys=>y::ys
noncomputable def A4A (b:Nat)(scope:Scope)(x:Str)(ct elt:Expr):List V→Option (List SV)
 | []=>some []
 | v::vs=>(r.T b (nmC K scope x v) ct).bind fun t=>bif t then ((r.E b (nmC K scope x v) elt).bind A0V).bind fun y=>(A4A b scope x ct elt vs).map fun ys=>y::ys else A4A b scope x ct elt vs
set_option backward.match.sparseCases false in
noncomputable def B5I:V→Option (Bool×List V)
 | .tup l=>some (true,l)
 | .list l=>some (false,l)
 | _=>none
noncomputable def C5E (k:Int):V→Option V
 | .tup l=>gd (decide (-1000≤k)&&decide (k<1000)) ((seqIndex? k l.length).bind fun j=>l[j]?)
 | .list l=>gd (decide (0≤k)&&decide (k<1000)) l[k.toNat]?
 | _=>none
set_option backward.match.sparseCases false in
noncomputable def B1b:Const→Option Int
 | .int i=>some i
 | _=>none
noncomputable def kN:Expr→Option Nat
 | .Constant c _ _=>(B1b c).bind fun i=>gd (decide (0≤i)) (some i.toNat)
 | _=>none
set_option backward.match.sparseCases false
noncomputable def C4v:UnaryOp→Bool
 | .USub=>true
 | _=>false
noncomputable def C4x:Expr→Bool
 | .UnaryOp op e _=>C4v op&& (kN e==some 1)
 | _=>false
set_option backward.match.sparseCases true
noncomputable def sM1 (b:Nat)(η:A0w)(v:Expr)(k:List UInt8→Nat→UInt8→List UInt8→SV):Option V:=(((r.E b η v).bind A0V).bind A0q).bind fun p=>gd (decide (p.2≤100000)) (match p.1 with
 | h::t=>some (.s (k p.1 p.2 h t))
 | []=>none)
noncomputable def C5r (b:Nat)(η:A0w)(v:Expr):Option Expr→Option Expr→Option Expr→Option V
 | some lo,none,none=>(kN lo).bind fun a=>((r.E b η v).bind A5U).bind fun l=>gd (decide (1≤a)&&decide (a≤l.length)&&decide (l.length≤1000)) (some (.tup (l.drop a)))
 | some lo,some up,none=>(kN lo).bind fun a=>(kN up).bind fun k=>(((r.E b η v).bind A0V).bind A0q).bind fun p=>gd (decide (1≤a)&&decide (a≤k)&&decide (p.2≤100000)) (some (.s (.bytes ((p.1.reverse.drop a).take (k - a)).reverse p.2)))
 | none,some up,none=>gd (C4x up) (sM1 r b η v fun Ω n Ω t=> .bytes t n)
 | _,_,_=>none
set_option backward.match.sparseCases false
noncomputable def C6k (b:Nat)(η:A0w)(v:Expr):Expr→Option V
 | .Constant c _ _=>(B1b c).bind fun k=>(r.E b η v).bind (C5E k)
 | .Slice lo up st _=>C5r r b η v lo up st
 | .UnaryOp op e p=>gd (C4x (.UnaryOp op e p)) (sM1 r b η v fun Ω Ω h Ω=> .int h.toNat)
 | _=>none
noncomputable def C4a (b:Nat)(η:A0w)(args:List Expr)(pos:Pos):Expr→Option V
 | .Attribute o nm apos=>gd (A0v o&&apos.endLine==pos.line&&args.all A0g&&decide (args.length<30)) ((r.E b η o).bind fun ov=>(A3M r b η args).bind fun rs=>r.M b ov nm rs)
 | .Name f _=>gd (args.all A0g) (((η f).bind C0G).bind fun fv=>(A3M r b η args).bind fun rs=>gd (A0L K fv) (r.C b fv rs))
 | _=>none
set_option backward.match.sparseCases true
noncomputable def B3s:Comprehension→Option (Str×Expr×List Expr)
 | ⟨.Name x _,iter,ct,0⟩=>some (x,iter,ct)
 | _=>none
noncomputable def ev2 (b:Nat)(η:A0w)(l e:Expr):Option (SV×SV):=((r.E b η l).bind A0V).bind fun x=>((r.E b η e).bind A0V).map fun y=>(x,y)
set_option backward.match.sparseCases false in
noncomputable def C1p (b:Nat)(η:A0w):Expr→Option V
 | .Name x _=>η x
 | .Constant c _ _=>B8q c
 | .Attribute v a _=>gd (A0v v) ((r.E b η v).bind fun o=>r.A b o a)
 | .Call f args kws pos=>gd kws.isEmpty (C4a K r b η args pos f)
 | .Subscript v sl _=>C6k r b η v sl
 | .BinOp l op e _=>(ev2 r b η l e).bind fun p=>(C4Y op p.1 p.2).map .s
 | .Compare l ops es _=>(A1m ops).bind fun op=>(A1m es).bind fun e=>gd (A0Y op e) ((ev2 r b η l e).bind fun p=>(A5J op p.1 p.2).map fun t=> .s (.bool t))
 | .ListComp elt gens scope _=>(A1m gens).bind fun g=>(B3s g).bind fun p=>gd (p.2.2.isEmpty&&A2u scope p.1&&A1P p.2.1) (((r.E b η p.2.1).bind B5I).bind fun q=>gd (decide (q.2.length≤1000)) ((A7i K r b scope p.1 elt q.2).map fun ys=> .list (ys.map .s)))
 | .List elts _=>gd (decide (elts.length≤1000)) ((A3M r b η elts).map .list)
 | .IfExp t x y _=>(r.T b η t).bind fun t=>r.E b η (bif t then x else y)
 | _=>none
noncomputable def C0m (b:Nat)(η:A0w):List Expr→Option Bool
 | []=>some true
 | [e]=>r.T b η e
 | e::es=>(r.T b η e).bind fun x=>orM (C0m b η es) (fun y=>some (x&&y)) (bif x then none else some false)
noncomputable def C4M (b:Nat)(η:A0w):List Expr→Option Bool
 | []=>some false
 | [e]=>r.T b η e
 | e::es=>(r.T b η e).bind fun x=>(C4M b η es).map fun y=>x|| y
noncomputable def B6R:List V→Option (List Int)
 | []=>some []
 | v::rest=>((A0V v).bind A0U).bind fun i=>(B6R rest).map (i:: ·)
set_option backward.match.sparseCases false
noncomputable def C4y:CmpOp→Bool
 | .In=>true
 | _=>false
noncomputable def A6p:V→Option Bool
 | .s x=>(match x with
  | .bool t=>some t
  | .none=>some false
  | _=>none)
 | _=>none
set_option backward.match.sparseCases true
noncomputable def C1m (b:Nat)(η:A0w):Expr→Option Bool
 | .UnaryOp op e p=>(match op with
  | .Not=>(r.T b η e).map (!·)
  | op=>(r.E b η (.UnaryOp op e p)).bind A6p)
 | .BoolOp op es _=>(match op with
  | .And=>C0m r b η es
  | .Or=>C4M r b η es)
 | .Compare l ops es _=>(A1m ops).bind fun op=>(A1m es).bind fun e=>gd (A0Y op e) (((ev2 r b η l e).bind fun p=>A5J op p.1 p.2).or
   ((((r.E b η l).bind A0V).bind A0U).bind fun i=>((r.E b η e).bind A1V).bind fun rs=>gd (C4y op) ((B6R rs).map fun ns=>ns.any (· ==i))))
 | e=>gd (A2D e) ((r.E b η e).bind A6p)
noncomputable def A9w:List Value→Option Addr
 | v::_=>(match v with
  | .ref a=>some a
  | _=>none)
 | _=>none
noncomputable def B3z (a:Value):Option Addr:=match a with
 | .ref q=>gd (specialIn K (.ref q) "__get__" ==some (some (.builtin "property.__get__"))&&takesIn K (.ref q)==some true) ((recIn K q "property").bind A9w)
 | _=>none
noncomputable def B4q:V→Bool
 | .k v=>handedIn v
 | _=>true
noncomputable def B0L (v:V):Option V:=gd (B4q v) (some v)
noncomputable def C4C (b:Nat)(C:Addr)(fs:List (Str×V))(a:Str)(o:Option Value):Option V:=orM o (fun v=>orM (B3z K v) (fun fget=>onS b fun b=>((r.F b fget [.inst C fs]).bind B0o).bind B0L)
 (gd (specialIn K v "__get__" ==some none&&handedIn v&& !copiedNames.contains a&& (fs.lookup a).isNone) (some (A8x v)))) ((fs.lookup a).bind B0L)
noncomputable def kA (a:Str):Value→Option V
 | .ref C=>gd (a== "__name__") ((C1Z K C).map fun nm=> .s (.str nm nm.length))
 | _=>none
set_option backward.match.sparseCases false in
noncomputable def C1r (b:Nat):V→Str→Option V
 | .inst C fs,a=>gd (A1o K C) ((findIn K (.ref C) a).bind (C4C K r b C fs a))
 | .abs d,a=>orM (d.props.lookup a) (fun v=>gd (decide (d.n+1≤b)) (some (.s v))) ((d.own.lookup a).map .s)
 | .k x,a=>kA K a x
 | _,_=>none
noncomputable def A2M:List V→Option (List UInt8)
 | []=>some []
 | v::rest=>((A0V v).bind A0U).bind fun i=>gd (decide (0≤i)&&decide (i<256)) ((A2M rest).map (· ++ [i.toNat.toUInt8]))
noncomputable def A5t:List V→Option (List UInt8×Nat)
 | []=>some ([],0)
 | v::rest=>((A0V v).bind A0q).bind fun q=>(A5t rest).map fun p=>(p.1++q.1,q.2+p.2)
noncomputable def C4J (o:Option (Option Value)):Option Addr:=match o with
 | some o=>(match o with
  | some v=>(match v with
   | .ref f=>some f
   | _=>none)
  | none=>none)
 | none=>none
noncomputable def A4b (C:Addr)(nm:Str):Option Addr:=C4J (findIn K (.ref C) nm)
noncomputable def C6u (x:Str)(nm:Str)(rs:List V):Option V:=
 bif nm== "join" then gd (decide (x.length≤16)) (((A1m rs).bind A1V).bind fun l=>(A8S l).bind fun p=>gd (decide (p.2+l.length*16≤16777216)) (some (.s (.str (Txt.join x p.1) (p.2+l.length*16)))))
 else gd (nm== "lower" &&rs.isEmpty&&decide (x.length≤1000)) (some (.s (.str (Txt.lower x) (3*x.length))))
noncomputable def mSV (nm:Str)(rs:List V):SV→Option V
 | .str x _=>C6u x nm rs
 | .bytes x _=>gd (x.isEmpty&&nm== "join") (((A1m rs).bind A1V).bind fun l=>(A5t l).bind fun p=>gd (decide (p.2≤16777216)&&decide (l.length≤1000)) (some (.s (.bytes p.1 p.2))))
 | _=>none
set_option backward.match.sparseCases false in
noncomputable def C1n (b:Nat):V→Str→List V→Option V
 | .inst C fs,nm,rs=>gd (rs.isEmpty&&A1o K C) ((A4b K C nm).bind fun f=>gd (isFn K (.ref f)&&keepIn K (.ref f)&& (fs.lookup nm).isNone) ((r.F b f [.inst C fs]).bind B0o))
 | .abs d,nm,rs=>gd (rs.isEmpty&&decide (d.n≤b)) ((d.meths.lookup nm).map .s)
 | .s x,nm,rs=>mSV nm rs x
 | _,_,_=>none
noncomputable def C2l:SV→Option V
 | .int i=>gd (decide (0≤i)&&decide (i<9223372036854775808)) (some (.s (.int i)))
 | .bint i lo hi=>gd (decide (0≤lo)&&decide (hi<9223372036854775808)) (some (.s (.bint i lo hi)))
 | _=>none
noncomputable def B6z (v:V):Option V:=(A0V v).bind C2l
noncomputable def C6F (x:SV):Option V:=(A0q x).bind fun p=>gd (decide (p.2<1000000)) (some (.s (.bint p.1.length 0 p.2)))
set_option backward.match.sparseCases false in
noncomputable def B3i (b:Nat):V→Option V
 | .tup l=>gd (decide (l.length<1000)) (some (.s (.int l.length)))
 | .list l=>gd (decide (l.length<1000)) (some (.s (.int l.length)))
 | .abs d=>gd (decide (d.n+1≤b)) ((d.spec.lookup ("__len__" :Str)).bind fun v=>B6z (.s v))
 | .inst C fs=>(A4b K C "__len__").bind fun f=>gd (isFn K (.ref f)) (onS b fun b=>((r.F b f [.inst C fs]).bind B0o).bind B6z)
 | .s x=>C6F x
 | _=>none
noncomputable def B0h (v:V):Option V:=((A0V v).bind A0x).map fun p=> .s (.str p.1 p.2)
set_option backward.match.sparseCases false in
noncomputable def B3f (b:Nat):V→Option V
 | .abs d=>gd (decide (d.n+2≤b)) ((d.spec.lookup ("__str__" :Str)).bind fun v=>B0h (.s v))
 | .inst C fs=>(A4b K C "__str__").bind fun f=>gd (isFn K (.ref f)) (onS b fun b=>onS b fun b=>((r.F b f [.inst C fs]).bind B0o).bind B0h)
 | _=>none
noncomputable def B7L (K:Frag)(D:Addr):Bool:=kitOne K (.type "str") (.ref D)==some false
set_option backward.match.sparseCases false
noncomputable def B3j:V→Addr→Option Bool
 | .abs d,D=>d.isa.lookup D
 | .inst C fs,D=>bif isIn K (.ref C) D then some true else gd (A1o K C&&kin_not K C D) (some false)
 | .s x,D=>(A0x x).bind fun Ω=>gd (B7L K D) (some false)
 | _,_=>none
noncomputable def B3k:V→Option Bool
 | .s x=>(A0x x).map fun Ω=>true
 | .inst C fs=>gd (A1o K C&&kin_notT K C "str") (some false)
 | _=>none
set_option backward.match.sparseCases true
noncomputable def C1B:Option Obj→Bool
 | some o=>(match o.data with
  | .seq _ _=>true
  | _=>false)
 | none=>false
set_option backward.match.sparseCases false in
noncomputable def A1s (dV:Value):Bool:=match dV with
 | .none=>true
 | .ref T=>C1B (K.lookup T)
 | _=>false
noncomputable def A2A (K:Frag)(C:Addr)(attr:Str):Bool:=findIn K (.ref C) "__setattr__" ==some (some (.builtin "object.__setattr__"))&&plainOver K C&&hasDictIn K C&&takerIn K C attr==some none
noncomputable def B4E:Expr→Option (Expr×Str)
 | .Attribute o a _=>some (o,a)
 | _=>none
noncomputable def B8T:Stmt→Option (Str×Str×Expr)
 | .Assign ts v _=>(A1m ts).bind fun t=>(B4E t).bind fun p=>(A1r p.1).map fun z=>(z,p.2,v)
 | _=>none
noncomputable def B4m (d:Fd)(C:Addr)(self:Str)(ρ:Loc):List Stmt→List Str→Option (List (Str×V))
 | [],_=>some []
 | st::rest,done=>(B8T st).bind fun p=>(A1r p.2.2).bind fun x=>gd (p.1==self&&A2A K C p.2.1&&d.scope.names.lookup x==some .local&& !(x==("__debug__" :Str))&& !done.contains p.2.1&&decide (done.length<900))
  ((ρ.lookup x).bind fun v=>(B4m d C self ρ rest (done++ [p.2.1])).map fun fs=>(p.2.1,v)::fs)
noncomputable def B9h:List Str→Option (Str×List Str)
 | x::ns=>some (x,ns)
 | []=>none
noncomputable def B3h (b:Nat)(C:Addr)(rs:List V):Option V:=onS b fun b=>onS b fun Ω=>gd (makesIn K C) ((A4b K C "__init__").bind fun fI=>gd (isFn K (.ref fI)) ((A2V K fI).bind fun d=>gd (A0H K fI d&&A1s K d.dV)
 ((A0r d.params).bind fun ps=>(B9h ps).bind fun p=>gd (p.2.length==rs.length&& (p.1::p.2).all (fun x=>d.scope.names.lookup x==some .local)&& !(p.1==("__debug__" :Str))) ((B4m K d C p.1 (p.2.zip rs) d.body []).map (.inst C)))))
set_option backward.match.sparseCases false in
noncomputable def C6H (x:V):Value→Option V
 | .ref D=>(B3j K x D).map fun t=> .s (.bool t)
 | .type T=>gd (T== "str") ((B3k K x).map fun t=> .s (.bool t))
 | _=>none
noncomputable def bC (b:Nat)(id:String)(rs:List V):Option V:=
 bif id== "len" then (A1m rs).bind (B3i K r b)
 else bif id== "sum" then ((A1m rs).bind A1V).bind fun l=>(C3u l).map fun p=> .s (.bint p.1 p.2.1 p.2.2)
 else gd (id== "isinstance") ((A7E rs).bind fun p=>(C0G p.2).bind (C6H K p.1))
noncomputable def tC (b:Nat)(id:String)(rs:List V):Option V:=
 bif id== "str" then (A1m rs).bind (B3f K r b)
 else bif id== "type" then ((A1m rs).bind A4L).map fun p=> .k (.ref p.1)
 else bif id== "int" then (((A1m rs).bind A0V).bind A2C).map fun t=> .s (.int (bif t then 1 else 0))
 else gd (id== "bytes") (((A1m rs).bind A1V).bind fun l=>gd (decide (l.length≤1000)) ((A2M l).map fun x=> .s (.bytes x l.length)))
set_option backward.match.sparseCases false in
noncomputable def C1q (b:Nat):Value→List V→Option V
 | .builtin id,rs=>bC K r b id rs
 | .type id,rs=>tC K r b id rs
 | .ref f,rs=>bif isFn K (.ref f) then (r.F b f rs).bind B0o else B3h K b f rs
 | _,_=>none
noncomputable def A4K:Value→Option Addr
 | .ref a=>some a
 | _=>none
noncomputable def B3q:Value→Option Str
 | .str s _=>some s
 | _=>none
set_option backward.match.sparseCases false
noncomputable def B0Q:Option Obj→Option (Array Value)
 | some o=>(match o.data with
  | .fields vs=>some vs
  | _=>none)
 | none=>none
noncomputable def B8s:Option Obj→Option Addr
 | some o=>(match o.data with
  | .cell c=>c.bind A4K
  | _=>none)
 | none=>none
set_option backward.match.sparseCases true
noncomputable def C6g (fl:Str)(d:Fd)(attr:Str)(C:Addr)(cn:Str)(ar:Arg)(D:Addr)(file:Str):Bool:=
 cn== "__class__" && (fl==file&& (clsIn K D).isSome&&mroIn K C (.ref D)==some true&&nsIn K mainGlobals "super" ==some none&& (attr==("__class__" :Str))==false&&
  d.scope.names.lookup ("super" :Str)==some .globalImplicit&&d.scope.names.lookup ("__class__" :Str)==some .free&&d.scope.names.lookup ar.arg==some .local&&nsIn K cStatics "thirdparty.any" ==some none)
noncomputable def C6h (attr:Str)(C D:Addr):Option Addr:=(C4J (ks_superIn K C D attr)).bind fun f2=>gd (typeIn K (.ref f2)==some (.type "function")&&fnIn K f2) (some f2)
noncomputable def B2V (fl:Str)(d:Fd)(attr:Str)(C:Addr):Option Addr:=(A1m d.cl).bind fun cc=>(A4K d.cdv).bind fun cda=>(A1m (d.params.posonlyargs++d.params.args)).bind fun ar=>(B0Q (K.lookup cda)).bind fun vs=>(B8s (K.lookup cc.2)).bind fun D=>((vs[2]?:Option Value).bind B3q).bind fun file=>
 gd (C6g K fl d attr C cc.1 ar D file) (C6h K attr C D)
noncomputable abbrev Sp:=Addr→List V→Option (Nat×SRes)
noncomputable def B0U:Expr→Option (Expr×Pos)
 | .Call f args kws p=>gd (args.isEmpty&&kws.isEmpty) (some (f,p))
 | _=>none
noncomputable def A9D:Expr→Option (Expr×Str×Pos)
 | .Attribute o a p=>some (o,a,p)
 | _=>none
set_option backward.match.sparseCases false in
noncomputable def C1y:Stmt→Option Expr
 | .Expr e _=>some e
 | _=>none
noncomputable def B2W:List Stmt→Option (Str×List Stmt)
 | st::rest=>(C1y st).bind fun e=>(B0U e).bind fun p=>(A9D p.1).bind fun q=>(B0U q.1).bind fun s=>(A1r s.1).bind fun x=>gd (x== "super" &&q.2.2.endLine==p.2.line) (some (q.2.1,rest))
 | []=>none
noncomputable def C4T (fl:Str)(b:Nat)(d:Fd)(ns:List Str)(rs:List V):Option SRes:=orM ((B2W d.body).bind fun s=>((A1m rs).bind A4L).map fun p=>(s,p))
 (fun q=>(B2V K fl d q.1.1 q.2.1).bind fun f2=>((r.F b f2 [.inst q.2.1 q.2.2]).bind okB).bind fun ok=>(r.S b d (ns.zip rs) q.1.2).map fun res=> .ite ok res .rse) (r.S b d (ns.zip rs) d.body)
noncomputable def B7M (fl:Str)(b:Nat)(f:Addr)(rs:List V):Option SRes:=onS b fun b=>(A2V K f).bind fun d=>gd (A0H K f d) ((A0r d.params).bind fun ns=>
 gd (ns.length==rs.length&&ns.all (fun x=>d.scope.names.lookup x==some .local)&&A1s K d.dV) (C4T K r fl b d ns rs))
noncomputable def C1o (fl:Str)(sp:Sp)(b:Nat)(f:Addr)(rs:List V):Option SRes:=orM (sp f rs) (fun p=>gd (decide (p.1≤b)) (some p.2)) (B7M K r fl b f rs)
noncomputable def locals (d:Fd)(x:Str):Bool:=d.scope.names.lookup x==some .local
noncomputable def A6y (ρ₁ ρ':Loc):List Str→Option Loc
 | []=>some ρ₁
 | y::ys=>((ρ'.lookup y).bind A0V).bind fun v=>(A6y ρ₁ ρ' ys).map fun l=>(y,.s v)::l
noncomputable def SRes.settle (ρ₁:Loc):SRes→Option SRes
 | .nxt as ρ'=>(A6y ρ₁ ρ' as).map (.nxt as)
 | .rse=>some .rse
 | .ret _=>none
 | .ite b x y=>(x.settle ρ₁).bind fun x'=>(y.settle ρ₁).map fun y'=> .ite b x' y'
noncomputable def B0Z (b:Nat)(d:Fd)(x:Str)(body:List Stmt):List V→Loc→Option SRes
 | [],ρ=>some (.nxt [] ρ)
 | v::vs,ρ=>((r.S b d ((x,v)::ρ) body).bind (SRes.settle ((x,v)::ρ))).bind fun res=>(res.andThen (B0Z b d x body vs)).map (SRes.pre [x])
noncomputable def B4D:Expr→Option (Str×Expr)
 | .Call f args kws _=>(A1r f).bind fun x=>(A1m args).bind fun e=>gd kws.isEmpty (some (x,e))
 | _=>none
noncomputable def B9c (C₀:Addr)(b:Nat)(d:Fd)(ρ:Loc)(e:Expr):Option V:=(B4D e).bind fun p=>gd (A0g p.2&&nsIn K mainGlobals p.1==some (some (.ref C₀))&&excIn K C₀ A6Y "Exception.__new__" && (d.scope.names.lookup p.1==some .globalImplicit&& !(p.1==("__debug__" :Str)))) (r.E b (nmF K d ρ) p.2)
noncomputable def B4C:Expr→Option (Expr×List Comprehension×Scope×Pos)
 | .ListComp elt gens scope p=>some (elt,gens,scope,p)
 | _=>none
noncomputable def A5r (d:Fd)(x:Str)(px:Pos)(lpos:Pos)(scope:Scope):Bool:=
 px.line==lpos.line&& !(scope.names.any fun (n,k)=>n==x&& (k== .local|| k== .cell))
noncomputable def B7J (b:Nat)(scope:Scope)(y:Str)(elt:Expr)(rs:List V):List Expr→Option (List SV)
 | []=>A7i K r b scope y elt rs
 | t::ts=>gd ts.isEmpty (A4A K r b scope y t elt rs)
noncomputable def C4b (b:Nat)(d:Fd)(ρ:Loc)(x:Str)(px:Pos)(c:Expr×List Comprehension×Scope×Pos):Option SRes:=(A1m c.2.1).bind fun g=>(B3s g).bind fun p=>gd (locals d x&&A2u c.2.2.1 p.1&&A1P p.2.1&&A5r d x px c.2.2.2 c.2.2.1)
 (((r.E b (nmF K d ρ) p.2.1).bind B5I).bind fun q=>gd (decide (q.2.length≤1000)) ((B7J K r b c.2.2.1 p.1 c.1 q.2 p.2.2).map fun ys=> .nxt [x] ((x,.list (ys.map .s))::ρ)))
set_option backward.match.sparseCases false
noncomputable def C5t (b:Nat)(d:Fd)(ρ:Loc)(value:Expr):Expr→Option SRes
 | .Name x px=>orM (B4C value) (C4b K r b d ρ x px) (gd (locals d x&&A2G value) ((r.E b (nmF K d ρ) value).map fun v=> .nxt [x] ((x,v)::ρ)))
 | .Tuple elts _ _=>(B4C value).bind fun Ω=>(A3v elts).bind fun xs=>((r.E b (nmF K d ρ) value).bind A1V).bind fun rs=>gd (xs.all (locals d)&&xs.length==rs.length) (some (.nxt xs (A3k xs rs ρ)))
 | _=>none
noncomputable def C4B:Operator→Bool
 | .Add=>true
 | _=>false
noncomputable def B5F:Stmt→Option (Str×Expr)
 | .AugAssign t op v _=>(A1r t).bind fun x=>gd (C4B op) (some (x,v))
 | _=>none
set_option backward.match.sparseCases true
noncomputable def C5s (b:Nat)(d:Fd)(ρ:Loc)(x:Str)(value:Expr)(k:SV→SV→Option SRes):Option SRes:=gd (locals d x) (((ρ.lookup x).bind A0V).bind fun a=>((r.E b (nmF K d ρ) value).bind A0V).bind fun v=>gd (B0r a) ((B2G a v).bind fun y=>k a y))
set_option backward.match.sparseCases false in
noncomputable def B8U:Stmt→Option Unit
 | .Raise e _ _=>e.map fun Ω=>()
 | .Return e _=>e.map fun Ω=>()
 | _=>none
noncomputable def sIf (b:Nat)(d:Fd)(ρ:Loc)(t:Bool)(body orelse:List Stmt):Option SRes:=orM (gd orelse.isEmpty (A1m body))
 (fun st=>orM (B5F st) (fun p=>C5s K r b d ρ p.1 p.2 fun a y=>(A6K t y a).map fun z=> .nxt [p.1] ((p.1,.s z)::ρ))
  (orM (B8U st) (fun Ω=>orM (r.S b d ρ body) (fun res=>some (.ite t res (.nxt [] ρ))) (bif t then none else r.S b d ρ orelse)) (r.S b d ρ (bif t then body else orelse))))
 (r.S b d ρ (bif t then body else orelse))
set_option backward.match.sparseCases false in
noncomputable def B5D (C₀:Addr)(b:Nat)(d:Fd)(ρ:Loc):Stmt→Option SRes
 | .Return v _=>v.bind fun e=>(r.E b (nmF K d ρ) e).map .ret
 | .Assign ts value _=>(A1m ts).bind (C5t K r b d ρ value)
 | .AugAssign t op v p=>(B5F (.AugAssign t op v p)).bind fun q=>C5s K r b d ρ q.1 q.2 fun Ω y=>some (.nxt [q.1] ((q.1,.s y)::ρ))
 | .Expr e _=>(B0U e).bind fun p=>(A9D p.1).bind fun q=>gd (A0v q.1&&q.2.2.endLine==p.2.line&&q.2.1== "verify") (((r.E b (nmF K d ρ) q.1).bind B0n).bind fun d'=>gd (decide (d'.n≤b)) (d'.ver.map fun ok=> .ite ok (.nxt [] ρ) .rse))
 | .Raise e c _=>e.bind fun e=>gd c.isNone ((B9c K r C₀ b d ρ e).map fun Ω=> .rse)
 | .If test body orelse _=>(r.T b (nmF K d ρ) test).bind fun t=>sIf K r b d ρ t body orelse
 | .For t iter body orelse _=>(A1r t).bind fun x=>gd (orelse.isEmpty&&locals d x&&A1P iter) (((r.E b (nmF K d ρ) iter).bind B5I).bind fun q=>gd (decide (q.2.length≤1000)) (B0Z r b d x body q.2 ρ))
 | .While test _ orelse _=>gd orelse.isEmpty ((r.T b (nmF K d ρ) test).bind fun t=>bif t then none else some (.nxt [] ρ))
 | _=>none
end
structure Hk where
 E:Evs→Nat→A0w→Expr→Option (Option V)
 T:Evs→Nat→A0w→Expr→Option (Option Bool)
 M:Evs→Nat→V→Str→List V→Option (Option V)
 C:Evs→Nat→Value→List V→Option (Option V)
 S:Evs→Nat→Fd→Loc→Stmt→Option (Option SRes)
noncomputable def Hk.nil:Hk:=⟨fun Ω Ω Ω Ω=>none,fun Ω Ω Ω Ω=>none,fun Ω Ω Ω Ω Ω=>none,fun Ω Ω Ω Ω=>none,fun Ω Ω Ω Ω Ω=>none⟩
noncomputable def A3U {α:Type}(a:Option (Option α))(b:Option α):Option α:=match a with
 | some o=>o
 | none=>b
noncomputable def Hk.or (h k:Hk):Hk:=⟨fun r b η e=>(h.E r b η e).or (k.E r b η e),fun r b η e=>(h.T r b η e).or (k.T r b η e),fun r b o nm rs=>(h.M r b o nm rs).or (k.M r b o nm rs),fun r b f rs=>(h.C r b f rs).or (k.C r b f rs),
 fun r b d ρ st=>(h.S r b d ρ st).or (k.S r b d ρ st)⟩
noncomputable def A7z (K:Frag)(r:Evs)(hk:Hk)(C₀:Addr)(b:Nat)(d:Fd)(ρ:Loc)(st:Stmt):Option SRes:=A3U (hk.S r b d ρ st) (B5D K r C₀ b d ρ st)
noncomputable def B3g (K:Frag)(r:Evs)(hk:Hk)(C₀:Addr)(b:Nat)(d:Fd):List Stmt→Loc→Option SRes
 | [],ρ=>some (.nxt [] ρ)
 | st::rest,ρ=>(A7z K r hk C₀ b d ρ st).bind fun r1=>r1.andThen (B3g K r hk C₀ b d rest)
noncomputable def evs (K:Frag)(fl:Str)(C₀:Addr)(sp:Sp)(hk:Hk):Nat→Evs
 | 0=>⟨fun Ω Ω Ω=>none,fun Ω Ω Ω=>none,fun Ω Ω Ω=>none,fun Ω Ω Ω Ω=>none,fun Ω Ω Ω=>none,fun Ω Ω Ω=>none,fun Ω Ω Ω Ω=>none⟩
 | n+1=>⟨fun b η e=>A3U (hk.E (evs K fl C₀ sp hk n) b η e) (C1p K (evs K fl C₀ sp hk n) b η e),fun b η e=>A3U (hk.T (evs K fl C₀ sp hk n) b η e) (C1m (evs K fl C₀ sp hk n) b η e),C1r K (evs K fl C₀ sp hk n),
  fun b o nm rs=>A3U (hk.M (evs K fl C₀ sp hk n) b o nm rs) (C1n K (evs K fl C₀ sp hk n) b o nm rs),fun b f rs=>A3U (hk.C (evs K fl C₀ sp hk n) b f rs) (C1q K (evs K fl C₀ sp hk n) b f rs),C1o K (evs K fl C₀ sp hk n) fl sp,
  fun b d ρ sts=>B3g K (evs K fl C₀ sp hk n) hk C₀ b d sts ρ⟩
structure EnvG (env:Env):Prop where
 g:env.globals=mainGlobals
 b:env.builtins=builtinsNs
section
def NamesOk (G:Gx)(C₀:Addr)(c:Fc)(A:Around)(m:Str→Option Value)(own:List (Addr×Obj))(env:Env)(η:A0w):Prop:=
 ∀ x p v own',η x=some v→Ev G C₀ c A m (own'++own) (eval (.Name x p) env) v
theorem NamesOk.more {η:A0w}(h:NamesOk G C₀ c A m own env η)(own':List (Addr×Obj)):NamesOk G C₀ c A m (own'++own) env η:=fun x p v own'' e=>by
 have:=h x p v (own''++own') e
 rw [a0C] at this
 exact this
noncomputable def FinRep (G:Gx)(C₀:Addr)(Z:Held)(v:Value):SRes→Prop
 | .nxt _ _=>v= .none
 | .ret r=>Rep G C₀ Z v r
 | .rse=>False
 | .ite b x y=>match b with
  | true=>FinRep G C₀ Z v x
  | false=>FinRep G C₀ Z v y
theorem FinRep.mono {Z':Held}(k:Z.le Z'): ∀ {res:SRes},FinRep G C₀ Z v res→FinRep G C₀ Z' v res
 | .nxt _ _,h=>h
 | .ret _,h=>Rep.mono k h
 | .rse,h=>h
 | .ite true x y,h=>FinRep.mono (res:=x) k h
 | .ite false x y,h=>FinRep.mono (res:=y) k h
theorem FlRep.fin {m':Str→Option Value}{fl:Flow}: ∀ {res:SRes},FlRep G C₀ Z m m' fl res→FinRep G C₀ Z (match fl with| .ret v=>v| _=> .none) res
 | .nxt _ _,⟨h,_,_⟩=>by subst h;rfl
 | .ret r,⟨v,e,h⟩=>by subst e;exact h
 | .rse,h=>h.elim
 | .ite true x y,h=>FlRep.fin (res:=x) h
 | .ite false x y,h=>FlRep.fin (res:=y) h
theorem A7Q {x y z:SV}(e:A6K true x y=some z)(h:SRep v x):SRep v z:=by
 cases x with
 | str=>cases y with
  | str=>exact x1 e (h.strE fun Ω l=> .str (a0F l (Nat.le_max_left ..)))
  | _=>exact x0 e
 | bytes=>cases y with
  | bytes=>exact x1 e (h.bytesE fun Ω Ω l k=> .bytes l (a0F k (Nat.le_max_left ..)))
  | _=>exact x0 e
 | bool=>cases y with
  | bool=>exact x1 e h
  | _=>exact x0 e
 | _=>exact x0 e
theorem A7P {x y z:SV}(e:A6K false x y=some z)(h:SRep v y):SRep v z:=by
 cases x with
 | str=>cases y with
  | str=>exact x1 e (h.strE fun Ω l=> .str (a0F l (Nat.le_max_right ..)))
  | _=>exact x0 e
 | bytes=>cases y with
  | bytes=>exact x1 e (h.bytesE fun Ω Ω l k=> .bytes l (a0F k (Nat.le_max_right ..)))
  | _=>exact x0 e
 | bool=>cases y with
  | bool=>exact x1 e h
  | _=>exact x0 e
 | _=>exact x0 e
theorem A7F {w:Value}: ∀ {v:V},B0o res=some v→res.bad=false∧(FinRep G C₀ Z w res→Rep G C₀ Z w v):=by
 induction res with
 | ret r=>exact fun e=>x1 e ⟨rfl,id⟩
 | nxt=>exact fun e=>x1 e ⟨rfl,fun h=>by subst h;exact .s .none⟩
 | rse=>exact fun e=>x0 e
 | ite b x y hx hy=>
  refine fun e=>x3 e fun a ha e=>x3 e fun a' ha' e=>x4 e fun z hz=> ?_
  cases b with
  | true=>exact⟨(hx (A0i ha)).1,fun h=> .s (A7Q hz ((hx (A0i ha)).2 h).sI)⟩
  | false=>exact⟨(hy (A0i ha')).1,fun h=> .s (A7P hz ((hy (A0i ha')).2 h).sI)⟩
theorem B4h {w:Value}{r:V}(e:isNone r=some t)(h:Rep G C₀ Z w r):t=true∧w= .none:=by
 cases r with
 | s x=>cases x with
  | none=>exact x1 e ⟨rfl,h.sI.noneE rfl⟩
  | _=>exact x0 e
 | _=>exact x0 e
theorem B6Q {r:V}(e:isNone r=some t):false= !t:=by
 cases r with
 | s x=>cases x with
  | none=>exact x1 e rfl
  | _=>exact x0 e
 | _=>exact x0 e
theorem B0q {w:Value}: ∀ {t:Bool},okB res=some t→res.bad= !t∧(FinRep G C₀ Z w res→t=true∧w= .none):=by
 induction res with
 | ret r=>exact fun e=>⟨B6Q e,B4h e⟩
 | nxt=>exact fun e=>x1 e ⟨rfl,fun h=>⟨rfl,h⟩⟩
 | rse=>exact fun e=>x1 e ⟨rfl,fun h=>h.elim⟩
 | ite b x y hx hy=>
  refine fun e=>x3 e fun a ha e=>x4 e fun a' ha'=> ?_
  cases b with
  | true=>exact hx ha
  | false=>exact hy ha'
theorem A2S:Rep G C₀ Z v (A8x v):=by
 cases v<;>first
  | exact .s (.str (a0K _))
  | exact .s .int
  | exact .s .bool
  | exact .s .none
  | exact .s (.bytes (by simp) (by simp))
  | exact .k
theorem B4V {k:Const}{v:V}{q:Nat}(e:B8q k=some v):Ev G C₀ c A m own (eval (.Constant k q pos) env) v:=by
 cases k<;>cases e
 ·exact B9Y
 ·exact C0d
 ·exact A5h
 ·exact A8j
 ·exact A7e
theorem A4X {α:Type}{v:α}: ∀ {l:List (Str×α)},l.lookup x=some v→(x,v)∈l
 | [],h=>nomatch h
 | (y,w)::l,h=>by
  rw [a0M] at h
  cases q:x==y with
  | true=>rw [q] at h;cases h;rw [a0D q];exact a1G ..
  | false=>rw [q] at h;exact a0P _ (A4X h)
theorem A8E:builtinTab.all (fun p=>bootBuiltins p.1==some p.2&& !(p.1==("__name__" :Str)))=true:=by decide+kernel
theorem A3K (e:B1f x=some v):bootBuiltins x=some v∧x≠ "__name__" :=by
 have:=a0J.mp A8E _ (A4X e)
 simp only [a1B,Bool.not_eq_true',a1L,beq_iff_eq] at this
 exact this
theorem A0n (h:c.env=d.env f c.L):EnvG c.env:=by rw [h];exact⟨rfl,rfl⟩
theorem C1V {a:Option V}{v:V}{P:Prop}(e:nmK G.K scope x a=some v)(q:(x==("__debug__" :Str))=false→scope.names.lookup x=some .local→a=some v→P)
  (g: ∀ w,(x==("__debug__" :Str))=false→scope.names.lookup x=some .globalImplicit→nsIn G.K mainGlobals x=some (some w)→v=A8x w→P)
  (b: ∀ w,(x==("__debug__" :Str))=false→scope.names.lookup x=some .globalImplicit→nsIn G.K mainGlobals x=some none→bootBuiltins x=some w→x≠ "__name__" →v= .k w→P):P:=by
 refine xb e (fun Ω e=>x0 e) fun hd e=>x3 e fun k hk e=> ?_
 cases k with
 | «local» =>exact q hd hk e
 | globalImplicit=>
  refine x3 e fun o ho e=>xm e (fun w hw e=> ?_) fun hn e=> ?_
  ·subst hw;exact g w hd hk ho (a0E e).symm
  ·subst hn;exact x4e e fun w hw ev=>b w hd hk ho (A3K hw).1 (A3K hw).2 ev
 | _=>exact x0 e
theorem A0f (ok:c.Ok G A)(he:c.env=d.env f c.L)(hl:Locs G C₀ (vis c own) m ρ):NamesOk G C₀ c A m own c.env (nmF G.K d ρ):=fun Ω Ω Ω Ω e=>
 C1V e (fun hd hk e=>A0R ok he (hl.mono A0a) e hk hd) (fun Ω hd hk hx ev=>A8m ok he hx hk hd fun Ω=>ev▸A2S) fun Ω hd hk hx h1 h2 ev=>ev▸A1x ok he hx h1 h2 hk hd
theorem A2P (ok:c.Ok G A)(hg:EnvG env){y:Str}{r:V}{oC:Obj}{m₂:Str→Option Value}(hs:CompScope scope y)(hC:(C,oC)∈own)(hN:NsObj oC m₂)(hv:m₂ y=some v)(R:Rep G C₀ (vis c own) v r):
  NamesOk G C₀ c A m own (compEnvC scope [] C env) (nmC G.K scope y r):=fun Ω Ω Ω Ω e=>
 C1V e (fun hd hk e=>x2 e fun q e=>x1 e (by
   have q:=a0D q
   subst q
   exact A0S (oC:=oC) ok hs.kind hs.var (fun s S=>(S.N _ (a0H _ (a0G _ hC))).1) hN hv (R.mono A0a) hd))
  (fun Ω hd hk hx ev=>A7d ok hs.kind hk hg.g hx (fun Ω=>ev▸A2S) hd) fun Ω hd hk hx h1 h2 ev=>ev▸A5F ok hs.kind hk hg.g hg.b hx h1 h2 hd
structure Snd (G:Gx)(C₀:Addr)(r:Evs):Prop where
 E: ∀ {b η e v},r.E b η e=some v→ ∀ {c A m own env},c.Ok G A→Room A b→EnvG env→NamesOk G C₀ c A m own env η→Ev G C₀ c A m own (eval e env) v
 T: ∀ {b η e t},r.T b η e=some t→ ∀ {c A m own env},c.Ok G A→Room A b→EnvG env→NamesOk G C₀ c A m own env η→EvT G c A m own (isTrue e env (eval e env)) t
 A: ∀ {b o a v},r.A b o a=some v→ ∀ {c A m own x},c.Ok G A→Room A b→Rep G C₀ (vis c own) x o→Ev G C₀ c A m own (getAttr x a true) v
 M: ∀ {b o nm rs v},r.M b o nm rs=some v→ ∀ {c A m own env oe apos args pos},c.Ok G A→Room A b→A0v oe=true→(apos.endLine==pos.line)=true→args.all A0g=true→args.length<30→rs.length=args.length→
  Ev G C₀ c A m own (eval oe env) o→(∀ own',EvL G C₀ c A m (own'++own) (spliced (backTo pos (starEach args env))) rs)→Ev G C₀ c A m own (eval (.Call (.Attribute oe nm apos) args [] pos) env) v
 C: ∀ {b f rs v},r.C b f rs=some v→ ∀ {c A m own vs},c.Ok G A→Room A b→Reps G C₀ (vis c own) vs rs→EvR G C₀ c A m own False (call f vs) (fun Z w=>Rep G C₀ Z w v)
 F: ∀ {b f rs res},r.F b f rs=some res→ ∀ {Z vs},Reps G C₀ Z vs rs→Calls G C₀ b Z f ⟨vs,[]⟩ (fun H w=>FinRep G C₀ H w res) (res.bad=true)
 S: ∀ {b d ρ sts res},r.S b d ρ sts=some res→ ∀ {f c A m own},c.Ok G A→Room A b→c.env=d.env f c.L→Locs G C₀ (vis c own) m ρ→Ex G C₀ c A m own (execs sts c.env) res
variable {r:Evs}
theorem A0u (X:Snd G C₀ r){η:A0w}(ok:c.Ok G A)(room:Room A b)(hg:EnvG env): ∀ {vs:List V},A3M r b η es=some vs→ ∀ {own},NamesOk G C₀ c A m own env η→
  EvL G C₀ c A m own (spliced (backTo pos (starEach es env))) vs:=by
 induction es with
 | nil=>exact fun e Ω Ω=>x1 e A0N
 | cons x es ih=>exact fun e Ω hn=>x2 e fun hs e=>x3 e fun v h1 e=>x4 e fun vs h2=>A0s hs (X.E h1 ok room hg hn) fun own'=>ih h2 (hn.more own')
theorem A3F (X:Snd G C₀ r){elt:Expr}(ok:c.Ok G A)(room:Room A b)(hg:EnvG env)(hs:CompScope scope x): ∀ {ys:List SV},A7i G.K r b scope x elt rs=some ys→B2H G C₀ c A m own env scope [] x elt rs ys:=by
 induction rs with
 | nil=>exact fun e=>x1 e rfl
 | cons v vs ih=>exact fun e=>x3 e fun y h1 e=>x4 e fun ys h2=>⟨y,ys,rfl,fun own' C oC m₂ w hC hN hm R=>X.E (A0i h1) ok room ⟨hg.g,hg.b⟩ (A2P ok hg hs (a0H _ hC) hN hm R),ih h2⟩
theorem A5H (X:Snd G C₀ r){ct elt:Expr}(ok:c.Ok G A)(room:Room A b)(hg:EnvG env)(hs:CompScope scope x): ∀ {ys:List SV},A4A G.K r b scope x ct elt rs=some ys→A6o G C₀ c A m own env scope [] x ct elt rs ys:=by
 induction rs with
 | nil=>exact fun e=>x1 e rfl
 | cons v vs ih=>
  refine fun {ys} e=>x3 e fun t ht e=> ?_
  have T:=fun own' C oC m₂ w hC hN hm R=>X.T ht ok room (env:=compEnvC scope [] C env) (own:=own'++own) (m:=m) ⟨hg.g,hg.b⟩ (A2P (oC:=oC) (m₂:=m₂) (v:=w) ok hg hs (a0H _ hC) hN hm R)
  cases t with
  | true=>exact x3 e fun y h1 e=>x4 e fun ys h2=>⟨true,y,ys,T,fun Ω=>⟨rfl,fun own' C oC m₂ w hC hN hm R=>X.E (A0i h1) ok room ⟨hg.g,hg.b⟩ (A2P ok hg hs (a0H _ hC) hN hm R)⟩,fun q=>(nomatch q),ih h2⟩
  | false=>exact⟨false,.none,ys,T,fun q=>(nomatch q),fun Ω=>rfl,ih e⟩
theorem A6j {η:A0w}{l e:Expr}{p:SV×SV}{P:Prop}(h:ev2 r b η l e=some p)(q:r.E b η l=some (.s p.1)→r.E b η e=some (.s p.2)→P):P:=
 x3 h fun x hx h=>x4e h fun y hy e=>by subst e;exact q (A0i hx) (A0i hy)
end
section
variable {r:Evs}
theorem C0f {elts:List Expr}(hl:elts.length≤1000)(hr:rs.length=elts.length)(h:EvL G C₀ c A m own (spliced (backTo pos (starEach elts env))) rs):Ev G C₀ c A m own (eval (.List elts pos) env) (.list rs):=by
 intro s Q E S q
 refine List_ (h s _ E S fun own' vs s' S' R=> ?_)
 refine newList_N S'.F S'.N (fun h' F N=> ?_) (by rw [R.length,hr,a1I];lia)
 refine q ((s'.heap.objs.size,{cls:= .type "list",data:= .seq vs.toArray})::own') _ {s' with heap:=h'} ⟨F,N,S'.gens,S'.os,S'.dr⟩ ?_
 exact .list (n:=0) (.inr (.head _)) (R.mono A1M)
theorem A3g {η:A0w}: ∀ {vs:List V},A3M r b η es=some vs→vs.length=es.length:=by
 induction es with
 | nil=>exact fun e=>x1 e rfl
 | cons x es ih=>exact fun e=>x2 e fun Ω e=>x3 e fun v Ω e=>x4 e fun vs h2=>congrArg (· +1) (ih h2)
theorem A7g {t x y:Expr}{b:Bool}{v:V}(h:EvT G c A m own (isTrue t env (eval t env)) b)(k: ∀ own',Ev G C₀ c A m (own'++own) (eval (if b then x else y) env) v):Ev G C₀ c A m own (eval (.IfExp t x y pos) env) v:=by
 intro s Q E S q
 refine IfExp_ (h s _ E S fun own' s' S'=> ?_)
 have:=k own' s' Q E S' fun own'' v s'' S'' R=>q (own''++own') v s'' S''.asc (by rw [a0C];exact R)
 cases b<;>exact this
theorem EvR.evF {t:Sem Value}{v:V}(h:EvR G C₀ c A m own False t (fun Z w=>Rep G C₀ Z w v)):Ev G C₀ c A m own t v:=h.ev fun Ω Ω p=>p
set_option tactic.hygienic true in
theorem A4e {k:Int}{kk:Nat}{p:Pos}{l:List V}{r:V}(ok:c.Ok G A)(h:Ev G C₀ c A m own (eval value env) (.list l))(hlo:0≤k)(hhi:k<1000)(hx:l[k.toNat]?=some r):
  Ev G C₀ c A m own (eval (.Subscript value (.Constant (.int k) kk p) pos) env) r:=by
 intro s Q E S q
 refine Subscript_ (h s _ E S fun own' v s' S' R=>a1J ?_)
 refine R.listE fun _ _ _ hz R=> ?_
 obtain⟨v,hv,R'⟩:=R.get hx
 rename_i a vs nn
 have ht:s'.heap.IsList a vs.toArray:=⟨_,S'.get ok hz,rfl,_,rfl⟩
 refine A0b (T:= "list") (s:= {s' with toks:=s'.toks+1}) ht.typeIs slot_list_getitem.lookup (wpAny_getItem_list (s:= {s' with toks:=s'.toks+1}) ht hlo (by lia) (by simpa using hv) ?_) (.inl rfl)
 exact q own' v _ (S'.tok _) R'
theorem B5f {i:Int}(h:i.natAbs<1000000):Builtin.Int.intBits i≤64:=intBits_le_64 (by omega) (by omega)
theorem B5j {w:World}{i j:Int}{t u:Tok}{r:SV}{op:Operator}(e:C3h i op j=some r)(h: ∀ v tk,SRep v r→Q v {s with toks:=tk}):wpAny (model prog w) A (binaryOp op (.int i t) (.int j u)) Q E s:=by
 cases op with
 | Mult=>
  refine x2 e fun hc e=>x5 hc fun c1 c2=> ?_
  have c1:=a0B c1
  exact PyProof.Rows.mul_int (h _ _ (x1 e .int)) (IntMulOk.of_left (B5f c1))
 | Pow=>
  refine x2 e fun hc e=>x6 hc fun c1 c2 c3=> ?_
  have c1:=a0B c1
  have c2:=a0B c2
  have c3:=a0B c3
  have hbits:Builtin.Int.intBits i≤64:=B5f (Nat.lt_trans c1 (by decide))
  refine PyProof.Rows.pow_int c2 ?_ (h _ _ (x1 e .int))
  have h2:((Builtin.Int.intBits i:Nat):Int)*j≤64*50:=Int.mul_le_mul (Int.ofNat_le.mpr hbits) (Int.le_of_lt c3) c2 (by decide)
  exact a1E h2 (by decide)
 | RShift=>exact x2 e fun c2 e=>PyProof.Rows.rshift_int (a0B c2) (h _ _ (x1 e .int))
 | _=>exact x0 e
theorem B7x {w:World}{va vb:Value}{a b r:SV}{op:Operator}(ha:SRep va a)(hb:SRep vb b)(e:C4Y op a b=some r)(h: ∀ v tk,SRep v r→Q v {s with toks:=tk}):wpAny (model prog w) A (binaryOp op va vb) Q E s:=
 xo e (fun e=>x3 e fun i hi e=>x3 e fun j hj e=>by
  revert ha hb
  exact A2k hi (A2k hj fun ha hb=>ha.intE fun t=>hb.intE fun u=>by with_reducible exact B5j e h)) fun e=>A5w ha hb e h
set_option tactic.hygienic true in
theorem B4H {op:Operator}{l e:Expr}{a b x:SV}(hl:Ev G C₀ c A m own (eval l env) (.s a))(hr: ∀ own',Ev G C₀ c A m (own'++own) (eval e env) (.s b))(hx:C4Y op a b=some x):
  Ev G C₀ c A m own (eval (.BinOp l op e pos) env) (.s x):=by
 intro s Q E S q
 refine wpAny_BinOp (hl s _ E S fun own' va s' S' R=>hr own' s' _ E S' fun own'' vb s'' S'' R'=> ?_)
 cases R;cases R'
 rename_i ha hb
 exact B7x ha hb hx fun v tk h=>q (own''++own') v _ (by rw [a0C];exact S''.tok _) (.s h)
theorem A5W {b:Array UInt8}{x:List UInt8}(hb:b.toList=x.reverse)(a k:Nat)(h1:a≤k):(KBy.picked b (some (a:Int)) (some (k:Int))).toList=((x.reverse.drop a).take (k - a)).reverse.reverse:=by
 rw [a1M,KBc.picked_eq,←hb]
 show (List.drop (clipAt b.size a) b.toList).take (clipAt b.size k - clipAt b.size a)=_
 rw [clipAt_nat,clipAt_nat]
 have hl:b.toList.length=b.size:=rfl
 by_cases h:a≤b.size
 ·rw [Nat.min_eq_left h]
  by_cases hk:k≤b.size
  ·rw [Nat.min_eq_left hk]
  ·rw [Nat.min_eq_right (Nat.le_of_not_le hk),a2G (by rw [List.length_drop];exact a0K _),a2G (by rw [List.length_drop];exact Nat.sub_le_sub_right (Nat.le_of_not_le hk) a)]
 ·rw [Nat.min_eq_right (Nat.le_of_not_le h),List.drop_of_length_le (by exact a0K _),List.drop_of_length_le (by exact Nat.le_of_not_le h)]
  simp
set_option tactic.hygienic true in
theorem A7b {a k q1 q2:Nat}{p1 p2 sp:Pos}{x:List UInt8}(ok:c.Ok G A)(h:Ev G C₀ c A m own (eval value env) (.s (.bytes x n)))(h1:1≤a)(h2:a≤k)(hn:n≤100000):
  Ev G C₀ c A m own (eval (.Subscript value (.Slice (some (.Constant (.int (.ofNat a)) q1 p1)) (some (.Constant (.int (.ofNat k)) q2 p2)) none sp) pos) env) (.s (.bytes ((x.reverse.drop a).take (k - a)).reverse n)):=by
 intro s Q E S q
 refine Subscript_ (h s _ E S fun own' v s' S' R=> ?_)
 have R:=R.sI
 refine R.bytesE fun _ _ _ _=> ?_
 rename_i b t hb hl
 have hsz:b.size=x.length:=by have:=congrArg List.length hb;simpa using this
 show wpAny _ _ (do
  let l ←valueOrNone (evalOpt (some (.Constant (.int (.ofNat a)) q1 p1)) env)
  let u ←holding [l] (valueOrNone (evalOpt (some (.Constant (.int (.ofNat k)) q2 p2)) env))
  let s ←holding [l,u] (valueOrNone (evalOpt none env))
  newFields "slice" [l,u,s]) _ _ s'
 refine a0A (m:=valueOrNone (evalOpt (some (.Constant (.int (.ofNat a)) q1 p1)) env)) (a1J (k:=q1) (pos:=p1) (a0A (a0R (m:=valueOrNone (evalOpt (some (.Constant (.int (.ofNat k)) q2 p2)) env)) (a1J (k:=q2) (pos:=p2) (a0A (a0R (a0I ?_)))))))
 unfold newFields
 refine a2J ?_ (by size_fits)
 have hT:Shared.TypeIs {s' with heap:=s'.heap.push {cls:= .type "slice",data:= .fields #[.int (.ofNat a) s'.toks,.int (.ofNat k) (s'.toks+1),.none]},toks:=s'.toks+1+1} (.bytes b t) "bytes" :=typeIs_bytes _ _ _
 refine A0b (value:=value) (slice:= .Slice (some (.Constant (.int (.ofNat a)) q1 p1)) (some (.Constant (.int (.ofNat k)) q2 p2)) none sp) (T:= "bytes") hT FB.slot_bytes_getitem.lookup
  (getItem_meets hT (by decide) FB.slot_bytes_getitem FB.entry_bytes_getitem (a2X _ _) (KBc.meets_slice2 b t _ (.int (a:Int) s'.toks) (.int (k:Int) (s'.toks+1))) ⟨Heap.IsSliceOf.new _ _ _ _,?_,fun t' kk=> ?_⟩) (.inr rfl)
 ·exact a0F (KBc.size_picked_le b _ _) (by rw [hsz];exact a0F hl (a0F hn (by decide)))
 ·refine q own' _ _ ⟨S'.F.push _,S'.N.grown fun _ _ e=>Heap.get?_push_of_some _ e,S'.gens,S'.os,S'.dr⟩ (.s (.bytes (A5W hb a k h2) ?_))
  rw [a0O,List.length_take,List.length_drop,a0O]
  exact a0F (Nat.min_le_right ..) (a0F (Nat.sub_le ..) hl)
theorem m1 (n:Nat):(-1:Int)+ ((n+1:Nat):Int)=n:=by lia
theorem A9f {b:Array UInt8}{h:UInt8}{t:List UInt8}(hb:b.toList=(h::t).reverse):(KBy.picked b none (some (-1))).toList=t.reverse:=by
 rw [KBc.picked_eq]
 have hsz:b.size=t.length+1:=by have:=congrArg List.length hb;simpa using this
 show (List.drop 0 b.toList).take (clipAt b.size (-1) - 0)=_
 have hc:clipAt b.size (-1)=t.length:=by
  show (max 0 (min ((-1:Int)+ (b.size:Int)) (b.size:Int))).toNat=_
  rw [hsz,m1,Int.min_eq_left (Int.ofNat_le.mpr (Nat.le_succ _)),Int.max_eq_right (a1W _)]
  rfl
 rw [hc,hb,List.drop_zero,a2E,Nat.sub_zero,List.take_append_of_le_length (by simp),a2G (by simp)]
theorem A8l {q:Nat}{p1 p2:Pos}(h: ∀ t k,Q (.int (-1) t) {s with toks:=k}):wpAny G.M A (eval (.UnaryOp .USub (.Constant (.int (.ofNat 1)) q p1) p2) env) Q E s:=
 UnaryOp_ (a1J (PyProof.Rows.neg_int (h _ _)))
set_option tactic.hygienic true in
theorem A9E {q:Nat}{p1 p2:Pos}{h:UInt8}{t:List UInt8}(hv:Ev G C₀ c A m own (eval value env) (.s (.bytes (h::t) n)))(hn:n≤100000):
  Ev G C₀ c A m own (eval (.Subscript value (.UnaryOp .USub (.Constant (.int (.ofNat 1)) q p1) p2) pos) env) (.s (.int h.toNat)):=by
 intro s Q E S k
 refine Subscript_ (hv s _ E S fun own' v s' S' R=>A8l fun ti ki=> ?_)
 have R:=R.sI
 refine R.bytesE fun _ _ _ _=> ?_
 rename_i b tb hb hl
 have hsz:b.size=t.length+1:=by have:=congrArg List.length hb;simpa using this
 have hT:Shared.TypeIs {s' with toks:=ki} (.bytes b tb) "bytes" :=typeIs_bytes _ _ _
 have e:seqIndex? (-1) b.size=some t.length:=by
  show (if (decide (0≤ (-1:Int)+ (b.size:Int))&&decide ((-1:Int)+ (b.size:Int)< (b.size:Int)))=true then some ((-1:Int)+ (b.size:Int)).toNat else none)=_
  rw [hsz,m1,a0Q (a1W _),a0Q (Int.ofNat_lt.mpr (a1A _))]
  rfl
 have hg:b[t.length]?=some h:=by
  rw [←Array.getElem?_toList,hb,a2E,List.getElem?_append_right (by simp)]
  simp
 refine A0b (value:=value) (slice:= .UnaryOp .USub (.Constant (.int (.ofNat 1)) q p1) p2) (T:= "bytes") hT FB.slot_bytes_getitem.lookup
  (getItem_gives hT (by decide) FB.slot_bytes_getitem FB.entry_bytes_getitem (a2X _ _) (gives_bytes_getitem _ (-1) tb ti h ?_ ?_) ?_) (.inl rfl)
 ·decide
 ·rw [e];exact hg
 ·exact k own' _ _ (S'.tok _) (.s .int)
set_option tactic.hygienic true in
theorem B2k {q:Nat}{p1 p2 sp:Pos}{h:UInt8}{t:List UInt8}(hv:Ev G C₀ c A m own (eval value env) (.s (.bytes (h::t) n)))(hn:n≤100000):
  Ev G C₀ c A m own (eval (.Subscript value (.Slice none (some (.UnaryOp .USub (.Constant (.int (.ofNat 1)) q p1) p2)) none sp) pos) env) (.s (.bytes t n)):=by
 intro s Q E S k
 refine Subscript_ (hv s _ E S fun own' v s' S' R=> ?_)
 have R:=R.sI
 refine R.bytesE fun _ _ _ _=> ?_
 rename_i b tb hb hl
 have hsz:b.size=t.length+1:=by have:=congrArg List.length hb;simpa using this
 show wpAny _ _ (do
  let l ←valueOrNone (evalOpt none env)
  let u ←holding [l] (valueOrNone (evalOpt (some (.UnaryOp .USub (.Constant (.int (.ofNat 1)) q p1) p2)) env))
  let s ←holding [l,u] (valueOrNone (evalOpt none env))
  newFields "slice" [l,u,s]) _ _ s'
 refine a0A (a0I (a0A (a0R (m:=valueOrNone (evalOpt (some (.UnaryOp .USub (.Constant (.int (.ofNat 1)) q p1) p2)) env)) (A8l (q:=q) (p1:=p1) (p2:=p2) (env:=env) fun ti ki=> ?_))))
 refine a0A (a0R (a0I ?_))
 unfold newFields
 refine a2J ?_ (by size_fits)
 have hT:Shared.TypeIs {s' with heap:=s'.heap.push {cls:= .type "slice",data:= .fields #[.none,.int (-1) ti,.none]},toks:=ki} (.bytes b tb) "bytes" :=typeIs_bytes _ _ _
 refine A0b (value:=value) (slice:= .Slice none (some (.UnaryOp .USub (.Constant (.int (.ofNat 1)) q p1) p2)) none sp) (T:= "bytes") hT FB.slot_bytes_getitem.lookup
  (getItem_meets hT (by decide) FB.slot_bytes_getitem FB.entry_bytes_getitem (a2X _ _) (KBc.meets_slice2 b tb _ .none (.int (-1) ti)) ⟨Heap.IsSliceOf.new _ _ _ _,?_,fun t' kk=> ?_⟩) (.inr rfl)
 ·exact a0F (KBc.size_picked_le b _ _) (by rw [hsz];exact a0F hl (a0F hn (by decide)))
 ·refine k own' _ _ ⟨S'.F.push _,S'.N.grown fun _ _ e=>Heap.get?_push_of_some _ e,S'.gens,S'.os,S'.dr⟩ (.s (.bytes (A9f hb) ?_))
  exact a0F (Nat.le_succ _) hl
theorem B4l: ∀ {vs:List Value} {x:List Int},Reps G C₀ Z vs rs→B6R rs=some x→IntsAre vs x:=by
 induction rs with
 | nil=>exact fun R e=>R.nilE (x1 e .nil)
 | cons r rest ih=>exact fun R e=>x3 e fun i hi e=>x4 e fun ns hn=>R.consE fun v vs h R=>(h.ofInt hi).intE fun t=> .cons _ _ (ih R hn)
theorem B2m {l e:Expr}{i:Int}{ns:List Int}{whole:Sem Value}(ok:c.Ok G A)(hm:A0Y .In e=true)(hl:Ev G C₀ c A m own (eval l env) (.s (.int i)))(hr: ∀ own',Ev G C₀ c A m (own'++own) (eval e env) (.list rs))(hx:B6R rs=some ns):
  EvT G c A m own (isTrue (.Compare l [.In] [e] pos) env whole) (ns.any (· ==i)):=by
 intro s Q E S q
 refine wpAny_isTrue_Compare1 (hl s _ E S fun own' va s' S' R=>hr own' s' _ E S' fun own'' vb s'' S'' R'=> ?_) (xn hm)
 have R:=R.sI
 obtain⟨_,rfl⟩:=R.intI
 obtain⟨_,_,_,rfl,hz,R'⟩:=R'.listI
 exact in_list_ints ⟨_,S''.get ok hz,rfl,_,rfl⟩ (B4l R' hx) (a2C (q (own''++own') _ S''.asc))
@[elab_as_elim] theorem A9S {k:Const} {i:Int} {motive:Const→Prop} (h:B1b k=some i) (q:motive (.int i)):motive k:=by
 cases k with
 | int=>exact x1' h q
 | _=>exact x0 h
@[elab_as_elim] theorem kNE {e:Expr} {a:Nat} {motive:Expr→Prop} (h:kN e=some a) (q: ∀ k p,motive (.Constant (.int (.ofNat a)) k p)):motive e:=by
 cases e with
 | Constant k n p=>
  refine x3 h fun i hi h=>x2 h fun hp h=> ?_
  refine A9S hi ?_
  cases i with
  | ofNat m=>exact x1' (show some m=some a from h) (q n p)
  | negSucc m=>exact xf hp
 | _=>exact x0 h
@[elab_as_elim] theorem C2t {e:Expr} {motive:Expr→Prop} (h:C4x e=true) (q: ∀ k p p',motive (.UnaryOp .USub (.Constant (.int (.ofNat 1)) k p) p')):motive e:=by
 cases e with
 | UnaryOp op e p=>cases op with
  | USub=>exact kNE (a0D h) fun k p'=>q k p' p
  | _=>exact xf h
 | _=>exact xf h
theorem B7V {η:A0w}{v:Expr}{k:List UInt8→Nat→UInt8→List UInt8→SV}{w:V}{P:Prop}(h:sM1 r b η v k=some w)(q: ∀ x t n,n≤100000→r.E b η v=some (.s (.bytes (x::t) n))→w= .s (k (x::t) n x t)→P):P:=by
 refine x3 h fun p hp h=>x2 h fun hn h=> ?_
 obtain⟨l,n⟩:=p
 have hp:=A0i (A0J hp)
 cases l with
 | nil=>exact x0 h
 | cons x t=>exact q x t n (a0B hn) hp (a0E h).symm
theorem B9L {k:Int}{kk:Nat}{p:Pos}{o v:V}(h:C5E k o=some v)(ok:c.Ok G A)(hv:Ev G C₀ c A m own (eval value env) o):Ev G C₀ c A m own (eval (.Subscript value (.Constant (.int k) kk p) pos) env) v:=by
 cases o with
 | tup l=>exact x2 h fun hc h=>x5 hc fun c1 c2=>x3 h fun j hj h=>A9F ok hv (a0B c1) (a0B c2) hj h
 | list l=>exact x2 h fun hc h=>x5 hc fun c1 c2=>A4e ok hv (a0B c1) (a0B c2) h
 | _=>exact x0 h
theorem B1A (X:Snd G C₀ r){η:A0w}{v:Expr}{lo up st:Option Expr}{sp:Pos}{w:V}(h:C5r r b η v lo up st=some w)(ok:c.Ok G A)(room:Room A b)(hg:EnvG env)(hn:NamesOk G C₀ c A m own env η):Ev G C₀ c A m own (eval (.Subscript v (.Slice lo up st sp) pos) env) w:=by
 cases st with
 | some=>cases lo<;>cases up<;>exact x0 h
 | none=>cases lo with
  | none=>cases up with
   | none=>exact x0 h
   | some up=>exact x2 h fun hm h=>B7V h fun x t n hn' hx e=>e▸C2t hm fun k p p'=>B2k (X.E hx ok room hg hn) hn'
  | some lo=>cases up with
   | none=>exact x3 h fun a ha h=>x3 h fun l hl h=>x2 h fun hc h=>x6 hc fun c1 c2 c3=>x1 h (kNE ha fun k p=>A8k ok (X.E (A7D hl) ok room hg hn) (a0B c1) (a0B c2) (a0B c3))
   | some up=>exact x3 h fun a ha h=>x3 h fun k hk h=>x3 h fun p hp h=>x2 h fun hc h=>x6 hc fun c1 c2 c3=>x1 h (kNE ha fun q1 p1=>kNE hk fun q2 p2=>A7b ok (X.E (A0i (A0J hp)) ok room hg hn) (a0B c1) (a0B c2) (a0B c3))
theorem A6z {o:Option V}{q:Bool×List V}(h:o.bind B5I=some q):o=some (if q.1 then .tup q.2 else .list q.2):=x3 h fun a e h=>by
 cases a with
 | tup l=>exact e.trans (congrArg some (x1 (motive:=fun q=>V.tup l=if q.1 then .tup q.2 else .list q.2) h rfl))
 | list l=>exact e.trans (congrArg some (x1 (motive:=fun q=>V.list l=if q.1 then .tup q.2 else .list q.2) h rfl))
 | _=>exact x0 h
@[elab_as_elim] theorem B3r {g:Comprehension} {p:Str×Expr×List Expr} {motive:Comprehension→Prop} (h:B3s g=some p) (q: ∀ px,motive ⟨.Name p.1 px,p.2.1,p.2.2,0⟩):motive g:=by
 obtain⟨t,i,l,k⟩:=g
 cases t with
 | Name x px=>cases k with
  | ofNat k=>cases k with
   | zero=>cases h;exact q px
   | succ k=>exact x0 h
  | negSucc=>exact x0 h
 | _=>exact x0 h
theorem A8W (X:Snd G C₀ r){η:A0w}{e:Expr}{v:V}(h:C1p G.K r b η e=some v)(ok:c.Ok G A)(room:Room A b)(hg:EnvG env)(hn:NamesOk G C₀ c A m own env η):Ev G C₀ c A m own (eval e env) v:=by
 cases e with
 | Name=>exact hn _ _ _ [] h
 | Constant=>exact B4V h
 | «Attribute» =>exact x2 h fun hs h=>x3 h fun o ho h=>A8q hs (X.E ho ok room hg hn) fun own' w R=>X.A h ok room R
 | Call f args kws pos=>
  refine x2 h fun hk h=>A0O hk ?_
  cases f with
  | «Attribute» =>exact x2 h fun hc h=>x7 hc fun h1 h2 h3 h4=>x3 h fun ov ho h=>x3 h fun rs ha h=>X.M h ok room h1 h2 h3 (a0B h4) (A3g ha) (X.E ho ok room hg hn) fun own'=>A0u X ok room hg ha (hn.more own')
  | Name=>exact x2 h fun hc h=>x3 h fun fv hf h=>x3 h fun rs ha h=>x2 h fun hk h=>(A0z ok hc hk (hn _ _ _ [] (A9b hf)) (fun own'=>A0u X ok room hg ha (hn.more own')) fun own' vs R=>X.C h ok room R).evF
  | _=>exact x0 h
 | Subscript v sl p=>
  cases sl with
  | Constant=>exact x3 h fun k hk h=>x3 h fun o ho h=>A9S hk (B9L h ok (X.E ho ok room hg hn))
  | Slice=>exact B1A X h ok room hg hn
  | UnaryOp=>exact x2 h fun hm h=>B7V h fun x t n hn' hx e=>e▸C2t hm fun k p p'=>A9E (X.E hx ok room hg hn) hn'
  | _=>exact x0 h
 | BinOp=>exact x3 h fun p hp h=>x4 h fun z hz=>A6j hp fun hx hy=>B4H (X.E hx ok room hg hn) (fun own'=>X.E hy ok room hg (hn.more own')) hz
 | Compare=>exact x3 h fun op h1 h=>x3 h fun e h2 h=>x2 h fun hm h=>x3 h fun p hp h=>x4 h fun z hz=>A1b h1 (A1b h2 (A6j hp fun hx hy=>B2l hm (X.E hx ok room hg hn) (fun own'=>X.E hy ok room hg (hn.more own')) hz))
 | ListComp elt gens scope pos=>
  refine x3 h fun g h1 h=>x3 h fun p h2 h=>x2 h fun hc h=>x3 h fun q hq h=>x2 h fun hl h=>x4 h fun ys hy=>x6 hc fun c1 c2 c3=>A1b h1 (B3r h2 fun px=> ?_)
  have hs:=A1T c2
  exact A0O c1 (A5j (tup:=q.1) ok (hs.toC _) c3 (a0B hl) (X.E (A6z hq) ok room hg hn) fun own'=>A3F X ok room hg hs hy)
 | List=>exact x2 h fun hl h=>x4 h fun rs hr=>C0f (a0B hl) (A3g hr) (A0u X ok room hg hr hn)
 | IfExp t x y=>exact x3 h fun t ht h=>A7g (X.T ht ok room hg hn) fun own'=>by cases t<;>exact X.E h ok room hg (hn.more own')
 | _=>exact x0 h
set_option tactic.hygienic true in
theorem B7l {e:Expr}(hp:A2D e=true)(h:Ev G C₀ c A m own (eval e env) (.s .none)):EvT G c A m own (isTrue e env (eval e env)) false:=by
 intro s Q E S q
 have he:isTrue e env (eval e env)=(do let v ←eval e env;standAt e.pos;holding [v] (truthy v)):=by
  cases e with
  | UnaryOp op x p=>cases op<;>first| rfl| exact Bool.noConfusion hp
  | BoolOp=>exact Bool.noConfusion hp
  | IfExp=>exact Bool.noConfusion hp
  | Compare=>exact Bool.noConfusion hp
  | _=>rfl
 refine isTrue_plain (h s _ E S fun own' v s' S' R=> ?_) he
 cases R
 rename_i hb
 refine hb.noneE ?_
 exact truthy_none (q own' s' S')
theorem A9L (X:Snd G C₀ r){η:A0w}{whole:Sem Value}(ok:c.Ok G A)(room:Room A b)(hg:EnvG env): ∀ {t:Bool},C0m r b η es=some t→ ∀ {own},NamesOk G C₀ c A m own env η→
  EvT G c A m own (isTrue (.BoolOp .And es pos) env whole) t:=by
 induction es with
 | nil=>exact fun e Ω Ω=>x1 e A5l
 | cons x es ih=>cases es with
  | nil=>exact fun e Ω hn=>A9G (X.T e ok room hg hn) (fun hx own'=>by rw [hx];exact A5l) id
  | cons y es=>
   refine fun e Ω hn=>x3 e fun x' h1 e=>xm e (fun y' h2 e=>x1 e (A9G (X.T h1 ok room hg hn) (fun hx own'=> ?_) fun hx=>by rw [hx];rfl)) fun Ω e=>xb e (fun Ω e=>x0 e) fun hx e=>x1 e (A9G (X.T h1 ok room hg hn) (fun hx'=>by rw [hx] at hx';exact xf hx') fun Ω=>rfl)
   rw [hx,Bool.true_and]
   exact ih h2 (hn.more own')
theorem B2t (X:Snd G C₀ r){η:A0w}{whole:Sem Value}(ok:c.Ok G A)(room:Room A b)(hg:EnvG env): ∀ {t:Bool},C4M r b η es=some t→ ∀ {own},NamesOk G C₀ c A m own env η→
  EvT G c A m own (isTrue (.BoolOp .Or es pos) env whole) t:=by
 induction es with
 | nil=>exact fun e Ω Ω=>x1 e evT_or_nil
 | cons x es ih=>cases es with
  | nil=>exact fun e Ω hn=>A2j (X.T e ok room hg hn) (fun hx own'=>by rw [hx];exact evT_or_nil) id
  | cons y es=>
   refine fun e Ω hn=>x3 e fun x' h1 e=>x4 e fun y' h2=>A2j (X.T h1 ok room hg hn) (fun hx own'=> ?_) fun hx=>by rw [hx];rfl
   rw [hx,Bool.false_or]
   exact ih h2 (hn.more own')
theorem B1n {e:Expr}{v:V}(h:A6p v=some t)(hp:A2D e=true)(hv:Ev G C₀ c A m own (eval e env) v):EvT G c A m own (isTrue e env (eval e env)) t:=by
 cases v with
 | s x=>cases x with
  | bool=>exact x1 h (B0Y hp hv)
  | none=>exact x1 h (B7l hp hv)
  | _=>exact x0 h
 | _=>exact x0 h
theorem A8T (X:Snd G C₀ r){η:A0w}{e:Expr}(h:C1m r b η e=some t)(ok:c.Ok G A)(room:Room A b)(hg:EnvG env)(hn:NamesOk G C₀ c A m own env η):EvT G c A m own (isTrue e env (eval e env)) t:=by
 have pl: ∀ {e:Expr} {t:Bool},A2D e=true→(r.E b η e).bind A6p=some t→EvT G c A m own (isTrue e env (eval e env)) t:=fun hp h=>x3 h fun v hv h=>B1n h hp (X.E hv ok room hg hn)
 cases e with
 | UnaryOp op=>cases op with
  | Not=>exact x4 h fun z hz=>C0h (X.T hz ok room hg hn)
  | _=>exact pl rfl h
 | BoolOp op=>cases op with
  | And=>exact A9L X ok room hg h hn
  | Or=>exact B2t X ok room hg h hn
 | Compare=>
  refine x3 h fun op h1 h=>x3 h fun e h2 h=>x2 h fun hm h=>A1b h1 (A1b h2 ?_)
  refine xo h (fun h=>x3 h fun p hp h=>A6j hp fun hx hy=>A3f hm (X.E hx ok room hg hn) (fun own'=>X.E hy ok room hg (hn.more own')) h) fun h=>x3 h fun i hi h=>x3 h fun rs hr h=>x2 h fun ho h=>x4 h fun ns hns=> ?_
  cases op with
  | In=>exact B2m ok hm (X.E (A0i (A2B hi)) ok room hg hn) (fun own'=>X.E (A5V hr) ok room hg (hn.more own')) hns
  | _=>exact xf ho
 | IfExp=>exact x2 h fun hp h=>pl hp h
 | _=>exact x2 h fun hp h=>pl hp h
end
section
variable {r:Evs}
theorem A4W {κ α:Type}[BEq κ][LawfulBEq κ]{x:κ}{v:α}{l:List (κ×α)}:l.lookup x=some v→(x,v)∈l:=by
 induction l with
 | nil=>exact fun h=>x0 h
 | cons p l ih=>
  intro h
  rw [a0M] at h
  cases e:x==p.1 with
  | true=>
   rw [e] at h
   rw [a0D e]
   exact x1 h (.head _)
  | false=>
   rw [e] at h
   exact a0P _ (ih h)
theorem A1w {α:Type}{v:α}{l:List (Str×α)}(h:l.lookup x=some v):(x,v)∈l:=A4W h
theorem A9o {α:Type}{x:Addr}{v:α}{l:List (Addr×α)}(h:l.lookup x=some v):(x,v)∈l:=A4W h
theorem B4r {name:Str}{e:DictEntry}{es:List DictEntry}(hr:e.refKey=false):getL name (e::es)=if e.key.isStr name then some (some e.val) else getL name es:=by
 delta getL
 rw [List.find?_cons,List.any_cons,hr]
 cases h:e.key.isStr name with
 | true=>rfl
 | false=>rfl
theorem B7y {y:Str}:(x==y)=(y==x):=by
 cases e:y==x with
 | true=>rw [a0D e];exact a2B x
 | false=>exact a1L.mpr fun q=>by rw [q,a2B] at e;cases e
theorem A6V {name:Str}: ∀ {fs:List (Str×V)} {es:List DictEntry},Flds G C₀ Z es fs→match fs.lookup name with
  | some r=> ∃ v,getL name es=some (some v)∧Rep G C₀ Z v r
  | none=>getL name es=some none:=by
 intro fs
 induction fs with
 | nil=>intro es h;rw [h.nilI];rfl
 | cons p fs ih=>
  intro es h
  obtain⟨hs,t,v,es,rfl,hv,hf⟩:=h.consI
  have ih:=ih hf
  have hk:(Value.str p.1 t).isStr name=(name==p.1):=B7y
  rw [B4r (e:=⟨hs,.str p.1 t,v⟩) rfl,a0M,hk]
  cases e:name==p.1 with
  | true=>exact⟨v,rfl,hv⟩
  | false=>exact ih
theorem A2I {name:Str}{es:List DictEntry}{fs:List (Str×V)}(h:Flds G C₀ Z es fs)(e:(fs.lookup name).isNone=true):getL name es=some none:=by
 have:=A6V (name:=name) h
 rw [Option.isNone_iff_eq_none.mp e] at this
 exact this
theorem Rep.handed {r:V}(h:Rep G C₀ Z v r)(e:B4q r=true):handedIn v=true:=by
 cases r with
 | s r=>exact h.sI.handed
 | k w=>exact h.kE e
 | tup=>exact h.tupE fun Ω Ω Ω Ω Ω=>rfl
 | list=>exact h.listE fun Ω Ω Ω Ω Ω=>rfl
 | inst=>exact h.instE fun Ω Ω Ω Ω Ω Ω Ω=>rfl
 | abs=>exact h.absE fun Ω Ω=>rfl
@[elab_as_elim] theorem B0N {l:List Value} {motive:List Value→Prop} (h:A9w l=some f) (q: ∀ rest,motive (.ref f::rest)):motive l:=by
 cases l with
 | nil=>exact x0 h
 | cons v l=>cases v with
  | ref=>exact x1' h (q l)
  | _=>exact x0 h
theorem A4P {K:Frag}{a:Value}{fget:Addr}(h:B3z K a=some fget): ∃ q rest,a= .ref q∧specialIn K (.ref q) "__get__" =some (some (.builtin "property.__get__"))∧takesIn K (.ref q)=some true∧recIn K q "property" =some (.ref fget::rest):=by
 cases a with
 | ref q=>exact x2 h fun hc h=>x5 hc fun c1 c2=>x3 h fun l hl h=>B0N (motive:=fun l=>recIn K q "property" =some l→_) h (fun rest hl=>⟨q,rest,rfl,a0D c1,a0D c2,hl⟩) hl
 | _=>exact x0 h
theorem A3j (X:Snd G C₀ r){v:V}(h:(r.F b f rs).bind B0o=some v)(R:Reps G C₀ Z vs rs):Calls G C₀ b Z f ⟨vs,[]⟩ (fun H w=>Rep G C₀ H w v) False:=
 x3 h fun res h1 h2=>(X.F h1 R).mono (a0K _) Held.le.rfl (fun H w p=>(A7F h2).2 p) fun q=>xf ((A7F (G:=G) (C₀:=C₀) (Z:=Z) (w:= .none) h2).1.symm.trans q)
theorem A8Y (X:Snd G C₀ r){o:V}{a:Str}{v:V}(h:C1r G.K r b o a=some v){x:Value}(ok:c.Ok G A)(room:Room A b)(R:Rep G C₀ (vis c own) x o):Ev G C₀ c A m own (getAttr x a true) v:=by
 cases o with
 | inst C fs=>
  refine x2 h fun hp h=>x3 h fun o hfi h1=> ?_
  obtain⟨x,dx,es,k,rfl,z1,z2,hf⟩:=R.inst_at
  refine xm h1 (fun w hw h2=> ?_) fun hw h=>x3 h fun w hl h=>x2 h fun hh h=>x1 h ?_
  ·subst hw
   refine xm h2 (fun fget hpr h3=> ?_) fun Ω h=>x2 h fun hc h=>x7 hc fun c1 c2 c3 c4=>x1 h (B2i ok z1 z2 hp hfi (a0D c1) c2 (xn c3) (A2I hf c4) A2S)
   obtain⟨q,rest,rfl,q1,q2,q3⟩:=A4P hpr
   exact xp h3 fun b' e h=>x3 h fun w hF h=>x2 h fun hh h=>x1 h (A5i ok (e▸room) z1 z2 hp hfi q1 q2 q3 (A3j X hF (.cons R .nil)) Held.le.rfl fun own' w p=>⟨p.handed hh,p⟩)
  ·subst hw
   have:=A6V (name:=a) hf
   rw [hl] at this
   obtain⟨w,hw,Rw⟩:=this
   exact A6h ok z1 z2 hp hfi rfl hw (Rw.handed hh) Rw
 | abs d'=>
  obtain⟨x,C,dx,es,k,rfl,z1,z2,K⟩:=R.inst_inv
  refine xm h (fun w hl h=>x2 h fun hb h=>x1 h ?_) fun Ω h=>x4 h fun w hl=> ?_
  ·obtain⟨q,fget,rest,q1,q2,q3,q4,hc⟩:=K.props _ (A1w hl)
   exact A5i ok (room.less (a0B hb)) z1 z2 K.plain q1 q2 q3 q4 hc Held.le.rfl fun own' w p=>⟨p.handed,.s p⟩
  ·obtain⟨q1,w,q2,q3⟩:=K.own _ (A1w hl)
   exact A6h ok z1 z2 K.plain q1 rfl q2 q3.handed (.s q3)
 | k y=>cases y with
  | ref C=>exact x2 h fun ha h=>x4 h fun nm hnm=>R.kE (by
    have ha:=a0D ha
    subst ha
    exact fun s Q E S q=>B5V (S.X ok) hnm fun t k=>q [] _ _ (S.tok _) (.s (.str (a0K _))))
  | _=>exact x0 h
 | _=>exact x0 h
end
section
open Builtin
theorem A5T:Slot "bytes" "join" "bytes.join" :=
 .of (owner:= "bytes") (n:= "join") (by rw [typeLookup_type,builtinLookup_eq_fast];kernel_rfl) (by decide+kernel) (by decide+kernel) (by decide+kernel)
  (by first| exact .inl (by decide+kernel)| exact .inr (by decide+kernel)) (by rw [isSubtype_type];kernel_rfl)
theorem B1k:typeOf (.builtin "bytes.join")=pure (.type "method_descriptor"):=by show builtinType _=_;rw [builtinType_eq_fast];kernel_rfl
theorem A9M:entryFor table "bytes.join" =some Builtin.«bytes.join» :=entryFor_of_tree (by kernel_rfl)
theorem B2D (a b:Value):argsOk "bytes.join" ⟨[a,b],[]⟩:=by unfold argsOk;kernel_rfl
theorem B8G {id:String}{b:Array UInt8}{t:Tok}:Bytes.takeBufferQuiet? id (.bytes b t) 0=pure (some (b,none)):=by
 unfold Bytes.takeBufferQuiet? Bytes.takeBuffer?
 rw [show ((0:Int)==Bytes.fullReadOnly)=false from by decide,KBy.special_eq KBy.look_buffer,KBy.own_buffer,KBy.buffer_eq]
 rfl
inductive BytesAre:List Value→List (Array UInt8)→Prop
 | nil:BytesAre [] []
 | cons {vs bs} (b:Array UInt8) (t:Tok):BytesAre vs bs→BytesAre (.bytes b t::vs) (b::bs)
theorem BytesAre.length {bs:List (Array UInt8)}(h:BytesAre vs bs):vs.length=bs.length:=by
 induction h with
 | nil=>rfl
 | cons b t _ ih=>exact congrArg (· +1) ih
theorem BytesAre.get {bs:List (Array UInt8)}(h:BytesAre vs bs): ∀ i (hi:i<bs.length),∃ t,vs[i]?=some (.bytes bs[i] t):=by
 induction h with
 | nil=>intro i hi;cases hi
 | cons b t _ ih=>
  intro i hi
  cases i with
  | zero=>exact⟨t,rfl⟩
  | succ i=>obtain⟨t',e⟩:=ih i (by simpa using hi);exact⟨t',by simpa using e⟩
theorem B3R {M:Model}{Q:Unit→Shared→Prop}(keep:List Value)(h:Q () s)(l:List Value):wpAny M A (letGo l keep) Q E s:=by
 induction l with
 | nil=>exact a0I h
 | cons x l ih=>exact a0A (a0R (wpAny_point ih))
def A2f (l:List (Value×Option Value)):Prop:= ∀ p∈l,p.2=none∧p.1.onHeap=false
theorem A6P {M:Model}{Q:Unit→Shared→Prop}(keep:List Value)(h:Q () s)(l:List (Value×Option Value))(hp:A2f l):wpAny M A (Bytes.joinLetGo l keep) Q E s:=by
 induction l with
 | nil=>exact a0I h
 | cons y l ih=>
  obtain⟨x,w⟩:=y
  obtain rfl:w=none:=(hp _ (.head _)).1
  show wpAny _ _ (letGo _ _>>=fun Ω=>Bytes.joinLetGo l keep) _ _ _
  exact a0A (B3R _ (ih fun p q=>hp p (.tail _ q)) _)
theorem A7Y (l:List (Array UInt8)):Bytes.joined #[] l=l.foldl (· ++ ·) #[]:=by
 unfold Bytes.joined
 have: ∀ (l:List (Array UInt8)) (k:Nat) (acc:Array UInt8),(l.zipIdx k).foldl (fun out (x:Array UInt8×Nat)=>(if x.2>0 then out++ #[] else out)++x.1) acc=l.foldl (· ++ ·) acc:=by
  intro l
  induction l with
  | nil=>intro k acc;rfl
  | cons x l ih=>
   intro k acc
   rw [List.zipIdx_cons,List.foldl_cons,List.foldl_cons,ih]
   congr 2
   simp
 exact this l 0 #[]
theorem B2X (l:List (Array UInt8)): ∀ k:Nat,l.foldl (fun x y=>x+y.size) k=k+ (l.map (·.size)).sum:=by
 induction l with
 | nil=>intro k;rfl
 | cons x l ih=>intro k;rw [List.foldl_cons,ih,a0V,a2L,Nat.add_assoc]
theorem B4d {w:World}{a:Addr}{bs:List (Array UInt8)}(hb:BytesAre vs bs)
  (items: ∀ {Q:Option (Array Value)→Shared→Prop} {E:Value→Shared→Prop},Q (some vs.toArray) s→wpAny (model prog w) A (seqItems? (.ref a)) Q E s)
  (f:Nat→(Array (Array UInt8)×List (Value×Option Value))→Sem (ForInStep (Array (Array UInt8)×List (Value×Option Value))))
  (hf: ∀ i st b t (Q':ForInStep (Array (Array UInt8)×List (Value×Option Value))→Shared→Prop) E,vs[i]?=some (.bytes b t)→A2f st.2→Q' (ForInStep.yield (st.1.push b,st.2++ [(.bytes b t,none)])) s→wpAny (model prog w) A (f i st) Q' E s)
  (Q:(Array (Array UInt8)×List (Value×Option Value))→Shared→Prop) (E:Value→Shared→Prop) (hk: ∀ tk,A2f tk→Q (bs.toArray,tk) s):wpAny (model prog w) A (forIn [:vs.toArray.size] (#[],[]) f) Q E s:=by
 rw [Std.Legacy.Range.forIn_eq_forIn_range']
 have hl:=hb.length
 refine wpAny_forIn_list f (fun l st s'=>s'=s∧A2f st.2∧ ∃ i,i≤bs.length∧l=List.range' i (bs.length - i)∧st.1=(bs.take i).toArray) Q ?_ ?_ _ _ ?_
 ·rintro x rest st s' ⟨rfl,ht,i,hi,hl',he⟩
  obtain⟨p,tk⟩:=st
  dsimp only at ht he
  subst he
  have hlt:i<bs.length:=by
   refine Nat.lt_of_not_le fun q=> ?_
   have:bs.length - i=0:=by lia
   rw [this] at hl'
   cases hl'
  have:bs.length - i=(bs.length - (i+1))+1:=by lia
  rw [this,List.range'_succ] at hl'
  obtain⟨rfl,rfl⟩:=List.cons.inj hl'
  obtain⟨t,hx⟩:=hb.get x hlt
  refine hf x _ _ t _ _ hx ht ⟨rfl,?_,x+1,hlt,rfl,?_⟩
  ·intro q hq
   rcases a1O.mp hq with hq| hq
   ·exact ht q hq
   ·rw [a0L.mp hq];exact⟨rfl,rfl⟩
  ·rw [List.take_succ_eq_append_getElem hlt];exact List.push_toArray ..
 ·rintro st s' ⟨rfl,ht,i,hi,hl',he⟩
  obtain⟨p,tk⟩:=st
  dsimp only at ht he
  subst he
  have:bs.length - i=0:=by
   cases e:bs.length - i with
   | zero=>rfl
   | succ k=>rw [e,List.range'_succ] at hl';cases hl'
  rw [a2G (by lia)]
  exact hk tk ht
 ·refine⟨rfl,fun Ω h=>(nomatch h),0,a2K _,?_,rfl⟩
  rw [show Std.Legacy.Range.size [:vs.toArray.size]=bs.length from by simp [Std.Legacy.Range.size,hl]];rfl
theorem B6N {α:Type}(va:Array Value)(h1:Value→α)(h2:Array Value→α)(hn:va.size≠1):Bytes.joinM.match_1 (fun Ω=>α) va h1 h2=h2 va:=by
 unfold Bytes.joinM.match_1
 exact dif_neg hn
theorem B6M {α:Type}{P:α→Prop}(va:Array Value)(h1:Value→α)(h2:Array Value→α)(p1: ∀ x,va= #[x]→P (h1 x))(p2:P (h2 va)):P (Bytes.joinM.match_1 (fun Ω=>α) va h1 h2):=by
 by_cases h:va.size=1
 ·obtain⟨l⟩:=va
  cases l with
  | nil=>exact absurd h (by decide)
  | cons x l=>cases l with
   | nil=>exact p1 x rfl
   | cons y l=>exact absurd (Nat.succ.inj h) (Nat.succ_ne_zero _)
 ·rw [B6N _ _ _ h];exact p2
theorem B4w {bs:List (Array UInt8)}(hsz:(bs.map (·.size)).sum≤16777216): ¬ (bs.foldl (· ++ ·) (#[]:Array UInt8)).size>sizeLine:=by
 have: ∀ (l:List (Array UInt8)) (acc:Array UInt8),(l.foldl (· ++ ·) acc).size=acc.size+ (l.map (·.size)).sum:=fun l=>by
  induction l with
  | nil=>intro acc;rfl
  | cons x l ih=>intro acc;rw [List.foldl_cons,ih,Array.size_append,a0V,a2L,Nat.add_assoc]
 rw [this,a1I,Array.size_empty,Nat.zero_add]
 exact Nat.not_lt.mpr hsz
theorem B1T {a:Addr}{bs:List (Array UInt8)}{t:Tok}(hb:BytesAre vs bs):
  Meets («bytes.join» ⟨[.bytes #[] t,.ref a],[]⟩) (fun Ω R s=>s.heap.IsList a vs.toArray∧(bs.map (·.size)).sum≤16777216∧ ∀ t' k,R (.ok (.ret (.bytes (bs.foldl (· ++ ·) #[]) t'))) {s with toks:=k}):=by
 refine .of_wp fun prog w A R s hS=> ?_
 obtain⟨hl,hsz,h⟩:=hS
 obtain⟨ol,ho,hc,nn,hd⟩:=id hl
 have items: ∀ {Q:Option (Array Value)→Shared→Prop} {E:Value→Shared→Prop},Q (some vs.toArray) s→wpAny (model prog w) A.in1 (seqItems? (.ref a)) Q E s:=fun q=>wpAny_seqItems ho hd q
 have tail: ∀ (tk:List (Value×Option Value)),A2f tk→wpAny (model prog w) A.in1 (do
   let result ←Bytes.Kind.bytes.new (Bytes.joined #[] bs)
   holding (result::tk.flatMap fun (y,u)=>y::u.toList) point
   Bytes.joinLetGo tk [result]
   ret result) (fun fin s'=> ∃ v,fin=Fin.done (Flow.ret v)∧R (Except.ok (Flow.ret v)) s') (fun e s'=>R (Except.error e) s') s:=fun tk htk=>by
  rw [A7Y]
  exact a0A (m:=Bytes.Kind.bytes.new _) (show wpAny _ _ (mkBytes _) _ _ _ from a1P (a1F (B4w hsz)) (a0A (wpAny_fresh (a0I
   (a0A (a0R (wpAny_point (a0A (A6P _ (a0I ⟨_,rfl,h _ _⟩) tk htk)))))))))
 refine a0A (m:=selfAndOne _ _) (a0U (a:=(.bytes #[] t,.ref a)) (by rfl) ?_)
 refine wpAny_ite_true rfl (a0A (m:=Bytes.joinItems _) (a0A (wpAny_typeOf hl.typeIs (wpAny_ite_true rfl (a0I (a0A (items (wpAny_ite_true rfl ?_))))))))
 refine B6M (P:=fun x=>wpAny (model prog w) A.in1 x _ _ s) vs.toArray _ _ (fun x hx=> ?_) ?_
 ·have hx:vs= [x]:=congrArg Array.toList hx
  subst hx
  cases hb with
  | cons b tb hb=>
   cases hb
   have q:=h tb s.toks
   rw [List.foldl_cons,List.foldl_nil,Array.empty_append] at q
   exact a0A (m:=typeOf _) (a0U (a:= .type "bytes") rfl (wpAny_ite_true rfl (a0A (wpAny_rule (a0I ⟨_,rfl,q⟩)))))
 ·refine a0A (B4d hb items _ (fun i st b tb Q' E hx ht q=> ?_) _ _ fun tk htk=> ?_)
  ·refine a0A (items (a1P (a1F fun e=>((Bool.or_eq_true _ _).mp e).elim (fun e=>absurd e (by decide)) fun e=>by
   obtain⟨x,hx,he⟩:=List.any_eq_true.mp e
   rw [(ht x hx).2] at he
   exact absurd he (by decide)) ?_))
   have hg:vs.toArray.getD i Value.none= .bytes b tb:=by rw [Array.getD_eq_getD_getElem?,List.getElem?_toArray,hx];rfl
   rw [hg]
   exact a0A (a0R (a0U B8G (a0A (items (a1P (a1F (by rw [a1V];exact a2W)) (a0I q))))))
  ·refine a0A (m:=Bytes.payload _) (a0U (a:= #[]) rfl (a1P (a1F ?_) (tail tk htk)))
   rw [←Array.foldl_toList,B2X,Bool.not_eq_true]
   exact KBy.tooLong_not (by rw [Array.size_empty,Nat.zero_mul,Nat.zero_add];exact hsz)
section
variable {w:World}
theorem B2A {a:Addr}{bs:List (Array UInt8)}{t:Tok}(hb:BytesAre vs bs)(hl:s.heap.IsList a vs.toArray)(hsz:(bs.map (·.size)).sum≤16777216)(h: ∀ t' k,Q (.bytes (bs.foldl (· ++ ·) #[]) t') {s with toks:=k}):
  wpAny (model prog w) A (call (.builtin "bytes.join") [.bytes #[] t,.ref a]) Q E s:=
 call_meets A5T (typeIs_bytes _ _ _) A9M (B2D _ _) (B1T hb) ⟨hl,hsz,fun t' k=>h t' k⟩
theorem A8F {M:Model}{b:Array UInt8}{t:Tok}{pl:Sem Bool}{Q:Value×List Value→Shared→Prop}(h:Q (.builtin "bytes.join",[.bytes b t]) s):wpAny M A (getMethod (.bytes b t) "join" pl) Q E s:=by
 with_reducible exact KBd.method_of (.bytes b t) (typeIs_bytes _ _ _) A5T B1k KBd.noRef h
end
end
section
variable {r:Evs}
theorem B2z: ∀ {vs:List Value} {x:List UInt8×Nat},Reps G C₀ Z vs rs→A5t rs=some x→ ∃ bs,BytesAre vs bs∧(bs.map (·.size)).sum≤x.2∧(bs.map (·.toList)).flatten=x.1.reverse∧x.1.length=(bs.map (·.size)).sum:=by
 induction rs with
 | nil=>exact fun R e=>R.nilE (x1 e ⟨[],.nil,a0K _,rfl,rfl⟩)
 | cons r rest ih=>
  refine fun R e=>x3 e fun q hq e=>x4 e fun p hp=>R.consE fun v vs h R=>(h.ofBytes hq).bytesE fun b t hb hn=> ?_
  obtain⟨bs,h1,h2,h3,h4⟩:=ih R hp
  have hz:b.size=q.1.length:=(congrArg List.length hb).trans (a0O ..)
  exact⟨b::bs,.cons b t h1,Nat.add_le_add (a0F (Nat.le_of_eq hz) hn) h2,by rw [a0V,List.flatten_cons,h3,hb,a2I],by rw [a0V,a2L,a1K,h4,hz,Nat.add_comm]⟩
theorem A9y (bs:List (Array UInt8)): ∀ (acc:Array UInt8),(bs.foldl (· ++ ·) acc).toList=acc.toList++ (bs.map (·.toList)).flatten:=by
 induction bs with
 | nil=>exact fun acc=>(a1H _).symm
 | cons b bs ih=>exact fun acc=>by rw [List.foldl_cons,ih,Array.toList_append,a0C];rfl
theorem B4L {t:Tok}{p:List UInt8×Nat}(ok:c.Ok G A)(hp:A5t rs=some p)(hb:p.2≤16777216)(R:Rep G C₀ (vis c own) v (.list rs)):
  EvR G C₀ c A m own False (call (.builtin "bytes.join") [.bytes #[] t,v]) (fun Ω v=>SRep v (.bytes p.1 p.2)):=by
 intro s Q E S q e
 refine R.listE fun Ω Ω Ω hz R=> ?_
 obtain⟨bs,h1,h2,h3,h4⟩:=B2z R hp
 refine B2A h1 ⟨_,S.get ok hz,rfl,_,rfl⟩ (by lia) fun t' k=>q [] _ _ (S.tok _) (.bytes ?_ (by lia))
 rw [A9y,h3];rfl
theorem A5n {o:Expr}{name:Str}{id:String}{apos:Pos}{x:List UInt8}{k:Nat}{P:Held→Value→Prop}(ok:c.Ok G A)(hso:A0v o=true)(hp:(apos.endLine==pos.line)=true)(hs:es.all A0g=true)(hl:es.length<30)
  (ho:Ev G C₀ c A m own (eval o env) (.s (.bytes x k)))
  (hg: ∀ (b:Array UInt8) (t:Tok) (s:Shared) (pl:Sem Bool) (Q:Value×List Value→Shared→Prop) (E:Value→Shared→Prop),Q (.builtin id,[.bytes b t]) s→wpAny G.M A (getMethod (.bytes b t) name pl) Q E s)
  (ha: ∀ own',EvL G C₀ c A m (own'++own) (spliced (backTo pos (starEach es env))) rs)
  (hc: ∀ own' b t vs,b.toList=x.reverse→b.size≤k→Reps G C₀ (vis c (own'++own)) vs rs→EvR G C₀ c A m (own'++own) False (call (.builtin id) (.bytes b t::vs)) P):
  EvR G C₀ c A m own False (eval (.Call (.Attribute o name apos) es [] pos) env) P:=
 A1G ok hso hp hs hl ho (fun v s pl Q E hv q=>by obtain⟨b,t,rfl,_⟩:=hv.bytesI;with_reducible exact hg b t s pl Q E q) ha fun own' v vs hv R=>by
  obtain⟨b,t,rfl,h1,h2⟩:=hv.bytesI
  exact hc own' b t vs h1 (a0F (Nat.le_of_eq ((congrArg List.length h1).trans (a0O ..))) h2) R
theorem B4K {t:Tok}(hx:x.length≤1000):EvR G C₀ c A m own False (call (.builtin "str.lower") [.str x t]) (fun Ω v=>SRep v (.str (Txt.lower x) (3*x.length))):=by
 intro s Q E S q e
 exact SCL.lower (by lia) fun h=>q [] _ _ (S.tok _) (.str h)
theorem EvR.mono {P P':Held→Value→Prop}{rs rs':Prop}{t:Sem Value}(h:EvR G C₀ c A m own rs t P)(hp: ∀ Z v,P Z v→P' Z v)(hr:rs→rs'):EvR G C₀ c A m own rs' t P':=
 fun s Q E S q e=>h s Q E S (fun own' v s' S' p=>q own' v s' S' (hp _ _ p)) fun x=>e (hr x)
@[elab_as_elim] theorem C2J {o:Option (Option Value)} {motive:Option (Option Value)→Prop} (h:C4J o=some f) (q:motive (some (some (.ref f)))):motive o:=by
 cases o with
 | none=>exact x0 h
 | some o=>cases o with
  | none=>exact x0 h
  | some v=>cases v with
   | ref=>exact x1' h q
   | _=>exact x0 h
theorem A1F {K:Frag}{nm:Str}(h:A4b K C nm=some f):findIn K (.ref C) nm=some (some (.ref f)):=C2J h rfl
theorem A2Z (X:Snd G C₀ r){o:V}{nm:Str}{v:V}(h:C1n G.K r b o nm rs=some v){oe:Expr}{apos:Pos}{args:List Expr}(ok:c.Ok G A)(room:Room A b)(hs:A0v oe=true)(hp:(apos.endLine==pos.line)=true)
  (hst:args.all A0g=true) (hl:args.length<30) (hlen:rs.length=args.length) (ho:Ev G C₀ c A m own (eval oe env) o) (ha: ∀ own',EvL G C₀ c A m (own'++own) (spliced (backTo pos (starEach args env))) rs):
  Ev G C₀ c A m own (eval (.Call (.Attribute oe nm apos) args [] pos) env) v:=by
 have nil:rs.isEmpty=true→args= []:=fun h=>List.length_eq_zero_iff.mp (hlen.symm.trans (A0O h rfl))
 cases o with
 | inst C fs=>
  refine x2 h fun hc h=>x5 hc fun h0 hpl=>x3 h fun f hf h=>x2 h fun hc h=>x6 hc fun c1 c2 c3=> ?_
  rw [nil h0]
  refine(A2s ok room hs hp ho fun own' w R=> ?_).evF
  obtain⟨x,dx,es,k,rfl,z1,z2,hfs⟩:=R.inst_at
  exact⟨x,C,dx,es,k,f,_,rfl,z1,z2,hpl,A1F hf,c1,c2,A2I hfs c3,A3j X h (.cons R .nil),Held.le.rfl⟩
 | abs d'=>
  refine x2 h fun hc h=>x5 hc fun h0 hb=>x4 h fun y hy=> ?_
  rw [nil h0]
  refine(A2s (n:=d'.n) (raises:=False) (P:=fun Ω w=>SRep w y) ok (room.less (a0B hb)) hs hp ho fun own' w R=> ?_).ev fun Ω Ω p=> .s p
  obtain⟨x,C,dx,es,k,rfl,z1,z2,K⟩:=R.inst_inv
  obtain⟨f,h1,h2,h3,h4,h5⟩:=K.meths _ (A1w hy)
  exact⟨x,C,dx,es,k,f,_,rfl,z1,z2,K.plain,h1,h2,h3,h4,h5,Held.le.rfl⟩
 | s x=>cases x with
  | str x k=>
   refine xb h (fun h1 h=>x2 h fun h2 h=>x3 h fun l hl' h=>x3 h fun p hpp h=>x2 h fun hb h=>x1 h ?_) fun Ω h=>x2 h fun hc h=>x6 hc fun h1 h0 h2=>x1 h ?_
   ·have h1:=a0D h1
    subst h1
    refine(A2r (id:= "str.join") (P:=fun Ω w=>SRep w (.str (Txt.join x p.1) (p.2+l.length*16))) ok hs hp hst hl ho (fun t s pl Q E q=>by with_reducible exact GM.join q) ha fun own' t vs R=> ?_).ev fun Ω Ω p=> .s p
    exact R.list1 hl' fun Ω Rv=>(B7n ok hpp (a0B h2) (a0B hb) Rv)
   ·have h1:=a0D h1
    subst h1
    refine(A2r (id:= "str.lower") (P:=fun Ω w=>SRep w (.str (Txt.lower x) (3*x.length))) ok hs hp hst hl ho (fun t s pl Q E q=>GM.lower q) ha fun own' t vs R=> ?_).ev fun Ω Ω p=> .s p
    exact(A0O (motive:=fun rs=>Reps G C₀ _ vs rs→Reps G C₀ _ vs []) h0 id R).nilE (B4K (a0B h2))
  | bytes x k=>
   refine x2 h fun hc h=>x5 hc fun h0 h1=>x3 h fun l hl' h=>x3 h fun p hpp h=>x2 h fun hb h=>x5 hb fun hb Ω=>x1 h ?_
   have h1:=a0D h1
   subst h1
   refine(A5n (id:= "bytes.join") (P:=fun Ω w=>SRep w (.bytes p.1 p.2)) ok hs hp hst hl ho (fun b t s pl Q E q=>A8F q) ha fun own' b t vs hbb hk R=> ?_).ev fun Ω Ω p=> .s p
   have:b= #[]:=Array.ext' (hbb.trans (A0O (motive:=fun x=>x.reverse= []) h0 rfl))
   subst this
   exact R.list1 hl' fun Ω Rv=>(B4L ok hpp (a0B hb) Rv)
  | _=>exact x0 h
 | _=>exact x0 h
end
noncomputable abbrev Fc.with (c:Fc)(l:List (Addr×Obj)):Fc:= {c with news:=l}
section
variable {r:Evs}
theorem Fc.Ok.with {l:List (Addr×Obj)}(ok:c.Ok G A)(h:c.H.le (A7v c.h₀ l)):(c.with l).Ok G A:=⟨ok.below,ok.frames,ok.frame,ok.kind,ok.free,ok.XB,ok.TB,h⟩
theorem St.drop {own':List (Addr×Obj)}(S:St c m (own'++own) s):St c m own s:=⟨S.F,fun p hp=>S.N p (by rw [a0C];exact a0G _ hp),S.gens,S.os,S.dr⟩
theorem Fc.Ok.under {id:String}{args:Args}(ok:c.Ok G A)(h:(Code.builtin id args).envs= []):c.Ok G (A.under (.builtin id args)):=by
 refine⟨ok.below,?_,ok.frame,ok.kind,ok.free,ok.XB,ok.TB,ok.le⟩
 show pushEnvs (Code.builtin id args).envs A.frames=_
 rw [h];exact ok.frames
theorem A7U {C:Value}{rest:List Value}{kw:List (Str×Value)}:(Code.builtin "type.__call__" ⟨C::rest,kw⟩).envs= []:=rfl
theorem A9l {rest:List Value}{kw:List (Str×Value)}:(Code.builtin "type.__call__" ⟨.ref C::rest,kw⟩).weight≤2∧(Code.builtin "type.__call__" ⟨.ref C::rest,kw⟩).cUnits≤4:=by
 refine⟨?_,?_⟩
 ·show (Code.builtin "type.__call__" ⟨.ref C::rest,kw⟩).weight≤2
  have h1:(Code.builtin "type.__call__" ⟨.ref C::rest,kw⟩).isGuard=false:=by show guardIds.contains "type.__call__" =false;decide+kernel
  have h2:(Code.builtin "type.__call__" ⟨.ref C::rest,kw⟩).isCaller=false:=rfl
  have h3:(Code.builtin "type.__call__" ⟨.ref C::rest,kw⟩).frames=0:=rfl
  have h4:(Code.builtin "type.__call__" ⟨.ref C::rest,kw⟩).isCreation=true:=rfl
  unfold Code.weight
  rw [h1,h2,h3,h4];decide
 ·have h3:(Code.builtin "type.__call__" ⟨.ref C::rest,kw⟩).frames=0:=rfl
  show 1+3* (Code.builtin "type.__call__" ⟨.ref C::rest,kw⟩).frames≤4
  rw [h3];decide
theorem Room.making {k l:Nat}{rest:List Value}{kw:List (Str×Value)}(h:Room A k)(e:l<k):Room (A.under (.builtin "type.__call__" ⟨.ref C::rest,kw⟩)) l:=by
 obtain⟨h1,h2⟩:=A9l (C:=C) (rest:=rest) (kw:=kw)
 refine⟨?_,?_⟩
 ·show A.depth+ (Code.builtin "type.__call__" ⟨.ref C::rest,kw⟩).weight+2*l<_
  have:=h.1;lia
 ·show A.units+ (Code.builtin "type.__call__" ⟨.ref C::rest,kw⟩).cUnits+20*l<_
  have:=h.2;lia
theorem A6R {x dx:Addr}{es:List DictEntry}{k:Nat}{rest:List (Addr×Obj)}{self attr:Str}{p1 p2:Pos}{P:Value→Prop}{Q:Flow→Shared→Prop}
  (ok:c.Ok G A) (he:c.env=d.env f c.L) (hH:c.H.le (A7v c.h₀ rest)) (hne: ∀ p∈rest,p.1≠dx) (hx:dx<x) (hc:A2A G.K C attr=true) (hself:m self=some (.ref x)) (hsk:d.scope.names.lookup self=some .local) (hsd:(self==("__debug__" :Str))=false)
  (hnew: ∀ e∈es,e.key.isStr attr=false) (href: ∀ e∈es,e.refKey=false) (hlen:es.length<900) (hnc:A2G value=true) (S:St (c.with ((x,instObj C dx)::(dx,dictOf es k)::rest)) m [] s)
  (hv: ∀ Q E,(∀ v s',P v→St (c.with ((x,instObj C dx)::(dx,dictOf es k)::rest)) m [] s'→Q v s')→wpAny G.M A (eval value c.env) Q E s)
  (q: ∀ v tk s',P v→St (c.with ((x,instObj C dx)::(dx,dictOf (es++ [⟨PyData.keyHash G.w.params attr,.str attr tk,v⟩]) (k+1))::rest)) m [] s'→Q .next s'):
  wpAny G.M A (exec (.Assign [.Attribute (.Name self p1) attr p2] value pos) c.env) Q E s:=by
 refine plainObj_wpAny_Assign_Attribute (hv _ _ fun v s' hp S'=> ?_) (A0l hnc)
 have hkind:=ok.kind
 have F:=S'.F
 have name:wpAny G.M A (eval (.Name self p1) c.env) (fun ov s₂=>wpAny G.M A (setAttr ov attr v) (fun Ω=>Q .next) E s₂) E s':=by
  rw [he] at hkind ⊢
  refine nameX_L F hself ?_ hkind hsk hsd
  simp only [A2A,a1B,beq_iff_eq] at hc
  obtain⟨⟨⟨c1,c2⟩,c3⟩,c4⟩:=hc
  have I:InstAt s'.heap x (instObj C dx) C (some (dictOf es k)):=⟨(S'.N _ (.head _)).1,rfl,rfl,(S'.N _ (.tail _ (.head _))).1⟩
  have e1:es.any (·.key.isStr attr)=false:=by
   cases q:es.any (·.key.isStr attr) with
   | false=>rfl
   | true=>obtain⟨e,h1,h2⟩:=List.any_eq_true.mp q;rw [hnew e h1] at h2;exact xf h2
  have e2:getL attr es=some none:=by
   unfold getL
   have:es.find? (·.key.isStr attr)=none:=List.find?_eq_none.mpr fun e he=>by rw [hnew e he];decide
   rw [this]
   have:es.any (·.refKey)=false:=by
    cases q:es.any (·.refKey) with
    | false=>rfl
    | true=>obtain⟨e,h1,h2⟩:=List.any_eq_true.mp q;rw [href e h1] at h2;exact xf h2
   rw [this];rfl
  refine set_dict (es':=es++ [⟨PyData.keyHash G.w.params attr,.str attr (s'.toks+1),v⟩]) (n':=k+1) (news':=(x,instObj C dx)::(dx,dictOf (es++ [⟨PyData.keyHash G.w.params attr,.str attr (s'.toks+1),v⟩]) (k+1))::rest)
   F (ok.with (l:=(x,instObj C dx)::(dx,dictOf es k)::rest) (hH.trans fun Ω Ω z=>z.imp id fun z=>a0P _ (.tail _ z))).X₀ S'.N I rfl c1 c2 c4 c3 (by rw [e2];rfl) ?_
   (.tail (a2D hx) (.head fun p hp=>hne p hp)) (by rw [a1K,List.length_singleton];lia) fun h' F' N'=> ?_
  ·rw [putL_new hnew]
   unfold putN
   rw [e1];rfl
  ·exact q v (s'.toks+1) _ hp ⟨F',N',S'.gens,S'.os,S'.dr⟩
 exact name
def C0B (G:Gx)(C₀:Addr)(b:Nat)(d:Fd)(f C:Addr)(binds:List (Str×Value))(self:Str)(fs:List (Str×V))(H:Held):Prop:=
 ∀ (c:Fc) (A:Around) (x dx:Addr) (rest:List (Addr×Obj)) (s:Shared) (Q:Flow→Shared→Prop) (E:Value→Shared→Prop),c.Ok G A→c.env=d.env f c.L→Room A b→H.le c.H→c.H.le (A7v c.h₀ rest)→(∀ p∈rest,p.1≠dx)→dx<x→
  St (c.with ((x,instObj C dx)::(dx,dictOf [] 0)::rest)) (fun y=>((self,.ref x)::binds).reverse.lookup y) [] s→
  (∀ m' es k s',Flds G C₀ c.H es fs→St (c.with ((x,instObj C dx)::(dx,dictOf es k)::rest)) m' [] s'→Q .next s')→wpAny G.M A (execs d.body c.env) Q E s
theorem B0A {fI:Addr}{kw:List (Str×Value)}{binds:List (Str×Value)}{self:Str}{fs:List (Str×V)}(ok:c.Ok G A)(room:Room A (b+2))(hm:makesIn G.K C=true)(hi:findIn G.K (.ref C) "__init__" =some (some (.ref fI)))
  (hf:isFn G.K (.ref fI)=true) (e:A2V G.K fI=some d) (q:A0H G.K fI d=true) (hbind: ∀ x s,G.K.In s.heap→BindsTo s d.data ⟨.ref x::vs,kw⟩ ((self,.ref x)::binds)) (hself:d.scope.names.lookup self=some .local) (hloc: ∀ y∈binds,d.scope.names.lookup y.1=some .local)
  (hb:C0B G C₀ b d fI C binds self fs (vis c own)):EvR G C₀ c A m own False (call (.ref C) vs kw) (fun Z v=>Rep G C₀ Z v (.inst C fs)):=by
 intro s Q E S k _
 refine call_cls S.F ok.X₀ S.N hm hi hf fun x dx h' F N hlt hx=> ?_
 have ok':c.Ok G (A.under (.builtin "type.__call__" ⟨.ref C::vs,kw⟩)):=ok.under A7U
 have X':G.K.In h':=ok.X₀.keeps F.keep
 obtain⟨o,ho,hd,hc,h1,h2,h3,h4⟩:=B9W X' e q
 obtain⟨A₀,B⟩:=ok'.below
 have room':Room (A.under (.builtin "type.__call__" ⟨.ref C::vs,kw⟩)) (b+1):=room.making (a1A _)
 refine callX_plain (prog:=G.prog) (w:=G.w) (s:= {s with heap:=h'}) B F N ok.T₀.nolimit ok'.frames ok'.frame ok'.kind ho hd hc room'.depth (hbind x _ X') (fun y hy=> ?_) (fun g L' h₁ FG F' N' B' st lt=> ?_) h1 h2 h3 h4
 ·rcases a0T.mp hy with rfl| hy
  ·exact hself
  ·exact hloc y hy
 let c':Fc:=⟨c.base,c.env::c.outer,g,L',d.env fI L',(x,instObj C dx)::(dx,dictOf [] 0)::(own++c.news),vis c own,c.os,c.dr⟩
 have hH:c'.H.le (A7v c'.h₀ (own++c.news)):=ok.vis_held.trans (A1f st)
 have ok'':c'.Ok G ((A.under (.builtin "type.__call__" ⟨.ref C::vs,kw⟩)).deeper (d.env fI L')):=⟨⟨_,B'⟩,a2M B'.stack,rfl,h4,ok.free,ok.XB,ok.TB,hH.trans fun Ω Ω z=>z.imp id fun z=>a0P _ (.tail _ z)⟩
 refine hb c' _ x dx (own++c.news) _ _ _ ok'' rfl (room'.deeper (a1A b)) Held.le.rfl hH (fun p hp=>a0S (hlt p hp)) hx ⟨F',N',S.gens,S.os,S.dr⟩ fun m' es kk s' hfl S₂=> ?_
 refine leaveK_ S₂.F S₂.N fun F₃ N₃=>⟨rfl,?_⟩
 refine k [(x,instObj C dx),(dx,dictOf es kk)] (.ref x) s' ⟨F₃,N₃,S₂.gens,S₂.os,S₂.dr⟩ (.inst (dx:=dx) (es:=es) (n:=kk) (.inr (.head _)) (.inr (.tail _ (.head _))) (hfl.mono A0a))
theorem A4x {l:List (Addr×Obj)}{p:Pos}(ok:c.Ok G A)(he:c.env=d.env f c.L)(hv:m x=some v)(hk:d.scope.names.lookup x=some .local)(hd:(x==("__debug__" :Str))=false)
  (S:St (c.with l) m [] s) (q: ∀ s',St (c.with l) m [] s'→Q v s'):wpAny G.M A (eval (.Name x p) c.env) Q E s:=by
 have hkind:=ok.kind
 have F:=S.F
 have name:wpAny G.M A (eval (.Name x p) c.env) Q E s:=by
  rw [he] at hkind ⊢
  exact nameX_L F hv (q s S) hkind hk hd
 exact name
end
section
variable {r:Evs}
theorem A1i {β:Type}(l l':List (Str×β)):(l++l').lookup x=(l.lookup x).or (l'.lookup x):=by
 induction l with
 | nil=>rfl
 | cons p l ih=>
  rw [List.cons_append,a0M,a0M]
  cases x==p.1 with
  | true=>rfl
  | false=>exact ih
theorem A5B {β:Type}{l:List (Str×β)}:x∉l.map (·.1)→l.lookup x=none:=by
 induction l with
 | nil=>exact fun Ω=>rfl
 | cons p l ih=>
  intro h
  rw [a0M,show (x==p.1)=false from a1L.mpr fun e=>h (e▸a1G ..)]
  exact ih fun q=>h (.tail _ q)
theorem A0X {β:Type}{l:List (Str×β)}:(l.map (·.1)).Nodup→l.reverse.lookup x=l.lookup x:=by
 induction l with
 | nil=>exact fun Ω=>rfl
 | cons p l ih=>
  intro h
  rw [a2E,A1i,ih (List.nodup_cons.mp h).2,a0M,a0M]
  cases e:x==p.1 with
  | true=>
   rw [A5B (a0D e▸ (List.nodup_cons.mp h).1)];rfl
  | false=>exact Option.or_none
theorem A1y {ns:List Str}: ∀ {vs:List Value},vs.length=ns.length→(ns.zip vs).map (·.1)=ns:=by
 induction ns with
 | nil=>exact fun Ω=>rfl
 | cons n ns ih=>
  intro vs h
  cases vs with
  | nil=>exact absurd h (Nat.succ_ne_zero _).symm
  | cons v vs=>exact congrArg (n:: ·) (ih (Nat.succ.inj h))
theorem A1L {ns:List Str}: ∀ {vs:List Value} {rs:List V},Reps G C₀ Z vs rs→ ∀ {x:Str} {r:V},(ns.zip rs).lookup x=some r→ ∃ v,(ns.zip vs).lookup x=some v∧Rep G C₀ Z v r:=by
 induction ns with
 | nil=>exact fun Ω Ω Ω e=>x0 e
 | cons n ns ih=>
  intro vs rs R x r e
  cases rs with
  | nil=>exact x0 e
  | cons a rs=>
   refine R.consE fun v vs h R=> ?_
   rw [List.zip_cons_cons,a0M] at e ⊢
   cases q:x==n with
   | true=>rw [q] at e;exact x1 e ⟨_,rfl,h⟩
   | false=>rw [q] at e;exact ih R e
theorem B5J {o:Option Obj}(h:C1B o=true): ∃ o',o=some o'∧ ∃ its n,o'.data= .seq its n:=by
 cases o with
 | none=>exact xf h
 | some o=>
  obtain⟨a,b,dt,e⟩:=o
  cases dt with
  | seq its n=>exact⟨_,rfl,its,n,rfl⟩
  | _=>exact xf h
theorem A0Z {K:Frag}{ns:List Str}(X:K.In s.heap)(hp:A0r d.params=some ns)(hl:vs.length=ns.length)(hd:A1s K d.dV=true):BindsTo s d.data ⟨vs,[]⟩ (ns.zip vs):=by
 obtain⟨k,h1,h2⟩:=B2B (fd:=d.data) (A1C hp) hl
 have hdv:d.data.defaults=d.dV:=rfl
 intro M A E Q q
 rw [h1,hdv]
 generalize d.dV=dv at hd
 cases dv with
 | none=>
  show wpAny M A (pure none>>=k) Q E s
  refine a0A (a0I ?_)
  rw [h2];exact a0I q
 | ref T=>
  obtain⟨o,ho,its,n,hd⟩:=B5J hd
  refine a0A (wpAny_seqItems (X _ _ ho) hd ?_)
  rw [h2];exact a0I q
 | _=>exact xf hd
theorem Flds.snoc {h:Int}{a:Str}{t:Tok}{r:V}{fs:List (Str×V)}(hv:Rep G C₀ Z v r): ∀ {es:List DictEntry},Flds G C₀ Z es fs→Flds G C₀ Z (es++ [⟨h,.str a t,v⟩]) (fs++ [(a,r)]):=by
 induction fs with
 | nil=>exact fun hf=>by rw [hf.nilI];exact .cons hv .nil
 | cons p fs ih=>exact fun hf=>let ⟨_,_,_,_,e,h1,h2⟩:=hf.consI;e▸ .cons h1 (ih h2)
theorem Flds.keys {a:Str}{fs:List (Str×V)}(hn:a∉fs.map (·.1)): ∀ {es:List DictEntry},Flds G C₀ Z es fs→(∀ e∈es,e.key.isStr a=false)∧(∀ e∈es,e.refKey=false)∧es.length=fs.length:=by
 induction fs with
 | nil=>exact fun hf=>by rw [hf.nilI];exact⟨fn,fn,rfl⟩
 | cons p fs ih=>
  intro es hf
  obtain⟨_,t,v,_,rfl,h1,h2⟩:=hf.consI
  obtain⟨k1,k2,k3⟩:=ih (fun q=>hn (.tail _ q)) h2
  exact⟨fm (a1L.mpr fun e:p.1=a=>hn (e▸ .head _)) k1,fm rfl k2,congrArg (· +1) k3⟩
@[elab_as_elim] theorem B9X {e:Expr} {x:Expr×Str} {motive:Expr→Prop} (h:B4E e=some x) (q: ∀ p,motive (.Attribute x.1 x.2 p)):motive e:=by
 cases e with
 | «Attribute» =>cases h;exact q _
 | _=>exact x0 h
@[elab_as_elim] theorem B7N {st:Stmt} {x:Str×Str×Expr} {motive:Stmt→Prop} (h:B8T st=some x) (q: ∀ p1 p2 p3,motive (.Assign [.Attribute (.Name x.1 p1) x.2.1 p2] x.2.2 p3)):motive st:=by
 cases st with
 | Assign ts v p=>
  refine x3 h fun t h1 h=>x3 h fun a h2 h=>x4e h fun z h3 e=> ?_
  subst e
  exact A1b h1 (B9X (motive:=fun t=>motive (.Assign [t] v p)) h2 fun p2=>A0T (motive:=fun e=>motive (.Assign [.Attribute e a.2 p2] v p)) h3 fun p1=>q p1 p2 p)
 | _=>exact x0 h
theorem A8b {x dx:Addr}{rest:List (Addr×Obj)}{self:Str}{Q:Flow→Shared→Prop}(ok:c.Ok G A)(he:c.env=d.env f c.L)(hH:c.H.le (A7v c.h₀ rest))(hne: ∀ p∈rest,p.1≠dx)(hx:dx<x)
  (hself:m self=some (.ref x)) (hsk:d.scope.names.lookup self=some .local) (hsd:(self==("__debug__" :Str))=false) (hl:Locs G C₀ c.H m ρ)
  (sts:List Stmt): ∀ (done:List Str) (fs₀ fs:List (Str×V)) (es:List DictEntry) (k:Nat) (s:Shared),B4m G.K d C self ρ sts done=some fs→fs₀.map (·.1)=done→Flds G C₀ c.H es fs₀→St (c.with ((x,instObj C dx)::(dx,dictOf es k)::rest)) m [] s→
   (∀ es k s',Flds G C₀ c.H es (fs₀++fs)→St (c.with ((x,instObj C dx)::(dx,dictOf es k)::rest)) m [] s'→Q .next s')→wpAny G.M A (execs sts c.env) Q E s:=by
 induction sts with
 | nil=>exact fun done fs₀ fs es k s e hd hf S q=>a2O (q es k s (x1 (motive:=fun fs=>Flds G C₀ c.H es (fs₀++fs)) e ((a1H fs₀).symm▸hf)) S)
 | cons st sts ih=>
  refine fun done fs₀ fs es k s e hd hf S q=>x3 e fun p h1 e=>x3 e fun y hy e=>x2 e fun hc e=>x3 e fun v hv e=>x4e e fun fs' hfs e=>x6 hc fun hc c5 c6=>x7 hc fun c1 c2 c3 c4=> ?_
  have c5:=xn c5
  obtain⟨w,hw,Rw⟩:=hl _ _ hv
  have hnd:p.2.1∉fs₀.map (·.1):=by rw [hd];intro hm;rw [List.contains_iff_mem.mpr hm] at c5;exact xf c5.symm
  obtain⟨k1,k2,k3⟩:=hf.keys hnd
  have hlen:es.length<900:=by rw [k3,←a1D,hd];exact a0B c6
  refine B7N h1 fun p1 p2 p3=>A0T hy fun p4=> ?_
  rw [a0D c1]
  refine a0N (A6R (P:=fun v'=>v'=w) ok he hH hne hx c2 hself hsk hsd k1 k2 hlen rfl S (fun Q E q=>A4x ok he hw (a0D c3) (xn c4) S fun s' S'=>q w s' rfl S') fun v' tk s' hv' S'=> ?_)
  subst hv' e
  refine ih _ (fs₀++ [(p.2.1,v)]) fs' _ (k+1) s' hfs (by rw [a2P,hd];rfl) (hf.snoc Rw) S' fun es k s' hf' S'=> ?_
  rw [a0C] at hf'
  exact q es k s' hf' S'
theorem A6t {v:V}(h:B3h G.K b C rs=some v)(ok:c.Ok G A)(room:Room A b)(R:Reps G C₀ (vis c own) vs rs):EvR G C₀ c A m own False (call (.ref C) vs) (fun Z w=>Rep G C₀ Z w v):=by
 refine xp h fun b1 e1 h=>xp h fun b' e2 h=>x2 h fun hm h=>x3 h fun fI hi h=>x2 h fun hf h=>x3 h fun d hd h=>x2 h fun hw h=>x5 hw fun hw1 hw2=>x3 h fun ps hp h=>x3 h fun p hh h=>x2 h fun hc h=>x6 hc fun c1 c2 c3=>x4 h fun fs hfs=> ?_
 obtain⟨self,ns⟩:=p
 have hp:A0r d.params=some (self::ns):=by
  cases ps with
  | nil=>exact x0 hh
  | cons=>cases hh;exact hp
 have hlen:vs.length=ns.length:=R.length.trans (a0D c1).symm
 have hnd:=(A1C hp).nodup
 have hall:=a0J.mp c2
 have hself:d.scope.names.lookup self=some .local:=a0D (hall self (.head _))
 refine B0A (self:=self) (binds:=ns.zip vs) (b:=b') ok (show Room A (b'+1+1) by rw [←e2,←e1];exact room) hm (A1F hi) hf hd hw1 (fun x s X=>A0Z (ns:=self::ns) (vs:= .ref x::vs) X hp (congrArg (· +1) hlen) hw2) hself (fun y hy=>a0D (hall y.1 (.tail _ (a2T (a:=y.1) (b:=y.2) hy).1))) ?_
 intro c' A' x dx rest s Q E ok' he' room' hle hH hne hx S q
 have hmm: ∀ y,((self,Value.ref x)::ns.zip vs).reverse.lookup y=((self,Value.ref x)::ns.zip vs).lookup y:=fun y=>A0X (by rw [a0V,A1y hlen];exact hnd)
 refine A8b (ρ:=ns.zip rs) ok' he' hH hne hx (by rw [hmm,a0M,a2B]) hself (xn c3) (fun y r e=> ?_) d.body [] [] fs [] 0 s hfs rfl .nil S fun es k s' hf' S'=>q _ es k s' hf' S'
 obtain⟨w,hw',Rw⟩:=A1L R e
 refine⟨w,?_,Rw.mono hle⟩
 rw [hmm,a0M,show (y==self)=false from a1L.mpr fun q=>(List.nodup_cons.mp hnd).1 (q▸ (a2T (A1w e)).1)]
 exact hw'
end
section
variable {r:Evs}
theorem B6y {w:Value}{x v:V}(h:B6z x=some v)(R:Rep G C₀ Z w x): ∃ i t,w= .int i t∧0≤i∧i<2^63∧ ∀ t',Rep G C₀ Z (.int i t') v:=by
 refine x3 h fun y hy h=> ?_
 have R:=R.ofS hy
 cases y with
 | int=>exact x2 h fun hc h=>x5 hc fun c1 c2=>x1 h (R.intE fun t=>⟨_,t,rfl,a0B c1,a0B c2,fun Ω=> .s .int⟩)
 | bint=>exact x2 h fun hc h=>x5 hc fun c1 c2=>x1 h (R.bintE fun t h1 h2=>⟨_,t,rfl,a1E (a0B c1) h1,a2U h2 (a0B c2),fun Ω=> .s (.bint h1 h2)⟩)
 | _=>exact x0 h
theorem B3d {x v:V}(h:B0h x=some v):v=x∧ ∃ y k,x= .s (.str y k):=x4 h fun p hp=>x3 hp fun y hy hp=>A6A hy (A0F hp ⟨rfl,_,_,rfl⟩)
theorem A4i {x dx:Addr}{es:List DictEntry}{k:Nat}{v0 v:V}(ok:c.Ok G A)(room:Room A (b+1))(z1:vis c own x ⟨.ref C,some dx,.plain,#[]⟩)(z2:vis c own dx (dictOf es k))
  (hf:findIn G.K (.ref C) "__len__" =some (some (.ref f))) (hi:isFn G.K (.ref f)=true) (hc:Calls G C₀ b Z f ⟨[.ref x],[]⟩ (fun H w=>Rep G C₀ H w v0) False) (hz:Z.le (vis c own)) (hl:B6z v0=some v):
  EvR G C₀ c A m own False (call (.builtin "len") [.ref x]) (fun Z w=>Rep G C₀ Z w v):=by
 intro s Q E S q e
 refine len_K S.F ok.X₀ (inst_at S ok z1 z2) hf hi (wpAny_call (hc c A.in1 m own s _ ok.in1 (room.in1 (a1A _)) S hz (fun own' w s' S' p=> ?_) fun Ω Ω x=>x.elim))
 obtain⟨i,t,rfl,h0,h1,h2⟩:=B6y hl p
 exact⟨⟨h0,by lia⟩,q own' _ _ (S'.tok _) (h2 _)⟩
theorem A4h {x dx:Addr}{es:List DictEntry}{k:Nat}{v0 v:V}(ok:c.Ok G A)(room:Room A (b+2))(z1:vis c own x ⟨.ref C,some dx,.plain,#[]⟩)(z2:vis c own dx (dictOf es k))
  (hf:findIn G.K (.ref C) "__str__" =some (some (.ref f))) (hi:isFn G.K (.ref f)=true) (hc:Calls G C₀ b Z f ⟨[.ref x],[]⟩ (fun H w=>Rep G C₀ H w v0) False) (hz:Z.le (vis c own)) (hl:B0h v0=some v):
  EvR G C₀ c A m own False (call (.type "str") [.ref x]) (fun Z w=>Rep G C₀ Z w v):=by
 intro s Q E S q e
 have r1:Room A.in1 (b+1):=room.in1 (a1A _)
 have r2:Room A.in1.in1 b:=r1.in1 (a1A _)
 refine kso_call r2.units (S.X ok) (inst_at S ok z1 z2) hf hi (wpAny_call (hc c A.in1.in1 m own s _ ok.in1.in1 r2 S hz (fun own' w s' S' p=> ?_) fun _ _ x=>x.elim))
 obtain⟨rfl,y,kk,rfl⟩:=B3d hl
 have p:=p.sI
 refine p.strE fun _ _=> ?_
 rename_i t hk
 exact q own' _ _ S' (.s (.str hk))
theorem B2r {x dx:Addr}{es:List DictEntry}{k:Nat}{D:Addr}(ok:c.Ok G A)(z1:vis c own x ⟨.ref C,some dx,.plain,#[]⟩)(z2:vis c own dx (dictOf es k))(h:(bif isIn G.K (.ref C) D then some true else gd (A1o G.K C&&kin_not G.K C D) (some false))=some t):
  EvR G C₀ c A m own False (call (.builtin "isinstance") [.ref x,.ref D]) (fun Ω v=>SRep v (.bool t)):=by
 intro s Q E S q e
 refine xb h (fun hi h=> ?_) fun Ω h=>x2 h fun hc h=>x5 hc fun c1 c2=> ?_
 ·exact isi_call (S.X ok) (fun Ω=>(inst_at S ok z1 z2).type) hi (fun e=>nomatch e) (q [] _ _ S (x1 h .bool))
 ·obtain⟨p1,p2,p3,p4⟩:=A2E c1
  exact kin_callC (S.X ok) (inst_at S ok z1 z2) c2 (A0A c1 "__class__").1 (A0A c1 Str.empty).2.1 p1 p2 p3 p4 (q [] _ _ (S.tok _) (x1 h .bool))
theorem A5m {d:D}{D':Addr}{b:Bool}(ok:c.Ok G A)(hm:d.isa.lookup D'=some b)(R:Rep G C₀ (vis c own) v (.abs d)):EvR G C₀ c A m own False (call (.builtin "isinstance") [v,.ref D']) (fun Ω v=>SRep v (.bool b)):=
 A5I ok (A9o hm) R
theorem A7j {x dx:Addr}{es:List DictEntry}{k:Nat}(ok:c.Ok G A)(z1:vis c own x ⟨.ref C,some dx,.plain,#[]⟩)(z2:vis c own dx (dictOf es k)):EvR G C₀ c A m own False (call (.type "type") [.ref x]) (fun Z w=>Rep G C₀ Z w (.k (.ref C))):=by
 intro s Q E S q e
 have: ∀ v,v=Value.ref C→Rep G C₀ (vis c ([]++own)) v (.k (.ref C)):=fun v h=>by subst h;exact .k
 exact kto_own (inst_at S ok z1 z2) (q [] _ _ S (this _ rfl))
theorem EvR.s_of {t:Sem Value}{v:SV}{rs:Prop}(h:EvR G C₀ c A m own rs t (fun Ω w=>SRep w v)):EvR G C₀ c A m own rs t (fun Z w=>Rep G C₀ Z w (.s v)):=h.mono (fun Ω Ω p=> .s p) id
theorem A2t {x:List UInt8}{k:Nat}(hk:k<1000000)(R:SRep v (.bytes x k)):EvR G C₀ c A m own False (call (.builtin "len") [v]) (fun _ v=>SRep v (.bint x.length 0 k)):=by
 intro s Q E S q e
 refine R.bytesE fun _ _ _ _=> ?_
 rename_i b t hb hl
 have hsz:b.size=x.length:=by have:=congrArg List.length hb;simpa using this
 have key: ∀ i:Nat,i=x.length→SRep (.int (i:Int) (s.toks+1)) (.bint x.length 0 k):=fun i hi=>by subst hi;exact .bint (by lia) (by lia)
 exact len_bytes (by lia) (q [] _ _ (S.tok _) (key _ hsz))
theorem A8D: ∀ {vs:List Value} {x:List UInt8},Reps G C₀ Z vs rs→A2M rs=some x→ ∃ ns:List Int,IntsAre vs ns∧(∀ n∈ns,0≤n∧n<256)∧ns.map (fun n=>n.toNat.toUInt8)=x.reverse:=by
 induction rs with
 | nil=>exact fun R e=>R.nilE (x1 e ⟨[],.nil,fun Ω h=>(nomatch h),rfl⟩)
 | cons r rest ih=>
  refine fun R e=>x3 e fun i hi e=>x2 e fun hc e=>x4 e fun y hy=>R.consE fun v vs h R=>(h.ofInt hi).intE fun t=>x5 hc fun c1 c2=> ?_
  obtain⟨ns,h1,h2,h3⟩:=ih R hy
  exact⟨i::ns,.cons _ _ h1,List.forall_mem_cons.mpr ⟨⟨a0B c1,a0B c2⟩,h2⟩,by rw [a0V,h3,a2I];rfl⟩
theorem A5o {x:List UInt8}(ok:c.Ok G A)(hl:rs.length≤1000)(hx:A2M rs=some x)(R:Rep G C₀ (vis c own) v (.list rs)):EvR G C₀ c A m own False (call (.type "bytes") [v]) (fun Ω v=>SRep v (.bytes x rs.length)):=by
 intro s Q E S q e
 refine R.listE fun Ω Ω Ω hz R=> ?_
 obtain⟨ns,h1,h2,h3⟩:=A8D R hx
 have hlen:=R.length
 refine bytes_K S.F S.N ⟨_,S.get ok hz,rfl,_,rfl⟩ h1 h2 (by rw [a1I];lia) ok.free fun h' t k F N Ω=>q [] _ _ ⟨F,N,S.gens,S.os,S.dr⟩ (.bytes (by rw [h3]) ?_)
 have:=congrArg List.length h3
 simp only [a1D,a0O] at this
 have:=h1.length
 lia
theorem A9J (R:SRep v (.bool t)):EvR G C₀ c A m own False (call (.type "int") [v]) (fun Ω v=>SRep v (.int (bif t then 1 else 0))):=by
 intro s Q E S q e
 refine R.boolE ?_
 refine call_int_bool ?_
 have:SRep (.int (if t then 1 else 0) s.toks) (.int (bif t then 1 else 0)):=by cases t<;>exact .int
 exact q [] _ _ (S.tok _) this
theorem C0l {x:V}(ok:c.Ok G A)(h:B3k G.K x=some t)(R:Rep G C₀ (vis c own) v x):EvR G C₀ c A m own False (call (.builtin "isinstance") [v,.type "str"]) (fun Ω v=>SRep v (.bool t)):=by
 cases x with
 | s y=>exact x4 h fun p hp=>(A0F (motive:=fun y=>SRep v y→SRep v (.str p.1 p.2)) hp id R.sI).strE fun Ω Ω s Q E S q e=>IsiPair.str_str (q [] _ _ S .bool)
 | inst C fs=>
  refine x2 h fun hc h=>x5 hc fun c1 c2=>x1 h ?_
  obtain⟨x,dx,es,k,rfl,z1,z2,hfs⟩:=R.inst_at
  obtain⟨p1,p2,p3,p4⟩:=A2E c1
  exact fun s Q E S q e=>kin_callT (S.X ok) (inst_at S ok z1 z2) c2 (by kernel_rfl) (A0A c1 "__class__").1 (A0A c1 Str.empty).2.1 p1 p2 p3 p4 (q [] _ _ (S.tok _) .bool)
 | _=>exact x0 h
theorem B2n {y:Str}{k:Nat}{D:Addr}(ok:c.Ok G A)(h:B7L G.K D=true)(R:SRep v (.str y k)):EvR G C₀ c A m own False (call (.builtin "isinstance") [v,.ref D]) (fun Ω v=>SRep v (.bool false)):=by
 intro s Q E S q e
 refine R.strE fun Ω Ω=> ?_
 exact kia_one kitx_str (S.X ok) trivial (a0D h) (fun e=>nomatch e) fun tk=>q [] _ _ (S.tok _) .bool
theorem A6u (X:Snd G C₀ r){x v:V}(h:B3i G.K r b x=some v){w:Value}(ok:c.Ok G A)(room:Room A b)(R:Rep G C₀ (vis c own) w x):EvR G C₀ c A m own False (call (.builtin "len") [w]) (fun Z w=>Rep G C₀ Z w v):=by
 cases x with
 | tup=>exact x2 h fun hl h=>x1 h (A9I (a0B hl) ok R).s_of
 | list=>exact x2 h fun hl h=>x1 h (A2K (a0B hl) ok R).s_of
 | abs=>
  refine x2 h fun hb h=>x3 h fun u hu h=> ?_
  obtain⟨x,C,dx,es,k,rfl,z1,z2,K⟩:=R.inst_inv
  obtain⟨f,h1,h2,h3⟩:=K.spec _ (A1w hu)
  exact A4i ok (room.less (a0B hb)) z1 z2 h1 h2 (h3.mono (a0K _) Held.le.rfl (fun Ω Ω p=> .s p) id) Held.le.rfl h
 | inst=>
  refine x3 h fun f hf h=>x2 h fun hi h=>xp h fun b' e h=>x3 h fun v0 h1 h2=> ?_
  obtain⟨x,dx,es,k,rfl,z1,z2,hfs⟩:=R.inst_at
  exact A4i ok (e▸room) z1 z2 (A1F hf) hi (A3j X h1 (.cons R .nil)) Held.le.rfl h2
 | s=>exact x3 h fun p hp h=>x2 h fun hk h=>x1 h (A2t (a0B hk) (A1B (motive:=fun y=>SRep w y→SRep w (.bytes p.1 p.2)) hp id R.sI)).s_of
 | _=>exact x0 h
theorem A6s (X:Snd G C₀ r){x v:V}(h:B3f G.K r b x=some v){w:Value}(ok:c.Ok G A)(room:Room A b)(R:Rep G C₀ (vis c own) w x):EvR G C₀ c A m own False (call (.type "str") [w]) (fun Z w=>Rep G C₀ Z w v):=by
 cases x with
 | abs=>
  refine x2 h fun hb h=>x3 h fun u hu h=> ?_
  obtain⟨x,C,dx,es,k,rfl,z1,z2,K⟩:=R.inst_inv
  obtain⟨f,h1,h2,h3⟩:=K.spec _ (A1w hu)
  exact A4h ok (room.less (a0B hb)) z1 z2 h1 h2 (h3.mono (a0K _) Held.le.rfl (fun Ω Ω p=> .s p) id) Held.le.rfl h
 | inst=>
  refine x3 h fun f hf h=>x2 h fun hi h=>xp h fun b' e h=>xp h fun b'' e' h=>x3 h fun v0 h1 h2=> ?_
  obtain⟨x,dx,es,k,rfl,z1,z2,hfs⟩:=R.inst_at
  exact A4h ok (show Room A (b''+1+1) by rw [←e',←e];exact room) z1 z2 (A1F hf) hi (A3j X h1 (.cons R .nil)) Held.le.rfl h2
 | _=>exact x0 h
theorem A6v {x:V}{D:Addr}{w:Value}(ok:c.Ok G A)(h:B3j G.K x D=some t)(R:Rep G C₀ (vis c own) w x):EvR G C₀ c A m own False (call (.builtin "isinstance") [w,.ref D]) (fun Ω v=>SRep v (.bool t)):=by
 cases x with
 | abs=>exact A5m ok h R
 | inst=>
  obtain⟨x,dx,es,k,rfl,z1,z2,hfs⟩:=R.inst_at
  exact B2r ok z1 z2 h
 | s=>exact x3 h fun p hp h=>x2 h fun hn h=>x1 h (B2n ok hn (A0F (motive:=fun y=>SRep w y→SRep w (.str p.1 p.2)) hp id R.sI))
 | _=>exact x0 h
theorem A8X (X:Snd G C₀ r){f:Value}{v:V}(h:C1q G.K r b f rs=some v)(ok:c.Ok G A)(room:Room A b)(R:Reps G C₀ (vis c own) vs rs):EvR G C₀ c A m own False (call f vs) (fun Z w=>Rep G C₀ Z w v):=by
 cases f with
 | builtin nm=>
  refine xb h (fun e h=>xs e (x3 h fun x hx h=>R.oneE hx fun w R=>A6u X h ok room R)) fun Ω h=>xb h (fun e h=>xs e (x3 h fun l hl h=>x4 h fun p hp=>R.list1 hl fun w R=>(C0k ok hp R).s_of)) fun Ω h=>x2 h fun e h=>xs e (x3 h fun p hp h=>x3 h fun y hy h=>R.twoE hp fun w u R R'=> ?_)
  have R':u=y:=(C1C (motive:=fun p=>Rep G C₀ (vis c own) u p→u=y) hy Rep.kI R')
  subst R'
  cases u with
  | ref D=>exact x4 h fun t ht=>(A6v ok ht R).s_of
  | type T=>exact x2 h fun e h=>xs e (x4 h fun t ht=>(C0l ok ht R).s_of)
  | _=>exact x0 h
 | type nm=>
  refine xb h (fun e h=>xs e (x3 h fun x hx h=>R.oneE hx fun w R=>A6s X h ok room R)) fun Ω h=>xb h (fun e h=>xs e (x4 h fun p hp=>x3 hp fun x hx hp=>R.oneE hx fun w R=> ?_)) fun Ω h=>
   xb h (fun e h=>xs e (x4 h fun t ht=>x3 ht fun y hy ht=>R.s1 hy fun w R=>(A9J (A2l (motive:=fun y=>SRep w y→SRep w (.bool t)) ht id R)).s_of)) fun Ω h=>x2 h fun e h=>xs e (x3 h fun l hl h=>x2 h fun hl' h=>x4 h fun y hy=>R.list1 hl fun w R=>(A5o ok (a0B hl') hy R).s_of)
  obtain⟨x,dx,es,k,rfl,z1,z2,hfs⟩:=(A4u (motive:=fun x=>Rep G C₀ (vis c own) w x→Rep G C₀ (vis c own) w (.inst p.1 p.2)) hp id R).inst_at
  exact A7j ok z1 z2
 | ref f=>exact xb h (fun Ω h=>A0I ok room (A3j X h R) Held.le.rfl) fun Ω h=>A6t h ok room R
 | _=>exact x0 h
end
section
variable {r:Evs}
theorem A5y {ρ₁ ρ':Loc}{y:Str}{v:V}{as:List Str}: ∀ {ρ'':Loc},A6y ρ₁ ρ' as=some ρ''→ρ''.lookup y=some v→(∃ w,v= .s w∧ρ'.lookup y=some (.s w))∨(y∉as∧ρ₁.lookup y=some v):=by
 induction as with
 | nil=>exact fun e h=> .inr ⟨fun h=>(nomatch h),a0E e▸h⟩
 | cons a as ih=>
  refine fun e h=>x3 e fun w hw e=>x4e e fun l hl er=> ?_
  rw [er,a0M] at h
  cases q:y==a with
  | true=>
   rw [q] at h
   exact .inl ⟨w,(a0E h).symm,a0D q▸A0i hw⟩
  | false=>
   rw [q] at h
   exact(ih hl h).imp id fun z=>⟨List.not_mem_cons_of_ne_of_not_mem (ne_of_beq_false q) z.1,z.2⟩
theorem A7C {ρ₁ ρ' ρ'':Loc}{Z':Held}{m₁ m':Str→Option Value}{as:List Str}(e:A6y ρ₁ ρ' as=some ρ'')(h':Locs G C₀ Z' m' ρ')(h₁:Locs G C₀ Z m₁ ρ₁)(k: ∀ y,y∉as→m' y=m₁ y):Locs G C₀ Z m' ρ'':=by
 intro y v hy
 rcases A5y e hy with ⟨w,rfl,hw⟩| ⟨hn,hl⟩
 ·obtain⟨u,hu,R⟩:=h' y _ hw
  have R:=R.sI
  exact⟨u,hu,.s R⟩
 ·obtain⟨u,hu,R⟩:=h₁ y _ hl
  exact⟨u,(k y hn).trans hu,R⟩
theorem Ends.never {rs:Prop}(X:Ends G C₀ c A own rs E){p:Prop}(h: ¬ p):Ends G C₀ c A own p E:=X.less fun q=>(h q).elim
theorem B3M {m₁:Str→Option Value}{ρ₁:Loc}{own₁:List (Addr×Obj)}{xs:List Str}{k:Loc→Option SRes}{t:Sem Flow}{s₂:Shared}{Q Q':Flow→Shared→Prop}(hl₁:Locs G C₀ (vis c own) m₁ ρ₁)(S₂:St c m₁ (own₁++own) s₂)
  (nx: ∀ ρ'' res' as m' s₃,k ρ''=some res'→Locs G C₀ (vis c own) m' ρ''→(∀ y,y∉as→m' y=m₁ y)→St c m' (own₁++own) s₃→Ends G C₀ c A own (((res'.pre as).pre xs).bad=true) E→(∀ m'' fl s',St c m'' own s'→FlRep G C₀ (vis c own) m m'' fl ((res'.pre as).pre xs)→Q fl s')→Q' .next s₃)
  (rb:SRes): ∀ (res1 res2:SRes),SRes.settle ρ₁ rb=some res1→res1.andThen k=some res2→Ex G C₀ c A m₁ (own₁++own) t rb→Ends G C₀ c A own ((res2.pre xs).bad=true) E→(∀ m' fl s',St c m' own s'→FlRep G C₀ (vis c own) m m' fl (res2.pre xs)→Q fl s')→wpAny G.M A t Q' E s₂:=by
 induction rb with
 | nxt as ρ'=>
  refine fun res1 res2 hset h2 ex en q=>x4e hset fun ρ'' hρ e1=> ?_
  subst e1
  refine x3 h2 fun res' hr e2=> ?_
  obtain rfl:=a0E e2
  refine ex s₂ _ E S₂ (en.more.never (fun z=>nomatch z)) fun own'' m' fl s₃ S₃ R₃=> ?_
  obtain⟨rfl,hl',hm⟩:=R₃
  exact nx ρ'' res' as m' s₃ hr (A7C hρ hl' hl₁ hm) hm S₃.drop en q
 | ret r=>exact fun res1 res2 hset=>x0 hset
 | rse=>exact fun res1 res2 hset h2 ex en q=>ex s₂ _ E S₂ (x1 hset (fun h2:some SRes.rse=some res2=>x1 (motive:=fun r=>Ends G C₀ c A own ((r.pre xs).bad=true) E→Ends G C₀ c A (own₁++own) (SRes.rse.bad=true) E) h2 Ends.more en) h2) fun own'' m' fl s₃ S₃ R₃=>R₃.elim
 | ite b p p' ih ih'=>
  refine fun res1 res2 hset h2 ex en q=>x3 hset fun p1 hp hset=>x4e hset fun p1' hp' e=> ?_
  subst e
  cases b with
  | true=>exact B8b (P:=fun res2=>Ends G C₀ c A own ((res2.pre xs).bad=true) E→(∀ m' fl s',St c m' own s'→FlRep G C₀ (vis c own) m m' fl (res2.pre xs)→Q fl s')→wpAny G.M A t Q' E s₂) h2 (fun r hr en q=>ih p1 r hp hr ex en q) (fun Ω Ω z=>z) en q
  | false=>exact B8c (P:=fun res2=>Ends G C₀ c A own ((res2.pre xs).bad=true) E→(∀ m' fl s',St c m' own s'→FlRep G C₀ (vis c own) m m' fl (res2.pre xs)→Q fl s')→wpAny G.M A t Q' E s₂) h2 (fun r hr en q=>ih' p1' r hp' hr ex en q) (fun Ω Ω z=>z) en q
theorem B1X (X:Snd G C₀ r){px:Pos}{body:List Stmt}{items:Array Value}{fp:List Addr}{s₀:Shared}(ok:c.Ok G A)(room:Room A b)(he:c.env=d.env f c.L)(hk:d.scope.names.lookup x=some .local)
  (hs:s₀.gens= #[]∧s₀.os=c.os∧s₀.drawn=c.dr) (rs:List V): ∀ (i:Nat) (vs:List Value) (ρ:Loc) (res:SRes) (m:Str→Option Value) (Q:Flow→Shared→Prop),B0Z r b d x body rs ρ=some res→Reps G C₀ (vis c own) vs rs→(∀ j,items[i+j]?=vs[j]?)→Locs G C₀ (vis c own) m ρ→
   Ends G C₀ c A own (res.bad=true) E→(∀ m' fl s',St c m' own s'→FlRep G C₀ (vis c own) m m' fl res→Q fl s')→
   Unr G.prog G.w A E c.h₀ c.env (.Name x px) body Q (fun i v=>items[i]?=some v) fp s₀ rs.length i m (own++c.news):=by
 have hL:c.env.locals=c.L:=by rw [he];rfl
 induction rs with
 | nil=>
  intro i vs ρ res m Q e R hi hl en q
  obtain rfl:=a0E e
  refine Unr.zero fun h' tk F N=> ?_
  rw [hL] at F N
  exact q m .next _ ⟨F,N,hs.1,hs.2.1,hs.2.2⟩ ⟨rfl,hl,fun Ω Ω=>rfl⟩
 | cons v rs ih=>
  intro i vs ρ res m Q e R hi hl en q
  refine x3 e fun res1 h1 e=>x3 h1 fun rb hb hset=>x4e e fun res2 h2 er=> ?_
  subst er
  obtain⟨w,vs',rfl,Rv,R'⟩:=R.consI
  refine Unr.succ fun w' h₁ tk₁ own₁ hP hfp F N=> ?_
  obtain rfl:=A9t hi hP
  rw [hL] at F N
  refine a2R (A0o (own:=own₁++own) ok he hk ⟨F,by rw [a0C];exact N,hs.1,hs.2.1,hs.2.2⟩ fun s₂ S₂=> ?_)
  have hl₁:Locs G C₀ (vis c own) (fun y=>if y=x then some w' else m y) ((x,v)::ρ):=hl.set Rv
  rw [hL]
  refine B3M hl₁ S₂ (fun ρ'' res' as m' s₃ hr hl'' hm S₃ en q=> ?_) rb res1 res2 hset h2 (X.S hb ok room he (hl₁.mono A0a)) en q
  have N₄:=S₃.N
  rw [a0C] at N₄
  rw [SRes.bad_pre,SRes.bad_pre] at en
  exact LoopStep3.next ⟨rfl,s₃.heap,s₃.toks,m',own++c.news,S₃.like hs,S₃.F,N₄,rfl,ih (i+1) vs' ρ'' res' m' Q hr R' (A4w hi) hl'' en fun m'' fl s' S' R'=>q m'' fl s' S' (FlRep.pre (m:=fun y=>if y=x then some w' else m y) (as:= [x]) A2c (FlRep.pre hm R'))⟩
set_option tactic.hygienic true in
theorem C2L (X:Snd G C₀ r){px:Pos}{iter:Expr}{body:List Stmt}{tup:Bool}(ok:c.Ok G A)(room:Room A b)(he:c.env=d.env f c.L)(hk:d.scope.names.lookup x=some .local)(hset:A1P iter=true)(hl:Locs G C₀ (vis c own) m ρ)
  (hi:Ev G C₀ c A m own (eval iter c.env) (if tup then .tup rs else .list rs)) (h:B0Z r b d x body rs ρ=some res):Ex G C₀ c A m own (exec (.For (.Name x px) iter body [] pos) c.env) res:=by
 intro s Q E S en q
 have hL:c.env.locals=c.L:=by rw [he];rfl
 refine For_unr c.h₀ (hi s _ E S fun own' v s₁ S₁ R=> ?_) (A0y hset) en.own
 have fin: ∀ (vs:List Value) (fp:List Addr) (s₀:Shared),(s₀.gens= #[]∧s₀.os=c.os∧s₀.drawn=c.dr)→Reps G C₀ (vis c (own'++own)) vs rs→Unr G.prog G.w A E c.h₀ c.env (.Name x px) body Q (fun i v=>vs.toArray[i]?=some v) fp s₀ vs.toArray.size 0 m ((own'++own)++c.news):=by
  intro vs fp s₀ hs R
  have hlen:vs.toArray.size=rs.length:=by simp [R.length]
  rw [hlen]
  exact B1X X ok room he hk hs rs 0 vs ρ res m Q h R (fun j=>by simp) (hl.mono A0a) en.more fun m' fl s' S' R'=>q own' m' fl s' S' R'
 cases tup with
 | true=>
  cases R with
  | tup hz R=>
   rename_i ax vs nn
   have hT:IsTup s₁.heap ax vs.toArray:=⟨_,S₁.get ok hz,rfl,nn,rfl⟩
   refine Iter_tuple_unr ok.free hT (by rw [hL];exact S₁.F) (by rw [hL];exact S₁.N) (by rw [hL];exact S₁.F.tup_ne hT) ?_
   exact fin vs _ _ ⟨S₁.gens,S₁.os,S₁.dr⟩ R
 | false=>
  cases R with
  | list hz R=>
   rename_i ax vs nn
   have hT:s₁.heap.IsList ax vs.toArray:=⟨_,S₁.get ok hz,rfl,nn,rfl⟩
   have hne:ax≠c.L:=by
    rintro rfl
    obtain⟨o,es,ep,ho,hd,_⟩:=S₁.F.ns
    obtain⟨o',ho',_,n,hd'⟩:=hT
    rw [←a0E (ho.symm.trans ho'),hd] at hd'
    cases hd'
   refine Iter_list_unr ok.free hT (by rw [hL];exact S₁.F) (by rw [hL];exact S₁.N) (by rw [hL];exact hne) ?_
   exact fin vs _ _ ⟨S₁.gens,S₁.os,S₁.dr⟩ R
end
section
variable {r:Evs}
theorem A6X (ok:c.Ok G A):interactive c.env=false:=by unfold interactive;rw [ok.kind];rfl
theorem B4z {test:Expr}{body:List Stmt}(hl:Locs G C₀ (vis c own) m ρ)(h:EvT G c A m own (isTrue test env (eval test env)) false)(hE:env=c.env):Ex G C₀ c A m own (exec (.While test body [] pos) env) (.nxt [] ρ):=by
 intro s Q E S en q
 refine whl_start 0 (whl_turn (k:=0) (by rw [hE];exact en.own) (h s _ E S fun own' s' S'=>WhlIf.no rfl (a2O ?_)))
 exact q own' m .next s' S' ⟨rfl,hl.mono A0a,fun Ω Ω=>rfl⟩
theorem B1s {px p lpos spos:Pos}{elt:Expr}{gens:List Comprehension}(hk:c.env.scope.kind= .function)(hb:c.env.kindOf x=some .local)(h:A5r d x px lpos scope=true):
  swapsWith (.ListComp elt gens scope lpos) (some (.Name x px)) spos.line c.env=pure true:=by
 unfold swapsWith
 have e1:(c.env.blockKind==ScopeKind.function)=true:=by
  unfold Env.blockKind
  rw [hk];rfl
 have e2:(c.env.kindOf x==some NameKind.local)=true:=by rw [hb];rfl
 refine x5 h fun h1 h2=> ?_
 show (pure (c.env.blockKind== .function&&c.env.kindOf x==some .local&&px.line==lpos.line&& !(scope.names.any fun (n,k)=>n==x&& (k== .local|| k== .cell))):Sem Bool)=_
 rw [e1,e2,h1,h2];rfl
@[elab_as_elim] theorem B4B {e:Expr} {x:Expr×List Comprehension×Scope×Pos} {motive:Expr→Prop} (h:B4C e=some x) (q:motive (.ListComp x.1 x.2.1 x.2.2.1 x.2.2.2)):motive e:=by
 cases e with
 | ListComp=>cases h;exact q
 | _=>exact x0 h
@[elab_as_elim] theorem B3m {st:Stmt} {x:Str×Expr} {motive:Stmt→Prop} (h:B5F st=some x) (q: ∀ p1 p2,motive (.AugAssign (.Name x.1 p1) .Add x.2 p2)):motive st:=by
 cases st with
 | AugAssign t op v p=>
  refine x3 h fun y hy h=>x2 h fun ho h=> ?_
  cases op with
  | Add=>cases h;exact A0T hy fun p1=>q p1 p
  | _=>exact xf ho
 | _=>exact x0 h
@[elab_as_elim] theorem A9C {e:Expr} {x:Expr×Pos} {motive:Expr→Prop} (h:B0U e=some x) (q:motive (.Call x.1 [] [] x.2)):motive e:=by
 cases e with
 | Call f args kws p=>exact x2 h fun hc h=>x5 hc fun h1 h2=>by cases h;exact A0O h1 (A0O h2 q)
 | _=>exact x0 h
@[elab_as_elim] theorem B0V {e:Expr} {x:Expr×Str×Pos} {motive:Expr→Prop} (h:A9D e=some x) (q:motive (.Attribute x.1 x.2.1 x.2.2)):motive e:=by
 cases e with
 | «Attribute» =>cases h;exact q
 | _=>exact x0 h
@[elab_as_elim] theorem B7h {e:Expr} {x:Str×Expr} {motive:Expr→Prop} (h:B4D e=some x) (q: ∀ p1 p2,motive (.Call (.Name x.1 p1) [x.2] [] p2)):motive e:=by
 cases e with
 | Call f args kws p=>exact x3 h fun y hy h=>x3 h fun a ha h=>x2 h fun hk h=>by cases h;exact A0T hy fun p1=>A1b ha (A0O hk (q p1 p))
 | _=>exact x0 h
theorem B5w (X:Snd G C₀ r){y:Str}{p1 p2 p3:Pos}{elt iter:Expr}{ct:List Expr}{ys:List SV}{tup:Bool}(h:B7J G.K r b scope y elt rs ct=some ys)(ok:c.Ok G A)(room:Room A b)(he:c.env=d.env f c.L)
  (hg:EnvG c.env) (hs:CompScope scope y) (hset:A1P iter=true) (hlen:rs.length≤1000) (hx:d.scope.names.lookup x=some .local) (hw:A5r d x p1 p3 scope=true) (hl:Locs G C₀ (vis c own) m ρ) (hi:Ev G C₀ c A m own (eval iter c.env) (if tup then .tup rs else .list rs)):
  Ex G C₀ c A m own (exec (.Assign [.Name x p1] (.ListComp elt [⟨.Name y p2,iter,ct,0⟩] scope p3) pos) c.env) (.nxt [x] ((x,.list (ys.map .s))::ρ)):=by
 have sw:=fun (gens:List Comprehension)=>B1s (c:=c) (p:=pos) (spos:=pos) (elt:=elt) (gens:=gens) ok.kind (show c.env.kindOf x=_ by rw [he];exact hx) hw
 cases ct with
 | nil=>exact A3D (ct:=none) (tup:=tup) ok he (hs.toC _) hset hlen hx (sw _) hl hi fun own'=>A3F X ok room hg hs h
 | cons t ts=>exact x2 h fun hc h=>A0O hc (A3D (ct:=some t) (tup:=tup) ok he (hs.toC _) hset hlen hx (sw _) hl hi fun own'=>A5H X ok room hg hs h)
theorem B1B (X:Snd G C₀ r){t:Expr}(h:C5t G.K r b d ρ value t=some res)(ok:c.Ok G A)(room:Room A b)(he:c.env=d.env f c.L)(hl:Locs G C₀ (vis c own) m ρ)(hg:EnvG c.env)(hn:NamesOk G C₀ c A m own c.env (nmF G.K d ρ)):
  Ex G C₀ c A m own (exec (.Assign [t] value pos) c.env) res:=by
 cases t with
 | Name=>exact xm h (fun lc hlc h=>B4B hlc (x3 h fun g h1 h=>x3 h fun p h2 h=>x2 h fun hc h=>x3 h fun q hq h=>x2 h fun hlen h=>x4 h fun ys hy=>x7 hc fun c1 c2 c3 c4=>A1b h1 (B3r h2 fun px=>
   B5w X (tup:=q.1) hy ok room he hg (A1T c2) c3 (a0B hlen) (a0D c1) c4 hl (X.E (A6z hq) ok room hg hn)))) fun Ω h=>x2 h fun hc h=>x4 h fun v hv=>x5 hc fun c1 c2=>A5f ok he (a0D c1) c2 hl (X.E hv ok room hg hn)
 | Tuple elts=>exact x3 h fun lc hlc h=>x3 h fun xs hxs h=>x3 h fun rs hv h=>x2 h fun hc h=>x5 hc fun c1 c2=>x1 h (A5E ok he hxs (fun x hx=>a0D (a0J.mp c1 x hx)) (a0D c2) (B4B hlc rfl) hl (X.E (A5V hv) ok room hg hn))
 | _=>exact x0 h
theorem Ex.weak {t:Sem Flow}{res':SRes}(h:Ex G C₀ c A m own t res)(hb:res.bad=true→res'.bad=true)(k: ∀ own' m' fl,FlRep G C₀ (vis c (own'++own)) m m' fl res→FlRep G C₀ (vis c (own'++own)) m m' fl res'):Ex G C₀ c A m own t res':=
 fun s Q E S en q=>h s Q E S (en.less hb) fun own' m' fl s' S' R=>q own' m' fl s' S' (k own' m' fl R)
theorem Locs.up {m':Str→Option Value}{v w:V}(h:Locs G C₀ Z m' ((x,v)::ρ))(k: ∀ u,Rep G C₀ Z u v→Rep G C₀ Z u w):Locs G C₀ Z m' ((x,w)::ρ):=fun y r e=>by
 rw [a0M] at e
 cases q:y==x with
 | true=>
  rw [q] at e
  obtain⟨u,h1,h2⟩:=h y v (by rw [a0M,q])
  exact⟨u,h1,x1 e (k u h2)⟩
 | false=>
  rw [q] at e
  exact h y r (by rw [a0M,q];exact e)
theorem Locs.put {m':Str→Option Value}{v w:V}(h:Locs G C₀ Z m' ρ)(hx:ρ.lookup x=some v)(k: ∀ u,Rep G C₀ Z u v→Rep G C₀ Z u w):Locs G C₀ Z m' ((x,w)::ρ):=fun y r e=>by
 rw [a0M] at e
 cases q:y==x with
 | true=>
  rw [q] at e
  obtain⟨u,h1,h2⟩:=h x v hx
  exact⟨u,a0D q▸h1,x1 e (k u h2)⟩
 | false=>
  rw [q] at e
  exact h y r e
theorem B3v (X:Snd G C₀ r){test:Expr}{body orelse:List Stmt}(h:sIf G.K r b d ρ t body orelse=some res)(ok:c.Ok G A)(room:Room A b)(he:c.env=d.env f c.L)(hl:Locs G C₀ (vis c own) m ρ)(hg:EnvG c.env)(hn:NamesOk G C₀ c A m own c.env (nmF G.K d ρ))
  (T:EvT G c A m own (isTrue test c.env (eval test c.env)) t):Ex G C₀ c A m own (exec (.If test body orelse pos) c.env) res:=by
 have plain: ∀ {res},r.S b d ρ (bif t then body else orelse)=some res→Ex G C₀ c A m own (exec (.If test body orelse pos) c.env) res:=fun h=>A3B T fun own'=>by cases t<;>exact X.S h ok room he (hl.mono A0a)
 refine xm h (fun st hst h=>x2 hst fun ho hst=>xm h (fun p hp h=> ?_) fun Ω h=>xm h (fun Ω Ω h=>xm h (fun res' hr h=>x1 h ?_) fun Ω h=> ?_) fun Ω h=>plain h) fun Ω h=>plain h
 ·refine x2 h fun hx h=>x3 h fun a ha h=>x3 h fun v hv h=>x2 h fun hb h=>x3 h fun y hy h=>x4 h fun z hz=>A0O ho (A1b hst (B3m hp fun p1 p2=>A3B T fun own'=> ?_))
  cases t with
  | true=>
   refine(Ex.one (A4d (p':=p1) (pos:=p2) ok he (a0D hx) (hl.mono A0a) (A0i ha) (X.E (A0i hv) ok room hg (hn.more own')) hy hb)).weak id fun own'' m' fl R=> ?_
   exact⟨R.1,R.2.1.up fun u h2=> .s (A7Q hz h2.sI),R.2.2⟩
  | false=>exact(A2h (hl.mono A0a)).weak id fun own'' m' fl R=>⟨R.1,R.2.1.put (A0i ha) fun u h2=> .s (A7P hz h2.sI),fun u Ω=>R.2.2 u fun q=>nomatch q⟩
 ·cases t with
  | true=>exact x0 h
  | false=>exact plain h
 ·exact A0O ho (B7e T (fun own'=>X.S hr ok room he (hl.mono A0a)) fun own'=>A2h (hl.mono A0a))
theorem A1A (X:Snd G C₀ r){st:Stmt}(h:B5D G.K r C₀ b d ρ st=some res)(ok:c.Ok G A)(room:Room A b)(he:c.env=d.env f c.L)(hl:Locs G C₀ (vis c own) m ρ):Ex G C₀ c A m own (exec st c.env) res:=by
 have hg:EnvG c.env:=A0n he
 have hn:NamesOk G C₀ c A m own c.env (nmF G.K d ρ):=A0f ok he hl
 cases st with
 | Return v=>exact x3 h fun e hv h=>x4 h fun w hw=>hv▸A2i (X.E hw ok room hg hn)
 | Assign=>exact x3 h fun t ht h=>A1b ht (B1B X h ok room he hl hg hn)
 | AugAssign=>exact x3 h fun p hp h=>x2 h fun hx h=>x3 h fun a ha h=>x3 h fun v hv h=>x2 h fun hb h=>x3 h fun y hy h=>x1 h (B3m hp fun p1 p2=>A4d ok he (a0D hx) hl (A0i ha) (X.E (A0i hv) ok room hg hn) hy hb)
 | Expr=>
  refine x3 h fun p h1 h=>x3 h fun q h2 h=>x2 h fun hc h=>x3 h fun d' ho h=>x2 h fun hb h=>x4 h fun t ht=>x6 hc fun c1 c2 c3=>A9C h1 (B0V h2 ?_)
  rw [a0D c3]
  refine B7f (P:=fun Ω v=>t=true∧v= .none) rfl hl (A6X ok) (A2s (n:=d'.n) ok (room.less (a0B hb)) c1 c2 (X.E (B3t ho) ok room hg hn) fun own' w R=> ?_) fun Z v p=>⟨p.2,p.1⟩
  obtain⟨x,C,dx,es,k,rfl,z1,z2,K⟩:=R.inst_inv
  obtain⟨f',h1,h2,h3,h4,h5⟩:=K.ver _ ht
  exact⟨x,C,dx,es,k,f',_,rfl,z1,z2,K.plain,h1,h2,h3,h4,h5,Held.le.rfl⟩
 | Raise e cc p=>
  refine x3 h fun e he' h=>x2 h fun hcc h=>x4 h fun w hw=>x3 hw fun p hp hw=>x2 hw fun hc hw=>x7 hc fun c1 c2 c3 c4=>x5 c4 fun c4 c5=> ?_
  have c2:=a0D c2
  rw [he',Option.isNone_iff_eq_none.mp hcc]
  exact B7h hp fun p1 p2=>B7d ok c1 c2 c3 (A8m ok he c2 (a0D c4) (xn c5) fun Ω=> .k) fun own'=>X.E hw ok room hg (hn.more own')
 | If=>exact x3 h fun t ht h=>B3v X h ok room he hl hg hn (X.T ht ok room hg hn)
 | For=>exact x3 h fun x hx h=>x2 h fun hc h=>x3 h fun q hq h=>x2 h fun Ω h=>x6 hc fun c0 c1 c2=>A0T hx fun px=>A0O c0 (C2L (tup:=q.1) X ok room he (a0D c1) c2 hl (X.E (A6z hq) ok room hg hn) h)
 | While=>exact x2 h fun hc h=>x3 h fun t ht h=>xb h (fun Ω h=>x0 h) fun e h=>x1 h (A0O hc (B4z hl (e▸X.T ht ok room hg hn) rfl))
 | _=>exact x0 h
end
section
variable {r:Evs}
structure HkOk (G:Gx)(C₀:Addr)(hk:Hk):Prop where
 E: ∀ {r b η e v},Snd G C₀ r→hk.E r b η e=some (some v)→ ∀ {c A m own env},c.Ok G A→Room A b→EnvG env→NamesOk G C₀ c A m own env η→Ev G C₀ c A m own (eval e env) v
 T: ∀ {r b η e t},Snd G C₀ r→hk.T r b η e=some (some t)→ ∀ {c A m own env},c.Ok G A→Room A b→EnvG env→NamesOk G C₀ c A m own env η→EvT G c A m own (isTrue e env (eval e env)) t
 M: ∀ {r b o nm rs v},Snd G C₀ r→hk.M r b o nm rs=some (some v)→ ∀ {c A m own env oe apos args pos},c.Ok G A→Room A b→A0v oe=true→(apos.endLine==pos.line)=true→args.all A0g=true→args.length<30→rs.length=args.length→
  Ev G C₀ c A m own (eval oe env) o→(∀ own',EvL G C₀ c A m (own'++own) (spliced (backTo pos (starEach args env))) rs)→Ev G C₀ c A m own (eval (.Call (.Attribute oe nm apos) args [] pos) env) v
 C: ∀ {r b f rs v},Snd G C₀ r→hk.C r b f rs=some (some v)→ ∀ {c A m own vs},c.Ok G A→Room A b→Reps G C₀ (vis c own) vs rs→EvR G C₀ c A m own False (call f vs) (fun Z w=>Rep G C₀ Z w v)
 S: ∀ {r b d ρ st res},Snd G C₀ r→hk.S r b d ρ st=some (some res)→ ∀ {f c A m own},c.Ok G A→Room A b→c.env=d.env f c.L→Locs G C₀ (vis c own) m ρ→Ex G C₀ c A m own (exec st c.env) res
theorem HkOk.nil:HkOk G C₀ Hk.nil:=⟨fun Ω h=>(nomatch h),fun Ω h=>(nomatch h),fun Ω h=>(nomatch h),fun Ω h=>(nomatch h),fun Ω h=>(nomatch h)⟩
theorem A4Q {α:Type}{a b:Option (Option α)}{v:α}(h:a.or b=some (some v)):a=some (some v)∨b=some (some v):=by
 cases a with
 | none=>exact .inr h
 | some x=>exact .inl h
theorem HkOk.or {h k:Hk}(x:HkOk G C₀ h)(y:HkOk G C₀ k):HkOk G C₀ (h.or k):=
 ⟨fun X e Ω Ω Ω Ω Ω a b c d=>(A4Q e).elim (fun e=>x.E X e a b c d) fun e=>y.E X e a b c d,fun X e Ω Ω Ω Ω Ω a b c d=>(A4Q e).elim (fun e=>x.T X e a b c d) fun e=>y.T X e a b c d,
  fun X e Ω Ω Ω Ω Ω Ω Ω Ω Ω a b c d e1 e2 e3 e4 e5=>(A4Q e).elim (fun e=>x.M X e a b c d e1 e2 e3 e4 e5) fun e=>y.M X e a b c d e1 e2 e3 e4 e5,
  fun X e Ω Ω Ω Ω Ω a b c=>(A4Q e).elim (fun e=>x.C X e a b c) fun e=>y.C X e a b c,fun X e Ω Ω Ω Ω Ω a b c d=>(A4Q e).elim (fun e=>x.S X e a b c d) fun e=>y.S X e a b c d⟩
theorem A0M {α:Type}{a:Option (Option α)}{b:Option α}{v:α}(h:A3U a b=some v):a=some (some v)∨b=some v:=by
 cases a with
 | none=>exact .inr h
 | some x=>exact .inl (congrArg some h)
theorem A7A {hk:Hk}(X:Snd G C₀ r)(H:HkOk G C₀ hk)(ok:c.Ok G A)(room:Room A b)(he:c.env=d.env f c.L){sts:List Stmt}: ∀ {ρ:Loc} {res:SRes} {m:Str→Option Value} {own:List (Addr×Obj)},B3g G.K r hk C₀ b d sts ρ=some res→Locs G C₀ (vis c own) m ρ→Ex G C₀ c A m own (execs sts c.env) res:=by
 induction sts with
 | nil=>exact fun h hl=>x1 h (A2h hl)
 | cons st rest ih=>exact fun h hl=>x3 h fun r1 h1 h=>B4y r1 _ h ((A0M h1).elim (fun h1=>H.S X h1 ok room he hl) fun h1=>A1A X h1 ok room he hl) fun ρ' res' own' m' hk hl'=>ih hk hl'
end
structure GxOk (G:Gx)(fl:Str):Prop where
 file:G.prog.main.file=fl
 noSuper:(G.prog.main.scope.names.lookup ("super" :Str)).isSome=false
section
variable {r:Evs}
theorem B1e (X:Snd G C₀ r)(h:(r.F b f rs).bind okB=some t)(R:Reps G C₀ Z vs rs):Calls G C₀ b Z f ⟨vs,[]⟩ (fun H w=>t=true∧w= .none) (t=false):=
 x3 h fun res h1 h2=>(X.F h1 R).mono (a0K _) Held.le.rfl (fun H w p=>(B0q h2).2 p) fun q=>xn ((B0q (G:=G) (C₀:=C₀) (Z:=Z) (w:= .none) h2).1.symm.trans q)
theorem C0s {ns:List Str}(X:Snd G C₀ r)(h:r.S b d (ns.zip rs) d.body=some res)(hnd:ns.Nodup)(hl:vs.length=ns.length)(R:Reps G C₀ Z vs rs):
  C5P G C₀ b Z f d (ns.zip vs) (fun H w=>FinRep G C₀ H w res) (res.bad=true):=by
 intro c A s Q E ok he room S le q en
 have hm: ∀ y,(ns.zip vs).reverse.lookup y=(ns.zip vs).lookup y:=fun y=>A0X (by rw [A1y hl];exact hnd)
 have hl':Locs G C₀ (vis c []) (fun y=>(ns.zip vs).reverse.lookup y) (ns.zip rs):=fun x r e=>by
  obtain⟨v,h1,h2⟩:=A1L R e
  exact⟨v,(hm x).trans h1,h2.mono le⟩
 refine X.S h ok room he hl' s Q E S en fun own' m' fl s' S' R'=> ?_
 rw [a1H] at S' R'
 exact q own' m' fl s' S' R'.fin
theorem A3P {a:Addr}(h:A4K v=some a):v= .ref a:=by
 cases v with
 | ref=>exact congrArg Value.ref (a0E h)
 | _=>exact x0 h
theorem B5K {s:Str}(h:B3q v=some s): ∃ t,v= .str s t:=by
 cases v with
 | str x t=>exact⟨t,congrArg (Value.str · t) (a0E h)⟩
 | _=>exact x0 h
theorem A9A {o:Option Obj}{vs:Array Value}(h:B0Q o=some vs): ∃ a b sl,o=some ⟨a,b,.fields vs,sl⟩:=by
 cases o with
 | none=>exact x0 h
 | some o=>
  obtain⟨a,b,dt,e⟩:=o
  cases dt with
  | fields ws=>exact⟨a,b,e,by rw [←a0E h]⟩
  | _=>exact x0 h
theorem B5b {o:Option Obj}{D:Addr}(h:B8s o=some D): ∃ a b sl,o=some ⟨a,b,.cell (some (.ref D)),sl⟩:=by
 cases o with
 | none=>exact x0 h
 | some o=>
  obtain⟨a,b,dt,e⟩:=o
  cases dt with
  | cell ws=>exact⟨a,b,e,x3 h fun v hv h=>by rw [hv,A3P h]⟩
  | _=>exact x0 h
theorem B1Y {a:Str}: [(a,v)].reverse.lookup a=some v:=by
 show List.lookup a [(a,v)]=_
 rw [a0M,a2B]
theorem B7u {o:Expr}{attr:Str}{apos:Pos}(hpos:(apos.endLine==pos.line)=true):eval (.Call (.Attribute o attr apos) [] [] pos) env=(do
  let ov ←attributeBase o attr env (eval o env)
  standAt apos.atName
  let (f',first) ←holding [ov] (getMethod ov attr (do return (←importBound o env).getD true))
  callWith pos f' first (backTo pos (starEach [] env)) []):=by
 rw [arm_eval_Call]
 exact congrArg _ (funext fun ov=>congrArg _ (funext fun Ω=>A0j hpos rfl (by decide)))
theorem B7a {fl:Str}(gx:GxOk G fl)(X:Snd G C₀ r){x:Addr}{f2:Addr}{fs:List (Str×V)}{ns:List Str}{attr:Str}{p0 p1 apos epos:Pos}{rest:List Stmt}
  (e:A2V G.K f=some d) (q:A0H G.K f d=true) (hp:A0r d.params=some ns) (hns:ns.length=1) (hloc: ∀ y∈ns,d.scope.names.lookup y=some .local) (hd:A1s G.K d.dV=true)
  (hb:d.body= .Expr (.Call (.Attribute (.Call (.Name "super" p0) [] [] p1) attr apos) [] [] pos) epos::rest) (hpos:(apos.endLine==pos.line)=true) (hs:B2V G.K fl d attr C=some f2) (ht:(r.F b f2 [.inst C fs]).bind okB=some t)
  (hr:r.S b d (ns.zip [.inst C fs]) rest=some res) (R:Rep G C₀ Z (.ref x) (.inst C fs)):Calls G C₀ (b+1) Z f ⟨[.ref x],[]⟩ (fun H w=>FinRep G C₀ H w (.ite t res .rse)) ((SRes.ite t res .rse).bad=true):=by
 refine x3 hs fun cc hcc hs=>x3 hs fun cda hcda hs=>x3 hs fun ar har hs=>x3 hs fun vs hvs hs=>x3 hs fun D hD hs=>x3 hs fun file hfile hs=>x2 hs fun hc hs=>x3 hs fun g2 hsup hs=>x2 hs fun hty hs=>x5 hc fun hcn hc=>x8 hc fun hc c6 c7 c8 c9=>x8 hc fun c1 c2 c3 c4 c5=>x5 hty fun hty hfn=> ?_
 obtain rfl:=a0E hs
 obtain⟨_,_,_,hcode⟩:=A9A hvs
 obtain⟨_,_,_,hcell⟩:=B5b hD
 obtain⟨tf,hfile⟩:=x3 hfile fun v hv hfile=>(B5K hfile).imp fun t e=>hv.trans (congrArg some e)
 have c1:=a0D c1
 obtain⟨cn,cc⟩:=cc
 have hcn:cn=_:=a0D hcn
 subst hcn c1
 have hcl:d.cl= [(("__class__" :Str),cc)]:=A1b (motive:=fun l=>l= [_]) hcc rfl
 have har:d.params.posonlyargs++d.params.args= [ar]:=A1b (motive:=fun l=>l= [_]) har rfl
 have hcdv:=A3P hcda
 have hdat:d.data=ksFn d.name d.qual d.params d.body d.scope d.dV d.kV d.doc d.pm d.an (.ref cda) d.ct cc:=by rw [Fd.data,hcl,hcdv]
 have hsup:ks_superIn G.K C D attr=some (some (.ref g2)):=C2J (motive:=fun o=>o=some (some (.ref g2))) hsup rfl
 obtain⟨a,rfl⟩: ∃ a,ns= [a]:=List.length_eq_one_iff.mp hns
 have hpp:=A1C hp
 have hna:a=ar.arg:=by
  have h:=hpp.names
  rw [hpp.pos,List.nil_append] at har
  rw [har] at h
  exact(List.cons.inj h).1.symm
 have har:(d.params.posonlyargs++d.params.args).head?=some ar:=by rw [har];rfl
 obtain⟨oc,od,sl,ho,hwl⟩:=A3z e q
 rw [hcdv] at hwl
 rw [hdat] at ho
 intro c A m own s RR ok room S le k er
 refine x8 hwl fun hcd h1 h2 h3 h4=> ?_
 have h4:=a0D h4
 have hbind:=A0Z (d:=d) (ns:= [a]) (vs:= [.ref x]) (S.X ok) hp rfl hd
 rw [hdat] at hbind
 obtain⟨A₀,B⟩:=ok.below
 refine ks_code_super (prog:=G.prog) (w:=G.w) B S.F ok.X₀ S.N ok.T₀ ok.frames ok.frame ok.kind ho hcd room.depth hbind (fun y hy=> ?_) (fun g L' h₁ FG F' N' B' X' T' lt=> ?_) (fun x hx=>bne_iff_ne.mp (a0J.mp h1 x hx)) (xn h2) (xn h3) h4
 ·rw [a0L.mp hy];exact hloc a (a0L.mpr rfl)
 have henv:ksEnv d.qual d.scope L' f (.ref cda) cc=d.env f L':=by rw [Fd.env,hcl,hcdv]
 let c':Fc:=⟨c.base,c.env::c.outer,g,L',ksEnv d.qual d.scope L' f (.ref cda) cc,own++c.news,vis c own,c.os,c.dr⟩
 have st:(A7v c.h₀ (own++c.news)).le (A7v g (own++c.news)):=A1f fun b o z=>FG.keep b o z
 have S':St c' (fun y=> [(a,Value.ref x)].reverse.lookup y) [] {s with heap:=h₁,toks:=s.toks+1}:=⟨F',N',S.gens,S.os,S.dr⟩
 have ok':c'.Ok G (A.deeper c'.env):=⟨⟨_,B'⟩,a2M B'.stack,rfl,h4,ok.free,ok.XB,ok.TB,ok.vis_held.trans st⟩
 have room':Room (A.deeper c'.env) b:=room.deeper (a1A b)
 have en:Ends G C₀ c' (A.deeper c'.env) [] ((SRes.ite t res .rse).bad=true) (fun e s'=>wpAny G.M (A.deeper c'.env) (leaving c'.env e) (fun Ω s''=>RR (.error e) s'') (fun e' s''=>RR (.error e') s'') s'):=by
  refine⟨fun hr h m' own' e vs s' hx F N hg hos hdr=>A1R rfl B' hx F N (fun h' t R U=>er _ _ hr ⟨e,t,vs,g,own'++ [],rfl,FG,U,R,hg,hos,hdr⟩) h4,fun hr m' own' e s' x=> ?_,PassesOwn.leaving⟩
  obtain⟨a,t,vs,G',own'',rfl,FG',U,R,hg,hos,hdr⟩:=x
  exact A3x rfl B' FG' (by rw [←a0C] at R;exact R) U (fun h' R U=>er _ _ hr ⟨a,t,vs,g,own''++ (own'++ []),rfl,FG,U,R,hg,hos,hdr⟩)
 obtain⟨x',dx,es,kk,hxe,z1,z2,hfs⟩:=R.inst_at
 obtain rfl:=Value.ref.inj hxe
 have zz1:vis c' [] x ⟨.ref C,some dx,.plain,#[]⟩:= .inl (le _ _ z1)
 have zz2:vis c' [] dx (dictOf es kk):= .inl (le _ _ z2)
 rw [hb]
 refine ks_wpAt_execs_cons (ks_wpAt_Expr_any (ks_wpAt_MethodCall (ks_node S'.F X' S'.N T' ho har (by rw [←hna];exact B1Y) (inst_at S' ok' zz1 zz2) hcode hfile (by rw [gx.file];exact a2B _) hcell (Option.eq_some_of_isSome c2) (a0D c3) (a0D c4) (a0D c5) (a0D c6) (a0D c7) (a0D c8) h4 gx.noSuper (by decide+kernel) fun so h₂ F₂ N₂ lt₂=> ?_) (B7u hpos)) (A6X ok') (A0l rfl))
 have S₂:St c' (fun y=> [(a,Value.ref x)].reverse.lookup y) [(so,ks_superObj D x C)] {s with heap:=h₂,toks:=s.toks+1}:=⟨F₂,N₂,S.gens,S.os,S.dr⟩
 refine ks_method S₂.F X' S₂.N (.head _) (inst_at S₂ ok' (A0a (own':= [(so,ks_superObj D x C)]) _ _ zz1) (A0a (own':= [(so,ks_superObj D x C)]) _ _ zz2)) (a0D c9) hsup (a0D hty) (a0D c5) fun q' h₃ F₃ N₃ lt₃=> ?_
 have S₃:St c' (fun y=> [(a,Value.ref x)].reverse.lookup y) [(q',methodObj (.ref g2) (.ref x)),(so,ks_superObj D x C)] {s with heap:=h₃,toks:=s.toks+1+1}:=⟨F₃,N₃,S.gens,S.os,S.dr⟩
 refine callWith_M0 (methP S₃.N (.head _) (S₃.X ok')) hfn (call_meth S₃.N (.head _) ?_)
 have hle:Z.le (vis c' [(q',methodObj (.ref g2) (.ref x)),(so,ks_superObj D x C)]):=le.trans fun Ω Ω z=> .inl z
 refine B1e X ht (.cons R .nil) c' _ _ _ _ _ ok' room' S₃ hle (fun own' v s₄ S₄ p=> ?_) fun e s₄ hr' R'=>en.came (by subst hr';rfl) _ [(q',methodObj (.ref g2) (.ref x)),(so,ks_superObj D x C)] e s₄ (by rw [a1H];exact R')
 obtain rfl:=p.1
 refine wpAt_of_wpAny ?_
 have hl':Locs G C₀ (vis c' (own'++ [(q',methodObj (.ref g2) (.ref x)),(so,ks_superObj D x C)])) (fun y=> [(a,Value.ref x)].reverse.lookup y) ([a].zip [V.inst C fs]):=fun y r e=>by
  obtain⟨v,h1,h2⟩:=A1L (ns:= [a]) (vs:= [.ref x]) (.cons R .nil) e
  exact⟨v,h1,h2.mono (hle.trans A0a)⟩
 have en2:=Ends.more (own':=own'++ [(q',methodObj (.ref g2) (.ref x)),(so,ks_superObj D x C)]) en
 rw [a1H] at en2
 refine X.S hr ok' room' henv hl' s₄ _ _ S₄ en2 fun own'' m' fl s₅ S₅ R₅=> ?_
 refine leaveK_ S₅.F S₅.N fun F₆ N₆=>k (own''++ (own'++ [(q',methodObj (.ref g2) (.ref x)),(so,ks_superObj D x C)])) _ s₅ ⟨F₆,by rw [a0C];exact N₆,S₅.gens,S₅.os,S₅.dr⟩ ?_
 exact FinRep.mono (fun a o h=>h.elim (fun z=>A0a a o z) fun z=> .inr (a0H _ z)) R₅.fin
def C0L (G:Gx)(C₀:Addr)(sp:Sp):Prop:= ∀ f rs n res,sp f rs=some (n,res)→ ∀ Z vs,Reps G C₀ Z vs rs→Calls G C₀ n Z f ⟨vs,[]⟩ (fun H w=>FinRep G C₀ H w res) (res.bad=true)
theorem B1u {sts:List Stmt}{p:Str×List Stmt}(h:B2W sts=some p): ∃ p0 p1 apos pos epos,sts= .Expr (.Call (.Attribute (.Call (.Name "super" p0) [] [] p1) p.1 apos) [] [] pos) epos::p.2∧(apos.endLine==pos.line)=true:=by
 cases sts with
 | nil=>exact x0 h
 | cons st rest=>cases st with
  | Expr e pos=>
   refine x3 h fun p h1 h=>x3 h fun q h2 h=>x3 h fun s h3 h=>x3 h fun x hx h=>x2 h fun hc h=>x5 hc fun c1 c2=> ?_
   obtain rfl:=a0E h
   obtain rfl:=a0D c1
   exact A9C h1 (B0V (motive:=fun e=> ∃ p0 p1 apos pos' epos,Stmt.Expr (.Call e [] [] p.2) pos::rest= .Expr (.Call (.Attribute (.Call (.Name "super" p0) [] [] p1) q.2.1 apos) [] [] pos') epos::rest∧(apos.endLine==pos'.line)=true) h2
    (A9C (motive:=fun e=> ∃ p0 p1 apos pos' epos,Stmt.Expr (.Call (.Attribute e q.2.1 q.2.2) [] [] p.2) pos::rest= .Expr (.Call (.Attribute (.Call (.Name "super" p0) [] [] p1) q.2.1 apos) [] [] pos') epos::rest∧(apos.endLine==pos'.line)=true) h3
    (A0T (motive:=fun e=> ∃ p0 p1 apos pos' epos,Stmt.Expr (.Call (.Attribute (.Call e [] [] s.2) q.2.1 q.2.2) [] [] p.2) pos::rest= .Expr (.Call (.Attribute (.Call (.Name "super" p0) [] [] p1) q.2.1 apos) [] [] pos') epos::rest∧(apos.endLine==pos'.line)=true) hx fun p0=>⟨p0,s.2,q.2.2,p.2,pos,rfl,c2⟩)))
  | _=>exact x0 h
theorem A7B {fl:Str}(gx:GxOk G fl)(X:Snd G C₀ r)(h:B7M G.K r fl b f rs=some res)(R:Reps G C₀ Z vs rs):
  Calls G C₀ b Z f ⟨vs,[]⟩ (fun H w=>FinRep G C₀ H w res) (res.bad=true):=by
 refine xp h fun b' eb h=>x3 h fun d e h=>x2 h fun q h=>x3 h fun ns hp h=>x2 h fun hc hh=>x6 hc fun c1 c2 c3=> ?_
 subst eb
 have hlen:vs.length=ns.length:=R.length.trans (a0D c1).symm
 have hloc: ∀ y∈ns,d.scope.names.lookup y=some .local:=fun y hy=>a0D (a0J.mp c2 y hy)
 refine xm hh (fun p hq h=>x3 h fun f2 hf2 h=>x3 h fun t ht h=>x4 h fun res' hres=>x3 hq fun s hs hq=>x4e hq fun w hw ep=> ?_) fun Ω hS=>
  A3J e q (fun s X=>A0Z X hp hlen c3) (fun y hy=>hloc y.1 (a2T (a:=y.1) (b:=y.2) hy).1) (fun H H' v k p=>p.mono k) (C0s X hS (A1C hp).nodup hlen R)
 subst ep
 obtain⟨p0,p1,apos,pos,epos,hb,hpos⟩:=B1u hs
 refine x3 hw fun a ha hw=> ?_
 have ha:rs= [.inst w.1 w.2]:=A1b (motive:=fun l=>l= [V.inst w.1 w.2]) ha (A4u (motive:=fun a=> [a]= [V.inst w.1 w.2]) hw rfl)
 subst ha
 obtain⟨x,vs',rfl,Rx,R⟩:=R.consI
 obtain rfl:=R.nilI
 obtain⟨x,dx,es,k,rfl,z1,z2,hfs⟩:=Rx.inst_at
 exact B7a gx X e q hp (a0D c1) hloc c3 hb hpos hf2 ht hres Rx
theorem A8V {fl:Str}{sp:Sp}(gx:GxOk G fl)(hsp:C0L G C₀ sp)(X:Snd G C₀ r)(h:C1o G.K r fl sp b f rs=some res)(R:Reps G C₀ Z vs rs):
  Calls G C₀ b Z f ⟨vs,[]⟩ (fun H w=>FinRep G C₀ H w res) (res.bad=true):=
 xm h (fun p hs h=>x2 h fun hb h=>x1 h ((hsp f rs p.1 p.2 hs Z vs R).mono (a0B hb) Held.le.rfl (fun Ω Ω p=>p) id)) fun Ω h=>A7B gx X h R
theorem A0B {fl:Str}{sp:Sp}{hk:Hk}(gx:GxOk G fl)(hsp:C0L G C₀ sp)(H:HkOk G C₀ hk)(n:Nat):Snd G C₀ (evs G.K fl C₀ sp hk n):=by
 induction n with
 | zero=>exact⟨fun h=>x0 h,fun h=>x0 h,fun h=>x0 h,fun h=>x0 h,fun h=>x0 h,fun h=>x0 h,fun h=>x0 h⟩
 | succ n X=>exact⟨fun h c A m own env ok room hg hn=>(A0M h).elim (fun h=>H.E X h ok room hg hn) fun h=>A8W X h ok room hg hn,fun h c A m own env ok room hg hn=>(A0M h).elim (fun h=>H.T X h ok room hg hn) fun h=>A8T X h ok room hg hn,
  fun h c A m own x ok room R=>A8Y X h ok room R,
  fun h c A m own env oe apos args pos ok room h1 h2 h3 h4 h5 ho ha=>(A0M h).elim (fun h=>H.M X h ok room h1 h2 h3 h4 h5 ho ha) fun h=>A2Z X h ok room h1 h2 h3 h4 h5 ho ha,fun h c A m own vs ok room R=>(A0M h).elim (fun h=>H.C X h ok room R) fun h=>A8X X h ok room R,
  fun h Z vs R=>A8V gx hsp X h R,fun h f c A m own ok room he hl=>A7A X H ok room he h hl⟩
end
section
open Sem (wp)
open AutoSeq1 (wpAny_loadPart')
section
variable {w:World}
theorem B1O {it t:Addr}{i:Nat}{items:Array Value}{x:Value}(hit:s.heap.IsTupleIter it t i)(ht:s.heap.IsTuple t items)(hx:items[i]?=some x)
  (hQ: ∀ h',h'.IsTupleIter it t (i+1)→Heap.SameBut it s.heap h'→Q x {s with heap:=h'}):wpAny (model prog w) A (Builtin.SmallTypes.nextOf (.ref it)) Q E s:=by
 obtain⟨o,ho,hc,hd⟩:=id hit
 obtain⟨ol,hol,_,nl,hdl⟩:=ht
 unfold Builtin.SmallTypes.nextOf
 refine a0A (wpAny_callSpecial?_slot (name:=Str.ofString "__next__") hit.typeIs F.slot_tuple_iterator_next
  (a2Y F.slot_tuple_iterator_next hit.typeIs F.entry_tuple_iterator_next ?_ (F.args_tuple_iterator_next_1 _)))
 show wpAny _ _ (field (.ref it) 0>>=_) _ _ s
 refine a0A (a1S ho hd (x:= .ref t) rfl ?_)
 show wpAny _ _ (if (Value.ref t==Value.none)=true then _ else _) _ _ s
 rw [if_neg (show ¬ ((Value.ref t==Value.none)=true) from a2W)]
 show wpAny _ _ (field (.ref it) 1>>=_) _ _ s
 refine a0A (a1S ho hd (x:= .int i 0) rfl ?_)
 show wpAny _ _ (seqItems? (.ref t)>>=_) _ _ s
 refine a0A (wpAny_seqItems hol hdl ?_)
 simp only [Int.toNat_natCast,hx]
 refine a0A (wpAny_setField ho hd (by simp) (a0I ⟨x,rfl,a0I (hQ _ ?_ (Heap.SameBut.update ..))⟩))
 exact⟨_,Heap.get?_update_self _ ho (Obj.isFreed_of_fields (Obj.data_mapFields hd _)),(Obj.cls_mapFields ..).trans hc,by
  rw [Obj.data_mapFields hd];simp [rawInt]⟩
theorem A5z {it t:Addr}{i:Nat}{items:Array Value}(hh:A.handled=none)(hit:s.heap.IsTupleIter it t i)(ht:s.heap.IsTuple t items)(hx:items[i]?=none)
  (hE: ∀ h' e,Heap.ExtBut it s.heap h'→(∃ o,h'.get? e=some o∧o.cls= .type "StopIteration")→E (.ref e) {s with heap:=h'}):wpAny (model prog w) A (Builtin.SmallTypes.nextOf (.ref it)) Q E s:=by
 obtain⟨o,ho,hc,hd⟩:=id hit
 obtain⟨ol,hol,_,nl,hdl⟩:=ht
 unfold Builtin.SmallTypes.nextOf
 refine a0A (wpAny_callSpecial?_slot (name:=Str.ofString "__next__") hit.typeIs F.slot_tuple_iterator_next
  (a2Y F.slot_tuple_iterator_next hit.typeIs F.entry_tuple_iterator_next ?_ (F.args_tuple_iterator_next_1 _)))
 show wpAny _ _ (field (.ref it) 0>>=_) _ _ s
 refine a0A (a1S ho hd (x:= .ref t) rfl ?_)
 show wpAny _ _ (if (Value.ref t==Value.none)=true then _ else _) _ _ s
 rw [if_neg (show ¬ ((Value.ref t==Value.none)=true) from a2W)]
 show wpAny _ _ (field (.ref it) 1>>=_) _ _ s
 refine a0A (a1S ho hd (x:= .int i 0) rfl ?_)
 show wpAny _ _ (seqItems? (.ref t)>>=_) _ _ s
 refine a0A (wpAny_seqItems hol hdl ?_)
 dsimp only
 rw [show items[(i:Int).toNat]?=none from hx]
 refine a0A (wpAny_rule (a0A (wpAny_setField ho hd (by simp) ?_)))
 show wpAny _ _ ((newObj (.type "tuple") (.seq #[])>>=_)>>=_) _ _ _
 refine a0A (a0A (a2J ?_ (by size_fits)))
 show wpAny _ _ (firstArgMember _ _>>=_) _ _ _
 refine a0A (m:=firstArgMember _ _) (a0U (a:=Value.none) rfl ?_)
 refine a2J ?_ (by size_fits)
 show wpAny _ _ (handled>>=_) _ _ _
 refine a0A (wpAny_handled_none hh ?_)
 refine a0A (a0I (wpAny_throw ?_))
 exact hE _ _ (((Heap.SameBut.update ..).extBut.push _).push _) ⟨_,Heap.get?_push_size _ rfl,rfl⟩
theorem B2u {e it l:Addr}{i:Nat}{items:Array Value}{x old:Value}
  (he:IsEnum s.heap e it i old) (hit:s.heap.IsTupleIter it l i) (hl:s.heap.IsTuple l items) (hx:items[i]?=some x) (hne:e≠it)
  (hQ: ∀ h',IsEnumOut h' e it ((i:Int)+1) x s.heap.objs.size→h'.IsTupleIter it l (i+1)→
   h'.get? s.heap.objs.size=some {cls:= .type "tuple",data:= .seq #[.int i s.toks,x]}→h'.objs.size=s.heap.objs.size+1→
   (∀ b o,b≠e→b≠it→s.heap.get? b=some o→h'.get? b=some o)→Q (.ref s.heap.objs.size) {s with heap:=h',toks:=s.toks+1}):
  wpAny (model prog w) A (Builtin.«enumerate.__next__» ⟨[.ref e],[]⟩) (fun fin s'=> ∃ v,fin= .done (.ret v)∧Q v s') E s:=by
 obtain⟨hp,g,d,tk,os⟩:=s
 show wpAny _ _ (field (.ref e) 2>>=_) _ _ _
 refine a0A (a1S he rfl (x:= .ref it) rfl ?_)
 refine a0A (B1O hit hl hx fun h₁ hit₁ hs₁=> ?_)
 replace hs₁:Heap.SameBut it hp h₁:=hs₁
 have he₁:IsEnum h₁ e it i old:=(hs₁.2 e hne).trans he
 show wpAny _ _ (field (.ref e) 3>>=_) _ _ ⟨h₁,g,d,tk,os⟩
 refine a0A (a1S he₁ rfl (x:=rawInt i) rfl ?_)
 show wpAny _ _ (field (.ref e) 4>>=_) _ _ ⟨h₁,g,d,tk,os⟩
 refine a0A (a1S he₁ rfl (x:= .none) rfl ?_)
 show wpAny _ _ (mkInt i>>=_) _ _ ⟨h₁,g,d,tk,os⟩
 refine a0A (wpAny_mkInt ?_)
 show wpAny _ _ (setField (.ref e) 3 (rawInt ((i:Int)+1))>>=_) _ _ ⟨h₁,g,d,tk+1,os⟩
 refine a0A (a2Q he₁ (by simp) fun h₂ he₂ hs₂=> ?_)
 replace hs₂:Heap.SameBut e h₁ h₂:=hs₂
 replace he₂:IsEnum h₂ e it ((i:Int)+1) old:=he₂
 show wpAny _ _ (setField (.ref e) 4 .none>>=_) _ _ ⟨h₂,g,d,tk+1,os⟩
 refine a0A (a2Q he₂ (by simp) fun h₃ he₃ hs₃=> ?_)
 replace hs₃:Heap.SameBut e h₂ h₃:=hs₃
 replace he₃:IsEnum h₃ e it ((i:Int)+1) old:=he₃
 show wpAny _ _ (newTuple [.int i tk,x]>>=_) _ _ ⟨h₃,g,d,tk+1,os⟩
 refine a0A (wpAny_newTuple ?_)
 have he₄:IsEnum (h₃.push {cls:= .type "tuple",data:= .seq #[.int i tk,x]}) e it ((i:Int)+1) old:=Heap.get?_push_of_some _ he₃
 generalize hh₄:h₃.push {cls:= .type "tuple",data:= .seq #[.int i tk,x]}=h₄ at he₄
 have hsz:h₃.objs.size=hp.objs.size:=by rw [hs₃.1,hs₂.1,hs₁.1]
 have hel:e<hp.objs.size:=a0W he
 have ht₄:h₄.get? hp.objs.size=some {cls:= .type "tuple",data:= .seq #[.int i tk,x]}:=by rw [←hh₄,←hsz];exact Heap.get?_push_size _ rfl
 have hz₄:h₄.objs.size=hp.objs.size+1:=by rw [←hh₄,a1U,hsz]
 have hk₄: ∀ b o,b≠e→b≠it→hp.get? b=some o→h₄.get? b=some o:=fun b o hbe hbi hb=>by
  rw [←hh₄];exact Heap.get?_push_of_some _ (hs₃.extBut b o hbe (hs₂.extBut b o hbe (hs₁.extBut b o hbi hb)))
 have hit₄:h₄.IsTupleIter it l (i+1):=by
  rw [←hh₄];obtain⟨o,ho,r⟩:=(hit₁.extBut hs₂.extBut (a0X hne)).extBut hs₃.extBut (a0X hne);exact⟨o,Heap.get?_push_of_some _ ho,r⟩
 show wpAny _ _ (Builtin.SmallTypes.ownedTupleIsFree (.ref e)>>=_) _ _ ⟨h₄,g,d,tk+1,os⟩
 rw [hsz]
 clear hh₄ he₃ hs₃ he₂ hs₂ he₁ hs₁ hit₁ hsz h₃ h₂ h₁
 refine a0A ?_
 ·unfold Builtin.SmallTypes.ownedTupleIsFree
  refine a0A (a1S he₄ rfl (x:= .none) rfl (a0I ?_))
  refine a0A (wpAny_rule ?_)
  refine a0A (a1S he₄ rfl (x:=old) rfl ?_)
  refine a0A (a2Q he₄ (by simp) fun h₅ he₅ hs₅=> ?_)
  replace hs₅:Heap.SameBut e h₄ h₅:=hs₅
  replace he₅:IsEnum h₅ e it ((i:Int)+1) x:=he₅
  show wpAny _ _ (Builtin.SmallTypes.ownedTupleHandOut (.ref e) (.ref hp.objs.size)>>=_) _ _ ⟨h₅,g,d,tk+1,os⟩
  refine a0A ?_
  ·unfold Builtin.SmallTypes.ownedTupleHandOut
   refine a0A (a2Q he₅ (by simp) fun h₆ he₆ hs₆=> ?_)
   replace hs₆:Heap.SameBut e h₅ h₆:=hs₆
   replace he₆:IsEnumOut h₆ e it ((i:Int)+1) x hp.objs.size:=he₆
   refine a2Q he₆ (by simp) fun h₇ he₇ hs₇=> ?_
   replace hs₇:Heap.SameBut e h₆ h₇:=hs₇
   replace he₇:IsEnumOut h₇ e it ((i:Int)+1) x hp.objs.size:=he₇
   refine a0A (wpAny_letGo (a0I ⟨_,rfl,hQ h₇ he₇ ?_ ?_ ?_ ?_⟩))
   ·exact((hit₄.extBut hs₅.extBut (a0X hne)).extBut hs₆.extBut (a0X hne)).extBut hs₇.extBut (a0X hne)
   ·exact hs₇.extBut _ _ (a2D hel) (hs₆.extBut _ _ (a2D hel) (hs₅.extBut _ _ (a2D hel) ht₄))
   ·rw [hs₇.1,hs₆.1,hs₅.1,hz₄]
   ·exact fun b o hbe hbi hb=>hs₇.extBut b o hbe (hs₆.extBut b o hbe (hs₅.extBut b o hbe (hk₄ b o hbe hbi hb)))
theorem A7I {e it l:Addr}{i:Nat}{items:Array Value}{x old:Value}{Q:Option Value→Shared→Prop}
  (he:IsEnum s.heap e it i old) (hit:s.heap.IsTupleIter it l i) (hl:s.heap.IsTuple l items) (hx:items[i]?=some x) (hne:e≠it)
  (hQ: ∀ h',IsEnumOut h' e it ((i:Int)+1) x s.heap.objs.size→h'.IsTupleIter it l (i+1)→
   h'.get? s.heap.objs.size=some {cls:= .type "tuple",data:= .seq #[.int i s.toks,x]}→h'.objs.size=s.heap.objs.size+1→
   (∀ b o,b≠e→b≠it→s.heap.get? b=some o→h'.get? b=some o)→Q (some (.ref s.heap.objs.size)) {s with heap:=h',toks:=s.toks+1}):
  wpAny (model prog w) A (pyNext (.ref e)) Q E s:=by
 have hT:s.TypeIs (.ref e) "enumerate" :=⟨_,he,rfl⟩
 unfold pyNext
 exact a0A (wpAny_attempt (wpAny_callSpecial?_slot (name:=Str.ofString "__next__") hT F.slot_enumerate_next
  (a2Y F.slot_enumerate_next hT F.entry_enumerate_next
   (B2u he hit hl hx hne fun h' a b c d k=>a0I (hQ h' a b c d k)) (F.args_enumerate_next_1 _))))
theorem A4n {e it l:Addr}{i:Nat}{items:Array Value}{old:Value}{Q:Option Value→Shared→Prop}(hh:A.handled=none)
  (he:IsEnum s.heap e it i old) (hit:s.heap.IsTupleIter it l i) (hl:s.heap.IsTuple l items) (hx:items[i]?=none)
  (hQ: ∀ h',Heap.ExtBut it s.heap h'→Q none {s with heap:=h'}):wpAny (model prog w) A (pyNext (.ref e)) Q E s:=by
 have hT:s.TypeIs (.ref e) "enumerate" :=⟨_,he,rfl⟩
 unfold pyNext
 refine a0A (wpAny_attempt (wpAny_callSpecial?_slot (name:=Str.ofString "__next__") hT F.slot_enumerate_next
  (a2Y F.slot_enumerate_next hT F.entry_enumerate_next ?_ (F.args_enumerate_next_1 _))))
 show wpAny _ _ (field (.ref e) 2>>=_) _ _ _
 refine a0A (a1S he rfl (x:= .ref it) rfl ?_)
 refine a0A (A5z hh hit hl hx fun h' x he' hx'=> ?_)
 obtain⟨o,ho,hc⟩:=hx'
 refine a0A (wpAny_isInstance (T:= "StopIteration") (b:=true) ⟨o,ho,hc⟩ isSubtype_stop ?_)
 exact a0I (hQ _ he')
end
theorem C4e {M:Model}{Q:Bool→Shared→Prop}{a:Bool}(h: ∀ b,Q b s):wpAny M A (pure a) Q E s:=a0I (h a)
theorem A9k (l:Addr)(items:Array Value)(n:Nat)(o:Obj)(ho:o.cls= .type "tuple" ∧o.data= .seq items n):
  Meets (Builtin.«enumerate.__new__» ⟨[.type "enumerate",.ref l],[]⟩) (fun Ω R s=>s.heap.get? l=some o∧
   R (.ok (.ret (.ref (s.heap.push {cls:= .type "tuple_iterator",data:= .fields #[.ref l,.int 0 0]}).objs.size)))
    {s with heap:=(s.heap.push {cls:= .type "tuple_iterator",data:= .fields #[.ref l,.int 0 0]}).push {cls:= .type "enumerate",data:= .fields #[.none,.bool false,.ref s.heap.objs.size,rawInt 0,.none,.none]}}):=
 .of_wp fun prog w A R s h=>by
  obtain⟨hp,g,d,tk,os⟩:=s
  obtain⟨hl,h⟩:=h
  have hsub:=sub_enumerate
  have hL:Heap.IsTuple (Shared.heap ⟨hp,g,d,tk,os⟩) l items:=⟨_,hl,ho.1,n,ho.2⟩
  wp_walk
  refine wpAny_stack_any fun st=>C4e fun b=> ?_
  cases b
  ·wp_walk using wpAny_pyIter_tuple hL
   exact⟨_,rfl,h⟩
  ·wp_walk using wpAny_pyIter_tuple hL
   exact⟨_,rfl,h⟩
theorem B2x {w:World}{l:Addr}{items:Array Value}(hL:s.heap.IsTuple l items)
  (h: ∀ h',IsEnum h' (s.heap.objs.size+1) s.heap.objs.size 0 .none→h'.IsTupleIter s.heap.objs.size l 0→h'.objs.size=s.heap.objs.size+2→
   (∀ b o,s.heap.get? b=some o→h'.get? b=some o)→Q (.ref (s.heap.objs.size+1)) {s with heap:=h'}):wpAny (model prog w) A (call (.type "enumerate") [.ref l]) Q E s:=by
 obtain⟨o,hl,hc,n,hd⟩:=hL
 refine callType_new F.called_enumerate (by decide) (F.typeCall_enumerate_1 _) (F.newCall_enumerate_1 _) (fun obj=>F.args_object_init_2 obj _) F.entry_enumerate_new (A9k l items n o ⟨hc,hd⟩) ⟨hl,?_⟩
 have hz:(s.heap.push {cls:= .type "tuple_iterator",data:= .fields #[.ref l,.int 0 0]}).objs.size=s.heap.objs.size+1:=a1U ..
 show _∧_
 rw [hz]
 have he:IsEnum ((s.heap.push {cls:= .type "tuple_iterator",data:= .fields #[.ref l,.int 0 0]}).push
   {cls:= .type "enumerate",data:= .fields #[.none,.bool false,.ref s.heap.objs.size,rawInt 0,.none,.none]}) (s.heap.objs.size+1) s.heap.objs.size 0 .none:=by
  have:=Heap.get?_push_size (s.heap.push {cls:= .type "tuple_iterator",data:= .fields #[.ref l,.int 0 0]})
   (o:= {cls:= .type "enumerate",data:= .fields #[.none,.bool false,.ref s.heap.objs.size,rawInt 0,.none,.none]}) rfl
  rw [hz] at this;exact this
 exact⟨⟨_,he,rfl⟩,h _ he ⟨_,Heap.get?_push_of_some _ (Heap.get?_push_size _ rfl),rfl,rfl⟩ (by rw [a1U,hz]) fun b o x=>Heap.get?_push_of_some _ (Heap.get?_push_of_some _ x)⟩
theorem B4M {w:World}(hh:A.handled=none)(e it l:Addr)(hei:e≠it)(hle:l≠e)(hli:l≠it)(items:Array Value)(elts:List Expr)(k:Nat)(pos:Pos):
  KTurns prog w A (.Tuple elts k pos) e [e,it,l] [e,it] items.size (fun i v h=> ∃ T t x,v= .ref T∧items[i]?=some x∧h.IsTuple T #[.int i t,x])
   (fun i v h=> ∃ T t x,v= .ref T∧items[i]?=some x∧h.IsTuple T #[.int i t,x]∧(∃ x,IsEnumOut h e it ((i:Int)+1) x T)∧h.IsTupleIter it l (i+1)∧h.IsTuple l items∧T≠e∧T≠it)
   (fun i h=>(∃ old,IsEnum h e it i old)∧h.IsTupleIter it l i∧h.IsTuple l items) where
 sub:=fun b hb=>by
  rcases a0T.mp hb with rfl| hb
  ·exact a1G ..
  ·rw [a0L.mp hb];exact a0P _ (.head _)
 frame:=fun i h h' hst hk=>by
  obtain⟨⟨old,he⟩,hit,hl⟩:=hst
  exact⟨⟨old,hk e (by simp) _ he⟩,hit.at fun o x=>hk it (by simp) o x,hl.at fun o x=>hk l (by simp) o x⟩
 item:=fun i s Q E hi hst hQ=>by
  obtain⟨⟨old,he⟩,hit,hl⟩:=hst
  have hx:items[i]?=some items[i]:=Array.getElem?_eq_getElem hi
  refine A7I he hit hl hx hei fun h' ho hit' hT hsz hk=> ?_
  have helt:e<s.heap.objs.size:=a0W he
  have hilt:it<s.heap.objs.size:=by obtain⟨_,x,_⟩:=hit;exact a0W x
  exact hQ (.ref s.heap.objs.size) h' (s.toks+1) ⟨_,_,_,rfl,hx,⟨_,hT,rfl,_,rfl⟩,⟨_,ho⟩,hit',hl.at fun o x=>hk l o hle hli x,a2D helt,a2D hilt⟩
   fun b o hb x=>hk b o (fun e'=>hb (by simp [e'])) (fun e'=>hb (by simp [e'])) x
 go:=fun i v s Q E hm hQ=>by
  obtain⟨T,t,x,rfl,hx,hT,⟨y,ho⟩,hit,hl,hTe,hTi⟩:=hm
  refine wpAny_letOwnedTupleGo_enum ho fun h' he' hs'=>hQ h' ⟨T,t,x,rfl,hx,hT.at fun o z=>(hs'.2 T hTe).trans z⟩ ⟨⟨y,by simpa using he'⟩,hit.at fun o z=>(hs'.2 it hei.symm).trans z,hl.at fun o z=>(hs'.2 l hle).trans z⟩ fun b o hb z=> ?_
  exact(hs'.2 b fun e'=>hb (by simp [e'])).trans z
 done:=fun s Q E hst hQ=>by
  obtain⟨⟨old,he⟩,hit,hl⟩:=hst
  exact A4n hh he hit hl (Array.getElem?_eq_none (a0K _)) fun h' hx=>hQ h' s.toks fun b o hb y=>hx b o (fun e'=>hb (by simp [e'])) y
noncomputable def A7k (r:Evs)(b:Nat)(d:Fd)(xi xv:Str)(body:List Stmt):Nat→List V→Loc→Option SRes
 | _,[],ρ=>some (.nxt [] ρ)
 | i,v::vs,ρ=>((r.S b d ((xv,v)::(xi,.s (.int i))::ρ) body).bind (SRes.settle ((xv,v)::(xi,.s (.int i))::ρ))).bind fun res=>(res.andThen (A7k r b d xi xv body (i+1) vs)).map (SRes.pre [xv,xi])
section
variable {r:Evs}
theorem St.ext {h':Heap}(S:St c m own s)(x:Heap.ExtBut s.heap.objs.size s.heap h'):St c m own {s with heap:=h'}:=by
 have k: ∀ b o,s.heap.get? b=some o→h'.get? b=some o:=fun b o e=>x b o (a0S (a0W e)) e
 exact⟨S.F.keeps k,S.N.grown k,S.gens,S.os,S.dr⟩
theorem Reps.dropAt: ∀ {vs:List Value} {i:Nat} {x:Value},Reps G C₀ Z vs rs→vs[i]?=some x→ ∃ v,rs.drop i=v::rs.drop (i+1)∧Rep G C₀ Z x v:=by
 induction rs with
 | nil=>exact fun R h=>x0 (R.nilE (motive:=fun vs=>vs[_]?=some _→none=some _) id h)
 | cons r rs ih=>
  intro vs i x R h
  obtain⟨v,vs',rfl,a,R'⟩:=R.consI
  cases i with
  | zero=>exact⟨r,rfl,a0E h▸a⟩
  | succ i=>
   obtain⟨w,h1,h2⟩:=ih R' h
   exact⟨w,h1,h2⟩
theorem St.above (S:St c m own s){b:Addr}(hb:s.heap.objs.size≤b):c.h₀.get? b=none:=by
 cases e:c.h₀.get? b with
 | none=>rfl
 | some o=>exact absurd (a0W (S.F.keep _ _ e)) (Nat.not_lt.mpr hb)
theorem St.list_ne (S:St c m own s){ax:Addr}{o:Obj}{its:Array Value}(h:s.heap.get? ax=some o)(hd':o.data= .seq its n):ax≠c.L:=by
 rintro rfl
 obtain⟨o',es',ep,ho,hd,_⟩:=S.F.ns
 rw [←a0E (ho.symm.trans h),hd] at hd'
 cases hd'
theorem B1m {w:World}{h₀:Heap}{target:Expr}{body:List Stmt}{Q:Flow→Shared→Prop}{s₂:Shared}{I:Addr}{fp wr:List Addr}{P Md:Nat→Value→Heap→Prop}{St:Nat→Heap→Prop}{news:List (Addr×Obj)}(J:Nat→(Str→Option Value)→List (Addr×Obj)→Prop)
  (W:KTurns prog w A target I fp wr n P Md St) (h1:env.locals∉fp) (h2: ∀ b∈wr,h₀.get? b=none) (h3: ∀ p∈news,p.1∉wr) (h4:St 0 s₂.heap) (h5:Fr h₀ env.locals s₂.heap m) (h6:News h₀ env.locals s₂.heap news) (h7:J 0 m news)
  (h8: ∀ i v m₁ news₁ h₁ tk₁ own,i<n→P i v h₁→J i m₁ news₁→(∀ p∈news₁,p.1∉wr)→(∀ p∈own,p.1∈fp)→(∀ p∈own,h₁.get? p.1=some p.2)→(∀ b∈fp,h₀.get? b=none→ ∀ o,h₁.get? b=some o→(b,o)∈own)→St (i+1) h₁→
   Fr h₀ env.locals h₁ m₁→News h₀ env.locals h₁ (own++news₁)→wpAny (model prog w) A (assign target env v) (fun Ω s₃=>wpAny (model prog w) A (execs body env)
    (LoopStepV h₀ env.locals wr own (J (i+1)) {s₂ with heap:=h₁,toks:=tk₁} (fun v s'=>Q (.ret v) s') fun s'=>Q .next s') E s₃) E {s₂ with heap:=h₁,toks:=tk₁})
  (h9: ∀ h' tk m' news',Fr h₀ env.locals h' m'→News h₀ env.locals h' news'→(∀ p∈news',p.1∉wr)→J n m' news'→Q .next {s₂ with heap:=h',toks:=tk}):TurnsAt prog w A h₀ env target body Q E (.ref I) s₂:=
 ⟨I,fp,wr,n,P,Md,St,m,news,J,rfl,W,h1,h2,h3,h4,h5,h6,h7,h8,h9⟩
structure EnJ (G:Gx)(C₀:Addr)(r:Evs)(b:Nat)(d:Fd)(xi xv:Str)(body:List Stmt)(rs:List V)(c:Fc)(A:Around)(o2:List (Addr×Obj))(E:Value→Shared→Prop)(Q:Flow→Shared→Prop)(i:Nat)(m₁:Str→Option Value)(ρ₁:Loc)(res₁:SRes):Prop where
 ev:A7k r b d xi xv body i (rs.drop i) ρ₁=some res₁
 lo:Locs G C₀ (vis c o2) m₁ ρ₁
 en:Ends G C₀ c A o2 (res₁.bad=true) E
 q: ∀ m' fl s',St c m' o2 s'→FlRep G C₀ (vis c o2) m₁ m' fl res₁→Q fl s'
theorem B2e (X:Snd G C₀ r){xi xv en:Str}{pi pv pt np cpos:Pos}{kk:Nat}{body:List Stmt}(ok:c.Ok G A)(room:Room A b)(he:c.env=d.env f c.L)(hki:d.scope.names.lookup xi=some .local)(hkv:d.scope.names.lookup xv=some .local)
  (hl:Locs G C₀ (vis c own) m ρ) (hs:es.all A0g=true) (hkp:A0L G.K (.type "enumerate")=true) (hf:Ev G C₀ c A m own (eval (.Name en np) c.env) (.k (.type "enumerate")))
  (ha: ∀ own',EvL G C₀ c A m (own'++own) (spliced (backTo cpos (starEach es c.env))) [.tup rs]) (h:A7k r b d xi xv body 0 rs ρ=some res):
  Ex G C₀ c A m own (exec (.For (.Tuple [.Name xi pi,.Name xv pv] kk pt) (.Call (.Name en np) es [] cpos) body [] pos) c.env) res:=by
 intro s Q E S en' q
 have hL:c.env.locals=c.L:=by rw [he];rfl
 refine For_turns (h₀:=c.h₀) (m:=m) (by rw [hL];exact S.F) ?_ (A0y rfl) en'.own
 show wpAny _ _ (do callWith cpos (←eval (.Name en np) c.env) [] (backTo cpos (starEach es c.env)) (backToKw cpos (keywordEach [] c.env))) _ E s
 refine a0A (hf s _ E S fun own' w s' S' R=> ?_)
 refine R.kE ?_
 refine callWith_of (P:=fun h=>G.K.In h) (by rw [A1D hs];rfl) (A3S hkp) (A0k hs (ha own' s' _ E S' fun own'' vs s'' S'' R=>⟨S''.X ok,?_⟩))
 have S₃:St c m ((own''++own')++own) s'':=by rw [a0C];exact S''
 obtain⟨v1,vs1,rfl,R1,R⟩:=R.consI
 obtain rfl:=R.nilI
 obtain⟨ax,vs,nn,rfl,hz,R⟩:=R1.tupI
 have hg:=S''.get ok hz
 have hT:s''.heap.IsTuple ax vs.toArray:=⟨_,hg,rfl,nn,rfl⟩
 have hlt:ax<s''.heap.objs.size:=a0W hg
 have hLs:c.L<s''.heap.objs.size:=S''.F.ns.lt
 rw [←a0C] at R
 generalize hown:(own''++own')++own=o2 at S₃ R
 refine B2x hT fun h' hE hI hsz hk=> ?_
 refine wpAny_pyIter_enum hE ?_
 have hne:ax≠c.L:=S''.list_ne hg rfl
 have nz: ∀ b,s''.heap.objs.size≤b→c.h₀.get? b=none:=fun b hb=>S''.above hb
 have S₄:St c m o2 {s'' with heap:=h'}:=⟨S₃.F.keeps hk,S₃.N.grown hk,S₃.gens,S₃.os,S₃.dr⟩
 have hlen:vs.toArray.size=rs.length:=by simp [R.length]
 have en2:Ends G C₀ c A o2 (res.bad=true) E:=by rw [←hown];exact en'.more
 have hl2:Locs G C₀ (vis c o2) m ρ:=by rw [←hown];exact hl.mono A0a
 have q2: ∀ m' fl s',St c m' o2 s'→FlRep G C₀ (vis c o2) m m' fl res→Q fl s':=fun m' fl s' S R=>q (own''++own') m' fl s' (by rw [hown];exact S) (by rw [hown];exact R)
 refine B1m (fun i m₁ news₁=>news₁=o2++c.news∧ ∃ ρ₁ res₁,EnJ G C₀ r b d xi xv body rs c A o2 E Q i m₁ ρ₁ res₁)
  (B4M ok.free (s''.heap.objs.size+1) s''.heap.objs.size ax (Nat.succ_ne_self _) (a0S (a1Z hlt)) (a0S hlt) vs.toArray _ _ _) ?_ ?_ ?_ ⟨⟨.none,hE⟩,hI,hT.at fun o e=>hk ax o e⟩ (by rw [hL];exact S₄.F) (by rw [hL];exact S₄.N) ⟨rfl,ρ,res,⟨h,hl2,en2,q2⟩⟩ ?_ ?_
 ·intro hm
  rw [hL] at hm
  exact fm (P:=fun x=>c.L≠x) (a0S (a1Z hLs)) (fm (a0S hLs) (fm (a0X hne) fn)) _ hm rfl
 ·exact fm (nz _ (Nat.le_succ _)) (fm (nz _ (a0K _)) fn)
 ·intro p hp hb
  have hlp:=a0W (S₃.N p hp).1
  exact fm (P:=fun x=>p.1≠x) (a0S (a1Z hlp)) (fm (a0S hlp) fn) _ hb rfl
 ·intro i v m₁ news₁ h₁ tk₁ own₁ hin hPi hJ hoff hsub hget hall hst F₁ N₁
  obtain⟨rfl,ρ₁,res₁,J⟩:=hJ
  have hev:=J.ev
  obtain⟨T,t,x,rfl,hx,hTup⟩:=hPi
  obtain⟨y,hdrop,Rx⟩:=R.dropAt (i:=i) (by rw [←List.getElem?_toArray];exact hx)
  rw [hdrop] at hev
  refine x3 hev fun resb h1 hev=>x3 h1 fun rb hb hset=>x4e hev fun res2 h2 er=> ?_
  subst er
  rw [hL] at F₁ N₁
  have S₅:St c m₁ (own₁++o2) {s'' with heap:=h₁,toks:=tk₁}:=⟨F₁,by rw [a0C];exact N₁,S₄.gens,S₄.os,S₄.dr⟩
  refine wpAny_assign_Tuple ok.free hTup rfl rfl fun h₆ x₆=> ?_
  show wpAny _ A (do holding [x] (assign (.Name xi pi) c.env (.int i t));do holding [] (assign (.Name xv pv) c.env x);pure ()) _ _ _
  refine a0A (a0R (a2R (A0o ok he hki (S₅.ext x₆) fun s₇ S₇=> ?_)))
  refine a0A (a0R (a2R (A0o ok he hkv S₇ fun s₈ S₈=>a0I ?_)))
  have hl₈:=(J.lo.set (x:=xi) (v:= .int i t) (r:= .s (.int i)) (.s .int)).set (x:=xv) Rx
  rw [hL]
  refine B3M hl₈ S₈ (fun ρ'' res' as m' s₃ hr hl'' hm S₃ en q=> ?_) rb resb res2 hset h2 (X.S hb ok room he (hl₈.mono A0a)) J.en J.q
  have N₄:=S₃.N
  rw [a0C] at N₄
  rw [SRes.bad_pre,SRes.bad_pre] at en
  exact LoopStepV.next ⟨rfl,s₃.heap,s₃.toks,m',o2++c.news,S₃.like ⟨S''.gens,S''.os,S''.dr⟩,S₃.F,N₄,hoff,rfl,ρ'',res',hr,hl'',en,fun m'' fl s' S' R'=>q m'' fl s' S' (FlRep.pre (m:=fun z=>if z=xv then some x else if z=xi then some (.int i t) else m₁ z) (as:= [xv,xi]) (fun z hz=>(if_neg fun (e:z=xv)=>hz (by rw [e];exact a1G ..)).trans (if_neg fun (e:z=xi)=>hz (by rw [e];exact a0P _ (.head _)))) (FlRep.pre hm R'))⟩
 ·intro h' tk m' news' F' N' hoff hJ
  obtain⟨rfl,ρ₁,res₁,J⟩:=hJ
  have hev:=J.ev
  have z:rs.drop vs.toArray.size= []:=List.drop_eq_nil_of_le (Nat.le_of_eq hlen.symm)
  rw [z] at hev
  have hev:some (SRes.nxt [] ρ₁)=some res₁:=hev
  obtain rfl:=a0E hev
  rw [hL] at F' N'
  exact J.q m' .next _ ⟨F',N',S₄.gens,S₄.os,S₄.dr⟩ ⟨rfl,J.lo,fun Ω Ω=>rfl⟩
end
end
structure AD where
 hd:UInt8
 tl:List UInt8
 ln:Int
 tx:Str
structure ND where
 hd:UInt8
 tl:List UInt8
 ln:Int
 tx:Str
 ty:Str
 ps:Str
 vf:Bool
 wr:Bool
noncomputable abbrev AD.cb (a:AD):List UInt8:=a.hd::a.tl
noncomputable abbrev ND.cb (a:ND):List UInt8:=a.hd::a.tl
noncomputable def Bd:Nat→Nat
 | 0=>400
 | 1=>1800
 | 2=>7400
 | 3=>29800
 | _=>119400
noncomputable def Rm:Nat→Nat
 | 0=>60
 | 1=>75
 | 2=>90
 | 3=>105
 | _=>120
noncomputable def A0d (lv:Nat)(x:ND):D:=⟨Rm lv,[("compile",.bytes (x.hd::x.tl) (Bd lv))],[("type",.str x.ty 1),("properties",.str x.ps 16)],[],[("__len__",.bint x.ln 0 (Bd lv)),("__str__",.str x.tx (Bd lv))],[(1308,true),(2003,x.wr)],some x.vf⟩
noncomputable abbrev hz (p:Str):Bool:=inS "z" p
noncomputable abbrev ho (p:Str):Bool:=inS "o" p
noncomputable abbrev hn (p:Str):Bool:=inS "n" p
noncomputable abbrev hd (p:Str):Bool:=inS "d" p
noncomputable abbrev hu (p:Str):Bool:=inS "u" p
noncomputable abbrev A0p (b:Bool)(s t:Str):Str:=bif b then s++t else s
noncomputable abbrev no (b k:Bool):Bool:=bif b then false else k
noncomputable abbrev A1l (a k:Bool):Bool:=bif a then k else false
noncomputable abbrev tt (a:Bool):Bool:=bif a then true else false
noncomputable def tx1 (nm a:Str):Str:=((nm++ "(")++Txt.join "," [a])++ ")"
noncomputable def tx2 (nm a b:Str):Str:=((nm++ "(")++Txt.join "," [a,b])++ ")"
noncomputable def tx3 (nm a b c:Str):Str:=((nm++ "(")++Txt.join "," [a,b,c])++ ")"
noncomputable def tx4 (nm a b c d:Str):Str:=((nm++ "(")++Txt.join "," [a,b,c,d])++ ")"
noncomputable def B1P (a:AD):ND:=⟨a.hd,a.tl,a.ln+0,tx1 "pk_k" a.tx,"K","ondu",true,false⟩
noncomputable def A7L (a:AD):ND:=⟨0x88,a.cb++ [0xa9,118],a.ln+0+3,tx1 "pk_h" a.tx,"K","ndu",true,false⟩
noncomputable def C1W (a:AD):ND:=⟨0xac,a.cb,a.ln+0+1,tx1 "pk" a.tx,"B","ondu",true,false⟩
noncomputable def A9j (a:AD):ND:=⟨0xac,0x88::(a.cb++ [0xa9,118]),a.ln+0+4,tx1 "pkh" a.tx,"B","ndu",true,false⟩
noncomputable def A1Q (op:UInt8)(nm:Str)(a:AD):ND:=⟨0x87,a.cb++ [op,0x88,32,1,0x82],a.ln+0+6,tx1 nm a.tx,"B","ondu",true,false⟩
noncomputable def txW (op:Str)(x:ND):Str:=bif x.wr then op++x.tx else (op++ ":")++x.tx
noncomputable def A2F (h:UInt8):Bool:=h==172|| h==174|| h==156|| h==135
noncomputable def vhd (h:UInt8):UInt8:=bif A2F h then h+1 else 105
noncomputable def vtl (h:UInt8)(r:List UInt8):List UInt8:=bif A2F h then r else h::r
noncomputable def ndA (x:ND):ND:=⟨108,x.cb++ [107],x.ln+2,txW "a" x,"W",A0p (hu x.ps) (A0p (hd x.ps) "" "d") "u",A1l (tt x.vf) (no (x.ty != "B") true),true⟩
noncomputable def ndS (x:ND):ND:=⟨x.hd,x.tl++ [124],x.ln+1,txW "s" x,"W",A0p (hu x.ps) (A0p (hd x.ps) "" "d") "u",A1l (tt x.vf) (no (x.ty != "B") (no (!ho x.ps) true)),true⟩
noncomputable def ndC (x:ND):ND:=⟨0xac,x.cb,x.ln+1,txW "c" x,"B",A0p (hd x.ps) (A0p (hn x.ps) (A0p (ho x.ps) "" "o") "n") "d" ++ "u",A1l (tt x.vf) (no (x.ty != "K") true),true⟩
noncomputable def ndT (x:ND):ND:=⟨81,x.cb,x.ln+1,txW "t" x,"B",
 A0p (inS "u" "zu") (A0p (hn x.ps|| (hz x.ps&&inS "n" "zu")) (A0p (hz x.ps&&inS "o" "zu" || (inS "z" "zu" &&ho x.ps)) (A0p (hz x.ps&&inS "z" "zu") "" "z") "o") "n") "u",tt x.vf,true⟩
noncomputable def ndD (tap:Bool)(x:ND):ND:=⟨104,x.cb++ [99,118],x.ln+3,txW "d" x,"B",A0p (hz x.ps) (bif tap then "ndu" else "nd") "o",A1l (tt x.vf) (no (x.ty != "V") (no (!hz x.ps) true)),true⟩
noncomputable def ndV (x:ND):ND:=⟨vhd x.hd,vtl x.hd x.tl,(vhd x.hd::vtl x.hd x.tl).length,txW "v" x,"V",A0p (hn x.ps) (A0p (ho x.ps) (A0p (hz x.ps) "" "z") "o") "n",A1l (tt x.vf) (no (x.ty != "B") true),true⟩
noncomputable def ndJ (x:ND):ND:=⟨104,x.cb++ [99,0x92,0x82],(104::(x.cb++ [99,0x92,0x82])).length,txW "j" x,"B",A0p (hu x.ps) (A0p (ho x.ps) "nd" "o") "u",A1l (tt x.vf) (no (x.ty != "B") (no (!hn x.ps) true)),true⟩
noncomputable def ndN (x:ND):ND:=⟨0x92,x.cb,x.ln+1,txW "n" x,"B",A0p (hd x.ps) (A0p (hn x.ps) (A0p (ho x.ps) (A0p (hz x.ps) "u" "z") "o") "n") "d",A1l (tt x.vf) (no (x.ty != "B") true),true⟩
noncomputable def ndL (x:ND):ND:=⟨104,x.cb++ [103,0,99],x.ln+4,txW "l" x,"B",A0p (hu x.ps) (A0p (hz x.ps) "d" "o") "u",A1l (tt x.vf) (no (x.ty != "B") true),true⟩
noncomputable def ndU (x:ND):ND:=⟨104,0::103::(x.cb++ [99]),x.ln+4,txW "u" x,"B",A0p (hu x.ps) (A0p (hz x.ps) "d" "o") "u",A1l (tt x.vf) (no (x.ty != "B") true),true⟩
noncomputable abbrev vf2 (x y:ND)(k:Bool):Bool:=A1l (A1l x.vf (tt y.vf)) k
noncomputable def A3s (x y:ND):ND:=⟨y.hd,y.tl++x.cb,x.ln+ (y.ln+0),tx2 "and_v" x.tx y.tx,y.ty,
 A0p (hu y.ps) (A0p (hn x.ps|| (hz x.ps&&hn y.ps)) (A0p (hz x.ps&&ho y.ps|| (hz y.ps&&ho x.ps)) (A0p (hz x.ps&&hz y.ps) "" "z") "o") "n") "u",vf2 x y (no (x.ty != "V") (no (!inS y.ty "BKV") true)),false⟩
noncomputable def A3u (x y:ND):ND:=⟨0x9a,y.cb++x.cb,x.ln+ (y.ln+0)+1,tx2 "and_b" x.tx y.tx,"B",
 A0p (hd x.ps&&hd y.ps) (A0p (hn x.ps|| (hz x.ps&&hn y.ps)) (A0p (hz x.ps&&ho y.ps|| (hz y.ps&&ho x.ps)) (A0p (hz x.ps&&hz y.ps) "" "z") "o") "n") "d" ++ "u",vf2 x y (no (x.ty != "B") (no (y.ty != "W") true)),false⟩
noncomputable def A3t (x y:ND):ND:=⟨104,y.cb++ (103::0::100::x.cb),x.ln+ (y.ln+0)+4,tx2 "and_n" x.tx y.tx,y.ty,
 A0p (inS "d" "zud") (A0p (hu y.ps&&inS "u" "zud") (A0p (hz x.ps&& (ho y.ps&&inS "o" "zud")|| (ho x.ps&& (hz y.ps&&inS "z" "zud"))) (A0p (hz x.ps&& (hz y.ps&&inS "z" "zud")) "" "z") "o") "u") "d",
 vf2 x y (no (x.ty != "B") (no (!hd x.ps&& !hu x.ps) (no (y.ty != "B") true))),false⟩
noncomputable def A6I (x y:ND):ND:=⟨0x9b,y.cb++x.cb,x.ln+ (y.ln+0)+1,tx2 "or_b" x.tx y.tx,"B",
 A0p (hz x.ps&&ho y.ps|| (hz y.ps&&ho x.ps)) (A0p (hz x.ps&&hz y.ps) "" "z") "o" ++ "du",vf2 x y (no (x.ty != "B") (no (!hd x.ps) (no (y.ty != "W") (no (!hd y.ps) true)))),false⟩
noncomputable def A6H (x y:ND):ND:=⟨104,y.cb++ (100::x.cb),x.ln+ (y.ln+0)+2,tx2 "or_c" x.tx y.tx,"V",
 A0p (ho x.ps&&hz y.ps) (A0p (hz x.ps&&hz y.ps) "" "z") "o",vf2 x y (no (x.ty != "B") (no (y.ty != "V") (no (!hd x.ps|| !hu x.ps) true))),false⟩
noncomputable def A6G (x y:ND):ND:=⟨104,y.cb++ (100::115::x.cb),x.ln+ (y.ln+0)+3,tx2 "or_d" x.tx y.tx,"B",
 A0p (hu y.ps) (A0p (hd y.ps) (A0p (ho x.ps&&hz y.ps) (A0p (hz x.ps&&hz y.ps) "" "z") "o") "d") "u",vf2 x y (no (x.ty != "B") (no (y.ty != "B") (no (!hd x.ps|| !hu x.ps) true))),false⟩
noncomputable def A4S (x y:ND):ND:=⟨104,y.cb++ (103::(x.cb++ [99])),x.ln+ (y.ln+0)+3,tx2 "or_i" x.tx y.tx,x.ty,
 A0p (hd x.ps|| hd y.ps) (A0p (hu x.ps&&hu y.ps) (A0p (hz x.ps&&hz y.ps) "" "o") "u") "d",vf2 x y (no (x.ty !=y.ty) (no (!inS x.ty "BKV") true)),false⟩
noncomputable def A1d (x y z:ND):ND:=⟨104,y.cb++ (103::(z.cb++ (100::x.cb))),x.ln+ (y.ln+ (z.ln+0))+3,tx3 "andor" x.tx y.tx z.tx,y.ty,
 A0p (hd z.ps) (A0p (hu y.ps&&hu z.ps) (A0p (hz x.ps&& (ho y.ps&&ho z.ps)|| (ho x.ps&& (hz y.ps&&hz z.ps))) (A0p (hz x.ps&& (hz y.ps&&hz z.ps)) "" "z") "o") "u") "d",
 A1l (A1l x.vf (A1l y.vf (tt z.vf))) (no (x.ty != "B") (no (!hd x.ps&& !hu x.ps) (no (y.ty !=z.ty) (no (!inS y.ty "BKV") true)))),false⟩
section
variable (K:Frag)(r:Evs)(n:Nat)(C:Addr)(fs:List (Str×V))
noncomputable def A4t (o:Option V):Option SV:=o.bind A0V
noncomputable def C5y (nm:Str):Option SV:=(A4b K C nm).bind fun f=>gd (isFn K (.ref f)&&keepIn K (.ref f)&& (fs.lookup nm).isNone) (A4t ((r.F n f [.inst C fs]).bind B0o))
noncomputable def C3i (C:Addr)(nm:Str):Option Value:=(findIn K (.ref C) nm).bind id
noncomputable def C4f (nm:Str):Option SV:=(C3i K C nm).bind fun a=>(B3z K a).bind fun f=>A4t ((r.F n f [.inst C fs]).bind B0o)
noncomputable def C3W (nm:Str):Option SV:=(A4b K C nm).bind fun f=>gd (isFn K (.ref f)) (A4t ((r.F n f [.inst C fs]).bind B0o))
noncomputable def C5l:Option Bool:=(A4b K C "verify").bind fun f=>gd (isFn K (.ref f)&&keepIn K (.ref f)&& (fs.lookup ("verify" :Str)).isNone) ((r.F n f [.inst C fs]).bind okB)
noncomputable def C4u (D:Addr)(b:Bool):Bool:=if b then isIn K (.ref C) D else kin_not K C D
end
section
variable {r:Evs}{n:Nat}{C:Addr}{fs:List (Str×V)}{x:Addr}
def B2L (v w:SV):Prop:= ∀ u,SRep u v→SRep u w
theorem B6S (X:Snd G C₀ r){d:D}(hn:d.n=n)(hp:A1o G.K C=true)(R:Rep G C₀ Z (.ref x) (.inst C fs))(hm: ∀ p∈d.meths,∃ v,C5y G.K r n C fs p.1=some v∧B2L v p.2)(hpr: ∀ p∈d.props,∃ v,C4f G.K r n C fs p.1=some v∧B2L v p.2)
  (ho: ∀ p∈d.own,findIn G.K (.ref C) p.1=some none∧ ∃ v,fs.lookup p.1=some (.s v)∧B2L v p.2) (hs: ∀ p∈d.spec,∃ v,C3W G.K r n C fs p.1=some v∧B2L v p.2) (hi: ∀ p∈d.isa,C4u G.K C p.1 p.2=true)
  (hv: ∀ b,d.ver=some b→C5l G.K r n C fs=some b):Con G C₀ Z x d:=by
 obtain⟨y,dx,es,k,e,z1,z2,hf⟩:=R.inst_at
 obtain rfl:=Value.ref.inj e
 subst hn
 have call: ∀ {f:Addr} {v w:SV},B2L v w→A4t ((r.F d.n f [.inst C fs]).bind B0o)=some v→Calls G C₀ d.n Z f ⟨[.ref x],[]⟩ (fun Ω u=>SRep u w) False:=fun hw h=>(A3j X (A0i h) (.cons R .nil)).mono (a0K _) Held.le.rfl (fun H u q=>hw _ q.sI) id
 refine⟨C,dx,es,k,z1,z2,hp,fun p hp=> ?_,fun p hp=> ?_,fun p hp=> ?_,fun p hp=> ?_,hi,fun b hb=> ?_⟩
 ·obtain⟨v,h1,h2⟩:=hm p hp
  exact x3 h1 fun f hfi h1=>x2 h1 fun hc h1=>x6 hc fun c1 c2 c3=>⟨f,A1F hfi,c1,c2,A2I hf c3,call h2 h1⟩
 ·obtain⟨v,h1,h2⟩:=hpr p hp
  refine x3 h1 fun a ha h1=>x3 h1 fun f hpo h3=> ?_
  obtain⟨q,rest,rfl,q1,q2,q3⟩:=A4P hpo
  exact⟨q,f,rest,x3 ha fun o e h=>e.trans (congrArg some h),q1,q2,q3,call h2 h3⟩
 ·obtain⟨h0,v,h1,h2⟩:=ho p hp
  have:=A6V (name:=p.1) hf
  rw [h1] at this
  obtain⟨w,hw,Rw⟩:=this
  exact⟨h0,w,hw,h2 _ Rw.sI⟩
 ·obtain⟨v,h1,h2⟩:=hs p hp
  exact x3 h1 fun f hfi h1=>x2 h1 fun hc h1=>⟨f,A1F hfi,hc,call h2 h1⟩
 ·exact x3 (hv b hb) fun f hfi h1=>x2 h1 fun hc h1=>x6 hc fun c1 c2 c3=>⟨f,A1F hfi,c1,c2,A2I hf c3,B1e X h1 (.cons R .nil)⟩
noncomputable def C1X (lv:Nat)(wr:Bool)(cm ty ps ln tx:Option SV)(vf:Option Bool):Option ND:=(cm.bind B8Y).bind fun q=>(ty.bind A0x).bind fun ty=>(ps.bind A0x).bind fun ps=>(ln.bind A6C).bind fun ln=>(tx.bind A0x).bind fun tx=>vf.bind fun vf=>
 gd (decide (q.2.2≤Bd lv)&&decide (ty.2≤1)&&decide (ps.2≤16)&& (decide (0≤ln.2.1)&&decide (ln.2.2≤ (Bd lv:Int))&&decide (tx.2≤Bd lv))) (some ⟨q.1,q.2.1,ln.1,tx.1,ty.1,ps.1,vf,wr⟩)
noncomputable def A5Y (K:Frag)(r:Evs)(lv:Nat)(wr:Bool)(C:Addr)(fs:List (Str×V)):Option ND:=
 gd (A1o K C&&C4u K C 1308 true&&C4u K C 2003 wr) (C1X lv wr (C5y K r (Rm lv) C fs "compile") (C4f K r (Rm lv) C fs "type") (C4f K r (Rm lv) C fs "properties") (C3W K r (Rm lv) C fs "__len__") (C3W K r (Rm lv) C fs "__str__") (C5l K r (Rm lv) C fs))
theorem A4r {x:Str}{n k:Nat}(h:n≤k):B2L (.str x n) (.str x k):=fun u hu=>hu.strE fun Ω h2=> .str (a0F h2 h)
theorem A5N {x:List UInt8}{n k:Nat}(h:n≤k):B2L (.bytes x n) (.bytes x k):=fun u hu=>hu.bytesE fun Ω Ω h1 h2=> .bytes h1 (a0F h2 h)
theorem A7w {x lo hi lo' hi':Int}(h:lo'≤lo)(h':hi≤hi'):B2L (.bint x lo hi) (.bint x lo' hi'):=fun u hu=>hu.bintE fun Ω h1 h2=> .bint (a1E h h1) (a1E h2 h')
theorem C5d {α:Type}{P:α→Prop}{a:α}(h:P a): ∀ x∈ [a],P x:=fun x hx=>by rw [a0L.mp hx];exact h
theorem C3G {α:Type}{P:α→Prop}{a b:α}(h:P a)(k:P b): ∀ x∈ [a,b],P x:=List.forall_mem_cons.mpr ⟨h,C5d k⟩
theorem B1L (X:Snd G C₀ r){lv:Nat}{wr:Bool}{nd:ND}(h:A5Y G.K r lv wr C fs=some nd)(R:Rep G C₀ Z (.ref x) (.inst C fs)):Con G C₀ Z x (A0d lv nd):=by
 refine x2 h fun hc h=>x6 hc fun c1 c2 c3=>x3 h fun q e1 h=>x3 h fun ty e2 h=>x3 h fun ps e3 h=>x3 h fun ln e4 h=>x3 h fun tx e5 h=>x3 h fun vf e6 h=>x2 h fun hb h=>x7 hb fun b1 b2 b3 hb=>x6 hb fun b4 b5 b6=> ?_
 obtain rfl:=a0E h
 exact B6S (n:=Rm lv) X rfl c1 R (C5d ⟨_,x3 e1 fun y e h=>e.trans (congrArg some (B7T h)),A5N (a0B b1)⟩) (C3G ⟨_,A2d e2,A4r (a0B b2)⟩ ⟨_,A2d e3,A4r (a0B b3)⟩) (fun p hp=>(nomatch hp))
  (C3G ⟨_,x3 e4 fun y e h=>e.trans (congrArg some (A6B (motive:=fun y=>y=SV.bint ln.1 ln.2.1 ln.2.2) h rfl)),A7w (a0B b4) (a0B b5)⟩ ⟨_,A2d e5,A4r (a0B b6)⟩) (C3G c2 c3) fun b hb=>hb▸e6
theorem C0D: ∀ {a b:Nat},a≤b→Bd a≤Bd b:=by
 have s: ∀ a,Bd a≤Bd (a+1):=fun a=>match a with
  | 0| 1| 2| 3=>by decide
  | _+4=>a0K 119400
 intro a b h
 induction h with
 | refl=>exact a0K _
 | step _ ih=>exact a0F ih (s _)
theorem C0A: ∀ {a b:Nat},a≤b→Rm a≤Rm b:=by
 have s: ∀ a,Rm a≤Rm (a+1):=fun a=>match a with
  | 0| 1| 2| 3=>by decide
  | _+4=>a0K 120
 intro a b h
 induction h with
 | refl=>exact a0K _
 | step _ ih=>exact a0F ih (s _)
theorem Con.weak {d d':D}(hn:d.n≤d'.n)(h:Con G C₀ Z x d)(hm: ∀ p∈d'.meths,∃ v,(p.1,v)∈d.meths∧B2L v p.2)(hp: ∀ p∈d'.props,∃ v,(p.1,v)∈d.props∧B2L v p.2)(ho: ∀ p∈d'.own,∃ v,(p.1,v)∈d.own∧B2L v p.2)
  (hs: ∀ p∈d'.spec,∃ v,(p.1,v)∈d.spec∧B2L v p.2) (hi: ∀ p∈d'.isa,p∈d.isa) (hv: ∀ b,d'.ver=some b→d.ver=some b):Con G C₀ Z x d':=by
 obtain⟨C,dx,es,k,z1,z2,K⟩:=h
 refine⟨C,dx,es,k,z1,z2,K.plain,fun p q=> ?_,fun p q=> ?_,fun p q=> ?_,fun p q=> ?_,fun p q=>K.isa p (hi p q),fun b hb=> ?_⟩
 ·obtain⟨v,h1,h2⟩:=hm p q
  obtain⟨f,a,b,c,e,g⟩:=K.meths _ h1
  exact⟨f,a,b,c,e,g.mono hn Held.le.rfl (fun Ω Ω z=>h2 _ z) id⟩
 ·obtain⟨v,h1,h2⟩:=hp p q
  obtain⟨a,b,c,e,f,g,i,j⟩:=K.props _ h1
  exact⟨a,b,c,e,f,g,i,j.mono hn Held.le.rfl (fun Ω Ω z=>h2 _ z) id⟩
 ·obtain⟨v,h1,h2⟩:=ho p q
  obtain⟨a,w,b,e⟩:=K.own _ h1
  exact⟨a,w,b,h2 _ e⟩
 ·obtain⟨v,h1,h2⟩:=hs p q
  obtain⟨f,a,b,g⟩:=K.spec _ h1
  exact⟨f,a,b,g.mono hn Held.le.rfl (fun Ω Ω z=>h2 _ z) id⟩
 ·obtain⟨f,a,b',c,e,g⟩:=K.ver b (hv b hb)
  exact⟨f,a,b',c,e,g.mono hn Held.le.rfl (fun Ω Ω z=>z) id⟩
theorem B6f {lv lv':Nat}{nd:ND}(h:lv≤lv')(c:Con G C₀ Z x (A0d lv nd)):Con G C₀ Z x (A0d lv' nd):=by
 have b:=C0D h
 exact c.weak (C0A h) (C5d ⟨_,a1G ..,A5N b⟩) (fun p hp=>⟨p.2,hp,fun Ω h=>h⟩) (fun p hp=>(nomatch hp)) (C3G ⟨_,a1G ..,A7w (Int.le_refl _) (Int.ofNat_le.mpr b)⟩ ⟨_,a0P _ (.head _),A4r b⟩) (fun p hp=>hp) fun b h=>h
end
noncomputable abbrev KF (P:Params):Frag:=K P
theorem C5i {P:Params}{h:Heap}(X:(K P).In h):(KF P).In h:=X
noncomputable def fl:Str:= "/claim/cut.py"
noncomputable def spO:Sp:=fun Ω Ω=>none
theorem B3o:C0L G C₀ spO:=fun f rs n res h=>(nomatch h)
noncomputable def r0 (P:Params):Evs:=evs (KF P) fl 818 spO Hk.nil 40
structure GOk (G:Gx):Prop where
 K:G.K=KF G.w.params
 file:G.prog.main.file=fl
 noSuper:(G.prog.main.scope.names.lookup ("super" :Str)).isSome=false
theorem GOk.gx (h:GOk G):GxOk G fl:=⟨h.file,h.noSuper⟩
theorem GOk.r0 (h:GOk G):Snd G 818 (r0 G.w.params):=by
 have:=A0B (C₀:=818) h.gx (B3o (G:=G)) HkOk.nil 40
 rw [h.K] at this
 exact this
noncomputable def fsN (l:List V)(tap:Bool):List (Str×V):= [("args",.tup l),("taproot",.s (.bool tap))]
noncomputable def A0c (P:Params)(f:Addr):Fd:=match A2V (KF P) f with
 | some d=>d
 | none=>⟨Str.empty,Str.empty,⟨[],[],none,[],[],none,[]⟩,[],default,[],.none,.none,.none,.none,none,.none,.none⟩
noncomputable def A1q:Stmt→Expr
 | .If t _ _ _=>t
 | _=>default
noncomputable def A2U:Stmt→List Stmt
 | .If _ b _ _=>b
 | _=> []
noncomputable def A6x:Stmt→Pos
 | .If _ _ _ p=>p
 | _=>default
theorem C0y (P:Params):A2V (KF P) 2226=some (A0c P 2226)∧A0H (KF P) 2226 (A0c P 2226)=true∧A0r (A0c P 2226).params=some [("self" :Str)]∧(A0c P 2226).scope.names.lookup ("self" :Str)=some .local∧A1s (KF P) (A0c P 2226).dV=true∧
  (A0c P 2226).body= [.If (A1q (atS (A0c P 2226).body 0)) (A2U (atS (A0c P 2226).body 0)) [] (A6x (atS (A0c P 2226).body 0)),atS (A0c P 2226).body 1]:=
 by and_intros<;>kernel_rfl
noncomputable abbrev C3s (lv:Nat)(h:UInt8)(t:List UInt8)(ln:Int)(tx ty ps:Str)(vf wr tap:Bool):V:= .inst 2245 (fsN [.abs (A0d lv ⟨h,t,ln,tx,ty,ps,vf,wr⟩)] tap)
noncomputable def C6v:List (Nat×UInt8):=(List.range 4).flatMap fun lv=> [172,174,156,135].map fun h=>(lv,h)
theorem C5f (P:Params)(t:List UInt8)(ln:Int)(tx ty ps:Str)(vf wr tap:Bool): ∀ x∈C6v,((r0 P).F (Rm x.1+6) 2226 [C3s x.1 x.2 t ln tx ty ps vf wr tap]).bind B0o=some (.s (.bytes ((x.2+1)::t) (Bd x.1+1))):=a0Y.mp (by kernel_rfl)
noncomputable abbrev C0E (a:V):Loc:= [("self",a)]
theorem V_T (P:Params)(h:UInt8)(t:List UInt8)(ln:Int)(tx ty ps:Str)(vf wr tap:Bool): ∀ lv∈List.range 4,(r0 P).T (Rm lv+6) (nmF (KF P) (A0c P 2226) (C0E (C3s lv h t ln tx ty ps vf wr tap))) (A1q (atS (A0c P 2226).body 0))=some ([172,174,156,135].any (· ==(h.toNat:Int))):=a0Y.mp (by kernel_rfl)
theorem V_S (P:Params)(h:UInt8)(t:List UInt8)(ln:Int)(tx ty ps:Str)(vf wr tap:Bool): ∀ lv∈List.range 4,(r0 P).S (Rm lv+6) (A0c P 2226) (C0E (C3s lv h t ln tx ty ps vf wr tap)) [atS (A0c P 2226).body 1]=some (.ret (.s (.bytes (105::h::t) (Bd lv+1)))):=a0Y.mp (by kernel_rfl)
theorem B5X {h:UInt8}(e:A2F h=true):h=172∨h=174∨h=156∨h=135:=by
 unfold A2F at e
 simp only [Bool.or_eq_true,beq_iff_eq] at e
 rcases e with ((e| e)| e)| e
 ·exact .inl e
 ·exact .inr (.inl e)
 ·exact .inr (.inr (.inl e))
 ·exact .inr (.inr (.inr e))
theorem C1P {h:UInt8}(e:A2F h=false):([172,174,156,135]:List Int).any (· ==(h.toNat:Int))=false:=by
 unfold A2F at e
 simp only [Bool.or_eq_false_iff,a1L] at e
 obtain⟨⟨⟨e1,e2⟩,e3⟩,e4⟩:=e
 have k: ∀ n:UInt8,h≠n→((n.toNat:Int)==(h.toNat:Int))=false:=fun n hn=>a1L.mpr fun q=>hn (by
  have:n.toNat=h.toNat:=by exact_mod_cast q
  exact(UInt8.toNat_inj.mp this).symm)
 simp only [List.any_cons,List.any_nil,Bool.or_false,Bool.or_eq_false_iff]
 exact⟨k 172 e1,k 174 e2,k 156 e3,k 135 e4⟩
theorem C3m (g:GOk G){k:Nat}{h:UInt8}{t:List UInt8}{a:V}(hn:A2F h=false)(h1:(r0 G.w.params).T n (nmF (KF G.w.params) (A0c G.w.params 2226) (C0E a)) (A1q (atS (A0c G.w.params 2226).body 0))=some ([172,174,156,135].any (· ==(h.toNat:Int))))
  (h2:(r0 G.w.params).S n (A0c G.w.params 2226) (C0E a) [atS (A0c G.w.params 2226).body 1]=some (.ret (.s (.bytes (105::h::t) k)))) (R:Reps G 818 Z vs [a]):Calls G 818 (n+1) Z 2226 ⟨vs,[]⟩ (fun H w=>Rep G 818 H w (.s (.bytes (105::h::t) k))) False:=by
 have X:=g.r0
 obtain⟨prog,w,K,p,loose,mean,mg,mb⟩:=G
 obtain⟨gK,g2,g3⟩:=g
 dsimp only at gK h1 h2 X
 subst gK
 obtain⟨s1,s2,s3,s4,s5,s6⟩:=C0y w.params
 have hl:vs.length=1:=R.length
 refine A3J (binds:=(["self"]:List Str).zip vs) s1 s2 (fun s X=>A0Z X s3 hl s5) (fun y hy=> ?_) (fun H H' v k p=>p.mono k) ?_
 ·obtain⟨y1,y2⟩:=y
  rw [a0L.mp (a2T hy).1];exact s4
 ·intro c A s Q E ok he room S le q en
  have hm: ∀ y,((["self"]:List Str).zip vs).reverse.lookup y=((["self"]:List Str).zip vs).lookup y:=fun y=>A0X (by rw [A1y hl];exact(by simp))
  have hloc:Locs _ 818 (vis c []) (fun y=>((["self"]:List Str).zip vs).reverse.lookup y) (C0E a):=fun x r e=>by
   obtain⟨v,h1,h2⟩:=A1L (ns:= ["self"]) R (x:=x) (r:=r) e
   exact⟨v,(hm x).trans h1,h2.mono le⟩
  have T:=X.T h1 ok room (A0n he) (A0f ok he hloc)
  rw [C1P hn] at T
  rw [s6]
  refine B4y (k:=fun ρ=>(r0 w.params).S n (A0c w.params 2226) ρ [atS (A0c w.params 2226).body 1]) (.nxt [] (C0E a)) (.ret (.s (.bytes (105::h::t) k))) (congrArg (Option.bind · fun r=>some (SRes.pre [] r)) h2) (A3B T fun own'=> ?_) (fun ρ res own' m' hk hl'=>X.S hk ok room he hl') s Q E S (en.less fun z=>(nomatch z)) fun own' m' fl s' S' R'=> ?_
  ·exact A2h (hloc.mono A0a)
  ·rw [a1H] at S' R'
   refine q own' m' fl s' S' ?_
   obtain⟨v,rfl,hv⟩:=R'
   exact hv
theorem C0z (g:GOk G){lv:Nat}(hlv:lv≤3){h:UInt8}{t:List UInt8}{ln:Int}{tx ty ps:Str}{vf wr tap:Bool}(R:Reps G 818 Z vs [C3s lv h t ln tx ty ps vf wr tap]):
  Calls G 818 (Rm lv+7) Z 2226 ⟨vs,[]⟩ (fun H w=>Rep G 818 H w (.s (.bytes (vhd h::vtl h t) (Bd lv+1)))) False:=by
 have hm:=List.mem_range.mpr (Nat.lt_succ_of_le hlv)
 cases e:A2F h with
 | true=>
  have hh:h∈ ([172,174,156,135]:List UInt8):=by
   rcases B5X e with rfl| rfl| rfl| rfl
   ·exact .head _
   ·exact .tail _ (.head _)
   ·exact .tail _ (.tail _ (.head _))
   ·exact .tail _ (.tail _ (.tail _ (.head _)))
  have q:=(A3j g.r0 (C5f G.w.params t ln tx ty ps vf wr tap (lv,h) (List.mem_flatMap.mpr ⟨lv,hm,List.mem_map.mpr ⟨h,hh,rfl⟩⟩)) R).mono (Nat.le_succ _) Held.le.rfl (fun Ω Ω p=>p) id
  unfold vhd vtl
  rw [e]
  exact q
 | false=>
  unfold vhd vtl
  rw [e]
  exact C3m g e (V_T G.w.params h t ln tx ty ps vf wr tap lv hm) (V_S G.w.params h t ln tx ty ps vf wr tap lv hm) R
noncomputable def B4Q:List (Int×Int)→Int→Option Int
 | [],j=>gd (j==1) (some 0)
 | p::ds,j=>bif j==1 then some 0 else bif decide (0<p.2)&&j%p.2==0 then (B4Q ds (j / p.2)).map fun r=>p.1+p.2*r else gd (decide (0<j)&&p.2%j==0) (some (p.1%j))
noncomputable def B4S:List (Int×Int)→Int→Option (List (Int×Int))
 | [],j=>gd (j==1) (some [])
 | p::ds,j=>bif j==1 then some (p::ds) else bif decide (0<p.2)&&decide (0<j)&&j%p.2==0 then B4S ds (j / p.2) else gd (decide (0<p.2)&&decide (0<j)&&p.2%j==0) (some ((p.1 / j,p.2 / j)::ds))
theorem A6k {p:Int×Int}{ds:List (Int×Int)}(h:A1h (p::ds)=true):0≤p.1∧p.1<p.2∧A1h ds=true:=x6 h fun a b c=>⟨a0B a,a0B b,c⟩
theorem B1G {b k:Int}(hb:0<b)(h:0<b*k):0<k:=Int.lt_of_not_ge fun hk=>absurd h (a2N.mpr (Int.mul_nonpos_of_nonneg_of_nonpos (Int.le_of_lt hb) hk))
theorem A2Q {a b:Int}(h:(a%b==0)=true): ∃ k,a=b*k:=Int.dvd_of_emod_eq_zero (a0D h)
theorem B4P {ds:List (Int×Int)}: ∀ {j r q:Int},A1h ds=true→B4Q ds j=some r→0<j→A3i ds q%j=r:=by
 induction ds with
 | nil=>exact fun h e hj=>x2 e fun hj1 e=>x1 e (by rw [a0D hj1];exact Int.emod_one _)
 | cons p ds ih=>
  intro j r q h e hj
  obtain⟨h1,h2,h3⟩:=A6k h
  refine xb e (fun hj1 e=>x1 e (by rw [a0D hj1];exact Int.emod_one _)) fun Ω e=>xb e (fun hb e=>x5 hb fun b0 b1=>x4 e fun r' hr=> ?_) fun Ω e=>x2 e fun hb e=>x5 hb fun Ω b1=>x1 e ?_
  ·have b0:=a0B b0
   obtain⟨k,rfl⟩:=A2Q b1
   rw [Int.mul_ediv_cancel_left _ (a2S b0)] at hr
   have hk:=B1G b0 hj
   have ih:=ih (q:=q) h3 hr hk
   show (p.1+p.2*A3i ds q)% (p.2*k)=_
   have e2:p.1+p.2*A3i ds q=(p.1+p.2*r')+p.2*k* (A3i ds q / k):=by
    conv=>lhs;rw [←Int.emod_add_mul_ediv (A3i ds q) k,ih]
    rw [Int.mul_add,Int.mul_assoc,Int.add_assoc]
   rw [e2,Int.add_mul_emod_self_left]
   have hr0:0≤r':=ih▸a2A _ (a2S hk)
   have hr1:r'<k:=ih▸a1Q _ hk
   refine Int.emod_eq_of_lt (Int.add_nonneg h1 (Int.mul_nonneg (Int.le_of_lt b0) hr0)) ?_
   have:p.2* (r'+1)≤p.2*k:=Int.mul_le_mul_of_nonneg_left hr1 (Int.le_of_lt b0)
   rw [Int.mul_add,Int.mul_one] at this
   exact Int.lt_of_lt_of_le (by rw [Int.add_comm];exact Int.add_lt_add_left h2 _) this
  ·obtain⟨k,hk⟩:=A2Q b1
   show (p.1+p.2*A3i ds q)%j=_
   rw [hk,Int.mul_assoc,Int.add_mul_emod_self_left]
theorem B4R {ds:List (Int×Int)}: ∀ {ds':List (Int×Int)} {j q:Int},A1h ds=true→B4S ds j=some ds'→A3i ds q / j=A3i ds' q∧A1h ds'=true:=by
 induction ds with
 | nil=>exact fun h e=>x2 e fun hj1 e=>x1 e (by rw [a0D hj1];exact⟨Int.ediv_one _,rfl⟩)
 | cons p ds ih=>
  intro ds' j q h e
  obtain⟨h1,h2,h3⟩:=A6k h
  refine xb e (fun hj1 e=>x1 e (by rw [a0D hj1];exact⟨Int.ediv_one _,h⟩)) fun Ω e=>xb e (fun hb e=>x6 hb fun b0 Ω b1=> ?_) fun Ω e=>x2 e fun hb e=>x6 hb fun b0 b1 b2=>x1 e ?_
  ·have b0:=a0B b0
   obtain⟨k,rfl⟩:=A2Q b1
   rw [Int.mul_ediv_cancel_left _ (a2S b0)] at e
   have ih:=ih (q:=q) h3 e
   refine⟨?_,ih.2⟩
   rw [←ih.1]
   show (p.1+p.2*A3i ds q) / (p.2*k)=_
   rw [←Int.ediv_ediv_of_nonneg (Int.le_of_lt b0),Int.add_mul_ediv_left _ _ (a2S b0),Int.ediv_eq_zero_of_lt h1 h2,Int.zero_add]
  ·have b1:=a0B b1
   obtain⟨k,hk⟩:=A2Q b2
   refine⟨?_,?_⟩
   ·show (p.1+p.2*A3i ds q) / j=p.1 / j+p.2 / j*A3i ds q
    rw [hk,Int.mul_ediv_cancel_left _ (a2S b1),Int.mul_assoc,Int.add_mul_ediv_left _ _ (a2S b1)]
   ·refine Bool.and_eq_true_iff.mpr ⟨Bool.and_eq_true_iff.mpr ⟨a0Q (Int.ediv_nonneg h1 (Int.le_of_lt b1)),a0Q (Int.ediv_lt_of_lt_mul b1 ?_)⟩,h3⟩
    rw [hk,Int.mul_ediv_cancel_left _ (a2S b1),Int.mul_comm,←hk];exact h2
set_option backward.match.sparseCases false
noncomputable def C1D:SV→Option (List (Int×Int)×Int)
 | .dig ds q=>some (ds,q)
 | _=>none
noncomputable def C3f (i j:Int):Operator→Option SV
 | .FloorDiv=>gd (decide (j≠0)&&decide (j.natAbs<1073741824)) (some (.int (i.fdiv j)))
 | .Mod=>gd (decide (j≠0)) (some (.int (i.fmod j)))
 | .Mult=>gd (decide (i.natAbs<2^2000)&&decide (j.natAbs<2^2000)) (some (.int (i*j)))
 | .Pow=>gd (decide (i.natAbs<1000)&&decide (0≤j)&&decide (j<1000)) (some (.int (i^j.toNat)))
 | _=>none
noncomputable def C3g (p:List (Int×Int)×Int)(j:Int):Operator→Option SV
 | .FloorDiv=>gd (decide (0<j)&&decide (j.natAbs<1073741824)) ((B4S p.1 j).map fun ds=> .dig ds p.2)
 | .Mod=>gd (decide (0<j)) (orM (B4Q p.1 j) (fun r=>some (.int r)) (some (.bint (A3i p.1 p.2%j) 0 (j - 1))))
 | _=>none
set_option backward.match.sparseCases true
noncomputable def C4X (op:Operator)(a b:SV):Option SV:=(A0U b).bind fun j=>((A0U a).bind fun i=>C3f i j op).or ((C1D a).bind fun p=>C3g p j op)
theorem A6g {i:Int}{k:Nat}(h:i.natAbs<2^k):Builtin.Int.intBits i≤k:=by
 unfold Builtin.Int.intBits
 split
 ·exact a2K _
 ·rename_i hz
  have:i.natAbs≠0:=by simpa using hz
  exact(Nat.log2_lt this).mpr h
section
variable {w:World}{va vb:Value}{a b r:SV}{op:Operator}
theorem B5h {i j:Int}{t u:Tok}(e:C3f i j op=some r)(h: ∀ v tk,SRep v r→Q v {s with toks:=tk}):wpAny (model prog w) A (binaryOp op (.int i t) (.int j u)) Q E s:=by
 cases op with
 | FloorDiv=>exact x2 e fun hc e=>x5 hc fun c1 c2=>PyProof.Rows.floordiv_int (a0B c1) (h _ _ (x1 e .int)) (.inl (PyProof.noPylong_small (a0B c2)))
 | Mod=>exact x2 e fun hc e=>PyProof.Rows.mod_int' (a0B hc) (h _ _ (x1 e .int))
 | Mult=>exact x2 e fun hc e=>x5 hc fun c1 c2=>PyProof.Rows.mul_int (h _ _ (x1 e .int)) (IntMulOk.of_bits (a0F (A6g (a0B c1)) (by decide)) (a0F (A6g (a0B c2)) (by decide)))
 | Pow=>
  refine x2 e fun hc e=>x6 hc fun c1 c2 c3=> ?_
  have c1:=a0B c1
  have c2:=a0B c2
  have c3:=a0B c3
  have hbits:Builtin.Int.intBits i≤64:=B5f (Nat.lt_trans c1 (by decide))
  refine PyProof.Rows.pow_int c2 ?_ (h _ _ (x1 e .int))
  have h2:((Builtin.Int.intBits i:Nat):Int)*j≤64*1000:=Int.mul_le_mul (Int.ofNat_le.mpr hbits) (Int.le_of_lt c3) c2 (by decide)
  exact a1E h2 (by decide)
 | _=>exact x0 e
theorem B5i {p:List (Int×Int)×Int}{j:Int}{t u:Tok}(hok:A1h p.1=true)(e:C3g p j op=some r)(h: ∀ v tk,SRep v r→Q v {s with toks:=tk}):wpAny (model prog w) A (binaryOp op (.int (A3i p.1 p.2) t) (.int j u)) Q E s:=by
 cases op with
 | FloorDiv=>
  refine x2 e fun hc e=>x5 hc fun c1 c2=> ?_
  have c1:=a0B c1
  refine PyProof.Rows.floordiv_int (a2S c1) (h _ _ (x4 e fun ds' hd=> ?_)) (.inl (PyProof.noPylong_small (a0B c2)))
  have:=B4R (q:=p.2) hok hd
  rw [Int.fdiv_eq_ediv_of_nonneg _ (Int.le_of_lt c1),this.1]
  exact .dig this.2
 | Mod=>
  refine x2 e fun hc e=> ?_
  have hc:=a0B hc
  refine PyProof.Rows.mod_int' (a2S hc) (h _ _ ?_)
  rw [Int.fmod_eq_emod_of_nonneg _ (Int.le_of_lt hc)]
  exact xm e (fun r' hr e=>x1 e (by rw [B4P hok hr hc];exact .int)) fun Ω e=>x1 e (.bint (a2A _ (a2S hc)) (Int.le_sub_one_of_lt (a1Q _ hc)))
 | _=>exact x0 e
theorem B1g (ha:SRep va a)(hb:SRep vb b)(e:C4X op a b=some r)(h: ∀ v tk,SRep v r→Q v {s with toks:=tk}):wpAny (model prog w) A (binaryOp op va vb) Q E s:=by
 refine x3 e fun j hj e=>(A2k (motive:=fun b=>SRep vb b→SRep vb (.int j)) hj id hb).intE fun u=>xo e (fun e=>x3 e fun i hi e=>(A2k (motive:=fun a=>SRep va a→SRep va (.int i)) hi id ha).intE fun t=>by with_reducible exact B5h e h) fun e=>x3 e fun p hp e=> ?_
 cases a with
 | dig ds q=>obtain rfl:=a0E hp;exact ha.digE fun t hok=>by with_reducible exact B5i (p:=(ds,q)) hok e h
 | _=>exact x0 hp
end
noncomputable def B1W (k i:Nat):List UInt8:=(List.range k).map fun j=>(i / 256^j%256).toUInt8
theorem B1p {l:List UInt8}: ∀ {l':List UInt8},l.map (fun c=>((c.toNat:Nat):Int))=l'.map (fun c=>((c.toNat:Nat):Int))→l=l':=by
 induction l with
 | nil=>exact fun {l'} h=>(List.map_eq_nil_iff.mp h.symm).symm
 | cons a l ih=>
  intro l' h
  cases l' with
  | nil=>exact absurd h (List.cons_ne_nil _ _)
  | cons b l'=>exact congr (congrArg List.cons (UInt8.toNat_inj.mp (Int.ofNat.inj (List.cons.inj h).1))) (ih (List.cons.inj h).2)
theorem B0C {k i:Nat}(h:i<256^k):KTBy.low (i:Int) k=B1W k i:=by
 refine B1p ?_
 rw [KTBy.low_ints (x:=(i:Int)) (n:=k) (a1W _) (by rw [KTBy.p256];exact_mod_cast h)]
 unfold B1W
 rw [List.map_map]
 refine List.map_congr_left fun j hj=> ?_
 show (i:Int) / 256^j%256=(((i / 256^j%256).toUInt8.toNat:Nat):Int)
 rw [KTBy.p256]
 have e:(i / 256^j%256).toUInt8.toNat=i / 256^j%256:=by
  show (UInt8.ofNat _).toNat=_
  rw [UInt8.toNat_ofNat']
  exact Nat.mod_mod _ 256
 rw [e]
 exact_mod_cast rfl
theorem A4V (k i:Nat):(B1W k i).length=k:=by simp [B1W]
section
variable {w:World}{i k:Nat}{t u v:Tok}
theorem C0t {i k:Nat}(h:i<256^k):Builtin.Int.intBits (i:Int)≤8*k:=
 KTBy.bits_le (k:=k) rfl (a1W _) (by rw [KTBy.p256];exact_mod_cast h)
theorem B1q {o:Str}{little:Bool}(hk:k≤1000)(hi:i<256^k)(hbind:Builtin.Int.intBindNamed "to_bytes" ["length","byteorder","signed"] 0 2 [.int (k:Int) u,.str o v] []=pure [some (.int (k:Int) u),some (.str o v),none])
  (ho:(o=PySem.Str.ofString "big" ∧little=false)∨(o=PySem.Str.ofString "little" ∧little=true))
  (h: ∀ (b:Array UInt8) t' k',b.toList=(if little then B1W k i else (B1W k i).reverse)→Q (.bytes b t') {s with toks:=k'}):
  wpAny (model prog w) A (call (.builtin "int.to_bytes") [.int (i:Int) t,.int (k:Int) u,.str o v]) Q E s:=by
 refine a2Y KTBy.slot (typeIs_int s _ t) KTBy.entry ?_ (KTBy.args _ _ _)
 have hb:=C0t hi
 have z1: ¬ (k:Int)<0:=a2N.mpr (a1W k)
 have z0: ¬ (i:Int)<0:=a2N.mpr (a1W i)
 have z2: ¬ (k:Int)>2^63 - 1 - 33:=a2N.mpr (a1E (Int.ofNat_le.mpr hk) (by decide))
 have z3: ¬ (k:Int)>(sizeLine:Int):=a2N.mpr (Int.ofNat_le.mpr (a0F hk (by decide)))
 have z4: ¬ (Builtin.Int.intBits (i:Int):Int)>8* (k:Int):=a2N.mpr (Int.ofNat_le.mpr hb)
 show wpAny _ _ (Builtin.Int.intOfSelf (.int (i:Int) t)>>=fun y=>_) _ _ s
 refine a0A (a0U (a:=(i:Int)) rfl ?_)
 show wpAny _ _ (Builtin.Int.intBindNamed "to_bytes" ["length","byteorder","signed"] 0 2 [.int (k:Int) u,.str o v] []>>=fun l=>_) _ _ s
 refine a0A (a0U hbind ?_)
 show wpAny _ _ (Builtin.Int.intIndex "int.to_bytes" (.int (k:Int) u)>>=fun n=>_) _ _ s
 refine a0A (a0U (a:=(k:Int)) rfl ?_)
 refine KTBy.if_not (by show (decide ((k:Int)< -(2^63:Int))|| decide ((k:Int)≥2^63))=false;rw [a1F (show ¬ ((k:Int)< -(2^63:Int)) from a2N.mpr (a1E (by decide) (a1W k))),a1F (show ¬ ((k:Int)≥2^63) from Int.not_le.mpr (a2U (Int.ofNat_le.mpr hk) (by decide)))];rfl) ?_
 have fits: ∀ l:List UInt8,l.length=k→l.length≤sizeLine:=fun l e=>by rw [e];exact a0F hk (by decide)
 rcases ho with ⟨rfl,rfl⟩| ⟨rfl,rfl⟩
 ·refine a0A (a0U (a:=PySem.Str.ofString "big") (by kernel_rfl) ?_)
  refine a0A (a0U (a:=false) rfl ?_)
  refine a0A (a0U (a:=false) (by kernel_rfl) ?_)
  refine a1P (a1F z1) ?_
  refine a1P (a1F z2) ?_
  refine a1P (a1F z3) ?_
  refine KTBy.if_not (by show (decide ((i:Int)<0)&& !false)=false;rw [a1F z0];rfl) ?_
  refine KTBy.if_not (by show (_&&decide ((Builtin.Int.intBits (i:Int):Int)>8* (k:Int)))=false;rw [a1F z4,Bool.and_false]) ?_
  refine a0A (wpAny_mkBytes (a0I ⟨_,rfl,h _ _ _ ?_⟩) ?_)
  ·show List.reverse (KTBy.low (i:Int) (Int.toNat (k:Int)))=_
   rw [Int.toNat_natCast,B0C hi];rfl
  ·refine fits _ ?_
   show (List.reverse (KTBy.low (i:Int) (Int.toNat (k:Int)))).length=k
   rw [a0O,KTBy.low_length,Int.toNat_natCast]
 ·refine a0A (a0U (a:=PySem.Str.ofString "little") (by kernel_rfl) ?_)
  refine a0A (a0U (a:=false) rfl ?_)
  refine a0A (a0U (a:=true) (by kernel_rfl) ?_)
  refine a1P (a1F z1) ?_
  refine a1P (a1F z2) ?_
  refine a1P (a1F z3) ?_
  refine KTBy.if_not (by show (decide ((i:Int)<0)&& !false)=false;rw [a1F z0];rfl) ?_
  refine KTBy.if_not (by show (_&&decide ((Builtin.Int.intBits (i:Int):Int)>8* (k:Int)))=false;rw [a1F z4,Bool.and_false]) ?_
  refine a0A (wpAny_mkBytes (a0I ⟨_,rfl,h _ _ _ ?_⟩) ?_)
  ·show KTBy.low (i:Int) (Int.toNat (k:Int))=_
   rw [Int.toNat_natCast,B0C hi];rfl
  ·refine fits _ ?_
   show (KTBy.low (i:Int) (Int.toNat (k:Int))).length=k
   rw [KTBy.low_length,Int.toNat_natCast]
noncomputable def B9r (l:List UInt8):Nat:=l.foldl (fun a c=>a*256+c.toNat) 0
theorem B9q (l:List UInt8):B9r l<256^l.length:=by
 have:=KFB.fold_lt l 0
 simpa [B9r] using this
theorem C2F {M:Model}{k:Nat}(hn:n<256^k)(hk:k≤1000)(h:Q (.int (n:Int) s.toks) {s with toks:=s.toks+1}):wpAny M A (mkIntGrown (n:Int)) Q E s:=by
 unfold mkIntGrown
 have hb:bitsLine=134217728:=by first| rfl| decide
 have e8:(256:Nat)^k=2^ (8*k):=by rw [Nat.pow_mul]
 have hl': ¬ (((n:Nat):Int).natAbs.log2≥bitsLine):=by
  rw [Int.natAbs_natCast,hb]
  by_cases hz:n=0
  ·rw [hz];decide
  ·have:=(Nat.log2_lt hz).mpr (e8▸hn)
   exact Nat.not_le.mpr (Nat.lt_of_lt_of_le this (a0F (Nat.mul_le_mul_left 8 hk) (by decide)))
 rw [if_neg hl']
 exact wpAny_mkInt h
theorem A8f {M:Model}{b:Array UInt8}{P:Fin→Shared→Prop}(hl:b.size≤1000)(h:P (.done (.ret (.int (B9r b.toList:Int) s.toks))) {s with toks:=s.toks+1}):
  wpAny M A (Builtin.«int.from_bytes» ⟨[.type "int",.bytes b t,.str (PySem.Str.ofString "big") u],[]⟩) P E s:=by
 unfold Builtin.«int.from_bytes»
 refine a0A (a0U (a:=true) KFB.type_int ?_)
 refine KFB.if_not rfl ?_
 refine a0A (a0U (a:=true) F.conv_sub_int ?_)
 refine KFB.if_not rfl ?_
 refine a0A (a0U (a:= [some (.bytes b t),some (.str (PySem.Str.ofString "big") u),none]) (by kernel_rfl) ?_)
 refine a0A (a0U (a:=PySem.Str.ofString "big") (by kernel_rfl) ?_)
 refine a0A (a0U (a:=false) rfl ?_)
 refine a0A (a0U (a:=false) (by kernel_rfl) ?_)
 refine a0A (a0U (a:=b) rfl ?_)
 show wpAny _ _ (mkIntGrown (b.toList.foldl (fun (acc:Int) (b:UInt8)=>acc*256+ (b.toNat:Int)) ((0:Nat):Int))>>=fun v=>_) _ _ _
 rw [KFB.foldI_eq]
 exact a0A (C2F (B9q b.toList) hl (KFB.if_so (by decide+kernel) (a0A (a0I (a0I h)))))
end
noncomputable def dec (i:Int):Str:=Str.ofString (toString i)
theorem B3C {w:World}{X:Str}{n:Int}{t u:Tok}(hX:X= "%d")(h0:0≤n)(h1:n<10^10)(h: ∀ t' k,Q (.str (dec n) t') {s with toks:=k}):
  wpAny (model prog w) A (binaryOp .Mod (.str X t) (.int n u)) Q E s:=by
 subst hX
 refine KPc.mod_int (T:=dec) (by kpc_eq) h0 h1 ?_ h
 kpc_run
theorem A9O {n:Int}(h0:0≤n)(h1:n<10^10):(dec n).length≤10:=toString_length_le (k:=10) h0 (by decide) h1
noncomputable def C2a (x:Str)(n:Int):Bool:= !(decide (n< -(2^63:Int))|| decide (n≥2^63))&& !decide ((x.length:Int)>(2^63 - 1) / n)&& !Builtin.Str.tooLong (x.length*n.toNat)
set_option backward.match.sparseCases false
noncomputable def C6p (k:Int):SV→Option SV
 | .bytes x n=>gd (decide (x≠ [])&&decide (2≤k)&&decide (k≤1000)&&decide (x.length≤16)) (some (.bytes (List.replicate k.toNat x).flatten (k.toNat*x.length)))
 | .str x n=>gd (decide (0≤k)&&C2a x k) (some (.str (Txt.mul x k) (Txt.mul x k).length))
 | _=>none
noncomputable def sh4 (k:Int):SV→Option SV
 | .bint i lo hi=>gd (decide (0≤k)&&decide (0≤lo)&&decide (k≤64)&&decide (hi< ((2^k.toNat:Nat):Int))) (some (.int 0))
 | .int i=>gd (decide (0≤k)) (some (.int (i.fdiv (2^k.toNat))))
 | _=>none
set_option backward.match.sparseCases true
noncomputable def C6q (a b:SV):Option SV:=(A0x a).bind fun p=>gd (p.1== "%d") ((B5Y b).bind fun q=>gd (decide (0≤q.2.1)&&decide (q.2.2<10^10)) (some (.str (dec q.1) 10)))
set_option backward.match.sparseCases false in
noncomputable def C3e (a b:SV):Operator→Option SV
 | .Mult=>(A0U b).bind fun k=>C6p k a
 | .Mod=>C6q a b
 | .RShift=>(A0U b).bind fun k=>sh4 k a
 | _=>none
noncomputable def C4W (op:Operator)(a b:SV):Option SV:=(C3e a b op).or (C4X op a b)
theorem A9e (k:Nat)(x:List UInt8):(List.replicate k x.reverse).flatten=((List.replicate k x).flatten).reverse:=by
 rw [List.reverse_flatten,List.map_replicate,List.reverse_replicate]
section
variable {w:World}{va vb:Value}{a b r:SV}{op:Operator}
theorem B5H {i k:Int}(h0:0≤k)(h1:0≤i)(h:i< ((2^k.toNat:Nat):Int)):i.fdiv (2^k.toNat)=0:=by
 have e2:((2:Int)^k.toNat)=((2^k.toNat:Nat):Int):=by rw [Int.natCast_pow];rfl
 rw [e2,Int.fdiv_eq_ediv_of_nonneg _ (a1W _)]
 exact Int.ediv_eq_zero_of_lt h1 h
theorem B5g (ha:SRep va a)(hb:SRep vb b)(e:C3e a b op=some r)(h: ∀ v tk,SRep v r→Q v {s with toks:=tk}):wpAny (model prog w) A (binaryOp op va vb) Q E s:=by
 cases op with
 | Mult=>
  refine x3 e fun k hk e=>(A2k (motive:=fun b=>SRep vb b→SRep vb (.int k)) hk id hb).intE fun u=> ?_
  cases a with
  | bytes x n=>
   refine x2 e fun hc e=>x7 hc fun h1 h2 h3 h4=>x1 (motive:=fun r=>(∀ v tk,SRep v r→Q v {s with toks:=tk})→_) e (fun h=>ha.bytesE fun b t hx hl=> ?_) h
   have h2:=a0B h2
   have h3:=a0B h3
   have h4:=a0B h4
   obtain rfl:b=x.reverse.toArray:=Array.ext' hx
   refine bytes_mul_K (n:=k) (d:=(List.replicate k.toNat x.reverse).flatten) (fun e=>a0B h1 (List.reverse_eq_nil_iff.mp e)) h2 (a1E h3 (by decide)) ?_ (by simp) (fun t' kk=>h _ _ (.bytes (by rw [A9e]) (by simp)))
   rw [a0O]
   exact a0F (Nat.mul_le_mul h4 (Int.toNat_le.mpr h3)) (by decide)
  | str x n=>exact x2 e fun hc e=>x5 hc fun h0 hc=>x6 hc fun c1 c2 c3=>x1 (motive:=fun r=>(∀ v tk,SRep v r→Q v {s with toks:=tk})→_) e (fun h=>ha.strE fun t hl=>SB.mul ⟨xn c1,fun Ω Ω=>of_decide_eq_false (xn c2),fun Ω Ω=>xn c3⟩ fun t' k=>h _ _ (.str (a0K _))) h
  | _=>exact x0 e
 | Mod=>
  refine x3 e fun p hp e=>x2 e fun hf e=>x3 e fun q hq e=>x2 e fun hc e=>x5 hc fun c1 c2=>(A0F (motive:=fun a=>SRep va a→SRep va (.str p.1 p.2)) hp id ha).strE fun t Ω=> ?_
  obtain⟨u,rfl,h1,h2⟩:=A2p hq hb
  have h1:=a1E (a0B c1) h1
  have h2:=a2U h2 (a0B c2)
  exact B3C (a0D hf) h1 h2 fun t' k=>h _ _ (x1 e (.str (A9O h1 h2)))
 | RShift=>
  refine x3 e fun k hk e=>(A2k (motive:=fun b=>SRep vb b→SRep vb (.int k)) hk id hb).intE fun u=> ?_
  cases a with
  | bint i lo hi=>exact x2 e fun hc e=>x7 hc fun c0 c1 c2 c3=>ha.bintE fun t h1 h2=>PyProof.Rows.rshift_int (a0B c0) (h _ _ (x1 e (by rw [B5H (a0B c0) (a1E (a0B c1) h1) (a2U h2 (a0B c3))];exact .int)))
  | int i=>exact x2 e fun c0 e=>ha.intE fun t=>PyProof.Rows.rshift_int (a0B c0) (h _ _ (x1 e .int))
  | _=>exact x0 e
 | _=>exact x0 e
theorem B7w (ha:SRep va a)(hb:SRep vb b)(e:C4W op a b=some r)(h: ∀ v tk,SRep v r→Q v {s with toks:=tk}):wpAny (model prog w) A (binaryOp op va vb) Q E s:=xo e (fun e=>B5g ha hb e h) fun e=>B1g ha hb e h
end
set_option backward.match.sparseCases false in
noncomputable def C2b:Operator→Bool
 | .FloorDiv=>true
 | .Mod=>true
 | .Mult=>true
 | .Pow=>true
 | .RShift=>true
 | _=>false
noncomputable def B7Y:Option Obj→Option (Array Value)
 | some o=>(match o.data with
  | .seq its _=>gd (match o.cls with
   | .type T=>T== "list"
   | _=>false) (some its)
  | _=>none)
 | none=>none
theorem B3O {o:Option Obj}{its:Array Value}(h:B7Y o=some its): ∃ a n sl,o=some ⟨.type "list",a,.seq its n,sl⟩:=by
 cases o with
 | none=>exact x0 h
 | some o=>
  obtain⟨a,b,dt,e⟩:=o
  cases dt with
  | seq ws n=>cases a with
   | type T=>exact x2 h fun hT h=>⟨b,n,e,by rw [←a0E h,a0D hT]⟩
   | _=>exact x0 h
  | _=>exact x0 h
noncomputable def C2p (K:Frag)(a:Addr)(i:Nat):Option V:=(B7Y (K.lookup a)).bind fun its=>(its[i]?).map A8x
set_option backward.match.sparseCases false in
noncomputable def C0I:Expr→Bool
 | .Name _ _=>true
 | .BinOp _ _ _ _=>true
 | _=>false
noncomputable def A2R:Expr→Option Int
 | .Constant c _ _=>B1b c
 | _=>none
@[elab_as_elim] theorem A3E {e:Expr} {i:Int} {motive:Expr→Prop} (h:A2R e=some i) (q: ∀ k p,motive (.Constant (.int i) k p)):motive e:=by
 cases e with
 | Constant k n p=>exact A9S (motive:=fun k=>motive (.Constant k n p)) h (q n p)
 | _=>exact x0 h
noncomputable def C4G (r:Evs)(b:Nat)(η:A0w)(sl:Expr):SV→Option (Option V)
 | .str x n=>(A2R sl).map fun k=>gd (decide (0≤k)&&decide (k<1000)) ((x.cps[k.toNat]?).map fun c=> .s (.str ⟨#[c]⟩ 1))
 | .bytes x n=>gd (C0I sl) (some ((((r.E b η sl).bind A0V).bind A0U).bind fun i=>gd (decide (0≤i)&&decide (n≤100000)) ((x.reverse[i.toNat]?).map fun c=> .s (.int c.toNat))))
 | _=>none
noncomputable def C6K (K:Frag)(r:Evs)(b:Nat)(η:A0w)(sl:Expr):V→Option (Option V)
 | .s x=>C4G r b η sl x
 | .k v=>(A4K v).bind fun a=>gd (C0I sl) (some ((((r.E b η sl).bind A0V).bind A0U).bind fun i=>gd (decide (0≤i)&&decide (i<1000)) (C2p K a i.toNat)))
 | _=>none
set_option backward.match.sparseCases false in
noncomputable def hE (K:Frag)(r:Evs)(b:Nat)(η:A0w):Expr→Option (Option V)
 | .BinOp l op e _=>gd (C2b op) (some ((ev2 r b η l e).bind fun p=>(C4W op p.1 p.2).map .s))
 | .Subscript v sl _=>(A1r v).bind fun w=>(η w).bind (C6K K r b η sl)
 | _=>none
noncomputable def C0Y:V→Option Bool
 | .s x=>(match x with
  | .int i=>some (i !=0)
  | .bool t=>some t
  | _=>none)
 | _=>none
noncomputable def hT (r:Evs)(b:Nat)(η:A0w):Expr→Option (Option Bool)
 | .BinOp l op e p=>some ((r.E b η (.BinOp l op e p)).bind C0Y)
 | _=>none
noncomputable def hCt (T:String)(rs:List V):Option (Option V):=(gd (T== "int") (((A1m rs).bind A0V).bind fun x=>(A0x x).map fun p=>gd (decide (p.1.length≤640)) ((PySem.intText? p.1).map fun i=> .s (.int i)))).or
 (gd (T== "bytes") (((A1m rs).bind A1V).bind fun l=>((A1m l).bind A0V).bind fun x=>(B5Y x).map fun q=>gd (decide (0≤q.2.1)&&decide (q.2.2<256)) (some (.s (.bytes [q.1.toNat.toUInt8] 1)))))
noncomputable def hC (r:Evs)(b:Nat):Value→List V→Option (Option V)
 | .type T,rs=>hCt T rs
 | _,_=>none
section
variable {r:Evs}
theorem A5k {op:Operator}{l e:Expr}{a b x:SV}(hl:Ev G C₀ c A m own (eval l env) (.s a))(hr: ∀ own',Ev G C₀ c A m (own'++own) (eval e env) (.s b))(hx:C4W op a b=some x):
  Ev G C₀ c A m own (eval (.BinOp l op e pos) env) (.s x):=by
 intro s Q E S q
 refine wpAny_BinOp (hl s _ E S fun own' va s' S' R=>hr own' s' _ E S' fun own'' vb s'' S'' R'=> ?_)
 refine R.sE fun _=> ?_;refine R'.sE fun _=> ?_
 rename_i ha hb
 exact B7w ha hb hx fun v tk h=>q (own''++own') v _ (by rw [a0C];exact S''.tok _) (.s h)
theorem C1A {i:Int}(h0:0≤i)(h:i< (n:Int)):seqIndex? i n=some i.toNat:=by
 show (if (decide (0≤ (if i<0 then i+ (n:Int) else i))&&decide ((if i<0 then i+ (n:Int) else i)< (n:Int)))=true then some (if i<0 then i+ (n:Int) else i).toNat else none)=_
 rw [if_neg (a2N.mpr h0),a0Q h0,a0Q h]
 rfl
theorem B2h {k:Int}{kk:Nat}{p:Pos}{ch:Nat}(h:Ev G C₀ c A m own (eval value env) (.s (.str x n)))(hlo:0≤k)(hhi:k<1000)(hx:x.cps[k.toNat]?=some ch):
  Ev G C₀ c A m own (eval (.Subscript value (.Constant (.int k) kk p) pos) env) (.s (.str ⟨#[ch]⟩ 1)):=by
 intro s Q E S q
 refine Subscript_ (h s _ E S fun own' v s' S' R=>a1J ?_)
 have R:=R.sI
 refine R.strE fun _ _=> ?_
 rename_i t hl
 have hlt:k.toNat<x.cps.size:=by
  rcases Nat.lt_or_ge k.toNat x.cps.size with h| h
  ·exact h
  ·rw [Array.getElem?_eq_none h] at hx;exact x0 hx
 refine A0b (T:= "str") (s:= {s' with toks:=s'.toks+1}) (typeIs_str _ x t) slot_str_getitem.lookup (getItem_str (s:= {s' with toks:=s'.toks+1}) (c:=ch) ?_ ?_ ?_) (.inl rfl)
 ·rw [a1F (a2N.mpr (a1E (by decide) hlo)),a1F (Int.not_le.mpr (Int.lt_trans hhi (by decide)))];rfl
 ·rw [C1A (n:=x.length) hlo ((Int.toNat_lt hlo).mp hlt)];exact hx
 ·exact q own' _ _ ((S'.tok _).tok _) (.s (.str (a0K 1)))
theorem A8c {idx:Expr}{o i:Value}(h:C0I idx=true):subscripted idx false o i=operate [o,i] (getItem o i)∨subscripted idx false o i=operate [i,o] (getItem o i):=by
 cases idx with
 | Name=>exact .inl rfl
 | BinOp=>first| exact .inl rfl| exact .inr rfl
 | _=>exact xf h
theorem B7k {idx:Expr}{a:Addr}{i:Int}{v:V}(ok:c.Ok G A)(h:Ev G C₀ c A m own (eval value env) (.k (.ref a)))(hi: ∀ own',Ev G C₀ c A m (own'++own) (eval idx env) (.s (.int i)))(hix:C0I idx=true)(h0:0≤i)(h1:i<1000)(hv:C2p G.K a i.toNat=some v):
  Ev G C₀ c A m own (eval (.Subscript value idx pos) env) v:=by
 intro s Q E S q
 refine Subscript_ (h s _ E S fun own' w s' S' R=>hi own' s' _ E S' fun own'' u s'' S'' R'=> ?_)
 refine R.kE ?_
 have R':=R'.sI
 refine R'.intE fun Ω=> ?_
 refine x3 hv fun its hl hv=>x4e hv fun x hx ev=> ?_
 obtain⟨dd,nn,sl,hl⟩:=B3O hl
 have hL:s''.heap.IsList a its:=⟨_,S''.X ok _ _ hl,rfl,nn,rfl⟩
 exact A0b (T:= "list") hL.typeIs slot_list_getitem.lookup (wpAny_getItem_list hL h0 (Int.lt_trans h1 (by decide)) hx (q (own''++own') _ _ S''.asc (ev▸A2S))) (A8c hix)
theorem A4f {idx:Expr}{x:List UInt8}{i:Int}{ch:UInt8}(h:Ev G C₀ c A m own (eval value env) (.s (.bytes x n)))(hi: ∀ own',Ev G C₀ c A m (own'++own) (eval idx env) (.s (.int i)))(hix:C0I idx=true)(h0:0≤i)(hn:n≤100000)(hv:x.reverse[i.toNat]?=some ch):
  Ev G C₀ c A m own (eval (.Subscript value idx pos) env) (.s (.int ch.toNat)):=by
 intro s Q E S q
 refine Subscript_ (h s _ E S fun own' w s' S' R=>hi own' s' _ E S' fun own'' u s'' S'' R'=> ?_)
 have R:=R.sI
 refine R.bytesE fun _ _ _ _=> ?_
 rename_i b tb hb hl
 have R':=R'.sI
 refine R'.intE fun _=> ?_
 rename_i ti
 have hT:Shared.TypeIs s'' (.bytes b tb) "bytes" :=typeIs_bytes _ _ _
 have hsz:b.size=x.length:=by have:=congrArg List.length hb;simpa using this
 have hlt:i.toNat<x.length:=by
  rcases Nat.lt_or_ge i.toNat x.length with h| h
  ·exact h
  ·rw [List.getElem?_eq_none (by simpa using h)] at hv;exact x0 hv
 have h2:=(Int.toNat_lt h0).mp hlt
 have e:seqIndex? i b.size=some i.toNat:=C1A h0 (hsz▸h2)
 have hg:b[i.toNat]?=some ch:=by rw [←Array.getElem?_toList,hb];exact hv
 refine A0b (value:=value) (slice:=idx) (T:= "bytes") hT FB.slot_bytes_getitem.lookup
  (getItem_gives hT (by decide) FB.slot_bytes_getitem FB.entry_bytes_getitem (a2X _ _) (gives_bytes_getitem _ i tb ti ch ?_ ?_) ?_) ?_
 ·exact(a1B ..).mpr ⟨a0Q (a1E (by decide) h0),a0Q (Int.lt_of_lt_of_le h2 (a1E (Int.ofNat_le.mpr (a0F hl hn)) (by decide)))⟩
 ·rw [e];exact hg
 ·exact q (own''++own') _ _ (by rw [a0C];exact S''.tok _) (.s .int)
 ·exact A8c hix
theorem C0i {l e:Expr}{op:Operator}{p:Pos}{i:Int}(h:Ev G C₀ c A m own (eval (.BinOp l op e p) env) (.s (.int i))):EvT G c A m own (isTrue (.BinOp l op e p) env (eval (.BinOp l op e p) env)) (i !=0):=by
 intro s Q E S q
 refine isTrue_plain (h s _ E S fun own' v s' S' R=> ?_) rfl
 refine R.sE fun _=> ?_
 rename_i hb
 refine hb.intE fun _=> ?_
 exact PyProof.Rows.truthy_int (q own' s' S')
noncomputable def hkD (K:Frag):Hk:=⟨hE K,hT,fun Ω Ω Ω Ω Ω=>none,hC,fun Ω Ω Ω Ω Ω=>none⟩
theorem hkD_ok:HkOk G C₀ (hkD G.K) where
 M:=fun Ω h=>nomatch h
 S:=fun Ω h=>nomatch h
 E:=fun {r b η e v} X h {c A m own env} ok room hg hn=>by
  cases e with
  | BinOp=>exact x2 h fun Ω h=>x3 (a0E h) fun p hp h=>x4 h fun y hy=>A6j hp fun h1 h2=>A5k (X.E h1 ok room hg hn) (fun own'=>X.E h2 ok room hg (hn.more own')) hy
  | Subscript v sl=>
   refine x3 h fun w hw h=>x3 h fun o ho h=>A0T hw fun p=> ?_
   cases o with
   | s x=>cases x with
    | str=>exact x4e h fun k hk h=>x2 h.symm fun hc h=>x5 hc fun c1 c2=>x4 h fun y hy=>A3E hk fun Ω Ω=>B2h (hn _ _ _ [] ho) (a0B c1) (a0B c2) hy
    | bytes=>exact x2 h fun hix h=>x3 (a0E h) fun i hi h=>x2 h fun hc h=>x5 hc fun c1 c2=>x4 h fun ch hch=>A4f (hn _ _ _ [] ho) (fun own'=>X.E (A0i (A2B hi)) ok room hg (hn.more own')) hix (a0B c1) (a0B c2) hch
    | _=>exact x0 h
   | k u=>exact x3 h fun a ha h=>x2 h fun hix h=>x3 (a0E h) fun i hi h=>x2 h fun hc h=>x5 hc fun c1 c2=>B7k ok (hn _ _ _ [] (ho.trans (by rw [A3P ha]))) (fun own'=>X.E (A0i (A2B hi)) ok room hg (hn.more own')) hix (a0B c1) (a0B c2) h
   | _=>exact x0 h
  | _=>exact x0 h
 T:=fun {r b η e t} X h {c A m own env} ok room hg hn=>by
  cases e with
  | BinOp=>
   refine x3 (a0E h) fun v hv h=> ?_
   cases v with
   | s x=>cases x with
    | int=>exact x1 h (C0i (X.E hv ok room hg hn))
    | bool=>exact x1 h (B0Y rfl (X.E hv ok room hg hn))
    | _=>exact x0 h
   | _=>exact x0 h
  | _=>exact x0 h
 C:=fun {r b f rs v} X h {c A m own vs} ok room R=>by
  cases f with
  | type T=>
   refine xo h (fun h=>x2 h fun hT h=>xs hT (x3 h fun x hx h=>x4e h fun p hp h=>x2 h.symm fun hl h=>x4 h fun i hi=>R.s1 hx fun u Rx=>(A0F (motive:=fun x=>SRep u x→SRep u (.str p.1 p.2)) hp id Rx).strE fun Ω Ω s Q E S q Ω=>KIN.call_text hi (a0B hl) (q [] _ _ (S.tok _) (.s .int)))) fun h=>
    x2 h fun hT h=>xs hT (x3 h fun l hl h=>x3 h fun x hx h=>x4e h fun p hp h=>x2 h.symm fun hc h=>x1 h (x5 hc fun c1 c2=>R.list1 hl fun u Rl=>Rl.listE fun a vs n hz Rl s Q E S q Ω=> ?_))
   revert hz
   refine Rl.s1 hx fun y Ry=> ?_
   obtain⟨t,rfl,h1,h2⟩:=A2p hp Ry
   exact fun hz=>bytes_K S.F S.N ⟨_,S.get ok hz,rfl,_,rfl⟩ (ns:= [p.1]) (.cons p.1 t .nil) (fun n hn=>by rw [a0L.mp hn];exact⟨a1E (a0B c1) h1,a2U h2 (a0B c2)⟩) (by rw [a1I];exact a0Z rfl) ok.free fun h' t k F N Ω=>q [] _ _ ⟨F,N,S.gens,S.os,S.dr⟩ (.s (.bytes rfl (a0K _)))
  | _=>exact x0 h
end
section
variable {w:World}{R:Result→Shared→Prop}
theorem A8y (elt it1 it2:Expr)(x y:Str)(px py:Pos)(scope:Scope)(pos:Pos)(it acc:Value)(env:Env):
 compTurn (.ListComp elt [⟨.Name x px,it1,[],0⟩,⟨.Name y py,it2,[],0⟩] scope pos) 0 it acc env=(standAt it1.pos>>=fun Ω=>pyNext it>>=fun r=>match r with
  | none=>pure (.done .next)
  | some v=>assign (.Name x px) env v>>=fun Ω=>
   (eval it2 env>>=fun z=>standAt it2.pos>>=fun Ω=>foldedSetIterable it2 env z>>=fun z=>holding [z] (pyIter z)>>=fun it'=>
    runOwn (.compStart (.ListComp elt [⟨.Name x px,it1,[],0⟩,⟨.Name y py,it2,[],0⟩] scope pos) 1 it' acc env) env>>=fun Ω=>
    again (.compLoop (.ListComp elt [⟨.Name x px,it1,[],0⟩,⟨.Name y py,it2,[],0⟩] scope pos) 0 it acc env))):=by rfl
theorem A9T (elt it1 it2:Expr)(x y:Str)(px py:Pos)(scope:Scope)(pos:Pos)(it acc:Value)(env:Env):
 compTurn (.ListComp elt [⟨.Name x px,it1,[],0⟩,⟨.Name y py,it2,[],0⟩] scope pos) 1 it acc env=(standAt it2.pos>>=fun Ω=>pyNext it>>=fun r=>match r with
  | none=>pure (.done .next)
  | some v=>assign (.Name y py) env v>>=fun Ω=>
   (eval elt env>>=fun z=>call (.builtin "list.append") [acc,z]>>=fun Ω=>pure ())>>=fun Ω=>
    again (.compLoop (.ListComp elt [⟨.Name x px,it1,[],0⟩,⟨.Name y py,it2,[],0⟩] scope pos) 1 it acc env)):=by rfl
theorem A4q {elt it1 it2:Expr}{y:Str}{px py:Pos}{it acc:Value}(hset: ∀ z,foldedSetIterable it2 env z=pure z)(I:Nat→Shared→Prop)
  (turn: ∀ n s (E₁ E₂ E₃:Value→Shared→Prop),I n s→wpAny (model prog w) A (pyNext it) (fun r s₁=>match r with
   | none=>R (.ok .next) s₁
   | some v=>wpAny (model prog w) A (assign (.Name x px) env v) (fun Ω s₂=>wpAny (model prog w) A (eval it2 env) (fun z s₃=>wpAny (model prog w) A (pyIter z) (fun it' s₄=>
    codeAny (model prog w) A (.compStart (.ListComp elt [⟨.Name x px,it1,[],0⟩,⟨.Name y py,it2,[],0⟩] scope pos) 1 it' acc env) (fun r s₅=>match r with
     | .ok _=> ∃ m,m<n∧I m s₅
     | .error _=>False) s₄) E₃ s₃) E₂ s₂) E₁ s₁) (notedBy (model prog w) A env fun e s'=>R (.error e) s') s)
  (n:Nat) (h:I n s):codeAny (model prog w) A (.compLoop (.ListComp elt [⟨.Name x px,it1,[],0⟩,⟨.Name y py,it2,[],0⟩] scope pos) 0 it acc env) R s:=by
 refine codeAny_loop rfl I (fun n s hI=> ?_) n h
 show wpAny _ A ((compTurn (.ListComp elt [⟨.Name x px,it1,[],0⟩,⟨.Name y py,it2,[],0⟩] scope pos) 0 it acc env).onRaise (fun x=>do noteFrame x env;theTreesLotGoes x)) _ _ s
 refine wpAny_noted ?_
 rw [A8y]
 refine a0A (a1R (a0A (a2F (turn n s (notedBy (model prog w) A env fun e s'=>R (.error e) s') (notedBy (model prog w) A env fun e s'=>R (.error e) s') (notedBy (model prog w) A env fun e s'=>R (.error e) s') hI) (fun r s₁ h₁=> ?_) fun Ω Ω h'=>h')))
 cases r with
 | none=>exact a0I h₁
 | some v=>
  refine a0A (a2F h₁ (fun Ω s₂ h₂=>a0A (a2F h₂ (fun z s₃ h₃=>a0A (a1R (a0A (a0U (hset z) (a0A (a0R (a2F h₃ (fun it' s₄ h₄=> ?_) fun Ω Ω h'=>h'))))))) fun Ω Ω h'=>h')) fun Ω Ω h'=>h')
  refine a0A (wpAny_runOwn (codeAny_mono h₄ fun r s₅ h₅=> ?_))
  cases r with
  | ok f=>exact a0I ⟨rfl,h₅⟩
  | error e=>exact h₅.elim
theorem A5s {elt it1 it2:Expr}{y:Str}{px py:Pos}{it acc:Value}(I:Nat→Shared→Prop)
  (turn: ∀ n s (E₁ E₂ E₃:Value→Shared→Prop),I n s→wpAny (model prog w) A (pyNext it) (fun r s₁=>match r with
   | none=>R (.ok .next) s₁
   | some v=>wpAny (model prog w) A (assign (.Name y py) env v) (fun Ω s₂=>wpAny (model prog w) A (eval elt env) (fun z s₃=>wpAny (model prog w) A (call (.builtin "list.append") [acc,z]) (fun Ω s₄=> ∃ m,m<n∧I m s₄) E₃ s₃) E₂ s₂) E₁ s₁)
   (notedBy (model prog w) A env fun e s'=>R (.error e) s') s)
  (n:Nat) (h:I n s):codeAny (model prog w) A (.compLoop (.ListComp elt [⟨.Name x px,it1,[],0⟩,⟨.Name y py,it2,[],0⟩] scope pos) 1 it acc env) R s:=by
 refine codeAny_loop rfl I (fun n s hI=> ?_) n h
 show wpAny _ A ((compTurn (.ListComp elt [⟨.Name x px,it1,[],0⟩,⟨.Name y py,it2,[],0⟩] scope pos) 1 it acc env).onRaise (fun x=>do noteFrame x env;theTreesLotGoes x)) _ _ s
 refine wpAny_noted ?_
 rw [A9T]
 refine a0A (a1R (a0A (a2F (turn n s (notedBy (model prog w) A env fun e s'=>R (.error e) s') (notedBy (model prog w) A env fun e s'=>R (.error e) s') (notedBy (model prog w) A env fun e s'=>R (.error e) s') hI) (fun r s₁ h₁=> ?_) fun Ω Ω h'=>h')))
 cases r with
 | none=>exact a0I h₁
 | some v=>
  exact a0A (a2F h₁ (fun Ω s₂ h₂=>a0A (a0A (a2F h₂ (fun z s₃ h₃=>a0A (a2F h₃ (fun Ω s₄ h₄=>a0I (a0I ⟨rfl,h₄⟩)) fun Ω Ω h'=>h')) fun Ω Ω h'=>h'))) fun Ω Ω h'=>h')
theorem A4p {elt it1 it2:Expr}{y:Str}{px py:Pos}{it acc:Value}
  (h0:codeAny (model prog w) A (.compLoop (.ListComp elt [⟨.Name x px,it1,[],0⟩,⟨.Name y py,it2,[],0⟩] scope pos) 1 it acc env) R s)
  (h:wpAny (model prog w) A (pyIter it) (fun it' s'=>codeAny (model prog w) A (.compLoop (.ListComp elt [⟨.Name x px,it1,[],0⟩,⟨.Name y py,it2,[],0⟩] scope pos) 1 it' acc env) R s')
   (notedBy (model prog w) A env fun x s'=>R (.error x) s') s):
  codeAny (model prog w) A (.compStart (.ListComp elt [⟨.Name x px,it1,[],0⟩,⟨.Name y py,it2,[],0⟩] scope pos) 1 it acc env) R s:=by
 refine codeAny_of_tree ?_
 show wpAny _ _ ((compStart (.ListComp elt [⟨.Name x px,it1,[],0⟩,⟨.Name y py,it2,[],0⟩] scope pos) 1 it acc env).onRaise (fun x=>do noteFrame x env;standAt theWindowsPlace)) _ _ s
 refine wpAny_notedAt ?_
 unfold compStart
 show wpAny _ _ (ask>>=_) _ _ s
 refine a0A (wpAny_askSetting (wpAny_ite ?_))
 split
 ·first
   | exact a0A (a0I (a0I (And.intro rfl h0)))
   | exact a0I (And.intro rfl h0)
 ·first
   | exact a0A (wpAny_rule (a0A (a1R (a0A (a2F h (fun it' s' h'=>a0I (And.intro rfl h')) fun Ω Ω x=>x)))))
   | (refine a0A (wpAny_rule ?_);show wpAny _ _ (standAt it2.pos>>=_) _ _ s;exact a0A (a1R (a0A (a2F h (fun it' s' h'=>a0I (And.intro rfl h')) fun Ω Ω x=>x))))
end
section
theorem St.chg {X:Addr}{h':Heap}{tk:Nat}{own₂:List (Addr×Obj)}(S:St c m own s)(hk: ∀ b o,b∉ [X]→s.heap.get? b=some o→h'.get? b=some o)(hX:X≠c.L)(hn:c.h₀.get? X=none)
  (h: ∀ p∈own₂,(p.1=X∧h'.get? X=some p.2)∨(p∈own∧p.1≠X)) (h2: ∀ p∈c.news,p.1≠X):St c m own₂ {s with heap:=h',toks:=tk}:=by
 refine⟨fr_but S.F hk (a0X hX) hn,fun p hp=> ?_,S.gens,S.os,S.dr⟩
 rcases a1O.mp hp with hp| hp
 ·rcases h p hp with ⟨e,q⟩| ⟨q,e⟩
  ·rw [←e] at q hX hn
   exact⟨q,hX,hn⟩
  ·have z:=S.N p (a0H _ q)
   exact⟨hk _ _ (by simpa using e) z.1,z.2⟩
 ·have z:=S.N p (a0G _ hp)
  exact⟨hk _ _ (by simpa using h2 p hp) z.1,z.2⟩
theorem St.sub {own₂:List (Addr×Obj)}(S:St c m own s)(h: ∀ p∈own₂,p∈own):St c m own₂ s:=
 ⟨S.F,fun p hp=>S.N p ((a1O.mp hp).elim (fun q=>a0H _ (h p q)) fun q=>a0G _ q),S.gens,S.os,S.dr⟩
theorem A2m {X:Addr}{h h':Heap}(hs:Heap.SameBut X h h'): ∀ b o,b∉ [X]→h.get? b=some o→h'.get? b=some o:=fun b o hb e=>hs.extBut b o (by simpa using hb) e
theorem SReps.length {ys:List SV}(h:SReps vs ys):vs.length=ys.length:=by
 induction h with
 | nil=>rfl
 | snoc _ _ ih=>simp [ih]
theorem kq {k:ScopeKind}{a:Bool}(h:k= .function):(k== .class|| k== .module&&a)=false:=by subst h;rfl
structure Aw (c:Fc)(own:List (Addr×Obj))(C D X:Addr):Prop where
 C:X≠C
 D:X≠D
 L:X≠c.L
 z:c.h₀.get? X=none
 o: ∀ p∈own,p.1≠X
 n: ∀ p∈c.news,p.1≠X
theorem Aw.ne0 {D X b:Addr}{o:Obj}(a:Aw c own C D X)(e:c.h₀.get? b=some o):b≠X:=fun q=>x0 (a.z.symm.trans (q▸e))
theorem Aw.nep {D X:Addr}{o:Obj}(a:Aw c own C D X){p:Addr×Obj}(hp:p∈ ((D,o)::own)++c.news):p.1≠X:=(a1O.mp hp).elim (fm (P:=fun p:Addr×Obj=>p.1≠X) (a0X a.D) a.o p) (a.n p)
theorem Aw.chg {D X:Addr}{o:Obj}{h':Heap}{tk:Nat}(a:Aw c own C D X)(S:St c m ((D,o)::own) s)(hs:Heap.SameBut X s.heap h'):St c m ((D,o)::own) {s with heap:=h',toks:=tk}:=
 S.chg (A2m hs) a.L a.z (fun p hp=> .inr ⟨hp,a.nep (a0H _ hp)⟩) a.n
theorem Aw.more {D X:Addr}{o₂:List (Addr×Obj)}(a:Aw c own C D X)(h: ∀ p∈o₂,p.1≠X):Aw c (o₂++own) C D X:=⟨a.C,a.D,a.L,a.z,fun p hp=>(a1O.mp hp).elim (h p) (a.o p),a.n⟩
theorem Aw.put {D X:Addr}{l:List (Addr×Obj)}{h':Heap}{o:Obj}{tk:Nat}(a:Aw c own C D X)(S:St c m l s)(hs:Heap.SameBut X s.heap h')(hl: ∀ p∈l,p.1≠X)(e:h'.get? X=some o):St c m ((X,o)::l) {s with heap:=h',toks:=tk}:=
 S.chg (A2m hs) a.L a.z (fm (.inl ⟨rfl,e⟩) fun p hp=> .inr ⟨hp,hl p hp⟩) a.n
theorem St.add {X:Addr}{o:Obj}(S:St c m own s)(e:s.heap.get? X=some o)(L:X≠c.L)(z:c.h₀.get? X=none):St c m ((X,o)::own) s:=⟨S.F,fm ⟨e,L,z⟩ S.N,S.gens,S.os,S.dr⟩
theorem C2V {h:Heap}{a b:Addr}{o p:Obj}{k k':String}(e:h.get? a=some o)(q:h.get? b=some p)(ek:o.cls= .type k)(qk:p.cls= .type k')(n:k≠k'):a≠b:=fun r=>by
 subst r
 rw [a0E (e.symm.trans q)] at ek
 exact n (Value.type.inj (ek.symm.trans qk))
theorem nm1 {X b:Addr}(h:b≠X):b∉ [X]:=fun q=>h (a0L.mp q)
variable {elt it1 it2:Expr}{y:Str}{px py:Pos}
theorem C4c {F:V→SV}{ys₀:List SV}{ys:List Value}{j:Nat}(h:SReps ys (ys₀++ (rs.take j).map F))(hj:j<rs.length)(hsz:ys₀.length+rs.length≤1000000):ys.toArray.size≤sizeLine:=by
 have e:=h.length
 rw [a1K,a1D] at e
 have:=List.length_take_le j rs
 rw [a1N,a1I];lia
structure In2 (c:Fc)(m:Str→Option Value)(own:List (Addr×Obj))(I:Addr)(oI:Obj)(C D J T:Addr)(x:Str)(v:Value)(rs:List V)(F:V→SV)(ys₀:List SV)(s:Shared)(j:Nat)(ys:List Value)(m₂:Str→Option Value):Prop where
 le:j≤rs.length
 S:St c m ((I,oI)::(D,lst ys)::own) s
 hC:s.heap.Ns C m₂
 hv:m₂ x=some v
 hJ:s.heap.IsTupleIter J T j
 ys:SReps ys (ys₀++ (rs.take j).map F)
theorem B9J {I D J T:Addr}{oI:Obj}{nn:Nat}{F:V→SV}{ys₀:List SV}(ok:c.Ok G A)(aI:Aw c own C D I)(aC:Aw c own I D C)(aD:Aw c own I C D)(aJ:Aw c own C D J)(JI:J≠I)(JT:T≠J)
  (hkind:scope.kind= .function) (hy:scope.names.lookup y=some .local) (hxy:x≠y)
  (hT:A8I c.h₀ T ⟨.type "tuple",none,.seq vs.toArray nn,#[]⟩ (own++c.news)) (Rs:Reps G C₀ (vis c own) vs rs) (hsz:ys₀.length+rs.length≤1000000)
  (he: ∀ own' oC m₂ w r,(C,oC)∈own'→NsObj oC m₂→m₂ x=some v→m₂ y=some w→Rep G C₀ (vis c (own'++own)) w r→r∈rs→Ev G C₀ c A m (own'++own) (eval elt (compEnvC scope cl C env)) (.s (F r)))
  {P:Shared→Prop} (hP: ∀ s' ys m₂,St c m ((I,oI)::(D,lst ys)::own) s'→s'.heap.Ns C m₂→SReps ys (ys₀++rs.map F)→P s')
  {ys:List Value} {m₂:Str→Option Value} (K:In2 c m own I oI C D J T x v rs F ys₀ s 0 ys m₂):
  codeAny G.M A (.compLoop (.ListComp elt [⟨.Name x px,it1,[],0⟩,⟨.Name y py,it2,[],0⟩] scope pos) 1 (.ref J) (.ref D) (compEnvC scope cl C env)) (fun r s₅=>match r with| .ok _=>P s₅| .error _=>False) s:=by
 have W:=Walks.tuple (prog:=G.prog) (w:=G.w) ok.free J T JT vs.toArray
 have hlen:vs.toArray.size=rs.length:=List.size_toArray.trans Rs.length
 refine A5s (fun k s'=> ∃ j ys m₂,k=rs.length - j∧In2 c m own I oI C D J T x v rs F ys₀ s' j ys m₂) ?_ rs.length ⟨0,ys,m₂,rfl,K⟩
 rintro k s' E₁ E₂ E₃ ⟨j,ys,m₂,rfl,K⟩
 have hTt:s'.heap.IsTuple T vs.toArray:=Or.elim hT (fun z=>⟨_,K.S.F.keep _ _ z,rfl,nn,rfl⟩) fun z=>⟨_,(K.S.N _ (.tail _ (.tail _ z))).1,rfl,nn,rfl⟩
 have nJ: ∀ p∈ (I,oI)::(D,lst ys)::own,p.1≠J:=fm (P:=fun p:Addr×Obj=>p.1≠J) (a0X JI) (fm (a0X aJ.D) aJ.o)
 by_cases hlt:j<rs.length
 ·refine W.item j s' _ _ (hlen.symm▸hlt) ⟨K.hJ,hTt⟩ fun w h₂ tk₂ hw st₂ hk₂=> ?_
  refine wpAny_assign_Name (wpAny_storeName_local (lookup_relabel_local hy) (K.hC.at' fun o e=>hk₂ _ o (nm1 (a0X aJ.C)) e) (fun h₃ hn₃ hs₃=> ?_) (kq hkind))
  obtain⟨oC,heC,hoC⟩:=ns_obj hn₃
  obtain⟨oJ,e2,qJ⟩:=st₂.1
  have hrj:=List.getElem?_eq_getElem hlt
  obtain⟨w',hw',R'⟩:=Rs.get hrj
  obtain rfl:w'=w:=a0E (hw'.symm.trans (List.getElem?_toArray.symm.trans hw))
  refine he [(J,oJ),(C,oC),(I,oI),(D,lst ys)] oC _ w' rs[j] (.tail _ (.head _)) hoC ((if_neg hxy).trans K.hv) (if_pos rfl) (R'.mono A0a) (List.getElem_mem hlt) _ _ _
   ((aC.put (tk:=tk₂+1) (K.S.chg (tk:=tk₂) hk₂ aJ.L aJ.z (fun p hp=> .inr ⟨hp,nJ p hp⟩) aJ.n) hs₃ (fm (P:=fun p:Addr×Obj=>p.1≠C) aI.C (fm (a0X aC.D) aC.o)) heC).add (hs₃.extBut _ _ aJ.C e2) aJ.L aJ.z) fun own₅ u s₅ S₅ Ru=>Ru.sE fun hu=> ?_
  have g:=fun p hp=>(S₅.N p (a0H _ (a0G _ hp))).1
  refine append_at (g (D,lst ys) (.tail _ (.tail _ (.tail _ (.head _))))) (fun h₆ hs₆ hD₆=> ?_) (C4c K.ys hlt hsz)
  refine⟨rs.length - (j+1),Nat.sub_succ_lt_self _ _ hlt,j+1,ys++ [u],_,rfl,hlt,S₅.chg (tk:=s₅.toks) (A2m hs₆) aD.L aD.z (fm (.inr ⟨a0G _ (.tail _ (.tail _ (.head _))),aI.D⟩) (fm (.inl ⟨rfl,hD₆.trans (congrArg some (lst_snoc ys u))⟩) fun p hp=> .inr ⟨a0G _ (.tail _ (.tail _ (.tail _ (.tail _ hp)))),aD.o p hp⟩)) aD.n,
   (hoC.ns (g _ (.tail _ (.head _)))).sameBut hs₆ aC.D,(if_neg hxy).trans K.hv,⟨oJ,hs₆.extBut _ _ aJ.D (g _ (.head _)),qJ⟩,?_⟩
  rw [List.take_add_one,hrj,a2P,←a0C]
  exact .snoc K.ys hu
 ·obtain rfl:j=rs.length:=Nat.le_antisymm K.le (Nat.not_lt.mp hlt)
  refine W.done s' _ _ (hlen.symm▸ ⟨K.hJ,hTt⟩) fun h₂ tk₂ hk₂=>hP _ ys m₂ (K.S.chg hk₂ aJ.L aJ.z (fun p hp=> .inr ⟨hp,nJ p hp⟩) aJ.n) (K.hC.at' fun o e=>hk₂ _ o (nm1 (a0X aJ.C)) e) ?_
  have hys:=K.ys
  rw [List.take_length] at hys
  exact hys
theorem Reps.simple {Z':Held}: ∀ {vs:List Value} {js:List SV},Reps G C₀ Z vs (js.map .s)→Reps G C₀ Z' vs (js.map .s)
 | _,[],h=>by cases h;exact .nil
 | _,j::js,h=>by
  cases h with
  | cons a h=>
   have a:=a.sI
   exact .cons (.s a) (Reps.simple h)
structure Out2 (c:Fc)(m:Str→Option Value)(own:List (Addr×Obj))(I C D:Addr)(b:Array UInt8)(t:Tok)(rs:List V)(F:UInt8→V→SV)(s:Shared)(i:Nat)(ys:List Value)(m₂:Str→Option Value):Prop where
 le:i≤b.size
 S:St c m ((D,lst ys)::own) s
 hC:s.heap.Ns C m₂
 hI:KBw.IsBytesIter s.heap I b t i
 ys:SReps ys ((b.toList.take i).flatMap fun o=>rs.map (F o))
theorem C4p {F:UInt8→V→SV}(l:List UInt8):(l.flatMap fun o=>rs.map (F o)).length=l.length*rs.length:=by
 induction l with
 | nil=>exact(Nat.zero_mul _).symm
 | cons a l ih=>rw [List.flatMap_cons,a1K,a1D,ih,a1T,Nat.succ_mul,Nat.add_comm]
theorem B9j {I D:Addr}{b:Array UInt8}{t:Tok}{js:List SV}{F:UInt8→V→SV}(ejs:rs=js.map .s)(ok:c.Ok G A)(aI:Aw c own C D I)(aC:Aw c own I D C)(aD:Aw c own I C D)
  (hkind:scope.kind= .function) (hx:scope.names.lookup x=some .local) (hy:scope.names.lookup y=some .local) (hxy:x≠y) (hset:A1P it2=true) (hsz:b.size≤1000) (hrs:rs.length≤100)
  (hj: ∀ own' oC m₂,(C,oC)∈own'→NsObj oC m₂→Ev G C₀ c A m (own'++own) (eval it2 (compEnvC scope cl C env)) (.tup rs))
  (he: ∀ own' oC m₂ v w o r,(C,oC)∈own'→NsObj oC m₂→m₂ x=some v→m₂ y=some w→SRep v (.int o.toNat)→Rep G C₀ (vis c (own'++own)) w r→o∈b.toList→r∈rs→Ev G C₀ c A m (own'++own) (eval elt (compEnvC scope cl C env)) (.s (F o r)))
  {R:Result→Shared→Prop} (hR: ∀ s' ys m₂,St c m ((D,lst ys)::own) s'→s'.heap.Ns C m₂→SReps ys (b.toList.flatMap fun o=>rs.map (F o))→R (.ok .next) s')
  {m₂:Str→Option Value} (K:Out2 c m own I C D b t rs F s 0 [] m₂):
  codeAny G.M A (.compLoop (.ListComp elt [⟨.Name x px,it1,[],0⟩,⟨.Name y py,it2,[],0⟩] scope pos) 0 (.ref I) (.ref D) (compEnvC scope cl C env)) R s:=by
 have W:=KBw.walks (prog:=G.prog) (w:=G.w) ok.free I b t
 refine A4q (A0y hset) (fun k s'=> ∃ i ys m₂,k=b.size - i∧Out2 c m own I C D b t rs F s' i ys m₂) ?_ b.size ⟨0,[],m₂,rfl,K⟩
 rintro k s' E₁ E₂ E₃ ⟨i,ys,m₂,rfl,K⟩
 by_cases hlt:i<b.size
 ·refine W.item i s' _ _ hlt K.hI fun v h₂ tk₂ hw st₂ hk₂=> ?_
  refine wpAny_assign_Name (wpAny_storeName_local (lookup_relabel_local hx) (K.hC.at' fun o e=>hk₂ _ o (nm1 (a0X aI.C)) e) (fun h₃ hn₃ hs₃=> ?_) (kq hkind))
  obtain⟨oC,heC,hoC⟩:=ns_obj hn₃
  obtain⟨oI,eI,qI⟩:=st₂
  obtain⟨o,u,hbo,rfl⟩:=hw
  refine hj [(I,oI),(C,oC),(D,lst ys)] oC _ (.tail _ (.head _)) hoC _ _ _ ((aC.put (tk:=tk₂+1) (K.S.chg (tk:=tk₂) hk₂ aI.L aI.z (fun p hp=> .inr ⟨hp,fm (P:=fun p:Addr×Obj=>p.1≠I) (a0X aI.D) aI.o p hp⟩) aI.n) hs₃ (fm (P:=fun p:Addr×Obj=>p.1≠C) (a0X aC.D) aC.o) heC).add (hs₃.extBut _ _ aI.C eI) aI.L aI.z)
   fun own₅ z s₅ S₅ Rz=>Rz.tupE fun T vs nn hz Rs=> ?_
  have gT:=S₅.get ok hz
  have inB: ∀ p∈ [(I,oI),(C,oC),(D,lst ys)]++own,p∈own₅++ ([(I,oI),(C,oC),(D,lst ys)]++own)++c.news:=fun p hp=>a0H _ (a0G _ hp)
  have gC:=(S₅.N (C,oC) (inB _ (.tail _ (.head _)))).1
  have TD:T≠D:=C2V gT (S₅.N (D,lst ys) (inB _ (.tail _ (.tail _ (.head _))))).1 rfl rfl (by decide)
  have TI:T≠I:=C2V gT (S₅.N (I,oI) (inB _ (.head _))).1 rfl qI.1 (by decide)
  have TC:T≠C:=fun e=>by
   rw [e,gC] at gT
   obtain⟨es,ep,hd,_⟩:=hoC
   obtain rfl:=a0E gT;cases hd
  refine wpAny_pyIter_tuple ⟨_,gT,rfl,nn,rfl⟩ ?_
  have up: ∀ b o,s₅.heap.get? b=some o→(s₅.heap.push {cls:= .type "tuple_iterator",data:= .fields #[.ref T,.int 0 0]}).get? b=some o:=fun b o e=>Heap.get?_push_of_some _ e
  obtain⟨ownT,hTs,hTo⟩: ∃ ownT:List (Addr×Obj),(∀ p∈ownT,p.1=T∧p∈own₅++ ([(I,oI),(C,oC),(D,lst ys)]++own)++c.news)∧A8I c.h₀ T ⟨.type "tuple",none,.seq vs.toArray nn,#[]⟩ (ownT++own++c.news):=
   Or.elim (ok.vis_held T _ hz) (fun z=>⟨[],fn,.inl z⟩) fun z=>⟨[(T,_)],fm ⟨rfl,z⟩ fn,.inr (.head _)⟩
  have memTo: ∀ p∈ (ownT++own)++c.news,p∈own₅++ ([(I,oI),(C,oC),(D,lst ys)]++own)++c.news:=fun p hp=>
   (a1O.mp hp).elim (fun hp=>(a1O.mp hp).elim (fun hp=>(hTs p hp).2) fun hp=>inB p (.tail _ (.tail _ (.tail _ hp)))) (a0G _)
  have fresh: ∀ p∈own₅++ ([(I,oI),(C,oC),(D,lst ys)]++own)++c.news,p.1≠s₅.heap.objs.size:=fun p hp=>a0S (a0W (S₅.N p hp).1)
  have aT: ∀ {X:Addr},T≠X→ ∀ p∈ownT,p.1≠X:=fun h p hp=>(hTs p hp).1.symm▸h
  have S₆:St c m ((I,oI)::(D,lst ys)::(ownT++own)) {s₅ with heap:=s₅.heap.push {cls:= .type "tuple_iterator",data:= .fields #[.ref T,.int 0 0]}}:=⟨S₅.F.keeps up,fun p hp=>by
   have q:=fm (P:=fun p=>p∈own₅++ ([(I,oI),(C,oC),(D,lst ys)]++own)++c.news) (inB _ (.head _)) (fm (inB _ (.tail _ (.tail _ (.head _)))) memTo) p hp
   exact⟨up _ _ (S₅.N p q).1,(S₅.N p q).2⟩,S₅.gens,S₅.os,S₅.dr⟩
  have hJ:(s₅.heap.push {cls:= .type "tuple_iterator",data:= .fields #[.ref T,.int 0 0]}).IsTupleIter s₅.heap.objs.size T 0:=⟨_,Heap.get?_push_size _ rfl,rfl,rfl⟩
  have Rs':Reps G C₀ (vis c (ownT++own)) vs rs:=by rw [ejs] at Rs ⊢;exact Rs.simple
  have inner:codeAny G.M A (.compLoop (.ListComp elt [⟨.Name x px,it1,[],0⟩,⟨.Name y py,it2,[],0⟩] scope pos) 1 (.ref s₅.heap.objs.size) (.ref D) (compEnvC scope cl C env))
    (fun r s₅=>match r with| .ok _=> ∃ kk,kk<b.size - i∧ ∃ i ys m₂,kk=b.size - i∧Out2 c m own I C D b t rs F s₅ i ys m₂| .error _=>False) {s₅ with heap:=s₅.heap.push {cls:= .type "tuple_iterator",data:= .fields #[.ref T,.int 0 0]}}:=by
   refine B9J (F:=F o) (v:= .int o.toNat u) (P:=fun s₅=> ∃ k,k<b.size - i∧ ∃ i ys m₂,k=b.size - i∧Out2 c m own I C D b t rs F s₅ i ys m₂)
    ok (aI.more (aT TI)) (aC.more (aT TC)) (aD.more (aT TD)) ⟨a0X (fresh (C,oC) (inB _ (.tail _ (.head _)))),a0X (fresh (D,lst ys) (inB _ (.tail _ (.tail _ (.head _))))),a2D S₅.F.ns.lt,next_is_new S₅.F,fun p hp=>fresh p (memTo p (a0H _ hp)),fun p hp=>fresh p (a0G _ hp)⟩
    (a0X (fresh (I,oI) (inB _ (.head _)))) (a0S (a0W gT)) hkind hy hxy hTo Rs' ?_ ?_ ?_ ⟨a2K _,S₆,(hoC.ns gC).keeps up,if_pos rfl,hJ,by rw [List.take_zero,List.map_nil,a1H];exact K.ys⟩
   ·rw [C4p,List.length_take]
    exact Nat.add_le_add (Nat.mul_le_mul (a0F (Nat.min_le_left _ _) (a0F K.le hsz)) hrs) (a0F hrs (by decide:100≤900000))
   ·intro own' oC' m₃ w r hm hn hx' hy' Rw hr
    rw [←a0C] at Rw ⊢
    exact he (own'++ownT) oC' m₃ _ w o r (a0H _ hm) hn hx' hy' .int Rw (List.mem_of_getElem? (Array.getElem?_toList.trans hbo)) hr
   ·intro s₇ ys₇ m₇ S₇ hC₇ hys₇
    refine⟨b.size - (i+1),Nat.sub_succ_lt_self _ _ hlt,i+1,ys₇,m₇,rfl,hlt,S₇.sub (fm (.tail _ (.head _)) fun p hp=> .tail _ (.tail _ (a0G _ hp))),hC₇,⟨oI,(S₇.N (I,oI) (.head _)).1,qI⟩,?_⟩
    rw [List.take_add_one,Array.getElem?_toList,hbo,List.flatMap_append]
    have e:([o].flatMap fun o=>rs.map (F o))=rs.map (F o):=a1H _
    exact e.symm▸hys₇
  exact A4p inner (wpAny_pyIter_tupleiter hJ inner)
 ·obtain rfl:i=b.size:=Nat.le_antisymm K.le (Nat.not_lt.mp hlt)
  refine W.done s' _ _ K.hI fun h₂ tk₂ hk₂=>hR _ ys m₂ (K.S.chg hk₂ aI.L aI.z (fun p hp=> .inr ⟨hp,fm (P:=fun p:Addr×Obj=>p.1≠I) (a0X aI.D) aI.o p hp⟩) aI.n) (K.hC.at' fun o e=>hk₂ _ o (nm1 (a0X aI.C)) e) ?_
  have hys:=K.ys
  rw [←a1X,List.take_length] at hys
  exact hys
structure CSt (c:Fc)(m:Str→Option Value)(own:List (Addr×Obj))(s:Shared)(h:Heap)(D C:Addr):Prop where
 old: ∀ b o,s.heap.get? b=some o→h.get? b=some o
 S: ∀ tk,St c m ((D,lst [])::own) {s with heap:=h,toks:=tk}
 aC:Aw c own D D C
 aD:Aw c own C C D
 ne: ∀ b,b<s.heap.objs.size→C≠b
theorem B8p {h₁:Heap}{o:Obj}(S:St c m own s)(hs:Heap.SameBut (s.heap.push {cls:= .type "list",dict:=none,data:= .seq ([]:List Value).toArray}).objs.size ((s.heap.push {cls:= .type "list",dict:=none,data:= .seq ([]:List Value).toArray}).push o) h₁):
  CSt c m own s h₁ s.heap.objs.size (s.heap.push {cls:= .type "list",dict:=none,data:= .seq ([]:List Value).toArray}).objs.size:=by
 have hC:=a1U s.heap {cls:= .type "list",dict:=none,data:= .seq ([]:List Value).toArray}
 have ne: ∀ b,b<s.heap.objs.size→(s.heap.push {cls:= .type "list",dict:=none,data:= .seq ([]:List Value).toArray}).objs.size≠b:=fun b hb=>hC▸a2D (a1Z hb)
 have nD:(s.heap.push {cls:= .type "list",dict:=none,data:= .seq ([]:List Value).toArray}).objs.size≠s.heap.objs.size:=hC▸a2D (a1A _)
 have old: ∀ b o,s.heap.get? b=some o→h₁.get? b=some o:=fun b o e=>hs.extBut b o (a0X (ne b (a0W e))) (Heap.get?_push_of_some _ (Heap.get?_push_of_some _ e))
 have lt: ∀ p∈own++c.news,p.1<s.heap.objs.size:=fun p hp=>a0W (S.N p hp).1
 have up:c.h₀.objs.size≤s.heap.objs.size:=Nat.le_of_lt (Nat.lt_of_le_of_lt S.F.above S.F.ns.lt)
 have D0:=next_is_new S.F
 have DL:=a2D S.F.ns.lt
 exact⟨old,fun tk=>⟨S.F.keeps old,fm ⟨hs.extBut _ _ (a0X nD) (Heap.get?_push_of_some _ (Heap.get?_push_size _ rfl)),DL,D0⟩ fun p hp=>⟨old _ _ (S.N p hp).1,(S.N p hp).2⟩,S.gens,S.os,S.dr⟩,
  ⟨nD,nD,ne _ S.F.ns.lt,Heap.get?_none_of_le (hC▸Nat.le_succ_of_le up),fun p hp=>a0X (ne _ (lt p (a0H _ hp))),fun p hp=>a0X (ne _ (lt p (a0G _ hp)))⟩,
  ⟨a0X nD,a0X nD,DL,D0,fun p hp=>a0S (lt p (a0H _ hp)),fun p hp=>a0S (lt p (a0G _ hp))⟩,ne⟩
theorem A8p {xs:List UInt8}{js:List SV}{F:UInt8→V→SV}(ok:c.Ok G A)(hsc:CompScopeC scope x env cl)(hy:scope.names.lookup y=some .local)(hxy:x≠y)(hset1:A1P it1=true)(hset:A1P it2=true)(hsz:xs.length≤1000)(hrs:js.length≤100)
  (hi:Ev G C₀ c A m own (eval it1 env) (.s (.bytes xs n)))
  (hj: ∀ own' C oC m₂,(C,oC)∈own'→NsObj oC m₂→Ev G C₀ c A m (own'++own) (eval it2 (compEnvC scope cl C env)) (.tup (js.map .s)))
  (he: ∀ own' C oC m₂ v w o r,(C,oC)∈own'→NsObj oC m₂→m₂ x=some v→m₂ y=some w→SRep v (.int o.toNat)→Rep G C₀ (vis c (own'++own)) w r→o∈xs→r∈js.map .s→Ev G C₀ c A m (own'++own) (eval elt (compEnvC scope cl C env)) (.s (F o r))):
  Ev G C₀ c A m own (eval (.ListComp elt [⟨.Name x px,it1,[],0⟩,⟨.Name y py,it2,[],0⟩] scope pos) env) (.list ((xs.reverse.flatMap fun o=>(js.map V.s).map (F o)).map .s)):=by
 intro s Q E S q
 rw [eval_ListComp]
 refine wpAny_comprehension_free (use:=none) rfl (A0y hset1) hsc.clos hsc.kind hsc.names (hi s _ E S fun own₁ v s₁ S₁ R=> ?_)
 have R:=R.sI
 refine R.bytesE fun _ _ _ _=> ?_
 rename_i b t hb hl
 refine KBw.pyIter_bytes ?_
 have up: ∀ b' o,s₁.heap.get? b'=some o→(s₁.heap.push {cls:= .type "bytes_iterator",data:= .fields #[.bytes b t,.int 0 0]}).get? b'=some o:=fun b o e=>Heap.get?_push_of_some _ e
 generalize hs₂:({s₁ with heap:=s₁.heap.push {cls:= .type "bytes_iterator",data:= .fields #[.bytes b t,.int 0 0]}}:Shared)=s₂
 have S₂:St c m (own₁++own) s₂:=by subst hs₂;exact⟨S₁.F.keeps up,S₁.N.grown up,S₁.gens,S₁.os,S₁.dr⟩
 have hI:KBw.IsBytesIter s₂.heap s₁.heap.objs.size b t 0:=by subst hs₂;exact⟨_,Heap.get?_push_size _ rfl,rfl,rfl⟩
 have IL:s₁.heap.objs.size≠c.L:=a0X (a0S S₁.F.ns.lt)
 have I0:c.h₀.get? s₁.heap.objs.size=none:=next_is_new S₁.F
 have offI: ∀ p∈ (own₁++own)++c.news,p.1≠s₁.heap.objs.size:=fun p hp=>a0S (a0W (S₁.N p hp).1)
 have hIlt:s₁.heap.objs.size<s₂.heap.objs.size:=by subst hs₂;exact a0W (Heap.get?_push_size _ rfl)
 clear hs₂ S₁ up
 generalize s₁.heap.objs.size=I at*
 refine a2J (wpAny_newFunctionEnv hsc.nocell (by intro y hy;simp at hy) (fun h₁ hns₁ hsb₁=> ?_) hsc.kind)
 have W:=B8p S₂ hsb₁
 dsimp only at hns₁ hsb₁ W ⊢
 generalize (s₂.heap.push {cls:= .type "list",dict:=none,data:= .seq ([]:List Value).toArray}).objs.size=C at*
 have aI:Aw c (own₁++own) C s₂.heap.objs.size I:=⟨a0X (W.ne I hIlt),a0S hIlt,IL,I0,fun p hp=>offI p (a0H _ hp),fun p hp=>offI p (a0G _ hp)⟩
 have hI₁:KBw.IsBytesIter h₁ I b t 0:=hI.imp fun o e=>⟨W.old _ _ e.1,e.2⟩
 have hbs:b.size≤1000:=by
  rw [←a1X,hb,a0O];exact hsz
 have loop:codeAny G.M A (.compLoop (.ListComp elt [⟨.Name x px,it1,[],0⟩,⟨.Name y py,it2,[],0⟩] scope pos) 0 (.ref I) (.ref s₂.heap.objs.size) (compEnvC scope cl C env)) (compPost G.M A E none Q (.ref s₂.heap.objs.size) C) {s₂ with heap:=h₁,toks:=s₂.toks+ ([]:List (Str×Value)).length}:=by
  refine B9j (C₀:=C₀) (js:=js) (F:=F) rfl ok aI ⟨a0X aI.C,W.aC.C,W.aC.L,W.aC.z,W.aC.o,W.aC.n⟩ ⟨a0X aI.D,W.aD.C,W.aD.L,W.aD.z,W.aD.o,W.aD.n⟩ hsc.kind hsc.var hy hxy hset hbs (by rw [a1D];exact hrs) (fun own' oC m₂ hm hn=> ?_) (fun own' oC m₂ v w o r hm hn h1 h2 h3 h4 h5 h6=> ?_) (fun s' ys m₂ S' hn hys=> ?_) ⟨a2K _,W.S _,hns₁,hI₁,.nil⟩
  ·rw [←a0C]
   exact hj (own'++own₁) C oC m₂ (a0H _ hm) hn
  ·rw [←a0C] at h4 ⊢
   exact he (own'++own₁) C oC m₂ v w o r (a0H _ hm) hn h1 h2 h3 h4 (by rw [hb] at h5;exact List.mem_reverse.mp h5) h6
  ·rw [hb] at hys
   exact⟨m₂,hn,fun h'' hs''=>q ((s₂.heap.objs.size,lst ys)::own₁) _ _ (W.aC.chg (tk:=s'.toks) S' hs'') (.list (vs:=ys) (n:=ys.length) (.inr (.head _)) hys.reps)⟩
 exact codeAny_compStart_list loop (KBw.pyIter_self hI₁ loop)
end
noncomputable def A3V (K:Frag)(f:Addr)(d:Fd):Bool:=B0S K f (codeIn K d.cdv d.qual&&d.cl.isEmpty&&decide ((cellsFrom 0 d.scope.names []).map (·.1)).Nodup&& !d.scope.isCoroutine&& !d.scope.isGenerator&&d.scope.kind== .function)
noncomputable def Fd.withC (d:Fd)(L:Addr):Fd:= {d with cl:=cellsFrom (L+1) d.scope.names []}
theorem B8k {K:Frag}{h:Heap}(X:K.In h)(e:A2V K f=some d)(q:A3V K f d=true): ∃ o,h.get? f=some o∧o.data= .func d.data∧h.CodeRec d.cdv d.qual∧d.cl= []∧((cellsFrom 0 d.scope.names []).map (·.1)).Nodup∧
  d.scope.isCoroutine=false∧d.scope.isGenerator=false∧d.scope.kind= .function:=by
 obtain⟨oc,od,sl,ho,ht⟩:=A3z e q
 exact x6 ht fun ht q7 q8=>x7 ht fun q3 q4 q5 q6=>⟨_,X _ _ ho,rfl,codeRec_of X q3,A0O q4 rfl,a0B q5,xn q6,xn q7,a0D q8⟩
theorem A5u {kindOf:Str→Option NameKind}{binds:List (Str×Value)}: ∀ {m:Str→Option Value},(∀ y∈binds,kindOf y.1=some .local)→bindL kindOf binds m=fun y=>(binds.reverse.lookup y).or (m y):=by
 induction binds with
 | nil=>exact fun Ω=>rfl
 | cons p r ih=>
  intro m h
  show bindL kindOf r (if _ then _ else _)=_
  rw [if_pos (h p (.head _)),ih (fun y hy=>h y (.tail _ hy))]
  funext y
  rw [a2E,A1i]
  cases r.reverse.lookup y with
  | some z=>rfl
  | none=>
   show (if y=p.1 then some p.2 else m y)=(List.lookup y [p]).or (m y)
   rw [a0M]
   by_cases e:y=p.1
   ·rw [if_pos e,beq_iff_eq.mpr e];rfl
   ·rw [if_neg e,beq_false_of_ne e];rfl
theorem A5v {kindOf:Str→Option NameKind}{binds:List (Str×Value)}:(∀ y∈binds,kindOf y.1=some .local)→bindC kindOf binds m=m:=by
 induction binds with
 | nil=>exact fun Ω=>rfl
 | cons p r ih=>
  intro h
  rw [bindC,if_pos (h p (.head _))]
  exact ih fun y hy=>h y (.tail _ hy)
def C5k (G:Gx)(C:Addr)(n:Nat)(Z:Held)(f:Addr)(d:Fd)(binds:List (Str×Value))(post:Held→Value→Prop)(raises:Prop):Prop:=
 ∀ (c:Fc) (A:Around) (s:Shared) (cells:List (Addr×Obj)) (Q:Flow→Shared→Prop) (E:Value→Shared→Prop),
  c.Ok G A→c.env=(d.withC c.L).env f c.L→Room A n→CellsAre (fun Ω=>none) (cellsFrom (c.L+1) d.scope.names []) cells→St c (fun y=>binds.reverse.lookup y) cells s→(∀ p∈c.news,p.1<c.L)→Z.le (vis c [])→
  (∀ own m' fl s',St c m' own s'→post (vis c own) (match fl with| .ret v=>v| _=> .none)→Q fl s')→Ends G C c A [] raises E→
  wpAny G.M A (execs d.body c.env) Q E s
theorem A8B {args:Args}{binds:List (Str×Value)}{post:Held→Value→Prop}{raises:Prop}
  (e:A2V G.K f=some d) (q:A3V G.K f d=true) (hbind: ∀ s,G.K.In s.heap→BindsTo s d.data args binds) (hloc: ∀ y∈binds,d.scope.names.lookup y.1=some .local)
  (hp: ∀ H H' v,Held.le H H'→post H v→post H' v) (hb:C5k G C n Z f d binds post raises):Calls G C (n+1) Z f args post raises:=by
 intro c A m own s R ok room S le k er
 obtain⟨o,ho,hd,hc,h0,h1,h2,h3,h4⟩:=B8k (S.X ok) e q
 obtain⟨A₀,B⟩:=ok.below
 have hbi:=hbind s (S.X ok)
 obtain⟨nm,qual,params,body,scope,dcl,dV,kV,doc,pm,an,cdv,ct⟩:=d
 dsimp only at h0 h1 h2 h3 h4 hc hloc hb
 subst h0
 refine callX_cells (prog:=G.prog) (w:=G.w) B S.F S.N ok.T₀.nolimit ok.frames ok.frame ok.kind ho hd hc room.depth hbi (fun n x hx=> .inl (hloc x hx)) h1 (fun g L' h₁ tk cells FG F' N' Y B' st lt=> ?_) h2 h3 h4
 have hk: ∀ y∈binds,(envOfC qual scope L' f cdv).kindOf y.1=some .local:=hloc
 rw [A5v hk] at Y
 rw [A5u hk] at F'
 have em:(fun y=>(binds.reverse.lookup y).or ((fun Ω=>none:Str→Option Value) y))=fun y=>binds.reverse.lookup y:=by funext y;cases binds.reverse.lookup y<;>rfl
 rw [em] at F'
 let d:Fd:=⟨nm,qual,params,body,scope,[],dV,kV,doc,pm,an,cdv,ct⟩
 let c':Fc:=⟨c.base,c.env::c.outer,g,L',(d.withC L').env f L',own++c.news,vis c own,c.os,c.dr⟩
 have S':St c' (fun y=>binds.reverse.lookup y) cells {s with heap:=h₁,toks:=tk}:=⟨F',N',S.gens,S.os,S.dr⟩
 have ok':c'.Ok G (A.deeper ((d.withC L').env f L')):=⟨⟨_,B'⟩,a2M B'.stack,rfl,h4,ok.free,ok.XB,ok.TB,ok.vis_held.trans (A1f st)⟩
 refine hb c' _ _ cells _ _ ok' rfl (room.deeper (a1A n)) Y S' lt (le.trans fun Ω Ω=> .inl) (fun own' m' fl s' S₂ p=> ?_) ⟨fun hr h m' own' e vs s' hx F N hg hos hdr=> ?_,fun hr m' own' e s' x=> ?_,PassesOwn.leaving⟩
 ·refine leaveK_ S₂.F S₂.N fun F₃ N₃=>k own' _ s' ⟨F₃,by rw [a0C];exact N₃,S₂.gens,S₂.os,S₂.dr⟩ ?_
  refine hp _ _ _ ?_ p
  exact fun a o h=>h.elim (fun z=>A0a a o z) fun z=> .inr (a0H _ z)
 ·exact A1R rfl B' hx F N (fun h' t R U=>er _ _ hr ⟨e,t,vs,g,own'++ [],rfl,FG,U,R,hg,hos,hdr⟩) h4
 ·obtain⟨a,t,vs,G',own'',rfl,FG',U,R,hg,hos,hdr⟩:=x
  refine A3x rfl B' FG' (by rw [←a0C] at R;exact R) U (fun h' R U=>er _ _ hr ⟨a,t,vs,g,own''++ (own'++ []),rfl,FG,U,R,hg,hos,hdr⟩)
section
theorem A2b {ci:Addr}{o:Obj}{v₀:Option Value}{pre post:List (Addr×Obj)}{Q:Unit→Shared→Prop}(ok:c.Ok G A)(he:c.env=d.env f c.L)(hk:d.scope.names.lookup x=some .cell)(hc:d.cl.lookup x=some ci)
  (S:St c m (pre++ (ci,o)::post) s) (hd:o.data= .cell v₀) (h1: ∀ p∈pre,p.1≠ci) (h2: ∀ p∈post,p.1≠ci) (h3: ∀ p∈c.news,p.1≠ci)
  (h: ∀ s' o',St c m (pre++ (ci,o')::post) s'→o'.data= .cell (some v)→Q () s'):wpAny G.M A (storeName c.env x v) Q E s:=by
 have hkind:=ok.kind
 rw [he] at hkind ⊢
 have hmem:=S.N (ci,o) (by simp)
 refine wpAny_storeName_cell hkind hk hc ⟨o,hmem.1,hd⟩ fun h' hv hs=> ?_
 obtain⟨o',ho',hd'⟩:=hv
 refine h _ o' (S.chg (X:=ci) (tk:=s.toks) (A2m hs) hmem.2.1 hmem.2.2 (fun p hp=> ?_) h3) hd'
 rcases a1O.mp hp with hp| hp
 ·exact .inr ⟨a0H _ hp,h1 p hp⟩
 ·rcases a0T.mp hp with rfl| hp
  ·exact .inl ⟨rfl,ho'⟩
  ·exact .inr ⟨a0G _ (.tail _ hp),h2 p hp⟩
end
section
variable {r:Evs}
theorem A7f {elts:List Expr}{k:Nat}(hl:rs.length≤1000)(h:EvL G C₀ c A m own (spliced (backTo pos (starEach elts env))) rs):Ev G C₀ c A m own (eval (.Tuple elts k pos) env) (.tup rs):=by
 intro s Q E S q
 refine wpAny_Tuple (h s _ E S fun own' vs s' S' R=>⟨by rw [R.length,a1I];lia,?_⟩)
 have F1:=S'.F.push {cls:= .type "tuple",data:= .seq vs.toArray}
 have N1:=News.push S'.F S'.N {cls:= .type "tuple",data:= .seq vs.toArray}
 refine q ((s'.heap.objs.size,{cls:= .type "tuple",data:= .seq vs.toArray})::own') _ _ ⟨F1,N1,S'.gens,S'.os,S'.dr⟩ ?_
 exact .tup (n:=0) (.inr (.head _)) (R.mono A1M)
noncomputable def C4F (r:Evs)(b:Nat)(η:A0w):Expr→Option (Option V)
 | .Tuple elts _ _=>some ((A3M r b η elts).bind fun rs=>gd (decide (rs.length≤1000)) (some (.tup rs)))
 | _=>none
noncomputable def B9O:Hk:= {Hk.nil with E:=C4F}
theorem A6S:HkOk G C₀ B9O:= {HkOk.nil with
 E:=fun {r b η e v} X h {c A m own env} ok room hg hn=>by
  cases e with
  | Tuple=>exact x3 (a0E h) fun rs h1 h=>x2 h fun h2 h=>x1 h (A7f (a0B h2) (A0u X ok room hg h1 hn))
  | _=>exact x0 h}
theorem A3c (hk:env.scope.kind= .function){names:List (Str×NameKind)}:names.lookup x=some .free→env.kindOf x=some .cell→
  (names.map fun (n,k)=>if (k==NameKind.free&&env.scope.kind== .function&&env.kindOf n==some .cell) then (n,NameKind.cell) else (n,k)).lookup x=some .cell:=by
 induction names with
 | nil=>exact fun h Ω=>x0 h
 | cons p r ih=>
  intro h hc
  rw [a0M] at h
  show List.lookup x ((if (p.2==NameKind.free&&env.scope.kind== .function&&env.kindOf p.1==some .cell)=true then (p.1,NameKind.cell) else (p.1,p.2))::_)=_
  cases hx:x==p.1 with
  | true=>
   rw [hx] at h
   rw [←a0D hx,if_pos (by rw [show p.2= .free from a0E h,hk,hc];decide),a0M,a2B]
  | false=>
   rw [hx] at h
   have e: ∀ t:Bool,(if t=true then (p.1,NameKind.cell) else (p.1,p.2)).1=p.1:=fun t=>by cases t<;>rfl
   rw [a0M,e,hx]
   exact ih h hc
theorem A3e {ci:Addr}{o:Obj}{r:V}(ok:c.Ok G A)(hk:scope.kind= .function)(he:env.scope.kind= .function)(hx:scope.names.lookup x=some .free)(hc:env.kindOf x=some .cell)
  (hcl:cl.lookup x=some ci) (hm:(ci,o)∈own++c.news) (hd:o.data= .cell (some v)) (R:Rep G C₀ (vis c own) v r) (hdb:(x==("__debug__" :Str))=false):Ev G C₀ c A m own (eval (.Name x pos) (compEnvC scope cl C env)) r:=by
 intro s Q E S q
 exact wpAny_Name (wpAny_loadName_cell (env:=compEnvC scope cl C env) hk (A3c he hx hc) hcl ⟨o,(S.N _ hm).1,hd⟩ (q [] v s S R)) hdb
theorem C0c {ci:Addr}{o:Obj}{r:V}(ok:c.Ok G A)(he:c.env=d.env f c.L)(hk:d.scope.names.lookup x=some .cell)(hc:d.cl.lookup x=some ci)(hm:(ci,o)∈own++c.news)(hd:o.data= .cell (some v))(R:Rep G C₀ (vis c own) v r)(hdb:(x==("__debug__" :Str))=false):
  Ev G C₀ c A m own (eval (.Name x pos) c.env) r:=by
 intro s Q E S q
 have hkind:=ok.kind
 rw [he] at hkind ⊢
 exact wpAny_Name (wpAny_loadName_cell hkind hk hc ⟨o,(S.N _ hm).1,hd⟩ (q [] v s S R)) hdb
noncomputable def B1c (cells:List (Str×Addr)):List (Str×NameKind)→List (Str×Addr)→Option (List (Str×Addr))
 | [],cs=>some cs
 | p::r,cs=>bif p.2== .free then (cells.lookup p.1).bind fun a=>B1c cells r ((p.1,a)::cs) else B1c cells r cs
theorem A3W (h:B1c env.cells scope.names []=some cl):closureFor scope env=pure cl:=by
 have go: ∀ (l:List (Str×NameKind)) (cs cl:List (Str×Addr)),B1c env.cells l cs=some cl→forIn (m:=Sem) l cs (fun (y:Str×NameKind) cs=>if (y.2==NameKind.free)=true then do let z ←cellOf env y.1;pure (ForInStep.yield ((y.1,z)::cs)) else pure (ForInStep.yield cs))=pure cl:=by
  intro l
  induction l with
  | nil=>exact fun cs cl h=>x1 h rfl
  | cons a l ih=>
   intro cs cl h
   rw [List.forIn_cons]
   refine xb h (fun hk h=>x3 h fun z hz h=> ?_) fun hk h=> ?_
   ·rw [if_pos hk]
    unfold cellOf
    rw [hz]
    exact ih _ _ h
   ·rw [if_neg (by rw [hk];exact a2W)]
    exact ih _ _ h
 unfold closureFor
 exact(congrArg (· >>=_) (go scope.names [] cl h)).trans rfl
end
noncomputable def hkB (K:Frag):Hk:=(hkD K).or B9O
noncomputable def r1 (P:Params):Evs:=evs (KF P) fl 818 spO (hkB (KF P)) 40
theorem GOk.r1 (h:GOk G):Snd G 818 (r1 G.w.params):=by
 have:=A0B (C₀:=818) h.gx (B3o (G:=G)) ((hkD_ok (G:=G) (C₀:=818)).or A6S) 40
 rw [h.K] at this
 exact this
noncomputable def hexDigs:List UInt8:= [48,49,50,51,52,53,54,55,56,57,97,98,99,100,101,102]
structure HxP where
 p1:Pos
 q1:Nat
 p2:Pos
 p3:Pos
 p4:Pos
 elt:Expr
 p5:Pos
 p6:Pos
 p7:Pos
 elts:List Expr
 q2:Nat
 p8:Pos
 scope:Scope
 p9:Pos
 p10:Pos
 p11:Pos
noncomputable def HxP.body (a:HxP):List Stmt:= [.Assign [.Name "digits" a.p1] (.Constant (.bytes hexDigs) a.q1 a.p2) a.p3,
 .Return (some (.Call (.Name "bytes" a.p4) [.ListComp a.elt [⟨.Name "octet" a.p5,.Name "data" a.p6,[],0⟩,⟨.Name "k" a.p7,.Tuple a.elts a.q2 a.p8,[],0⟩] a.scope a.p9] [] a.p10)) a.p11]
noncomputable def C6J (b:List Stmt):HxP:=match b with
 | [.Assign [.Name _ p1] (.Constant (.bytes _) q1 p2) p3,.Return (some (.Call (.Name _ p4) [.ListComp elt [⟨.Name _ p5,.Name _ p6,[],0⟩,⟨.Name _ p7,.Tuple elts q2 p8,[],0⟩] scope p9] [] p10)) p11]=>⟨p1,q1,p2,p3,p4,elt,p5,p6,p7,elts,q2,p8,scope,p9,p10,p11⟩
 | _=>⟨default,0,default,default,default,default,default,default,default,[],0,default,default,default,default,default⟩
noncomputable def hx (P:Params):HxP:=C6J (A0c P 26).body
noncomputable def B6V (i:Nat):UInt8:=hexDigs.getD i 0
noncomputable def B8j (l:List UInt8):List UInt8:=l.flatMap fun c=> [B6V (c.toNat / 16),B6V (c.toNat%16)]
noncomputable def hexη (i k:Int):A0w:=fun z=>List.lookup z [("octet",.s (.int i)),("k",.s (.int k)),("digits",.s (.bytes hexDigs.reverse 16))]
@[elab_as_elim] theorem lk1 {a y:Str} {A r:V} {l:List (Str×V)} {motive:Str→V→Prop} (e:List.lookup y ((a,A)::l)=some r) (pa:motive a A) (q:List.lookup y l=some r→motive y r):motive y r:=by
 rw [a0M] at e
 cases h:y==a with
 | true=>rw [h] at e;rw [a0D h];exact x1 e pa
 | false=>rw [h] at e;exact q e
noncomputable def B0I (o:Option V)(i:Int):Bool:=(o.bind A0V).bind A0U==some i
theorem A5c {o:Option V}{i:Int}(h:B0I o i=true):o=some (.s (.int i)):=A0i (A2B (a0D h))
theorem B6T (P:Params):A2V (KF P) 26=some (A0c P 26)∧A3V (KF P) 26 (A0c P 26)=true∧A0r (A0c P 26).params=some [("data" :Str)]∧(A0c P 26).scope.names= [(("data" :Str),NameKind.local),("digits",.cell),("bytes",.globalImplicit)]∧A1s (KF P) (A0c P 26).dV=true∧
 (A0c P 26).body=(hx P).body:=by and_intros<;>kernel_rfl
theorem B6U (P:Params):(hx P).scope.kind= .function∧(hx P).scope.names= [((".0" :Str),NameKind.local),("octet",.local),("k",.local),("digits",.free)]:=
 by and_intros<;>kernel_rfl
theorem B9N (P:Params):A3M (r1 P) 0 (fun Ω=>none) (hx P).elts=some [.s (.int 1),.s (.int 0)]:=by kernel_rfl
theorem C2u (P:Params):((List.range 256).all fun n=>B0I ((r1 P).E 0 (hexη (Int.ofNat n) 1) (hx P).elt) (B6V (n / 16)).toNat&&B0I ((r1 P).E 0 (hexη (Int.ofNat n) 0) (hx P).elt) (B6V (n%16)).toNat)=true:=by kernel_rfl
theorem B9M (P:Params):nsIn (KF P) mainGlobals "bytes" =some none:=by kernel_rfl
theorem A9W (l:List UInt8):A2M (l.map fun c=>V.s (.int c.toNat))=some l.reverse:=by
 induction l with
 | nil=>rfl
 | cons c l ih=>
  rw [a0V]
  show gd (decide ((0:Int)≤c.toNat)&&decide ((c.toNat:Int)<256)) ((A2M (l.map fun c=>V.s (.int c.toNat))).map (· ++ [c.toNat.toUInt8]))=_
  rw [a0Q (a1W _),a0Q (show (c.toNat:Int)<256 from Int.ofNat_lt.mpr c.toNat_lt),ih,a2E]
  exact congrArg (fun x=>some (l.reverse++ [x])) UInt8.ofNat_toNat
noncomputable def C4E (o:UInt8)(v:V):SV:= .int (B6V (bif ((A0V v).bind A0U)==some 1 then o.toNat / 16 else o.toNat%16)).toNat
theorem B4p (xs:List UInt8):((xs.flatMap fun o=>([SV.int 1,SV.int 0].map V.s).map (C4E o)).map V.s)=(B8j xs).map fun c=>V.s (.int c.toNat):=by
 induction xs with
 | nil=>rfl
 | cons o xs ih=>
  unfold B8j at ih ⊢
  rw [List.flatMap_cons,List.flatMap_cons,a2P,a2P,ih]
  rfl
theorem A5e (xs:List UInt8):(B8j xs).length=2*xs.length:=by
 induction xs with
 | nil=>rfl
 | cons o xs ih=>
  unfold B8j at ih ⊢
  rw [List.flatMap_cons,a1K,ih,a1T (as:=xs),Nat.mul_succ,Nat.add_comm];rfl
theorem A6T (g:GOk G){xs:List UInt8}(hn:xs.length≤400)(R:Reps G 818 Z vs [.s (.bytes xs n)]):
  Calls G 818 5 Z 26 ⟨vs,[]⟩ (fun H w=>Rep G 818 H w (.s (.bytes (B8j xs.reverse).reverse (2*xs.length)))) False:=by
 have X:=g.r1
 obtain⟨s1,s2,s3,s4,s5,s6⟩:=B6T G.w.params
 obtain⟨f7,f8⟩:=B6U G.w.params
 have fe:=B9N G.w.params
 have ft:=C2u G.w.params
 have fg:=B9M G.w.params
 rw [←g.K] at s1 s2 s5 fg
 generalize hx G.w.params=pa at*
 generalize A0c G.w.params 26=d at*
 have hl:vs.length=1:=R.length
 have hloc: ∀ y∈ (["data"]:List Str).zip vs,d.scope.names.lookup y.1=some .local:=fun y hy=>by
  obtain⟨y1,y2⟩:=y
  rw [a0L.mp (a2T hy).1,s4];rfl
 refine A8B (n:=4) (binds:=(["data"]:List Str).zip vs) s1 s2 (fun s X=>A0Z X s3 hl s5) hloc (fun H H' v k p=>p.mono k) ?_
 intro c A s cells Q E ok he room Y S lt le q en
 rw [s6]
 have ecl:cellsFrom (c.L+1) d.scope.names []= [(("digits" :Str),c.L+1)]:=by rw [s4];rfl
 rw [ecl] at Y
 obtain⟨oc,rfl,hoc⟩:=Y.one
 have hcl:(d.withC c.L).cl= [(("digits" :Str),c.L+1)]:=ecl
 have hdg:(d.withC c.L).scope.names.lookup ("digits" :Str)=some .cell:=by show d.scope.names.lookup _=_;rw [s4];rfl
 have hdt:(d.withC c.L).scope.names.lookup ("data" :Str)=some .local:=by show d.scope.names.lookup _=_;rw [s4];rfl
 have hby:(d.withC c.L).scope.names.lookup ("bytes" :Str)=some .globalImplicit:=by show d.scope.names.lookup _=_;rw [s4];rfl
 have cn: ∀ p∈c.news,p.1≠c.L+1:=fun p hp e=>by
  have:=lt p hp
  rw [e] at this
  exact absurd this (Nat.not_lt.mpr (Nat.le_succ _))
 refine a0N (wpAny_Assign_Name (Constant_bytes ?_) (A0l rfl))
 refine A2b (d:=d.withC c.L) (f:=26) (pre:= []) (post:= []) ok he hdg (by rw [hcl];rfl) (S.tok _) hoc (fun p hp=>(nomatch hp)) (fun p hp=>(nomatch hp)) cn fun s' o' S' ho'=> ?_
 have R₁:Rep G 818 (vis c ([]++ [(c.L+1,o')])) _ (.s (.bytes hexDigs.reverse 16)):= .s (.bytes (b:=hexDigs.toArray) (t:=s.toks) (by simp) (by decide))
 have hS':St c (fun y=>((["data"]:List Str).zip vs).reverse.lookup y) [(c.L+1,o')] s':=S'
 have hm: ∀ y,((["data"]:List Str).zip vs).reverse.lookup y=((["data"]:List Str).zip vs).lookup y:=fun y=>A0X (by rw [A1y hl];exact(by simp))
 have hlo:Locs G 818 (vis c [(c.L+1,o')]) (fun y=>((["data"]:List Str).zip vs).reverse.lookup y) [("data",.s (.bytes xs n))]:=fun x r e=>by
  obtain⟨v,h1,h2⟩:=A1L (ns:= ["data"]) R (x:=x) (r:=r) e
  exact⟨v,(hm x).trans h1,h2.mono (le.trans fun Ω Ω h=>h.imp id fun z=>(nomatch z))⟩
 have hk1:pa.scope.names.lookup ("octet" :Str)=some .local:=by rw [f8];rfl
 have hk2:pa.scope.names.lookup ("k" :Str)=some .local:=by rw [f8];rfl
 have hk3:pa.scope.names.lookup ("digits" :Str)=some .free:=by rw [f8];rfl
 have hcell:c.env.cells= [(("digits" :Str),c.L+1)]:=by rw [he];exact hcl
 have hsc:CompScopeC pa.scope "octet" c.env [(("digits" :Str),c.L+1)]:=⟨A3W (by rw [hcell,f8];rfl),by rw [f8];decide,f7,by rw [f8];decide,hk1⟩
 generalize hM:(fun y=>((["data"]:List Str).zip vs).reverse.lookup y)=M at hlo hS'
 have hEnv:EnvG c.env:=by rw [he];exact⟨rfl,rfl⟩
 have r1v:Rep G 818 (vis c [(c.L+1,o')]) (.bytes hexDigs.toArray s.toks) (.s (.bytes hexDigs.reverse 16)):= .s (.bytes (by simp) (by decide))
 have hkc:c.env.scope.kind= .function:=ok.kind
 have hkd:c.env.kindOf ("digits" :Str)=some .cell:=by rw [he];exact hdg
 have hT: ∀ own',EvL G 818 c A M (own'++ [(c.L+1,o')]) (spliced (backTo pa.p10 (starEach [.ListComp pa.elt [⟨.Name "octet" pa.p5,.Name "data" pa.p6,[],0⟩,⟨.Name "k" pa.p7,.Tuple pa.elts pa.q2 pa.p8,[],0⟩] pa.scope pa.p9] c.env))) [.list (((xs.reverse.flatMap fun o=>([SV.int 1,SV.int 0].map V.s).map (C4E o)).map V.s))]:=by
  intro own₀
  refine A0s rfl ?_ fun Ω=>A0N
  refine A8p (js:= [.int 1,.int 0]) (F:=C4E) ok hsc hk2 (by decide) rfl rfl (a0F hn (by decide)) (by decide) (A0R (d:=d.withC c.L) (f:=26) ok he (hlo.mono A0a) rfl hdt (by decide)) (fun own' C oC m₂ hm hN=> ?_) fun own' C oC m₂ v w o r hm hN hx hy hv hw ho hr=> ?_
  ·exact A7f (by decide) (A0u (env:=compEnvC pa.scope [(("digits" :Str),c.L+1)] C c.env) (η:=fun Ω=>none) X ok (room.less (a2K 4)) ⟨hEnv.g,hEnv.b⟩ fe fun x p v own' e=>nomatch e)
  ·have hnames: ∀ k:Int,r= .s (.int k)→NamesOk G 818 c A M (own'++ (own₀++ [(c.L+1,o')])) (compEnvC pa.scope [(("digits" :Str),c.L+1)] C c.env) (hexη o.toNat k):=by
    intro k hk z pz vz own'' ez
    subst hk
    have hC: ∀ s,St c M (own''++ (own'++ (own₀++ [(c.L+1,o')]))) s→s.heap.get? C=some oC:=fun s S=>S.cmp hm
    refine lk1 ez (A0S ok f7 hk1 hC hN hx (.s hv) (by decide)) fun ez=>lk1 ez (A0S ok f7 hk2 hC hN hy (hw.mono A0a) (by decide)) fun ez=>lk1 ez ?_ fun ez=>x0 ez
    refine A3e ok f7 hkc hk3 hkd rfl (o:=o') (by simp) ho' ?_ (by decide)
    exact r1v.mono (fun a o h=>h.imp id fun z=>by simp [z])
   have hall:=a0J.mp ft o.toNat (List.mem_range.mpr o.toNat_lt)
   simp only [a1B] at hall
   have hE0:EnvG (compEnvC pa.scope [(("digits" :Str),c.L+1)] C c.env):=⟨hEnv.g,hEnv.b⟩
   rcases a0T.mp hr with rfl| hr
   ·exact X.E (A5c hall.1) ok (room.less (a2K 4)) hE0 (hnames 1 rfl)
   ·rw [a0L.mp hr] at hnames ⊢
    exact X.E (A5c hall.2) ok (room.less (a2K 4)) hE0 (hnames 0 rfl)
 have hE:=A0z (pos:=pa.p10) (np:=pa.p4) (raises:=False) (P:=fun Z w=>SRep w (.bytes (B8j xs.reverse).reverse (2*xs.length))) (C₀:=818) ok rfl (by rfl) (A1x (d:=d.withC c.L) (f:=26) (v:= .type "bytes") ok he fg (by decide+kernel) (by decide+kernel) hby (by decide)) hT fun own' vs' R'=> ?_
 ·have ex:=A2i (pos:=pa.p11) (hE.ev fun Ω Ω h=> .s h)
  refine(Ex.one ex) s' Q E hS' ((en.more (own':= [(c.L+1,o')])).less fun z=>Bool.noConfusion z) fun own' m' fl s'' S'' R''=> ?_
  obtain⟨v,rfl,hv⟩:=R''
  exact q (own'++ [(c.L+1,o')]) m' _ s'' S'' hv
 ·rw [B4p] at R'
  refine R'.consE fun Ω Ω Rv R'=> ?_
  refine R'.nilE ?_
  have:=A5o ok (m:=M) (C₀:=818) (x:=(B8j xs.reverse).reverse) (by rw [a1D,A5e,a0O];exact a0F (Nat.mul_le_mul_left 2 hn) (by decide)) (A9W _) Rv
  rw [a1D,A5e,a0O] at this
  exact this
section
variable {w:World}
abbrev AscIt (h:Heap)(it:Addr)(x:Str)(t:Tok)(i:Nat):Prop:=h.IsStrIter it "str_ascii_iterator" x t i
theorem A5Z {it:Addr}{t:Tok}{i c:Nat}(hit:AscIt s.heap it x t i)(hx:x.cps[i]?=some c)
  (hQ: ∀ h',AscIt h' it x t (i+1)→Heap.SameBut it s.heap h'→Q (.str ⟨#[c]⟩ s.toks) {s with heap:=h',toks:=s.toks+1}):wpAny (model prog w) A (Builtin.SmallTypes.nextOf (.ref it)) Q E s:=by
 obtain⟨o,ho,hc,hd⟩:=id hit
 unfold Builtin.SmallTypes.nextOf
 refine a0A (wpAny_callSpecial?_slot (name:=Str.ofString "__next__") hit.typeIs F.slot_str_ascii_iterator_next
  (a2Y F.slot_str_ascii_iterator_next hit.typeIs F.entry_str_ascii_iterator_next ?_ (F.args_str_ascii_iterator_next_1 _)))
 show wpAny _ _ (field (.ref it) 0>>=_) _ _ s
 refine a0A (a1S ho hd (x:= .str x t) rfl ?_)
 show wpAny _ _ (field (.ref it) 1>>=_) _ _ s
 refine a0A (a1S ho hd (x:= .int i 0) rfl ?_)
 dsimp only
 rw [show x.cps[(i:Int).toNat]?=some c from hx]
 show wpAny _ _ (setField (.ref it) 1 _>>=_) _ _ _
 refine a0A (wpAny_setField ho hd (by simp) (a0A (wpAny_mkStr (a0I ⟨_,rfl,a0I (hQ _ ?_ (Heap.SameBut.update ..))⟩) (by show 1≤sizeLine;decide))))
 exact⟨_,Heap.get?_update_self _ ho (Obj.isFreed_of_fields (Obj.data_mapFields hd _)),(Obj.cls_mapFields ..).trans hc,by
  rw [Obj.data_mapFields hd];simp [rawInt]⟩
theorem A5A {it:Addr}{t:Tok}{i:Nat}(hh:A.handled=none)(hit:AscIt s.heap it x t i)(hx:x.cps[i]?=none)
  (hE: ∀ h' e,Heap.ExtBut it s.heap h'→(∃ o,h'.get? e=some o∧o.cls= .type "StopIteration")→E (.ref e) {s with heap:=h'}):wpAny (model prog w) A (Builtin.SmallTypes.nextOf (.ref it)) Q E s:=by
 obtain⟨o,ho,hc,hd⟩:=id hit
 unfold Builtin.SmallTypes.nextOf
 refine a0A (wpAny_callSpecial?_slot (name:=Str.ofString "__next__") hit.typeIs F.slot_str_ascii_iterator_next
  (a2Y F.slot_str_ascii_iterator_next hit.typeIs F.entry_str_ascii_iterator_next ?_ (F.args_str_ascii_iterator_next_1 _)))
 show wpAny _ _ (field (.ref it) 0>>=_) _ _ s
 refine a0A (a1S ho hd (x:= .str x t) rfl ?_)
 show wpAny _ _ (field (.ref it) 1>>=_) _ _ s
 refine a0A (a1S ho hd (x:= .int i 0) rfl ?_)
 dsimp only
 rw [show x.cps[(i:Int).toNat]?=none from hx]
 show wpAny _ _ (rule _>>=_) _ _ _
 refine a0A (wpAny_rule ?_)
 show wpAny _ _ (setField (.ref it) 0 _>>=_) _ _ _
 refine(a0A (wpAny_setField ho hd (by simp) (a0A (wpAny_letGo ?_))))
 show wpAny _ _ ((newObj (.type "tuple") (.seq #[])>>=_)>>=_) _ _ _
 refine a0A (a0A (a2J ?_ (by size_fits)))
 show wpAny _ _ (firstArgMember _ _>>=_) _ _ _
 refine a0A (m:=firstArgMember _ _) (a0U (a:=Value.none) rfl ?_)
 refine a2J ?_ (by size_fits)
 show wpAny _ _ (handled>>=_) _ _ _
 refine a0A (wpAny_handled_none hh ?_)
 refine a0A (a0I (wpAny_throw ?_))
 exact hE _ _ (((Heap.SameBut.update ..).extBut.push _).push _) ⟨_,Heap.get?_push_size _ rfl,rfl⟩
structure ZA (z TI TO i1 i2:Addr):Prop where
 TIz:TI≠z
 TOz:TO≠z
 i1z:i1≠z
 i2z:i2≠z
 TITO:TI≠TO
 TIi1:TI≠i1
 TIi2:TI≠i2
 TOi1:TO≠i1
 TOi2:TO≠i2
 i12:i1≠i2
def chV (c:Nat)(v:Value):Prop:= ∃ t,v= .str ⟨#[c]⟩ t
theorem AscIt.ext {h h':Heap}{it d:Addr}{t:Tok}{i:Nat}(a:AscIt h it x t i)(hk: ∀ b o,b≠d→h.get? b=some o→h'.get? b=some o)(ne:it≠d):AscIt h' it x t i:=let ⟨o,e,r⟩:=a; ⟨o,hk _ _ ne e,r⟩
theorem B2M {z TI TO i1 i2:Addr}{k1 k2 c1 c2:Nat}{y:Str}{tx ty:Tok}{a b:Value}(D:ZA z TI TO i1 i2)
  (hz:IsZip s.heap z TI TO .none) (hTI:IsPair s.heap TI (.ref i1) (.ref i2)) (hTO:IsPair s.heap TO a b) (h1:AscIt s.heap i1 x tx k1) (h2:AscIt s.heap i2 y ty k2) (hx:x.cps[k1]?=some c1) (hy:y.cps[k2]?=some c2)
  (hQ: ∀ h' tk v1 v2,chV c1 v1→chV c2 v2→IsZip h' z TI TO (rawInt s.heap.objs.size)→IsPair h' TO v1 v2→AscIt h' i1 x tx (k1+1)→AscIt h' i2 y ty (k2+1)→IsPair h' s.heap.objs.size v1 v2→h'.objs.size=s.heap.objs.size+1→
   (∀ c o,c≠z→c≠TO→c≠i1→c≠i2→s.heap.get? c=some o→h'.get? c=some o)→Q (.ref s.heap.objs.size) {s with heap:=h',toks:=tk}):
  wpAny (model prog w) A (Builtin.«zip.__next__» ⟨[.ref z],[]⟩) (fun fin s'=> ∃ v,fin= .done (.ret v)∧Q v s') E s:=by
 show wpAny _ _ (field (.ref z) 2>>=_) _ _ _
 refine a0A (a1S hz rfl (x:= .bool false) rfl ?_)
 show wpAny _ _ (field (.ref z) 3>>=_) _ _ _
 refine a0A (a1S hz rfl (x:= .ref TI) rfl ?_)
 refine a0A (wpAny_seqItems hTI rfl ?_)
 show wpAny _ _ (Builtin.SmallTypes.ownedTupleIsFree (.ref z)>>=_) _ _ _
 refine a0A ?_
 unfold Builtin.SmallTypes.ownedTupleIsFree
 refine a0A (a1S hz rfl (x:= .none) rfl (a0I ?_))
 refine a0A (wpAny_rule ?_)
 refine a0A (a1S hz rfl (x:= .ref TO) rfl ?_)
 refine a0A (a2Q hz (by simp) fun h₁ hz₁ hs₁=> ?_)
 replace hz₁:IsZip h₁ z TI TO .ellipsis:=hz₁
 refine a0A ?_
 rw [List.zipIdx_cons,List.forIn_cons]
 refine a0A (a0A (wpAny_onRaise ?_))
 show wpAny _ _ (Builtin.SmallTypes.nextOf (.ref i1)>>=_) _ _ _
 refine a0A (A5Z (h1.ext hs₁.extBut D.i1z) hx fun h₂ h1₂ hs₂=>a0I ?_)
 have hTO₂:IsPair h₂ TO a b:=hs₂.extBut _ _ D.TOi1 (hs₁.extBut _ _ D.TOz hTO)
 refine a0A (wpAny_seqItems hTO₂ rfl ?_)
 refine a0A (wpAny_updateSeq_pair hTO₂ fun h₃ hTO₃ hs₃=> ?_)
 replace hTO₃:IsPair h₃ TO (.str ⟨#[c1]⟩ s.toks) b:=hTO₃
 refine a0A (wpAny_letGo (a0I ?_))
 show wpAny _ _ (forIn (List.zipIdx _ _) _ _) _ _ _
 rw [List.zipIdx_cons,List.forIn_cons]
 refine a0A (a0A (wpAny_onRaise ?_))
 show wpAny _ _ (Builtin.SmallTypes.nextOf (.ref i2)>>=_) _ _ _
 refine a0A (A5Z (((h2.ext hs₁.extBut D.i2z).ext hs₂.extBut D.i12.symm).ext hs₃.extBut D.TOi2.symm) hy fun h₄ h2₄ hs₄=>a0I ?_)
 have hTO₄:IsPair h₄ TO (.str ⟨#[c1]⟩ s.toks) b:=hs₄.extBut _ _ D.TOi2 hTO₃
 refine a0A (wpAny_seqItems hTO₄ rfl ?_)
 refine a0A (wpAny_updateSeq_pair hTO₄ fun h₅ hTO₅ hs₅=> ?_)
 replace hTO₅:IsPair h₅ TO (.str ⟨#[c1]⟩ s.toks) (.str ⟨#[c2]⟩ (s.toks+1)):=hTO₅
 refine a0A (wpAny_letGo (a0I ?_))
 show wpAny _ _ (forIn (List.zipIdx _ _) _ _) _ _ _
 rw [List.zipIdx_nil,List.forIn_nil]
 refine a0I ?_
 refine a0A (wpAny_seqItems hTO₅ rfl ?_)
 refine a0A (wpAny_newTuple ?_)
 have hsz:h₅.objs.size=s.heap.objs.size:=by rw [hs₅.1,hs₄.1,hs₃.1,hs₂.1,hs₁.1]
 have hz₅:IsZip h₅ z TI TO .ellipsis:=hs₅.extBut _ _ D.TOz.symm (hs₄.extBut _ _ D.i2z.symm (hs₃.extBut _ _ D.TOz.symm (hs₂.extBut _ _ D.i1z.symm hz₁)))
 have hk₅: ∀ c o,c≠z→c≠TO→c≠i1→c≠i2→s.heap.get? c=some o→h₅.get? c=some o:=fun c o c1 c2 c3 c4 e=>
  hs₅.extBut _ _ c2 (hs₄.extBut _ _ c4 (hs₃.extBut _ _ c2 (hs₂.extBut _ _ c3 (hs₁.extBut _ _ c1 e))))
 have h1₅:AscIt h₅ i1 x tx (k1+1):=((h1₂.ext hs₃.extBut D.TOi1.symm).ext hs₄.extBut D.i12).ext hs₅.extBut D.TOi1.symm
 have h2₅:AscIt h₅ i2 y ty (k2+1):=h2₄.ext hs₅.extBut D.TOi2.symm
 have hzlt:z<h₅.objs.size:=a0W hz₅
 show wpAny _ _ (Builtin.SmallTypes.ownedTupleHandOut (.ref z) (.ref h₅.objs.size)>>=_) _ _ _
 refine a0A ?_
 unfold Builtin.SmallTypes.ownedTupleHandOut
 have hz₆:IsZip (h₅.push {cls:= .type "tuple",data:= .seq #[.str ⟨#[c1]⟩ s.toks,.str ⟨#[c2]⟩ (s.toks+1)]}) z TI TO .ellipsis:=Heap.get?_push_of_some _ hz₅
 refine a0A (a2Q hz₆ (by simp) fun h₇ hz₇ hs₇=> ?_)
 replace hz₇:IsZip h₇ z TI TO (rawInt h₅.objs.size):=hz₇
 refine a2Q hz₇ (by simp) fun h₈ hz₈ hs₈=> ?_
 replace hz₈:IsZip h₈ z TI TO (rawInt h₅.objs.size):=hz₈
 have up: ∀ c o,c≠z→h₅.get? c=some o→h₈.get? c=some o:=fun c o c1 e=>hs₈.extBut _ _ c1 (hs₇.extBut _ _ c1 (Heap.get?_push_of_some _ e))
 have hT₈:IsPair h₈ h₅.objs.size (.str ⟨#[c1]⟩ s.toks) (.str ⟨#[c2]⟩ (s.toks+1)):=hs₈.extBut _ _ (a2D hzlt) (hs₇.extBut _ _ (a2D hzlt) (Heap.get?_push_size _ rfl))
 have hz8:h₈.objs.size=h₅.objs.size+1:=by rw [hs₈.1,hs₇.1,a1U]
 rw [hsz] at hz₈ hT₈ hz8
 refine a0I ⟨_,rfl,?_⟩
 show Q (.ref h₅.objs.size) _
 rw [hsz]
 exact hQ h₈ _ _ _ ⟨_,rfl⟩ ⟨_,rfl⟩ hz₈ (up _ _ D.TOz hTO₅) (h1₅.ext (d:=z) (fun b o ne e=>up b o ne e) D.i1z) (h2₅.ext (d:=z) (fun b o ne e=>up b o ne e) D.i2z) hT₈ hz8 fun c o c1 c2 c3 c4 e=>up c o c1 (hk₅ c o c1 c2 c3 c4 e)
theorem B5t {z TI TO i1 i2:Addr}{k1 k2:Nat}{y:Str}{tx ty:Tok}{a b:Value}{Q:Fin→Shared→Prop}(hh:A.handled=none)(D:ZA z TI TO i1 i2)
  (hz:IsZip s.heap z TI TO .none) (hTI:IsPair s.heap TI (.ref i1) (.ref i2)) (hTO:IsPair s.heap TO a b) (h1:AscIt s.heap i1 x tx k1) (h2:AscIt s.heap i2 y ty k2) (hx:x.cps[k1]?=none)
  (hE: ∀ h' e,(∀ c o,c≠z→c≠TO→c≠i1→c≠i2→s.heap.get? c=some o→h'.get? c=some o)→(∃ o,h'.get? e=some o∧o.cls= .type "StopIteration")→E (.ref e) {s with heap:=h'}):
  wpAny (model prog w) A (Builtin.«zip.__next__» ⟨[.ref z],[]⟩) Q E s:=by
 show wpAny _ _ (field (.ref z) 2>>=_) _ _ _
 refine a0A (a1S hz rfl (x:= .bool false) rfl ?_)
 show wpAny _ _ (field (.ref z) 3>>=_) _ _ _
 refine a0A (a1S hz rfl (x:= .ref TI) rfl ?_)
 refine a0A (wpAny_seqItems hTI rfl ?_)
 show wpAny _ _ (Builtin.SmallTypes.ownedTupleIsFree (.ref z)>>=_) _ _ _
 refine a0A ?_
 unfold Builtin.SmallTypes.ownedTupleIsFree
 refine a0A (a1S hz rfl (x:= .none) rfl (a0I ?_))
 refine a0A (wpAny_rule ?_)
 refine a0A (a1S hz rfl (x:= .ref TO) rfl ?_)
 refine a0A (a2Q hz (by simp) fun h₁ hz₁ hs₁=> ?_)
 replace hz₁:IsZip h₁ z TI TO .ellipsis:=hz₁
 refine a0A ?_
 rw [List.zipIdx_cons,List.forIn_cons]
 refine a0A (a0A (wpAny_onRaise ?_))
 show wpAny _ _ (Builtin.SmallTypes.nextOf (.ref i1)>>=_) _ _ _
 refine a0A (A5A hh (h1.ext hs₁.extBut D.i1z) hx fun h₂ e hs₂ he=> ?_)
 obtain⟨oe,hoe,hce⟩:=he
 have hz₂:IsZip h₂ z TI TO .ellipsis:=hs₂ _ _ D.i1z.symm hz₁
 have hez:e≠z:=fun x=>by subst x;rw [hz₂] at hoe;obtain rfl:=a0E hoe;simp at hce
 refine a2Q hz₂ (by simp) fun h₃ Ω hs₃=>hE h₃ e (fun c o c1 Ω c3 Ω x=>hs₃.extBut _ _ c1 (hs₂ _ _ c3 (hs₁.extBut _ _ c1 x))) ⟨oe,hs₃.extBut _ _ hez hoe,hce⟩
theorem A4m {z TI TO i1 i2:Addr}{k1 k2 c1 c2:Nat}{y:Str}{tx ty:Tok}{a b:Value}{Q:Option Value→Shared→Prop}(D:ZA z TI TO i1 i2)
  (hz:IsZip s.heap z TI TO .none) (hTI:IsPair s.heap TI (.ref i1) (.ref i2)) (hTO:IsPair s.heap TO a b) (h1:AscIt s.heap i1 x tx k1) (h2:AscIt s.heap i2 y ty k2) (hx:x.cps[k1]?=some c1) (hy:y.cps[k2]?=some c2)
  (hQ: ∀ h' tk v1 v2,chV c1 v1→chV c2 v2→IsZip h' z TI TO (rawInt s.heap.objs.size)→IsPair h' TO v1 v2→AscIt h' i1 x tx (k1+1)→AscIt h' i2 y ty (k2+1)→IsPair h' s.heap.objs.size v1 v2→h'.objs.size=s.heap.objs.size+1→
   (∀ c o,c≠z→c≠TO→c≠i1→c≠i2→s.heap.get? c=some o→h'.get? c=some o)→Q (some (.ref s.heap.objs.size)) {s with heap:=h',toks:=tk}):
  wpAny (model prog w) A (pyNext (.ref z)) Q E s:=by
 have hT:s.TypeIs (.ref z) "zip" :=⟨_,hz,rfl⟩
 unfold pyNext
 exact a0A (wpAny_attempt (wpAny_callSpecial?_slot (name:=Str.ofString "__next__") hT F.slot_zip_next
  (a2Y F.slot_zip_next hT F.entry_zip_next
   (B2M D hz hTI hTO h1 h2 hx hy fun h' tk v1 v2 p1 p2 a1 a2 a3 a4 a5 a6 a7=>a0I (hQ h' tk v1 v2 p1 p2 a1 a2 a3 a4 a5 a6 a7)) (F.args_zip_next_1 _))))
theorem A4O {z TI TO i1 i2:Addr}{k1 k2:Nat}{y:Str}{tx ty:Tok}{a b:Value}{Q:Option Value→Shared→Prop}(hh:A.handled=none)(D:ZA z TI TO i1 i2)
  (hz:IsZip s.heap z TI TO .none) (hTI:IsPair s.heap TI (.ref i1) (.ref i2)) (hTO:IsPair s.heap TO a b) (h1:AscIt s.heap i1 x tx k1) (h2:AscIt s.heap i2 y ty k2) (hx:x.cps[k1]?=none)
  (hQ: ∀ h',(∀ c o,c≠z→c≠TO→c≠i1→c≠i2→s.heap.get? c=some o→h'.get? c=some o)→Q none {s with heap:=h'}):wpAny (model prog w) A (pyNext (.ref z)) Q E s:=by
 have hT:s.TypeIs (.ref z) "zip" :=⟨_,hz,rfl⟩
 unfold pyNext
 refine a0A (wpAny_attempt (wpAny_callSpecial?_slot (name:=Str.ofString "__next__") hT F.slot_zip_next
  (a2Y F.slot_zip_next hT F.entry_zip_next (B5t hh D hz hTI hTO h1 h2 hx fun h' e hk he=> ?_) (F.args_zip_next_1 _))))
 obtain⟨o,ho,hc⟩:=he
 refine a0A (wpAny_isInstance (T:= "StopIteration") (b:=true) ⟨o,ho,hc⟩ isSubtype_stop ?_)
 exact a0I (hQ _ hk)
noncomputable abbrev C3r (h:Heap)(x:Str)(tx:Tok):Heap:=h.push {cls:= .type "str_ascii_iterator",data:= .fields #[.str x tx,.int 0 0]}
noncomputable abbrev C3q (h:Heap)(x y:Str)(tx ty:Tok):Heap:=(C3r h x tx).push {cls:= .type "str_ascii_iterator",data:= .fields #[.str y ty,.int 0 0]}
noncomputable abbrev C3p (h:Heap)(x y:Str)(tx ty:Tok):Heap:=(C3q h x y tx ty).push {cls:= .type "tuple",data:= .seq #[.ref h.objs.size,.ref (C3r h x tx).objs.size]}
noncomputable abbrev C3o (h:Heap)(x y:Str)(tx ty:Tok):Heap:=(C3p h x y tx ty).push {cls:= .type "tuple",data:= .seq #[.none,.none]}
noncomputable abbrev B8x (h:Heap)(x y:Str)(tx ty:Tok):Heap:=(C3o h x y tx ty).push {cls:= .type "zip",data:= .fields #[.none,.bool false,.bool false,.ref (C3q h x y tx ty).objs.size,.ref (C3p h x y tx ty).objs.size]}
set_option maxHeartbeats 4000000 in
theorem B1S (x y:Str)(tx ty:Tok)(hx:x.cps.all (· <128)=true)(hy:y.cps.all (· <128)=true):
  Meets (Builtin.«zip.__new__» ⟨[.type "zip",.str x tx,.str y ty],[]⟩) (fun Ω R s=>R (.ok (.ret (.ref (C3o s.heap x y tx ty).objs.size))) {s with heap:=B8x s.heap x y tx ty}):=
 .of_wp fun prog w A R s h=>by
  obtain⟨hp,g,d,tk,os⟩:=s
  have hsub:=sub_zip
  refine a0A (a0A (a0I (a1P rfl (a0A (a0U hsub (a1P rfl (a0I (a1P rfl (a0A (a0A ?_))))))))))
  refine a0A (a0A (a0R (wpAny_pyIter_ascii hx (a0I ?_))))
  refine a0A (a0A (a0R (wpAny_pyIter_ascii hy (a0I ?_))))
  refine a0I (a0I (a0A (wpAny_newTuple (a0A (wpAny_newTuple (a0A ?_) (a0Z rfl))) (a0Z rfl))))
  unfold Builtin.SmallTypes.newRecord
  refine a2J ?_ (a0Z (n:=5) (m:=sizeLine+2) rfl)
  exact a0I ⟨_,rfl,h⟩
theorem B5d {y:Str}{tx ty:Tok}(hx:x.cps.all (· <128)=true)(hy:y.cps.all (· <128)=true)
  (h: ∀ h',IsZip h' (s.heap.objs.size+4) (s.heap.objs.size+2) (s.heap.objs.size+3) .none→IsPair h' (s.heap.objs.size+2) (.ref s.heap.objs.size) (.ref (s.heap.objs.size+1))→
   IsPair h' (s.heap.objs.size+3) .none .none→AscIt h' s.heap.objs.size x tx 0→AscIt h' (s.heap.objs.size+1) y ty 0→h'.objs.size=s.heap.objs.size+5→
   (∀ c o,s.heap.get? c=some o→h'.get? c=some o)→Q (.ref (s.heap.objs.size+4)) {s with heap:=h'}):
  wpAny (model prog w) A (call (.type "zip") [.str x tx,.str y ty]) Q E s:=by
 refine callType_new F.called_zip (by decide) (F.typeCall_zip_2 _ _) (F.newCall_zip_2 _ _) (fun obj=>F.args_object_init_3 obj _ _) F.entry_zip_new (B1S x y tx ty hx hy) ?_
 have z1:(C3r s.heap x tx).objs.size=s.heap.objs.size+1:=a1U ..
 have z2:(C3q s.heap x y tx ty).objs.size=s.heap.objs.size+2:=by rw [a1U,z1]
 have z3:(C3p s.heap x y tx ty).objs.size=s.heap.objs.size+3:=by rw [a1U,z2]
 have z4:(C3o s.heap x y tx ty).objs.size=s.heap.objs.size+4:=by rw [a1U,z3]
 have z5:(B8x s.heap x y tx ty).objs.size=s.heap.objs.size+5:=by rw [a1U,z4]
 have g5:(B8x s.heap x y tx ty).get? (C3o s.heap x y tx ty).objs.size=some _:=Heap.get?_push_size _ rfl
 have g4:(B8x s.heap x y tx ty).get? (C3p s.heap x y tx ty).objs.size=some _:=Heap.get?_push_of_some _ (Heap.get?_push_size _ rfl)
 have g3:(B8x s.heap x y tx ty).get? (C3q s.heap x y tx ty).objs.size=some _:=Heap.get?_push_of_some _ (Heap.get?_push_of_some _ (Heap.get?_push_size _ rfl))
 have g2:(B8x s.heap x y tx ty).get? (C3r s.heap x tx).objs.size=some _:=Heap.get?_push_of_some _ (Heap.get?_push_of_some _ (Heap.get?_push_of_some _ (Heap.get?_push_size _ rfl)))
 have g1:(B8x s.heap x y tx ty).get? s.heap.objs.size=some _:=Heap.get?_push_of_some _ (Heap.get?_push_of_some _ (Heap.get?_push_of_some _ (Heap.get?_push_of_some _ (Heap.get?_push_size _ rfl))))
 show _∧_
 rw [z2,z3,z4] at g5
 rw [z1,z2] at g3
 rw [z3] at g4
 rw [z1] at g2
 rw [z4]
 exact⟨⟨_,g5,rfl⟩,h _ g5 g3 g4 ⟨_,g1,rfl,rfl⟩ ⟨_,g2,rfl,rfl⟩ z5 fun c o x=>
  Heap.get?_push_of_some _ (Heap.get?_push_of_some _ (Heap.get?_push_of_some _ (Heap.get?_push_of_some _ (Heap.get?_push_of_some _ x))))⟩
end
section
open PyProof.Rows.LCp
section
theorem St.chg4 {D X Y X' Y':Addr}{h':Heap}{tk:Nat}{o:Obj}(S:St c m ((D,o)::own) s)(hk: ∀ b o,b≠X→b≠Y→b≠X'→b≠Y'→s.heap.get? b=some o→h'.get? b=some o)
  (x:Aw c own C D X) (y:Aw c own C D Y) (x':Aw c own C D X') (y':Aw c own C D Y'):St c m ((D,o)::own) {s with heap:=h',toks:=tk}:=
 ⟨⟨S.F.ns.at' fun o e=>hk _ o (a0X x.L) (a0X y.L) (a0X x'.L) (a0X y'.L) e,fun b o e=>hk b o (x.ne0 e) (y.ne0 e) (x'.ne0 e) (y'.ne0 e) (S.F.keep b o e),S.F.above⟩,
  fun p hp=>⟨hk _ _ (x.nep hp) (y.nep hp) (x'.nep hp) (y'.nep hp) (S.N p hp).1,(S.N p hp).2⟩,S.gens,S.os,S.dr⟩
variable {elt it1:Expr}{y:Str}{px py tp:Pos}{kk:Nat}
structure ZInv (c:Fc)(m:Str→Option Value)(own:List (Addr×Obj))(z TI TO i1 i2 C D:Addr)(u v:Str)(tu tv:Tok)(F:Nat→Nat→SV)(s:Shared)(i:Nat)(ys:List Value)(m₂:Str→Option Value):Prop where
 le:i≤u.cps.size
 S:St c m ((D,lst ys)::own) s
 hC:s.heap.Ns C m₂
 hz:IsZip s.heap z TI TO .none
 ti:IsPair s.heap TI (.ref i1) (.ref i2)
 to: ∃ a b,IsPair s.heap TO a b
 h1:AscIt s.heap i1 u tu i
 h2:AscIt s.heap i2 v tv i
 ys:SReps ys (((u.cps.toList.zip v.cps.toList).take i).map fun p=>F p.1 p.2)
theorem B6v {z TI TO i1 i2 D:Addr}{u v:Str}{tu tv:Tok}{F:Nat→Nat→SV}(ok:c.Ok G A)(D':ZA z TI TO i1 i2)
  (hCD:C≠D) (az:Aw c own C D z) (at':Aw c own C D TI) (ao:Aw c own C D TO) (a1:Aw c own C D i1) (a2:Aw c own C D i2) (aC:Aw c own D D C) (aD:Aw c own C C D)
  (hkind:scope.kind= .function) (hx:scope.names.lookup x=some .local) (hy:scope.names.lookup y=some .local) (hxy:x≠y) (hlen:u.cps.size=v.cps.size) (hsz:u.cps.size≤1000)
  (he: ∀ own' oC m₂ v₁ v₂ (c₁ c₂ i:Nat),(C,oC)∈own'→NsObj oC m₂→m₂ x=some v₁→m₂ y=some v₂→chV c₁ v₁→chV c₂ v₂→u.cps[i]?=some c₁→v.cps[i]?=some c₂→Ev G C₀ c A m (own'++own) (eval elt (compEnvC scope cl C env)) (.s (F c₁ c₂)))
  {R:Result→Shared→Prop} (hR: ∀ s' ys m₂,St c m ((D,lst ys)::own) s'→s'.heap.Ns C m₂→SReps ys ((u.cps.toList.zip v.cps.toList).map fun p=>F p.1 p.2)→R (.ok .next) s')
  {m₂:Str→Option Value} (I:ZInv c m own z TI TO i1 i2 C D u v tu tv F s 0 [] m₂):
  codeAny G.M A (.compLoop (.ListComp elt [⟨.Tuple [.Name x px,.Name y py] kk tp,it1,[],0⟩] scope pos) 0 (.ref z) (.ref D) (compEnvC scope cl C env)) R s:=by
 refine codeAny_compLoop_pair (fun k s'=> ∃ i ys m₂,k=u.cps.size - i∧ZInv c m own z TI TO i1 i2 C D u v tu tv F s' i ys m₂) ?_ u.cps.size ⟨0,[],m₂,rfl,I⟩
 rintro k s' ⟨i,ys,m₂,rfl,I⟩
 obtain⟨a,b,hTO'⟩:=I.to
 by_cases hlt:i<u.cps.size
 ·have hlv:i<v.cps.size:=hlen▸hlt
  refine A4m D' I.hz I.ti hTO' I.h1 I.h2 (Array.getElem?_eq_getElem hlt) (Array.getElem?_eq_getElem hlv) fun h₂ tk₂ v₁ v₂ p₁ p₂ b1 b2 b3 b4 b5 b6 hk=> ?_
  refine wpAny_letOwnedTupleGo_zip b1 fun h₃ hz₃ hs₃=> ?_
  have S₃:=az.chg (tk:=tk₂) (I.S.chg4 (tk:=tk₂) hk az ao a1 a2) hs₃
  have n₂:=I.hC.at' fun o e=>hs₃.extBut C o (a0X az.C) (hk C o (a0X az.C) (a0X ao.C) (a0X a1.C) (a0X a2.C) e)
  refine kcp_assign ok.free ⟨_,hs₃.extBut _ _ (a2D (a0W I.hz)) b5,rfl,0,rfl⟩ (lookup_relabel_local hx) (lookup_relabel_local hy) (kq hkind) n₂ fun h₄ tk₄ hn₄ k₄=> ?_
  obtain⟨oC,heC,hoC⟩:=ns_obj hn₄
  obtain⟨oi1,e1,q1⟩:=(b3.ext (d:=z) hs₃.extBut D'.i1z).ext (d:=C) k₄ a1.C
  obtain⟨oi2,e2,q2⟩:=(b4.ext (d:=z) hs₃.extBut D'.i2z).ext (d:=C) k₄ a2.C
  have N₄:=S₃.N
  have S₅:St c m ((z,{cls:= .type "zip",dict:=none,data:= .fields #[.none,.bool false,.bool false,.ref TI,.ref TO],slots:= #[]})::(TI,{cls:= .type "tuple",data:= .seq #[.ref i1,.ref i2]})::(TO,{cls:= .type "tuple",data:= .seq #[v₁,v₂]})::(i1,oi1)::(i2,oi2)::(C,oC)::(D,lst ys)::own) {s' with heap:=h₄,toks:=tk₄}:=
   ⟨⟨S₃.F.ns.at' fun o e=>k₄ _ o (a0X aC.L) e,fun b o e=>k₄ b o (aC.ne0 e) (S₃.F.keep b o e),S₃.F.above⟩,
    fm ⟨k₄ _ _ az.C hz₃,az.L,az.z⟩ (fm ⟨k₄ _ _ at'.C (hs₃.extBut _ _ D'.TIz (hk _ _ D'.TIz D'.TITO D'.TIi1 D'.TIi2 I.ti)),at'.L,at'.z⟩ (fm ⟨k₄ _ _ ao.C (hs₃.extBut _ _ D'.TOz b2),ao.L,ao.z⟩ (fm ⟨e1,a1.L,a1.z⟩ (fm ⟨e2,a2.L,a2.z⟩ (fm ⟨heC,aC.L,aC.z⟩ fun p hp=>⟨k₄ _ _ (aC.nep hp) (N₄ p hp).1,(N₄ p hp).2⟩))))),S₃.gens,S₃.os,S₃.dr⟩
  refine he [_,_,_,_,_,_,(D,lst ys)] oC _ v₁ v₂ _ _ i (.tail _ (.tail _ (.tail _ (.tail _ (.tail _ (.head _)))))) hoC ((if_neg hxy).trans (if_pos rfl)) (if_pos rfl) p₁ p₂ (Array.getElem?_eq_getElem hlt) (Array.getElem?_eq_getElem hlv) _ _ _ S₅ fun own₅ w s₅ S₆ Ru=>Ru.sE fun hu=> ?_
  have g:=fun p hp=>(S₆.N p (a0H _ (a0G _ hp))).1
  have hyl:ys.length≤i:=a0F (Nat.le_of_eq I.ys.length) (by rw [a1D];exact List.length_take_le ..)
  refine append_at (g (D,lst ys) (.tail _ (.tail _ (.tail _ (.tail _ (.tail _ (.tail _ (.head _)))))))) (fun h₆ hs₆ hD₆=> ?_) (by rw [a1N,a1I];lia)
  refine⟨u.cps.size - (i+1),Nat.sub_succ_lt_self _ _ hlt,i+1,ys++ [w],_,rfl,hlt,S₆.chg (tk:=s₅.toks) (A2m hs₆) aD.L aD.z (fm (.inl ⟨rfl,hD₆.trans (congrArg some (lst_snoc ys w))⟩) fun p hp=> .inr ⟨a0G _ (.tail _ (.tail _ (.tail _ (.tail _ (.tail _ (.tail _ (.tail _ hp))))))),aD.o p hp⟩) aD.n,(hoC.ns (g _ (.tail _ (.tail _ (.tail _ (.tail _ (.tail _ (.head _)))))))).sameBut hs₆ hCD,hs₆.extBut _ _ az.D (g _ (.head _)),hs₆.extBut _ _ at'.D (g _ (.tail _ (.head _))),⟨_,_,hs₆.extBut _ _ ao.D (g _ (.tail _ (.tail _ (.head _))))⟩,
   ⟨oi1,hs₆.extBut _ _ a1.D (g _ (.tail _ (.tail _ (.tail _ (.head _))))),q1⟩,⟨oi2,hs₆.extBut _ _ a2.D (g _ (.tail _ (.tail _ (.tail _ (.tail _ (.head _)))))),q2⟩,?_⟩
  have ez:(u.cps.toList.zip v.cps.toList)[i]?=some (u.cps[i],v.cps[i]):=List.getElem?_zip_eq_some.mpr ⟨by rw [Array.getElem?_toList];exact Array.getElem?_eq_getElem hlt,by rw [Array.getElem?_toList];exact Array.getElem?_eq_getElem hlv⟩
  rw [List.take_add_one,ez,a2P]
  exact .snoc I.ys hu
 ·obtain rfl:i=u.cps.size:=Nat.le_antisymm I.le (Nat.not_lt.mp hlt)
  refine A4O ok.free D' I.hz I.ti hTO' I.h1 I.h2 (Array.getElem?_eq_none (a0K _)) fun h₂ hk=> ?_
  refine hR _ ys m₂ (I.S.chg4 (tk:=s'.toks) hk az ao a1 a2) (I.hC.at' fun o e=>hk C o (a0X az.C) (a0X ao.C) (a0X a1.C) (a0X a2.C) e) ?_
  have hys:=I.ys
  rw [a2G (by rw [List.length_zip,a1X];exact Nat.min_le_left ..)] at hys
  exact hys
end
end
section
open PyProof.Rows.LCp
section
structure Off (c:Fc)(own:List (Addr×Obj))(h:Heap)(X:Addr):Prop where
 L:X≠c.L
 z:c.h₀.get? X=none
 o: ∀ p∈own++c.news,p.1≠X
 lt:X<h.objs.size
structure ZipAt (c:Fc)(own:List (Addr×Obj))(h:Heap)(z TI TO i1 i2:Addr)(u v:Str)(tu tv:Tok):Prop where
 za:ZA z TI TO i1 i2
 zip:IsZip h z TI TO .none
 ti:IsPair h TI (.ref i1) (.ref i2)
 to: ∃ a b,IsPair h TO a b
 a1:AscIt h i1 u tu 0
 a2:AscIt h i2 v tv 0
 oz:Off c own h z
 oti:Off c own h TI
 oto:Off c own h TO
 o1:Off c own h i1
 o2:Off c own h i2
variable {elt it1:Expr}{y:Str}{px py tp:Pos}{kk:Nat}
theorem C0N {np:Pos}{nm:Str}{u v:Str}{nu nv:Nat}(ok:c.Ok G A)(hs:es.all A0g=true)(hk:A0L G.K (.type "zip")=true)(hf:Ev G C₀ c A m own (eval (.Name nm np) env) (.k (.type "zip")))
  (ha: ∀ own',EvL G C₀ c A m (own'++own) (spliced (backTo pos (starEach es env))) [.s (.str u nu),.s (.str v nv)]) (hu:u.cps.all (· <128)=true) (hv:v.cps.all (· <128)=true) (S:St c m own s)
  (q: ∀ own' s' z TI TO i1 i2 tu tv,St c m (own'++own) s'→ZipAt c (own'++own) s'.heap z TI TO i1 i2 u v tu tv→Q (.ref z) s'):wpAny G.M A (eval (.Call (.Name nm np) es [] pos) env) Q E s:=by
 show wpAny _ _ (do callWith pos (←eval (.Name nm np) env) [] (backTo pos (starEach es env)) (backToKw pos (keywordEach [] env))) Q E s
 refine a0A (hf s _ E S fun own' w s' S' R=> ?_)
 refine R.kE ?_
 refine callWith_of (P:=fun h=>G.K.In h) (by rw [A1D hs];rfl) (A3S hk) (A0k hs (ha own' s' _ E S' fun own'' vs s'' S'' R=>⟨S''.X ok,?_⟩))
 have S₃:=St.asc S''
 refine R.consE fun _ _ R1 R=> ?_
 refine R.consE fun _ _ R2 R=> ?_
 refine R.nilE ?_
 have R1:=R1.sI
 have R2:=R2.sI
 refine R1.strE fun _ _=> ?_
 refine R2.strE fun _ _=> ?_
 rename_i tu hlu tv hlv
 refine B5d hu hv fun h' z1 z2 z3 z4 z5 z6 z7=> ?_
 have S₄:St c m ((own''++own')++own) {s'' with heap:=h'}:=⟨S₃.F.keeps z7,S₃.N.grown z7,S₃.gens,S₃.os,S₃.dr⟩
 have offk: ∀ k,k<5→Off c ((own''++own')++own) h' (s''.heap.objs.size+k):=fun k hk=>
  ⟨a2D (Nat.lt_of_lt_of_le S₃.F.ns.lt (a2H _ _)),by
   cases e:c.h₀.get? (s''.heap.objs.size+k) with
   | none=>rfl
   | some o'=>exact absurd (a0W (S₃.F.keep _ _ e)) (Nat.not_lt.mpr (a2H _ _)),
   fun p hp=>a0S (Nat.lt_of_lt_of_le (a0W (S₃.N p hp).1) (a2H _ _)),by rw [z6];exact Nat.add_lt_add_left hk _⟩
 have ad: ∀ (n i j:Nat),i≠j→n+i≠n+j:=fun n i j h e=>h (Nat.add_left_cancel e)
 refine q (own''++own') _ _ _ _ _ _ tu tv S₄ ⟨⟨ad _ 2 4 (by decide),ad _ 3 4 (by decide),ad _ 0 4 (by decide),ad _ 1 4 (by decide),ad _ 2 3 (by decide),ad _ 2 0 (by decide),ad _ 2 1 (by decide),ad _ 3 0 (by decide),ad _ 3 1 (by decide),ad _ 0 1 (by decide)⟩,z1,z2,⟨_,_,z3⟩,z4,z5,offk 4 (by decide),offk 2 (by decide),offk 3 (by decide),offk 0 (by decide),offk 1 (by decide)⟩
theorem A5G {u v:Str}{F:Nat→Nat→SV}(ok:c.Ok G A)(hsc:CompScopeC scope x env cl)(hy:scope.names.lookup y=some .local)(hxy:x≠y)(hset1:A1P it1=true)(hlen:u.cps.size=v.cps.size)(hsz:u.cps.size≤1000)
  (hi: ∀ s Q E,St c m own s→(∀ own' s' z TI TO i1 i2 tu tv,St c m (own'++own) s'→ZipAt c (own'++own) s'.heap z TI TO i1 i2 u v tu tv→Q (.ref z) s')→wpAny G.M A (eval it1 env) Q E s)
  (he: ∀ own' C oC m₂ v₁ v₂ (c₁ c₂ i:Nat),(C,oC)∈own'→NsObj oC m₂→m₂ x=some v₁→m₂ y=some v₂→chV c₁ v₁→chV c₂ v₂→u.cps[i]?=some c₁→v.cps[i]?=some c₂→Ev G C₀ c A m (own'++own) (eval elt (compEnvC scope cl C env)) (.s (F c₁ c₂))):
  Ev G C₀ c A m own (eval (.ListComp elt [⟨.Tuple [.Name x px,.Name y py] kk tp,it1,[],0⟩] scope pos) env) (.list (((u.cps.toList.zip v.cps.toList).map fun p=>F p.1 p.2).map .s)):=by
 intro s Q E S q
 rw [eval_ListComp]
 refine wpAny_comprehension_free (use:=none) rfl (A0y hset1) hsc.clos hsc.kind hsc.names (hi s _ E S fun own₁ s₂ z TI TO i1 i2 tu tv S₂ Z=> ?_)
 refine wpAny_pyIter_zip Z.zip ?_
 refine a2J (wpAny_newFunctionEnv hsc.nocell (by intro y hy;simp at hy) (fun h₁ hns₁ hsb₁=> ?_) hsc.kind)
 have W:=B8p S₂ hsb₁
 dsimp only at hns₁ hsb₁ W ⊢
 generalize (s₂.heap.push {cls:= .type "list",dict:=none,data:= .seq ([]:List Value).toArray}).objs.size=C at*
 have aw: ∀ {X:Addr},Off c (own₁++own) s₂.heap X→Aw c (own₁++own) C s₂.heap.objs.size X:=fun z=>⟨a0X (W.ne _ z.lt),a0S z.lt,z.L,z.z,fun p hp=>z.o p (a0H _ hp),fun p hp=>z.o p (a0G _ hp)⟩
 have loop:codeAny G.M A (.compLoop (.ListComp elt [⟨.Tuple [.Name x px,.Name y py] kk tp,it1,[],0⟩] scope pos) 0 (.ref z) (.ref s₂.heap.objs.size) (compEnvC scope cl C env)) (compPost G.M A E none Q (.ref s₂.heap.objs.size) C) {s₂ with heap:=h₁,toks:=s₂.toks+ ([]:List (Str×Value)).length}:=by
  refine B6v (C₀:=C₀) (F:=F) ok Z.za W.aC.C (aw Z.oz) (aw Z.oti) (aw Z.oto) (aw Z.o1) (aw Z.o2) W.aC W.aD hsc.kind hsc.var hy hxy hlen hsz (fun own' oC m₂ v₁ v₂ c₁ c₂ i hm hn h1 h2 h3 h4 h5 h6=> ?_) (fun s' ys m₂ S' hn hys=> ?_)
   ⟨a2K _,W.S _,hns₁,W.old _ _ Z.zip,W.old _ _ Z.ti,Z.to.imp fun a e=>e.imp fun b e=>W.old _ _ e,Z.a1.imp fun o e=>⟨W.old _ _ e.1,e.2⟩,Z.a2.imp fun o e=>⟨W.old _ _ e.1,e.2⟩,.nil⟩
  ·rw [←a0C]
   exact he (own'++own₁) C oC m₂ v₁ v₂ c₁ c₂ i (a0H _ hm) hn h1 h2 h3 h4 h5 h6
  ·exact⟨m₂,hn,fun h'' hs''=>q ((s₂.heap.objs.size,lst ys)::own₁) _ _ (W.aC.chg (tk:=s'.toks) S' hs'') (.list (vs:=ys) (n:=ys.length) (.inr (.head _)) hys.reps)⟩
 exact codeAny_compStart_list loop (wpAny_pyIter_zip (W.old _ _ Z.zip) loop)
end
end
noncomputable def A0m (lo:Option Int)(x:Str):Str:=⟨((Builtin.Str.strSliceIndices lo none 2 x.length).filterMap (x.cps[·]?)).toArray⟩
noncomputable def A9c (lo:Option Int)(o:Option V):Option V:=((o.bind A0V).bind A0x).bind fun p=>gd (decide ((A0m lo p.1).length≤1000000)) (some (.s (.str (A0m lo p.1) (A0m lo p.1).length)))
theorem A3Y {lo:Option Int}{o:Option V}{v:V}(h:A9c lo o=some v): ∃ x n,o=some (.s (.str x n))∧(A0m lo x).length≤1000000∧v= .s (.str (A0m lo x) (A0m lo x).length):=
 x3 h fun p hp h=>x2 h fun h2 h=>⟨p.1,p.2,A0i (A2d hp),a0B h2,(a0E h).symm⟩
noncomputable def C1z (r:Evs)(b:Nat)(η:A0w)(v:Expr)(st:Expr):Option Expr→Option (Option V)
 | none=>some (A9c none (r.E b η v))
 | some lo=>(A2R lo).map fun i=>A9c (some i) (r.E b η v)
noncomputable def C4K:Expr→Option (Expr×Option Expr×Option Expr×Option Expr)
 | .Subscript v (.Slice lo up st _) _=>some (v,lo,up,st)
 | _=>none
@[elab_as_elim] theorem C2M {e:Expr} {x:Expr×Option Expr×Option Expr×Option Expr} {motive:Expr→Prop} (h:C4K e=some x) (q: ∀ sp pos,motive (.Subscript x.1 (.Slice x.2.1 x.2.2.1 x.2.2.2 sp) pos)):motive e:=by
 cases e with
 | Subscript w sl pos=>cases sl with
  | Slice=>cases h;exact q _ _
  | _=>exact x0 h
 | _=>exact x0 h
noncomputable def hSl (r:Evs)(b:Nat)(η:A0w)(e:Expr):Option (Option V):=(C4K e).bind fun x=>gd x.2.2.1.isNone (x.2.2.2.bind fun st=>(A2R st).bind fun k=>gd (k==2) (C1z r b η x.1 st x.2.1))
noncomputable def C2D:List Nat→Option V
 | i::_=>some (.s (.int i))
 | []=>none
noncomputable def hIx (r:Evs)(b:Nat):V→Str→List V→Option (Option V)
 | .s x,nm,rs=>gd (nm== "index") ((A0x x).bind fun p=>((A1m rs).bind A0V).bind fun y=>(A0x y).map fun q=>C2D (Builtin.Str.occurrences p.1 q.1 0 p.1.length 1))
 | _,_,_=>none
noncomputable def B9P:Hk:= {Hk.nil with E:=hSl,M:=hIx}
section
variable {r:Evs}
theorem A2y {w:World}{t:Tok}{a:Addr}{l:Option (Int×Tok)}{tk:Tok}(hs:s.heap.IsSlice a l none (some (2,tk)))(hsz:(A0m (l.map (·.1)) x).length≤1000000)
  (h: ∀ t' k,Q (.str (A0m (l.map (·.1)) x) t') {s with toks:=k}):wpAny (model prog w) A (getItem (.str x t) (.ref a)) Q E s:=by
 refine wpAny_getItem_str_slice hs (by rfl) ?_
 have e:sliceMade x t l none (some (2,tk))= .str (A0m (l.map (·.1)) x):=by
  unfold sliceMade
  rw [if_neg (by show ¬ ((((2:Int)==1)&&_)=true);rw [show ((2:Int)==1)=false by decide,Bool.false_and];exact a2W)]
  rfl
 rw [e]
 exact⟨by rw [a1I];lia,h _ _⟩
theorem B7j {q:Nat}{p sp:Pos}(hv:Ev G C₀ c A m own (eval value env) (.s (.str x n)))(hl:(A0m none x).length≤1000000):
  Ev G C₀ c A m own (eval (.Subscript value (.Slice none none (some (.Constant (.int 2) q p)) sp) pos) env) (.s (.str (A0m none x) (A0m none x).length)):=by
 intro s Q E S k
 refine Subscript_ (hv s _ E S fun own' v s' S' R=> ?_)
 have R:=R.sI
 refine R.strE fun _ _=> ?_
 rename_i t hlx
 refine wpAny_Slice (evalPart_none_step (evalPart_none_step (evalPart_some_step (a1J ?_))))
 refine A0b (value:=value) (slice:= .Slice none none (some (.Constant (.int 2) q p)) sp) (T:= "str") (typeIs_str _ x t) slot_str_getitem.lookup (A2y (l:=none) (tk:=s'.toks) ⟨_,Heap.get?_push_size _ rfl,rfl,rfl⟩ hl fun t' kk=> ?_) (.inr rfl)
 exact k own' _ _ ⟨S'.F.push _,S'.N.grown fun _ _ e=>Heap.get?_push_of_some _ e,S'.gens,S'.os,S'.dr⟩ (.s (.str (a0K _)))
theorem B7i {i:Int}{q q':Nat}{p p' sp:Pos}(hv:Ev G C₀ c A m own (eval value env) (.s (.str x n)))(hl:(A0m (some i) x).length≤1000000):
  Ev G C₀ c A m own (eval (.Subscript value (.Slice (some (.Constant (.int i) q' p')) none (some (.Constant (.int 2) q p)) sp) pos) env) (.s (.str (A0m (some i) x) (A0m (some i) x).length)):=by
 intro s Q E S k
 refine Subscript_ (hv s _ E S fun own' v s' S' R=> ?_)
 have R:=R.sI
 refine R.strE fun _ _=> ?_
 rename_i t hlx
 refine wpAny_Slice (evalPart_some_step (a1J (evalPart_none_step (evalPart_some_step (a1J ?_)))))
 refine A0b (value:=value) (slice:= .Slice (some (.Constant (.int i) q' p')) none (some (.Constant (.int 2) q p)) sp) (T:= "str") (typeIs_str _ x t) slot_str_getitem.lookup (A2y (l:=some (i,s'.toks)) (tk:=s'.toks+1) ⟨_,Heap.get?_push_size _ rfl,rfl,rfl⟩ hl fun t' kk=> ?_) (.inr rfl)
 exact k own' _ _ ⟨S'.F.push _,S'.N.grown fun _ _ e=>Heap.get?_push_of_some _ e,S'.gens,S'.os,S'.dr⟩ (.s (.str (a0K _)))
theorem C2C {l:List Nat}{v:V}(h:C2D l=some v): ∃ (i:Nat) (rest:List Nat),l=i::rest∧v= .s (.int i):=by
 cases l with
 | nil=>exact x0 h
 | cons i rest=>exact⟨i,rest,rfl,(a0E h).symm⟩
theorem B0M:HkOk G C₀ B9P:= {HkOk.nil with
 E:=fun {r b η e v} X h {c A m own env} ok room hg hn=>by
  refine x3 h fun x hx h=>x2 h fun hu h=>x3 h fun st' hst h=>x3 h fun k hk h=>x2 h fun h2 h=> ?_
  obtain⟨w,lo,up,st⟩:=x
  obtain rfl:=Option.isNone_iff_eq_none.mp hu
  obtain rfl:st=some st':=hst
  have hk:A2R st'=some 2:=a0D h2▸hk
  refine C2M hx fun sp pos=>A3E hk fun q p=> ?_
  cases lo with
  | none=>
   obtain⟨x,n,h1,h2,rfl⟩:=A3Y (a0E h)
   exact B7j (X.E h1 ok room hg hn) h2
  | some lo=>
   refine x4e h fun i hi h=>A3E hi fun q' p'=> ?_
   obtain⟨x,n,h1,h2,rfl⟩:=A3Y h.symm
   exact B7i (X.E h1 ok room hg hn) h2
 M:=fun {r b o nm rs v} X h {c A m own env oe apos args pos} ok room hs hp hst hl hlen ho ha=>by
  cases o with
  | s y=>
   refine x2 h fun hnm h=>x3 h fun x hx h=>x3 h fun z hz h=>x4e h fun q hq h=> ?_
   obtain⟨i,rest,hoc,rfl⟩:=C2C h.symm
   rw [a0D hnm]
   refine(A2r (id:= "str.index") (P:=fun Ω w=>SRep w (.int i)) ok hs hp hst hl (A0F (motive:=fun y=>Ev G C₀ c A m own (eval oe env) (.s y)→Ev G C₀ c A m own (eval oe env) (.s (.str x.1 x.2))) hx id ho) (fun t s pl Q E q=>by with_reducible exact GM.index q) ha fun own' t vs R=> ?_).ev fun Ω Ω p=> .s p
   exact R.s1 hz fun w Rw=>(A0F (motive:=fun y=>SRep w y→SRep w (.str q.1 q.2)) hq id Rw).strE fun t' Ω s Q E S k Ω=>call_gives F.slot_str_index (typeIs_str _ _ _) F.entry_str_index (F.args_str_index_2 _ _) (gives_str_index _ _ _ _ _ _ hoc) (k [] _ _ (S.tok _) .int)
  | _=>exact x0 h}
end
noncomputable def hkC (K:Frag):Hk:=(hkB K).or B9P
noncomputable def r2 (P:Params):Evs:=evs (KF P) fl 818 spO (hkC (KF P)) 40
theorem GOk.r2 (h:GOk G):Snd G 818 (r2 G.w.params):=by
 have:=A0B (C₀:=818) h.gx (B3o (G:=G)) (((hkD_ok (G:=G) (C₀:=818)).or A6S).or B0M) 40
 rw [h.K] at this
 exact this
noncomputable def C3C:Str:= "0123456789abcdef"
structure UhP where
 p1:Pos
 q1:Nat
 p2:Pos
 p3:Pos
 st2:Stmt
 p4:Pos
 elt:Expr
 p5:Pos
 p6:Pos
 kk:Nat
 p7:Pos
 zp:Pos
 e1:Expr
 e2:Expr
 p8:Pos
 scope:Scope
 p9:Pos
 p10:Pos
 p11:Pos
noncomputable def UhP.body (w:UhP):List Stmt:= [.Assign [.Name "digits" w.p1] (.Constant (.str C3C) w.q1 w.p2) w.p3,w.st2,
 .Return (some (.Call (.Name "bytes" w.p4) [.ListComp w.elt [⟨.Tuple [.Name "a" w.p5,.Name "b" w.p6] w.kk w.p7,.Call (.Name "zip" w.zp) [w.e1,w.e2] [] w.p8,[],0⟩] w.scope w.p9] [] w.p10)) w.p11]
noncomputable def C5R (b:List Stmt):UhP:=match b with
 | [.Assign [.Name _ p1] (.Constant (.str _) q1 p2) p3,st2,.Return (some (.Call (.Name _ p4) [.ListComp elt [⟨.Tuple [.Name _ p5,.Name _ p6] kk p7,.Call (.Name _ zp) [e1,e2] [] p8,[],0⟩] scope p9] [] p10)) p11]=>⟨p1,q1,p2,p3,st2,p4,elt,p5,p6,kk,p7,zp,e1,e2,p8,scope,p9,p10,p11⟩
 | _=>⟨default,0,default,default,default,default,default,default,default,0,default,default,default,default,default,default,default,default,default⟩
noncomputable def uh (P:Params):UhP:=C5R (A0c P 31).body
noncomputable def A4o (c:Nat):Nat:=if c<58 then c - 48 else c - 87
noncomputable def hexCs:List Nat:= [48,49,50,51,52,53,54,55,56,57,97,98,99,100,101,102]
noncomputable def uhη (a b:Nat):A0w:=fun z=>List.lookup z [("a",.s (.str ⟨#[a]⟩ 1)),("b",.s (.str ⟨#[b]⟩ 1)),("digits",.s (.str C3C 16))]
theorem B5u (P:Params):A2V (KF P) 31=some (A0c P 31)∧A3V (KF P) 31 (A0c P 31)=true∧A0r (A0c P 31).params=some [("text" :Str)]∧
 (A0c P 31).scope.names= [(("text" :Str),NameKind.local),("digits",.cell),("isinstance",.globalImplicit),("str",.globalImplicit),("bytes",.globalImplicit),("zip",.globalImplicit)]∧A1s (KF P) (A0c P 31).dV=true∧
 (A0c P 31).body=(uh P).body:=by and_intros<;>kernel_rfl
theorem B5v (P:Params):(uh P).scope.kind= .function∧(uh P).scope.names= [((".0" :Str),NameKind.local),("a",.local),("b",.local),("digits",.free)]∧A0g (uh P).e1=true∧A0g (uh P).e2=true:=
 by and_intros<;>kernel_rfl
theorem C0R (P:Params):(hexCs.all fun a=>hexCs.all fun b=>B0I ((r2 P).E 0 (uhη a b) (uh P).elt) (16*A4o a+A4o b:Nat))=true:=by kernel_rfl
theorem B8z (P:Params):nsIn (KF P) mainGlobals "bytes" =some none∧nsIn (KF P) mainGlobals "zip" =some none:=by and_intros<;>kernel_rfl
theorem C0P (P:Params)(L:Addr)(x:Str)(n:Nat):B5D (KF P) (r2 P) 818 3 ((A0c P 31).withC L) [("text",.s (.str x n))] (uh P).st2=some (.nxt ["text"] [("text",.s (.str x n)),("text",.s (.str x n))]):=by kernel_rfl
structure UhAt (P:Params)(x u v:Str)(n nu nv:Nat):Prop where
 h1: ∀ L,(r2 P).E 3 (nmF (KF P) ((A0c P 31).withC L) [("text",.s (.str x n)),("text",.s (.str x n))]) (uh P).e1=some (.s (.str u nu))
 h2: ∀ L,(r2 P).E 3 (nmF (KF P) ((A0c P 31).withC L) [("text",.s (.str x n)),("text",.s (.str x n))]) (uh P).e2=some (.s (.str v nv))
noncomputable def C3K (u v:Str):Bool:=u.cps.all (hexCs.contains ·)&&v.cps.all (hexCs.contains ·)&&u.cps.size==v.cps.size&&decide (u.cps.size≤400)
noncomputable def A1z (u v:Str):List UInt8:=(u.cps.toList.zip v.cps.toList).map fun p=>(16*A4o p.1+A4o p.2).toUInt8
theorem B4o: ∀ a∈hexCs,A4o a<16:=by decide
theorem A8C (l:List (Nat×Nat)):(∀ p∈l,p.1∈hexCs∧p.2∈hexCs)→A2M (l.map fun p=>V.s (.int ((16*A4o p.1+A4o p.2:Nat):Int)))=some (l.map fun p=>(16*A4o p.1+A4o p.2).toUInt8).reverse:=by
 induction l with
 | nil=>exact fun Ω=>rfl
 | cons p l ih=>
  intro h
  have hp:=h p (.head _)
  have h1:=B4o p.1 hp.1
  have h2:=B4o p.2 hp.2
  rw [a0V]
  show gd (decide ((0:Int)≤ ((16*A4o p.1+A4o p.2:Nat):Int))&&decide (((16*A4o p.1+A4o p.2:Nat):Int)<256)) ((A2M (l.map fun p=>V.s (.int ((16*A4o p.1+A4o p.2:Nat):Int)))).map (· ++ [(16*A4o p.1+A4o p.2).toUInt8]))=_
  rw [a0Q (a1W _),a0Q (show ((16*A4o p.1+A4o p.2:Nat):Int)<256 by lia),ih fun q hq=>h q (.tail _ hq),a0V,a2E];rfl
theorem A4D (g:GOk G){u v:Str}{nu nv:Nat}(hu:UhAt G.w.params x u v n nu nv)(hc:C3K u v=true)(R:Reps G 818 Z vs [.s (.str x n)]):
  Calls G 818 5 Z 31 ⟨vs,[]⟩ (fun H w=>Rep G 818 H w (.s (.bytes (A1z u v).reverse (A1z u v).length))) False:=by
 have X:=g.r2
 have gK:=g.K
 obtain⟨s1,s2,s3,s4,s5,s6⟩:=B5u G.w.params
 obtain⟨f7,f8,f9,f10⟩:=B5v G.w.params
 have ft:=C0R G.w.params
 have fg:=B8z G.w.params
 have fs:=C0P G.w.params
 obtain⟨hu1,hu2⟩:=hu
 rw [←g.K] at s1 s2 s5 fg
 simp only [←g.K] at hu1 hu2 fs
 generalize uh G.w.params=pa at*
 generalize A0c G.w.params 31=d at*
 simp only [C3K,a1B,decide_eq_true_eq,beq_iff_eq] at hc
 obtain⟨⟨⟨hc1,hc2⟩,hc3⟩,hc4⟩:=hc
 have inU: ∀ c,c∈u.cps.toList→c∈hexCs:=fun c hm=>by
  have:=Array.all_eq_true'.mp hc1 c (by simpa using hm)
  simpa using this
 have inV: ∀ c,c∈v.cps.toList→c∈hexCs:=fun c hm=>by
  have:=Array.all_eq_true'.mp hc2 c (by simpa using hm)
  simpa using this
 have asc: ∀ z:Str,(∀ c,c∈z.cps.toList→c∈hexCs)→z.cps.all (· <128)=true:=fun z h=>by
  rw [Array.all_eq_true']
  intro c hm
  have h2: ∀ c∈hexCs,c<128:=by decide
  exact a0Q (h2 c (h c (by simpa using hm)))
 have hl:vs.length=1:=R.length
 have hloc: ∀ y∈ (["text"]:List Str).zip vs,d.scope.names.lookup y.1=some .local:=fun y hy=>by
  obtain⟨y1,y2⟩:=y
  rw [a0L.mp (a2T hy).1,s4];rfl
 refine A8B (n:=4) (binds:=(["text"]:List Str).zip vs) s1 s2 (fun s X=>A0Z X s3 hl s5) hloc (fun H H' v k p=>p.mono k) ?_
 intro c A s cells Q E ok he room Y S lt le q en
 rw [s6]
 have ecl:cellsFrom (c.L+1) d.scope.names []= [(("digits" :Str),c.L+1)]:=by rw [s4];rfl
 rw [ecl] at Y
 obtain⟨oc,rfl,hoc⟩:=Y.one
 have hcl:(d.withC c.L).cl= [(("digits" :Str),c.L+1)]:=ecl
 have hdg:(d.withC c.L).scope.names.lookup ("digits" :Str)=some .cell:=by show d.scope.names.lookup _=_;rw [s4];rfl
 have hby:(d.withC c.L).scope.names.lookup ("bytes" :Str)=some .globalImplicit:=by show d.scope.names.lookup _=_;rw [s4];rfl
 have hzi:(d.withC c.L).scope.names.lookup ("zip" :Str)=some .globalImplicit:=by show d.scope.names.lookup _=_;rw [s4];rfl
 have cn: ∀ p∈c.news,p.1≠c.L+1:=fun p hp e=>by
  have:=lt p hp
  rw [e] at this
  exact absurd this (Nat.not_lt.mpr (Nat.le_succ _))
 refine a0N (wpAny_Assign_Name (Constant_str ?_) (A0l rfl))
 refine A2b (d:=d.withC c.L) (f:=31) (pre:= []) (post:= []) ok he hdg (by rw [hcl];rfl) (S.tok _) hoc (fun p hp=>(nomatch hp)) (fun p hp=>(nomatch hp)) cn fun s' o' S' ho'=> ?_
 have hS':St c (fun y=>((["text"]:List Str).zip vs).reverse.lookup y) [(c.L+1,o')] s':=S'
 have hm: ∀ y,((["text"]:List Str).zip vs).reverse.lookup y=((["text"]:List Str).zip vs).lookup y:=fun y=>A0X (by rw [A1y hl];exact(by simp))
 have hlo:Locs G 818 (vis c [(c.L+1,o')]) (fun y=>((["text"]:List Str).zip vs).reverse.lookup y) [("text",.s (.str x n))]:=fun z r e=>by
  obtain⟨v,h1,h2⟩:=A1L (ns:= ["text"]) R (x:=z) (r:=r) e
  exact⟨v,(hm z).trans h1,h2.mono (le.trans fun Ω Ω h=>h.imp id fun z=>(nomatch z))⟩
 generalize (fun y=>((["text"]:List Str).zip vs).reverse.lookup y)=M0 at hlo hS'
 have room3:Room A 3:=room.less (by decide)
 have ex2:=A1A X (fs c.L x n) ok room3 he hlo
 have hk1:pa.scope.names.lookup ("a" :Str)=some .local:=by rw [f8];rfl
 have hk2:pa.scope.names.lookup ("b" :Str)=some .local:=by rw [f8];rfl
 have hk3:pa.scope.names.lookup ("digits" :Str)=some .free:=by rw [f8];rfl
 have hcell:c.env.cells= [(("digits" :Str),c.L+1)]:=by rw [he];exact hcl
 have hsc:CompScopeC pa.scope "a" c.env [(("digits" :Str),c.L+1)]:=⟨A3W (by rw [hcell,f8];rfl),by rw [f8];decide,f7,by rw [f8];decide,hk1⟩
 have hEnv:EnvG c.env:=by rw [he];exact⟨rfl,rfl⟩
 have r1v:Rep G 818 (vis c [(c.L+1,o')]) (.str C3C s.toks) (.s (.str C3C 16)):= .s (.str (by decide))
 have hkc:c.env.scope.kind= .function:=ok.kind
 have hkd:c.env.kindOf ("digits" :Str)=some .cell:=by rw [he];exact hdg
 have last: ∀ (M:Str→Option Value) (own₀:List (Addr×Obj)),Locs G 818 (vis c (own₀++ [(c.L+1,o')])) M [("text",.s (.str x n)),("text",.s (.str x n))]→
   Ex G 818 c A M (own₀++ [(c.L+1,o')]) (exec (.Return (some (.Call (.Name "bytes" pa.p4) [.ListComp pa.elt [⟨.Tuple [.Name "a" pa.p5,.Name "b" pa.p6] pa.kk pa.p7,.Call (.Name "zip" pa.zp) [pa.e1,pa.e2] [] pa.p8,[],0⟩] pa.scope pa.p9] [] pa.p10)) pa.p11) c.env) (.ret (.s (.bytes (A1z u v).reverse (A1z u v).length))):=by
  intro M own₀ hl₀
  have hnm: ∀ own₁,NamesOk G 818 c A M (own₁++ (own₀++ [(c.L+1,o')])) c.env (nmF G.K (d.withC c.L) [("text",.s (.str x n)),("text",.s (.str x n))]):=fun own₁=>A0f ok he (hl₀.mono A0a)
  have hT: ∀ own',EvL G 818 c A M (own'++ (own₀++ [(c.L+1,o')])) (spliced (backTo pa.p10 (starEach [.ListComp pa.elt [⟨.Tuple [.Name "a" pa.p5,.Name "b" pa.p6] pa.kk pa.p7,.Call (.Name "zip" pa.zp) [pa.e1,pa.e2] [] pa.p8,[],0⟩] pa.scope pa.p9] c.env)))
    [.list (((u.cps.toList.zip v.cps.toList).map fun p=>SV.int ((16*A4o p.1+A4o p.2:Nat):Int)).map V.s)]:=by
   intro own₁
   refine A0s rfl ?_ fun Ω=>A0N
   refine A5G (u:=u) (v:=v) (F:=fun a b=>SV.int ((16*A4o a+A4o b:Nat):Int)) ok hsc hk2 (by decide) rfl hc3 (a0F hc4 (by decide)) (fun s Q E S q=> ?_) fun own' C oC m₂ v₁ v₂ c₁ c₂ i hm hN hx hy hv hw hu₁ hv₁=> ?_
   ·refine C0N ok (by simp [f9,f10]) (by rfl) (A1x (C₀:=818) (d:=d.withC c.L) (f:=31) (v:= .type "zip") ok he fg.2 (by decide+kernel) (by decide+kernel) hzi (by decide)) (nu:=nu) (nv:=nv) (fun own₂=>A0s f9 ?_ fun own₃=>A0s f10 ?_ fun Ω=>A0N) (asc u inU) (asc v inV) S q
    ·exact X.E (hu1 c.L) ok room3 hEnv (by have:=hnm (own₂++own₁);rw [a0C] at this;exact this)
    ·exact X.E (hu2 c.L) ok room3 hEnv (by have:=hnm (own₃++ (own₂++own₁));rw [a0C,a0C] at this;exact this)
   ·have hnames:NamesOk G 818 c A M (own'++ (own₁++ (own₀++ [(c.L+1,o')]))) (compEnvC pa.scope [(("digits" :Str),c.L+1)] C c.env) (uhη c₁ c₂):=by
     intro z pz vz own'' ez
     have hC: ∀ s,St c M (own''++ (own'++ (own₁++ (own₀++ [(c.L+1,o')])))) s→s.heap.get? C=some oC:=fun s S=>S.cmp hm
     obtain⟨t,rfl⟩:=hv
     obtain⟨t',rfl⟩:=hw
     refine lk1 ez (A0S ok f7 hk1 hC hN hx (.s (.str (a0K 1))) (by decide)) fun ez=>lk1 ez (A0S ok f7 hk2 hC hN hy (.s (.str (a0K 1))) (by decide)) fun ez=>lk1 ez ?_ fun ez=>x0 ez
     refine A3e ok f7 hkc hk3 hkd rfl (o:=o') (by simp) ho' ?_ (by decide)
     exact r1v.mono (fun a o h=>h.imp id fun z=>by simp [z])
    have m1:c₁∈hexCs:=inU c₁ (List.mem_of_getElem? (by rw [Array.getElem?_toList];exact hu₁))
    have m2:c₂∈hexCs:=inV c₂ (List.mem_of_getElem? (by rw [Array.getElem?_toList];exact hv₁))
    have hall:=a0J.mp (a0J.mp ft c₁ m1) c₂ m2
    exact X.E (A5c hall) ok (room.less (a2K 4)) ⟨hEnv.g,hEnv.b⟩ hnames
  have hE:=A0z (pos:=pa.p10) (np:=pa.p4) (raises:=False) (P:=fun Z w=>SRep w (.bytes (A1z u v).reverse (A1z u v).length)) (C₀:=818) ok rfl (by rfl) (A1x (d:=d.withC c.L) (f:=31) (v:= .type "bytes") ok he fg.1 (by decide+kernel) (by decide+kernel) hby (by decide)) hT fun own' vs' R'=> ?_
  ·exact A2i (pos:=pa.p11) (hE.ev fun Ω Ω h=> .s h)
  ·refine R'.consE fun Ω Ω Rv R'=> ?_
   refine R'.nilE ?_
   have hlen:(A1z u v).length=u.cps.size:=by
    show (List.map _ (u.cps.toList.zip v.cps.toList)).length=_
    rw [a1D,List.length_zip,a1X,a1X,←hc3,Nat.min_self]
   rw [List.map_map] at Rv
   have:=A5o ok (m:=M) (C₀:=818) (x:=(A1z u v).reverse) (by rw [a1D,List.length_zip,a1X];exact a0F (Nat.min_le_left ..) (a0F hc4 (by decide))) (A8C _ fun p hp=>⟨inU _ (a2T hp).1,inV _ (a2T hp).2⟩) Rv
   have pa.e2:(List.map (fun p:Nat×Nat=>V.s (SV.int ((16*A4o p.1+A4o p.2:Nat):Int))) (u.cps.toList.zip v.cps.toList)).length=(A1z u v).length:=by
    unfold A1z
    simp only [a1D]
   rw [pa.e2] at this
   exact this
 have all:Ex G 818 c A M0 [(c.L+1,o')] (execs [pa.st2,.Return (some (.Call (.Name "bytes" pa.p4) [.ListComp pa.elt [⟨.Tuple [.Name "a" pa.p5,.Name "b" pa.p6] pa.kk pa.p7,.Call (.Name "zip" pa.zp) [pa.e1,pa.e2] [] pa.p8,[],0⟩] pa.scope pa.p9] [] pa.p10)) pa.p11] c.env) (.ret (.s (.bytes (A1z u v).reverse (A1z u v).length))):=by
  intro s Q E S en q
  refine a0N (ex2 s _ E S (en.less fun z=>Bool.noConfusion z) fun own' m' fl s' S' R=> ?_)
  obtain⟨rfl,hl',hm'⟩:=R
  refine(Ex.one (last m' own' hl')) s' Q E S' en.more fun own'' m'' fl s'' S'' R=> ?_
  obtain⟨v,rfl,hv⟩:=R
  exact q (own''++own') m'' _ s'' S''.asc ⟨v,rfl,by rw [a0C];exact hv⟩
 refine all s' Q E hS' ((en.more (own':= [(c.L+1,o')])).less fun z=>Bool.noConfusion z) fun own' m' fl s'' S'' R''=> ?_
 obtain⟨v,rfl,hv⟩:=R''
 exact q (own'++ [(c.L+1,o')]) m' _ s'' S'' hv
section
open PySem.Builtin
theorem C3j {b:Array UInt8}{p:Nat}{c:UInt8}(h:b[p]?=some c)(hc:c.toNat<128):Bytes.utf8At b p=(.char c.toNat,p+1):=by
 unfold Bytes.utf8At
 have e:b.getD p 0=c:=by rw [Array.getD_eq_getD_getElem?,h];rfl
 dsimp only
 rw [e,if_pos hc]
theorem C0x {id:String}{b:Array UInt8}(h: ∀ c∈b,c.toNat<128)(hs:b.size≤16777216):_codecs.runDecoder id _codecs.utf8Decoder none true b 0 []=pure (b.map (·.toNat),b.size):=by
 unfold _codecs.runDecoder
 dsimp only
 rw [KPc.range_list]
 generalize hf:(fun (x:Nat) (__s:Nat×Array Nat×_codecs.Faults)=>_)=f
 have step: ∀ (x i:Nat) (out:Array Nat) (st:_codecs.Faults) (c:UInt8),b[i]?=some c→i<b.size→out.size≤16777216→f x (i,out,st)=pure (.yield (i+1,out++ [c.toNat].toArray,st)):=by
  intro x i out st c hc hi ho
  subst hf
  dsimp only
  have hcm:c.toNat<128:=h c (Array.mem_of_getElem? hc)
  rw [if_neg (by rw [a1I];lia),if_neg (by lia)]
  have e:_codecs.utf8Decoder.find true b i= .text [c.toNat] (i+1):=by
   unfold _codecs.utf8Decoder
   dsimp only
   rw [C3j hc hcm]
   rfl
  rw [e]
 have go: ∀ (k i:Nat) (out:Array Nat) (st:_codecs.Faults),i+k=b.size→out.size=i→forIn (m:=Sem) (List.range' i k 1) (i,out,st) f=pure (b.size,out++ ((b.toList.drop i).map (·.toNat)).toArray,st):=by
  intro k
  induction k with
  | zero=>
   intro i out st hk ho
   have:b.toList.drop i= []:=List.drop_of_length_le (by rw [a1X];lia)
   rw [this]
   have:i=b.size:=by lia
   subst this
   simp
  | succ k ih=>
   intro i out st hk ho
   have hi:i<b.size:=by lia
   rw [List.range'_succ,List.forIn_cons,step i i out st b[i] (by simp [hi]) hi (by lia),pure_bind]
   dsimp only
   rw [ih (i+1) _ st (by lia) (by simp;lia)]
   have:b.toList.drop i=b[i]::b.toList.drop (i+1):=by rw [List.drop_eq_getElem_cons (by simpa using hi)];simp
   rw [this]
   simp
 rw [go b.size 0 #[] _ (by lia) rfl]
 simp only [pure_bind]
 congr 2
 rw [List.drop_zero]
 apply Array.ext'
 simp
end
section
variable {r:Evs}
theorem B2o {o:Expr}{name:Str}{apos:Pos}{p:Addr}{rest:List Value}{mc:Value}{P:Held→Value→Prop}(ok:c.Ok G A)(hso:A0v o=true)(hp:(apos.endLine==pos.line)=true)(hs:es.all A0g=true)(hl:es.length<30)
  (ho:Ev G C₀ c A m own (eval o env) (.k (.ref C))) (hga:specialIn G.K (.ref C) "__getattribute__" =some (some (.builtin "type.__getattribute__"))) (hm:typeIn G.K (.ref C)=some mc) (hr:readsIn G.K C mc=true)
  (e:findCls G.K (.ref C) mc name=some (.get (.builtin "staticmethod.__get__") (.ref p) .none (.ref C))) (hp':recIn G.K p "staticmethod" =some (.ref f::rest)) (hk:A0L G.K (.ref f)=true)
  (ha: ∀ own',EvL G C₀ c A m (own'++own) (spliced (backTo pos (starEach es env))) rs)
  (hc: ∀ own' vs,Reps G C₀ (vis c (own'++own)) vs rs→EvR G C₀ c A m (own'++own) False (call (.ref f) vs) P):
  EvR G C₀ c A m own False (eval (.Call (.Attribute o name apos) es [] pos) env) P:=by
 intro s Q E S q e'
 rw [arm_eval_Call,A0e hso]
 refine a0A (ho s _ E S fun own' v s' S' R=>a0A (a1R ?_))
 refine R.kE ?_
 rw [show (es.length+ ([]:List Keyword).length)=es.length+0 from rfl,A0j hp hs hl]
 refine a0A (a0R (method_of_cls S'.F ok.X₀ hga (cls_sm S'.F ok.X₀ hm hr e hp' rfl ?_)))
 have S₂:St c m (own'++own) {s' with toks:=s'.toks+1}:=S'.tok _
 refine callWith_of (P:=fun h=>G.K.In h) (by rw [A1D hs];rfl) (A3S hk) (A0k hs (ha own' _ _ E S₂ fun own'' vs s'' S'' R=>⟨S''.X ok,?_⟩))
 have S₃:St c m ((own''++own')++own) s'':=by rw [a0C];exact S''
 exact hc (own''++own') vs (by rw [a0C];exact R) s'' Q E S₃ (fun own₃ v s₃ S₃ p=>q (own₃++ (own''++own')) v s₃ S₃.asc (by rw [a0C];exact p)) fun hr=>hr.elim
theorem A8n {o:Expr}{apos:Pos}{e1 e2:Expr}{x:List UInt8}{k q1:Nat}(ok:c.Ok G A)(hso:A0v o=true)(hp:(apos.endLine==pos.line)=true)(hs1:A0g e1=true)(hs2:A0g e2=true)
  (ho:Ev G C₀ c A m own (eval o env) (.k (.type "int"))) (e:findCls G.K (.type "int") (.type "type") (Str.ofString "from_bytes")=some (.get (.builtin "classmethod_descriptor.__get__") (.builtin "int.from_bytes") .none (.type "int")))
  (ha: ∀ own',EvL G C₀ c A m (own'++own) (spliced (backTo pos (starEach [e1,e2] env))) [.s (.bytes x k),.s (.str "big" q1)]) (hx:x.length≤1000):
  Ev G C₀ c A m own (eval (.Call (.Attribute o "from_bytes" apos) [e1,e2] [] pos) env) (.s (.int (B9r x.reverse))):=by
 intro s Q E S q
 rw [arm_eval_Call,A0e hso]
 refine a0A (ho s _ E S fun own' v s' S' R=>a0A (a1R ?_))
 refine R.kE ?_
 have hs: [e1,e2].all A0g=true:=by simp [hs1,hs2]
 rw [show ([e1,e2].length+ ([]:List Keyword).length)= [e1,e2].length+0 from rfl,A0j hp hs (by simp)]
 refine a0A (a0R (KFB.getm S'.F S'.N ok.X₀ e fun xx h' F' N' lt'=> ?_))
 have S₂:St c m ((xx,KFB.bound)::(own'++own)) {s' with heap:=h',toks:=s'.toks+1}:=⟨F',N',S'.gens,S'.os,S'.dr⟩
 have nst:(backTo pos (starEach [e2] env)).any (·.1)=false:=A1D (by simp [hs2])
 have S₂':St c m (((xx,KFB.bound)::own')++own) {s' with heap:=h',toks:=s'.toks+1}:=S₂
 refine KFB.callWith_bound (news:=(xx,KFB.bound)::(own'++own++c.news)) N' (.head _) (ha ((xx,KFB.bound)::own') _ _ E S₂' fun own'' vs s'' S'' R=> ?_) (A0E hs1) nst
 have st:KFB.StandsAt xx s''.heap:=(S''.N (xx,KFB.bound) (by simp)).1
 refine⟨st,?_⟩
 refine R.consE fun _ _ R1 R=> ?_
 refine R.consE fun _ _ R2 R=> ?_
 refine R.nilE ?_
 have R1:=R1.sI
 have R2:=R2.sI
 refine R1.bytesE fun _ _ _ _=> ?_
 refine R2.strE fun _ _=> ?_
 rename_i b t hb hl u hu
 have hsz:b.size=x.length:=by have:=congrArg List.length hb;simpa using this
 refine KFB.call_of st (fun z=>A8f (by lia) z) ?_
 rw [hb]
 have S₃:St c m ((own''++ ((xx,KFB.bound)::own'))++own) s'':=by rw [a0C];exact S''
 exact q (own''++ ((xx,KFB.bound)::own')) _ _ (S₃.tok _) (.s .int)
end
section
open Builtin
theorem A4I:Slot "bytes" "rstrip" "bytes.rstrip" :=
 .of (owner:= "bytes") (n:= "rstrip") (by rw [typeLookup_type,builtinLookup_eq_fast];kernel_rfl) (by decide+kernel) (by decide+kernel) (by decide+kernel)
  (by first| exact .inl (by decide+kernel)| exact .inr (by decide+kernel)) (by rw [isSubtype_type];kernel_rfl)
theorem A8O:typeOf (.builtin "bytes.rstrip")=pure (.type "method_descriptor"):=by show builtinType _=_;rw [builtinType_eq_fast];kernel_rfl
theorem A8s:entryFor table "bytes.rstrip" =some Builtin.«bytes.rstrip» :=entryFor_of_tree (by kernel_rfl)
theorem A9Y (a b:Value):argsOk "bytes.rstrip" ⟨[a,b],[]⟩:=by unfold argsOk;kernel_rfl
noncomputable def A1g (b:Array UInt8)(set:Array UInt8):List UInt8:=(b.toList.reverse.dropWhile set.contains).reverse
theorem A7R {b:Array UInt8}{set:Array UInt8}{t u:Tok}:Meets («bytes.rstrip» ⟨[.bytes b t,.bytes set u],[]⟩) (fun Ω R s=>(A1g b set).length≤sizeLine∧ ∀ (b':Array UInt8) t' k,b'.toList=A1g b set→R (.ok (.ret (.bytes b' t'))) {s with toks:=k}):=by
 refine .of_wp fun prog w A R s hS=> ?_
 obtain⟨hsz,h⟩:=hS
 unfold Builtin.«bytes.rstrip» Bytes.stripM
 dsimp only
 refine a0A (a0U (a:=(.bytes b t,[.bytes set u])) (by kernel_rfl) ?_)
 show wpAny _ _ (Bytes.bytesLike _ (.bytes set u)>>=fun z=>_) _ _ s
 refine a0A (a0U KBd.like_eq ?_)
 refine a0A (a0I ?_)
 show wpAny _ _ (Bytes.payload (.bytes b t)>>=fun z=>_) _ _ s
 refine a0A (a0U (a:=b) (by rfl) ?_)
 show wpAny _ _ (if ((A1g b set).length==b.size)=true then _ else _) _ _ s
 by_cases hc:((A1g b set).length==b.size)=true
 ·rw [if_pos hc]
  have e:A1g b set=b.toList:=by
   have h1:=a0D hc
   have sub:(b.toList.reverse.dropWhile set.contains)<:+b.toList.reverse:=List.dropWhile_suffix _
   have h2:(b.toList.reverse.dropWhile set.contains).length=b.toList.reverse.length:=by
    unfold A1g at h1
    simpa using h1
   have:=sub.eq_of_length h2
   unfold A1g
   rw [this,a1M]
  refine a0A (wpAny_rule ?_)
  show wpAny _ _ (Bytes.Kind.same .bytes (.bytes b t)>>=fun v=>_) _ _ s
  refine a0A (a0U (a:= .bytes b t) (by rfl) (a0I ⟨_,rfl,?_⟩))
  exact h b t s.toks e.symm
 ·rw [if_neg hc]
  show wpAny _ _ (Bytes.Kind.new .bytes (A1g b set).toArray>>=fun v=>_) _ _ s
  refine a0A ?_
  show wpAny _ _ (mkBytes (A1g b set).toArray) _ _ s
  refine wpAny_mkBytes (a0I ⟨_,rfl,h _ _ _ (by simp)⟩) ?_
  rw [a1N];exact hsz
theorem A9d {w:World}{b set:Array UInt8}{t u:Tok}(hsz:b.size≤16777216)(h: ∀ (b':Array UInt8) t' k,b'.toList=A1g b set→Q (.bytes b' t') {s with toks:=k}):
  wpAny (model prog w) A (call (.builtin "bytes.rstrip") [.bytes b t,.bytes set u]) Q E s:=by
 refine call_meets A4I (typeIs_bytes _ _ _) A8s (A9Y _ _) A7R ⟨?_,h⟩
 rw [a1I]
 have h1:(b.toList.reverse.dropWhile set.contains).length≤b.toList.reverse.length:=(List.dropWhile_suffix _).length_le
 unfold A1g
 rw [a0O]
 have:b.toList.reverse.length=b.size:=by simp
 lia
theorem A6D {M:Model}{b:Array UInt8}{t:Tok}{pl:Sem Bool}{Q:Value×List Value→Shared→Prop}(h:Q (.builtin "bytes.rstrip",[.bytes b t]) s):wpAny M A (getMethod (.bytes b t) "rstrip" pl) Q E s:=by
 with_reducible exact KBd.method_of (.bytes b t) (typeIs_bytes _ _ _) A4I A8O KBd.noRef h
end
noncomputable def A4s (little:Bool)(i k:Nat):V:= .s (.bytes (if little then (B1W k i).reverse else B1W k i) k)
noncomputable def B9k (o:Str):Option Bool:=bif o== "big" then some false else gd (o== "little") (some true)
noncomputable def B9R:Option CFound→Option (Value×Value×Value)
 | some f=>(match f with
  | .get g a i C=>(match i with
   | .none=>some (g,a,C)
   | _=>none)
  | _=>none)
 | none=>none
theorem B0P {o:Option CFound}{q:Value×Value×Value}(h:B9R o=some q):o=some (.get q.1 q.2.1 .none q.2.2):=by
 cases o with
 | none=>exact x0 h
 | some f=>cases f with
  | get g a i C=>cases i with
   | none=>obtain rfl:=a0E h;rfl
   | _=>exact x0 h
  | _=>exact x0 h
noncomputable def A2O:Value→Option String
 | .builtin s=>some s
 | _=>none
theorem A3a {s:String}(h:A2O v=some s):v= .builtin s:=by
 cases v with
 | builtin=>exact congrArg Value.builtin (a0E h)
 | _=>exact x0 h
noncomputable def A9v (T:String):Value→Bool
 | .type s=>s==T
 | _=>false
theorem B0H {T:String}(h:A9v T v=true):v= .type T:=by
 cases v with
 | type=>exact congrArg Value.type (a0D h)
 | _=>exact xf h
noncomputable def A2N (K:Frag)(C:Addr)(nm:Str):Option Addr:=(B9R (findCls K (.ref C) (.type "type") nm)).bind fun q=>(A2O q.1).bind fun g=>(A4K q.2.1).bind fun p=>(A4K q.2.2).bind fun C'=>
 gd (g== "staticmethod.__get__" &&C'==C&&specialIn K (.ref C) "__getattribute__" ==some (some (.builtin "type.__getattribute__"))&&typeIn K (.ref C)==some (.type "type")&&readsIn K C (.type "type"))
  (((recIn K p "staticmethod").bind A9w).bind fun f=>gd (A0L K (.ref f)) (some f))
noncomputable def C2I (K:Frag):Option Unit:=(B9R (findCls K (.type "int") (.type "type") (Str.ofString "from_bytes"))).bind fun q=>(A2O q.1).bind fun g=>(A2O q.2.1).bind fun a=>gd (g== "classmethod_descriptor.__get__" &&a== "int.from_bytes" &&A9v "int" q.2.2) (some ())
noncomputable def hMB (x:List UInt8)(n:Nat)(nm:Str)(rs:List V):Option (Option V):=
 (gd (nm== "decode" &&rs.isEmpty) (some (gd (decide (x≠ [])&&x.all (fun c=>decide (c.toNat<128))&&decide (n≤100000)) (some (.s (.str ⟨(x.reverse.map (·.toNat)).toArray⟩ n)))))).or
 (gd (nm== "rstrip") (((A1m rs).bind A0V).bind fun y=>(A0q y).map fun q=>gd (q.1== [0]&&decide (n≤1000000)) (some (.s (.bytes (x.dropWhile (· ==0)) n)))))
noncomputable def hMI (x:SV)(nm:Str)(rs:List V):Option (Option V):=gd (nm== "to_bytes") ((B5Y x).bind fun q=>(A7E rs).bind fun p=>((A0V p.1).bind A0U).bind fun k=>((A0V p.2).bind A0x).map fun o=>(B9k o.1).bind fun l=>
 gd (decide (0≤k)&&decide (k≤1000)&&decide (0≤q.2.1)&&decide (q.2.2< ((256^k.toNat:Nat):Int))) (some (A4s l q.1.toNat k.toNat)))
set_option backward.match.sparseCases false in
noncomputable def hMK (K:Frag)(r:Evs)(b:Nat)(nm:Str)(rs:List V):Value→Option (Option V)
 | .type T=>gd (nm== "from_bytes") ((A7E rs).bind fun p=>((A0V p.1).bind A0q).bind fun x=>((A0V p.2).bind A0x).map fun o=>gd (T== "int" &&o.1==("big" :Str)&&decide (x.1.length≤1000)) ((C2I K).map fun Ω=> .s (.int (B9r x.1.reverse))))
 | .ref C=>(A2N K C nm).map fun f=>r.C b (.ref f) rs
 | _=>none
noncomputable def hMM (K:Frag)(r:Evs)(b:Nat):V→Str→List V→Option (Option V)
 | .s x,nm,rs=>(orM (A0q x) (fun p=>hMB p.1 p.2 nm rs) (hMI x nm rs))
 | .k v,nm,rs=>hMK K r b nm rs v
 | _,_,_=>none
noncomputable def C6N (r:Evs)(b:Nat)(η:A0w)(v:Expr):Option Expr→Option Expr→Option Expr→Option (Option V)
 | none,some up,none=>(kN up).bind fun k=>(((r.E b η v).bind A0V).bind A0q).bind fun p=>gd (decide (p.2≤100000)) (some (some (.s (.bytes (p.1.reverse.take k).reverse p.2))))
 | some lo,none,none=>(kN lo).bind fun a=>(((r.E b η v).bind A0V).bind A0q).bind fun p=>gd (decide (p.2≤100000)) (some (some (.s (.bytes (p.1.reverse.drop a).reverse p.2))))
 | _,_,_=>none
noncomputable def hBs (r:Evs)(b:Nat)(η:A0w)(e:Expr):Option (Option V):=(C4K e).bind fun x=>C6N r b η x.1 x.2.1 x.2.2.1 x.2.2.2
noncomputable def hkM (K:Frag):Hk:= {Hk.nil with E:=hBs,M:=hMM K}
theorem A8t {b:Array UInt8}{x:List UInt8}(hb:b.toList=x.reverse):A1g b #[0]=(x.dropWhile (· ==0)).reverse:=by
 unfold A1g
 rw [hb,a1M]
 congr 2
 funext c
 show (#[0]:Array UInt8).contains c=(c==0)
 by_cases h:c=0<;>simp [h]
section
variable {r:Evs}
theorem B3B {b:Array UInt8}{x:List UInt8}(hb:b.toList=x.reverse)(k:Nat):(KBy.picked b none (some (k:Int))).toList=(x.reverse.take k).reverse.reverse:=by
 rw [a1M,KBc.picked_eq,←hb]
 show (List.drop 0 b.toList).take (clipAt b.size k - 0)=_
 rw [clipAt_nat,List.drop_zero,Nat.sub_zero]
 have hl:b.toList.length=b.size:=rfl
 by_cases hk:k≤b.size
 ·rw [Nat.min_eq_left hk]
 ·rw [Nat.min_eq_right (Nat.le_of_not_le hk),a2G (by exact a0K _),a2G (by exact Nat.le_of_not_le hk)]
theorem A9g {b:Array UInt8}{x:List UInt8}(hb:b.toList=x.reverse)(a:Nat):(KBy.picked b (some (a:Int)) none).toList=(x.reverse.drop a).reverse.reverse:=by
 rw [a1M,KBc.picked_eq,←hb]
 show (List.drop (clipAt b.size a) b.toList).take (b.size - clipAt b.size a)=_
 rw [clipAt_nat]
 have hl:b.toList.length=b.size:=rfl
 by_cases h:a≤b.size
 ·rw [Nat.min_eq_left h,a2G (by rw [List.length_drop];exact a0K _)]
 ·rw [Nat.min_eq_right (Nat.le_of_not_le h),List.drop_of_length_le (by exact a0K _),List.drop_of_length_le (by exact Nat.le_of_not_le h)]
  simp
theorem B2j {k q2:Nat}{p2 sp:Pos}{x:List UInt8}(h:Ev G C₀ c A m own (eval value env) (.s (.bytes x n)))(hn:n≤100000):
  Ev G C₀ c A m own (eval (.Subscript value (.Slice none (some (.Constant (.int (.ofNat k)) q2 p2)) none sp) pos) env) (.s (.bytes (x.reverse.take k).reverse n)):=by
 intro s Q E S q
 refine Subscript_ (h s _ E S fun own' v s' S' R=> ?_)
 have R:=R.sI
 refine R.bytesE fun _ _ _ _=> ?_
 rename_i b t hb hl
 have hsz:b.size=x.length:=by have:=congrArg List.length hb;simpa using this
 refine wpAny_Slice (evalPart_none_step (evalPart_some_step (a1J (evalPart_none_step ?_))))
 have hT:Shared.TypeIs {s' with heap:=s'.heap.push {cls:= .type "slice",data:= .fields #[.none,.int (.ofNat k) s'.toks,.none]},toks:=s'.toks+1} (.bytes b t) "bytes" :=typeIs_bytes _ _ _
 refine A0b (value:=value) (slice:= .Slice none (some (.Constant (.int (.ofNat k)) q2 p2)) none sp) (T:= "bytes") hT FB.slot_bytes_getitem.lookup
  (getItem_meets hT (by decide) FB.slot_bytes_getitem FB.entry_bytes_getitem (a2X _ _) (KBc.meets_slice2 b t _ .none (.int (k:Int) s'.toks)) ⟨Heap.IsSliceOf.new _ _ _ _,?_,fun t' kk=> ?_⟩) (.inr rfl)
 ·exact a0F (KBc.size_picked_le b _ _) (by rw [hsz];exact a0F hl (a0F hn (by decide)))
 ·refine q own' _ _ ⟨S'.F.push _,S'.N.grown fun _ _ e=>Heap.get?_push_of_some _ e,S'.gens,S'.os,S'.dr⟩ (.s (.bytes (B3B hb k) ?_))
  rw [a0O,List.length_take,a0O]
  exact a0F (Nat.min_le_right ..) hl
theorem A8o {a q2:Nat}{p2 sp:Pos}{x:List UInt8}(h:Ev G C₀ c A m own (eval value env) (.s (.bytes x n)))(hn:n≤100000):
  Ev G C₀ c A m own (eval (.Subscript value (.Slice (some (.Constant (.int (.ofNat a)) q2 p2)) none none sp) pos) env) (.s (.bytes (x.reverse.drop a).reverse n)):=by
 intro s Q E S q
 refine Subscript_ (h s _ E S fun own' v s' S' R=> ?_)
 have R:=R.sI
 refine R.bytesE fun _ _ _ _=> ?_
 rename_i b t hb hl
 have hsz:b.size=x.length:=by have:=congrArg List.length hb;simpa using this
 refine wpAny_Slice (evalPart_some_step (a1J (evalPart_none_step (evalPart_none_step ?_))))
 have hT:Shared.TypeIs {s' with heap:=s'.heap.push {cls:= .type "slice",data:= .fields #[.int (.ofNat a) s'.toks,.none,.none]},toks:=s'.toks+1} (.bytes b t) "bytes" :=typeIs_bytes _ _ _
 refine A0b (value:=value) (slice:= .Slice (some (.Constant (.int (.ofNat a)) q2 p2)) none none sp) (T:= "bytes") hT FB.slot_bytes_getitem.lookup
  (getItem_meets hT (by decide) FB.slot_bytes_getitem FB.entry_bytes_getitem (a2X _ _) (KBc.meets_slice2 b t _ (.int (a:Int) s'.toks) .none) ⟨Heap.IsSliceOf.new _ _ _ _,?_,fun t' kk=> ?_⟩) (.inr rfl)
 ·exact a0F (KBc.size_picked_le b _ _) (by rw [hsz];exact a0F hl (a0F hn (by decide)))
 ·refine q own' _ _ ⟨S'.F.push _,S'.N.grown fun _ _ e=>Heap.get?_push_of_some _ e,S'.gens,S'.os,S'.dr⟩ (.s (.bytes (A9g hb a) ?_))
  rw [a0O,List.length_drop,a0O]
  exact a0F (Nat.sub_le ..) hl
theorem B5W {o:Str}{l:Bool}(ho:B9k o=some l):(o=PySem.Str.ofString "big" ∧l=false)∨(o=PySem.Str.ofString "little" ∧l=true):=
 xb ho (fun h e=> .inl ⟨a0D h,(a0E e).symm⟩) fun Ω e=>x2 e fun h e=> .inr ⟨a0D h,(a0E e).symm⟩
theorem A9H {i k:Nat}{o:Str}{l:Bool}{t u v:Tok}(hk:k≤1000)(hi:i<256^k)(ho:B9k o=some l):EvR G C₀ c A m own False (call (.builtin "int.to_bytes") [.int (i:Int) t,.int (k:Int) u,.str o v]) (fun Z w=>Rep G C₀ Z w (A4s l i k)):=by
 intro s Q E S q _
 have hbind:Builtin.Int.intBindNamed "to_bytes" ["length","byteorder","signed"] 0 2 [.int (k:Int) u,.str o v] []=pure [some (.int (k:Int) u),some (.str o v),none]:=by kernel_rfl
 refine B1q hk hi hbind (B5W ho) fun b t' k' hb=>q [] _ _ (S.tok _) ?_
 unfold A4s
 cases l with
 | true=>exact .s (.bytes (by rw [hb];simp) (by simp [A4V]))
 | false=>exact .s (.bytes (by rw [hb];simp) (by simp [A4V]))
theorem B2s {x:List UInt8}(h1:x≠ [])(h2:x.all (fun c=>decide (c.toNat<128))=true)(h3:n≤100000)(R:SRep v (.bytes x n)):EvR G C₀ c A m own False (call (.builtin "bytes.decode") [v]) (fun Ω w=>SRep w (.str ⟨(x.reverse.map (·.toNat)).toArray⟩ n)):=by
 refine R.bytesE fun b t hb hx s Q E S q Ω=> ?_
 obtain⟨c0,cs,ecs⟩:=List.exists_cons_of_ne_nil (fun e=>h1 (List.reverse_eq_nil_iff.mp e))
 have hsz:b.size=x.length:=(congrArg List.length hb).trans (a0O ..)
 have run:=fun id=>C0x (id:=id) (b:=b) (fun c hm=>a0B (a0J.mp h2 c (List.mem_reverse.mp (hb▸Array.mem_toList_iff.mpr hm)))) (by rw [hsz];exact a0F hx (a0F h3 (by decide)))
 obtain rfl:b=(c0::cs).toArray:=Array.ext' (by rw [hb,ecs])
 have em:((c0::cs).toArray.map (·.toNat))=(x.reverse.map (·.toNat)).toArray:=by rw [ecs];exact List.map_toArray ..
 rw [em] at run
 have hz:(x.reverse.map (·.toNat)).toArray.size=x.length:=by rw [a1N,a1D,a0O]
 exact KBd.decode (x:=⟨(x.reverse.map (·.toNat)).toArray⟩) run (by show (x.reverse.map (·.toNat)).toArray.size≤_;rw [hz];exact a0F hx (a0F h3 (by decide))) fun t' k=>q [] _ _ (S.tok _) (.str (a0F (Nat.le_of_eq hz) hx))
theorem B2q {x y:List UInt8}{k:Nat}{u:Value}(h1:y= [0])(h3:n≤1000000)(R:SRep v (.bytes x n))(R':SRep u (.bytes y k)):EvR G C₀ c A m own False (call (.builtin "bytes.rstrip") [v,u]) (fun Ω w=>SRep w (.bytes (x.dropWhile (· ==0)) n)):=by
 refine R.bytesE fun b t hb hx=>R'.bytesE fun b2 t2 hb2 hx2 s Q E S q Ω=> ?_
 obtain rfl:b2= #[0]:=Array.ext' (by rw [hb2,h1];rfl)
 have hsz:b.size=x.length:=(congrArg List.length hb).trans (a0O ..)
 exact A9d (by rw [hsz];exact a0F hx (a0F h3 (by decide))) fun b' t' k hb'=>q [] _ _ (S.tok _) (.bytes (by rw [hb',A8t hb]) (a0F (List.dropWhile_suffix _).length_le hx))
theorem C2v:HkOk G C₀ (hkM G.K):= {HkOk.nil with
 E:=fun {r b η e v} X h {c A m own env} ok room hg hn=>by
  refine x3 h fun x hx h=>C2M hx fun sp pos=> ?_
  obtain⟨w,lo,up,st⟩:=x
  cases st with
  | some=>cases lo<;>cases up<;>exact x0 h
  | none=>cases lo with
   | none=>cases up with
    | none=>exact x0 h
    | some up=>exact x3 h fun k hk h=>x3 h fun p hp h=>x2 h fun hc h=>x1 (a0E h) (kNE hk fun Ω Ω=>B2j (X.E (A0i (A0J hp)) ok room hg hn) (a0B hc))
   | some lo=>cases up with
    | none=>exact x3 h fun k hk h=>x3 h fun p hp h=>x2 h fun hc h=>x1 (a0E h) (kNE hk fun Ω Ω=>A8o (X.E (A0i (A0J hp)) ok room hg hn) (a0B hc))
    | some=>exact x0 h
 M:=fun {r b o nm rs v} X h {c A m own env oe apos args pos} ok room hs hp hst hl hlen ho ha=>by
  cases o with
  | s y=>
   refine xm h (fun p hy h=> ?_) fun Ω h=>x2 h fun hnm h=>x3 h fun q hq h=>x3 h fun p hp2 h=>x3 h fun k hk h=>x4e h fun o ho2 h=>x3 h.symm fun l hord h=>x2 h fun hc h=>x7 hc fun c0 c1 c2 c3=>x1 h ?_
   ·have ho:=A1B (motive:=fun y=>Ev G C₀ c A m own (eval oe env) (.s y)→Ev G C₀ c A m own (eval oe env) (.s (.bytes p.1 p.2))) hy id ho
    refine xo h (fun h=>x2 h fun hn h=>x5 hn fun hnm h0=>x2 (a0E h) fun hc h=>x6 hc fun c1 c2 c3=>x1 h ?_) fun h=>x2 h fun hnm h=>x3 h fun z hz h=>x4e h fun q hq h=>x2 h.symm fun hc h=>x5 hc fun c1 c2=>x1 h ?_
    ·rw [a0D hnm]
     refine(A1G (id:= "bytes.decode") (P:=fun Ω w=>SRep w (.str ⟨(p.1.reverse.map (·.toNat)).toArray⟩ p.2)) ok hs hp hst hl ho (fun v s pl Q E hv q=>by obtain⟨_,_,rfl,_⟩:=hv.bytesI;with_reducible exact KBd.method q) ha fun own' v vs hv R=> ?_).ev fun Ω Ω p=> .s p
     exact(A0O (motive:=fun rs=>Reps G C₀ _ vs rs→Reps G C₀ _ vs []) h0 id R).nilE (B2s (a0B c1) c2 (a0B c3) hv)
    ·rw [a0D hnm]
     refine(A1G (id:= "bytes.rstrip") (P:=fun Ω w=>SRep w (.bytes (p.1.dropWhile (· ==0)) p.2)) ok hs hp hst hl ho (fun v s pl Q E hv q=>by obtain⟨_,_,rfl,_⟩:=hv.bytesI;exact A6D q) ha fun own' v vs hv R=> ?_).ev fun Ω Ω p=> .s p
     exact R.s1 hz fun u Ru=>B2q (a0D c1) (a0B c2) hv (A1B (motive:=fun y=>SRep u y→SRep u (.bytes q.1 q.2)) hq id Ru)
   ·rw [a0D hnm]
    refine(A1G (id:= "int.to_bytes") (P:=fun Z w=>Rep G C₀ Z w (A4s l q.1.toNat k.toNat)) ok hs hp hst hl ho (fun v s pl Q E hv f=>by obtain⟨t,rfl,_⟩:=A2p hq hv;with_reducible exact KTBy.method f) ha fun own' v vs hv R=> ?_).evF
    obtain⟨t,rfl,h1,h2⟩:=A2p hq hv
    have c0:=a0B c0
    have c1:=a0B c1
    have hi:q.1.toNat<256^k.toNat:=(Int.toNat_lt (a1E (a0B c2) h1)).mpr (a2U h2 (a0B c3))
    have e1:q.1=(q.1.toNat:Int):=(Int.toNat_of_nonneg (a1E (a0B c2) h1)).symm
    have e2:k=(k.toNat:Int):=(Int.toNat_of_nonneg c0).symm
    refine R.twoE hp2 fun w u Rw Ru=>(Rw.ofInt hk).intE fun Ω=> ?_
    refine x3 ho2 fun z hz ho2=>(A0F (motive:=fun y=>SRep u y→SRep u (.str o.1 o.2)) ho2 id (Ru.ofS hz)).strE fun Ω Ω=> ?_
    rw [e1,e2]
    exact A9H (Int.toNat_le.mpr (a1E c1 (by decide))) hi hord
  | k u=>cases u with
   | type T=>
    refine x2 h fun hnm h=>x3 h fun p hp2 h=>x3 h fun x hx h=>x4e h fun o ho2 h=>x2 h.symm fun hc h=>x4e h fun Ω hf h=>x6 hc fun c1 c2 c3=> ?_
    rw [a0D hnm,h]
    rw [a0D c1] at ho
    have hrs:rs= [.s (.bytes x.1 x.2),.s (.str "big" o.2)]:=by
     refine A3Q (motive:=fun rs=>rs=_) hp2 ?_
     rw [a0E (A0i (o:=some p.1) (A0J hx)),a0E (A0i (o:=some p.2) (A2d ho2)),a0D c2]
    rw [hrs] at ha hlen
    obtain⟨e1,e2,rfl⟩: ∃ e1 e2,args= [e1,e2]:=match args,hlen with| [e1,e2],_=>⟨e1,e2,rfl⟩
    refine x5 hst fun k1 k2=>x5 k2 fun k2 Ω=>A8n ok hs hp k1 k2 ho ?_ ha (a0B c3)
    exact x3 hf fun q hq hf=>x3 hf fun g hg hf=>x3 hf fun a ha hf=>x2 hf fun hc Ω=>x6 hc fun d1 d2 d3=>by rw [B0P hq,A3a hg,A3a ha,B0H d3,a0D d1,a0D d2]
   | ref C=>
    refine x4e h fun f hf h=>x3 hf fun q hq hf=>x3 hf fun g hg hf=>x3 hf fun p hp2 hf=>x3 hf fun C' hC hf=>x2 hf fun hc hf=>x8 hc fun c1 c2 c3 c4 c5=>x3 hf fun f' hf' hf=>x2 hf fun hk hf=> ?_
    obtain rfl:=a0E hf
    obtain⟨rest,hrec⟩: ∃ rest,recIn G.K p "staticmethod" =some (.ref f'::rest):=x3 hf' fun l hl h=>B0N (motive:=fun l=>recIn G.K p "staticmethod" =some l→ ∃ rest,recIn G.K p "staticmethod" =some (.ref f'::rest)) h (fun rest e=>⟨rest,e⟩) hl
    exact(B2o ok hs hp hst hl ho (a0D c3) (a0D c4) c5 (by rw [B0P hq,A3a hg,A3P hp2,A3P hC,a0D c1,a0D c2]) hrec hk ha fun own' vs R=>X.C h.symm ok room R).evF
   | _=>exact x0 h
  | _=>exact x0 h}
end
theorem B3G:typeLookup (.type "bytes") (dunderI "add")=pure none:=by rw [typeLookup_type,builtinLookup_eq_fast];kernel_rfl
theorem B2c {w:World}{b c:Array UInt8}{t u:Tok}(hsz:b.size+c.size≤16777216)(h: ∀ t' k,Q (.bytes (b++c) t') {s with toks:=k}):
  wpAny (model prog w) A (inplaceOp .Add (.bytes b t) (.bytes c u)) Q E s:=by
 refine iconcat_gives (typeIs_bytes s b t) (typeIs_bytes s c u) B3G KBy.noFill_bytes_add KBy.seq_bytes_add FB.slot_bytes_add FB.entry_bytes_add (FB.args_bytes_add_2 _ _) (KBy.gives_bytes_add (KBy.tooLong_not hsz)) ?_
 by_cases hb:b.isEmpty=true
 ·rw [if_pos hb]
  have e:b= #[]:=Array.isEmpty_iff.1 hb
  have h':=h u s.toks
  rw [e,Array.empty_append] at h'
  exact h'
 ·rw [if_neg hb]
  by_cases hc:c.isEmpty=true
  ·rw [if_pos hc]
   have e:c= #[]:=Array.isEmpty_iff.1 hc
   have h':=h t s.toks
   rw [e,Array.append_empty] at h'
   exact h'
  ·rw [if_neg hc]
   exact⟨by rw [Array.size_append,a1I];exact hsz,h s.toks (s.toks+1)⟩
noncomputable def C7a (K:Frag)(r:Evs)(b:Nat)(d:Fd)(ρ:Loc)(test:Expr)(q:Str×Expr)(p:List UInt8×Nat):Option SRes:=(r.T b (nmF K d ρ) test).bind fun t=>(((r.E b (nmF K d ρ) q.2).bind A0V).bind A0q).bind fun v=>
 gd (locals d q.1&&decide (p.2+v.2≤16777216)) (some (.nxt [q.1] ((q.1,.s (.bytes (bif t then v.1++p.1 else p.1) (p.2+v.2)))::ρ)))
noncomputable def C6O (K:Frag)(r:Evs)(b:Nat)(d:Fd)(ρ:Loc):Stmt→Option (Option SRes)
 | .If test body orelse _=>gd orelse.isEmpty ((A1m body).bind fun st=>(B5F st).bind fun q=>(((ρ.lookup q.1).bind A0V).bind A0q).map (C7a K r b d ρ test q))
 | _=>none
noncomputable def hkA (K:Frag):Hk:= {Hk.nil with S:=C6O K}
section
theorem A9B {p':Pos}{a v:List UInt8}{k:Nat}(ok:c.Ok G A)(he:c.env=d.env f c.L)(hk:d.scope.names.lookup x=some .local)(hl:Locs G C₀ (vis c own) m ρ)(hx:ρ.lookup x=some (.s (.bytes a n)))
  (h:Ev G C₀ c A m own (eval value c.env) (.s (.bytes v k))) (hnk:n+k≤16777216):Ex G C₀ c A m own (exec (.AugAssign (.Name x p') .Add value pos) c.env) (.nxt [x] ((x,.s (.bytes (v++a) (n+k)))::ρ)):=by
 intro s Q E S e q
 obtain⟨va,hv,R⟩:=hl x _ hx
 refine R.sE fun _=> ?_
 rename_i ha
 have hkind:=ok.kind
 refine wpAny_AugAssign_Name (wpAny_loadName_local hkind (by rw [he];exact hk) ?_ hv (h s _ E S fun own' vb s' S' R'=> ?_))
 ·rw [he];exact S.F.ns
 ·refine R'.sE fun _=> ?_
  rename_i hb
  refine ha.bytesE fun _ _ _ _=> ?_
  refine hb.bytesE fun _ _ _ _=> ?_
  rename_i ba ta hba hla bb tb hbb hlb
  have s1:ba.size=a.length:=by have:=congrArg List.length hba;simpa using this
  have s2:bb.size=v.length:=by have:=congrArg List.length hbb;simpa using this
  refine B2c (by lia) fun t' kk=>A0o ok he hk (S'.tok kk) fun s'' S''=>q own' _ _ s'' S'' ⟨rfl,(hl.mono A0a).set (.s (.bytes ?_ ?_)),A2c⟩
  ·rw [Array.toList_append,hba,hbb,a2I]
  ·rw [a1K];lia
theorem C2A:HkOk G C₀ (hkA G.K):= {HkOk.nil with
 S:=fun {r b d ρ st res} X h {f c A m own} ok room he hl=>by
  cases st with
  | If test body orelse pos=>
   refine x2 h fun ho h=>x3 h fun st hst h=>x3 h fun q hq h=>x4e h fun p hp h=>x3 h.symm fun t ht h=>x3 h fun v hv h=>x2 h fun hc h=>x5 hc fun c1 c2=>x1 h (A0O ho (A1b hst (B3m hq fun p1 p2=> ?_)))
   have hx:=A0i (A0J hp)
   have hn:NamesOk G C₀ c A m own c.env (nmF G.K d ρ):=A0f ok he hl
   refine A3B (X.T ht ok room (A0n he) hn) fun own'=> ?_
   cases t with
   | true=>exact Ex.one (A9B ok he (a0D c1) (hl.mono A0a) hx (X.E (A0i (A0J hv)) ok room (A0n he) (hn.more own')) (a0B c2))
   | false=>exact(A2h (hl.mono A0a)).weak id fun own'' m' fl R=>⟨R.1,R.2.1.put hx fun u h2=>h2.sI.bytesE fun Ω Ω h3 h4=> .s (.bytes h3 (a0F h4 (a2H _ _))),fun u Ω=>R.2.2 u fun q=>nomatch q⟩
  | _=>exact x0 h}
end
noncomputable def C4z:CmpOp→Bool
 | .Eq=>true
 | _=>false
set_option backward.match.sparseCases false in
noncomputable def hEq (r:Evs)(b:Nat)(η:A0w):Expr→Option (Option Bool)
 | .Compare l ops es _=>(B4E l).bind fun Ω=>(A1m ops).bind fun op=>(A1m es).bind fun e=>gd (C4z op) ((A2R e).bind fun j=>(((r.E b η l).bind A0V).bind A6C).map fun q=>gd (decide (q.2.2<j)|| decide (j<q.2.1)) (some false))
 | _=>none
noncomputable def hkE:Hk:= {Hk.nil with T:=hEq}
section
theorem C0j {l:Expr}{i lo hi j:Int}{q:Nat}{cp:Pos}{whole:Sem Value}(hl:Ev G C₀ c A m own (eval l env) (.s (.bint i lo hi)))(h:hi<j∨j<lo):EvT G c A m own (isTrue (.Compare l [.Eq] [.Constant (.int j) q cp] pos) env whole) false:=by
 intro s Q E S k
 refine wpAny_isTrue_Compare1 (hl s _ E S fun own' va s' S' R=>a1J ?_) (by rfl)
 refine R.sE fun _=> ?_
 rename_i hb
 refine hb.bintE fun _ _ _=> ?_
 rename_i t h1 h2
 refine PyProof.Rows.eq_int (a2C ?_)
 have:(i==j)=false:=by
  refine a1L.mpr fun e=> ?_
  subst e
  exact h.elim (fun h=>a2N.mpr h2 h) fun h=>a2N.mpr h1 h
 rw [this]
 exact k own' _ (S'.tok _)
theorem C2z:HkOk G C₀ hkE:= {HkOk.nil with
 T:=fun {r b η e t} X h {c A m own env} ok room hg hn=>by
  cases e with
  | Compare=>
   refine x3 h fun Ω Ω h=>x3 h fun op h1 h=>x3 h fun e h2 h=>x2 h fun ho h=>x3 h fun j hj h=>x4e h fun q hq h=>x2 h.symm fun hc h=>x1 h (A1b h1 (A1b h2 (A3E hj fun k p=> ?_)))
   cases op with
   | Eq=>exact C0j (X.E (A0i (x3 hq fun Ω e h=>e.trans (congrArg some (A6B h rfl)))) ok room hg hn) ((Bool.or_eq_true_iff.mp hc).imp a0B a0B)
   | _=>exact xf ho
  | _=>exact x0 h}
end
noncomputable def uhAll:List (Nat×Nat×Nat):= [(52,49,20),(52,50,20),(52,51,20),(53,49,32),(53,50,32),(53,51,32),(54,49,20),(54,50,20),(54,51,20),
 (52,55,20),(52,56,20),(52,57,20),(53,55,32),(53,56,32),(53,57,32),(54,55,20),(54,56,20),(54,57,20)]
noncomputable def B0d (a b k:Nat):Str:=Txt.mul ⟨#[a,b]⟩ k
noncomputable def B5p (a k:Nat):Str:=Txt.mul ⟨#[a]⟩ k
noncomputable def B7G (x:Str):Option (Nat×Nat×Nat):=uhAll.find? fun p=>x==B0d p.1 p.2.1 p.2.2
theorem A8N {p:Nat×Nat×Nat}(h:B7G x=some p):p∈uhAll∧x=B0d p.1 p.2.1 p.2.2:=⟨List.mem_of_find?_eq_some h,a0D (List.find?_some (p:=fun p:Nat×Nat×Nat=>x==B0d p.1 p.2.1 p.2.2) h)⟩
noncomputable def spH:Sp:=fun f rs=>bif f==26 then ((A1m rs).bind A0V).bind fun y=>(A0q y).bind fun q=>gd (decide (q.1.length≤400)) (some (5,.ret (.s (.bytes (B8j q.1.reverse).reverse (2*q.1.length)))))
 else gd (f==31) (((A1m rs).bind A0V).bind fun y=>(A0x y).bind fun q=>(B7G q.1).map fun p=>(5,.ret (.s (.bytes (A1z (B5p p.1 p.2.2) (B5p p.2.1 p.2.2)).reverse (A1z (B5p p.1 p.2.2) (B5p p.2.1 p.2.2)).length))))
noncomputable def uhE (P:Params)(L:Addr)(n:Nat)(e:Expr)(p:Nat×Nat×Nat):Option V:=(r2 P).E 3 (nmF (KF P) ((A0c P 31).withC L) [("text",.s (.str (B0d p.1 p.2.1 p.2.2) n)),("text",.s (.str (B0d p.1 p.2.1 p.2.2) n))]) e
theorem C0S (P:Params)(L:Addr)(n:Nat):(uhAll.map fun p=>(uhE P L n (uh P).e1 p,uhE P L n (uh P).e2 p))=uhAll.map fun p=>(some (V.s (.str (B5p p.1 p.2.2) p.2.2)),some (V.s (.str (B5p p.2.1 p.2.2) p.2.2))):=by kernel_rfl
theorem C0Q:(uhAll.all fun p=>C3K (B5p p.1 p.2.2) (B5p p.2.1 p.2.2))=true:=by decide+kernel
theorem B0k (g:GOk G):C0L G 818 spH:=by
 intro f rs n res h Z vs R
 have one: ∀ {y:SV},(A1m rs).bind A0V=some y→Reps G 818 Z vs [.s y]:=fun e=>x3 e fun a h1 h2=>A1b (motive:=fun l=>Reps G 818 Z vs l→Reps G 818 Z vs [V.s _]) h1 (A6A (motive:=fun a=>Reps G 818 Z vs [a]→Reps G 818 Z vs [V.s _]) h2 id) R
 refine xb h (fun e h=>xs e (x3 h fun y hy h=>x3 h fun q hq h=>x2 h fun hl h=> ?_)) fun Ω h=>x2 h fun e h=>xs e (x3 h fun y hy h=>x3 h fun q hq h=>x4e h fun p hp h=> ?_)
 ·cases h
  have e:y=_:=A1B (motive:=fun y=>y=SV.bytes q.1 q.2) hq rfl
  exact(A6T g (a0B hl) (e▸one hy)).mono (a0K _) Held.le.rfl (fun H w p=>p) fun x=>x.elim
 ·cases h
  obtain⟨hm,ex⟩:=A8N hp
  have e:y=SV.str (B0d p.1 p.2.1 p.2.2) q.2:=A0F (motive:=fun y=>y=SV.str (B0d p.1 p.2.1 p.2.2) q.2) hq (by rw [ex])
  have a:=fun L=>Prod.mk.inj (a0Y.mp (C0S G.w.params L q.2) p hm)
  exact(A4D g (n:=q.2) (nu:=p.2.2) (nv:=p.2.2) ⟨fun L=>(a L).1,fun L=>(a L).2⟩ (a0J.mp C0Q p hm) (e▸one hy)).mono (a0K _) Held.le.rfl (fun H w p=>p) fun x=>x.elim
noncomputable def hkX (K:Frag):Hk:=(((((hkD K).or B9O).or B9P).or (hkM K)).or (hkA K)).or hkE
theorem B8i:HkOk G 818 (hkX G.K):=((((hkD_ok.or A6S).or B0M).or C2v).or C2A).or C2z
noncomputable def r3 (P:Params):Evs:=evs (KF P) fl 818 spH (hkX (KF P)) 60
theorem GOk.r3 (h:GOk G):Snd G 818 (r3 G.w.params):=by
 have:=A0B (C₀:=818) h.gx (B0k h) (B8i (G:=G)) 60
 rw [h.K] at this
 exact this
theorem B2w {r:Evs}(X:Snd G 818 r){args:Args}{binds:List (Str×Value)}(s1:A2V G.K f=some d)(s2:A0H G.K f d=true)
  (hbind: ∀ s,G.K.In s.heap→BindsTo s d.data args binds) (hloc: ∀ y∈binds,d.scope.names.lookup y.1=some .local) (hR:Locs G 818 Z (fun y=>binds.reverse.lookup y) ρ) (h:r.S n d ρ d.body=some res):
  Calls G 818 (n+1) Z f args (fun H w=>FinRep G 818 H w res) (res.bad=true):=by
 refine A3J (binds:=binds) s1 s2 hbind hloc (fun H H' v k p=>p.mono k) ?_
 intro c A s Q E ok he room S le q en
 refine X.S h ok room he (hR.mono le) s Q E S en fun own' m' fl s' S' R=> ?_
 rw [a1H] at S' R
 exact q own' m' fl s' S' R.fin
theorem B5x (P:Params):A2V (KF P) 1088=some (A0c P 1088)∧A0H (KF P) 1088 (A0c P 1088)=true∧(A0c P 1088).scope.names.lookup ("self" :Str)=some .local∧(A0c P 1088).scope.names.lookup ("version" :Str)=some .local:=by and_intros<;>kernel_rfl
theorem B8A (P:Params)(v:Value)(S:Setting):peek (KF P) S (bindArgs (A0c P 1088).data ⟨[v],[]⟩)=some [(("self" :Str),v),("version",.none)]:=by kernel_rfl
noncomputable def sg1 (K:Frag)(S:Setting)(d:Fd)(args:Args):Addr→Sem (List (Str×Value)):=match peekA K S (bindArgs d.data args) with
 | some (_,g)=>g
 | none=>fun Ω=>pure []
noncomputable def sg2 (K:Frag)(S:Setting)(d:Fd)(args:Args)(C:Addr):Addr→Sem (List (Str×Value)):=match peekA K S (sg1 K S d args C) with
 | some (_,g)=>g
 | none=>fun Ω=>pure []
structure StarAt (K:Frag)(d:Fd)(args:Args)(vs:List Value)(ex front:List (Str×Value))(nr nm:Str):Prop where
 hv:args.pos.drop (d.params.posonlyargs.length+d.params.args.length)=vs
 hx:args.kw.filter (fun x=> !ownKw d.params x.1)=ex
 hnr:d.params.vararg.map (·.arg)=some nr
 hnm:d.params.kwarg.map (·.arg)=some nm
 hn:kwDistinct ex=true
 hfr: ∀ S,peek K S (bindArgs (fnCut d.data) (argsCut d.params args))=some front
 hp: ∀ S,peekA K S (bindArgs d.data args)=some (({cls:= .type "tuple",data:= .seq vs.toArray}:Obj),sg1 K S d args)
 hp2: ∀ S D,peekA K S (sg1 K S d args D)=some (dictOf [] 0,sg2 K S d args D)
 hk2: ∀ S C D,sg2 K S d args C D=(forIn ex PUnit.unit (fun x Ω=>(nsSet D x.1 x.2>>=fun Ω=>pure (ForInStep.yield PUnit.unit)))>>=fun Ω=>pure (front++ [(nr,Value.ref C)]++ [(nm,Value.ref D)]))
theorem B9y (P:Params)(v:Value):StarAt (KF P) (A0c P 1107) ⟨[v],[]⟩ [] [] [("self",v)] "args" "kwargs" :=
 by constructor<;>intros<;>kernel_rfl
theorem B6n (P:Params)(v a t:Value):StarAt (KF P) (A0c P 1258) ⟨[v,a],[("taproot",t)]⟩ [a] [("taproot",t)] [("self",v)] "args" "kwargs" :=
 by constructor<;>intros<;>kernel_rfl
theorem B6m (P:Params)(v a b t:Value):StarAt (KF P) (A0c P 1258) ⟨[v,a,b],[("taproot",t)]⟩ [a,b] [("taproot",t)] [("self",v)] "args" "kwargs" :=
 by constructor<;>intros<;>kernel_rfl
theorem B6l (P:Params)(v a b c t:Value):StarAt (KF P) (A0c P 1258) ⟨[v,a,b,c],[("taproot",t)]⟩ [a,b,c] [("taproot",t)] [("self",v)] "args" "kwargs" :=
 by constructor<;>intros<;>kernel_rfl
theorem B6k (P:Params)(v a b c d t:Value):StarAt (KF P) (A0c P 1258) ⟨[v,a,b,c,d],[("taproot",t)]⟩ [a,b,c,d] [("taproot",t)] [("self",v)] "args" "kwargs" :=
 by constructor<;>intros<;>kernel_rfl
theorem B6o (P:Params)(v a:Value):StarAt (KF P) (A0c P 1258) ⟨[v,a],[]⟩ [a] [] [("self",v)] "args" "kwargs" :=
 by constructor<;>intros<;>kernel_rfl
theorem B0R {K:Frag}(e:A2V K f=some d)(q:A0H K f d=true): ∃ oc od sl,K.lookup f=some ⟨oc,od,.func d.data,sl⟩∧codeIn K d.cdv d.qual=true∧(∀ x∈d.scope.names,x.2≠ .cell)∧
  d.scope.isCoroutine=false∧d.scope.isGenerator=false∧d.scope.kind= .function:=by
 obtain⟨oc,od,sl,h,w⟩:=A3z e q
 exact x8 w fun a b c d e=>⟨oc,od,sl,h,a,fun x hx=>bne_iff_ne.mp (a0J.mp b x hx),xn c,xn d,a0D e⟩
theorem B2v {r:Evs}(X:Snd G 818 r){args:Args}{ex front:List (Str×Value)}{nr nm:Str}{DD:List (PyData×PyData)}(s1:A2V G.K f=some d)(s2:A0H G.K f d=true)
  (sa:StarAt G.K d args vs ex front nr nm) (hD:FlatPairs PyData.str ex DD) (hloc: ∀ C D,∀ y∈front++ [(nr,Value.ref C)]++ [(nm,Value.ref D)],d.scope.names.lookup y.1=some .local)
  (hR: ∀ C D,Locs G 818 Z (fun y=>(front++ [(nr,Value.ref C)]++ [(nm,Value.ref D)]).reverse.lookup y) ρ) (h:r.S n d ρ d.body=some res):
  Calls G 818 (n+1) Z f args (fun H w=>FinRep G 818 H w res) (res.bad=true):=by
 intro c A m own s R ok room S le k er
 obtain⟨oc,od,sl,hlk,hcd,hce,h2,h3,h4⟩:=B0R s1 s2
 obtain⟨A₀,B⟩:=ok.below
 refine kpc_both (prog:=G.prog) (w:=G.w) (oc:=oc) (od:=od) (osl:=sl) B S.F ok.X₀ S.N ok.T₀ ok.frames ok.frame ok.kind hlk hcd room.depth sa.hv sa.hx sa.hnr sa.hnm sa.hn hD (sa.hfr _) (sa.hp _) (sa.hp2 _) (sa.hk2 _) hloc (fun C D o g L' h₁ tk hC hCD hDm ho hDD FG F' N' B' Xg Tg=> ?_) h2 h3 h4 hce
 have st:c.h₀.StaysIn g:=fun b o e=>FG.keep b o e
 let tup:Obj:= {cls:= .type "tuple",data:= .seq vs.toArray}
 let c':Fc:=⟨c.base,c.env::c.outer,g,L',d.env f L',[(D,o),(C,tup)]++ (own++c.news),vis c own,c.os,c.dr⟩
 have S':St c' (fun y=>(front++ [(nr,Value.ref C)]++ [(nm,Value.ref D)]).reverse.lookup y) [] {s with heap:=h₁,toks:=tk}:=⟨F',N',S.gens,S.os,S.dr⟩
 have ok':c'.Ok G (A.deeper (d.env f L')):=⟨⟨_,B'⟩,a2M B'.stack,rfl,h4,ok.free,ok.XB,ok.TB,(ok.vis_held.trans (A1f st)).trans A8d⟩
 refine X.S h ok' (room.deeper (a1A n)) rfl ((hR C D).mono (le.trans fun Ω Ω=> .inl)) _ _ _ S' ⟨fun hr h m' own' e vs s' hx F N hg hos hdr=> ?_,fun hr m' own' e s' x=> ?_,PassesOwn.leaving⟩ fun own' m' fl s' S₂ R'=> ?_
 ·exact A1R rfl B' hx F N (fun h' t R U=>er _ _ hr ⟨e,t,vs,g,own'++ []++ [(D,o),(C,tup)],rfl,FG,U,by rw [a0C (own'++ [])];exact R,hg,hos,hdr⟩) h4
 ·obtain⟨a,t,vs,G',own'',rfl,FG',U,R,hg,hos,hdr⟩:=x
  refine A3x rfl B' FG' (by rw [←a0C] at R;exact R) U (fun h' R U=>er _ _ hr ⟨a,t,vs,g,own''++ (own'++ [])++ [(D,o),(C,tup)],rfl,FG,U,by rw [a0C (own''++ (own'++ []))];exact R,hg,hos,hdr⟩)
 ·rw [a1H] at S₂ R'
  refine leaveK_ S₂.F S₂.N fun F₃ N₃=>k (own'++ [(D,o),(C,tup)]) _ s' ⟨F₃,by rw [a0C,a0C];exact N₃,S₂.gens,S₂.os,S₂.dr⟩ ?_
  refine FinRep.mono (fun a o h=> ?_) R'.fin
  rcases h with z| z
  ·exact A0a a o z
  ·exact .inr (a0H _ (a0H _ z))
structure MiP where
 p1:Pos
 p2:Pos
 p3:Pos
 p4:Pos
 p5:Pos
 p6:Pos
 p7:Pos
 p8:Pos
 q1:Nat
 p9:Pos
 q2:Nat
 p10:Pos
 p11:Pos
 p12:Pos
noncomputable def MiP.body (a:MiP):List Stmt:= [.Assign [.Attribute (.Name "self" a.p1) "args" a.p2] (.Name "args" a.p3) a.p4,
 .Assign [.Attribute (.Name "self" a.p5) "taproot" a.p6] (.Call (.Attribute (.Name "kwargs" a.p7) "get" a.p8) [.Constant (.str "taproot") a.q1 a.p9,.Constant (.bool false) a.q2 a.p10] [] a.p11) a.p12]
noncomputable def C6r (b:List Stmt):MiP:=match b with
 | [.Assign [.Attribute (.Name _ p1) _ p2] (.Name _ p3) p4,.Assign [.Attribute (.Name _ p5) _ p6] (.Call (.Attribute (.Name _ p7) _ p8) [.Constant (.str _) q1 p9,.Constant (.bool _) q2 p10] [] p11) p12]=>⟨p1,p2,p3,p4,p5,p6,p7,p8,q1,p9,q2,p10,p11,p12⟩
 | _=>⟨default,default,default,default,default,default,default,default,0,default,0,default,default,default⟩
noncomputable def mi (P:Params):MiP:=C6r (A0c P 1258).body
theorem B6p (P:Params):A2V (KF P) 1258=some (A0c P 1258)∧A0H (KF P) 1258 (A0c P 1258)=true∧isFn (KF P) (.ref 1258)=true∧
 (A0c P 1258).scope.names.lookup ("self" :Str)=some .local∧(A0c P 1258).scope.names.lookup ("args" :Str)=some .local∧(A0c P 1258).scope.names.lookup ("kwargs" :Str)=some .local∧
 (A0c P 1258).body=(mi P).body:=by and_intros<;>kernel_rfl
theorem B6q (P:Params):((mi P).p8.endLine==(mi P).p11.line)=true:=by kernel_rfl
section
theorem A7T {kw ex:List (Str×Value)}{DD:List (PyData×PyData)}{tap:Bool}(g:GOk G)(ok:c.Ok G A)(room:Room A (b+2))(hm:makesIn G.K C=true)(hi:findIn G.K (.ref C) "__init__" =some (some (.ref 1258)))
  (hs1:A2A G.K C "args" =true) (hs2:A2A G.K C "taproot" =true) (sa: ∀ x:Addr,StarAt G.K (A0c G.w.params 1258) ⟨.ref x::vs,kw⟩ vs ex [("self",.ref x)] "args" "kwargs") (hD:FlatPairs PyData.str ex DD) (hl:(lookup (.str "taproot") DD).getD (.bool false)= .bool tap)
  (R:Reps G 818 (vis c own) vs rs):EvR G 818 c A m own False (call (.ref C) vs kw) (fun Z v=>Rep G 818 Z v (.inst C [("args",.tup rs),("taproot",.s (.bool tap))])):=by
 intro s Q E S k _
 obtain⟨s1,s2,s3,s4,s5,s6,s7⟩:=B6p G.w.params
 have f10:=B6q G.w.params
 rw [←g.K] at s1 s2 s3
 generalize mi G.w.params=pa at*
 generalize A0c G.w.params 1258=d at*
 refine call_cls S.F ok.X₀ S.N hm hi s3 fun x dx h' F N hlt hx=> ?_
 have ok':c.Ok G (A.under (.builtin "type.__call__" ⟨.ref C::vs,kw⟩)):=ok.under A7U
 obtain⟨oc,od,sl,hlk,hcd,hce,h2,h3,h4⟩:=B0R s1 s2
 obtain⟨A₀,B⟩:=ok'.below
 have room':Room (A.under (.builtin "type.__call__" ⟨.ref C::vs,kw⟩)) (b+1):=room.making (a1A _)
 have sx:=sa x
 refine kpc_both (prog:=G.prog) (w:=G.w) (oc:=oc) (od:=od) (osl:=sl) (s:= {s with heap:=h'}) B F ok.X₀ N ok.T₀ ok'.frames ok'.frame ok'.kind hlk hcd room'.depth sx.hv sx.hx sx.hnr sx.hnm sx.hn hD (sx.hfr _) (sx.hp _) (sx.hp2 _) (sx.hk2 _) (fun T D y hy=> ?_) (fun T D o g' L' h₁ tk hT hTD hDm ho hDD FG F' N' B' Xg Tg=> ?_) h2 h3 h4 hce
 ·exact fm (P:=fun y:Str×Value=>d.scope.names.lookup y.1=some .local) s4 (fm s5 (fm s6 fn)) y hy
 have st:c.h₀.StaysIn g':=fun b o e=>FG.keep b o e
 have hxT:x<T:=hT (x,_) (.head _)
 let tup:Obj:= {cls:= .type "tuple",data:= .seq vs.toArray}
 let rest:List (Addr×Obj):=(D,o)::(T,tup)::(own++c.news)
 let c':Fc:=⟨c.base,c.env::c.outer,g',L',d.env 1258 L',(x,instObj C dx)::(dx,dictOf [] 0)::rest,vis c own,c.os,c.dr⟩
 have hH:c'.H.le (A7v c'.h₀ rest):=(ok.vis_held.trans (A1f st)).trans (fun Ω Ω z=>z.imp id fun z=>a0P _ (.tail _ z))
 have ok'':c'.Ok G ((A.under (.builtin "type.__call__" ⟨.ref C::vs,kw⟩)).deeper (d.env 1258 L')):=⟨⟨_,B'⟩,a2M B'.stack,rfl,h4,ok.free,ok.XB,ok.TB,hH.trans fun Ω Ω z=>z.imp id fun z=>a0P _ (.tail _ z)⟩
 have hne: ∀ p∈rest,p.1≠dx:=fm (a2D (Nat.lt_trans hx (Nat.lt_trans hxT hTD))) (fm (a2D (Nat.lt_trans hx hxT)) fun p hp=>a0S (hlt p hp))
 have he':c'.env=d.env 1258 c'.L:=rfl
 generalize hM:(fun y=>([(("self" :Str),Value.ref x)]++ [(("args" :Str),Value.ref T)]++ [(("kwargs" :Str),Value.ref D)]).reverse.lookup y)=M at F'
 have m1:M "self" =some (.ref x):=by rw [←hM];rfl
 have m2:M "args" =some (.ref T):=by rw [←hM];rfl
 have m3:M "kwargs" =some (.ref D):=by rw [←hM];rfl
 have S0:St (c'.with ((x,instObj C dx)::(dx,dictOf [] 0)::rest)) M [] {s with heap:=h₁,toks:=tk}:=⟨F',fm (N' _ (.tail _ (.tail _ (.head _)))) (fm (N' _ (.tail _ (.tail _ (.tail _ (.head _))))) (fm (N' _ (.head _)) (fm (N' _ (.tail _ (.head _))) fun p hp=>N' p (.tail _ (.tail _ (.tail _ (.tail _ hp))))))),S.gens,S.os,S.dr⟩
 have TD: ∀ {own':List (Addr×Obj)} {es:List DictEntry} {kk:Nat} {m':Str→Option Value} {s':Shared},St (c'.with ((x,instObj C dx)::(dx,dictOf es kk)::rest)) m' own' s'→StrTab G.prog G.w s'.heap D DD:=fun S'=>
  TabAt.ofObj hDm (S'.N (D,o) (a0G _ (by show (D,o)∈ (x,instObj C dx)::(dx,_)::rest;exact a0P _ (.tail _ (.head _))))).1 ho hDD
 rw [s7]
 simp only [MiP.body]
 refine a0N (A6R (es:= []) (k:=0) (self:= "self") (attr:= "args") (P:=fun v'=>v'= .ref T) ok'' he' hH hne hx hs1 m1 s4 (by decide) (fun Ω h=>(nomatch h)) (fun Ω h=>(nomatch h)) (by decide) rfl S0 (fun Q E q=>A4x ok'' he' m2 s5 (by decide) S0 fun s' S'=>q _ s' rfl S') fun v' t1 s1' hv' S1=> ?_)
 subst hv'
 refine a0N (A6R (k:=0+1) (self:= "self") (attr:= "taproot") (P:=fun v'=>v'= .bool tap) ok'' he' hH hne hx hs2 m1 s4 (by decide) (fun e he=> ?_) (fun e he=> ?_) (by simp) rfl S1 (fun Q E q=> ?_) fun v' t2 s2' hv' S2=> ?_)
 ·rw [List.nil_append] at he
  rw [a0L.mp he]
  show (Value.str "args" t1).isStr "taproot" =false
  rfl
 ·rw [List.nil_append] at he
  rw [a0L.mp he];rfl
 ·show wpAny _ _ (eval (.Call (.Attribute (.Name "kwargs" pa.p7) "get" pa.p8) [.Constant (.str "taproot") pa.q1 pa.p9,.Constant (.bool false) pa.q2 pa.p10] [] pa.p11) c'.env) Q E s1'
  rw [arm_eval_Call,A0e rfl]
  refine a0A (A4x ok'' he' m3 s6 (by decide) S1 fun s' S'=>a0A (a1R ?_))
  rw [show ([(Expr.Constant (.str "taproot") pa.q1 pa.p9),.Constant (.bool false) pa.q2 pa.p10].length+ ([]:List Keyword).length)= [(Expr.Constant (.str "taproot") pa.q1 pa.p9),.Constant (.bool false) pa.q2 pa.p10].length+0 from rfl,A0j f10 rfl (by simp)]
  refine a0A (a0R (getMethod_strTab_get (TD S') ?_))
  refine callWith_of (P:=fun Ω=>True) rfl (fun h Ω=>⟨.machine,.inr (.inl rfl),Looks.of_pure rfl⟩) (A0k rfl (a2V (Constant_str (k:=pa.q1) (pos:=pa.p9) (a2V (Constant_bool (k:=pa.q2) (pos:=pa.p10) (Calls.spliced_nil ?_))))))
  refine⟨trivial,?_⟩
  refine call_get2_strTab (TD (S'.tok _)) (dd:= .bool false) (Flat.bool false) fun v hv=> ?_
  rw [hl] at hv
  cases hv s'.heap
  exact q _ _ rfl ((S'.tok _).tok _)
 ·subst hv'
  refine a2O ?_
  refine leaveK_ S2.F S2.N fun F₃ N₃=>⟨rfl,?_⟩
  refine k [(x,instObj C dx),(dx,_),(D,o),(T,tup)] (.ref x) s2' ⟨F₃,N₃,S2.gens,S2.os,S2.dr⟩ (.inst (dx:=dx) (n:=0+1+1) (.inr (.head _)) (.inr (.tail _ (.head _))) ?_)
  refine .cons (.tup (vs:=vs) (n:=0) (.inr ?_) (R.mono A0a)) (.cons (.s .bool) .nil)
  exact .tail _ (.tail _ (.tail _ (.head _)))
end
noncomputable def A7O (K:Frag)(C:Addr):Bool:=makesIn K C&&findIn K (.ref C) "__init__" ==some (some (.ref 1258))&&A2A K C "args" &&A2A K C "taproot" &&A0L K (.ref C)
noncomputable def A0t (C:Addr)(rs:List V)(tap:Bool):V:= .inst C [("args",.tup rs),("taproot",.s (.bool tap))]
noncomputable def C5J:Expr→Option (Str×List Expr×Expr)
 | .Call f args kws _=>(A1r f).bind fun x=>(A1m kws).bind fun kw=>kw.arg.bind fun nm=>gd (nm== "taproot") (some (x,args,kw.value))
 | _=>none
@[elab_as_elim] theorem C4L {e:Expr} {q:Str×List Expr×Expr} {motive:Expr→Prop} (h:C5J e=some q) (k: ∀ p kp pos,motive (.Call (.Name q.1 p) q.2.1 [⟨some "taproot",q.2.2,kp⟩] pos)):motive e:=by
 cases e with
 | Call f args kws p=>
  refine x3 h fun x hx h=>x3 h fun kw hkw h=>x3 h fun nm hnm h=>x2 h fun hc h=> ?_
  cases h
  obtain⟨ka,kv,kp⟩:=kw
  have hka:ka=some "taproot" :=hnm.trans (congrArg some (a0D hc))
  subst hka
  exact A0T hx fun p1=>A1b hkw (k p1 kp p)
 | _=>exact x0 h
noncomputable def hKw (K:Frag)(r:Evs)(b:Nat)(η:A0w)(e:Expr):Option (Option V):=(C5J e).bind fun q=>((η q.1).bind C0G).bind fun g=>(A4K g).bind fun C=>gd (A7O K C&&q.2.1.all A0g&&decide (1≤q.2.1.length)&&decide (q.2.1.length≤4)&&decide (2≤b))
 (some ((A3M r b η q.2.1).bind fun rs=>((r.E b η q.2.2).bind A0V).bind fun y=>(A2C y).map fun t=>A0t C rs t))
noncomputable def hCm (K:Frag)(r:Evs)(b:Nat):Value→List V→Option (Option V)
 | .ref C,rs=>(A1m rs).bind fun a=>gd (A7O K C&&decide (2≤b)) (some (some (A0t C [a] false)))
 | _,_=>none
noncomputable def hkK (K:Frag):Hk:= {Hk.nil with E:=hKw K,C:=hCm K}
section
theorem B3I (g:GOk G)(ok:c.Ok G A)(room:Room A (b+2))(hm:A7O G.K C=true)(R:Reps G 818 (vis c own) vs rs)(h1:1≤vs.length)(h4:vs.length≤4):
  EvR G 818 c A m own False (call (.ref C) vs [("taproot",.bool t)]) (fun Z v=>Rep G 818 Z v (A0t C rs t)):=by
 refine x8 hm fun m1 m2 m3 m4 m5=> ?_
 have m2:=a0D m2
 have hl:(Spec.lookup (PyData.str "taproot") [(PyData.str "taproot",PyData.bool t)]).getD (.bool false)= .bool t:=by
  cases t<;>kernel_rfl
 have sa: ∀ x:Addr,StarAt G.K (A0c G.w.params 1258) ⟨.ref x::vs,[("taproot",.bool t)]⟩ vs [("taproot",.bool t)] [("self",.ref x)] "args" "kwargs" :=fun x=>by
  rw [g.K]
  match vs,h1,h4 with
  | [a],_,_=>exact B6n _ _ _ _
  | [a,b],_,_=>exact B6m _ _ _ _ _
  | [a,b,c],_,_=>exact B6l _ _ _ _ _ _
  | [a,b,c,d],_,_=>exact B6k _ _ _ _ _ _ _
  | a::b::c::d::e::l,_,h=>simp at h
 exact A7T g ok room m1 m2 m3 m4 sa (.cons (Flat.bool t) .nil) hl R
theorem B1R {a:V}(g:GOk G)(ok:c.Ok G A)(room:Room A (b+2))(hm:A7O G.K C=true)(R:Reps G 818 (vis c own) [v] [a]):
  EvR G 818 c A m own False (call (.ref C) [v]) (fun Z v=>Rep G 818 Z v (A0t C [a] false)):=by
 refine x8 hm fun m1 m2 m3 m4 m5=> ?_
 have m2:=a0D m2
 exact A7T g ok room m1 m2 m3 m4 (fun x=>by rw [g.K];exact B6o _ _ _) .nil rfl R
theorem B9Z (g:GOk G){r:Evs}(X:Snd G 818 r){η:A0w}{f:Str}{args:List Expr}{kv:Expr}{p kp:Pos}(ok:c.Ok G A)(room:Room A (b+2))(hg:EnvG env)(hn:NamesOk G 818 c A m own env η)(hf:η f=some (.k (.ref C)))(c2:A7O G.K C=true)(c3:args.all A0g=true)(c4:1≤args.length)(c5:args.length≤4)
  (hrs:A3M r (b+2) η args=some rs) (ht:r.E (b+2) η kv=some (.s (.bool t))):Ev G 818 c A m own (eval (.Call (.Name f p) args [⟨some "taproot",kv,kp⟩] pos) env) (A0t C rs t):=by
 intro s Q E S q
 show wpAny _ _ (do callWith pos (←eval (.Name f p) env) [] (backTo pos (starEach args env)) (backToKw pos (keywordEach [⟨some "taproot",kv,kp⟩] env))) Q E s
 refine a0A (hn f p _ [] hf s _ E S fun own' v s' S' R=> ?_)
 obtain rfl:=R.kI
 have hk:A0L G.K (.ref C)=true:=x5 c2 fun Ω h=>h
 refine callWith_of (P:=fun h=>G.K.In h) (by rw [A1D c3];rfl) (A3S hk) ?_
 cases args with
 | nil=>exact absurd c4 (by decide)
 | cons e0 es=>
  have hlen:=A3g hrs
  have ha:=A0u (pos:=pos) X ok room hg hrs (hn.more own')
  have c3':A0g e0=true:=x5 c3 fun h Ω=>h
  rw [A0E c3'] at ha ⊢
  refine evalArgs_kw rfl (ha s' _ E S' fun own'' vs s'' S'' R=> ?_)
  refine a2F (evalAll_cons (a0A (X.E ht ok room hg (hn.more (own''++own')) s'' _ E S''.asc fun own₃ w s₃ S₃ Rw=>a0A (a1R (a0I (evalAll_nil ?_)))))) (fun Ω Ω z=>z) fun Ω Ω z=>z
  have S₄:St c m ((own₃++ (own''++own'))++own) s₃:=by rw [a0C];exact S₃
  refine⟨S₄.X ok,?_⟩
  obtain rfl:=Rw.sI.boolI
  have R4:Reps G 818 (vis c ((own₃++ (own''++own'))++own)) vs rs:=(R.mono (A0a (own':=own₃))).mono (by rw [←a0C own'',←a0C own₃];exact Held.le.rfl)
  have hvl:vs.length=(e0::es).length:=R4.length.trans hlen
  exact B3I (b:=b) g ok room c2 R4 (hvl▸c4) (hvl▸c5) s₃ Q E S₄ (fun own₅ v s₅ S₅ p=>q (own₅++ (own₃++ (own''++own'))) v s₅ S₅.asc (by rw [a0C];exact p)) fun hr=>hr.elim
theorem B7I (h:decide (2≤b)=true): ∃ b',b=b'+2:=⟨b - 2,(Nat.sub_add_cancel (a0B h)).symm⟩
theorem C2x (g:GOk G):HkOk G 818 (hkK G.K):= {HkOk.nil with
 E:=fun {r b η e v} X h {c A m own env} ok room hg hn=>
  x3 h fun q hq h=>x3 h fun u hu h=>x3 h fun C hC h=>x2 h fun hc h=>x8 hc fun c2 c3 c4 c5 c6=>x3 (a0E h) fun rs hrs h=>x3 h fun y hy h=>x4 h fun t ht=>C4L hq fun p kp pos=>by
   obtain⟨b',rfl⟩:=B7I c6
   exact B9Z g X ok room hg hn ((A9b hu).trans (by rw [A3P hC])) c2 c3 (a0B c4) (a0B c5) hrs ((A0i hy).trans (A2l (motive:=fun y=>some (V.s y)=some (.s (.bool t))) ht rfl))
 C:=fun {r b f rs v} X h {c A m own vs} ok room R=>by
  cases f with
  | ref C=>
   refine x3 h fun a ha h=>x2 h fun hc h=>x1 (a0E h) (x5 hc fun c1 c2=>R.oneE ha fun u R1=> ?_)
   obtain⟨b',rfl⟩:=B7I c2
   exact B1R (b:=b') g ok room c1 (.cons R1 .nil)
  | _=>exact x0 h}
end
noncomputable def C5C (K:Frag)(r:Evs)(b:Nat)(d:Fd)(self:Str)(ρ:Loc)(η:A0w):Expr→Option V
 | .Name y _=>gd (d.scope.names.lookup y==some .local&& !(y==self)&& !(y==("__debug__" :Str))) (ρ.lookup y)
 | e=>((r.E b η e).bind A0V).map .s
noncomputable def C1v:Stmt→Option Expr
 | .If t _ orelse _=>gd orelse.isEmpty (some t)
 | _=>none
@[elab_as_elim] theorem C1u {st:Stmt} {t:Expr} {motive:Stmt→Prop} (h:C1v st=some t) (q: ∀ body p,motive (.If t body [] p)):motive st:=by
 cases st with
 | If t' body orelse p=>exact x2 h fun ho h=>A0O ho (x1' h (q body p))
 | _=>exact x0 h
noncomputable def B5q (K:Frag)(r:Evs)(b:Nat)(d:Fd)(C:Addr)(self:Str)(ρ:Loc):List Stmt→List (Str×V)→Option (List (Str×V))
 | [],fs=>some fs
 | st::rest,fs=>orM (B8T st) (fun p=>gd (p.1==self&&A2A K C p.2.1&&A2G p.2.2&& !((fs.map (·.1)).contains p.2.1)&&decide (fs.length<900)) ((C5C K r b d self ρ (nmF K d ((self,.inst C fs)::ρ)) p.2.2).bind fun v=>B5q K r b d C self ρ rest (fs++ [(p.2.1,v)])))
  ((C1v st).bind fun t=>(r.T b (nmF K d ((self,.inst C fs)::ρ)) t).bind fun x=>bif x then none else B5q K r b d C self ρ rest fs)
section
variable {r:Evs}
noncomputable def Fc.see (c:Fc)(l:List (Addr×Obj)):Fc:= {c with news:=l,H:=fun a o=>c.H a o∨(a,o)∈l}
theorem C1F {l:List (Addr×Obj)}{x y:Addr×Obj}(ok:c.Ok G A)(hH:c.H.le (A7v c.h₀ l)):(c.see (x::y::l)).Ok G A:=⟨ok.below,ok.frames,ok.frame,ok.kind,ok.free,ok.XB,ok.TB,fun a o h=>h.elim (fun h=>(hH a o h).imp id fun z=>a0P _ (.tail _ z)) .inr⟩
theorem C1e {l:List (Addr×Obj)}{m':Str→Option Value}{s':Shared}(S:St (c.with l) m' [] s'):St (c.see l) m' [] s':=⟨S.F,S.N,S.gens,S.os,S.dr⟩
theorem C1Q {l own':List (Addr×Obj)}{m':Str→Option Value}{s':Shared}(S:St (c.see l) m' own' s'):St (c.with l) m' [] s':=⟨S.F,fun p hp=>S.N p (a0G _ hp),S.gens,S.os,S.dr⟩
theorem B5L {x dx:Addr}{rest:List (Addr×Obj)}{self:Str}{es:List DictEntry}{k:Nat}{fs₀:List (Str×V)}(hself:m self=some (.ref x))(hl:Locs G C₀ c.H m ρ)(hf:Flds G C₀ c.H es fs₀):Locs G C₀ (vis (c.see ((x,instObj C dx)::(dx,dictOf es k)::rest)) []) m ((self,.inst C fs₀)::ρ):=fun y r e=>by
 rw [a0M] at e
 cases hy:y==self with
 | true=>
  rw [hy] at e
  rw [a0D hy]
  exact⟨_,hself,x1 e (.inst (dx:=dx) (es:=es) (n:=k) (.inl (.inr (.head _))) (.inl (.inr (.tail _ (.head _)))) (hf.mono fun a o h=> .inl (.inl h)))⟩
 | false=>
  rw [hy] at e
  obtain⟨w,hw,Rw⟩:=hl y r e
  exact⟨w,hw,Rw.mono fun a o h=> .inl (.inl h)⟩
theorem B9K (X:Snd G C₀ r){l:List (Addr×Obj)}{self:Str}{e:Expr}{η:A0w}{v:V}(h:C5C G.K r b d self ρ η e=some v)(ok:c.Ok G A)(see:(c.see l).Ok G A)(room:Room A b)(he:c.env=d.env f c.L)(hl:Locs G C₀ c.H m ρ)(hn:NamesOk G C₀ (c.see l) A m [] c.env η)
  (S:St (c.with l) m [] s) (Q:Value→Shared→Prop) (E:Value→Shared→Prop) (q: ∀ v' s',Rep G C₀ c.H v' v→St (c.with l) m [] s'→Q v' s'):wpAny G.M A (eval e c.env) Q E s:=by
 have rest:((r.E b η e).bind A0V).map .s=some v→wpAny G.M A (eval e c.env) Q E s:=fun h=>x4e h fun u hu ev=>X.E (A0i hu) see room (A0n he) hn s Q E (C1e S) fun own' w s' S' R=>q w s' (ev▸ .s R.sI) (C1Q S')
 cases e with
 | Name y p=>
  refine x2 h fun hc h=>x6 hc fun d1 d2 d3=> ?_
  obtain⟨w,hw,Rw⟩:=hl _ _ h
  exact A4x ok he hw (a0D d1) (xn d3) S fun s' S'=>q w s' Rw S'
 | _=>exact rest h
theorem B2b (X:Snd G C₀ r){x dx:Addr}{rest:List (Addr×Obj)}{self:Str}{Q:Flow→Shared→Prop}(ok:c.Ok G A)(room:Room A b)(he:c.env=d.env f c.L)(hH:c.H.le (A7v c.h₀ rest))(hne: ∀ p∈rest,p.1≠dx)(hx:dx<x)
  (hself:m self=some (.ref x)) (hsk:d.scope.names.lookup self=some .local) (hsd:(self==("__debug__" :Str))=false) (hl:Locs G C₀ c.H m ρ)
  (sts:List Stmt): ∀ (fs₀ fs:List (Str×V)) (es:List DictEntry) (k:Nat) (s:Shared),B5q G.K r b d C self ρ sts fs₀=some fs→Flds G C₀ c.H es fs₀→St (c.with ((x,instObj C dx)::(dx,dictOf es k)::rest)) m [] s→
   (∀ es k s',Flds G C₀ c.H es fs→St (c.with ((x,instObj C dx)::(dx,dictOf es k)::rest)) m [] s'→Q .next s')→wpAny G.M A (execs sts c.env) Q E s:=by
 induction sts with
 | nil=>
  intro fs₀ fs es k s e hf S q
  obtain rfl:=a0E e
  exact a2O (q es k s hf S)
 | cons st sts ih=>
  intro fs₀ fs es k s e hf S q
  have see:=C1F (x:=(x,instObj C dx)) (y:=(dx,dictOf es k)) ok hH
  have names:=A0f (G:=G) (C₀:=C₀) (own:= []) (d:=d) (f:=f) see he (B5L (C:=C) (dx:=dx) (k:=k) (rest:=rest) hself hl hf)
  refine xm e (fun p h1 e=>x2 e fun hc e=>x3 e fun v hv e=>x8 hc fun c1 c2 c3 c4 c5=>B7N h1 fun p1 p2 p3=> ?_) fun Ω e=>x3 e fun t h1 e=>x3 e fun y ht e=>xb e (fun Ω e=>x0 e) fun hy e=>C1u h1 fun body p=> ?_
  ·have hnd:p.2.1∉fs₀.map (·.1):=fun hm=>by rw [List.contains_iff_mem.mpr hm] at c4;exact xf c4
   obtain⟨k1,k2,k3⟩:=hf.keys hnd
   rw [a0D c1]
   exact a0N (A6R (P:=fun v'=>Rep G C₀ c.H v' v) ok he hH hne hx c2 hself hsk hsd k1 k2 (k3▸a0B c5) c3 S (B9K X hv ok see room he hl names S) fun v' tk s' hv' S'=>ih (fs₀++ [(p.2.1,v)]) fs _ (k+1) s' e (hf.snoc hv') S' q)
  ·rw [hy] at ht
   exact a0N (wpAny_If (X.T ht see room (A0n he) names s _ E (C1e S) fun own' s' S'=>a2O (ih fs₀ fs es k s' e hf (C1Q S') q)))
end
section
variable {r:Evs}
theorem A6M (X:Snd G 818 r){fI:Addr}{kw binds:List (Str×Value)}{self:Str}{fs:List (Str×V)}(ok:c.Ok G A)(room:Room A (b+2))(hm:makesIn G.K C=true)(hi:findIn G.K (.ref C) "__init__" =some (some (.ref fI)))
  (hf:isFn G.K (.ref fI)=true) (e:A2V G.K fI=some d) (q:A0H G.K fI d=true) (hbind: ∀ x s,G.K.In s.heap→BindsTo s d.data ⟨.ref x::vs,kw⟩ ((self,.ref x)::binds)) (hself:d.scope.names.lookup self=some .local) (hsd:(self==("__debug__" :Str))=false) (hloc: ∀ y∈binds,d.scope.names.lookup y.1=some .local)
  (hm1: ∀ x:Addr,((self,Value.ref x)::binds).reverse.lookup self=some (.ref x)) (hR: ∀ x:Addr,Locs G 818 (vis c own) (fun y=>((self,Value.ref x)::binds).reverse.lookup y) ρ) (h:B5q G.K r b d C self ρ d.body []=some fs):
  EvR G 818 c A m own False (call (.ref C) vs kw) (fun Z v=>Rep G 818 Z v (.inst C fs)):=by
 refine B0A (self:=self) (binds:=binds) (b:=b) ok room hm hi hf e q hbind hself hloc ?_
 intro c' A' x dx rest s Q E ok' he' room' hle hH hne hx S q'
 exact B2b X ok' room' he' hH hne hx (hm1 x) hself hsd ((hR x).mono hle) d.body [] fs [] 0 s h .nil S fun es k s' hf' S'=>q' _ es k s' hf' S'
end
theorem B5U (P:Params):A2V (KF P) 891=some (A0c P 891)∧A0H (KF P) 891 (A0c P 891)=true∧isFn (KF P) (.ref 891)=true∧makesIn (KF P) 958=true∧findIn (KF P) (.ref 958) "__init__" =some (some (.ref 891))∧
 (A0c P 891).scope.names.lookup ("self" :Str)=some .local∧(A0c P 891).scope.names.lookup ("point" :Str)=some .local∧(A0c P 891).scope.names.lookup ("compressed" :Str)=some .local:=by and_intros<;>kernel_rfl
theorem B9f (P:Params)(v w:Value)(S:Setting):peek (KF P) S (bindArgs (A0c P 891).data ⟨[v,w],[]⟩)=some [(("self" :Str),v),("point",w),("compressed",.bool true)]:=by kernel_rfl
noncomputable def B3y (a:V):V:= .inst 958 [("_point",a),("compressed",.s (.bool true))]
theorem C1O (P:Params)(a:V):B5q (KF P) (r3 P) 10 (A0c P 891) 958 "self" [("point",a),("compressed",.s (.bool true))] (A0c P 891).body []=some [(("_point" :Str),a),("compressed",.s (.bool true))]:=by kernel_rfl
section
theorem B5R (g:GOk G)(ok:c.Ok G A)(room:Room A b)(hb:12≤b){a:V}(R:Rep G 818 (vis c own) v a):EvR G 818 c A m own False (call (.ref 958) [v]) (fun Z w=>Rep G 818 Z w (B3y a)):=by
 obtain⟨s1,s2,s3,s4,s5,s6,s7,s8⟩:=B5U G.w.params
 have hb':=B9f G.w.params
 have hi:=C1O G.w.params a
 rw [←g.K] at s1 s2 s3 s4 s5 hi
 simp only [←g.K] at hb'
 refine A6M (d:=A0c G.w.params 891) g.r3 (binds:= [("point",v),("compressed",.bool true)]) (self:= "self") (b:=10) ok (room.less hb) s4 s5 s3 s1 s2 (fun x s X=>kp_binds X fun S=>hb' _ _ S) s6 (by decide) (fun y hy=> ?_) (fun x=>rfl) (fun x y r e=> ?_) hi
 ·rcases a0T.mp hy with rfl| hy
  ·exact s7
  ·rw [a0L.mp hy];exact s8
 ·show ∃ w,List.lookup y [(("compressed" :Str),Value.bool true),("point",v),("self",.ref x)]=some w∧_
  exact lk1 (motive:=fun y r=> ∃ w,List.lookup y [(("compressed" :Str),Value.bool true),("point",v),("self",.ref x)]=some w∧Rep G 818 (vis c own) w r) e ⟨v,by rfl,R⟩ fun e=>lk1 e ⟨_,by rfl,.s .bool⟩ fun e=>x0 e
end
theorem A4a:builtinKind "hasattr" =none:=by decide+kernel
theorem A3r:plainId "hasattr" =true:=by decide+kernel
theorem A3G:entryFor table "hasattr" =some Builtin.«hasattr» :=entryFor_of_tree (by kernel_rfl)
theorem A4j (a b:Value):argsOk "hasattr" ⟨[a,b],[]⟩:=by unfold argsOk;kernel_rfl
section
variable {w:World}
theorem A6U {x name:Str}{t u:Tok}(hmiss:typeLookup (.type "str") name=pure none)(hA:A.handled=none)
  (h: ∀ h' tk e,Heap.NewExcOf s.heap h' e "AttributeError" →E (.ref e) {s with heap:=h',toks:=tk}) (hsz:name.length+100≤sizeLine):
  wpAny (model prog w) A (getAttrBy (.str x t) (.str name u) false) Q E s:=by
 obtain⟨hp,g,d,tk,os⟩:=s
 have hT: ∀ s':Shared,s'.TypeIs (.str x t) "str" :=fun Ω=>rfl
 have f1:=sub_AttributeError
 have f3:=F.slot_str_getattribute.lookup
 have f4:=F.slot_str_getattribute.bind (.str x t)
 have f5:=am_str_getattr_none
 unfold getAttrBy
 refine a0R (a0A (a0I (a0A (a0U f3 (a1P rfl ?_)))))
 unfold getAttrByItsOwn
 refine a0A (a1P rfl (a0I (a0A (wpAny_attempt (a0R ?_)))))
 refine a1P rfl (a0A (a0U f4 ?_))
 show wpAny _ _ (call (Value.builtin "object.__getattribute__") _) _ _ _
 refine call_meets F.slot_str_getattribute (hT _) F.entry_object_getattribute (F.args_object_getattribute_2 _ _) (meets_getattribute_miss_str x t name _ hmiss hsz) ⟨hA,fun h' tk' e hx=> ?_⟩
 obtain⟨t',u',he⟩:=hx.there
 show wpAny _ _ (getattributeRaised _ _ _ _ _ _ _) _ _ _
 unfold getattributeRaised
 refine a0A (wpAny_isInstance (T:= "AttributeError") (b:=true) ⟨_,he,rfl⟩ f1 (wpAny_ite_true rfl (a0A ?_)))
 refine a1P rfl (a0U f5 ?_)
 unfold hookOrError attributeErrorLeaves
 exact wpAny_ite_true rfl (a0A (wpAny_throw (h _ _ _ hx.of)))
theorem A9x {x name:Str}{t u:Tok}(hmiss:typeLookup (.type "str") name=pure none)(hA:A.handled=none)(hsz:name.length+100≤sizeLine)
  (h: ∀ h' tk,(∀ b o,s.heap.get? b=some o→h'.get? b=some o)→Q (.bool false) {s with heap:=h',toks:=tk}):wpAny (model prog w) A (call (.builtin "hasattr") [.str x t,.str name u]) Q E s:=by
 refine call_function_any A4a A3r A3G (A4j _ _) ?_
 unfold Builtin.«hasattr»
 refine a0A (a0U (a:= [.str x t,.str name u]) (by kernel_rfl) ?_)
 dsimp only
 refine a0A (a0U (a:=()) (by kernel_rfl) ?_)
 refine KTBy.if_not (by rfl) ?_
 refine a0A (a0U (a:= .type "str") rfl ?_)
 dsimp only
 refine a0A (a0U (a:=some name) rfl ?_)
 dsimp only
 refine a0A (a0U hmiss ?_)
 dsimp only
 refine a0A (a0U (a:=0) (by kernel_rfl) ?_)
 refine KTBy.if_not (by rfl) ?_
 unfold getAttrBy?
 refine a0A (a0A (wpAny_attempt (A6U hmiss hA (fun h' tk e he=> ?_) hsz)))
 obtain⟨o,vs,ho,hc,_⟩:=he.there
 refine a0A (wpAny_isInstance (T:= "AttributeError") (b:=true) ⟨o,ho,hc⟩ sub_AttributeError ?_)
 refine a0I ?_
 refine KTBy.if_not (by rfl) ?_
 exact a0I (h h' tk he.keeps)
variable {K:Frag}{x:Addr}{ox od:Obj}
theorem A9h {name:Str}{cd:ClassData}{α:Type}{Q:α→Shared→Prop}(X:K.In s.heap)(I:InstAt s.heap x ox C (some od))(hcd:clsIn K C=some cd)(hn:(cd.name.cps.foldl (fun k c=>k+ (Str.utf8Of c).length) 0≤100)∧cd.name.toString.length≤80)(hA:A.handled=none)(hsz:name.length+200≤sizeLine)
  (h: ∀ h' tk e,Heap.NewAttrErr s.heap h' e (.ref x) name→E (.ref e) {s with heap:=h',toks:=tk}):wpAny (model prog w) A (Builtin.ObjectAttr.noSuchAttribute (.ref x) name:Sem α) Q E s:=by
 unfold Builtin.ObjectAttr.noSuchAttribute
 have T:Looks (model prog w) s.heap (typeOf (.ref x)) (.ref C):=I.type
 have L:Looks (model prog w) s.heap (typeNameOfCut 100 (.ref x)) cd.name.toString:=by
  unfold typeNameOfCut shownTypeOf
  refine Looks.andThen (a:= .ref C) (T.andThen ?_) ?_
  ·rw [if_neg (by show ¬ ((Value.ref C==Value.type _)=true);exact a2W)];exact .now
  ·unfold typeNameCut
   refine(looks_clsIn X hcd).andThen ?_
   dsimp only
   rw [if_pos hn.1]
   exact .now
 obtain⟨hp,g,d,t,os⟩:=s
 refine a0A (L.at ?_)
 refine wpAny_raiseAttrError hA h ?_
 rw [strLen_append,strLen_append,PySem.ofString_length,PySem.ofString_length]
 have e1:(toString "'" ++toString cd.name.toString++toString "' object has no attribute '").length=1+cd.name.toString.length+27:=by
  show ("'" ++cd.name.toString++ "' object has no attribute '").length=_
  rw [String.length_append,String.length_append]
  rfl
 have e2: "'".length=1:=by decide
 rw [e1,e2]
 have:=hn.2
 lia
theorem A5D {name:Str}{u:Tok}{cd:ClassData}(X:K.In s.heap)(I:InstAt s.heap x ox C (some od))(hcd:clsIn K C=some cd)(hn:(cd.name.cps.foldl (fun k c=>k+ (Str.utf8Of c).length) 0≤100)∧cd.name.toString.length≤80)(hA:A.handled=none)(hsz:name.length+200≤sizeLine)
  (hga:findIn K (.ref C) "__getattribute__" =some (some (.builtin "object.__getattribute__"))) (hf:findObj K C (some od) name=some .missing) (hk:findIn K (.ref C) "__getattr__" =some none)
  (h: ∀ h' tk e,Heap.NewExcOf s.heap h' e "AttributeError" →E (.ref e) {s with heap:=h',toks:=tk}):wpAny (model prog w) A (getAttrBy (.ref x) (.str name u) false) Q E s:=by
 obtain⟨hp,g,d,t,os⟩:=s
 have L0:=I.type (M:=model prog w)
 have L1:=looks_findIn (M:=model prog w) X hga
 have L2:=looks_find (M:=model prog w) X I hf
 have L3:=looks_findIn (M:=model prog w) X hk
 unfold getAttrBy
 refine a0R (a0A (L0.at (a0A (L1.at ?_))))
 show wpAny _ _ (getAttrEveryday _ _ _) _ _ _
 unfold getAttrEveryday
 refine a0A (wpAny_onRaise (wpAny_runValue (codeAny_builtin F.plainObj_entry_getattr_hooked ?_)))
 refine a0A (a0I (a0A (L0.at (a0A (L2.at ?_)))))
 show wpAny _ _ (typeLookup (.ref C) "__getattr__" >>=fun hook=>_) _ _ _
 refine a0A (L3.at ?_)
 show wpAny _ _ (Builtin.ObjectAttr.noSuchAttribute (.ref x) name) _ _ _
 refine A9h (K:=K) X I hcd hn hA hsz fun h' tk e he=> ?_
 exact a0I (h h' tk e he.of)
end
section
variable {w:World}{K:Frag}{x:Addr}{ox od:Obj}
theorem A8e {name:Str}{u:Tok}{cd:ClassData}(X:K.In s.heap)(I:InstAt s.heap x ox C (some od))(hcd:clsIn K C=some cd)(hn:(cd.name.cps.foldl (fun k c=>k+ (Str.utf8Of c).length) 0≤100)∧cd.name.toString.length≤80)(hA:A.handled=none)(hsz:name.length+200≤sizeLine)
  (hga:findIn K (.ref C) "__getattribute__" =some (some (.builtin "object.__getattribute__"))) (hf:findObj K C (some od) name=some .missing) (hk:findIn K (.ref C) "__getattr__" =some none) (hmod:mroIn K C (.type "module")=some false)
  (h: ∀ h' tk,(∀ b o,s.heap.get? b=some o→h'.get? b=some o)→Q (.bool false) {s with heap:=h',toks:=tk}):wpAny (model prog w) A (call (.builtin "hasattr") [.ref x,.str name u]) Q E s:=by
 refine call_function_any A4a A3r A3G (A4j _ _) ?_
 obtain⟨hp,g,d,t,os⟩:=s
 have L0:=I.type (M:=model prog w)
 have Lm:=looks_mroIn (M:=model prog w) X hmod
 unfold Builtin.«hasattr»
 refine a0A (a0U (a:= [.ref x,.str name u]) (by kernel_rfl) ?_)
 dsimp only
 refine a0A (a0U (a:=()) (by kernel_rfl) ?_)
 refine KTBy.if_not (by rfl) ?_
 refine a0A (L0.at ?_)
 dsimp only
 refine a0A ?_
 show wpAny _ _ (isInstance (.ref x) (.type "module")>>=fun b=>_) _ _ _
 refine a0A ((show Looks (model prog w) hp (isInstance (.ref x) (.type "module")) false from L0.andThen Lm).at ?_)
 refine a0I ?_
 refine KTBy.if_not (by rfl) ?_
 unfold getAttrBy?
 refine a0A (a0A (wpAny_attempt (A5D X I hcd hn hA hsz hga hf hk fun h' tk e he=> ?_)))
 obtain⟨o,vs,ho,hc,_⟩:=he.there
 refine a0A (wpAny_isInstance (T:= "AttributeError") (b:=true) ⟨o,ho,hc⟩ sub_AttributeError ?_)
 refine a0I ?_
 refine KTBy.if_not (by rfl) ?_
 exact a0I (h h' tk he.keeps)
end
noncomputable def B8Q (nm:Str):Bool:=match fastLookup "str" nm with
 | some none=>true
 | _=>false
noncomputable def B5G (o:Option ClassData):Bool:=match o with
 | some cd=>decide (cd.name.cps.foldl (fun k c=>k+ (Str.utf8Of c).length) 0≤100)&&decide (cd.name.toString.length≤80)
 | none=>false
noncomputable def C2E (K:Frag)(C:Addr)(nm:Str):Bool:=B5G (clsIn K C)&&plainGet K C nm&&hasDictIn K C&&findIn K (.ref C) nm==some none&&mroIn K C (.type "module")==some false&& !copiedNames.contains nm
set_option backward.match.sparseCases false in
noncomputable def C5F (K:Frag)(nm:Str):V→Option V
 | .inst C fs=>gd (C2E K C nm&& (fs.lookup nm).isNone&&decide (nm.length≤1000)) (some (.s (.bool false)))
 | .s x=>(A0x x).bind fun Ω=>gd (B8Q nm&&decide (nm.length≤1000)) (some (.s (.bool false)))
 | _=>none
noncomputable def C4H (K:Frag)(id:String)(rs:List V):Option (Option V):=(gd (id== "hasattr") ((A7E rs).bind fun p=>((A0V p.2).bind A0x).map fun q=>C5F K q.1 p.1)).or
 (gd (id== "len") (((A1m rs).bind A0V).bind fun x=>(A0x x).map fun q=>gd (decide (q.2≤1000000)) (some (.s (.int q.1.length)))))
noncomputable def C6L (K:Frag):Value→List V→Option (Option V)
 | .builtin id,rs=>C4H K id rs
 | _,_=>none
set_option backward.match.sparseCases false
noncomputable def C4A:BoolOp→Bool
 | .And=>true
 | _=>false
noncomputable def C6P (r:Evs)(b:Nat)(η:A0w):Expr→Option (Option V)
 | .BoolOp op es _=>gd (C4A op) ((A7E es).map fun p=>(ev2 r b η p.1 p.2).bind fun q=>(A2C q.1).bind fun x=>(A2C q.2).map fun y=> .s (.bool (x&&y)))
 | _=>none
set_option backward.match.sparseCases true
noncomputable def hkH (K:Frag):Hk:= {Hk.nil with E:=C6P,C:=fun Ω Ω=>C6L K}
section
variable {r:Evs}
theorem C2P {e1 e2:Expr}{x y:Bool}(h1:Ev G C₀ c A m own (eval e1 env) (.s (.bool x)))(h2: ∀ own',Ev G C₀ c A m (own'++own) (eval e2 env) (.s (.bool y))):Ev G C₀ c A m own (eval (.BoolOp .And [e1,e2] pos) env) (.s (.bool (x&&y))):=by
 intro s Q E S q
 refine BoolOp_and (h1 s _ E S fun own' v s' S' R=> ?_)
 refine R.sE fun _=> ?_
 rename_i hb
 refine hb.boolE ?_
 refine a2C ?_
 cases x with
 | true=>
  refine BoolOp_one (h2 own' s' _ E S' fun own'' v s'' S'' R=> ?_)
  exact q (own''++own') v s'' S''.asc (by rw [a0C];exact R)
 | false=>exact q own' _ s' S' (.s .bool)
theorem B7o {a v:V}{nm:Str}{k:Nat}{x y:Value}(h:C5F G.K nm a=some v)(ok:c.Ok G A)(R:Rep G C₀ (vis c own) x a)(R':SRep y (.str nm k)):EvR G C₀ c A m own False (call (.builtin "hasattr") [x,y]) (fun Z w=>Rep G C₀ Z w v):=by
 cases a with
 | inst C fs=>
  refine x2 h fun hc h=>x6 hc fun hc hl hnm=>x1 h (R'.strE fun t Ω s Q E S q Ω=>x6 hc fun hc c5 c6=>x7 hc fun c1 c2 c3 c4=> ?_)
  obtain⟨x,dx,es,kk,rfl,z1,z2,hf⟩:=R.inst_at
  have hnm:=a0B hnm
  obtain⟨cd,hcd,c1⟩: ∃ cd,clsIn G.K C=some cd∧decide (cd.name.cps.foldl (fun k c=>k+ (Str.utf8Of c).length) 0≤100)&&decide (cd.name.toString.length≤80):=by
   cases e:clsIn G.K C with
   | none=>rw [e] at c1;exact xf c1
   | some cd=>rw [e] at c1;exact⟨cd,rfl,c1⟩
  have pg:=plainGet_of c2
  obtain⟨cd',hcd',hd⟩:=any_some c3
  have hf':findObj G.K C (some (dictOf es kk)) nm=some .missing:=by
   unfold findObj
   have ho:W.ownOf cd' (some (dictOf es kk)) nm=some none:=by
    unfold W.ownOf
    rw [if_pos hd]
    show lookIn nm (dictOf es kk)=some none
    rw [lookIn_dict,A2I hf hl]
   rw [hcd',Option.bind_some,a0D c4,Option.bind_some]
   simp only [Option.bind_some,ho,xn c6,Bool.false_and,Bool.false_eq_true,if_false]
  exact x5 c1 fun c1 c1'=>A8e (K:=G.K) (S.X ok) ⟨S.get ok z1,rfl,rfl,S.get ok z2⟩ hcd ⟨a0B c1,a0B c1'⟩ ok.free (by rw [a1I];lia) pg.1 hf' pg.2 (a0D c5) fun h' tk hk=>q [] _ _ ⟨S.F.keeps hk,S.N.grown hk,S.gens,S.os,S.dr⟩ (.s .bool)
 | s u=>exact x3 h fun p hp h=>x2 h fun hc h=>x5 hc fun c1 c2=>x1 h ((A0F (motive:=fun u=>SRep x u→SRep x (.str p.1 p.2)) hp id R.sI).strE fun t Ω=>R'.strE fun Ω Ω s Q E S q Ω=>
   A9x (am_miss_of_fast c1) ok.free (by have:=a0B c2;rw [a1I];lia) fun h' tk hk=>q [] _ _ ⟨S.F.keeps hk,S.N.grown hk,S.gens,S.os,S.dr⟩ (.s .bool))
 | _=>exact x0 h
theorem C2y:HkOk G C₀ (hkH G.K):= {HkOk.nil with
 E:=fun {r b η e v} X h {c A m own env} ok room hg hn=>by
  cases e with
  | BoolOp op es pos=>
   refine x2 h fun ho h=>x4e h fun p hp h=>x3 h.symm fun q hq h=>x3 h fun x hx h=>x4 h fun y hy=>A3Q hp (A6j hq fun h1 h2=> ?_)
   cases op with
   | And=>exact C2P (A2l (motive:=fun z=>Ev G C₀ c A m own (eval p.1 env) (.s z)→Ev G C₀ c A m own (eval p.1 env) (.s (.bool x))) hx id (X.E h1 ok room hg hn)) fun own'=>A2l (motive:=fun z=>Ev G C₀ c A m (own'++own) (eval p.2 env) (.s z)→Ev G C₀ c A m (own'++own) (eval p.2 env) (.s (.bool y))) hy id (X.E h2 ok room hg (hn.more own'))
   | _=>exact xf ho
  | _=>exact x0 h
 C:=fun {r b f rs v} X h {c A m own vs} ok room R=>by
  cases f with
  | builtin nm=>
   refine xo h (fun h=>x2 h fun hid h=>xs hid (x3 h fun p hp h=>x4e h fun q hq h=>R.twoE hp fun x y Rx Ry=>x3 hq fun u hu hq=>B7o h.symm ok Rx (A0F (motive:=fun u=>SRep y u→SRep y (.str q.1 q.2)) hq id (Ry.ofS hu)))) fun h=>
    x2 h fun hid h=>xs hid (x3 h fun u hu h=>x4e h fun q hq h=>x2 h.symm fun hc h=>x1 h (R.s1 hu fun x Rx=>(A0F (motive:=fun u=>SRep x u→SRep x (.str q.1 q.2)) hq id Rx).strE fun t ht s Q E S k Ω=> ?_))
   have hc:=a0B hc
   exact len_str (by lia) (k [] _ _ ((S.tok _).tok _) (.s .int))
  | _=>exact x0 h}
end
noncomputable def hkY (K:Frag):Hk:=((hkX K).or (hkH K)).or (hkK K)
theorem B8h (g:GOk G):HkOk G 818 (hkY G.K):=((B8i).or C2y).or (C2x g)
noncomputable def r4 (P:Params):Evs:=evs (KF P) fl 818 spH (hkY (KF P)) 60
theorem GOk.r4 (h:GOk G):Snd G 818 (r4 G.w.params):=by
 have:=A0B (C₀:=818) h.gx (B0k h) (B8h h) 60
 rw [h.K] at this
 exact this
noncomputable def keyρ (a:V)(t:Bool):Loc:= [("key",a),("origin",.s .none),("derivation",.s .none),("taproot",.s (.bool t)),("xonly_repr",.s (.bool false))]
noncomputable def A5C (a:V)(t:Bool):List (Str×V):= [("origin",.s .none),("key",a),("taproot",.s (.bool t)),("xonly_repr",.s (.bool false)),("allowed_derivation",.s .none)]
theorem B4b (P:Params):A2V (KF P) 989=some (A0c P 989)∧A0H (KF P) 989 (A0c P 989)=true∧isFn (KF P) (.ref 989)=true∧makesIn (KF P) 1091=true∧findIn (KF P) (.ref 1091) "__init__" =some (some (.ref 989))∧makesIn (KF P) 1124=true∧findIn (KF P) (.ref 1124) "__init__" =some (some (.ref 989))∧
  (A0c P 989).scope.names.lookup ("self" :Str)=some .local∧(A0c P 989).scope.names.lookup ("key" :Str)=some .local∧(A0c P 989).scope.names.lookup ("origin" :Str)=some .local∧(A0c P 989).scope.names.lookup ("derivation" :Str)=some .local∧(A0c P 989).scope.names.lookup ("taproot" :Str)=some .local∧(A0c P 989).scope.names.lookup ("xonly_repr" :Str)=some .local:=
 by and_intros<;>kernel_rfl
theorem B6J (P:Params)(v k t:Value)(S:Setting):peek (KF P) S (bindArgs (A0c P 989).data ⟨[v,k,.none,.none,t],[]⟩)=some [(("self" :Str),v),("key",k),("origin",.none),("derivation",.none),("taproot",t),("xonly_repr",.bool false)]:=by kernel_rfl
theorem B9C (P:Params)(b:V)(t:Bool):B5q (KF P) (r4 P) 30 (A0c P 989) 1091 "self" (keyρ (B3y b) t) (A0c P 989).body []=some (A5C (B3y b) t):=by kernel_rfl
theorem C2o (P:Params)(b:V)(t:Bool):B5q (KF P) (r4 P) 30 (A0c P 989) 1124 "self" (keyρ (B3y b) t) (A0c P 989).body []=some (A5C (B3y b) t):=by kernel_rfl
theorem B9A (P:Params)(x:Str)(n:Nat)(t:Bool):B5q (KF P) (r4 P) 30 (A0c P 989) 1124 "self" (keyρ (.s (.str x n)) t) (A0c P 989).body []=some (A5C (.s (.str x n)) t):=by kernel_rfl
section
theorem B3N: ∀ {binds:List (Str×Value)},binds.map (·.1)=ρ.map (·.1)→Reps G 818 Z (binds.map (·.2)) (ρ.map (·.2))→ ∀ {y:Str} {r:V},ρ.lookup y=some r→ ∃ v,binds.lookup y=some v∧Rep G 818 Z v r:=by
 induction ρ with
 | nil=>intro _ _ _ _ _ e;exact x0 e
 | cons p ρ ih=>
  intro binds h R y r e
  cases binds with
  | nil=>exact absurd h (fun e=>nomatch e)
  | cons q bs=>
   obtain⟨a,v⟩:=q
   obtain⟨b,q⟩:=p
   obtain⟨h0,h9⟩:=List.cons.inj h
   obtain rfl:a=b:=h0
   have R:Reps G 818 Z (v::bs.map (·.2)) (q::ρ.map (·.2)):=R
   obtain⟨_,_,e2,R1,R⟩:=R.consI
   obtain⟨rfl,rfl⟩:=List.cons.inj e2
   rw [a0M] at e ⊢
   cases hh:y==a with
   | true=>rw [hh] at e;exact⟨v,rfl,x1 e R1⟩
   | false=>rw [hh] at e;exact ih h9 R e
theorem A6O (g:GOk G)(ok:c.Ok G A)(room:Room A b)(hb:32≤b)(hC:C=1091∨C=1124){a:V}(hi:B5q (KF G.w.params) (r4 G.w.params) 30 (A0c G.w.params 989) C "self" (keyρ a t) (A0c G.w.params 989).body []=some (A5C a t))(R:Rep G 818 (vis c own) v a):
  EvR G 818 c A m own False (call (.ref C) [v,.none,.none,.bool t]) (fun Z w=>Rep G 818 Z w (.inst C (A5C a t))):=by
 obtain⟨s1,s2,s3,m1,i1,m2,i2,n1,n2,n3,n4,n5,n6⟩:=B4b G.w.params
 have hb':=B6J G.w.params
 rw [←g.K] at s1 s2 s3 m1 i1 m2 i2 hi
 simp only [←g.K] at hb'
 have hm:makesIn G.K C=true:=by rcases hC with rfl| rfl;exact m1;exact m2
 have hini:findIn G.K (.ref C) "__init__" =some (some (.ref 989)):=by rcases hC with rfl| rfl;exact i1;exact i2
 refine A6M (d:=A0c G.w.params 989) g.r4 (binds:= [("key",v),("origin",.none),("derivation",.none),("taproot",.bool t),("xonly_repr",.bool false)]) (self:= "self") (b:=30) ok (room.less hb) hm hini s3 s1 s2 (fun x s X=>kp_binds X fun S=>hb' _ _ _ S) n1 (by decide) (fun y hy=> ?_) (fun x=>rfl) (fun x y r e=> ?_) hi
 ·simp only [a0T,List.not_mem_nil,or_false] at hy
  rcases hy with rfl| rfl| rfl| rfl| rfl
  ·exact n2
  ·exact n3
  ·exact n4
  ·exact n5
  ·exact n6
 ·have hl:=B3N (G:=G) (Z:=vis c own) (binds:= [(("key" :Str),v),("origin",.none),("derivation",.none),("taproot",.bool t),("xonly_repr",.bool false)]) (ρ:=keyρ a t) rfl (.cons R (.cons (.s .none) (.cons (.s .none) (.cons (.s .bool) (.cons (.s .bool) .nil))))) e
  obtain⟨w,hw,Rw⟩:=hl
  refine⟨w,?_,Rw⟩
  refine(A0X (l:= [(("self" :Str),Value.ref x),("key",v),("origin",.none),("derivation",.none),("taproot",.bool t),("xonly_repr",.bool false)]) (x:=y) (by show ([("self" :Str),"key","origin","derivation","taproot","xonly_repr"]:List Str).Nodup;decide)).trans ?_
  rw [a0M]
  have:(y==("self" :Str))=false:=by
   refine a1L.mpr fun q=> ?_
   subst q
   have e0:(keyρ a t).lookup ("self" :Str)=none:=rfl
   rw [e0] at e
   exact x0 e
  rw [this]
  exact hw
end
noncomputable abbrev C5w (p:Nat×Nat×Nat):List UInt8:=A1z (B5p p.1 p.2.2) (B5p p.2.1 p.2.2)
noncomputable def B1C (p:Nat×Nat×Nat):List (Str×V):= [("raw",.s (.bytes (C5w p).reverse (C5w p).length))]
noncomputable def C5v (C:Addr)(p:Nat×Nat×Nat):V:= .inst C (B1C p)
noncomputable def rawAll:List (Addr×Nat×Nat×Nat):= [(1223,53,49,32),(1223,53,50,32),(1223,53,51,32),(1223,53,55,32),(1223,53,56,32),(1223,53,57,32),(1242,54,49,20),(1242,54,50,20),(1242,54,51,20),(1242,54,55,20),(1242,54,56,20),(1242,54,57,20)]
noncomputable def B0p (P:Params)(C:Addr)(p:Nat×Nat×Nat):Option (List (Str×V)):=B5q (KF P) (r4 P) 30 (A0c P 1180) C "self" [("raw",.s (.str (B0d p.1 p.2.1 p.2.2) (2*p.2.2)))] (A0c P 1180).body []
theorem B5O (P:Params):(rawAll.map fun q=>B0p P q.1 q.2)=rawAll.map fun q=>some (B1C q.2):=by kernel_rfl
theorem B5Q {P:Params}{q:Addr×Nat×Nat×Nat}(h:q∈rawAll):B0p P q.1 q.2=some (B1C q.2):=a0Y.mp (B5O P) q h
theorem B9b {P:Params}{p:Nat×Nat×Nat}(h:(C,p)∈rawAll):B0p P C p=some (B1C p):=B5Q (q:=(C,p)) h
theorem B3w (P:Params):A2V (KF P) 1180=some (A0c P 1180)∧A0H (KF P) 1180 (A0c P 1180)=true∧isFn (KF P) (.ref 1180)=true∧makesIn (KF P) 1223=true∧findIn (KF P) (.ref 1223) "__init__" =some (some (.ref 1180))∧makesIn (KF P) 1242=true∧findIn (KF P) (.ref 1242) "__init__" =some (some (.ref 1180))∧
  (A0c P 1180).scope.names.lookup ("self" :Str)=some .local∧(A0c P 1180).scope.names.lookup ("raw" :Str)=some .local∧A0r (A0c P 1180).params=some [("self" :Str),"raw"]∧A1s (KF P) (A0c P 1180).dV=true:=
 by and_intros<;>kernel_rfl
theorem B5N:(rawAll.all fun q=>(B0d q.2.1 q.2.2.1 q.2.2.2).length==2*q.2.2.2&& (q.1==1223|| q.1==1242))=true:=by decide+kernel
section
theorem B5P (g:GOk G)(ok:c.Ok G A)(room:Room A b)(hb:32≤b){p:Nat×Nat×Nat}(hp:(C,p)∈rawAll)(R:SRep v (.str (B0d p.1 p.2.1 p.2.2) n)):
  EvR G 818 c A m own False (call (.ref C) [v]) (fun Z w=>Rep G 818 Z w (.inst C (B1C p))):=by
 obtain⟨s1,s2,s3,m1,i1,m2,i2,n1,n2,hpl,hdf⟩:=B3w G.w.params
 have hi:=B9b (P:=G.w.params) hp
 rw [B0p,←g.K] at hi
 rw [←g.K] at s1 s2 s3 m1 i1 m2 i2 hdf
 have hall:=a0J.mp B5N _ hp
 simp only [a1B,Bool.or_eq_true,beq_iff_eq] at hall
 obtain⟨hlen,hC⟩:=hall
 have hm:makesIn G.K C=true:=by rcases hC with rfl| rfl;exact m1;exact m2
 have hini:findIn G.K (.ref C) "__init__" =some (some (.ref 1180)):=by rcases hC with rfl| rfl;exact i1;exact i2
 generalize hT:B0d p.1 p.2.1 p.2.2=T at*
 have R':Rep G 818 (vis c own) v (.s (.str T (2*p.2.2))):=by
  refine R.strE fun Ω Ω=> ?_
  exact .s (.str (Nat.le_of_eq hlen))
 generalize B1C p=fs at hi ⊢
 generalize A0c G.w.params 1180=d at*
 have hbi: ∀ (x:Addr) (s:Shared),G.K.In s.heap→BindsTo s d.data ⟨.ref x:: [v],[]⟩ ((("self" :Str),.ref x):: [(("raw" :Str),v)]):=fun x s X=>A0Z (ns:= ["self","raw"]) (vs:= [.ref x,v]) X hpl rfl hdf
 refine A6M (d:=d) g.r4 (binds:= [("raw",v)]) (self:= "self") (b:=30) ok (room.less hb) hm hini s3 s1 s2 hbi n1 (by decide) (fun y hy=> ?_) (fun x=>rfl) (fun x y r e=> ?_) hi
 ·rw [a0L.mp hy];exact n2
 ·rw [a0M] at e
  cases hy:y==("raw" :Str) with
  | true=>
   rw [hy] at e
   rw [a0D hy]
   exact⟨v,by rfl,x1 e R'⟩
  | false=>rw [hy] at e;exact x0 e
end
noncomputable def B3x (C:Addr)(x:Str):Option (Addr×Nat×Nat×Nat):=rawAll.find? fun q=>q.1==C&&x==B0d q.2.1 q.2.2.1 q.2.2.2
theorem A7H {q:Addr×Nat×Nat×Nat}(h:B3x C x=some q):(C,q.2)∈rawAll∧x=B0d q.2.1 q.2.2.1 q.2.2.2:=
 x5 (List.find?_some (p:=fun q:Addr×Nat×Nat×Nat=>q.1==C&&x==B0d q.2.1 q.2.2.1 q.2.2.2) h) fun h1 h2=>⟨by rw [←a0D h1];exact List.mem_of_find?_eq_some h,a0D h2⟩
noncomputable def B9G (v:V):Option V:=(A4L v).bind fun p=>(A7E p.2).bind fun f=>((A0V f.2.2).bind A2C).bind fun t=>gd (p.1==958&&f.1.1== "_point" &&f.2.1== "compressed" &&t) (some f.1.2)
theorem A6f {v a:V}(h:B9G v=some a):v=B3y a:=by
 refine x3 h fun p hp h=>x3 h fun f hf h=>x3 h fun t ht h=>x2 h fun hc h=>x7 hc fun c1 c2 c3 c4=>A4u (motive:=fun v=>v=B3y a) hp ?_
 have e2:f.2.2= .s (.bool t):=x3 ht fun y hy ht=>A6A (motive:=fun a=>a=V.s (.bool t)) hy (A2l (motive:=fun y=>V.s y= .s (.bool t)) ht rfl)
 rw [a0D c1,show p.2= [f.1,f.2] from A3Q (motive:=fun l=>l=_) hf rfl,show f.1=(("_point" :Str),f.1.2) by rw [←a0D c2],show f.2=(("compressed" :Str),f.2.2) by rw [←a0D c3],e2,c4,a0E h];rfl
noncomputable def C5B (a:V):Bool:=(B9G a).isSome|| ((A0V a).bind A0x).isSome
theorem B4j {a:V}(h:C5B a=true):(∃ a',a=B3y a')∨ ∃ x n,a= .s (.str x n):=by
 rcases Bool.or_eq_true_iff.mp h with hq| hq
 ·obtain⟨a',ha⟩:=Option.isSome_iff_exists.mp hq
  exact .inl ⟨a',A6f ha⟩
 ·obtain⟨q,hq⟩:=Option.isSome_iff_exists.mp hq
  exact .inr ⟨q.1,q.2,x3 hq fun y hy hq=>A6A (motive:=fun a=>a=V.s (.str q.1 q.2)) hy (A0F (motive:=fun y=>V.s y= .s (.str q.1 q.2)) hq rfl)⟩
noncomputable def C5q:List V→Option (V×Bool)
 | a::l=>(match l with
  | b::l=>(isNone b).bind fun Ω=>(A7E l).bind fun p=>(isNone p.1).bind fun Ω=>((A0V p.2).bind A2C).map fun t=>(a,t)
  | []=>none)
 | []=>none
theorem B4i {v:V}(h:isNone v=some t):v= .s .none:=by
 cases v with
 | s x=>cases x with
  | none=>rfl
  | _=>exact x0 h
 | _=>exact x0 h
theorem C3X {l:List V}{q:V×Bool}(h:C5q l=some q):l= [q.1,.s .none,.s .none,.s (.bool q.2)]:=by
 cases l with
 | nil=>exact x0 h
 | cons a l=>cases l with
  | nil=>exact x0 h
  | cons b l=>
   refine x3 h fun Ω h1 h=>x3 h fun p hp h=>x3 h fun Ω h2 h=>x4e h fun t ht e=> ?_
   subst e
   have e2:p.2= .s (.bool t):=x3 ht fun y hy ht=>A6A (motive:=fun a=>a=V.s (.bool t)) hy (A2l (motive:=fun y=>V.s y= .s (.bool t)) ht rfl)
   rw [B4i h1,show l= [p.1,p.2] from A3Q (motive:=fun l=>l=_) hp rfl,B4i h2,e2]
noncomputable def hC1 (b:Nat)(C:Addr)(a:V):Option (Option V):=bif C==958 then some (gd (decide (12≤b)) (some (B3y a)))
 else gd (C==1223|| C==1242) (some (((A0V a).bind A0x).bind fun q=>gd (decide (32≤b)) ((B3x C q.1).map fun q=>C5v C q.2)))
noncomputable def hC4 (b:Nat)(C:Addr)(q:V×Bool):Option (Option V):=bif C==1091 then some (gd (decide (32≤b)&& (B9G q.1).isSome) (some (.inst 1091 (A5C q.1 q.2))))
 else gd (C==1124) (some (gd (decide (32≤b)&&C5B q.1) (some (.inst 1124 (A5C q.1 q.2)))))
noncomputable def C6M (b:Nat):Value→List V→Option (Option V)
 | .ref C,rs=>orM (A1m rs) (hC1 b C) ((C5q rs).bind (hC4 b C))
 | _,_=>none
noncomputable def hkL:Hk:= {Hk.nil with C:=fun Ω b=>C6M b}
theorem C2w (g:GOk G):HkOk G 818 hkL:= {HkOk.nil with
 C:=fun {r b f rs v} X h {c A m own vs} ok room R=>by
  cases f with
  | ref C=>
   refine xm h (fun a ha h=>R.oneE ha fun u Ru=> ?_) fun Ω h=>x3 h fun q hq h=> ?_
   ·rw [C3X hq] at R
    obtain⟨v1,_,rfl,R1,R⟩:=R.consI
    obtain⟨v2,_,rfl,R2,R⟩:=R.consI
    obtain⟨v3,_,rfl,R3,R⟩:=R.consI
    obtain⟨v4,_,rfl,R4,R⟩:=R.consI
    obtain rfl:=R.nilI
    obtain rfl:=R2.sI.noneI
    obtain rfl:=R3.sI.noneI
    obtain rfl:=R4.sI.boolI
    refine xb h (fun e h=> ?_) fun Ω h=>x2 h fun e h=> ?_
    ·rw [a0D e]
     refine x2 (a0E h) fun hc h=>x1 h (x5 hc fun c1 c2=> ?_)
     obtain⟨a',ha⟩:=Option.isSome_iff_exists.mp c2
     have e:=A6f ha
     rw [e] at R1 ⊢
     exact A6O g ok room (a0B c1) (.inl rfl) (B9C _ _ _) R1
    ·rw [a0D e]
     refine x2 (a0E h) fun hc h=>x1 h (x5 hc fun c1 c2=> ?_)
     have c1:=a0B c1
     rcases B4j c2 with ⟨a',e⟩| ⟨x,n,e⟩
     ·rw [e] at R1 ⊢
      exact A6O g ok room c1 (.inr rfl) (C2o _ _ _) R1
     ·rw [e] at R1 ⊢
      exact A6O g ok room c1 (.inr rfl) (B9A _ _ _ _) R1
   ·refine xb h (fun e h=> ?_) fun Ω h=>x2 h fun Ω h=>x3 (a0E h) fun q hq h=>x2 h fun hb h=>x4 h fun p hp=> ?_
    ·rw [a0D e]
     exact x2 (a0E h) fun hb h=>x1 h (B5R g ok room (a0B hb) Ru)
    ·obtain⟨hm,ex⟩:=A7H hp
     exact x3 hq fun y hy hq=>B5P g ok room (a0B hb) hm (n:=q.2) (ex▸ (Ru.ofS hy).ofStr hq)
  | _=>exact x0 h}
noncomputable def hkZ (K:Frag):Hk:=(hkY K).or hkL
theorem A5d (g:GOk G):HkOk G 818 (hkZ G.K):=(B8h g).or (C2w g)
noncomputable def r5 (P:Params):Evs:=evs (KF P) fl 818 spH (hkZ (KF P)) 60
theorem GOk.r5 (h:GOk G):Snd G 818 (r5 G.w.params):=by
 have:=A0B (C₀:=818) h.gx (B0k h) (A5d h) 60
 rw [h.K] at this
 exact this
theorem A4E (g:GOk G){a:V}(h:(r5 G.w.params).S n (A0c G.w.params 1088) [("self",a),("version",.s .none)] (A0c G.w.params 1088).body=some res)(R:Reps G 818 Z vs [a]):
  Calls G 818 (n+1) Z 1088 ⟨vs,[]⟩ (fun H w=>FinRep G 818 H w res) (res.bad=true):=by
 obtain⟨s1,s2,s3,s4⟩:=B5x G.w.params
 have hb:=B8A G.w.params
 rw [←g.K] at s1 s2
 simp only [←g.K] at hb
 refine R.consE fun _ _ R1 R=> ?_
 rename_i v vs'
 refine R.nilE ?_
 refine B2w g.r5 (binds:= [("self",v),("version",.none)]) s1 s2 (fun s X=>kp_binds X fun S=>hb v S) (fun y hy=> ?_) (fun x r e=> ?_) h
 ·rcases a0T.mp hy with rfl| hy
  ·exact s3
  ·rw [a0L.mp hy];exact s4
 ·show ∃ w,List.lookup x [(("version" :Str),Value.none),("self",v)]=some w∧Rep G 818 Z w r
  exact lk1 (motive:=fun x r=> ∃ w,List.lookup x [(("version" :Str),Value.none),("self",v)]=some w∧Rep G 818 Z w r) e ⟨v,by rfl,R1⟩ fun e=>lk1 e ⟨.none,by rfl,.s .none⟩ fun e=>x0 e
theorem B6H (P:Params):A2V (KF P) 1107=some (A0c P 1107)∧A0H (KF P) 1107 (A0c P 1107)=true∧(A0c P 1107).scope.names.lookup ("self" :Str)=some .local∧(A0c P 1107).scope.names.lookup ("args" :Str)=some .local∧(A0c P 1107).scope.names.lookup ("kwargs" :Str)=some .local:=by and_intros<;>kernel_rfl
theorem A9s (g:GOk G){a:V}(h:(r5 G.w.params).S n (A0c G.w.params 1107) [("self",a)] (A0c G.w.params 1107).body=some res)(R:Reps G 818 Z vs [a]):
  Calls G 818 (n+1) Z 1107 ⟨vs,[]⟩ (fun H w=>FinRep G 818 H w res) (res.bad=true):=by
 obtain⟨s1,s2,s3,s4,s5⟩:=B6H G.w.params
 have hb:=B9y G.w.params
 rw [←g.K] at s1 s2
 simp only [←g.K] at hb
 refine R.consE fun _ _ R1 R=> ?_
 rename_i v vs'
 refine R.nilE ?_
 refine B2v g.r5 s1 s2 (hb v) .nil (fun C D y hy=> ?_) (fun C D x r e=> ?_) h
 ·exact fm (P:=fun y:Str×Value=>(A0c G.w.params 1107).scope.names.lookup y.1=some .local) s3 (fm s4 (fm s5 fn)) y hy
 ·exact lk1 e ⟨v,by rfl,R1⟩ fun e=>x0 e
noncomputable def dNd (m:SV)(p1 p2 s1 s2:SV)(wr vf:Bool)(lv:Nat):Option ND:=(B8Y m).bind fun q=>(A0x p1).bind fun ty=>(A0x p2).bind fun ps=>(A6C s1).bind fun ln=>(A0x s2).bind fun tx=>
 gd (ty.2==1&&ps.2==16&&ln.2.1==0&& (q.2.2==Bd lv&&ln.2.2==(Bd lv:Int)&&tx.2==Bd lv)) (some ⟨q.1,q.2.1,ln.1,tx.1,ty.1,ps.1,vf,wr⟩)
noncomputable def B8o (d:D):Option (Nat×ND):=(A1m d.meths).bind fun m=>(A7E d.props).bind fun p=>(A7E d.spec).bind fun s=>(A7E d.isa).bind fun i=>d.ver.bind fun vf=>((List.range 4).find? fun l=>d.n==Rm l).bind fun lv=>
 gd (d.own.isEmpty&&m.1== "compile" && (p.1.1== "type" &&p.2.1== "properties")&& (s.1.1== "__len__" &&s.2.1== "__str__")&& (i.1==(1308,true)&&i.2.1==2003)) ((dNd m.2 p.1.2 p.2.2 s.1.2 s.2.2 i.2.2 vf lv).map fun nd=>(lv,nd))
theorem C2S {m p1 p2 s1 s2:SV}{wr vf:Bool}{lv:Nat}{nd:ND}(h:dNd m p1 p2 s1 s2 wr vf lv=some nd):nd.vf=vf∧nd.wr=wr∧m= .bytes (nd.hd::nd.tl) (Bd lv)∧p1= .str nd.ty 1∧p2= .str nd.ps 16∧s1= .bint nd.ln 0 (Bd lv)∧s2= .str nd.tx (Bd lv):=by
 refine x3 h fun q hq h=>x3 h fun ty ht h=>x3 h fun ps hp h=>x3 h fun ln hl h=>x3 h fun tx hx h=>x2 h fun hc h=>x7 hc fun c1 c2 c3 hc=>x6 hc fun c4 c5 c6=> ?_
 obtain rfl:=a0E h
 exact⟨rfl,rfl,by rw [B7T hq,a0D c4],A0F (motive:=fun p=>p=_) ht (by rw [a0D c1]),A0F (motive:=fun p=>p=_) hp (by rw [a0D c2]),A6B (motive:=fun p=>p=_) hl (by rw [a0D c3,a0D c5]),A0F (motive:=fun p=>p=_) hx (by rw [a0D c6])⟩
theorem B4U {d:D}{q:Nat×ND}(h:B8o d=some q):q.1≤3∧d=A0d q.1 q.2:=by
 refine x3 h fun m hm h=>x3 h fun p hp h=>x3 h fun s hs h=>x3 h fun i hi h=>x3 h fun vf hv h=>x3 h fun lv hl h=>x2 h fun hc h=>x4e h fun nd hnd e=>x8 hc fun c1 c2 c3 c4 c5=>x5 c3 fun c3 c3'=>x5 c4 fun c4 c4'=>x5 c5 fun c5 c5'=> ?_
 subst e
 obtain⟨e1,e2,e3,e4,e5,e6,e7⟩:=C2S hnd
 refine⟨Nat.le_of_lt_succ (List.mem_range.mp (List.mem_of_find?_eq_some hl)),?_⟩
 have en:d.n=Rm lv:=a0D (List.find?_some (p:=fun l=>d.n==Rm l) hl)
 have em:d.meths= [(("compile" :Str),.bytes (nd.hd::nd.tl) (Bd lv))]:=A1b (motive:=fun l=>l=_) hm (by rw [←e3,←a0D c2])
 have ep:d.props= [(("type" :Str),.str nd.ty 1),(("properties" :Str),.str nd.ps 16)]:=A3Q (motive:=fun l=>l=_) hp (by rw [←e4,←e5,←a0D c3,←a0D c3'])
 have es:d.spec= [(("__len__" :Str),.bint nd.ln 0 (Bd lv)),(("__str__" :Str),.str nd.tx (Bd lv))]:=A3Q (motive:=fun l=>l=_) hs (by rw [←e6,←e7,←a0D c4,←a0D c4'])
 have ei:d.isa= [(1308,true),(2003,nd.wr)]:=A3Q (motive:=fun l=>l=_) hi (by rw [e2,←a0D c5,←a0D c5'])
 have eo:d.own= []:=A0O (motive:=fun l=>l= []) c1 rfl
 show D.mk d.n d.meths d.props d.own d.spec d.isa d.ver=A0d lv nd
 rw [en,em,ep,eo,es,ei,hv,←e1];rfl
noncomputable def B7F (a:V):Option ((Nat×ND)×Bool):=(A4L a).bind fun p=>gd (p.1==2245) ((A7E p.2).bind fun f=>gd (f.1.1== "args" &&f.2.1== "taproot") ((A5U f.1.2).bind fun l=>(A1m l).bind fun x=>(B0n x).bind fun d=>(A0V f.2.2).bind fun y=>(A2C y).bind fun tap=>(B8o d).map fun q=>(q,tap)))
theorem A8M {a:V}{q:(Nat×ND)×Bool}(h:B7F a=some q):q.1.1≤3∧a= .inst 2245 (fsN [.abs (A0d q.1.1 q.1.2)] q.2):=by
 refine x3 h fun p hp h=>x2 h fun hC h=>x3 h fun f hf h=>x2 h fun hn h=>x3 h fun l hl h=>x3 h fun x hx h=>x3 h fun d hd h=>x3 h fun y hy h=>x3 h fun tap ht h=>x4e h fun q' hq e=>x5 hn fun n1 n2=> ?_
 subst e
 obtain⟨h3,ed⟩:=B4U hq
 refine⟨h3,A4u (motive:=fun a=>a=_) hp ?_⟩
 have e1:f.1.2= .tup [.abs (A0d q'.1 q'.2)]:=A9a (motive:=fun a=>a=_) hl (A1b (motive:=fun l=>V.tup l=_) hx (B3u (motive:=fun x=>V.tup [x]=_) hd (by rw [ed])))
 have e2:f.2.2= .s (.bool tap):=A6A (motive:=fun a=>a=_) hy (A2l (motive:=fun y=>V.s y=_) ht rfl)
 rw [a0D hC,show p.2= [f.1,f.2] from A3Q (motive:=fun l=>l=_) hf rfl,show f.1=(("args" :Str),f.1.2) by rw [←a0D n1],show f.2=(("taproot" :Str),f.2.2) by rw [←a0D n2],e1,e2];rfl
noncomputable def spI (P:Params):Sp:=fun f rs=>
 bif f==1088 then (A1m rs).bind fun a=>((r5 P).S 40 (A0c P 1088) [("self",a),("version",.s .none)] (A0c P 1088).body).map fun res=>(41,res)
 else bif f==1107 then (A1m rs).bind fun a=>((r5 P).S 40 (A0c P 1107) [("self",a)] (A0c P 1107).body).map fun res=>(41,res)
 else bif f==2226 then (A1m rs).bind fun a=>(B7F a).map fun q=>(Rm q.1.1+7,.ret (.s (.bytes (vhd q.1.2.hd::vtl q.1.2.hd q.1.2.tl) (Bd q.1.1+1))))
 else spH f rs
theorem B7P (g:GOk G):C0L G 818 (spI G.w.params):=by
 intro f rs n res h Z vs R
 have one: ∀ {a:V},A1m rs=some a→Reps G 818 Z vs [a]:=fun e=>A1b (motive:=fun l=>Reps G 818 Z vs l→Reps G 818 Z vs [_]) e id R
 refine xb h (fun e h=>xs e (x3 h fun a ha h=>x4e h fun res' hx e=> ?_)) fun Ω h=>xb h (fun e h=>xs e (x3 h fun a ha h=>x4e h fun res' hx e=> ?_)) fun Ω h=>xb h (fun e h=>xs e (x3 h fun a ha h=>x4e h fun q hq e=> ?_)) fun Ω h=>B0k g f rs n res h Z vs R
 ·cases e;exact A4E g hx (one ha)
 ·cases e;exact A9s g hx (one ha)
 ·cases e
  obtain⟨h3,rfl⟩:=A8M hq
  exact(C0z g h3 (one ha)).mono (a0K _) Held.le.rfl (fun H w p=>p) fun x=>x.elim
noncomputable def r6 (P:Params):Evs:=evs (KF P) fl 818 (spI P) (hkZ (KF P)) 60
theorem GOk.r6 (h:GOk G):Snd G 818 (r6 G.w.params):=by
 have:=A0B (C₀:=818) h.gx (B7P h) (A5d h) 60
 rw [h.K] at this
 exact this
noncomputable def B2K (v:SV):V:= .inst 1164 [("num",.s v)]
noncomputable def A6F (k lo hi:Int):Loc:= [("self",B2K (.bint k lo hi))]
noncomputable def nuB (P:Params)(i:Nat):Stmt:=atS (A0c P 1147).body i
theorem B6a (P:Params):A2V (KF P) 1147=some (A0c P 1147)∧A0H (KF P) 1147 (A0c P 1147)=true∧A0r (A0c P 1147).params=some [("self" :Str)]∧(A0c P 1147).scope.names.lookup ("self" :Str)=some .local∧A1s (KF P) (A0c P 1147).dV=true∧
 (A0c P 1147).body= [.If (A1q (nuB P 0)) (A2U (nuB P 0)) [] (A6x (nuB P 0)),.If (A1q (nuB P 1)) (A2U (nuB P 1)) [] (A6x (nuB P 1)),nuB P 2,nuB P 3,nuB P 4]:=by and_intros<;>kernel_rfl
theorem C4h (P:Params)(k:Int):(r6 P).T 20 (nmF (KF P) (A0c P 1147) (A6F k 1 16)) (A1q (nuB P 0))=some false∧(r6 P).T 20 (nmF (KF P) (A0c P 1147) (A6F k 17 70000)) (A1q (nuB P 0))=some false∧
 (r6 P).T 20 (nmF (KF P) (A0c P 1147) (A6F k 1 16)) (A1q (nuB P 1))=some true∧(r6 P).T 20 (nmF (KF P) (A0c P 1147) (A6F k 17 70000)) (A1q (nuB P 1))=some false:=by and_intros<;>kernel_rfl
theorem B5Z (P:Params)(k:Int):(r6 P).S 20 (A0c P 1147) (A6F k 1 16) (A2U (nuB P 1))=some (.ret (.s (.bytes [(80+k).toNat.toUInt8] 1))):=by kernel_rfl
noncomputable def nuR (k:Int):List UInt8:=(B1W 32 k.toNat).reverse.dropWhile (· ==0)
theorem C6m (P:Params)(k:Int):B5D (KF P) (r6 P) 818 20 (A0c P 1147) (A6F k 17 70000) (nuB P 2)=some (.nxt ["b"] (("b",.s (.bytes (nuR k) 32))::A6F k 17 70000)):=by kernel_rfl
theorem B9n (P:Params)(k:Int)(h:UInt8)(t:List UInt8):(r6 P).S 20 (A0c P 1147) (("b",.s (.bytes (h::t) 32))::A6F k 17 70000) [nuB P 3,nuB P 4]=
 some (.ret (.s (.bytes ((bif decide ((h.toNat:Int)≥128) then [0]++ (h::t) else h::t)++ [((bif decide ((h.toNat:Int)≥128) then [0]++ (h::t) else h::t).length:Int).toNat.toUInt8]) (1+33)))):=by kernel_rfl
theorem mz {m:Nat}(m0:0<m)(h:n<256*m)(e:n / m%256=0):n<m:=by
 rw [Nat.mod_eq_of_lt (Nat.div_lt_of_lt_mul (Nat.mul_comm .. ▸h))] at e
 exact Nat.lt_of_div_eq_zero m0 e
theorem C2j {k:Nat}(h1:0<k)(h2:k<16777216): ∃ c∈B1W 32 k,(c==0)=false:=by
 have mem: ∀ j,j<32→(k / 256^j%256).toUInt8∈B1W 32 k:=fun j hj=>List.mem_map.mpr ⟨j,List.mem_range.mpr hj,rfl⟩
 have nz: ∀ n:Nat,n<256→n≠0→(n.toUInt8==0)=false:=fun n hn h0=>by
  refine a1L.mpr fun e=>h0 ?_
  have:=congrArg UInt8.toNat e
  have e2:n.toUInt8.toNat=n:=by
   show (UInt8.ofNat n).toNat=n
   rw [UInt8.toNat_ofNat']
   exact Nat.mod_eq_of_lt hn
  rw [e2] at this
  exact this
 by_cases a:k / 256^0%256=0
 ·by_cases b:k / 256^1%256=0
  ·have c:k / 256^2%256≠0:=fun e=>Nat.not_lt.mpr h1 (mz (m:=256^0) (by decide) (mz (m:=256^1) (by decide) (mz (m:=256^2) (by decide) h2 e) b) a)
   exact⟨_,mem 2 (by decide),nz _ (Nat.mod_lt _ (by decide)) c⟩
  ·exact⟨_,mem 1 (by decide),nz _ (Nat.mod_lt _ (by decide)) b⟩
 ·exact⟨_,mem 0 (by decide),nz _ (Nat.mod_lt _ (by decide)) a⟩
theorem A3H {α:Type}{p:α→Bool}: ∀ {l:List α},l.dropWhile p= []→ ∀ x∈l,p x=true
 | [],_,x,h=>nomatch h
 | a::l,e,x,h=>by
  cases ha:p a with
  | false=>rw [List.dropWhile_cons_of_neg (by rw [ha];decide)] at e;cases e
  | true=>
   rw [List.dropWhile_cons_of_pos ha] at e
   rcases a0T.mp h with rfl| h
   ·exact ha
   ·exact A3H e x h
theorem C1U {k:Int}(h1:17≤k)(h2:k≤70000): ∃ h t,nuR k=h::t:=by
 obtain⟨c,hc,h0⟩:=C2j (k:=k.toNat) (Int.lt_toNat.mpr (Int.lt_of_lt_of_le (by decide) h1)) ((Int.toNat_lt (a1E (by decide) h1)).mpr (a2U h2 (by decide)))
 cases e:nuR k with
 | cons h t=>exact⟨h,t,rfl⟩
 | nil=>
  unfold nuR at e
  have:=A3H e c (by simpa using hc)
  rw [h0] at this
  exact xf this
noncomputable def B1J (r:List UInt8):List UInt8:=bif decide (((r.headD 0).toNat:Int)≥128) then [0]++r else r
noncomputable def A1W (k:Int):List UInt8:=if k≤16 then [(80+k).toNat.toUInt8] else B1J (nuR k)++ [((B1J (nuR k)).length:Int).toNat.toUInt8]
set_option tactic.hygienic true in
theorem B9l {k lo hi lo' hi':Int}(R:Rep G 818 Z v (B2K (.bint k lo hi))):lo≤k∧k≤hi∧(lo'≤k→k≤hi'→Rep G 818 Z v (B2K (.bint k lo' hi'))):=by
 unfold B2K at R ⊢
 refine R.instE fun _ _ _ _ z1 z2 hf=> ?_
 cases hf with
 | cons R1 hf=>
  cases hf
  have R1:=R1.sI
  obtain⟨_,rfl,_,_⟩:=R1.bintI
  rename_i h1 h2
  exact⟨h1,h2,fun a b=> .inst z1 z2 (.cons (.s (.bint a b)) .nil)⟩
set_option tactic.hygienic true in
theorem B3E (g:GOk G){k lo hi:Int}(hlo:1≤lo)(hhi:hi≤70000)(R:Reps G 818 Z vs [B2K (.bint k lo hi)]):
  Calls G 818 21 Z 1147 ⟨vs,[]⟩ (fun H w=>Rep G 818 H w (.s (.bytes (A1W k) 34))) False:=by
 have X:=g.r6
 obtain⟨s1,s2,s3,s4,s5,s6⟩:=B6a G.w.params
 obtain⟨t1,t2,t3,t4⟩:=C4h G.w.params k
 have hsm:=B5Z G.w.params k
 have hb:=C6m G.w.params k
 have hlast:=B9n G.w.params k
 rw [←g.K] at s1 s2 s5 hb t1 t2 t3 t4
 have hl:vs.length=1:=R.length
 obtain⟨b1,b2,conv⟩:lo≤k∧k≤hi∧ ∀ lo' hi',lo'≤k→k≤hi'→Reps G 818 Z vs [B2K (.bint k lo' hi')]:=by
  refine R.consE fun _ _ R1 R=> ?_
  refine R.nilE ?_
  have:=fun lo' hi'=>B9l (lo':=lo') (hi':=hi') R1
  exact⟨(this 0 0).1,(this 0 0).2.1,fun lo' hi' a b=> .cons ((this lo' hi').2.2 a b) .nil⟩
 generalize A0c G.w.params 1147=d at*
 refine A3J (n:=20) (binds:=(["self"]:List Str).zip vs) s1 s2 (fun s X=>A0Z X s3 hl s5) (fun y hy=> ?_) (fun H H' v k p=>p.mono k) ?_
 ·obtain⟨y1,y2⟩:=y
  rw [a0L.mp (a2T hy).1];exact s4
 ·intro c A s Q E ok he room S le q en
  have hm: ∀ y,((["self"]:List Str).zip vs).reverse.lookup y=((["self"]:List Str).zip vs).lookup y:=fun y=>A0X (by rw [A1y hl];exact(by simp))
  have locs: ∀ lo' hi',lo'≤k→k≤hi'→Locs G 818 (vis c []) (fun y=>((["self"]:List Str).zip vs).reverse.lookup y) (A6F k lo' hi'):=fun lo' hi' a b x r e=>by
   obtain⟨v,h1,h2⟩:=A1L (ns:= ["self"]) (conv lo' hi' a b) (x:=x) (r:=r) e
   exact⟨v,(hm x).trans h1,h2.mono le⟩
  rw [s6]
  have fin: ∀ {own':List (Addr×Obj)} {mm m':Str→Option Value} {fl':Flow} {s':Shared} {x:List UInt8} {n:Nat},n≤34→x=A1W k→St c m' own' s'→FlRep G 818 (vis c own') mm m' fl' (.ret (.s (.bytes x n)))→Q fl' s':=by
   intro own' mm m' fl' s' x n hn hx S' R'
   obtain⟨v,rfl,hv⟩:=R'
   refine q own' m' _ s' S' ?_
   have hv:=hv.sI
   refine hv.bytesE fun _ _ _ _=> ?_
   rename_i h1 h2
   exact .s (.bytes (by rw [←hx];exact h1) (by rw [←hx];exact a0F h2 hn))
  have hEnv:EnvG c.env:=A0n he
  by_cases hk:k≤16
  ·have hl1:=locs 1 16 (a1E hlo b1) hk
   have T0:=X.T t1 ok room hEnv (A0f ok he hl1)
   refine a0N (A3B (pos:=A6x (nuB G.w.params 0)) T0 (fun own'=>A2h (hl1.mono A0a)) s _ E S (en.less fun z=>nomatch z) fun own' m' fl' s' S' R'=> ?_)
   obtain⟨rfl,hl2,_⟩:=R'
   have T1:=X.T t3 ok room hEnv (A0f ok he hl2)
   refine a0N (A3B (pos:=A6x (nuB G.w.params 1)) T1 (fun own''=>X.S hsm ok room he (hl2.mono A0a)) s' _ E S' (en.more.less fun z=>nomatch z) fun own'' m'' fl'' s'' S'' R''=> ?_)
   have e1: [(80+k).toNat.toUInt8]=A1W k:=by unfold A1W;rw [if_pos hk]
   obtain⟨v,rfl,hv⟩:=R''
   exact fin (mm:=m'') (by decide) e1 S'' ⟨v,rfl,hv⟩
  ·have c3:17≤k:=Int.not_le.mp hk
   have c2:=a1E b2 hhi
   have hl1:=locs 17 70000 c3 c2
   have T0:=X.T t2 ok room hEnv (A0f ok he hl1)
   refine a0N (A3B (pos:=A6x (nuB G.w.params 0)) T0 (fun own'=>A2h (hl1.mono A0a)) s _ E S (en.less fun z=>nomatch z) fun own' m' fl' s' S' R'=> ?_)
   obtain⟨rfl,hl2,_⟩:=R'
   have T1:=X.T t4 ok room hEnv (A0f ok he hl2)
   refine a0N (A3B (pos:=A6x (nuB G.w.params 1)) T1 (fun own''=>A2h (hl2.mono A0a)) s' _ E S' (en.more.less fun z=>nomatch z) fun own'' m'' fl'' s'' S'' R''=> ?_)
   obtain⟨rfl,hl3,_⟩:=R''
   refine a0N (A1A X hb ok room he hl3 s'' _ E S'' (en.more.more.less fun z=>nomatch z) fun own₃ m₃ fl₃ s₃ S₃ R₃=> ?_)
   obtain⟨rfl,hl4,_⟩:=R₃
   obtain⟨h,t,ht⟩:=C1U c3 c2
   rw [ht] at hl4
   refine X.S (hlast h t) ok room he hl4 s₃ _ E S₃ (en.more.more.more.less fun z=>nomatch z) fun own₄ m₄ fl₄ s₄ S₄ R₄=> ?_
   refine fin (mm:=m₃) (by decide) ?_ S₄ R₄
   unfold A1W B1J
   rw [if_neg hk,ht]
   rfl
noncomputable def C1S:V→Option (Int×Int×Int)
 | .inst C [(n,.s (.bint k lo hi))]=>gd (C==1164&&n== "num" &&decide (1≤lo)&&decide (hi≤70000)) (some (k,lo,hi))
 | _=>none
theorem B1I {v:V}{q:Int×Int×Int}(h:C1S v=some q):v=B2K (.bint q.1 q.2.1 q.2.2)∧1≤q.2.1∧q.2.2≤70000:=by
 cases v with
 | inst C fs=>
  cases fs with
  | nil=>exact x0 h
  | cons p fs=>
   obtain⟨n,v⟩:=p
   cases v with
   | s x=>
    cases x with
    | bint k lo hi=>
     cases fs with
     | nil=>
      refine x2 h fun hc h=>x7 hc fun h1 h2 h3 h4=> ?_
      refine x1 h ?_
      rw [a0D h1,a0D h2]
      exact⟨rfl,a0B h3,a0B h4⟩
     | cons _ _=>exact x0 h
    | _=>exact x0 h
   | _=>exact x0 h
 | _=>exact x0 h
noncomputable def spJ (P:Params):Sp:=fun f rs=>
 bif f==1147 then ((A1m rs).bind C1S).map fun q=>(21,.ret (.s (.bytes (A1W q.1) 34)))
 else spI P f rs
theorem A5S (g:GOk G):C0L G 818 (spJ G.w.params):=by
 intro f rs n res h Z vs R
 unfold spJ at h
 refine xb h (fun hf h=> ?_) fun Ω h=>B7P g f rs n res h Z vs R
 rw [a0D hf]
 refine x4e h fun q h1 e=>x3 h1 fun v hv hq=> ?_
 cases e
 obtain⟨rfl,l1,l2⟩:=B1I hq
 exact(B3E g l1 l2 (A1b (motive:=fun rs=>Reps G 818 Z vs rs→Reps G 818 Z vs [B2K (.bint q.1 q.2.1 q.2.2)]) hv id R)).mono (a0K _) Held.le.rfl (fun H w p=>p) fun x=>x.elim
noncomputable def r7 (P:Params):Evs:=evs (KF P) fl 818 (spJ P) (hkZ (KF P)) 60
theorem GOk.r7 (h:GOk G):Snd G 818 (r7 G.w.params):=by
 have:=A0B (C₀:=818) h.gx (A5S h) (A5d h) 60
 rw [h.K] at this
 exact this
theorem B1H (P:Params)(k:Int)(t:Bool):A5Y (KF P) (r7 P) 0 false 1423 [("args",.tup [B2K (.bint k 1 300)]),("taproot",.s (.bool t))]=some ⟨178,A1W k,(A1W k).length+0+1,tx1 "older" (dec k),"B","z",true,false⟩:=by kernel_rfl
theorem B2E (P:Params)(k:Int)(t:Bool):A5Y (KF P) (r7 P) 0 false 1442 [("args",.tup [B2K (.bint k 1 70000)]),("taproot",.s (.bool t))]=some ⟨177,A1W k,(A1W k).length+0+1,tx1 "after" (dec k),"B","z",true,false⟩:=by kernel_rfl
theorem C5Z {w:World}{n:Int}{t u:Tok}(h0:0≤n)(h1:n<10^10)
  (h: ∀ t' k,Q (.str (("thresh: X" ++dec n)++ " should be W") t') {s with toks:=k}):wpAny (model prog w) A (binaryOp .Mod (.str "thresh: X%d should be W" t) (.int n u)) Q E s:=by
 refine KPc.mod_int (T:=fun n=>("thresh: X" ++dec n)++ " should be W") (by kpc_eq) h0 h1 ?_ h
 kpc_run
theorem C3S {w:World}{n:Int}{t u:Tok}(h0:0≤n)(h1:n<10^10)
  (h: ∀ t' k,Q (.str (("thresh: X" ++dec n)++ " should be du") t') {s with toks:=k}):wpAny (model prog w) A (binaryOp .Mod (.str "thresh: X%d should be du" t) (.int n u)) Q E s:=by
 refine KPc.mod_int (T:=fun n=>("thresh: X" ++dec n)++ " should be du") (by kpc_eq) h0 h1 ?_ h
 kpc_run
set_option backward.match.sparseCases false in
noncomputable def C4w:Operator→Bool
 | .Mod=>true
 | _=>false
noncomputable def C2T:Const→Option Str
 | .str s=>some s
 | _=>none
noncomputable def B0T:Expr→Option Str
 | .Constant c _ _=>C2T c
 | _=>none
@[elab_as_elim] theorem B4A {e:Expr} {i:Str} {motive:Expr→Prop} (h:B0T e=some i) (q: ∀ k p,motive (.Constant (.str i) k p)):motive e:=by
 cases e with
 | Constant k n p=>cases k with
  | str=>exact x1' h (q n p)
  | _=>exact x0 h
 | _=>exact x0 h
noncomputable def C3U (x:Str):Option Str:=bif x== "thresh: X%d should be W" then some " should be W" else gd (x== "thresh: X%d should be du") (some " should be du")
noncomputable def hTh (r:Evs)(b:Nat)(η:A0w):Expr→Option (Option V)
 | .BinOp l op e _=>gd (C4w op) ((B0T l).bind fun x=>(C3U x).map fun t=>(((r.E b η e).bind A0V).bind A0U).bind fun i=>gd (decide (0≤i)&&decide (i<10^10)) (some (.s (.str (("thresh: X" ++dec i)++t) 60))))
 | _=>none
noncomputable def B2f:Expr→Option (List Expr)
 | .Tuple es _ _=>some es
 | _=>none
@[elab_as_elim] theorem A8i {e:Expr} {motive:Expr→Prop} (h:B2f e=some es) (q: ∀ k p,motive (.Tuple es k p)):motive e:=by
 cases e with
 | Tuple=>exact x1' h (q _ _)
 | _=>exact x0 h
noncomputable def A5g:Expr→Option (Str×List Expr)
 | .Call f args kws _=>(A1r f).bind fun x=>gd kws.isEmpty (some (x,args))
 | _=>none
@[elab_as_elim] theorem A4y {e:Expr} {x:Str×List Expr} {motive:Expr→Prop} (h:A5g e=some x) (q: ∀ p1 p2,motive (.Call (.Name x.1 p1) x.2 [] p2)):motive e:=by
 cases e with
 | Call f args kws p=>exact x3 h fun y hy h=>x2 h fun hk h=>by cases h;exact A0T hy fun p1=>A0O hk (q p1 p)
 | _=>exact x0 h
noncomputable def B7g (t:Expr):Option (Str×Str):=((B2f t).bind A7E).bind fun p=>(A1r p.1).bind fun x=>(A1r p.2).map fun y=>(x,y)
set_option backward.match.sparseCases false in
noncomputable def hEn (K:Frag)(r:Evs)(b:Nat)(d:Fd)(ρ:Loc):Stmt→Option (Option SRes)
 | .For t it body orelse _=>gd orelse.isEmpty ((B7g t).bind fun x=>(A5g it).bind fun f=>((nmF K d ρ f.1).bind C0G).bind fun g=>gd (A9v "enumerate" g) (some (gd (locals d x.1&&locals d x.2&&f.2.all A0g&&A0L K (.type "enumerate"))
  ((((A3M r b (nmF K d ρ) f.2).bind A1m).bind A5U).bind fun rs=>A7k r b d x.1 x.2 body 0 rs ρ))))
 | _=>none
noncomputable def C3B (K:Frag):Hk:= {Hk.nil with E:=hTh,S:=hEn K}
section
theorem C3k (n:Int)(h0:0≤n)(h1:n<10^10)(a b:Str)(ha:a.length≤20)(hb:b.length≤20):((a++dec n)++b).length≤60:=by
 rw [PySem.Str.length_append,PySem.Str.length_append]
 have:=A9O h0 h1
 lia
theorem B0W {e:Expr}{k:Nat}{p:Pos}{i:Int}{t:Str}(c1:0≤i)(c2:i<10^10)(hl:t.length≤20)
  (f: ∀ {A:Around} {s:Shared} {Q:Value→Shared→Prop} {E:Value→Shared→Prop} {t' u:Tok},(∀ t' k,Q (.str (("thresh: X" ++dec i)++t) t') {s with toks:=k})→wpAny G.M A (binaryOp .Mod (.str x t') (.int i u)) Q E s)
  (he: ∀ own',Ev G C₀ c A m (own'++own) (eval e env) (.s (.int i))):Ev G C₀ c A m own (eval (.BinOp (.Constant (.str x) k p) .Mod e pos) env) (.s (.str (("thresh: X" ++dec i)++t) 60)):=by
 intro s Q E S q
 refine wpAny_BinOp (A8j (C₀:=C₀) (G:=G) (A:=A) s _ E S fun own' va s' S' R=>he own' s' _ E S' fun own'' vb s'' S'' R'=> ?_)
 refine R.sI.strE fun Ω Ω=>R'.sI.intE fun Ω=>f fun t' kk=>q (own''++own') _ _ (by rw [a0C];exact S''.tok _) (.s (.str (C3k i c1 c2 _ _ (by decide+kernel) hl)))
theorem hkEn_ok:HkOk G C₀ (C3B G.K):= {HkOk.nil with
 E:=fun {r b η e v} X h {c A m own env} ok room hg hn=>by
  cases e with
  | BinOp l op e pos=>
   refine x2 h fun ho h=>x3 h fun x hx h=>x4e h fun t ht h=>x3 h.symm fun i hi h=>x2 h fun hc h=>x1 h (x5 hc fun c1 c2=>B4A hx fun k p=> ?_)
   have c1:=a0B c1
   have c2:=a0B c2
   have he:=fun own'=>X.E (A0i (A2B hi)) ok room hg (hn.more own')
   cases op with
   | Mod=>
    refine xb ht (fun e h=>x1 h ?_) fun Ω h=>x2 h fun e h=>x1 h ?_
    ·rw [a0D e]
     exact B0W c1 c2 (by decide+kernel) (C5Z c1 c2) he
    ·rw [a0D e]
     exact B0W c1 c2 (by decide+kernel) (C3S c1 c2) he
   | _=>exact xf ho
  | _=>exact x0 h
 S:=fun {r b d ρ st res} X h {f c A m own} ok room he hl=>by
  cases st with
  | For t it body orelse pos=>
   refine x2 h fun ho h=>x3 h fun x hx h=>x3 h fun g hg h=>x3 h fun u hu h=>x2 h fun hT h=>x2 (a0E h) fun hc h=>x7 hc fun c1 c2 c3 c4=>x3 h fun rs hrs h=>A0O ho (A4y hg fun np cpos=> ?_)
   refine x3 hx fun p hp hx=>x3 hx fun xi hi hx=>x4e hx fun xv hv e=>x3 hp fun es hes hp=>A8i hes fun kk pt=>A3Q hp (A0T (motive:=fun e=>Ex G C₀ c A m own (exec (.For (.Tuple [e,p.2] kk pt) _ _ _ _) c.env) res) hi fun pi=>A0T (motive:=fun e=>Ex G C₀ c A m own (exec (.For (.Tuple [_,e] kk pt) _ _ _ _) c.env) res) hv fun pv=> ?_)
   subst e
   have hn:NamesOk G C₀ c A m own c.env (nmF G.K d ρ):=A0f ok he hl
   have hrs:A3M r b (nmF G.K d ρ) g.2=some [.tup rs]:=x3 hrs fun a ha h=>x3 ha fun l hl ha=>hl.trans (by rw [show a= .tup rs from A9a (motive:=fun a=>a= .tup rs) h rfl] at ha;exact congrArg some (A1b (motive:=fun l=>l= [V.tup rs]) ha rfl))
   exact B2e X ok room he (a0D c1) (a0D c2) hl c3 c4 (hn g.1 np _ [] ((A9b hu).trans (by rw [B0H hT]))) (fun own'=>A0u X ok room (A0n he) hrs (hn.more own')) h
  | _=>exact x0 h}
end
noncomputable def r8 (P:Params):Evs:=evs (KF P) fl 818 (spJ P) ((C3B (KF P)).or (hkZ (KF P))) 60
theorem GOk.r8 (h:GOk G):Snd G 818 (r8 G.w.params):=by
 have:=A0B (C₀:=818) h.gx (A5S h) (hkEn_ok.or (A5d h)) 60
 rw [h.K] at this
 exact this
noncomputable def B1K (lv:Nat)(x:ND)(z o n d u:Bool):D:=⟨Rm lv,[("compile",.bytes (x.hd::x.tl) (Bd lv))],[("type",.str x.ty 1),("properties",.pstr x.ps z o n d u)],[],[("__len__",.bint x.ln 0 (Bd lv)),("__str__",.str x.tx (Bd lv))],[(1308,true),(2003,x.wr)],some x.vf⟩
theorem B3F {a:Addr}{lv:Nat}{x:ND}(c:Con G C₀ Z a (A0d lv x)):Con G C₀ Z a (B1K lv x (A2x x.ps 122) (A2x x.ps 111) (A2x x.ps 110) (A2x x.ps 100) (A2x x.ps 117)):=by
 refine c.weak (show Rm lv≤Rm lv from a0K _) (fun p hp=>⟨p.2,hp,fun _ h=>h⟩) (fun p hp=> ?_) (fun p hp=>(nomatch hp)) (fun p hp=>⟨p.2,hp,fun _ h=>h⟩) (fun p hp=>hp) fun b h=>h
 rcases a0T.mp hp with rfl| hp
 ·exact⟨_,a1G ..,fun u h=>h⟩
 ·rw [a0L.mp hp]
  exact⟨_,a0P _ (.head _),fun u hu=>by refine hu.strE fun _ _=> ?_;rename_i h1;exact .pstr h1⟩
noncomputable def fsA (l:List V)(tap:Bool):List (Str×V):= [("args",.tup l),("taproot",.s (.bool tap))]
noncomputable def nd1 (lv:Nat)(x:ND):V:= .abs (A0d lv x)
noncomputable abbrev mkN (P:Params)(lv:Nat)(wr:Bool)(C:Addr)(l:List V)(tap:Bool):Option ND:=A5Y (KF P) (r8 P) lv wr C (fsA l tap)
noncomputable def C3w (k:Int):V:= .inst 1164 [("num",.s (.int k))]
noncomputable def C1T (k:Int):AD:=⟨(80+k).toNat.toUInt8,[],1,dec k⟩
noncomputable def C3T (xz yz zz xo yo zo:Bool):Str:=
 let s:Str:=bif xz&&yz&&zz then ("" :Str)++ ("z" :Str) else ("" :Str)
 (bif (bif xz then (bif yz then !zz&&zo else zz&&yo) else yz&&zz&&xo) then s++ ("o" :Str) else s)++ ("du" :Str)
noncomputable def C4j (k:AD)(x y z:ND)(xz yz zz xo yo zo xd xu yd yu zd zu:Bool):ND:=⟨0x87,k.cb++ ((0x93::z.cb)++ (0x93::y.cb)++x.cb),k.ln+ (x.ln+ (y.ln+ (z.ln+0)))+4 - 1,tx4 "thresh" k.tx x.tx y.tx z.tx,"B",
 C3T xz yz zz xo yo zo,
 A1l (A1l x.vf (A1l y.vf (tt z.vf))) (no (x.ty != "B") (no (!xd|| !xu) (no (y.ty != "W") (no (!yd|| !yu) (no (z.ty != "W") (no (!zd|| !zu) true)))))),false⟩
noncomputable def C5M:List (Addr× (ND→ND)):= [(2046,ndA),(2089,ndS),(2132,ndC),(2166,ndT),(2245,ndV),(2281,ndJ),(2324,ndN),(2367,ndL),(2393,ndU)]
noncomputable def C5L:List (Addr× (ND→ND→ND)):= [(1623,A3s),(1664,A3u),(1713,A3t),(1754,A6I),(1795,A6H),(1836,A6G),(1885,A4S)]
noncomputable def B8t:List (Bool×Bool×Bool):= [(false,false,false),(false,false,true),(false,true,false),(false,true,true),(true,false,false),(true,false,true),(true,true,false),(true,true,true)]
def B8w (P:Params)(lv:Nat):Prop:= ∀ (x:ND),(∀ tap,∀ q∈C5M,mkN P (lv+1) true q.1 [nd1 lv x] tap=some (q.2 x))∧ ∀ tap∈ [true,false],mkN P (lv+1) true 2209 [nd1 lv x] tap=some (ndD tap x)
def B8v (P:Params)(lv:Nat):Prop:= ∀ (x y z:ND) (tap:Bool),(∀ q∈C5L,mkN P (lv+1) false q.1 [nd1 lv x,nd1 lv y] tap=some (q.2 x y))∧mkN P (lv+1) false 1574 [nd1 lv x,nd1 lv y,nd1 lv z] tap=some (A1d x y z)
def B8u (P:Params)(lv:Nat):Prop:= ∀ (tap:Bool) (x y z:ND) (xo xn xd xu yo yn yd yu zo zn zd zu:Bool),∀ k∈ ([1,2,3]:List Int),∀ q∈B8t,mkN P (lv+1) false 1924 [C3w k,.abs (B1K lv x q.1 xo xn xd xu),.abs (B1K lv y q.2.1 yo yn yd yu),.abs (B1K lv z q.2.2 zo zn zd zu)] tap=some (C4j (C1T k) x y z q.1 q.2.1 q.2.2 xo yo zo xd xu yd yu zd zu)
theorem B0v (P:Params):B8w P 2:=fun x=>⟨fun tap=>a0Y.mp (by kernel_rfl),a0Y.mp (by kernel_rfl)⟩
theorem B0u (P:Params):B8w P 3:=fun x=>⟨fun tap=>a0Y.mp (by kernel_rfl),a0Y.mp (by kernel_rfl)⟩
theorem B0t (P:Params):B8v P 2:=fun x y z tap=>⟨a0Y.mp (by kernel_rfl),by kernel_rfl⟩
theorem B0s (P:Params):B8v P 3:=fun x y z tap=>⟨a0Y.mp (by kernel_rfl),by kernel_rfl⟩
theorem B6c (P:Params):B8u P 2:=fun tap x y z xo xn xd xu yo yn yd yu zo zn zd zu k hk=>a0Y.mp (by simp only [a0T,List.not_mem_nil,or_false] at hk;rcases hk with rfl| rfl| rfl<;>kernel_rfl)
theorem B6b (P:Params):B8u P 3:=fun tap x y z xo xn xd xu yo yn yd yu zo zn zd zu k hk=>a0Y.mp (by simp only [a0T,List.not_mem_nil,or_false] at hk;rcases hk with rfl| rfl| rfl<;>kernel_rfl)
theorem B6d (P:Params)(tap:Bool)(x:ND): ∀ q∈ [(2046,ndA),(2089,ndS),(2245,ndV)],mkN P 2 true q.1 [nd1 1 x] tap=some (q.2 x):=a0Y.mp (by kernel_rfl)
theorem B6e (P:Params): ∀ (tap:Bool) (x:ND),mkN P 1 true 2132 [nd1 0 x] tap=some (ndC x):=fun tap x=>by kernel_rfl
noncomputable def A5Q (d:Fd)(ts:List Expr):List Str:=ts.filterMap fun
 | .Name id pos=>if d.scope.names.lookup id==some .local&&pos.line==(ts.head?.map (·.pos.line)).getD 0 then some id else none
 | _=>none
noncomputable def B1M (vs:List Expr):Bool:= !(vs.any fun| .Starred .. =>true| _=>false)
noncomputable def A4F (d:Fd)(ts vs:List Expr):Option (List Str):=
 gd ((ts.length==2|| ts.length==3)&&vs.length==ts.length&&B1M vs&& (A5Q d ts).length==ts.length&& ((A5Q d ts).eraseDups.length==(A5Q d ts).length&& !(vs.all (foldedForSure 8))&& !(vs.all (constantsAlone 8)))) (some (A5Q d ts))
theorem A3X {ts vs:List Expr}{xs:List Str}{k k2:Nat}{tp p2:Pos}(h:A4F d ts vs=some xs)(hk: ∀ x,env.kindOf x=d.scope.names.lookup x)(hb:env.blockKind= .function):
  swappedStores [.Tuple ts k tp] (.Tuple vs k2 p2) env=pure (some xs):=by
 refine x2 h fun hc h=>x8 hc fun c1 c2 c3 c4 hc=>x6 hc fun c5 c6 c7=>x1 h ?_
 have c6:=xn c6
 have c7:=xn c7
 have c3:=xn c3
 have e1:(!(ts.length==2|| ts.length==3)|| vs.length !=ts.length|| env.blockKind != .function)=false:=by rw [c1,hb,a0D c2,a1V];rfl
 have ek:(ts.filterMap fun e=>match e with
   | .Name id pos=>if env.kindOf id==some .local&&pos.line==(ts.head?.map (·.pos.line)).getD 0 then some id else none
   | _=>none)=A5Q d ts:=by
  unfold A5Q
  rw [show env.kindOf=fun x=>d.scope.names.lookup x from funext hk]
 unfold swappedStores
 refine(if_neg (by rw [e1];decide)).trans ?_
 refine(if_neg (fun e=>a2W (c3.symm.trans e))).trans ?_
 rw [←ek] at c4 c5 ⊢
 refine(if_neg (fun e=> ?_)).trans ?_
 ·have e:((_ !=ts.length)|| _:Bool)=true:=e
  rw [Bool.or_eq_true,bne_iff_ne,bne_iff_ne] at e
  exact e.elim (fun z=>z (a0D c4)) (fun z=>z (a0D c5))
 refine(if_neg (fun e=>a2W (c6.symm.trans e))).trans ?_
 exact(if_neg (fun e=>a2W (c7.symm.trans e))).trans rfl
section
variable {r:Evs}
theorem B2C {Q:Unit→Shared→Prop}(ok:c.Ok G A)(he:c.env=d.env f c.L)(xs:List Str): ∀ (vs:List Value) (rs:List V) (m:Str→Option Value) (ρ:Loc) (s:Shared),(∀ x∈xs,d.scope.names.lookup x=some .local)→
  vs.length=xs.length→Reps G C₀ (vis c own) vs rs→Locs G C₀ (vis c own) m ρ→St c m own s→(∀ m' s',St c m' own s'→Locs G C₀ (vis c own) m' (A3k xs rs ρ)→(∀ y,y∉xs→m' y=m y)→Q () s')→wpAny G.M A (assignInOrder (xs.map fun n=>bindName c.env n) vs) Q E s:=by
 induction xs with
 | nil=>
  intro vs rs m ρ s hk hl R hρ S q
  have e:rs= []:=List.length_eq_zero_iff.mp (R.length.symm.trans hl)
  subst e
  rw [R.nilI]
  exact a0I (q m s S hρ fun Ω Ω=>rfl)
 | cons x rest ih=>
  intro vs rs m ρ s hk hl R hρ S q
  cases rs with
  | nil=>exact absurd (R.length.symm.trans hl) (by simp)
  | cons r rs=>
   obtain⟨v,vs,rfl,h,R'⟩:=R.consI
   show wpAny G.M A (assignInOrder ((fun v=>bindName c.env x v)::rest.map fun n=>bindName c.env n) (v::vs)) Q E s
   have step:wpAny G.M A (bindName c.env x v) (fun Ω s'=>wpAny G.M A (assignInOrder (rest.map fun n=>bindName c.env n) vs) Q E s') E s:=
    PyProof.Rows.bindName_ (A0o ok he (hk x (.head _)) S fun s' S'=>ih vs rs _ _ s' (fun y hy=>hk y (.tail _ hy)) (Nat.succ.inj hl) R' (hρ.set h) S' fun m' s' S' l e=>q m' s' S' l fun y hy=>(e y fun q=>hy (.tail _ q)).trans (if_neg fun (z:y=x)=>hy (z▸a1G ..)))
   exact a0A (a0R step)
theorem Reps.rev: ∀ {vs:List Value},Reps G C₀ Z vs rs→Reps G C₀ Z vs.reverse rs.reverse:=by
 induction rs with
 | nil=>exact fun R=>R.nilE .nil
 | cons a rs ih=>exact fun R=>R.consE fun v vs b R=>by rw [a2E,a2E];exact(ih R).app (.cons b .nil)
theorem A3C {ts:List Expr}{k:Nat}{tp:Pos}{xs:List Str}(ok:c.Ok G A)(he:c.env=d.env f c.L)(hw:swappedStores [.Tuple ts k tp] value c.env=pure (some xs))(hk: ∀ x∈xs,d.scope.names.lookup x=some .local)(hx:xs.length=rs.length)
  (hl:Locs G C₀ (vis c own) m ρ) (h:Ev G C₀ c A m own (eval value c.env) (.tup rs)):Ex G C₀ c A m own (exec (.Assign [.Tuple ts k tp] value pos) c.env) (.nxt xs.reverse (A3k xs.reverse rs.reverse ρ)):=by
 intro s Q E S e q
 have hsw:swapsWithSole [.Tuple ts k tp] value pos.line c.env=pure false:=by
  unfold swapsWithSole swapsWith
  cases value<;>rfl
 refine Assign_Tuple_swapped (names:=xs) (h s _ E S fun own' v s' S' R=> ?_) hsw hw
 obtain⟨l,vs,nn,rfl,hz,R⟩:=R.tupI
 have hT:s'.heap.IsTuple l vs.toArray:=⟨_,S'.get ok hz,rfl,nn,rfl⟩
 have hlen:xs.length=vs.toArray.size:=hx.trans R.length.symm
 rw [hlen]
 refine wpAny_unpackItems_tuple ok.free hT fun h' x'=> ?_
 refine B2C ok he xs.reverse vs.reverse rs.reverse m ρ _ (fun x hx=>hk x (List.mem_reverse.mp hx)) (by rw [a0O,a0O,R.length,hx]) R.rev (hl.mono A0a) (S'.ext x') fun m' s'' S'' hl' hm=> ?_
 exact q own' m' _ s'' S'' ⟨rfl,hl',hm⟩
noncomputable def swE (r:Evs)(K:Frag)(b:Nat)(d:Fd)(ρ:Loc)(value:Expr)(xs:List Str):Option SRes:=gd (xs.all (locals d)) (((r.E b (nmF K d ρ) value).bind A5U).bind fun rs=>gd (xs.length==rs.length) (some (.nxt xs.reverse (A3k xs.reverse rs.reverse ρ))))
noncomputable def hSw (r:Evs)(K:Frag)(b:Nat)(d:Fd)(ρ:Loc):Stmt→Option (Option SRes)
 | .Assign ts value _=>(A1m ts).bind fun t=>(B2f t).bind fun ts=>(B2f value).bind fun vs=>(A4F d ts vs).map (swE r K b d ρ value)
 | _=>none
noncomputable def C4D (K:Frag):Hk:= {Hk.nil with S:=fun r b=>hSw r K b}
theorem hkSw_ok:HkOk G C₀ (C4D G.K):= {HkOk.nil with
 S:=fun {r b d ρ st res} X h {f c A m own} ok room he hl=>by
  cases st with
  | Assign ts value pos=>
   refine x3 h fun t h1 h=>x3 h fun ts' h2 h=>x3 h fun vs h3 h=>x4e h fun xs hx h=>x2 h.symm fun hc h=>x3 h fun rs hr h=>x2 h fun hlen h=>x1 h (A1b h1 (A8i h2 fun k tp=> ?_))
   refine A3C ok he (A8i (motive:=fun value=>swappedStores [.Tuple ts' k tp] value c.env=pure (some xs)) h3 fun k2 p2=>A3X hx (fun x=>by rw [he];rfl) ?_) (fun x hx=>a0D (a0J.mp hc x hx)) (a0D hlen) hl (X.E (A7D hr) ok room (A0n he) (A0f ok he hl))
   unfold Env.blockKind
   rw [ok.kind];rfl
  | _=>exact x0 h}
end
noncomputable def r9 (P:Params):Evs:=evs (KF P) fl 818 (spJ P) ((C4D (KF P)).or ((C3B (KF P)).or (hkZ (KF P)))) 60
theorem GOk.r9 (h:GOk G):Snd G 818 (r9 G.w.params):=by
 have:=A0B (C₀:=818) h.gx (A5S h) (hkSw_ok.or (hkEn_ok.or (A5d h))) 60
 rw [h.K] at this
 exact this
noncomputable def kw (i:Nat):UInt8:=i.toUInt8
noncomputable def B5r (i:Nat):Str:=⟨#[(B6V (i / 16)).toNat,(B6V (i%16)).toNat]⟩
noncomputable def C3y (i:Nat)(t:Bool):V:= .inst 1091 (A5C (B3y (.s (.bytes (List.replicate 32 (kw i)++ [2]) 33))) t)
noncomputable def khI (i:Nat)(t:Bool):V:= .inst 1124 (A5C (B3y (.s (.bytes (List.replicate 32 (kw i)++ [2]) 33))) t)
noncomputable def khW (i:Nat)(t:Bool):V:= .inst 1124 (A5C (.s (.str (Txt.mul (B5r i) 20) 40)) t)
noncomputable def B4c (i:Nat)(t:Bool):AD:=bif t then ⟨kw i,List.replicate 31 (kw i)++ [32],33,⟨#[48,50]⟩++Txt.mul (B5r i) 32⟩ else ⟨kw i,List.replicate 31 (kw i)++ [2,33],34,⟨#[48,50]⟩++Txt.mul (B5r i) 32⟩
noncomputable def C5p (m:List UInt8):List UInt8:=(B1W 32 (B9r (1::m)*B9r (1::m)*48181483302151357469556550866566148933% (2^255 - 19))).reverse
noncomputable def B2d (m:List UInt8):List UInt8:=(C5p ([114,105,112,101,109,100,49,54,48]++C5p m)).take 20
noncomputable def C1H (l:List UInt8)(ln:Int)(tx:Str):AD:=⟨l.reverse.headD 0,l.reverse.tail,ln,tx⟩
noncomputable def khA (i:Nat)(t:Bool):AD:=C1H (20::B2d (bif t then List.replicate 32 (kw i) else 2::List.replicate 32 (kw i))) 21 (⟨#[48,50]⟩++Txt.mul (B5r i) 32)
noncomputable def A3n (i k:Nat):AD:=C1H (k.toUInt8::List.replicate k (kw i)) (k+1) (Txt.mul (B5r i) k)
noncomputable def C0H (C:Addr)(i k:Nat):V:=C5v C ((B6V (i / 16)).toNat,(B6V (i%16)).toNat,k)
noncomputable def A6N (P:Params)(C:Addr)(a:V)(t:Bool):Option ND:=A5Y (KF P) (r7 P) 0 false C [("args",.tup [a]),("taproot",.s (.bool t))]

set_option backward.match.sparseCases false in
noncomputable def SRes.win:SRes→SRes
 | .ite b x y=>match b with
  | true=>x.win
  | false=>y.win
 | r=>r
noncomputable def lfρ (ds:List (Int×Int))(q:Int)(sc:V)(p:Int)(t:Bool)(w:Addr):Loc:= [("pick",.s (.dig ds q)),("script",sc),("place",.s (.int p)),("tap",.s (.bool t)),("words",.k (.ref w))]
noncomputable def lfB (P:Params):List Stmt:=(A0c P 2418).body.drop 1
noncomputable abbrev lfS (P:Params)(sc:V)(p q:Int)(t:Bool)(w:Addr)(ds:List (Int×Int)):Option SRes:=((r9 P).S 40 (A0c P 2418) (lfρ ds q sc p t w) (lfB P)).map SRes.win
section
variable {r:Evs}
theorem SRes.win_bad:res.win.bad=res.bad:=by
 induction res with
 | ite b x y hx hy=>cases b with
  | true=>exact hx
  | false=>exact hy
 | _=>rfl
theorem FlRep.win {m':Str→Option Value}{fl:Flow}:FlRep G C₀ Z m m' fl res→FlRep G C₀ Z m m' fl res.win:=by
 induction res with
 | ite b x y hx hy=>cases b with
  | true=>exact hx
  | false=>exact hy
 | _=>exact id
theorem Ex.win {t:Sem Flow}(h:Ex G C₀ c A m own t res):Ex G C₀ c A m own t res.win:=fun s Q E S en q=>
 h s Q E S (en.less fun z=>by rw [SRes.win_bad];exact z) fun own' m' fl s' S' R=>q own' m' fl s' S' R.win
theorem Ex.winO {t:Sem Flow}{o:Option SRes}(e:o.map SRes.win=some res)(h: ∀ r,o=some r→Ex G C₀ c A m own t r):Ex G C₀ c A m own t res:=by
 exact x4 e fun r h1=>(h r h1).win
theorem Ex.retW {t:Sem Flow}{v v':V}(h:Ex G C₀ c A m own t (.ret v))(k: ∀ Z w,Rep G C₀ Z w v→Rep G C₀ Z w v'):Ex G C₀ c A m own t (.ret v'):=fun s Q E S en q=>
 h s Q E S en fun own' m' fl s' S' R=>q own' m' fl s' S' (let ⟨w,e,R⟩:=R; ⟨w,e,k _ _ R⟩)
theorem Locs.conv {a b:V}(h:Locs G C₀ Z m ((x,a)::ρ))(k: ∀ w,Rep G C₀ Z w a→Rep G C₀ Z w b):Locs G C₀ Z m ((x,b)::ρ):=h.up k
theorem Locs.sub {ρ':Loc}(h:Locs G C₀ Z m ρ)(k: ∀ x r,ρ'.lookup x=some r→ρ.lookup x=some r):Locs G C₀ Z m ρ':=fun x r e=>h x r (k x r e)
theorem A0G {st:Stmt}{rest:List Stmt}{as:List Str}{ρ':Loc}(h:Ex G C₀ c A m own (exec st env) (.nxt as ρ'))
  (k: ∀ own' m',Locs G C₀ (vis c (own'++own)) m' ρ'→Ex G C₀ c A m' (own'++own) (execs rest env) res):Ex G C₀ c A m own (execs (st::rest) env) (res.pre as):=by
 intro s Q E S en q
 refine a0N (h s _ E S (en.less fun x=>nomatch x) fun own' m' fl s' S' R=> ?_)
 obtain⟨rfl,hl,hm⟩:=R
 rw [SRes.bad_pre] at en
 exact k own' m' hl s' Q E S' en.more fun own'' m'' fl s'' S'' R=>q (own''++own') m'' fl s'' S''.asc (by rw [a0C];exact R.pre hm)
noncomputable def B8V:Stmt→Option (Expr×Expr)
 | .Assign ts v _=>(A1m ts).map fun t=>(t,v)
 | _=>none
@[elab_as_elim] theorem B7O {st:Stmt} {x:Expr×Expr} {motive:Stmt→Prop} (h:B8V st=some x) (q: ∀ p,motive (.Assign [x.1] x.2 p)):motive st:=by
 cases st with
 | Assign ts v p=>exact x4 (motive:=fun x=>(∀ p,motive (.Assign [x.1] x.2 p))→motive (.Assign ts v p)) h (fun t ht q=>A1b ht (q p)) q
 | _=>exact x0 h
noncomputable def C5N (st:Stmt):Option (Str×Str×List Expr):=(B8V st).bind fun a=>(A1r a.1).bind fun x=>(A5g a.2).map fun f=>(x,f.1,f.2)
noncomputable def C0K (st:Stmt):Str×Str×List Expr:=(C5N st).getD (Str.empty,Str.empty,[])
noncomputable def B5l (st:Stmt):Str:=(C0K st).1
noncomputable def B7z (st:Stmt):Str:=(C0K st).2.1
noncomputable def A7q (st:Stmt):List Expr:=(C0K st).2.2
noncomputable def A8H (st:Stmt):Bool:=(C5N st).any fun q=>q.2.2.all A0g
theorem B5m {α:Type}{o:Option α}{t:α→Bool}(h:o.any t=true): ∃ a,o=some a∧t a=true:=by
 cases o with
 | none=>exact xf h
 | some a=>exact⟨a,rfl,h⟩
theorem A4c {st:Stmt}{fv:Value}{v:V}(X:Snd G C₀ r)(ok:c.Ok G A)(room:Room A b)(he:c.env=d.env f c.L)(hl:Locs G C₀ (vis c own) m ρ)(h:A8H st=true)(hx:d.scope.names.lookup (B5l st)=some .local)(hf:nmF G.K d ρ (B7z st)=some (.k fv))(hk:A0L G.K fv=true)
  (ha:A3M r b (nmF G.K d ρ) (A7q st)=some rs) (hc: ∀ own' vs,Reps G C₀ (vis c (own'++own)) vs rs→EvR G C₀ c A m (own'++own) False (call fv vs) (fun Z w=>Rep G C₀ Z w v)):Ex G C₀ c A m own (exec st c.env) (.nxt [B5l st] ((B5l st,v)::ρ)):=by
 obtain⟨q,hq,h⟩:=B5m h
 rw [B5l,C0K,hq] at hx ⊢
 rw [B7z,C0K,hq] at hf
 rw [A7q,C0K,hq] at ha
 have hn:NamesOk G C₀ c A m own c.env (nmF G.K d ρ):=A0f ok he hl
 refine x3 hq fun a h1 hq=>x3 hq fun x h2 hq=>x4e hq fun g h3 e=> ?_
 subst e
 exact B7O h1 fun pos=>A0T (motive:=fun e=>Ex G C₀ c A m own (exec (.Assign [e] a.2 pos) c.env) (.nxt [x] ((x,v)::ρ))) h2 fun px=>A4y (motive:=fun e=>Ex G C₀ c A m own (exec (.Assign [.Name x px] e pos) c.env) (.nxt [x] ((x,v)::ρ))) h3 fun np cpos=>
  A5f ok he hx rfl hl ((A0z ok h hk (hn g.1 np _ [] hf) (fun own'=>A0u X ok room (A0n he) ha (hn.more own')) hc).evF)
theorem A1I {ns:List Str}(s1:A2V G.K f=some d)(s2:A0H G.K f d=true)(hp:A0r d.params=some ns)(hloc:ns.all (fun x=>d.scope.names.lookup x==some .local)=true)(hd:A1s G.K d.dV=true)(hlen:ns.length=rs.length)(R:Reps G C₀ Z vs rs)
  (h: ∀ {c:Fc} {A:Around} {m:Str→Option Value},c.Ok G A→c.env=d.env f c.L→Room A n→Locs G C₀ (vis c []) m (ns.zip rs)→Ex G C₀ c A m [] (execs d.body c.env) res):
  Calls G C₀ (n+1) Z f ⟨vs,[]⟩ (fun H w=>FinRep G C₀ H w res) (res.bad=true):=by
 have hl:vs.length=ns.length:=by rw [R.length,hlen]
 refine A3J (binds:=ns.zip vs) s1 s2 (fun s X=>A0Z X hp hl hd) (fun y hy=>a0D (a0J.mp hloc y.1 (by obtain⟨a,b⟩:=y;exact(a2T hy).1))) (fun H H' v k p=>p.mono k) ?_
 intro c A s Q E ok he room S le q en
 have hm: ∀ y,(ns.zip vs).reverse.lookup y=(ns.zip vs).lookup y:=fun y=>A0X (by rw [A1y hl];exact(A1C hp).nodup)
 refine h ok he room (fun x r e=> ?_) s Q E S en fun own' m' fl s' S' R'=> ?_
 ·obtain⟨v,h1,h2⟩:=A1L R e
  exact⟨v,(hm x).trans h1,h2.mono le⟩
 ·rw [a1H] at S' R'
  exact q own' m' fl s' S' R'.fin
theorem Rep.mini {w:Value}{as bs:List V}(h:Rep G C₀ Z w (A0t C as t))(k: ∀ vs,Reps G C₀ Z vs as→Reps G C₀ Z vs bs):Rep G C₀ Z w (A0t C bs t):=by
 obtain⟨x,dx,es,k',rfl,z1,z2,hf⟩:=h.inst_at
 obtain⟨_,_,_,es',rfl,R,hg⟩:=hf.consI
 obtain⟨_,_,_,rfl,z,R'⟩:=R.tupI
 exact .inst z1 z2 (.cons (.tup z (k _ R')) hg)
theorem Rep.node {w:Value}{as:List V}{wr:Bool}{lv:Nat}{nd:ND}(X:Snd G C₀ r)(h:A5Y G.K r lv wr C [("args",.tup as),("taproot",.s (.bool t))]=some nd)(R:Rep G C₀ Z w (A0t C as t)):Rep G C₀ Z w (.abs (A0d lv nd)):=by
 obtain⟨x,dx,es,k,rfl,z1,z2,hf⟩:=R.inst_at
 exact .abs (B1L X h R.nc)
theorem Rep.up {w:Value}{lv lv':Nat}{nd:ND}(R:Rep G C₀ Z w (.abs (A0d lv nd)))(h:lv≤lv'):Rep G C₀ Z w (.abs (A0d lv' nd)):=by
 refine R.absE fun Ω c=> ?_
 exact .abs (B6f h c)
theorem Rep.pst {w:Value}{lv:Nat}{x:ND}(R:Rep G C₀ Z w (.abs (A0d lv x))):Rep G C₀ Z w (.abs (B1K lv x (A2x x.ps 122) (A2x x.ps 111) (A2x x.ps 110) (A2x x.ps 100) (A2x x.ps 117))):=by
 refine R.absE fun Ω c=> ?_
 exact .abs (B3F c)
end
noncomputable def wdL (nw:Bool):List Nat:=bif nw then [0x14,0x25,0x36,0x47,0x48,0x49,0x57,0x58,0x59,0x67,0x68,0x69] else [0x11,0x22,0x33,0x41,0x42,0x43,0x51,0x52,0x53,0x61,0x62,0x63]
noncomputable def wd (nw:Bool)(i:Nat):Nat:=(wdL nw).getD i 0
noncomputable def wA (nw:Bool):Addr:=bif nw then 2397 else 2396
noncomputable def A2T (k w e:Nat):List (Int×Int):=if k<3 then [((k:Int),11),((w:Int),3)] else if k<6 then [((k:Int),11),((w:Int),3),((e:Int),3)] else if k=6 then [((k:Int),11),((w:Int),3),((e:Int),2)] else [((k:Int),11),((w:Int),3)]
noncomputable def khV (t nw:Bool)(w e:Nat):V:=if e=2 then khW (wd nw (3+w)) t else khI (wd nw w) t
noncomputable def A9r (t nw:Bool)(k w e:Nat)(q:Int):V:=match k with
 | 0=>A0t 1950 [C3y (wd nw w) t] t
 | 1=>A0t 1362 [C3y (wd nw w) t] t
 | 2=>A0t 2132 [A0t 1362 [C3y (wd nw w) t] t] t
 | 3=>A0t 1976 [khV t nw w e] t
 | 4=>A0t 1388 [khV t nw w e] t
 | 5=>A0t 2132 [A0t 1388 [khV t nw w e] t] t
 | 6=>if e=0 then A0t 1442 [B2K (.bint (1+A3i [((w:Int),3),((e:Int),2)] q%70000) 1 70000)] t else A0t 1423 [B2K (.bint (1+A3i [((w:Int),3),((e:Int),2)] q%300) 1 300)] t
 | 7=>A0t 1468 [C0H 1223 (wd nw (6+w)) 32] t
 | 8=>A0t 1487 [C0H 1223 (wd nw (6+w)) 32] t
 | 9=>A0t 1506 [C0H 1242 (wd nw (9+w)) 20] t
 | _=>A0t 1525 [C0H 1242 (wd nw (9+w)) 20] t
noncomputable def B1V:List (Nat×Nat×Nat):= [(0,0,0),(1,0,0),(2,0,0),(3,0,0),(4,0,0),(5,0,0),(3,0,1),(4,0,1),(5,0,1),(3,0,2),(4,0,2),(5,0,2),(6,0,0),(6,0,1),(7,0,0),(8,0,0),(9,0,0),(10,0,0),(0,1,0),(1,1,0),(2,1,0),(3,1,0),(4,1,0),(5,1,0),(3,1,1),(4,1,1),(5,1,1),(3,1,2),(4,1,2),(5,1,2),(6,1,0),(6,1,1),(7,1,0),(8,1,0),(9,1,0),(10,1,0),(0,2,0),(1,2,0),(2,2,0),(3,2,0),(4,2,0),(5,2,0),(3,2,1),(4,2,1),(5,2,1),(3,2,2),(4,2,2),(5,2,2),(6,2,0),(6,2,1),(7,2,0),(8,2,0),(9,2,0),(10,2,0)]
theorem B6A (P:Params)(sc:V)(p q:Int): ∀ x∈B1V,lfS P sc p q false (wA false) (A2T x.1 x.2.1 x.2.2)=some (.ret (A9r false false x.1 x.2.1 x.2.2 q)):=a0Y.mp (by kernel_rfl)
theorem B6C (P:Params)(sc:V)(p q:Int): ∀ x∈B1V,lfS P sc p q true (wA false) (A2T x.1 x.2.1 x.2.2)=some (.ret (A9r true false x.1 x.2.1 x.2.2 q)):=a0Y.mp (by kernel_rfl)
theorem B6B (P:Params)(sc:V)(p q:Int): ∀ x∈B1V,lfS P sc p q false (wA true) (A2T x.1 x.2.1 x.2.2)=some (.ret (A9r false true x.1 x.2.1 x.2.2 q)):=a0Y.mp (by kernel_rfl)
noncomputable def B6h (k:Int):ND:=⟨178,A1W k,(A1W k).length+0+1,tx1 "older" (dec k),"B","z",true,false⟩
noncomputable def B6i (k:Int):ND:=⟨177,A1W k,(A1W k).length+0+1,tx1 "after" (dec k),"B","z",true,false⟩
noncomputable def khD (t nw:Bool)(w e:Nat):AD:=if e=2 then A3n (wd nw (3+w)) 20 else khA (wd nw w) t
noncomputable def A0W (t nw:Bool)(k w e:Nat)(m:Int):ND:=match k with
 | 0=>C1W (B4c (wd nw w) t)
 | 1=>B1P (B4c (wd nw w) t)
 | 2=>ndC (B1P (B4c (wd nw w) t))
 | 3=>A9j (khD t nw w e)
 | 4=>A7L (khD t nw w e)
 | 5=>ndC (A7L (khD t nw w e))
 | 6=>if e=0 then B6i (1+m%70000) else B6h (1+m%300)
 | 7=>A1Q 0xa8 "sha256" (A3n (wd nw (6+w)) 32)
 | 8=>A1Q 0xaa "hash256" (A3n (wd nw (6+w)) 32)
 | 9=>A1Q 0xa6 "ripemd160" (A3n (wd nw (9+w)) 20)
 | _=>A1Q 0xa9 "hash160" (A3n (wd nw (9+w)) 20)
noncomputable def lst12:List (Bool×Bool×Nat):= [false,true].flatMap fun t=> [false,true].flatMap fun nw=>(List.range 3).map fun w=>(t,nw,w)
theorem B0x (t:Bool):t∈ [false,true]:=by
 cases t with
 | false=>exact .head _
 | true=>exact .tail _ (.head _)
theorem C4n {nw:Bool}{w:Nat}(hw:w<3):(t,nw,w)∈lst12:=List.mem_flatMap.mpr ⟨t,B0x t,List.mem_flatMap.mpr ⟨nw,B0x nw,List.mem_map.mpr ⟨w,List.mem_range.mpr hw,rfl⟩⟩⟩
noncomputable def B1l (P:Params)(C D:Addr)(a:Bool→Bool→Nat→V)(q:Bool×Bool×Nat):Option ND×Option ND:=(A6N P C (a q.1 q.2.1 q.2.2) q.1,A6N P D (a q.1 q.2.1 q.2.2) q.1)
noncomputable def B1o (F H:AD→ND)(b:Bool→Bool→Nat→AD)(q:Bool×Bool×Nat):Option ND×Option ND:=(some (F (b q.1 q.2.1 q.2.2)),some (H (b q.1 q.2.1 q.2.2)))
theorem C1R {P:Params}{D:Addr}{a:Bool→Bool→Nat→V}{F H:AD→ND}{b:Bool→Bool→Nat→AD}(h:lst12.map (B1l P C D a)=lst12.map (B1o F H b))(t nw:Bool){w:Nat}(hw:w<3):A6N P C (a t nw w) t=some (F (b t nw w))∧A6N P D (a t nw w) t=some (H (b t nw w)):=
 Prod.mk.inj (a0Y.mp h (t,nw,w) (C4n hw))
theorem B6I (P:Params):lst12.map (B1l P 1950 1362 fun t nw w=>C3y (wd nw w) t)=lst12.map (B1o C1W B1P fun t nw w=>B4c (wd nw w) t):=by kernel_rfl
theorem B6G (P:Params):lst12.map (B1l P 1976 1388 fun t nw w=>khI (wd nw w) t)=lst12.map (B1o A9j A7L fun t nw w=>khA (wd nw w) t):=by kernel_rfl
theorem B6F (P:Params):lst12.map (B1l P 1976 1388 fun t nw w=>khW (wd nw (3+w)) t)=lst12.map (B1o A9j A7L fun t nw w=>A3n (wd nw (3+w)) 20):=by kernel_rfl
theorem B1D (P:Params):lst12.map (B1l P 1468 1487 fun t nw w=>C0H 1223 (wd nw (6+w)) 32)=lst12.map (B1o (A1Q 0xa8 "sha256") (A1Q 0xaa "hash256") fun t nw w=>A3n (wd nw (6+w)) 32):=by kernel_rfl
theorem B1E (P:Params):lst12.map (B1l P 1506 1525 fun t nw w=>C0H 1242 (wd nw (9+w)) 20)=lst12.map (B1o (A1Q 0xa6 "ripemd160") (A1Q 0xa9 "hash160") fun t nw w=>A3n (wd nw (9+w)) 20):=by kernel_rfl
theorem B9z (P:Params)(t nw:Bool)(w e:Nat)(hw:w<3):A6N P 1976 (khV t nw w e) t=some (A9j (khD t nw w e))∧A6N P 1388 (khV t nw w e) t=some (A7L (khD t nw w e)):=by
 unfold khV khD
 by_cases he:e=2
 ·rw [if_pos he,if_pos he];exact C1R (B6F P) t nw hw
 ·rw [if_neg he,if_neg he];exact C1R (B6G P) t nw hw
section
theorem A0K (g:GOk G){a:V}{nd:ND}(h:A6N G.w.params C a t=some nd)(R:Rep G 818 Z v (A0t C [a] t)):Rep G 818 Z v (.abs (A0d 0 nd)):=by
 unfold A6N at h
 rw [←g.K] at h
 exact Rep.node g.r7 h R
theorem A7W (g:GOk G){a:V}{nd:ND}(h:A6N G.w.params C a t=some nd)(R:Rep G 818 Z v (A0t 2132 [A0t C [a] t] t)):Rep G 818 Z v (.abs (A0d 1 (ndC nd))):=by
 have h1:=B6e G.w.params t nd
 rw [mkN,←g.K] at h1
 exact Rep.node g.r8 h1 (R.mini fun vs R=>by
  refine R.consE fun Ω Ω R1 R=> ?_
  refine R.nilE ?_;exact .cons (A0K g h R1) .nil)
theorem B3T (g:GOk G)(t nw:Bool){k w e:Nat}(hw:w<3){q:Int}(R:Rep G 818 Z v (A9r t nw k w e q)):Rep G 818 Z v (.abs (A0d 1 (A0W t nw k w e (A3i [((w:Int),3),((e:Int),2)] q)))):=by
 have a:=C1R (B6I G.w.params) t nw hw
 have b:=B9z G.w.params t nw w e hw
 have c:=C1R (B1D G.w.params) t nw hw
 have d:=C1R (B1E G.w.params) t nw hw
 have z:(0:Nat)≤1:=a2K 1
 match k,R with
 | 0,R=>exact(A0K g a.1 R).up z
 | 1,R=>exact(A0K g a.2 R).up z
 | 2,R=>exact A7W g a.2 R
 | 3,R=>exact(A0K g b.1 R).up z
 | 4,R=>exact(A0K g b.2 R).up z
 | 5,R=>exact A7W g b.2 R
 | 6,R=>
  unfold A9r at R
  unfold A0W
  by_cases he:e=0
  ·rw [if_pos he] at R ⊢
   exact(A0K g (B2E G.w.params _ t) R).up z
  ·rw [if_neg he] at R ⊢
   exact(A0K g (B1H G.w.params _ t) R).up z
 | 7,R=>exact(A0K g c.1 R).up z
 | 8,R=>exact(A0K g c.2 R).up z
 | 9,R=>exact(A0K g d.1 R).up z
 | n+10,R=>exact(A0K g d.2 R).up z
end
noncomputable def A0D (l:List Int):List V:=l.map fun i=> .s (.int i)
noncomputable def A1K (l:List Int)(p:Int):Int:=(if l= [] then 0 else l.getD (p%l.length).toNat 0)+7*p
structure NmP where
 p1:Pos
 p2:Pos
 p3:Pos
 p4:Pos
 p5:Pos
 p6:Pos
 p7:Pos
 p8:Pos
 q9:Nat
 p9:Pos
 p10:Pos
 q11:Nat
 p11:Pos
 p12:Pos
 p13:Pos
 p14:Pos
 p15:Pos
noncomputable def NmP.body (a:NmP):List Stmt:= [.Return (some (.BinOp (.IfExp (.Name "script" a.p1) (.Subscript (.Name "script" a.p2) (.BinOp (.Name "place" a.p3) .Mod (.Call (.Name "len" a.p4) [.Name "script" a.p5] [] a.p6) a.p7) a.p8) (.Constant (.int 0) a.q9 a.p9) a.p10) .Add (.BinOp (.Constant (.int 7) a.q11 a.p11) .Mult (.Name "place" a.p12) a.p13) a.p14)) a.p15]
noncomputable def C6o (b:List Stmt):NmP:=match b with
 | [.Return (some (.BinOp (.IfExp (.Name _ p1) (.Subscript (.Name _ p2) (.BinOp (.Name _ p3) .Mod (.Call (.Name _ p4) [.Name _ p5] [] p6) p7) p8) (.Constant (.int 0) q9 p9) p10) .Add (.BinOp (.Constant (.int 7) q11 p11) .Mult (.Name _ p12) p13) p14)) p15]=>⟨p1,p2,p3,p4,p5,p6,p7,p8,q9,p9,p10,q11,p11,p12,p13,p14,p15⟩
 | _=>⟨default,default,default,default,default,default,default,default,0,default,default,0,default,default,default,default,default⟩
noncomputable def nm (P:Params):NmP:=C6o (A0c P 2404).body
theorem B6g (P:Params):A2V (KF P) 2404=some (A0c P 2404)∧A0H (KF P) 2404 (A0c P 2404)=true∧A0r (A0c P 2404).params=some [("script" :Str),"place"]∧A1s (KF P) (A0c P 2404).dV=true∧(A0c P 2404).body=(nm P).body∧
  ([("script" :Str),"place"].all (fun x=>(A0c P 2404).scope.names.lookup x==some .local))=true∧(A0c P 2404).scope.names.lookup ("len" :Str)=some .globalImplicit∧nsIn (KF P) mainGlobals "len" =some none:=
 by and_intros<;>kernel_rfl
section
theorem B7m {p:Pos}{l:List V}(ok:c.Ok G A)(hl:l.length≤1000)(h:Ev G C₀ c A m own (eval (.Name x p) env) (.list l)):EvT G c A m own (isTrue (.Name x p) env (eval (.Name x p) env)) (!l.isEmpty):=by
 intro s Q E S q
 refine isTrue_plain (h s _ E S fun own' v s' S' R=> ?_) rfl
 refine R.listE fun _ _ _ hz R=> ?_
 rename_i a vs nn
 have hT:s'.heap.IsList a vs.toArray:=⟨_,S'.get ok hz,rfl,_,rfl⟩
 have hlen:=R.length
 refine wpAny_truthy_list hT (by simp only [a1N];lia) ?_
 have e:(!vs.toArray.isEmpty)= !l.isEmpty:=by
  cases vs<;>cases l<;>simp_all
 rw [e]
 exact q own' _ ((S'.tok _).tok _)
theorem A7c {idx:Expr}{k:Int}{l:List V}{r:V}(ok:c.Ok G A)(h:Ev G C₀ c A m own (eval value env) (.list l))(hi: ∀ own',Ev G C₀ c A m (own'++own) (eval idx env) (.s (.int k)))(hix:C0I idx=true)(hlo:0≤k)(hhi:k<1000)(hx:l[k.toNat]?=some r):
  Ev G C₀ c A m own (eval (.Subscript value idx pos) env) r:=by
 intro s Q E S q
 refine Subscript_ (h s _ E S fun own' v s' S' R=>hi own' s' _ E S' fun own'' u s'' S'' R'=> ?_)
 refine R.listE fun _ _ _ hz R=> ?_
 obtain⟨v,hv,R''⟩:=R.get hx
 rename_i a vs nn
 have R':=R'.sI
 refine R'.intE fun _=> ?_
 have ht:s''.heap.IsList a vs.toArray:=⟨_,S''.get ok (A0a _ _ hz),rfl,_,rfl⟩
 refine A0b (T:= "list") ht.typeIs slot_list_getitem.lookup (wpAny_getItem_list ht hlo (by lia) (by simpa using hv) ?_) ?_
 ·exact q (own''++own') _ _ S''.asc (by rw [a0C];exact R''.mono A0a)
 ·cases idx with
  | Name=>exact .inl rfl
  | BinOp=>first| exact .inl rfl| exact .inr rfl
  | _=>exact xf hix
theorem A1O (g:GOk G){l:List Int}{p:Int}(hl:l.length≤63)(h0:0≤p)(h1:p<1000)(R:Reps G 818 Z vs [.list (A0D l),.s (.int p)]):
  Calls G 818 1 Z 2404 ⟨vs,[]⟩ (fun H w=>Rep G 818 H w (.s (.int (A1K l p)))) False:=by
 obtain⟨s1,s2,s3,s4,s5,s6,s7,s8⟩:=B6g G.w.params
 rw [←g.K] at s1 s2 s4 s8
 generalize nm G.w.params=a at*
 generalize A0c G.w.params 2404=d at*
 have hlen:(A0D l).length=l.length:=by simp [A0D]
 refine(A1I (n:=0) (d:=d) (res:= .ret (.s (.int (A1K l p)))) s1 s2 s3 s6 s4 rfl R fun {c A m} ok he room hlo=> ?_).mono (a0K _) Held.le.rfl (fun Ω Ω h=>h) fun h=>nomatch h
 rw [s5]
 have l1:d.scope.names.lookup ("script" :Str)=some .local:=a0D (a0J.mp s6 _ (List.elem_iff.mp rfl))
 have l2:d.scope.names.lookup ("place" :Str)=some .local:=a0D (a0J.mp s6 _ (List.elem_iff.mp rfl))
 have eS: ∀ (own':List (Addr×Obj)) (q:Pos),Ev G 818 c A m (own'++ []) (eval (.Name "script" q) c.env) (.list (A0D l)):=fun own' q=>A0R ok he (hlo.mono A0a) rfl l1 (by decide)
 have eP: ∀ (own':List (Addr×Obj)) (q:Pos),Ev G 818 c A m (own'++ []) (eval (.Name "place" q) c.env) (.s (.int p)):=fun own' q=>A0R ok he (hlo.mono A0a) rfl l2 (by decide)
 have big:p.natAbs<2^2000:=Nat.lt_of_lt_of_le (by lia:p.natAbs<1000) (by decide)
 have e7: ∀ own':List (Addr×Obj),Ev G 818 c A m (own'++ []) (eval (.BinOp (.Constant (.int 7) a.q11 a.p11) .Mult (.Name "place" a.p12) a.p13) c.env) (.s (.int (7*p))):=fun own'=>
  A5k (a:= .int 7) (b:= .int p) A5h (fun o=>by rw [←a0C];exact eP _ _) (by
   show (gd (decide ((7:Int).natAbs<2^2000)&&decide (p.natAbs<2^2000)) (some (SV.int (7*p)))).or _=_
   rw [a0Q big,a0Q (show (7:Int).natAbs<2^2000 by decide)];rfl)
 refine Ex.one (A2i ?_)
 have key:Ev G 818 c A m [] (eval (.IfExp (.Name "script" a.p1) (.Subscript (.Name "script" a.p2) (.BinOp (.Name "place" a.p3) .Mod (.Call (.Name "len" a.p4) [.Name "script" a.p5] [] a.p6) a.p7) a.p8) (.Constant (.int 0) a.q9 a.p9) a.p10) c.env) (.s (.int (if l= [] then 0 else l.getD (p%l.length).toNat 0))):=by
  refine A7g (B7m ok (by rw [hlen];lia) (eS [] a.p1)) fun own'=> ?_
  by_cases hz:l= []
  ·subst hz
   exact A5h
  ·rw [if_neg hz]
   have hpos:0<l.length:=List.length_pos_iff.mpr hz
   have he2:(!(A0D l).isEmpty)=true:=by
    cases l with
    | nil=>exact absurd rfl hz
    | cons a b=>rfl
   rw [he2,if_pos rfl]
   have h2:0≤p% (l.length:Int):=a2A _ (by lia)
   have h3:p% (l.length:Int)<l.length:=a1Q _ (by lia)
   have h4:(p% (l.length:Int)).toNat<l.length:=by lia
   refine A7c (k:=p%l.length) ok (eS own' a.p2) (fun o=> ?_) rfl h2 (by lia) ?_
   ·rw [←a0C]
    refine A5k (a:= .int p) (b:= .int l.length) (eP _ _) (fun o'=> ?_) ?_
    ·have:=A0z (C₀:=818) (m:=m) (own:=o'++ ((o++own')++ [])) (pos:=a.p6) (np:=a.p4) (es:= [.Name "script" a.p5]) (rs:= [.list (A0D l)]) (raises:=False) (P:=fun Z w=>SRep w (.int l.length)) ok rfl (f:= .builtin "len") rfl
      (A1x (d:=d) ok he s8 (by decide+kernel) (by decide+kernel) s7 (by decide)) (fun o2=>A0s rfl (by rw [←a0C,←a0C];exact eS _ _) fun Ω=>A0N) fun o2 vs R=>by
       obtain⟨_,_,rfl,R1,R⟩:=R.consI
       obtain rfl:=R.nilI
       have:=A2K (m:=m) (by rw [hlen];lia) ok R1
       rw [hlen] at this
       exact this
     exact this.ev fun Ω Ω h=> .s h
    ·show (gd (decide ((l.length:Int)≠0)) (some (SV.int (p.fmod l.length)))).or _=_
     rw [a0Q (by lia),Int.fmod_eq_emod_of_nonneg _ (by lia)];rfl
   ·unfold A0D
    rw [List.getElem?_map,List.getElem?_eq_getElem h4]
    simp [List.getD_eq_getElem?_getD,List.getElem?_eq_getElem h4]
 exact A7h (a:= .int _) (b:= .int _) key (fun o=>e7 o) rfl
end
noncomputable def eM (k:Nat):Nat:=if k<3 then 1 else if k<6 then 3 else if k=6 then 2 else 1
noncomputable def kOf (n:Int):Nat:=(n%11).toNat
noncomputable def wOf (n:Int):Nat:=(n / 11%3).toNat
noncomputable def eOf (n:Int):Nat:=(n / 33% (eM (kOf n):Nat)).toNat
noncomputable def qOf (n:Int):Int:=n / 33 / (eM (kOf n):Nat)
noncomputable def A1p (t nw:Bool)(n:Int):ND:=A0W t nw (kOf n) (wOf n) (eOf n) (n / 11)
theorem B9u: ∀ k:Fin 11,∀ w:Fin 3,∀ e:Fin (eM k),(k.val,w.val,e.val)∈B1V:=by decide
theorem C0n (k:Nat):0<eM k∧eM k≤3:=by
 unfold eM
 by_cases h:k<3
 ·rw [if_pos h];decide
 ·rw [if_neg h]
  by_cases h:k<6
  ·rw [if_pos h];decide
  ·rw [if_neg h]
   by_cases h:k=6
   ·rw [if_pos h];decide
   ·rw [if_neg h];decide
theorem C3x (n:Int)(h:0<b):(n% (b:Nat)).toNat<b∧(((n% (b:Nat)).toNat:Nat):Int)+ (b:Nat)* (n / (b:Nat))=n:=by
 have z:0≤n% (b:Int):=a2A _ (a2S (Int.ofNat_lt.mpr h))
 exact⟨(Int.toNat_lt z).mpr (a1Q _ (Int.ofNat_lt.mpr h)),by rw [Int.toNat_of_nonneg z];exact Int.emod_add_mul_ediv n b⟩
theorem C4O {n a b q s:Int}(ha:0<a)(hb:0<b)(hq:n / a / b=q)(hs:n / a%b=s):A3i [(n%a,a),(s,b)] q=n∧A1h [(n%a,a),(s,b)]=true:=by
 subst hs hq
 refine⟨?_,?_⟩
 ·show n%a+a* (n / a%b+b* (n / a / b))=n
  rw [Int.emod_add_mul_ediv,Int.emod_add_mul_ediv]
 ·rw [A1h,A1h,A1h,a0Q (a2A _ (a2S ha)),a0Q (a1Q _ ha),a0Q (a2A _ (a2S hb)),a0Q (a1Q _ hb)];rfl
theorem C6S {n a:Int}(ha:0<a):A3i [(n%a,a)] (n / a)=n∧A1h [(n%a,a)]=true:=by
 refine⟨Int.emod_add_mul_ediv n a,?_⟩
 rw [A1h,A1h,a0Q (a2A _ (a2S ha)),a0Q (a1Q _ ha)];rfl
theorem A4T {w:Int}{a k:Nat}(h:(a:Int)≤w)(h':w< ((k+a:Nat):Int)): ∃ i:Nat,i<k∧w=((i+a:Nat):Int):=by
 obtain⟨m,rfl⟩:=Int.eq_ofNat_of_zero_le (a1E (a1W a) h)
 have h:=Int.ofNat_le.mp h
 exact⟨m - a,Nat.sub_lt_right_of_lt_add h (Int.ofNat_lt.mp h'),congrArg Int.ofNat (Nat.sub_add_cancel h).symm⟩
theorem lt2 {i:Nat}(h:i<2):i=0∨i=1:=(by decide: ∀ i<2,i=0∨i=1) i h
theorem lt4 {i:Nat}(h:i<4):i=0∨i=1∨i=2∨i=3:=(by decide: ∀ i<4,i=0∨i=1∨i=2∨i=3) i h
theorem C5z {lv:Nat}(h:lv=2∨lv=3):2≤lv:=by rcases h with rfl| rfl<;>decide
theorem dgk {d:Nat}(b:Nat){l:List (Int×Int)}(h:d<b)(h2:A1h l=true):A1h (((d:Int),((b:Nat):Int))::l)=true:=by
 rw [A1h,a0Q (a1W d),a0Q (Int.ofNat_lt.mpr h),h2];rfl
theorem B3V {k w e:Nat}(hk:k<11)(hw:w<3)(he:e<eM k):A1h (A2T k w e)=true∧ ∀ r,A3i (A2T k w e) r=(k:Int)+11* ((w:Int)+3* ((e:Int)+ (eM k:Nat)*r)):=by
 have z:e<1→ ∀ r,(k:Int)+11* ((w:Int)+3*r)=(k:Int)+11* ((w:Int)+3* ((e:Int)+ (1:Nat)*r)):=fun he r=>by
  rw [Nat.lt_one_iff.mp he]
  show _=(k:Int)+11* ((w:Int)+3* (0+1*r))
  rw [Int.one_mul,Int.zero_add]
 unfold A2T
 unfold eM at*
 by_cases h:k<3
 ·rw [if_pos h] at he ⊢
  rw [if_pos h]
  exact⟨dgk 11 hk (dgk 3 hw rfl),z he⟩
 ·rw [if_neg h] at he ⊢
  rw [if_neg h]
  by_cases h:k<6
  ·rw [if_pos h] at he ⊢
   rw [if_pos h]
   exact⟨dgk 11 hk (dgk 3 hw (dgk 3 he rfl)),fun r=>rfl⟩
  ·rw [if_neg h] at he ⊢
   rw [if_neg h]
   by_cases h:k=6
   ·rw [if_pos h] at he ⊢
    rw [if_pos h]
    exact⟨dgk 11 hk (dgk 3 hw (dgk 2 he rfl)),fun r=>rfl⟩
   ·rw [if_neg h] at he ⊢
    rw [if_neg h]
    exact⟨dgk 11 hk (dgk 3 hw rfl),z he⟩
theorem B8m (n:Int):A3i (A2T (kOf n) (wOf n) (eOf n)) (qOf n)=n∧A1h (A2T (kOf n) (wOf n) (eOf n))=true∧(kOf n,wOf n,eOf n)∈B1V∧wOf n<3∧(kOf n=6→A3i [(((wOf n:Nat):Int),3),(((eOf n:Nat):Int),2)] (qOf n)=n / 11):=by
 have a:=C3x n (b:=11) (by decide)
 have b:=C3x (n / 11) (b:=3) (by decide)
 have d:=C3x (n / 33) (C0n (kOf n)).1
 have L:=B3V a.1 b.1 d.1
 have q:((eOf n:Nat):Int)+ ((eM (kOf n):Nat):Int)*qOf n=n / 11 / 3:=d.2.trans (Int.ediv_ediv_of_nonneg (x:=n) (y:=11) (z:=3) (by decide)).symm
 refine⟨(L.2 _).trans ((congrArg (fun x=>((kOf n:Nat):Int)+11* (((wOf n:Nat):Int)+3*x)) q).trans ((congrArg (fun x=>((kOf n:Nat):Int)+11*x) b.2).trans a.2)),L.1,B9u ⟨_,a.1⟩ ⟨_,b.1⟩ ⟨_,d.1⟩,b.1,fun h=> ?_⟩
 have e2:eM (kOf n)=2:=by rw [h];rfl
 rw [e2] at q
 exact(congrArg (fun x=>((wOf n:Nat):Int)+3*x) q).trans b.2
theorem B3U {nw:Bool}{k w e:Nat}{a b:Int}(h:k=6→a=b):A0W t nw k w e a=A0W t nw k w e b:=by
 match k with
 | 6=>rw [h rfl]
 | 0=>rfl
 | 1=>rfl
 | 2=>rfl
 | 3=>rfl
 | 4=>rfl
 | 5=>rfl
 | 7=>rfl
 | 8=>rfl
 | 9=>rfl
 | n+10=>rfl
noncomputable def lf0 (P:Params):Stmt:=atS (A0c P 2418).body 0
theorem B6x (P:Params):A2V (KF P) 2418=some (A0c P 2418)∧A0H (KF P) 2418 (A0c P 2418)=true∧A0r (A0c P 2418).params=some [("script" :Str),"place","tap","words"]∧A1s (KF P) (A0c P 2418).dV=true∧(A0c P 2418).body=lf0 P::lfB P∧
  ([("script" :Str),"place","tap","words"].all (fun x=>(A0c P 2418).scope.names.lookup x==some .local))=true∧A8H (lf0 P)=true∧B5l (lf0 P)= "pick" ∧(A0c P 2418).scope.names.lookup ("pick" :Str)=some .local∧A0L (KF P) (.ref 2404)=true:=
 by and_intros<;>kernel_rfl
theorem B9w (P:Params)(a b c d:V):nmF (KF P) (A0c P 2418) ([("script" :Str),"place","tap","words"].zip [a,b,c,d]) (B7z (lf0 P))=some (.k (.ref 2404))∧A3M (r9 P) 40 (nmF (KF P) (A0c P 2418) ([("script" :Str),"place","tap","words"].zip [a,b,c,d])) (A7q (lf0 P))=some [a,b]:=by and_intros<;>kernel_rfl
theorem B6D (P:Params)(sc:V)(p q:Int){nw:Bool}(hc:(t&&nw)=false): ∀ x∈B1V,lfS P sc p q t (wA nw) (A2T x.1 x.2.1 x.2.2)=some (.ret (A9r t nw x.1 x.2.1 x.2.2 q)):=by
 cases t with
 | false=>cases nw with
  | false=>exact B6A P sc p q
  | true=>exact B6B P sc p q
 | true=>cases nw with
  | false=>exact B6C P sc p q
  | true=>cases hc
section
theorem A3R (g:GOk G){l:List Int}{p:Int}{nw:Bool}(hc:(t&&nw)=false)(hl:l.length≤63)(h0:0≤p)(h1:p<1000)(R:Reps G 818 Z vs [.list (A0D l),.s (.int p),.s (.bool t),.k (.ref (wA nw))]):
  Calls G 818 41 Z 2418 ⟨vs,[]⟩ (fun H w=>Rep G 818 H w (.abs (A0d 1 (A1p t nw (A1K l p))))) False:=by
 obtain⟨s1,s2,s3,s4,s5,s6,s7,s8,s9,s10⟩:=B6x G.w.params
 have ha:=B9w G.w.params (.list (A0D l)) (.s (.int p)) (.s (.bool t)) (.k (.ref (wA nw)))
 have hV:=fun q=>B6D G.w.params (.list (A0D l)) p q hc
 rw [←g.K] at s1 s2 s4 s10 ha
 generalize lf0 G.w.params=st at*
 generalize hB:lfB G.w.params=B at*
 unfold lfS at hV
 rw [hB] at hV
 generalize A0c G.w.params 2418=d at*
 refine(A1I (n:=40) (d:=d) (res:= .ret (.abs (A0d 1 (A1p t nw (A1K l p))))) s1 s2 s3 s6 s4 rfl R fun {c A m} ok he room hlo=> ?_).mono (a0K _) Held.le.rfl (fun _ _ h=>h) fun h=>nomatch h
 rw [s5]
 refine A0G (res:= .ret (.abs (A0d 1 (A1p t nw (A1K l p))))) (A4c g.r9 ok room he hlo s7 (by rw [s8];exact s9) ha.1 s10 ha.2 fun own' vs' R'=>A0I ok (room.less (by decide)) (A1O g hl h0 h1 R') Held.le.rfl) fun own' m' hl'=> ?_
 rw [s8] at hl'
 generalize A1K l p=n at hl' ⊢
 obtain⟨d1,d2,d3,d4,d5⟩:=B8m n
 have hl2:Locs G 818 (vis c (own'++ [])) m' (lfρ (A2T (kOf n) (wOf n) (eOf n)) (qOf n) (.list (A0D l)) p t (wA nw)):=hl'.conv fun w R=>by
  have R:=R.sI
  refine R.intE fun _=> ?_
  have:=SRep.dig (t:= ‹Tok›) (q:=qOf n) d2
  rw [d1] at this
  exact .s this
 refine Ex.retW (v:=A9r t nw (kOf n) (wOf n) (eOf n) (qOf n)) (Ex.winO (hV (qOf n) _ d3) fun r hr=>g.r9.S hr ok room he hl2) fun Z w R=> ?_
 have:=B3T g t nw d4 R
 rw [B3U d5] at this
 exact this
end
noncomputable abbrev hk9 (P:Params):Hk:=(C4D (KF P)).or ((C3B (KF P)).or (hkZ (KF P)))
noncomputable def r9' (P:Params):Evs:=evs (KF P) fl 818 (spJ P) (hk9 P) 59
theorem GOk.r9' (h:GOk G):Snd G 818 (r9' G.w.params):=by
 have:=A0B (C₀:=818) h.gx (A5S h) (hkSw_ok.or (hkEn_ok.or (A5d h))) 59
 rw [h.K] at this
 exact this
theorem GOk.hk9 (h:GOk G):HkOk G 818 (hk9 G.w.params):=by
 have:=(hkSw_ok (G:=G) (C₀:=818)).or (hkEn_ok.or (A5d h))
 rw [h.K] at this
 exact this
noncomputable def st9 (P:Params)(d:Fd)(ρ:Loc)(st:Stmt):Option SRes:=(A7z (KF P) (r9' P) (hk9 P) 818 130 d ρ st).map SRes.win
noncomputable def md (P:Params)(i:Nat):Stmt:=atS (A0c P 2425).body i
noncomputable def md4 (P:Params):Stmt:=atS (A2U (md P 4)) 0
noncomputable def mρ (sc:V)(p dp:Int)(t:Bool)(w:Addr):Loc:= [("script",sc),("place",.s (.int p)),("depth",.s (.int dp)),("tap",.s (.bool t)),("words",.k (.ref w))]
noncomputable def ρ2 (X pk sc:V)(p dp:Int)(t:Bool)(W:Addr):Loc:=("x",X)::("pick",pk)::mρ sc p dp t W
noncomputable def ρ3 (w:Int)(X pk sc:V)(p dp:Int)(t:Bool)(W:Addr):Loc:=("which",.s (.int w))::ρ2 X pk sc p dp t W
noncomputable def ρ5 (Y:V)(w:Int)(X pk sc:V)(p dp:Int)(t:Bool)(W:Addr):Loc:=("y",Y)::ρ3 w X pk sc p dp t W
noncomputable def ρ9 (Z Y:V)(w:Int)(X pk sc:V)(p dp:Int)(t:Bool)(W:Addr):Loc:=("z",Z)::ρ5 Y w X pk sc p dp t W
noncomputable abbrev mdS (P:Params)(ρ:Loc)(i:Nat):Option SRes:=st9 P (A0c P 2425) ρ (md P i)
noncomputable def tys:List Str:= ["B","K","V","W"]
noncomputable def wC (w:Nat)(ty:Str):Addr:=match w with
 | 0=>2046
 | 1=>2089
 | 2=>2166
 | 3=>2209
 | 4=>2281
 | 5=>2324
 | 6=>if ty= "B" then 2245 else 2132
 | 7=>2367
 | _=>2393
noncomputable def C3F (w:Nat):Addr:=match w with
 | 9=>1623
 | 10=>1664
 | 11=>1713
 | 12=>1754
 | 13=>1795
 | 14=>1836
 | _=>1885
noncomputable def lst4:List (Nat×Str×Nat):= [2,3].flatMap fun a=>tys.flatMap fun b=> [4,5,6,7,8].map fun c=>(a,b,c)
theorem A1v {β:Type}{f g:Nat→β}(h:(List.range n).map f=(List.range n).map g){i:Nat}(hi:i<n):f i=g i:=a0Y.mp h i (List.mem_range.mpr hi)
section
variable (P:Params)(X Y Z pk sc:V)(p dp q w w9:Int)(t:Bool)(W:Addr)(x:ND)(ty:Str)
theorem e3:mdS P (ρ2 X (.s (.dig [(w,18)] q)) sc p dp t W) 3=some (.nxt ["which"] (ρ3 (w+18*0) X (.s (.dig [(w,18)] q)) sc p dp t W)):=by kernel_rfl
theorem e4i:((List.range 4).map fun i=>((r9 P).T 130 (nmF (KF P) (A0c P 2425) (ρ3 (.ofNat i) X pk sc p dp t W)) (A1q (md P 4)),st9 P (A0c P 2425) (ρ3 (.ofNat i) X pk sc p dp t W) (md4 P)))=(List.range 4).map fun i=>(some true,some (.ret (A0t (wC i ty) [X] t))):=by kernel_rfl
theorem e4o:(lst4.map fun r=>mdS P (ρ3 (.ofNat r.2.2) (.abs (A0d r.1 {x with ty:=r.2.1})) pk sc p dp t W) 4)=lst4.map fun r=>some (.ret (A0t (wC r.2.2 r.2.1) [.abs (A0d r.1 {x with ty:=r.2.1})] t)):=by kernel_rfl
theorem e4d:((List.range 9).map fun i=>mdS P (ρ3 (.ofNat (i+9)) X pk sc p dp t W) 4)=(List.range 9).map fun i=>some (.nxt [] (ρ3 (.ofNat (i+9)) X pk sc p dp t W)):=by kernel_rfl
theorem e6:mdS P (ρ5 Y w9 X (.s (.dig [(w,18),(0,4)] q)) sc p dp t W) 6=some (.nxt [] (ρ5 Y w9 X (.s (.dig [(w,18),(0,4)] q)) sc p dp t W)):=by kernel_rfl
theorem e6s:((List.range 2).map fun i=>mdS P (ρ5 Y w9 X (.s (.dig [(w,18),(.ofNat (i+1),4)] q)) sc p dp t W) 6)=(List.range 2).map fun i=>some (.nxt ["y"] (("y",A0t (wC i ty) [Y] t)::ρ5 Y w9 X (.s (.dig [(w,18),(.ofNat (i+1),4)] q)) sc p dp t W)):=by kernel_rfl
theorem e6t:(tys.map fun ty=>mdS P (ρ5 (.abs (A0d 1 {x with ty:=ty})) w9 X (.s (.dig [(w,18),(3,4)] q)) sc p dp t W) 6)=tys.map fun ty=>some (.nxt ["y"] (("y",if ty= "B" then A0t 2245 [.abs (A0d 1 {x with ty:=ty})] t else .abs (A0d 1 {x with ty:=ty}))::ρ5 (.abs (A0d 1 {x with ty:=ty})) w9 X (.s (.dig [(w,18),(3,4)] q)) sc p dp t W)):=by kernel_rfl
theorem e7:((List.range 3).map fun i=>mdS P (ρ5 Y (.ofNat (i+9)) X pk sc p dp t W) 7)=(List.range 3).map fun i=>some (.ret (A0t (C3F (i+9)) [X,Y] t)):=by kernel_rfl
theorem e7n:((List.range 6).map fun i=>mdS P (ρ5 Y (.ofNat (i+12)) X pk sc p dp t W) 7)=(List.range 6).map fun i=>some (.nxt [] (ρ5 Y (.ofNat (i+12)) X pk sc p dp t W)):=by kernel_rfl
theorem e8:((List.range 4).map fun i=>mdS P (ρ5 Y (.ofNat (i+12)) X pk sc p dp t W) 8)=(List.range 4).map fun i=>some (.ret (A0t (C3F (i+12)) [X,Y] t)):=by kernel_rfl
theorem e8n:((List.range 2).map fun i=>mdS P (ρ5 Y (.ofNat (i+16)) X pk sc p dp t W) 8)=(List.range 2).map fun i=>some (.nxt [] (ρ5 Y (.ofNat (i+16)) X pk sc p dp t W)):=by kernel_rfl
theorem e10:mdS P (ρ9 Z Y w9 X (.s (.dig [(w,72),(0,2)] q)) sc p dp t W) 10=some (.nxt ["z"] (("z",Z)::ρ9 Z Y w9 X (.s (.dig [(w,72),(0,2)] q)) sc p dp t W))∧mdS P (ρ9 Z Y w9 X (.s (.dig [(w,72),(1,2)] q)) sc p dp t W) 10=some (.nxt ["z"] (("z",A0t 2046 [Z] t)::ρ9 Z Y w9 X (.s (.dig [(w,72),(1,2)] q)) sc p dp t W)):=by and_intros<;>kernel_rfl
theorem e11:mdS P (ρ9 Z Y 16 X pk sc p dp t W) 11=some (.ret (A0t 1574 [X,Y,Z] t)):=by kernel_rfl
theorem C6R:((List.range 3).map fun i=>mdS P (ρ9 Z Y 17 X (.s (.dig [(w,18),(.ofNat i,3)] q)) sc p dp t W) 11)=(List.range 3).map fun i=>some (.ret (A0t 1924 [C3w (1+ .ofNat i),X,Y,Z] t)):=by kernel_rfl
end
def A8J (P:Params)(p dp p1 d1 p2 p3:Int):Prop:=
 (∀ (pk sc:V) (t:Bool) (W:Addr),A3M (r9 P) 130 (nmF (KF P) (A0c P 2425) (("pick",pk)::mρ sc p dp t W)) (A7q (md P 2))=some [sc,.s (.int p1),.s (.int d1),.s (.bool t),.k (.ref W)])∧
 (∀ (X pk sc:V) (w:Int) (t:Bool) (W:Addr),A3M (r9 P) 130 (nmF (KF P) (A0c P 2425) (ρ3 w X pk sc p dp t W)) (A7q (md P 5))=some [sc,.s (.int p2),.s (.bool t),.k (.ref W)])∧
 (∀ (X Y pk sc:V) (w:Int) (t:Bool) (W:Addr),A3M (r9 P) 130 (nmF (KF P) (A0c P 2425) (ρ5 Y w X pk sc p dp t W)) (A7q (md P 9))=some [sc,.s (.int p3),.s (.bool t),.k (.ref W)])
theorem B7B (P:Params):A8J P 1 2 4 1 5 6:=by and_intros<;>intros<;>kernel_rfl
theorem B7A (P:Params):A8J P 4 1 13 0 14 15:=by and_intros<;>intros<;>kernel_rfl
theorem B7C (P:Params):A8J P 1 1 4 0 5 6:=by and_intros<;>intros<;>kernel_rfl
noncomputable def mNs:List Str:= ["script","place","depth","tap","words"]
theorem A6L (P:Params):A2V (KF P) 2425=some (A0c P 2425)∧A0H (KF P) 2425 (A0c P 2425)=true∧A0r (A0c P 2425).params=some mNs∧A1s (KF P) (A0c P 2425).dV=true∧
  (A0c P 2425).body= [md P 0,md P 1,md P 2,md P 3,md P 4,md P 5,md P 6,md P 7,md P 8,md P 9,md P 10,md P 11]∧(mNs.all (fun x=>(A0c P 2425).scope.names.lookup x==some .local))=true∧
  (["pick","x","which","y","z"]:List Str).all (fun x=>(A0c P 2425).scope.names.lookup x==some .local)=true:=
 by and_intros<;>kernel_rfl
theorem B3J (P:Params):(A8H (md P 0)=true∧B5l (md P 0)= "pick")∧(A8H (md P 2)=true∧B5l (md P 2)= "x")∧(A8H (md P 5)=true∧B5l (md P 5)= "y")∧(A8H (md P 9)=true∧B5l (md P 9)= "z"):=
 by and_intros<;>kernel_rfl
theorem A7S (P:Params)(ρ:Loc):nmF (KF P) (A0c P 2425) ρ (B7z (md P 0))=some (.k (.ref 2404))∧nmF (KF P) (A0c P 2425) ρ (B7z (md P 2))=some (.k (.ref 2425))∧nmF (KF P) (A0c P 2425) ρ (B7z (md P 5))=some (.k (.ref 2418))∧
  nmF (KF P) (A0c P 2425) ρ (B7z (md P 9))=some (.k (.ref 2418))∧A0L (KF P) (.ref 2404)=true∧A0L (KF P) (.ref 2418)=true∧A0L (KF P) (.ref 2425)=true:=
 by and_intros<;>kernel_rfl
theorem B3K (P:Params)(sc:V)(p dp:Int)(t:Bool)(W:Addr):A3M (r9 P) 130 (nmF (KF P) (A0c P 2425) (mρ sc p dp t W)) (A7q (md P 0))=some [sc,.s (.int p)]:=by kernel_rfl
theorem B7X (P:Params):md P 1= .If (A1q (md P 1)) (A2U (md P 1)) [] (A6x (md P 1))∧(∀ (pk sc:V) (p:Int) (t:Bool) (W:Addr),(r9 P).T 130 (nmF (KF P) (A0c P 2425) (("pick",pk)::mρ sc p 0 t W)) (A1q (md P 1))=some true)∧
  (∀ (pk sc:V) (p:Int) (t:Bool) (W:Addr),(r9 P).T 130 (nmF (KF P) (A0c P 2425) (("pick",pk)::mρ sc p 1 t W)) (A1q (md P 1))=some false)∧(∀ (pk sc:V) (p:Int) (t:Bool) (W:Addr),(r9 P).T 130 (nmF (KF P) (A0c P 2425) (("pick",pk)::mρ sc p 2 t W)) (A1q (md P 1))=some false):=
 by and_intros<;>intros<;>kernel_rfl
noncomputable def C1t:Stmt→Option Expr
 | .Return v _=>v
 | _=>none
@[elab_as_elim] theorem C1s {st:Stmt} {e:Expr} {motive:Stmt→Prop} (h:C1t st=some e) (q: ∀ p,motive (.Return (some e) p)):motive st:=by
 cases st with
 | Return v p=>rw [show v=some e from h];exact q p
 | _=>exact x0 h
noncomputable def C5u (sts:List Stmt):Option (Str×List Expr):=(A1m sts).bind fun st=>(C1t st).bind A5g
noncomputable def C3v (sts:List Stmt):Str×List Expr:=(C5u sts).getD (Str.empty,[])
noncomputable def C4d (sts:List Stmt):Str:=(C3v sts).1
noncomputable def B9a (sts:List Stmt):List Expr:=(C3v sts).2
noncomputable def C1I (sts:List Stmt):Bool:=(C5u sts).any fun q=>q.2.all A0g
theorem C2e (P:Params):C1I (A2U (md P 1))=true∧(∀ ρ:Loc,nmF (KF P) (A0c P 2425) ρ (C4d (A2U (md P 1)))=some (.k (.ref 2418)))∧
 (∀ (pk sc:V) (p dp:Int) (t:Bool) (W:Addr),A3M (r9 P) 130 (nmF (KF P) (A0c P 2425) (("pick",pk)::mρ sc p dp t W)) (B9a (A2U (md P 1)))=some [sc,.s (.int p),.s (.bool t),.k (.ref W)]):=by and_intros<;>intros<;>kernel_rfl
theorem C2f (P:Params):md P 4= .If (A1q (md P 4)) (md4 P::(A2U (md P 4)).drop 1) [] (A6x (md P 4)):=by kernel_rfl
def A5L (x:ND):Prop:=x.ty= "B" ∨x.ty= "K" ∨x.ty= "V" ∨x.ty= "W"
noncomputable def A1Y (t:Bool)(w:Nat)(x:ND):ND:=match w with
 | 0=>ndA x
 | 1=>ndS x
 | 2=>ndT x
 | 3=>ndD t x
 | 4=>ndJ x
 | 5=>ndN x
 | 6=>if x.ty= "B" then ndV x else ndC x
 | 7=>ndL x
 | _=>ndU x
noncomputable def yND (s:Nat)(y:ND):ND:=match s with
 | 0=>y
 | 1=>ndA y
 | 2=>ndS y
 | _=>if y.ty= "B" then ndV y else y
noncomputable def A4l (w:Nat)(x y:ND):ND:=match w with
 | 9=>A3s x y
 | 10=>A3u x y
 | 11=>A3t x y
 | 12=>A6I x y
 | 13=>A6H x y
 | 14=>A6G x y
 | _=>A4S x y
noncomputable def zND (s:Nat)(z:ND):ND:=match s with
 | 0=>z
 | _=>ndA z
noncomputable def B1r (k:Int)(x y z:ND):ND:=C4j (C1T k) x y z (A2x x.ps 122) (A2x y.ps 122) (A2x z.ps 122) (A2x x.ps 111) (A2x y.ps 111) (A2x z.ps 111) (A2x x.ps 100) (A2x x.ps 117) (A2x y.ps 100) (A2x y.ps 117) (A2x z.ps 100) (A2x z.ps 117)
noncomputable def A2v (t nw:Bool)(n n2 n3:Int)(x:ND):ND:=
 if n%18<9 then A1Y t (n%18).toNat x
 else
  let y:=yND (n / 18%4).toNat (A1p t nw n2)
  if n%18<16 then A4l (n%18).toNat x y
  else
   let z:=zND (n / 72%2).toNat (A1p t nw n3)
   if n%18=16 then A1d x y z else B1r (1+n / 18%3) x y z
theorem itP {α:Type}{P:α→Prop}{c:Prop}[Decidable c]{a b:α}(ha:P a)(hb:P b):P (if c then a else b):=by
 by_cases h:c
 ·rw [if_pos h];exact ha
 ·rw [if_neg h];exact hb
theorem B6j {P:Nat→Prop}(N:Nat)(h: ∀ k∈List.range N,P k)(h': ∀ n,P (n+N))(k:Nat):P k:=by
 by_cases q:k<N
 ·exact h k (List.mem_range.mpr q)
 ·have e:=h' (k - N)
  rw [Nat.sub_add_cancel (Nat.not_lt.mp q)] at e
  exact e
theorem A4Y (t nw:Bool)(n:Int):A5L (A1p t nw n):=
 B6j (P:=fun k=>A5L (A0W t nw k (wOf n) (eOf n) (n / 11))) 10 (fm (.inl rfl) (fm (.inr (.inl rfl)) (fm (.inl rfl) (fm (.inl rfl) (fm (.inr (.inl rfl)) (fm (.inl rfl) (fm (itP (P:=A5L) (.inl rfl) (.inl rfl)) (fm (.inl rfl) (fm (.inl rfl) (fm (.inl rfl) fn)))))))))) (fun Ω=> .inl rfl) (kOf n)
theorem B8y (t:Bool)(w:Nat)(x:ND):A5L (A1Y t w x):=
 B6j (P:=fun w=>A5L (A1Y t w x)) 8 (fm (.inr (.inr (.inr rfl))) (fm (.inr (.inr (.inr rfl))) (fm (.inl rfl) (fm (.inl rfl) (fm (.inl rfl) (fm (.inl rfl) (fm (itP (P:=A5L) (.inr (.inr (.inl rfl))) (.inl rfl)) (fm (.inl rfl) fn)))))))) (fun Ω=> .inl rfl) w
theorem C5Q {s:Nat}{y:ND}(h:A5L y):A5L (yND s y):=
 B6j (P:=fun s=>A5L (yND s y)) 3 (fm h (fm (.inr (.inr (.inr rfl))) (fm (.inr (.inr (.inr rfl))) fn))) (fun Ω=>itP (P:=A5L) (.inr (.inr (.inl rfl))) h) s
theorem C0X {w:Nat}{x y:ND}(hx:A5L x)(hy:A5L y):A5L (A4l w x y):=
 B6j (P:=fun w=>A5L (A4l w x y)) 15 (fm hx (fm hx (fm hx (fm hx (fm hx (fm hx (fm hx (fm hx (fm hx (fm hy (fm (.inl rfl) (fm hy (fm (.inl rfl) (fm (.inr (.inr (.inl rfl))) (fm (.inl rfl) fn))))))))))))))) (fun Ω=>hx) w
theorem B8R {nw:Bool}{n n2 n3:Int}{x:ND}(hx:A5L x):A5L (A2v t nw n n2 n3 x):=by
 unfold A2v
 have hy:=C5Q (s:=(n / 18%4).toNat) (A4Y t nw n2)
 split
 ·exact B8y _ _ _
 ·dsimp only
  split
  ·exact C0X hx hy
  ·split
   ·exact hy
   ·left;rfl
section
variable {lv:Nat}
theorem A4R (g:GOk G){as:List V}{wr:Bool}{nd:ND}(h:mkN G.w.params lv wr C as t=some nd)(R:Rep G 818 Z v (A0t C as t)):Rep G 818 Z v (.abs (A0d lv nd)):=by
 unfold mkN fsA at h
 rw [←g.K] at h
 exact Rep.node g.r8 h R
theorem A7s (g:GOk G)(hlv:lv=2∨lv=3){F:ND→ND}(hC:(C,F)∈C5M){x:ND}(R:Rep G 818 Z v (A0t C [.abs (A0d lv x)] t)):Rep G 818 Z v (.abs (A0d (lv+1) (F x))):=by
 rcases hlv with rfl| rfl
 ·exact A4R g ((B0v G.w.params x).1 t _ hC) R
 ·exact A4R g ((B0u G.w.params x).1 t _ hC) R
theorem C7c (g:GOk G)(hlv:lv=2∨lv=3){x:ND}(R:Rep G 818 Z v (A0t 2209 [.abs (A0d lv x)] t)):Rep G 818 Z v (.abs (A0d (lv+1) (ndD t x))):=by
 have ht:t∈ [true,false]:=by cases t<;>simp
 rcases hlv with rfl| rfl
 ·exact A4R g ((B0v G.w.params x).2 t ht) R
 ·exact A4R g ((B0u G.w.params x).2 t ht) R
theorem A9Z (g:GOk G)(hlv:lv=2∨lv=3){F:ND→ND→ND}(hC:(C,F)∈C5L){x y:ND}(R:Rep G 818 Z v (A0t C [.abs (A0d lv x),.abs (A0d lv y)] t)):Rep G 818 Z v (.abs (A0d (lv+1) (F x y))):=by
 rcases hlv with rfl| rfl
 ·exact A4R g ((B0t G.w.params x y x t).1 _ hC) R
 ·exact A4R g ((B0s G.w.params x y x t).1 _ hC) R
theorem B7E (g:GOk G)(hlv:lv=2∨lv=3){x y z:ND}(R:Rep G 818 Z v (A0t 1574 [.abs (A0d lv x),.abs (A0d lv y),.abs (A0d lv z)] t)):Rep G 818 Z v (.abs (A0d (lv+1) (A1d x y z))):=by
 rcases hlv with rfl| rfl
 ·exact A4R g (B0t G.w.params x y z t).2 R
 ·exact A4R g (B0s G.w.params x y z t).2 R
theorem C3H (g:GOk G){F:ND→ND}(hC:(C,F)∈ [(2046,ndA),(2089,ndS),(2245,ndV)]){x:ND}(R:Rep G 818 Z v (A0t C [.abs (A0d 1 x)] t)):Rep G 818 Z v (.abs (A0d 2 (F x))):=A4R g (B6d G.w.params t x _ hC) R
noncomputable abbrev pD (lv:Nat)(x:ND):V:= .abs (B1K lv x (A2x x.ps 122) (A2x x.ps 111) (A2x x.ps 110) (A2x x.ps 100) (A2x x.ps 117))
theorem C5e (g:GOk G)(hlv:lv=2∨lv=3){x y z:ND}(k:Nat)(hk:k<3)(R:Rep G 818 Z v (A0t 1924 [C3w (1+k),.abs (A0d lv x),.abs (A0d lv y),.abs (A0d lv z)] t)):Rep G 818 Z v (.abs (A0d (lv+1) (B1r (1+k) x y z))):=by
 replace R:=R.mini (bs:= [C3w (1+k),pD lv x,pD lv y,pD lv z]) fun vs R=>by
  refine R.consE fun Ω Ω R0 R=> ?_
  exact R.consE fun Ω Ω R1 R=>R.consE fun Ω Ω R2 R=>R.consE fun Ω Ω R3 R=>R.nilE (.cons R0 (.cons R1.pst (.cons R2.pst (.cons R3.pst .nil))))
 have hb: ∀ a b c:Bool,(a,b,c)∈B8t:=by decide
 have hkm:(1+ (k:Int))∈ ([1,2,3]:List Int):=(by decide: ∀ k<3,(1+ ((k:Nat):Int))∈ ([1,2,3]:List Int)) k hk
 rcases hlv with rfl| rfl
 ·exact A4R g (B6c G.w.params t x y z _ _ _ _ _ _ _ _ _ _ _ _ _ hkm (_,_,_) (hb _ _ _)) R
 ·exact A4R g (B6b G.w.params t x y z _ _ _ _ _ _ _ _ _ _ _ _ _ hkm (_,_,_) (hb _ _ _)) R
end
section
variable {lv:Nat}
theorem Locs.convAt {pre post:Loc}{a b:V}(h:Locs G C₀ Z m (pre++ (x,a)::post))(k: ∀ w,Rep G C₀ Z w a→Rep G C₀ Z w b):Locs G C₀ Z m (pre++ (x,b)::post):=by
 intro y r e
 have hy:=h y
 rw [A1i] at e hy
 cases hp:pre.lookup y with
 | some r'=>
  rw [hp] at e hy
  exact hy r e
 | none=>
  rw [hp] at e hy
  rw [Option.none_or,a0M] at e hy
  cases q:y==x with
  | true=>
   rw [q] at e hy
   obtain⟨w,h1,h2⟩:=hy a rfl
   exact⟨w,h1,x1 e (k w h2)⟩
  | false=>
   rw [q] at e hy
   exact hy r e
theorem Locs.dup {a b:V}(h:Locs G C₀ Z m ((x,a)::(x,b)::ρ)):Locs G C₀ Z m ((x,a)::ρ):=by
 intro y r e
 refine h y r ?_
 rw [a0M] at e ⊢
 cases q:y==x with
 | true=>rw [q] at e;exact e
 | false=>rw [q] at e;rw [a0M,q];exact e
theorem A2J {st:Stmt}{rest:List Stmt}{v:V}(h:Ex G C₀ c A m own (exec st env) (.ret v)):Ex G C₀ c A m own (execs (st::rest) env) (.ret v):=by
 intro s Q E S en q
 refine a0N (h s _ E S en fun own' m' fl s' S' R=> ?_)
 obtain⟨w,rfl,R'⟩:=R
 exact q own' m' _ s' S' ⟨w,rfl,R'⟩
theorem ex9 (g:GOk G){st:Stmt}(h:st9 G.w.params d ρ st=some res)(ok:c.Ok G A)(room:Room A 130)(he:c.env=d.env f c.L)(hl:Locs G 818 (vis c own) m ρ):Ex G 818 c A m own (exec st c.env) res:=by
 unfold st9 at h
 refine Ex.winO h fun r hr=> ?_
 unfold A7z at hr
 refine(A0M hr).elim (fun h1=>g.hk9.S g.r9' h1 ok room he hl) fun h1=> ?_
 rw [←g.K] at h1
 exact A1A g.r9' h1 ok room he hl
theorem C2K {sts:List Stmt}{r:Evs}{fv:Value}{v:V}(X:Snd G C₀ r)(ok:c.Ok G A)(room:Room A b)(he:c.env=d.env f c.L)(hl:Locs G C₀ (vis c own) m ρ)(h:C1I sts=true)(hf:nmF G.K d ρ (C4d sts)=some (.k fv))(hk:A0L G.K fv=true)
  (ha:A3M r b (nmF G.K d ρ) (B9a sts)=some rs) (hc: ∀ own' vs,Reps G C₀ (vis c (own'++own)) vs rs→EvR G C₀ c A m (own'++own) False (call fv vs) (fun Z w=>Rep G C₀ Z w v)):Ex G C₀ c A m own (execs sts c.env) (.ret v):=by
 obtain⟨q,hq,h⟩:=B5m h
 rw [C4d,C3v,hq] at hf
 rw [B9a,C3v,hq] at ha
 have hn:NamesOk G C₀ c A m own c.env (nmF G.K d ρ):=A0f ok he hl
 exact x3 hq fun st h1 hq=>x3 hq fun e h2 h3=>A1b h1 (C1s (motive:=fun st=>Ex G C₀ c A m own (execs [st] c.env) (.ret v)) h2 fun p=>A4y (motive:=fun e=>Ex G C₀ c A m own (execs [.Return (some e) p] c.env) (.ret v)) h3 fun np cpos=>
  Ex.one (A2i ((A0z ok h hk (hn q.1 np _ [] hf) (fun own'=>A0u X ok room (A0n he) ha (hn.more own')) hc).evF)))
theorem A2o {ds:List (Int×Int)}{q n:Int}(h1:A3i ds q=n)(h2:A1h ds=true): ∀ w,Rep G C₀ Z w (.s (.int n))→Rep G C₀ Z w (.s (.dig ds q)):=by
 intro w R
 have R:=R.sI
 refine R.intE fun Ω=> ?_
 subst h1
 exact .s (.dig h2)
theorem A3b {ds:List (Int×Int)}{q n:Int}(h1:A3i ds q=n): ∀ w,Rep G C₀ Z w (.s (.dig ds q))→Rep G C₀ Z w (.s (.int n)):=by
 intro w R
 have R:=R.sI
 refine R.digE fun Ω Ω=> ?_
 subst h1
 exact .s .int
theorem B5M {a b:Int}(h:a=b): ∀ w,Rep G C₀ Z w (.s (.int a))→Rep G C₀ Z w (.s (.int b)):=fun w R=>h▸R
theorem C2h (g:GOk G){l:List Int}{p:Int}{nw:Bool}(hc:(t&&nw)=false)(hl:l.length≤63)(h0:0≤p)(h1:p<1000)(R:Reps G 818 Z vs [.list (A0D l),.s (.int p),.s (.int 0),.s (.bool t),.k (.ref (wA nw))]):
  Calls G 818 131 Z 2425 ⟨vs,[]⟩ (fun H w=>Rep G 818 H w (.abs (A0d 1 (A1p t nw (A1K l p))))) False:=by
 obtain⟨s1,s2,s3,s4,s5,s6,s7⟩:=A6L G.w.params
 obtain⟨⟨a1,a2⟩,_⟩:=B3J G.w.params
 have hf:=A7S G.w.params (mρ (.list (A0D l)) p 0 t (wA nw))
 have ha:=B3K G.w.params (.list (A0D l)) p 0 t (wA nw)
 obtain⟨i1,i2,_⟩:=B7X G.w.params
 obtain⟨q1,q2,q3⟩:=C2e G.w.params
 have lpick:(A0c G.w.params 2425).scope.names.lookup ("pick" :Str)=some .local:=a0D (a0J.mp s7 _ (List.elem_iff.mp rfl))
 rw [←g.K] at s1 s2 s4 hf ha
 simp only [←g.K] at i2 q2 q3
 refine(A1I (n:=130) (res:= .ret (.abs (A0d 1 (A1p t nw (A1K l p))))) s1 s2 s3 s6 s4 rfl R fun {c A m} ok he room hlo=> ?_).mono (a0K _) Held.le.rfl (fun Ω Ω h=>h) fun h=>nomatch h
 rw [s5]
 refine A0G (res:= .ret _) (A4c g.r9 ok room he hlo a1 (by rw [a2];exact lpick) hf.1 hf.2.2.2.2.1 ha fun own' vs' R'=>A0I ok (room.less (by decide)) (A1O g hl h0 h1 R') Held.le.rfl) fun own' m' hl'=> ?_
 rw [a2] at hl'
 refine A2J ?_
 rw [i1]
 refine A3B (b:=true) (g.r9.T (i2 _ _ _ _ _) ok room (A0n he) (A0f ok he hl')) fun own2=> ?_
 rw [if_pos rfl]
 exact C2K g.r9 ok room he (hl'.mono A0a) q1 (q2 _) hf.2.2.2.2.2.1 (q3 _ _ _ _ _ _) fun own3 vs3 R3=>A0I ok (room.less (by decide)) (A3R g hc hl h0 h1 R3) Held.le.rfl
end
section
variable {lv:Nat}{l:List Int}{n p dp p1 d1 p2 p3:Int}{nw:Bool}{X Y Zz sc:V}{x y z:ND}{W:Addr}{w:Int}
theorem B6s (g:GOk G)(ok:c.Ok G A)(room:Room A 130)(he:c.env=(A0c G.w.params 2425).env f c.L)(h9:9≤w)(h18:w<18)(hl:Locs G 818 (vis c own) m (ρ3 w X Y sc p dp t W)):Ex G 818 c A m own (exec (md G.w.params 4) c.env) (.nxt [] (ρ3 w X Y sc p dp t W)):=by
 obtain⟨i,hi,rfl⟩: ∃ i:Nat,i<9∧w=((i+9:Nat):Int):=A4T (a:=9) h9 h18
 exact ex9 g (A1v (e4d ..) hi) ok room he hl
theorem B0z (g:GOk G)(ok:c.Ok G A)(room:Room A 130)(he:c.env=(A0c G.w.params 2425).env f c.L)(h9:12≤w)(h18:w<18)(hl:Locs G 818 (vis c own) m (ρ5 Y w X Zz sc p dp t W)):Ex G 818 c A m own (exec (md G.w.params 7) c.env) (.nxt [] (ρ5 Y w X Zz sc p dp t W)):=by
 obtain⟨i,hi,rfl⟩: ∃ i:Nat,i<6∧w=((i+12:Nat):Int):=A4T (a:=12) h9 h18
 exact ex9 g (A1v (e7n ..) hi) ok room he hl
theorem B7H (h:A5L x):x.ty∈tys:=by
 rcases h with h| h| h| h<;>rw [h]
 ·exact .head _
 ·exact .tail _ (.head _)
 ·exact .tail _ (.tail _ (.head _))
 ·exact .tail _ (.tail _ (.tail _ (.head _)))
theorem C0M (g:GOk G)(hlv:lv=2∨lv=3){i:Nat}(hi:i<9):Rep G 818 Z v (A0t (wC i x.ty) [.abs (A0d lv x)] t)→Rep G 818 Z v (.abs (A0d (lv+1) (A1Y t i x))):=by
 have H: ∀ i∈List.range 9,Rep G 818 Z v (A0t (wC i x.ty) [.abs (A0d lv x)] t)→Rep G 818 Z v (.abs (A0d (lv+1) (A1Y t i x))):=fm (A7s (F:=ndA) g hlv (.head _)) (fm (A7s (F:=ndS) g hlv (.tail _ (.head _))) (fm (A7s (F:=ndT) g hlv (.tail _ (.tail _ (.tail _ (.head _))))) (fm (C7c g hlv)
  (fm (A7s (F:=ndJ) g hlv (.tail _ (.tail _ (.tail _ (.tail _ (.tail _ (.head _))))))) (fm (A7s (F:=ndN) g hlv (.tail _ (.tail _ (.tail _ (.tail _ (.tail _ (.tail _ (.head _)))))))) (fm (fun R=>by
   rw [show A1Y t 6 x=if x.ty= "B" then ndV x else ndC x from rfl]
   rw [show wC 6 x.ty=if x.ty= "B" then 2245 else 2132 from rfl] at R
   by_cases h:x.ty= "B"
   ·rw [if_pos h] at R ⊢;exact A7s g hlv (.tail _ (.tail _ (.tail _ (.tail _ (.head _))))) R
   ·rw [if_neg h] at R ⊢;exact A7s g hlv (.tail _ (.tail _ (.head _))) R)
  (fm (A7s (F:=ndL) g hlv (.tail _ (.tail _ (.tail _ (.tail _ (.tail _ (.tail _ (.tail _ (.head _))))))))) (fm (A7s (F:=ndU) g hlv (.tail _ (.tail _ (.tail _ (.tail _ (.tail _ (.tail _ (.tail _ (.tail _ (.head _)))))))))) fn))))))))
 exact H i (List.mem_range.mpr hi)
theorem B9s (g:GOk G)(ok:c.Ok G A)(room:Room A 130)(he:c.env=(A0c G.w.params 2425).env f c.L)(hlv:lv=2∨lv=3)(hX:A5L x){rest:List Stmt}(h0:0≤w)(h9:w<9)(hl:Locs G 818 (vis c own) m (ρ3 w (.abs (A0d lv x)) Y sc p dp t W)):
  Ex G 818 c A m own (execs (md G.w.params 4::rest) c.env) (.ret (.abs (A0d (lv+1) (A1Y t w.toNat x)))):=by
 obtain⟨i,rfl⟩: ∃ i:Nat,w=(i:Int):=⟨w.toNat,(Int.toNat_of_nonneg h0).symm⟩
 have hi:i<9:=Int.ofNat_lt.mp h9
 by_cases h4:i<4
 ·have e:=Prod.mk.inj (A1v (e4i G.w.params (.abs (A0d lv x)) Y sc p dp t W x.ty) h4)
  have ht:=e.1
  rw [←g.K] at ht
  rw [C2f]
  refine A2J (A3B (b:=true) (g.r9.T ht ok room (A0n he) (A0f ok he hl)) fun own2=> ?_)
  rw [if_pos rfl]
  exact A2J (Ex.retW (ex9 g e.2 ok room he (hl.mono A0a)) fun Z v=>C0M g hlv hi)
 ·have hi5:i∈ [4,5,6,7,8]:=(by decide: ∀ i<9,¬ i<4→i∈ [4,5,6,7,8]) i hi h4
  have hm:(lv,x.ty,i)∈lst4:=List.mem_flatMap.mpr ⟨lv,hlv.elim (fun h=>h▸ .head _) fun h=>h▸ .tail _ (.head _),List.mem_flatMap.mpr ⟨x.ty,B7H hX,List.mem_map.mpr ⟨i,hi5,rfl⟩⟩⟩
  exact A2J (Ex.retW (ex9 g (a0Y.mp (e4o G.w.params Y sc p dp t W x) _ hm) ok room he hl) fun Z v=>C0M g hlv hi)
theorem C6t (g:GOk G)(ok:c.Ok G A)(room:Room A 130)(he:c.env=(A0c G.w.params 2425).env f c.L)(hy:A5L y)(hlv:lv=2∨lv=3){rest:List Stmt}{res:V}(hl:Locs G 818 (vis c own) m (ρ5 (.abs (A0d 1 y)) w X (.s (.int n)) sc p dp t W))
  (k: ∀ own' m',Locs G 818 (vis c (own'++own)) m' (ρ5 (.abs (A0d lv (yND (n / 18%4).toNat y))) w X (.s (.int n)) sc p dp t W)→Ex G 818 c A m' (own'++own) (execs rest c.env) (.ret res)):
  Ex G 818 c A m own (execs (md G.w.params 6::rest) c.env) (.ret res):=by
 have hlv2:=C5z hlv
 have hd: ∀ s:Int,n / 18%4=s→A3i [(n%18,18),(s,4)] (n / 72)=n∧A1h [(n%18,18),(s,4)]=true:=fun s hs=>C4O (by decide) (by decide) (Int.ediv_ediv_of_nonneg (x:=n) (y:=18) (z:=4) (by decide)) hs
 have conv: ∀ s:Int,n / 18%4=s→Locs G 818 (vis c own) m (ρ5 (.abs (A0d 1 y)) w X (.s (.dig [(n%18,18),(s,4)] (n / 72))) sc p dp t W):=fun s hs=>hl.convAt (pre:= [("y",_),("which",_),("x",_)]) (A2o (hd s hs).1 (hd s hs).2)
 have back: ∀ (s:Int) (Y':V) (own':List (Addr×Obj)) (m':Str→Option Value),n / 18%4=s→Locs G 818 (vis c (own'++own)) m' (ρ5 Y' w X (.s (.dig [(n%18,18),(s,4)] (n / 72))) sc p dp t W)→Locs G 818 (vis c (own'++own)) m' (ρ5 Y' w X (.s (.int n)) sc p dp t W):=fun s Y' own' m' hs hl=>hl.convAt (pre:= [("y",_),("which",_),("x",_)]) (A3b (hd s hs).1)
 obtain⟨i,hi,h⟩: ∃ i:Nat,i<4∧n / 18%4=(i:Int):=A4T (a:=0) (k:=4) (a2A (n / 18) (by decide)) (a1Q (n / 18) (by decide))
 rcases lt4 hi with rfl| rfl| rfl| rfl
 ·refine A0G (res:= .ret res) (ex9 g (e6 ..) ok room he (conv 0 h)) fun own' m' hl'=>k own' m' ?_
  rw [show yND (n / 18%4).toNat y=y from by rw [h];rfl]
  exact(back 0 _ own' m' h hl').conv fun v R=>R.up (a0F (by decide) hlv2)
 ·refine A0G (res:= .ret res) (ex9 g (A1v (e6s (ty:= "") ..) (i:=0) (by decide)) ok room he (conv 1 h)) fun own' m' hl'=>k own' m' ?_
  rw [show yND (n / 18%4).toNat y=ndA y from by rw [h];rfl]
  exact(back 1 _ own' m' h hl'.dup).conv fun v R=>(C3H (F:=ndA) g (.head _) R).up hlv2
 ·refine A0G (res:= .ret res) (ex9 g (A1v (e6s (ty:= "") ..) (i:=1) (by decide)) ok room he (conv 2 h)) fun own' m' hl'=>k own' m' ?_
  rw [show yND (n / 18%4).toNat y=ndS y from by rw [h];rfl]
  exact(back 2 _ own' m' h hl'.dup).conv fun v R=>(C3H (F:=ndS) g (.tail _ (.head _)) R).up hlv2
 ·have e:=a0Y.mp (e6t G.w.params X sc p dp (n / 72) (n%18) w t W y) _ (B7H hy)
  rw [show yND (n / 18%4).toNat y=if y.ty= "B" then ndV y else y from by rw [h];rfl] at k
  refine A0G (res:= .ret res) (ex9 g e ok room he (conv 3 h)) fun own' m' hl'=>k own' m' ((back 3 _ own' m' h hl'.dup).conv fun v R=> ?_)
  by_cases q:y.ty= "B"
  ·rw [if_pos q] at R ⊢;exact(C3H (F:=ndV) g (.tail _ (.tail _ (.head _))) R).up hlv2
  ·rw [if_neg q] at R ⊢;exact Rep.up R (a0F (by decide) hlv2)
theorem C6s (g:GOk G)(ok:c.Ok G A)(room:Room A 130)(he:c.env=(A0c G.w.params 2425).env f c.L)(hlv:lv=2∨lv=3){rest:List Stmt}{res:V}(hl:Locs G 818 (vis c own) m (ρ9 (.abs (A0d 1 z)) Y w X (.s (.int n)) sc p dp t W))
  (k: ∀ own' m',Locs G 818 (vis c (own'++own)) m' (ρ9 (.abs (A0d lv (zND (n / 72%2).toNat z))) Y w X (.s (.int n)) sc p dp t W)→Ex G 818 c A m' (own'++own) (execs rest c.env) (.ret res)):
  Ex G 818 c A m own (execs (md G.w.params 10::rest) c.env) (.ret res):=by
 have hlv2:=C5z hlv
 have hd: ∀ s:Int,n / 72%2=s→A3i [(n%72,72),(s,2)] (n / 144)=n∧A1h [(n%72,72),(s,2)]=true:=fun s hs=>C4O (by decide) (by decide) (Int.ediv_ediv_of_nonneg (x:=n) (y:=72) (z:=2) (by decide)) hs
 have conv: ∀ s:Int,n / 72%2=s→Locs G 818 (vis c own) m (ρ9 (.abs (A0d 1 z)) Y w X (.s (.dig [(n%72,72),(s,2)] (n / 144))) sc p dp t W):=fun s hs=>hl.convAt (pre:= [("z",_),("y",_),("which",_),("x",_)]) (A2o (hd s hs).1 (hd s hs).2)
 have back: ∀ (s:Int) (Y':V) (own':List (Addr×Obj)) (m':Str→Option Value),n / 72%2=s→Locs G 818 (vis c (own'++own)) m' (ρ9 Y' Y w X (.s (.dig [(n%72,72),(s,2)] (n / 144))) sc p dp t W)→Locs G 818 (vis c (own'++own)) m' (ρ9 Y' Y w X (.s (.int n)) sc p dp t W):=fun s Y' own' m' hs hl=>hl.convAt (pre:= [("z",_),("y",_),("which",_),("x",_)]) (A3b (hd s hs).1)
 obtain⟨i,hi,h⟩: ∃ i:Nat,i<2∧n / 72%2=(i:Int):=A4T (a:=0) (k:=2) (a2A (n / 72) (by decide)) (a1Q (n / 72) (by decide))
 rcases lt2 hi with rfl| rfl
 ·refine A0G (res:= .ret res) (ex9 g (e10 ..).1 ok room he (conv 0 h)) fun own' m' hl'=>k own' m' ?_
  have h1:=(back 0 _ own' m' h hl'.dup).conv fun v R=>R.up (lv':=lv) (a0F (by decide) hlv2)
  rw [show zND (n / 72%2).toNat z=z from by rw [h];rfl]
  exact h1
 ·refine A0G (res:= .ret res) (ex9 g (e10 ..).2 ok room he (conv 1 h)) fun own' m' hl'=>k own' m' ?_
  have h1:=(back 1 _ own' m' h hl'.dup).conv fun v R=>(C3H (F:=ndA) g (.head _) R).up (lv':=lv) hlv2
  rw [show zND (n / 72%2).toNat z=ndA z from by rw [h];rfl]
  exact h1
end
section
variable {lv:Nat}{l:List Int}{n p dp p1 d1 p2 p3:Int}{nw:Bool}{X Y Zz sc:V}{x y z:ND}{W:Addr}{w:Int}
theorem B7W (P:Params):(A0c P 2425).scope.names.lookup ("pick" :Str)=some .local∧(A0c P 2425).scope.names.lookup ("x" :Str)=some .local∧(A0c P 2425).scope.names.lookup ("y" :Str)=some .local∧(A0c P 2425).scope.names.lookup ("z" :Str)=some .local:=by
 obtain⟨_,_,_,_,_,_,s7⟩:=A6L P
 exact⟨a0D (a0J.mp s7 _ (List.elem_iff.mp rfl)),a0D (a0J.mp s7 _ (List.elem_iff.mp rfl)),a0D (a0J.mp s7 _ (List.elem_iff.mp rfl)),a0D (a0J.mp s7 _ (List.elem_iff.mp rfl))⟩
theorem C2d (g:GOk G)(ok:c.Ok G A)(room:Room A 130)(he:c.env=(A0c G.w.params 2425).env f c.L)(hlv:lv=2∨lv=3){rest:List Stmt}(h9:9≤w)(h16:w<16)(hl:Locs G 818 (vis c own) m (ρ5 (.abs (A0d lv y)) w (.abs (A0d lv x)) (.s (.int n)) sc p dp t W)):
  Ex G 818 c A m own (execs (md G.w.params 7::md G.w.params 8::rest) c.env) (.ret (.abs (A0d (lv+1) (A4l w.toNat x y)))):=by
 obtain⟨i,rfl⟩:=Int.eq_ofNat_of_zero_le (a1E (by decide) h9)
 have g9:9≤i:=Int.ofNat_le.mp h9
 have g16:i<16:=Int.ofNat_lt.mp h16
 have hk: ∀ Z v,Rep G 818 Z v (A0t (C3F i) [.abs (A0d lv x),.abs (A0d lv y)] t)→Rep G 818 Z v (.abs (A0d (lv+1) (A4l i x y))):=fun Z v=>by
  have H: ∀ i∈ [9,10,11,12,13,14,15],Rep G 818 Z v (A0t (C3F i) [.abs (A0d lv x),.abs (A0d lv y)] t)→Rep G 818 Z v (.abs (A0d (lv+1) (A4l i x y))):=fm (A9Z (F:=A3s) g hlv (.head _)) (fm (A9Z (F:=A3u) g hlv (.tail _ (.head _))) (fm (A9Z (F:=A3t) g hlv (.tail _ (.tail _ (.head _)))) (fm (A9Z (F:=A6I) g hlv (.tail _ (.tail _ (.tail _ (.head _))))) (fm (A9Z (F:=A6H) g hlv (.tail _ (.tail _ (.tail _ (.tail _ (.head _)))))) (fm (A9Z (F:=A6G) g hlv (.tail _ (.tail _ (.tail _ (.tail _ (.tail _ (.head _))))))) (fm (A9Z (F:=A4S) g hlv (.tail _ (.tail _ (.tail _ (.tail _ (.tail _ (.tail _ (.head _)))))))) fn))))))
  exact H i ((by decide: ∀ i<16,9≤i→i∈ [9,10,11,12,13,14,15]) i g16 g9)
 by_cases h12:i<12
 ·obtain⟨j,rfl⟩: ∃ j,i=j+9:=⟨i - 9,(Nat.sub_add_cancel g9).symm⟩
  exact A2J (Ex.retW (ex9 g (A1v (e7 ..) (i:=j) (Nat.lt_of_add_lt_add_right (n:=9) h12)) ok room he hl) hk)
 ·obtain⟨j,rfl⟩: ∃ j,i=j+12:=⟨i - 12,(Nat.sub_add_cancel (Nat.not_lt.mp h12)).symm⟩
  exact A0G (res:= .ret _) (B0z g ok room he (Int.ofNat_le.mpr (Nat.le_add_left 12 j)) (Int.lt_trans h16 (by decide)) hl) fun own' m' hl'=>A2J (Ex.retW (ex9 g (A1v (e8 ..) (i:=j) (Nat.lt_of_add_lt_add_right (n:=12) g16)) ok room he hl') hk)
theorem B6r (g:GOk G)(ok:c.Ok G A)(room:Room A 130)(he:c.env=(A0c G.w.params 2425).env f c.L)(hlv:lv=2∨lv=3)(hn:n%18=w)(h16:16≤w)(h18:w<18)(hl:Locs G 818 (vis c own) m (ρ9 (.abs (A0d lv z)) (.abs (A0d lv y)) w (.abs (A0d lv x)) (.s (.int n)) sc p dp t W)):
  Ex G 818 c A m own (execs [md G.w.params 11] c.env) (.ret (.abs (A0d (lv+1) (if w=16 then A1d x y z else B1r (1+n / 18%3) x y z)))):=by
 have hw:w=16∨w=17:=by
  obtain⟨i,hi,e⟩:=A4T (a:=16) (k:=2) h16 h18
  rcases lt2 hi with rfl| rfl
  ·exact .inl e
  ·exact .inr e
 rcases hw with h| h
 ·subst h
  rw [if_pos rfl]
  exact A2J (Ex.retW (ex9 g (e11 ..) ok room he hl) fun Z v R=>B7E g hlv R)
 ·subst h
  rw [if_neg (by decide)]
  have hd: ∀ s:Int,n / 18%3=s→A3i [(n%18,18),(s,3)] (n / 54)=n∧A1h [(n%18,18),(s,3)]=true:=fun s hs=>C4O (by decide) (by decide) (Int.ediv_ediv_of_nonneg (x:=n) (y:=18) (z:=3) (by decide)) hs
  have conv: ∀ s:Int,n / 18%3=s→Locs G 818 (vis c own) m (ρ9 (.abs (A0d lv z)) (.abs (A0d lv y)) 17 (.abs (A0d lv x)) (.s (.dig [(n%18,18),(s,3)] (n / 54))) sc p dp t W):=fun s hs=>hl.convAt (pre:= [("z",_),("y",_),("which",_),("x",_)]) (A2o (hd s hs).1 (hd s hs).2)
  obtain⟨s,h3,hs⟩: ∃ s:Nat,s<3∧n / 18%3=(s:Int):=A4T (a:=0) (k:=3) (a2A (n / 18) (by decide)) (a1Q (n / 18) (by decide))
  rw [hs]
  exact A2J (Ex.retW (ex9 g (A1v (C6R ..) h3) ok room he (conv s hs)) fun Z v R=>C5e g hlv s h3 R)
theorem B9t (g:GOk G)(ok:c.Ok G A)(room:Room A 130)(he:c.env=(A0c G.w.params 2425).env f c.L)(hc:(t&&nw)=false)(hlen:l.length≤63)(h2:0≤p2∧p2<1000)(h3:0≤p3∧p3<1000)(ha:A8J G.w.params p dp p1 d1 p2 p3)(hlv:lv=2∨lv=3)(hX:A5L x)
  (hl:Locs G 818 (vis c own) m (ρ2 (.abs (A0d lv x)) (.s (.int n)) (.list (A0D l)) p dp t (wA nw))):
  Ex G 818 c A m own (execs [md G.w.params 3,md G.w.params 4,md G.w.params 5,md G.w.params 6,md G.w.params 7,md G.w.params 8,md G.w.params 9,md G.w.params 10,md G.w.params 11] c.env) (.ret (.abs (A0d (lv+1) (A2v t nw n (A1K l p2) (A1K l p3) x)))):=by
 have hw0:0≤n%18:=a2A _ (by decide)
 have hw1:n%18<18:=a1Q _ (by decide)
 have hd:=C6S (n:=n) (a:=18) (by decide)
 have lo:=B7W G.w.params
 obtain⟨_,_,⟨b1,b2⟩,⟨b3,b4⟩⟩:=B3J G.w.params
 obtain⟨_,ha5,ha9⟩:=ha
 have hl0:Locs G 818 (vis c own) m (ρ2 (.abs (A0d lv x)) (.s (.dig [(n%18,18)] (n / 18))) (.list (A0D l)) p dp t (wA nw)):=hl.convAt (pre:= [("x",_)]) (A2o hd.1 hd.2)
 refine A0G (res:= .ret _) (ex9 g (e3 ..) ok room he hl0) fun own' m' hl1=> ?_
 have hl2:Locs G 818 (vis c (own'++own)) m' (ρ3 (n%18) (.abs (A0d lv x)) (.s (.int n)) (.list (A0D l)) p dp t (wA nw)):=by
  have a:=hl1.conv (B5M (b:=n%18) (by lia))
  exact a.convAt (pre:= [("which",_),("x",_)]) (A3b hd.1)
 clear hl0 hl1
 unfold A2v
 by_cases h9:n%18<9
 ·rw [if_pos h9]
  exact B9s g ok room he hlv hX hw0 h9 hl2
 ·rw [if_neg h9]
  dsimp only
  refine A0G (res:= .ret _) (B6s g ok room he (a2N.mp h9) hw1 hl2) fun own2 m2 hl3=> ?_
  have hf:=A7S G.w.params (ρ3 (n%18) (.abs (A0d lv x)) (.s (.int n)) (.list (A0D l)) p dp t (wA nw))
  have ha5':=ha5 (.abs (A0d lv x)) (.s (.int n)) (.list (A0D l)) (n%18) t (wA nw)
  rw [←g.K] at hf ha5'
  refine A0G (res:= .ret _) (A4c g.r9 ok room he hl3 b1 (by rw [b2];exact lo.2.2.1) hf.2.2.1 hf.2.2.2.2.2.1 ha5' fun own3 vs3 R3=>A0I ok (room.less (by decide)) (A3R g hc hlen h2.1 h2.2 R3) Held.le.rfl) fun own3 m3 hl4=> ?_
  rw [b2] at hl4
  refine C6t g ok room he (A4Y _ _ _) hlv hl4 fun own4 m4 hl5=> ?_
  by_cases h16:n%18<16
  ·rw [if_pos h16]
   exact C2d g ok room he hlv (a2N.mp h9) h16 hl5
  ·rw [if_neg h16]
   refine A0G (res:= .ret _) (B0z g ok room he (a1E (by decide) (a2N.mp h16)) hw1 hl5) fun own5 m5 hl6=> ?_
   have h8:Ex G 818 c A m5 (own5++ (own4++ (own3++ (own2++ (own'++own))))) (exec (md G.w.params 8) c.env) (.nxt [] (ρ5 (.abs (A0d lv (yND (n / 18%4).toNat (A1p t nw (A1K l p2))))) (n%18) (.abs (A0d lv x)) (.s (.int n)) (.list (A0D l)) p dp t (wA nw))):=by
    obtain⟨i,hi,e⟩: ∃ i:Nat,i<2∧n%18=((i+16:Nat):Int):=A4T (a:=16) (a2N.mp h16) hw1
    rw [e] at hl6 ⊢
    exact ex9 g (A1v (e8n ..) hi) ok room he hl6
   refine A0G (res:= .ret _) h8 fun own6 m6 hl7=> ?_
   have hf9:=A7S G.w.params (ρ5 (.abs (A0d lv (yND (n / 18%4).toNat (A1p t nw (A1K l p2))))) (n%18) (.abs (A0d lv x)) (.s (.int n)) (.list (A0D l)) p dp t (wA nw))
   have ha9':=ha9 (.abs (A0d lv x)) (.abs (A0d lv (yND (n / 18%4).toNat (A1p t nw (A1K l p2))))) (.s (.int n)) (.list (A0D l)) (n%18) t (wA nw)
   rw [←g.K] at hf9 ha9'
   refine A0G (res:= .ret _) (A4c g.r9 ok room he hl7 b3 (by rw [b4];exact lo.2.2.2) hf9.2.2.2.1 hf9.2.2.2.2.2.1 ha9' fun own7 vs7 R7=>A0I ok (room.less (by decide)) (A3R g hc hlen h3.1 h3.2 R7) Held.le.rfl) fun own7 m7 hl8=> ?_
   rw [b4] at hl8
   exact C6s g ok room he hlv hl8 fun own8 m8 hl9=>B6r g ok room he hlv rfl (a2N.mp h16) hw1 hl9
theorem A4U (g:GOk G){n₀ lvx:Nat}(hc:(t&&nw)=false)(hlen:l.length≤63)(hp:0≤p∧p<1000)(h2:0≤p2∧p2<1000)(h3:0≤p3∧p3<1000)(ha:A8J G.w.params p dp p1 d1 p2 p3)(hdp:dp=1∨dp=2)(hlv:lv=2∨lv=3)(hx:lvx≤lv)(hX:A5L x)(hn:130≤n₀)
  (cx: ∀ (Z:Held) (vs:List Value),Reps G 818 Z vs [.list (A0D l),.s (.int p1),.s (.int d1),.s (.bool t),.k (.ref (wA nw))]→Calls G 818 n₀ Z 2425 ⟨vs,[]⟩ (fun H w=>Rep G 818 H w (.abs (A0d lvx x))) False)
  (R:Reps G 818 Z vs [.list (A0D l),.s (.int p),.s (.int dp),.s (.bool t),.k (.ref (wA nw))]):
  Calls G 818 (n₀+1) Z 2425 ⟨vs,[]⟩ (fun H w=>Rep G 818 H w (.abs (A0d (lv+1) (A2v t nw (A1K l p) (A1K l p2) (A1K l p3) x)))) False:=by
 obtain⟨s1,s2,s3,s4,s5,s6,s7⟩:=A6L G.w.params
 obtain⟨⟨a1,a2⟩,⟨a3,a4⟩,_⟩:=B3J G.w.params
 have hf:=A7S G.w.params (mρ (.list (A0D l)) p dp t (wA nw))
 have hf2:=fun (n:Int)=>A7S G.w.params (("pick",.s (.int n))::mρ (.list (A0D l)) p dp t (wA nw))
 have hpar:=B3K G.w.params (.list (A0D l)) p dp t (wA nw)
 obtain⟨i1,_,i2,i3⟩:=B7X G.w.params
 have lo:=B7W G.w.params
 have ha2:=ha.1
 rw [←g.K] at s1 s2 s4 hf hpar
 simp only [←g.K] at i2 i3 hf2 ha2
 refine(A1I (n:=n₀) (res:= .ret (.abs (A0d (lv+1) (A2v t nw (A1K l p) (A1K l p2) (A1K l p3) x)))) s1 s2 s3 s6 s4 rfl R fun {c A m} ok he room hlo=> ?_).mono (a0K _) Held.le.rfl (fun Ω Ω h=>h) fun h=>nomatch h
 rw [s5]
 have room1:Room A 130:=room.less hn
 refine A0G (res:= .ret _) (A4c g.r9 ok room1 he hlo a1 (by rw [a2];exact lo.1) hf.1 hf.2.2.2.2.1 hpar fun own' vs' R'=>A0I ok (room.less (a0F (by decide) hn)) (A1O g hlen hp.1 hp.2 R') Held.le.rfl) fun own' m' hl'=> ?_
 rw [a2] at hl'
 have hif:Ex G 818 c A m' (own'++ []) (exec (md G.w.params 1) c.env) (.nxt [] (("pick",.s (.int (A1K l p)))::mρ (.list (A0D l)) p dp t (wA nw))):=by
  rw [i1]
  have T:(r9 G.w.params).T 130 (nmF G.K (A0c G.w.params 2425) (("pick",.s (.int (A1K l p)))::mρ (.list (A0D l)) p dp t (wA nw))) (A1q (md G.w.params 1))=some false:=by
   rcases hdp with rfl| rfl
   ·exact i2 _ _ _ _ _
   ·exact i3 _ _ _ _ _
  refine A3B (b:=false) (g.r9.T T ok room1 (A0n he) (A0f ok he hl')) fun own2=> ?_
  rw [if_neg (by decide)]
  exact A2h (hl'.mono A0a)
 refine A0G (res:= .ret _) hif fun own2 m2 hl2=> ?_
 refine A0G (res:= .ret _) (A4c g.r9 ok room1 he hl2 a3 (by rw [a4];exact lo.2.1) (hf2 _).2.1 hf.2.2.2.2.2.2 (ha2 _ _ _ _) fun own3 vs3 R3=>A0I ok room (cx _ _ R3) Held.le.rfl) fun own3 m3 hl3=> ?_
 rw [a4] at hl3
 exact B9t g ok room1 he hc hlen h2 h3 ha hlv hX (hl3.conv fun w R=>R.up hx)
noncomputable def B1U (t nw:Bool)(l:List Int)(p:Int):ND:=A2v t nw (A1K l p) (A1K l (3*p+2)) (A1K l (3*p+3)) (A1p t nw (A1K l (3*p+1)))
noncomputable def C2g (t nw:Bool)(l:List Int)(p:Int):ND:=A2v t nw (A1K l p) (A1K l (3*p+2)) (A1K l (3*p+3)) (B1U t nw l (3*p+1))
theorem A9n (g:GOk G)(hc:(t&&nw)=false)(hlen:l.length≤63)(R:Reps G 818 Z vs [.list (A0D l),.s (.int 1),.s (.int 1),.s (.bool t),.k (.ref (wA nw))]):
  Calls G 818 132 Z 2425 ⟨vs,[]⟩ (fun H w=>Rep G 818 H w (.abs (A0d 3 (B1U t nw l 1)))) False:=
 A4U g (lv:=2) (n₀:=131) hc hlen ⟨by decide,by decide⟩ ⟨by decide,by decide⟩ ⟨by decide,by decide⟩ (B7C G.w.params) (.inl rfl) (.inl rfl) (Nat.le_succ 1) (A4Y _ _ _) (by decide) (fun Z vs R=>C2h g hc hlen (by decide) (by decide) R) R
theorem A9m (g:GOk G)(hc:(t&&nw)=false)(hlen:l.length≤63)(R:Reps G 818 Z vs [.list (A0D l),.s (.int 1),.s (.int 2),.s (.bool t),.k (.ref (wA nw))]):
  Calls G 818 133 Z 2425 ⟨vs,[]⟩ (fun H w=>Rep G 818 H w (.abs (A0d 4 (C2g t nw l 1)))) False:=
 A4U g (lv:=3) (n₀:=132) hc hlen ⟨by decide,by decide⟩ ⟨by decide,by decide⟩ ⟨by decide,by decide⟩ (B7B G.w.params) (.inr rfl) (.inr rfl) (a0K 3) (B8R (A4Y _ _ _)) (by decide)
  (fun Z vs R=>A4U g (lv:=2) (n₀:=131) (x:=A1p t nw (A1K l 13)) hc hlen ⟨by decide,by decide⟩ ⟨by decide,by decide⟩ ⟨by decide,by decide⟩ (B7A G.w.params) (.inl rfl) (.inl rfl) (Nat.le_succ 1) (A4Y _ _ _) (by decide) (fun Z vs R=>C2h g hc hlen (by decide) (by decide) R) R) R
end
noncomputable def onL (a:Nat):List Nat→List (Nat×Nat×Nat×Nat)
 | b::d::r=>(a,b,a,d)::onL a r
 | _=> []
noncomputable def A0h (l:List (Nat×Nat×Nat×Nat)):Nat→Pos:=fun i=>match l[i]? with
 | some (a,b,c,d)=>⟨a,b,c,d⟩
 | none=>default
section
theorem B4F {lo hi:Expr}{a:Nat}{sp:Pos}{x:List UInt8}(h:Ev G C₀ c A m own (eval value env) (.s (.bytes x n)))(h1: ∀ own',Ev G C₀ c A m (own'++own) (eval lo env) (.s (.int (a:Nat))))(h2: ∀ own',Ev G C₀ c A m (own'++own) (eval hi env) (.s (.int (b:Nat))))(hab:a≤b)(hn:n≤1000000):
  Ev G C₀ c A m own (eval (.Subscript value (.Slice (some lo) (some hi) none sp) pos) env) (.s (.bytes ((x.reverse.drop a).take (b - a)).reverse n)):=by
 intro s Q E S q
 refine Subscript_ (h s _ E S fun own' v s' S' R=> ?_)
 have R:=R.sI
 refine R.bytesE fun _ _ _ _=> ?_
 rename_i bb t hb hl
 have hsz:bb.size=x.length:=by have:=congrArg List.length hb;simpa using this
 show wpAny _ _ (do
  let l ←valueOrNone (evalOpt (some lo) env)
  let u ←holding [l] (valueOrNone (evalOpt (some hi) env))
  let s ←holding [l,u] (valueOrNone (evalOpt none env))
  newFields "slice" [l,u,s]) _ _ s'
 refine a0A (m:=valueOrNone (evalOpt (some lo) env)) (h1 own' s' _ E S' fun own₁ v₁ s₁ S₁ R₁=>a0A (a0R (m:=valueOrNone (evalOpt (some hi) env)) ?_))
 rw [←a0C] at S₁
 refine h2 (own₁++own') s₁ _ E S₁ fun own₂ v₂ s₂ S₂ R₂=>a0A (a0R (a0I ?_))
 have R₁:=R₁.sI
 refine R₁.intE fun _=> ?_
 rename_i t₁
 have R₂:=R₂.sI
 refine R₂.intE fun _=> ?_
 rename_i t₂
 unfold newFields
 refine a2J ?_ (by size_fits)
 have hT:Shared.TypeIs {s₂ with heap:=s₂.heap.push {cls:= .type "slice",data:= .fields #[.int (a:Nat) t₁,.int (b:Nat) t₂,.none]}} (.bytes bb t) "bytes" :=typeIs_bytes _ _ _
 refine A0b (value:=value) (slice:= .Slice (some lo) (some hi) none sp) (T:= "bytes") hT FB.slot_bytes_getitem.lookup
  (getItem_meets hT (by decide) FB.slot_bytes_getitem FB.entry_bytes_getitem (a2X _ _) (KBc.meets_slice2 bb t _ (.int (a:Nat) t₁) (.int (b:Nat) t₂)) ⟨Heap.IsSliceOf.new _ _ _ _,?_,fun t' kk=> ?_⟩) (.inr rfl)
 ·exact a0F (KBc.size_picked_le bb _ _) (by rw [hsz];exact a0F hl (a0F hn (by decide)))
 ·refine q (own₂++ (own₁++own')) _ _ ⟨?_,?_,S₂.gens,S₂.os,S₂.dr⟩ (.s (.bytes (A5W hb a b hab) ?_))
  ·exact S₂.F.push _
  ·have:=S₂.N.grown (h':=s₂.heap.push {cls:= .type "slice",data:= .fields #[.int (a:Nat) t₁,.int (b:Nat) t₂,.none]}) fun _ _ e=>Heap.get?_push_of_some _ e
   rw [a0C own₂]
   exact this
  ·rw [a0O,List.length_take,List.length_drop,a0O]
   exact a0F (Nat.min_le_right ..) (a0F (Nat.sub_le ..) hl)
end
noncomputable def A2Y (b:UInt8):Nat:=if b.toNat<76 then b.toNat else 0
noncomputable def A2w:Nat→List UInt8→List (List UInt8)
 | 0,_=> []
 | _+1,[]=> []
 | n+1,b::r=>(b::r.take (A2Y b))::A2w n (r.drop (A2Y b))
noncomputable def A0C (l:List UInt8):List (List UInt8):=A2w l.length l
noncomputable def itV (l:List (List UInt8)):List V:=l.map fun it=> .s (.bytes it.reverse 77)
noncomputable def B6P:List (Nat×Nat×Nat×Nat):=onL 1400 [4,9,12,14,4,14]++onL 1401 [4,6,9,10,4,10]++onL 1402 [10,12,15,18,19,23,15,24,10,24]++onL 1403 [8,12,27,31,32,34,27,35,38,40,27,40,15,19,20,22,15,23,46,47,15,47,8,47]++onL 1404 [8,13,8,20,21,25,26,28,29,31,34,35,29,35,38,42,29,42,26,42,21,43,8,44,8,44]++onL 1405 [8,10,13,15,18,19,13,19,22,26,13,26,8,26]++ [(1402,4,1405,26)]++onL 1406 [11,16,4,16]
noncomputable def A6e (q:Nat→Pos):Expr:= .Compare (.Name "at" (q 6)) [.Lt] [(.Call (.Name "len" (q 7)) [(.Name "code" (q 8))] [] (q 9))] (q 10)
noncomputable def C4t (q:Nat→Pos):Stmt:= .Assign [(.Name "size" (q 11))] (.IfExp (.Compare (.Subscript (.Name "code" (q 12)) (.Name "at" (q 13)) (q 14)) [.Lt] [(.Constant (.int 76) 0 (q 15))] (q 16)) (.Subscript (.Name "code" (q 17)) (.Name "at" (q 18)) (q 19)) (.Constant (.int 0) 0 (q 20)) (q 21)) (q 22)
noncomputable def B4f (q:Nat→Pos):Expr:= .Subscript (.Name "code" (q 25)) (.Slice (some (.Name "at" (q 26))) (some (.BinOp (.BinOp (.Name "at" (q 27)) .Add (.Constant (.int 1) 0 (q 28)) (q 29)) .Add (.Name "size" (q 30)) (q 31))) none (q 32)) (q 33)
noncomputable def C4s (q:Nat→Pos):Stmt:= .Expr (.Call (.Attribute (.Name "items" (q 23)) "append" (q 24)) [B4f q] [] (q 34)) (q 35)
noncomputable def C3z (q:Nat→Pos):Stmt:= .Assign [(.Name "at" (q 36))] (.BinOp (.BinOp (.Name "at" (q 37)) .Add (.Constant (.int 1) 0 (q 38)) (q 39)) .Add (.Name "size" (q 40)) (q 41)) (q 42)
noncomputable def C2s (q:Nat→Pos):List Stmt:= [.Assign [(.Name "items" (q 0))] (.List [] (q 1)) (q 2),.Assign [(.Name "at" (q 3))] (.Constant (.int 0) 0 (q 4)) (q 5),.While (A6e q) [C4t q,C4s q,C3z q] [] (q 43),.Return (some (.Name "items" (q 44))) (q 45)]
theorem B6O (P:Params):A2V (KF P) 2432=some (A0c P 2432)∧A0H (KF P) 2432 (A0c P 2432)=true∧A0r (A0c P 2432).params=some [("code" :Str)]∧A1s (KF P) (A0c P 2432).dV=true∧(A0c P 2432).body=C2s (A0h B6P)∧
  (["code","items","at","size"]:List Str).all (fun x=>(A0c P 2432).scope.names.lookup x==some .local)=true∧(A0c P 2432).scope.names.lookup ("len" :Str)=some .globalImplicit∧nsIn (KF P) mainGlobals "len" =some none:=
 by and_intros<;>kernel_rfl
theorem C2q:((A0h B6P 24).endLine==(A0h B6P 34).line)=true:=by kernel_rfl
section
variable {Q:Flow→Shared→Prop}
structure ItFr (G:Gx)(c:Fc)(A:Around)(d:Fd)(f:Addr)(q:Nat→Pos):Prop where
 ok:c.Ok G A
 he:c.env=d.env f c.L
 lc:d.scope.names.lookup ("code" :Str)=some .local
 li:d.scope.names.lookup ("items" :Str)=some .local
 la:d.scope.names.lookup ("at" :Str)=some .local
 ls:d.scope.names.lookup ("size" :Str)=some .local
 ll:d.scope.names.lookup ("len" :Str)=some .globalImplicit
 ln:nsIn G.K mainGlobals "len" =some none
 pos:((q 24).endLine==(q 34).line)=true
theorem B7v {w:Value}{i lo hi:Int}(h:SRep w (.bint i lo hi)):SRep w (.int i):=by refine h.bintE fun Ω Ω Ω=> ?_;exact .int
theorem B9E {l:List UInt8}{i:Nat}{b:UInt8}{r:List UInt8}(h:l.drop i=b::r):l[i]?=some b∧(l.drop i).take (1+A2Y b)=b::r.take (A2Y b)∧l.drop (i+1+A2Y b)=r.drop (A2Y b)∧i<l.length:=by
 refine⟨?_,?_,?_,?_⟩
 ·have:=congrArg (fun z=>z[0]?) h
  simpa [List.getElem?_drop] using this
 ·rw [h,Nat.add_comm,List.take_succ_cons]
 ·have:l.drop (i+1)=r:=by
   have:=congrArg (List.drop 1) h
   simpa [List.drop_drop,Nat.add_comm] using this
  rw [←this,List.drop_drop]
 ·rcases Nat.lt_or_ge i l.length with h'| h'
  ·exact h'
  ·rw [List.drop_of_length_le h'] at h;cases h
structure ItI (G:Gx)(c:Fc)(own:List (Addr×Obj))(a:Addr)(x:List UInt8)(n fuel:Nat)(rest:List UInt8)(i:Nat)(m:Str→Option Value)(vs:List Value)(k:Nat)(s:Shared)(done:List (List UInt8)):Prop where
 len:rest.length≤fuel
 drop:x.reverse.drop i=rest
 vsl:vs.length≤i
 lo:i≤1000000
 dn:done++A2w fuel rest=A0C x.reverse
 S:St c m ((a,listOf vs.toArray k)::own) s
 hm:m "items" =some (.ref a)
 R:Reps G 818 (vis c own) vs (itV done)
 hl:Locs G 818 (vis c own) m [("at",.s (.int i)),("code",.s (.bytes x n))]
theorem Locs.oth (h:Locs G 818 Z m ρ)(hx:ρ.lookup x=none):Locs G 818 Z (fun y=>if y=x then some v else m y) ρ:=fun y r e=>
 let ⟨w,a,b⟩:=h y r e; ⟨w,(if_neg fun q:y=x=>x0 (hx.symm.trans (q▸e))).trans a,b⟩
theorem C5A {q:Nat→Pos}(X:ItFr G c A d f q){x:List UInt8}{i:Nat}(hn:n<1000000)(hl:Locs G 818 (vis c own) m [("at",.s (.int i)),("code",.s (.bytes x n))]):EvT G c A m own (isTrue (A6e q) c.env (eval (A6e q) c.env)) (decide ((i:Int)<x.length)):=by
 refine A3f (C₀:=818) (op:= .Lt) (l:= .Name "at" (q 6)) (e:= .Call (.Name "len" (q 7)) [(.Name "code" (q 8))] [] (q 9)) (pos:=q 10) (a:= .int i) (b:= .int x.length) (whole:=eval (A6e q) c.env) rfl (A0R X.ok X.he hl rfl X.la (by decide)) (fun own'=> ?_) rfl
 exact EvR.ev (A0z (raises:=False) (P:=fun Z w=>SRep w (.int x.length)) X.ok rfl (f:= .builtin "len") rfl (A1x X.ok X.he X.ln (by decide+kernel) (by decide+kernel) X.ll (by decide)) (fun o=>A0s (rs:= []) rfl (A0R X.ok X.he ((hl.mono A0a).mono A0a) rfl X.lc (by decide)) fun Ω=>A0N)
  fun o vs R=>R.consE fun Ω Ω R1 R=>R.nilE ((A2t hn R1.sI).mono (fun Ω Ω h=>B7v h) id)) fun Ω Ω h=> .s h
theorem B9D {q:Nat→Pos}(X:ItFr G c A d f q){x:List UInt8}{i:Nat}{b:UInt8}(hn:n≤100000)(hb:x.reverse[i]?=some b)(hl:Locs G 818 (vis c own) m [("at",.s (.int i)),("code",.s (.bytes x n))]):
  Ev G 818 c A m own (eval (.IfExp (.Compare (.Subscript (.Name "code" (q 12)) (.Name "at" (q 13)) (q 14)) [.Lt] [(.Constant (.int 76) 0 (q 15))] (q 16)) (.Subscript (.Name "code" (q 17)) (.Name "at" (q 18)) (q 19)) (.Constant (.int 0) 0 (q 20)) (q 21)) c.env) (.s (.int (A2Y b:Nat))):=by
 have itE: ∀ (o:List (Addr×Obj)) (p1 p2 p3:Pos),Ev G 818 c A m (o++own) (eval (.Subscript (.Name "code" p1) (.Name "at" p2) p3) c.env) (.s (.int b.toNat)):=fun o p1 p2 p3=>
  A4f (A0R X.ok X.he (hl.mono A0a) rfl X.lc (by decide)) (fun o₂=>A0R X.ok X.he ((hl.mono A0a).mono A0a) rfl X.la (by decide)) rfl (a1W i) hn hb
 refine A7g (b:=decide ((b.toNat:Int)<76)) (A3f (a:= .int b.toNat) (b:= .int 76) rfl (itE [] _ _ _) (fun o=>A5h) rfl) fun o=> ?_
 unfold A2Y
 by_cases hb:b.toNat<76
 ·rw [show decide ((b.toNat:Int)<76)=true from a0Q (Int.ofNat_lt.mpr hb),if_pos rfl,if_pos hb]
  exact itE o _ _ _
 ·rw [show decide ((b.toNat:Int)<76)=false from a1F fun h=>hb (Int.ofNat_lt.mp h),if_neg (by decide),if_neg hb]
  exact A5h
theorem B8d {q:Nat→Pos}(X:ItFr G c A d f q){x:List UInt8}{i z:Nat}(hl:Locs G 818 (vis c own) m [("size",.s (.int (z:Nat))),("at",.s (.int i)),("code",.s (.bytes x n))])(p1 p2 p3 p4 p5:Pos):
  Ev G 818 c A m own (eval (.BinOp (.BinOp (.Name "at" p1) .Add (.Constant (.int 1) 0 p2) p3) .Add (.Name "size" p4) p5) c.env) (.s (.int ((i+1+z:Nat)))):=
 A7h (a:= .int ((i:Int)+1)) (b:= .int (z:Nat)) (A7h (a:= .int i) (b:= .int 1) (A0R X.ok X.he hl rfl X.la (by decide)) (fun o=>A5h) rfl) (fun o=>A0R X.ok X.he (hl.mono A0a) rfl X.ls (by decide)) rfl
theorem B4e {q:Nat→Pos}(X:ItFr G c A d f q)(S:St c m own s){a:Addr}{p:Pos}(hm:m "items" =some (.ref a)):wpAny G.M A (eval (.Name "items" p) c.env) (fun v s'=>v= .ref a∧s'=s) E s:=by
 have kind:=X.ok.kind
 have he:=X.he
 rw [he] at kind ⊢
 exact nameX_L S.F hm ⟨rfl,rfl⟩ kind X.li (by decide)
theorem C2r (i z:Nat):i+1+z - i=1+z:=by rw [Nat.add_assoc];exact Nat.add_sub_cancel_left ..
theorem B2U (b:UInt8):A2Y b≤75:=by
 unfold A2Y
 by_cases h:b.toNat<76
 ·rw [if_pos h];exact Nat.le_of_lt_succ h
 ·rw [if_neg h];exact a2K _
theorem B8e {q:Nat→Pos}(X:ItFr G c A d f q)(hE:PassesOwn G.M A c.env E){x:List UInt8}(hn:n<1000000){a:Addr}
  (hQ: ∀ (m':Str→Option Value) (vs:List Value) (k:Nat) (s':Shared) (done:List (List UInt8)),St c m' ((a,listOf vs.toArray k)::own) s'→m' "items" =some (.ref a)→Reps G 818 (vis c own) vs (itV done)→done=A0C x.reverse→Q .next s')
  {fuel i k:Nat} {done:List (List UInt8)} (I:ItI G c own a x n fuel [] i m vs k s done):WhlRest G.prog G.w A E c.env (A6e q) [C4t q,C4s q,C3z q] [] Q 1 s:=by
 have T:=C5A X hn (I.hl.mono (A1M (x:=(a,listOf vs.toArray k))))
 rw [a1F (fun h:(i:Int)<x.length=>Nat.not_lt.mpr (a0O▸List.drop_eq_nil_iff.mp I.drop) (Int.ofNat_lt.mp h))] at T
 have e:A2w fuel []= []:=by cases fuel<;>rfl
 have dn:=I.dn
 rw [e,a1H] at dn
 exact whl_turn (k:=0) hE (T s _ E I.S fun own' s' S'=>WhlIf.no rfl (a2O (hQ m vs k s' done S'.drop I.hm I.R dn)))
theorem B9F {q:Nat→Pos}(X:ItFr G c A d f q)(hE:PassesOwn G.M A c.env E){x:List UInt8}(hn:n≤1000)(hx:x.length≤1000){a:Addr}(hown: ∀ p∈own++c.news,p.1≠a)
  (hQ: ∀ (m':Str→Option Value) (vs:List Value) (k:Nat) (s':Shared) (done:List (List UInt8)),St c m' ((a,listOf vs.toArray k)::own) s'→m' "items" =some (.ref a)→Reps G 818 (vis c own) vs (itV done)→done=A0C x.reverse→Q .next s') (fuel:Nat):
  ∀ (rest:List UInt8) (i:Nat) (m:Str→Option Value) (vs:List Value) (k:Nat) (s:Shared) (done:List (List UInt8)),ItI G c own a x n fuel rest i m vs k s done→WhlRest G.prog G.w A E c.env (A6e q) [C4t q,C4s q,C3z q] [] Q 1 s:=by
 have hn6:n<1000000:=Nat.lt_of_le_of_lt hn (by decide)
 induction fuel with
 | zero=>
  intro rest i m vs k s done I
  obtain rfl:=List.length_eq_zero_iff.mp (Nat.le_zero.mp I.len)
  exact B8e X hE hn6 hQ I
 | succ fuel ih=>
  intro rest i m vs k s done I
  cases rest with
  | nil=>exact B8e X hE hn6 hQ I
  | cons b r=>
   obtain⟨n1,n2,n3,n4⟩:=B9E I.drop
   rw [a0O] at n4
   have hl:=I.hl.mono (A1M (x:=(a,listOf vs.toArray k)))
   have T:=C5A X hn6 hl
   rw [a0Q (Int.ofNat_lt.mpr n4)] at T
   refine whl_turn (k:=0) hE (T s _ E I.S fun own1 s1 S1=>WhlIf.yes rfl ?_)
   refine a0N (wpAny_Assign_Name (B9D X (a0F hn (by decide)) n1 hl s1 _ E S1.drop fun own2 w2 s2 S2 R2=> ?_) (A0l rfl))
   refine A0o X.ok X.he X.ls S2.drop fun s3 S3=> ?_
   have hl3:=I.hl.set (x:= "size") (Rep.s (Z:=vis c own) R2.sI)
   have hm3:(fun y:Str=>if y=("size" :Str) then some w2 else m y) ("items" :Str)=some (.ref a):=(if_neg (by decide+kernel)).trans I.hm
   generalize (fun y:Str=>if y=("size" :Str) then some w2 else m y)=m3 at S3 hl3 hm3
   have hl4:=hl3.mono (A1M (x:=(a,listOf vs.toArray k)))
   have cutE:Ev G 818 c A m3 ((a,listOf vs.toArray k)::own) (eval (B4f q) c.env) (.s (.bytes (((x.reverse.drop i).take (i+1+A2Y b - i))).reverse n)):=
    B4F (A0R X.ok X.he hl4 rfl X.lc (by decide)) (fun o=>A0R X.ok X.he (hl4.mono A0a) rfl X.la (by decide)) (fun o=>B8d X (hl4.mono A0a) _ _ _ _ _) (a0F (a2H i 1) (a2H ..)) (a0F hn (by decide))
   refine a0N (wpAny_Expr ?_ (A6X X.ok) (A0l rfl))
   rw [arm_eval_Call,A0e rfl]
   refine a0A (a2F (B4e X S3 hm3) (fun v s' hv=> ?_) fun Ω Ω z=>z)
   obtain⟨rfl,rfl⟩:=hv
   refine a0A (a1R ?_)
   rw [show (([B4f q]:List Expr).length+ ([]:List Keyword).length)=([B4f q]:List Expr).length+0 from rfl,A0j X.pos rfl (by show 1<30;decide)]
   refine a0A (a0R (getMethod_append_N S3.N (.head _) ?_))
   refine callWith_of (P:=fun Ω=>True) (by rw [A1D rfl];rfl) (fun h Ω=>⟨.machine,.inr (.inl rfl),Looks.of_pure rfl⟩) (A0k (es:= [B4f q]) rfl (A0s (rs:= []) rfl cutE (fun Ω=>A0N) _ _ E S3 fun own4 vs4 s4 S4 R4=>⟨trivial,R4.consE fun w4 vs5 R4 R5=>R5.nilE ?_⟩))
   have R4:=R4.sI
   have hmem:=S4.N (a,listOf vs.toArray k) (a0H _ (a0G _ (.head _)))
   have i2:i+1+A2Y b≤1000000:=a0F (Nat.add_le_add (a0F n4 hx) (B2U b)) (by decide)
   refine append_at hmem.1 (fun h' hs ho'=> ?_) (by rw [a1I,a1N];exact a0F I.vsl (a0F I.lo (by decide)))
   have S5:St c m3 ((a,listOf (vs++ [w4]).toArray (k+1))::own) {s4 with heap:=h'}:=
    S4.chg (X:=a) (tk:=s4.toks) (A2m hs) hmem.2.1 hmem.2.2 (fm (.inl ⟨rfl,by rw [ho'];simp only [W.listOf,List.push_toArray]⟩) fun p hp=> .inr ⟨a0G _ (.tail _ hp),hown p (a0H _ hp)⟩) fun p hp=>hown p (a0G _ hp)
   show wpAny _ A (execs [C3z q] c.env) _ E _
   refine a0N (wpAny_Assign_Name (B8d X (hl3.mono (A1M (x:=(a,listOf (vs++ [w4]).toArray (k+1))))) _ _ _ _ _ _ _ E S5 fun own6 w6 s6 S6 R6=> ?_) (A0l rfl))
   refine A0o X.ok X.he X.la S6.drop fun s7 S7=>a2O ?_
   have h2:SRep w4 (.bytes (b::r.take (A2Y b)).reverse 77):=by
    rw [C2r,n2] at R4
    exact R4.bytesE fun Ω Ω hb hl=> .bytes hb (by
     rw [a0O]
     exact a0F (a1Y (a0F (List.length_take_le ..) (B2U b))) (by decide))
   refine ih (r.drop (A2Y b)) (i+1+A2Y b) _ (vs++ [w4]) (k+1) s7 (done++ [b::r.take (A2Y b)]) ⟨?_,n3,?_,i2,?_,S7,(if_neg (by decide+kernel)).trans hm3,?_,(hl3.set (x:= "at") (Rep.s (Z:=vis c own) R6.sI)).sub fun y r e=>lk1 e rfl fun e=>lk1 e rfl fun e=>x0 e⟩
   ·rw [List.length_drop];exact a0F (Nat.sub_le ..) (Nat.le_of_succ_le_succ I.len)
   ·rw [a1K];exact a0F (a1Y I.vsl) (a2H ..)
   ·rw [←I.dn,a0C];rfl
   ·unfold itV
    rw [a2P]
    exact I.R.app (.cons (.s h2) .nil)
theorem A9u (g:GOk G){x:List UInt8}(hx:x.length≤1000)(R:Reps G 818 Z vs [.s (.bytes x n)]):
  Calls G 818 1 Z 2432 ⟨vs,[]⟩ (fun H w=>Rep G 818 H w (.list (itV (A0C x.reverse)))) False:=by
 obtain⟨s1,s2,s3,s4,s5,s6,s7,s8⟩:=B6O G.w.params
 have hpos:=C2q
 rw [←g.K] at s1 s2 s4 s8
 generalize A0h B6P=q at s5 hpos
 generalize A0c G.w.params 2432=d at*
 have lo: ∀ y∈ (["code","items","at","size"]:List Str),d.scope.names.lookup y=some .local:=fun y hy=>a0D (a0J.mp s6 y hy)
 have R':Reps G 818 Z vs [.s (.bytes x x.length)]:=by
  refine R.consE fun _ _ R1 R=> ?_
  refine R.nilE ?_
  have R1:=R1.sI
  refine R1.bytesE fun _ _ _ _=> ?_;rename_i hb hl;exact .cons (.s (.bytes hb (a0K _))) .nil
 refine(A1I (n:=0) (d:=d) (res:= .ret (.list (itV (A0C x.reverse)))) s1 s2 s3 (by rw [List.all_cons,lo "code" (.head _)];rfl) s4 rfl R' fun {c A m} ok he room hlo=> ?_).mono (a0K _) Held.le.rfl (fun _ _ h=>h) fun h=>nomatch h
 rw [s5]
 have X:ItFr G c A d 2432 q:=⟨ok,he,lo _ (.head _),lo _ (.tail _ (.head _)),lo _ (.tail _ (.tail _ (.head _))),lo _ (.tail _ (.tail _ (.tail _ (.head _)))),s7,s8,hpos⟩
 have hL:c.env.locals=c.L:=by rw [he];rfl
 intro s Q E S en qq
 refine a0N (wpAny_Assign_Name (List_ (A0N (G:=G) (C₀:=818) (c:=c) (A:=A) (m:=m) (own:= []) s _ E S fun own' vs' s' S' R'=> ?_)) (A0l rfl))
 refine R'.nilE ?_
 have S0:St c m [] s':=S'.drop
 refine newList_K S0.F S0.N (fun a h' F' N' hlt=> ?_) (by rw [a1I];decide)
 have S1:St c m [(a,W.listOf ([]:List Value).toArray 0)] {s' with heap:=h'}:=⟨F',N',S0.gens,S0.os,S0.dr⟩
 refine A0o ok he X.li S1 fun s2 S2=> ?_
 have hm2:(fun y:Str=>if y=("items" :Str) then some (Value.ref a) else m y) ("items" :Str)=some (.ref a):=if_pos rfl
 have hl2:=hlo.oth (x:= "items") (v:= .ref a) rfl
 generalize (fun y:Str=>if y=("items" :Str) then some (Value.ref a) else m y)=m2 at S2 hm2 hl2
 refine a0N (wpAny_Assign_Name (a1J ?_) (A0l rfl))
 refine A0o ok he X.la (S2.tok _) fun s3 S3=> ?_
 have hm3:(fun y:Str=>if y=("at" :Str) then some (Value.int 0 s2.toks) else m2 y) ("items" :Str)=some (.ref a):=(if_neg (by decide+kernel)).trans hm2
 have hl3:=hl2.set (x:= "at") (v:= .int 0 s2.toks) (r:= .s (.int ((0:Nat):Int))) (.s .int)
 generalize (fun y:Str=>if y=("at" :Str) then some (Value.int 0 s2.toks) else m2 y)=m3 at S3 hm3 hl3
 refine a0N (whl_start 1 ?_)
 refine B9F X en.own (x:=x) (n:=x.length) hx hx (a:=a) (own:= []) (fun p hp=>a0S (hlt p hp)) (fun m' vs k s' done S' hm R hd=> ?_) x.reverse.length x.reverse 0 m3 [] 0 s3 [] ⟨a0K _,rfl,a0K _,by decide,rfl,S3,hm3,.nil,hl3⟩
 subst hd
 refine a0N (wpAny_Return_some (a2F (B4e X S' hm) (fun v s'' hv=> ?_) fun _ _ z=>z))
 obtain⟨rfl,rfl⟩:=hv
 refine qq [(a,W.listOf vs.toArray k)] m' _ s'' S' ⟨_,rfl,?_⟩
 exact .list (n:=k) (.inr (.head _)) (R.mono A1M)
end
section
variable {w:World}{A₀:Around}{base h₀:Heap}{L:Addr}{news:List (Addr×Obj)}
 {R:Result→Shared→Prop} {name qual:Str} {params:Arguments} {body:List Stmt} {dV kV doc pm cdv ct:Value} {an:Option Addr} {fo:Obj} {args:Args} {binds:List (Str×Value)}
theorem B5e (B:Below A₀ base [] h₀)(F:Fr h₀ L s.heap m)(N:News h₀ L s.heap news)(hlim:h₀.NoLimit)(hA:A.frames=some [env])(hf:env.frame=some L)(hke:env.scope.kind= .function)
  (ho:s.heap.get? f=some fo) (hd:fo.data= .func (fnX name qual params body scope cl dV kV doc pm an cdv ct)) (hcd:s.heap.CodeRec cdv qual) (hroom:A.depth<recursionLimit)
  (hbind:BindsTo s (fnX name qual params body scope cl dV kV doc pm an cdv ct) args binds) (hloc: ∀ y∈binds,scope.names.lookup y.1=some .local)
  (h: ∀ g L' h₁,Fr h₀ L g m→Fr g L' h₁ (fun y=>binds.reverse.lookup y)→News g L' h₁ news→Below A base [env] g→h₀.StaysIn g→KtsDicts ([env].filterMap (·.frame)) g→
   wpAny (model prog w) (A.deeper (envX qual scope L' f cdv cl)) (execs body (envX qual scope L' f cdv cl))
    (fun fl s'=>LeaveS0 ([env].filterMap (·.frame)) h₀ L m g R (match fl with| .ret v=>v| _=> .none) s')
    (fun e s'=>wpAny (model prog w) (A.deeper (envX qual scope L' f cdv cl)) (leaving (envX qual scope L' f cdv cl) e) (fun Ω s''=>R (.error e) s'') (fun e' s''=>R (.error e') s'') s')
    {s with heap:=h₁,toks:=s.toks+binds.length})
  (hcell: ∀ x∈scope.names,x.2≠ .cell) (hco:scope.isCoroutine=false) (hgen:scope.isGenerator=false) (hk:scope.kind= .function):codeAny (model prog w) A (.call (.ref f) args) R s:=by
 obtain⟨FG,BG,st,lv⟩:=groundX (R:=R) B F N hA hf hke
 have hfs: [env].filterMap (·.frame)= [L]:=by simp [hf]
 obtain⟨oL,es,ep,hLg,hLd,hLk,hLf⟩:=FG.ns
 refine codeAny_call_def (fd:=fnX name qual params body scope cl dV kV doc pm an cdv ct) (body:=body) (binds:=binds) hroom ho hd (hlim.keeps F.keep) hcd rfl hbind hcell hloc (fun h₁ hns hk₁=> ?_) hco hgen hk
 refine a2F (h _ s.heap.objs.size h₁ FG ⟨hns,fun b o e=>hk₁ b o (of_hideAll _ e),Nat.le_of_eq (hideAll_size _ _)⟩
  (fun p hp=>⟨hk₁ _ _ (N p hp).1,a0S (a0W (N p hp).1),hideAll_none _ (List.mem_map_of_mem hp)⟩) BG st (fun b hb=> ?_)) (fun fl s' hl=> ?_) fun Ω Ω y=>y
 ·rw [hfs,a0L] at hb
  rw [hb]
  exact⟨oL,es,ep,hLg,hLd⟩
 ·obtain⟨g',L',m',news',T',F',N',k⟩:=hl
  rw [hfs] at T'
  have nL₀:h₀.get? L=none:=kts_self F
  obtain⟨sl,hs⟩:=T'.up hLg
  refine k ⟨⟨_,es,ep,F'.keep _ _ hs,hLd,hLk,hLf⟩,fun b o e=>F'.keep b o (T'.other b o (st b o e) (fun q=> ?_)),F.above⟩ fun p hp=>⟨(N' p hp).1,fun q=> ?_,?_⟩
  ·rw [a0L.mp q,nL₀] at e
   exact x0 e
  ·have:=(N' p hp).2.2;rw [q,hs] at this;exact x0' this
  ·cases q:h₀.get? p.1 with
   | none=>rfl
   | some o=>
    obtain⟨sl',hs'⟩:=T'.up (st _ _ q)
    have:=(N' p hp).2.2
    rw [hs'] at this
    exact x0' this
end
def B1j (G:Gx)(n:Nat)(Z:Held)(f:Addr)(args:Args)(post:Held→Value→Prop):Prop:=
 ∀ (c:Fc) (A:Around) (m:Str→Option Value) (own:List (Addr×Obj)) (s:Shared) (R:Result→Shared→Prop),c.Ok G A→c.outer= []→Room A n→St c m own s→Z.le (vis c own)→
  (∀ own' v s',St c m (own'++own) s'→post (vis c (own'++own)) v→R (.ok (.ret v)) s')→codeAny G.M A (.call (.ref f) args) R s
noncomputable def B0B (q:Nat→Pos):List Stmt:= [.Try [.Expr (.Call (.Attribute (.Name "made" (q 0)) "verify" (q 1)) [] [] (q 2)) (q 3)] [.ExceptHandler (some (.Name "MiniscriptError" (q 4))) none [.Return (some (.Constant (.bool false) 0 (q 5))) (q 6)] (q 7)] [] [] (q 8),.Return (some (.Constant (.bool true) 0 (q 9))) (q 10)]
noncomputable def B6u:List (Nat×Nat×Nat×Nat):=onL 1409 [8,12,8,19,8,21,8,21]++onL 1410 [11,26]++onL 1411 [15,20,8,20]++ [(1410,4,1411,20)]++ [(1408,4,1411,20)]++onL 1412 [11,15,4,15]
theorem B6t (P:Params):A2V (KF P) 2439=some (A0c P 2439)∧A0H (KF P) 2439 (A0c P 2439)=true∧A0r (A0c P 2439).params=some [("made" :Str)]∧A1s (KF P) (A0c P 2439).dV=true∧(A0c P 2439).body=B0B (A0h B6u)∧
  (A0c P 2439).scope.names.lookup ("made" :Str)=some .local∧(A0c P 2439).scope.names.lookup ("MiniscriptError" :Str)=some .globalImplicit∧nsIn (KF P) mainGlobals "MiniscriptError" =some (some (.ref 818))∧ktsIn (KF P) 818 "BaseException" =true∧(A0c P 2439).cl= []:=
 by and_intros<;>kernel_rfl
theorem C2i:((A0h B6u 1).endLine==(A0h B6u 2).line)=true:=by kernel_rfl
theorem B3Q (g:GOk G){d₀:D}{b:Bool}(hb:d₀.ver=some b)(R₀:Rep G 818 Z v (.abs d₀)):B1j G (d₀.n+1) Z 2439 ⟨[v],[]⟩ (fun H w=>SRep w (.bool b)):=by
 obtain⟨s1,s2,s3,s4,s5,s6,s7,s8,s9,s10⟩:=B6t G.w.params
 have hpos:=C2i
 rw [←g.K] at s1 s2 s4 s8 s9
 generalize A0h B6u=q at s5 hpos
 generalize A0c G.w.params 2439=d at*
 intro c A m own s R ok hout room S le k
 obtain⟨o,ho,hd,hc,h1,h2,h3,h4⟩:=B9W (S.X ok) s1 s2
 obtain⟨A₀,B⟩:=ok.below
 rw [hout] at B
 have hA:A.frames=some [c.env]:=by rw [ok.frames,hout]
 have hbind:=fun s X=>A0Z (K:=G.K) (s:=s) (d:=d) (ns:= ["made"]) (vs:= [v]) X s3 rfl s4
 have hd2:o.data= .func (fnX d.name d.qual d.params (B0B q) d.scope [] d.dV d.kV d.doc d.pm d.an d.cdv d.ct):=by rw [←s5,←s10];exact hd
 have hb2:BindsTo s (fnX d.name d.qual d.params (B0B q) d.scope [] d.dV d.kV d.doc d.pm d.an d.cdv d.ct) ⟨[v],[]⟩ [("made",v)]:=by rw [←s5,←s10];exact hbind s (S.X ok)
 refine B5e (prog:=G.prog) (w:=G.w) B S.F S.N ok.T₀.nolimit hA ok.frame ok.kind ho hd2 hc room.depth hb2 (fm s6 fn) (fun gg L' h₁ FG F' N' B' st D'=> ?_) h1 h2 h3 h4
 let env':Env:=envX d.qual d.scope L' 2439 d.cdv []
 let c':Fc:=⟨c.base,c.env::c.outer,gg,L',env',own++c.news,vis c own,c.os,c.dr⟩
 have S':St c' (fun y=>([(("made" :Str),v)]).reverse.lookup y) [] {s with heap:=h₁,toks:=s.toks+1}:=⟨F',N',S.gens,S.os,S.dr⟩
 have B'':Below A c.base (c.env::c.outer) gg:=by rw [hout];exact B'
 have ok':c'.Ok G (A.deeper env'):=⟨⟨_,B''⟩,a2M B''.stack,rfl,h4,ok.free,ok.XB,ok.TB,ok.vis_held.trans (A1f st)⟩
 have room':Room (A.deeper env') d₀.n:=room.deeper (a1A _)
 have R':Rep G 818 (vis c' []) v (.abs d₀):=R₀.mono (le.trans fun Ω Ω=> .inl)
 have evMade:Ev G 818 c' (A.deeper env') (fun y=>([(("made" :Str),v)]).reverse.lookup y) [] (eval (.Name "made" (q 0)) env') (.abs d₀):=by
  intro s₁ Q E S₁ qq
  exact nameX_L (v:=v) S₁.F rfl (qq [] v s₁ S₁ R') h4 s6 (by decide)
 have hcall:EvR G 818 c' (A.deeper env') (fun y=>([(("made" :Str),v)]).reverse.lookup y) [] (b=false) (eval (.Call (.Attribute (.Name "made" (q 0)) "verify" (q 1)) [] [] (q 2)) env') (fun Ω w=>b=true∧w= .none):=
  A2s (n:=d₀.n) ok' room' rfl hpos evMade fun own' w R=>by
   obtain⟨x,C,dx,es,kk,rfl,z1,z2,KK⟩:=R.inst_inv
   obtain⟨f',e1,e2,e3,e4,e5⟩:=KK.ver b hb
   exact⟨x,C,dx,es,kk,f',_,rfl,z1,z2,KK.plain,e1,e2,e3,e4,e5,Held.le.rfl⟩
 have fin: ∀ (t:Bool) (own':List (Addr×Obj)) (s₂:Shared),b=t→St c' (fun y=>([(("made" :Str),v)]).reverse.lookup y) own' s₂→LeaveS0 ([c.env].filterMap (·.frame)) c.h₀ c.L m gg R (.bool t) s₂:=fun t own' s₂ ht S₂=>
  leaveS0_ S₂.F S₂.N KtsTurn.refl fun F₃ N₃=>k own' _ s₂ ⟨F₃,by rw [a0C];exact N₃,S₂.gens,S₂.os,S₂.dr⟩ (by rw [ht];exact .bool)
 show wpAny G.M (A.deeper env') (execs (B0B q) env') _ _ _
 refine a0N (wpAny_Try_except (a0N (wpAny_Expr (hcall _ _ _ S' (fun own' w s₂ S₂ p=> ?_) fun hr own' e s₂ Rz=> ?_) (by unfold interactive;rw [show env'.scope.kind= .function from h4];rfl) (A0l rfl))))
 ·obtain⟨ht,rfl⟩:=p
  refine a2O (a2O (a0N (wpAny_Return_some (Constant_bool ?_))))
  exact fin true _ s₂ ht S₂
 ·obtain⟨a,t,vs,Gh,own'',rfl,FGh,U,RS,e1,e2,e3⟩:=Rz
  refine caught_SO0 (KF:=G.K) (g₀:=gg) (name:=d.qual) (scope:=d.scope) (L:=L') (a:=2439) (cd:=d.cdv) (A₀:=A) RS FGh B'' U ok.XB ok.TB (show KtsDicts ((c.env::c.outer).filterMap (·.frame)) gg from by rw [hout];exact D') KtsTurn.refl s8 s9 (fun h' g' news₂ T₁ F₁ N₁ Ω N₂ B₁ X₁ P₁ D₁=> ?_) h4 s7 (by decide) ?_
  ·refine a0N (wpAny_Return_some (Constant_bool ?_))
   replace T₁:KtsTurn ((c.env::c.outer).filterMap (·.frame)) gg g':=T₁
   rw [hout] at T₁
   refine leaveS0_ F₁ N₂ T₁ fun F₃ N₃=>k (own''++ (own'++ [])) _ _ ⟨F₃,by(simp only [a0C] at N₃ ⊢;exact N₃),e1,e2,e3⟩ (by rw [hr];exact .bool)
  ·passes_own
section
variable {Q:Flow→Shared→Prop}
theorem B1F (ok:c.Ok G A)(he:c.env=d.env f c.L){body:List Stmt}{a:Int}{I:Addr}(Inv:Nat→(Str→Option Value)→List (Addr×Obj)→Prop)(hs:s.gens= #[]∧s.os=c.os∧s.drawn=c.dr)(hI: ∀ p∈c.news,p.1≠I)
  (step: ∀ (it:Obj) (i:Nat) (m₁:Str→Option Value) (own₁:List (Addr×Obj)) (t:Tok) (s₁:Shared) (Q':Flow→Shared→Prop),i<n→Inv i m₁ own₁→(∀ p∈own₁++c.news,p.1≠I)→St c (fun y=>if y=x then some (.int (a+ (i:Int)) t) else m₁ y) ((I,it)::own₁) s₁→
   (∀ m' own' s',Inv (i+1) m' own'→(∀ p∈own',p.1≠I)→St c m' ((I,it)::own') s'→Q' .next s')→wpAny G.M A (execs body c.env) Q' E s₁)
  (done: ∀ m' own' s',Inv n m' own'→St c m' own' s'→Q .next s'):
  ∀ (k i:Nat) (m₁:Str→Option Value) (own₁:List (Addr×Obj)),i+k=n→Inv i m₁ own₁→(∀ p∈own₁,p.1≠I)→RangeRest G.prog G.w A E c.h₀ c.env x body Q s I a n k i m₁ (own₁++c.news):=by
 intro k
 induction k with
 | zero=>
  intro i m₁ own₁ hi hv ho
  have:i=n:=by lia
  subst this
  have hL:c.env.locals=c.L:=by rw [he];rfl
  refine RangeRest.zero fun h tk F N=> ?_
  rw [hL] at F N
  exact done m₁ own₁ _ hv ⟨F,N,hs.1,hs.2.1,hs.2.2⟩
 | succ k ih=>
  intro i m₁ own₁ hi hv ho
  have hL:c.env.locals=c.L:=by rw [he];rfl
  refine RangeRest.succ fun t h tk F N=> ?_
  rw [hL] at F N ⊢
  refine step _ i m₁ own₁ t _ _ (by lia) hv (fun p hp=>(a1O.mp hp).elim (ho p) (hI p)) ⟨F,N,hs.1,hs.2.1,hs.2.2⟩ fun m' own' s' hv' ho' S'=> ?_
  ·have es:=A4J (s:=s) (s':=s') (S'.gens.trans hs.1.symm) (S'.os.trans hs.2.1.symm) (S'.dr.trans hs.2.2.symm)
   refine⟨s'.heap,s'.toks,m',own'++c.news,es,S'.F,S'.N,fun p hp=>(a1O.mp hp).elim (ho' p) (hI p),ih (i+1) m' own' (by lia) hv' ho'⟩
theorem B7b (ok:c.Ok G A)(he:c.env=d.env f c.L){r:Str}{px np cpos:Pos}{body:List Stmt}{a b:Int}(Inv:Nat→(Str→Option Value)→List (Addr×Obj)→Prop)(hx:d.scope.names.lookup x=some .local)(hst:es.all A0g=true)
  (hk:A0L G.K (.type "range")=true) (hf:Ev G C₀ c A m own (eval (.Name r np) c.env) (.k (.type "range"))) (ha: ∀ own',∃ rs,(rs= [.s (.int b)]∧a=0∨rs= [.s (.int a),.s (.int b)])∧EvL G C₀ c A m (own'++own) (spliced (backTo cpos (starEach es c.env))) rs)
  (hn:b - a=n) (hab:0≤a∧b<1000) (hpo:PassesOwn G.M A c.env E) (S:St c m own s) (h0:Inv 0 m own)
  (step: ∀ (I:Addr) (it:Obj) (i:Nat) (m₁:Str→Option Value) (own₁:List (Addr×Obj)) (t:Tok) (s₁:Shared) (Q':Flow→Shared→Prop),i<n→Inv i m₁ own₁→(∀ p∈own₁++c.news,p.1≠I)→St c (fun y=>if y=x then some (.int (a+ (i:Int)) t) else m₁ y) ((I,it)::own₁) s₁→
   (∀ m' own' s',Inv (i+1) m' own'→(∀ p∈own',p.1≠I)→St c m' ((I,it)::own') s'→Q' .next s')→wpAny G.M A (execs body c.env) Q' E s₁)
  (done: ∀ m' own' s',Inv n m' own'→St c m' own' s'→Q .next s'):wpAny G.M A (exec (.For (.Name x px) (.Call (.Name r np) es [] cpos) body [] pos) c.env) Q E s:=by
 have hL:c.env.locals=c.L:=by rw [he];rfl
 have hkind:=ok.kind
 have hx':c.env.kindOf x=some .local:=by rw [he];exact hx
 refine For_invVF (h₀:=c.h₀) (m:=m) (by rw [hL];exact S.F) hx' (by rw [hkind];rfl) ?_ (A0y rfl) hpo
 show wpAny _ _ (do callWith cpos (←eval (.Name r np) c.env) [] (backTo cpos (starEach es c.env)) (backToKw cpos (keywordEach [] c.env))) _ E s
 refine a0A (hf s _ E S fun own' w s' S' R=> ?_)
 refine R.kE ?_
 obtain⟨rs,hrs,hev⟩:=ha own'
 refine callWith_of (P:=fun h=>G.K.In h) (by rw [A1D hst];rfl) (A3S hk) (A0k hst (hev s' _ E S' fun own'' vs s'' S'' R=>⟨S''.X ok,?_⟩))
 have S₃:St c m own s'':=S''.drop.drop
 have fin: ∀ (t u v:Tok) (tk:Nat),wpAny G.M A (pyIter (.ref s''.heap.objs.size)) (fun it s₂=>LoopAtV G.prog G.w A c.h₀ c.env x body Q E it s₂) E {s'' with heap:=s''.heap.push {cls:= .type "range",data:= .fields #[.int a t,.int b u,.int 1 v]},toks:=tk}:=by
  intro t u v tk
  have S₄:St c m own {s'' with heap:=s''.heap.push {cls:= .type "range",data:= .fields #[.int a t,.int b u,.int 1 v]},toks:=tk}:=S₃.grown fun Ω Ω e=>Heap.get?_push_of_some _ e
  refine iter_rangeUnr (n:=n) (s:= {s'' with heap:=s''.heap.push {cls:= .type "range",data:= .fields #[.int a t,.int b u,.int 1 v]},toks:=tk}) ok.free (IsRange.new _ a b 1 t u v) (small_one (by lia) (by lia) (by lia) (by lia)) (by rw [rangeSize_one];split<;>lia) (by rw [hL];exact S₄.F) (by rw [hL];exact S₄.N) fun I hI=> ?_
  exact B1F ok he Inv ⟨S₄.gens,S₄.os,S₄.dr⟩ (fun p hp=>a0S (hI p (a0G _ hp))) (step I) done n 0 m own (Nat.zero_add n) h0 fun p hp=>a0S (hI p (a0H _ hp))
 rcases hrs with ⟨rfl,rfl⟩| rfl
 ·refine R.consE fun Ω Ω R1 R=> ?_
  refine R.nilE ?_
  have R1:=R1.sI
  refine R1.intE fun Ω=> ?_
  exact call_range_1 (fin _ _ _ _)
 ·refine R.consE fun Ω Ω R1 R=> ?_
  refine R.consE fun Ω Ω R2 R=> ?_
  refine R.nilE ?_
  have R1:=R1.sI
  have R2:=R2.sI
  refine R1.intE fun Ω=> ?_
  refine R2.intE fun Ω=> ?_
  exact call_range_2 (fin _ _ _ _)
end
noncomputable def hCh (r:Evs)(b:Nat)(η:A0w):Expr→Option (Option Bool)
 | .Compare l ops es _=>(A7E ops).bind fun o=>(A7E es).bind fun e=>gd (!(lastMarks ops es)) (some ((ev2 r b η l e.1).bind fun p=>((r.E b η e.2).bind A0V).bind fun z=>(A5J o.1 p.1 p.2).bind fun s=>(A5J o.2 p.2 z).map fun t=>s&&t))
 | _=>none
noncomputable def hkCh:Hk:= {Hk.nil with T:=fun r b η=>hCh r b η}
section
theorem B4I {l e1 e2:Expr}{op1 op2:CmpOp}{x y z:SV}{s:Bool}{whole:Sem Value}(hm:(!(lastMarks [op1,op2] [e1,e2]))=true)(hx:Ev G C₀ c A m own (eval l env) (.s x))(hy: ∀ own',Ev G C₀ c A m (own'++own) (eval e1 env) (.s y))(hz: ∀ own',Ev G C₀ c A m (own'++own) (eval e2 env) (.s z))
  (hs:A5J op1 x y=some s) (ht:A5J op2 y z=some t):EvT G c A m own (isTrue (.Compare l [op1,op2] [e1,e2] pos) env whole) (s&&t):=by
 intro s₀ Q E S q
 refine isTrue_chain (hx s₀ _ E S fun own' va s' S' R=> ?_) (xn hm)
 refine test_link (hy own' s' _ E S' fun own'' vb s'' S'' R'=> ?_)
 refine A2L R.sI R'.sI hs (a2C ?_)
 have S3:St c m ((own''++own')++own) s'':=by rw [a0C];exact S''
 cases s with
 | false=>exact q (own''++own') _ S3
 | true=>
  rw [if_pos rfl]
  show wpAny G.M A (do
   let rv ←holding [vb] (eval e2 env)
   standAt pos
   let c ←operate [vb,rv] (compareOp op2 vb rv)
   holding [c] (truthy c)) _ _ _
  refine a0A (a0R (hz (own''++own') s'' _ E S3 fun own3 vc s3 S4 R3=>a0A (a1R (a0A (wpAny_operate' ?_)))))
  refine A2L R'.sI R3.sI ht (a0R (a2C ?_))
  exact q (own3++ (own''++own')) _ S4.asc
theorem hkCh_ok:HkOk G C₀ hkCh:= {HkOk.nil with
 T:=fun {r b η e t} X h {c A m own env} ok room hg hn=>by
  cases e with
  | Compare=>exact x3 h fun o ho h=>x3 h fun e he h=>x2 h fun hm h=>x3 (a0E h) fun p hp h=>x3 h fun z hz h=>x3 h fun s hs h=>x4 h fun t ht=>A6j hp fun hx hy=>(by
   revert hm
   exact A3Q ho (A3Q he fun hm=>B4I hm (X.E hx ok room hg hn) (fun own'=>X.E hy ok room hg (hn.more own')) (fun own'=>X.E (A0i hz) ok room hg (hn.more own')) hs ht))
  | _=>exact x0 h}
end
noncomputable abbrev hkR (P:Params):Hk:=hkCh.or (hk9 P)
noncomputable def ra (P:Params):Evs:=evs (KF P) fl 818 (spJ P) (hkR P) 60
noncomputable def ra' (P:Params):Evs:=evs (KF P) fl 818 (spJ P) (hkR P) 59
theorem GOk.hkR (h:GOk G):HkOk G 818 (hkR G.w.params):=hkCh_ok.or h.hk9
theorem GOk.ra (h:GOk G):Snd G 818 (ra G.w.params):=by
 have:=A0B (C₀:=818) h.gx (A5S h) h.hkR 60
 unfold Internal.ra
 rw [h.K] at this
 exact this
theorem GOk.ra' (h:GOk G):Snd G 818 (ra' G.w.params):=by
 have:=A0B (C₀:=818) h.gx (A5S h) h.hkR 59
 unfold Internal.ra'
 rw [h.K] at this
 exact this
noncomputable def sta (P:Params)(d:Fd)(ρ:Loc)(st:Stmt):Option SRes:=(A7z (KF P) (ra' P) (hkR P) 818 130 d ρ st).map SRes.win
section
variable {Q:Flow→Shared→Prop}
theorem exa (g:GOk G){st:Stmt}(h:sta G.w.params d ρ st=some res)(ok:c.Ok G A)(room:Room A 130)(he:c.env=d.env f c.L)(hl:Locs G 818 (vis c own) m ρ):Ex G 818 c A m own (exec st c.env) res:=by
 unfold sta at h
 refine Ex.winO h fun r hr=> ?_
 unfold A7z at hr
 refine(A0M hr).elim (fun h1=>g.hkR.S g.ra' h1 ok room he hl) fun h1=> ?_
 rw [←g.K] at h1
 exact A1A g.ra' h1 ok room he hl
noncomputable def Tab {K β:Type}(enc:β→Tok→Value):List (K×Value)→List (K×β)→Prop
 | [],[]=>True
 | kv::r,q::r'=>kv.1=q.1∧(∃ t,kv.2=enc q.2 t)∧Tab enc r r'
 | _,_=>False
noncomputable def A7t {K β:Type}[DecidableEq K](T:List (K×β))(k:K)(b:β):List (K×β):=if T.any (fun q=>q.1=k) then T.map (fun q=>if q.1=k then (q.1,b) else q) else T++ [(k,b)]
section
variable {K β:Type}[DecidableEq K]{enc:β→Tok→Value}
theorem Tab.length: ∀ {kvs:List (K×Value)} {T:List (K×β)},Tab enc kvs T→kvs.length=T.length
 | [],[],_=>rfl
 | _::r,_::r',h=>congrArg (· +1) (Tab.length (kvs:=r) (T:=r') h.2.2)
 | [],_::_,h=>(show False from h).elim
 | _::_,[],h=>(show False from h).elim
theorem Tab.snoc {k:K}{b:β}{t:Tok}: ∀ {kvs:List (K×Value)} {T:List (K×β)},Tab enc kvs T→Tab enc (kvs++ [(k,enc b t)]) (T++ [(k,b)])
 | [],[],_=>⟨rfl,⟨t,rfl⟩,trivial⟩
 | _::r,_::r',h=>⟨h.1,h.2.1,Tab.snoc (kvs:=r) (T:=r') h.2.2⟩
 | [],_::_,h=>(show False from h).elim
 | _::_,[],h=>(show False from h).elim
theorem Tab.any {k:K}: ∀ {kvs:List (K×Value)} {T:List (K×β)},Tab enc kvs T→(kvs.any fun kv=>kv.1=k)=T.any fun q=>q.1=k
 | [],[],_=>rfl
 | kv::r,q::r',h=>by rw [List.any_cons,List.any_cons,Tab.any (kvs:=r) (T:=r') h.2.2,h.1]
 | [],_::_,h=>(show False from h).elim
 | _::_,[],h=>(show False from h).elim
theorem Tab.over {k:K}{b:β}{t:Tok}{T:List (K×β)}: ∀ {kvs:List (K×Value)},Tab enc kvs T→Tab enc (kvs.map fun kv=>if kv.1=k then (kv.1,enc b t) else kv) (T.map fun q=>if q.1=k then (q.1,b) else q):=by
 induction T with
 | nil=>intro kvs h;cases kvs with
  | nil=>trivial
  | cons _ _=>exact(show False from h).elim
 | cons q r' ih=>intro kvs h;cases kvs with
  | nil=>exact(show False from h).elim
  | cons kv r=>
   rw [a0V,a0V,h.1]
   by_cases e:q.1=k
   ·rw [if_pos e,if_pos e];exact⟨rfl,⟨t,rfl⟩,ih h.2.2⟩
   ·rw [if_neg e,if_neg e];exact⟨h.1,h.2.1,ih h.2.2⟩
theorem Tab.put {k:K}{b:β}{t:Tok}{kvs:List (K×Value)}{T:List (K×β)}(h:Tab enc kvs T):Tab enc (stored kvs k (enc b t)) (A7t T k b):=by
 unfold stored A7t
 rw [h.any]
 split
 ·exact h.over
 ·exact h.snoc
theorem Tab.look {k:K}: ∀ {kvs:List (K×Value)} {T:List (K×β)},Tab enc kvs T→match T.find? (fun q=>q.1=k) with
  | some q=> ∃ t,valueAt kvs k=some (enc q.2 t)
  | none=>valueAt kvs k=none
 | [],[],_=>rfl
 | kv::r,q::r',h=>by
  have ih:=Tab.look (k:=k) (kvs:=r) (T:=r') h.2.2
  by_cases e:q.1=k
  ·rw [List.find?_cons_of_pos (by simpa using e)]
   obtain⟨t,ht⟩:=h.2.1
   refine⟨t,?_⟩
   unfold valueAt
   rw [List.find?_cons_of_pos (by simpa [h.1] using e),←ht];rfl
  ·rw [List.find?_cons_of_neg (by simpa using e)]
   unfold valueAt
   rw [List.find?_cons_of_neg (by simpa [h.1] using e)]
   exact ih
 | [],_::_,h=>(show False from h).elim
 | _::_,[],h=>(show False from h).elim
end
noncomputable def C3E (l:List UInt8)(t:Tok):Value:= .bytes l.toArray t
noncomputable def C4N (x:Str)(t:Tok):Value:= .str x t
def DB (G:Gx)(o:Obj)(T:List (List UInt8×List UInt8)):Prop:= ∃ kvs,o.IsDictOf (bytesKind G.prog G.w) kvs∧Tab C3E kvs T
def DS (G:Gx)(o:Obj)(T:List (Str×Str)):Prop:= ∃ kvs,o.IsDictOf (strKind G.prog G.w) kvs∧Tab C4N kvs T
theorem B0l {K:Type}[DecidableEq K]{knd:KeyKind G.prog G.w K}{pre post:List (Addr×Obj)}{dd:Addr}{o:Obj}{kvs:List (K×Value)}{k:K}{key:Value}{Q:Unit→Shared→Prop}(S:St c m (pre++ (dd,o)::post) s)(hd:o.IsDictOf knd kvs)(hkey:knd.is k key=true)(hsz:kvs.length≤1000)
  (h1: ∀ p∈pre,p.1≠dd) (h2: ∀ p∈post,p.1≠dd) (h3: ∀ p∈c.news,p.1≠dd) (h: ∀ s' o',St c m (pre++ (dd,o')::post) s'→o'.IsDictOf knd (stored kvs k v)→Q () s'):wpAny G.M A (setItem (.ref dd) key v) Q E s:=by
 have hm:=S.N (dd,o) (by simp)
 refine wpAny_setItem_pairs (hsz:=by rw [a1I];lia) hkey (Heap.dictOf_iff.mpr ⟨o,hm.1,hd⟩) fun h' hmm hs=> ?_
 obtain⟨o',ho',hd'⟩:=Heap.dictOf_iff.mp hmm
 refine h _ o' (S.chg (X:=dd) (tk:=s.toks+1) (A2m hs) hm.2.1 hm.2.2 (fun p hp=> ?_) h3) hd'
 rcases a1O.mp hp with hp| hp
 ·exact .inr ⟨a0H _ hp,h1 p hp⟩
 ·rcases a0T.mp hp with rfl| hp
  ·exact .inl ⟨rfl,ho'⟩
  ·exact .inr ⟨a0G _ (.tail _ hp),h2 p hp⟩
noncomputable def A5R:Stmt→Option (Str×Expr×Expr)
 | .Assign [.Subscript (.Name x _) i _] v _=>some (x,i,v)
 | _=>none
@[elab_as_elim] theorem B8O {st:Stmt} {x:Str×Expr×Expr} {motive:Stmt→Prop} (h:A5R st=some x) (q: ∀ p1 p2 p3,motive (.Assign [.Subscript (.Name x.1 p1) x.2.1 p2] x.2.2 p3)):motive st:=by
 cases st with
 | Assign ts v p=>
  cases ts with
  | nil=>exact x0 h
  | cons t ts=>
   cases t with
   | Subscript e i p2=>
    cases e with
    | Name y p1=>
     cases ts with
     | nil=>cases h;exact q _ _ _
     | cons _ _=>exact x0 h
    | _=>exact x0 h
   | _=>exact x0 h
 | _=>exact x0 h
noncomputable def B1v (st:Stmt):Str:=((A5R st).map (·.1)).getD Str.empty
noncomputable def B2J (st:Stmt):Expr:=((A5R st).map (·.2.1)).getD default
noncomputable def B2I (st:Stmt):Expr:=((A5R st).map (·.2.2)).getD default
noncomputable def A3O (st:Stmt):Bool:=((A5R st).map fun x=>A2G x.2.2&& !(x.1==("__debug__" :Str))).getD false
theorem B4x {K:Type}[DecidableEq K]{knd:KeyKind G.prog G.w K}{r:Evs}{st:Stmt}{pre post:List (Addr×Obj)}{dd ci:Addr}{o oc:Obj}{kvs:List (K×Value)}{k:K}{iv vv:SV}(X:Snd G C₀ r)(ok:c.Ok G A)(room:Room A b)(he:c.env=d.env f c.L)(h:A3O st=true)(hx:d.scope.names.lookup (B1v st)=some .cell)
  (hc:d.cl.lookup (B1v st)=some ci) (hm:(ci,oc)∈ (pre++ (dd,o)::post)++c.news) (hcd:oc.data= .cell (some (.ref dd))) (hl:Locs G C₀ (vis c (pre++ (dd,o)::post)) m ρ) (hv:r.E b (nmF G.K d ρ) (B2I st)=some (.s vv)) (hi:r.E b (nmF G.K d ρ) (B2J st)=some (.s iv))
  (hkey: ∀ w,SRep w iv→knd.is k w=true) (S:St c m (pre++ (dd,o)::post) s) (hd:o.IsDictOf knd kvs) (hsz:kvs.length≤1000) (h1: ∀ p∈pre,p.1≠dd) (h2: ∀ p∈post,p.1≠dd) (h3: ∀ p∈c.news,p.1≠dd)
  (q: ∀ s' o' w,SRep w vv→St c m (pre++ (dd,o')::post) s'→o'.IsDictOf knd (stored kvs k w)→Q .next s'):wpAny G.M A (exec st c.env) Q E s:=by
 cases e:A5R st with
 | none=>unfold A3O at h;rw [e] at h;exact xf h
 | some y=>
  unfold B1v at hx hc
  unfold B2I at hv
  unfold B2J at hi
  unfold A3O at h
  rw [e] at hx hc hv hi h
  refine x5 h fun g1 g2=> ?_
  refine B8O (motive:=fun st=>wpAny G.M A (exec st c.env) Q E s) e fun p1 p2 p3=> ?_
  have hn:NamesOk G C₀ c A m (pre++ (dd,o)::post) c.env (nmF G.K d ρ):=A0f ok he hl
  refine wpAny_Assign_Subscript (X.E hv ok room (A0n he) hn s _ E S fun own1 w1 s1 S1 R1=> ?_) (A0l g1)
  have evx:Ev G C₀ c A m (pre++ (dd,o)::post) (eval (.Name y.1 p1) c.env) (.k (.ref dd)):=C0c ok he hx hc hm hcd .k (xn g2)
  refine evx s1 _ E S1.drop fun own2 w2 s2 S2 R2=>R2.kE ?_
  refine X.E hi ok room (A0n he) hn s2 _ E S2.drop fun own3 w3 s3 S3 R3=> ?_
  exact B0l S3.drop hd (hkey _ R3.sI) hsz h1 h2 h3 fun s' o' S' hd'=>q s' o' w1 R1.sI S' hd'
noncomputable def A9X (o:Option V):Option (List UInt8):=((o.bind A0V).bind A0q).map fun q=>q.1.reverse
noncomputable def B8P (o:Option V):Option Str:=((o.bind A0V).bind A0x).map (·.1)
theorem A7p {o:Option V}{l:List UInt8}(h:A9X o=some l): ∃ r n,o=some (.s (.bytes r n))∧r.reverse=l:=x4e h fun Ω e z=>⟨_,_,A0i (A0J e),z.symm⟩
theorem B3c {o:Option V}(h:B8P o=some x): ∃ n,o=some (.s (.str x n)):=x4e h fun a e z=>⟨a.2,z▸A0i (A2d e)⟩
theorem A9N {w:Value}{r l:List UInt8}(h:SRep w (.bytes r n))(e:r.reverse=l): ∃ t,w=C3E l t:=by
 refine h.bytesE fun _ _ _ _=> ?_
 rename_i b t hb hl
 refine⟨t,?_⟩
 unfold C3E
 rw [←e,←hb]
theorem B4N {w:Value}(h:SRep w (.str x n)): ∃ t,w=C4N x t:=by
 refine h.strE fun Ω Ω=> ?_;exact⟨_,rfl⟩
theorem B4k {w:Value}{r l:List UInt8}(h:SRep w (.bytes r n))(e:r.reverse=l):(bytesKind G.prog G.w).is l w=true:=by
 refine h.bytesE fun _ _ _ _=> ?_
 rename_i b t hb hl
 show (b.toList==l)=true
 rw [hb,e];exact a2B _
theorem B8f {w:Value}(h:SRep w (.str x n)):(strKind G.prog G.w).is x w=true:=by
 refine h.strE fun Ω Ω=> ?_
 show (x==x)=true
 exact a2B _
end
noncomputable def lw (P:Params)(i:Nat):Stmt:=atS (A0c P 2444).body i
noncomputable def dL (P:Params)(L:Addr):Fd:=(A0c P 2444).withC L
noncomputable def A3T:Stmt→List Stmt
 | .For _ _ b _ _=>b
 | _=> []
noncomputable def lb (P:Params)(i j:Nat):Stmt:=atS (A3T (lw P i)) j
noncomputable def ρk (k:Int):Loc:= [("k",.s (.int k))]
noncomputable def A4v (i:Nat):List UInt8:=2::List.replicate 32 (kw i)
noncomputable def kB (i:Nat):V:= .s (.bytes (List.replicate 32 (kw i)++ [2]) 33)
noncomputable def ρ1 (o n:Nat)(k:Int):Loc:=("key",kB o)::("fresh",kB n)::ρk k
noncomputable def ρs (sz k:Int):Loc:=("size",.s (.int sz))::ρk k
noncomputable def wdS (i k:Nat):Str:=Txt.mul (B5r i) k
noncomputable abbrev laE (P:Params)(L:Addr)(ρ:Loc)(e:Expr):Option V:=(ra P).E 130 (nmF (KF P) (dL P L) ρ) e
noncomputable abbrev szL (k i:Nat):List UInt8:=k.toUInt8::List.replicate k (kw i)
structure Turn6 (P:Params)(k:Int)(o n:Nat):Prop where
 g0: ∀ L,sta P (dL P L) (ρk k) (lb P 6 0)=some (.nxt ["fresh","key"] (ρ1 o n k))
 i1: ∀ L,A9X (laE P L (ρ1 o n k) (B2J (lb P 6 1)))=some (33::A4v o)
 v1: ∀ L,A9X (laE P L (ρ1 o n k) (B2I (lb P 6 1)))=some (33::A4v n)
 i2: ∀ L,A9X (laE P L (ρ1 o n k) (B2J (lb P 6 2)))=some (33::A4v o)
 v2: ∀ L,A9X (laE P L (ρ1 o n k) (B2I (lb P 6 2)))=some (32::List.replicate 32 (kw o))
 i3: ∀ L,A9X (laE P L (ρ1 o n k) (B2J (lb P 6 3)))=some (20::B2d (A4v o))
 v3: ∀ L,A9X (laE P L (ρ1 o n k) (B2I (lb P 6 3)))=some (20::B2d (A4v n))
 i4: ∀ L,A9X (laE P L (ρ1 o n k) (B2J (lb P 6 4)))=some (20::B2d (A4v o))
 v4: ∀ L,A9X (laE P L (ρ1 o n k) (B2I (lb P 6 4)))=some (20::B2d (List.replicate 32 (kw o)))
 i5: ∀ L,B8P (laE P L (ρ1 o n k) (B2J (lb P 6 5)))=some (⟨#[48,50]⟩++wdS o 32)
 v5: ∀ L,B8P (laE P L (ρ1 o n k) (B2I (lb P 6 5)))=some (⟨#[48,50]⟩++wdS n 32)
structure Turn7 (P:Params)(k:Int)(sz o n:Nat):Prop where
 g0: ∀ L,sta P (dL P L) (ρk k) (lb P 7 0)=some (.nxt ["size"] (ρs sz k))
 i1: ∀ L,A9X (laE P L (ρs sz k) (B2J (lb P 7 1)))=some (szL sz o)
 v1: ∀ L,A9X (laE P L (ρs sz k) (B2I (lb P 7 1)))=some (szL sz n)
 i2: ∀ L,B8P (laE P L (ρs sz k) (B2J (lb P 7 2)))=some (wdS o sz)
 v2: ∀ L,B8P (laE P L (ρs sz k) (B2I (lb P 7 2)))=some (wdS n sz)
theorem B3W (P:Params):A3T (lw P 6)= [lb P 6 0,lb P 6 1,lb P 6 2,lb P 6 3,lb P 6 4,lb P 6 5]∧A3T (lw P 7)= [lb P 7 0,lb P 7 1,lb P 7 2]:=by and_intros<;>kernel_rfl
theorem B7Z (P:Params):(A3O (lb P 6 1)=true∧B1v (lb P 6 1)= "names")∧(A3O (lb P 6 2)=true∧B1v (lb P 6 2)= "thin")∧(A3O (lb P 6 3)=true∧B1v (lb P 6 3)= "names")∧(A3O (lb P 6 4)=true∧B1v (lb P 6 4)= "thin")∧(A3O (lb P 6 5)=true∧B1v (lb P 6 5)= "words")∧
  (A3O (lb P 7 1)=true∧B1v (lb P 7 1)= "names")∧(A3O (lb P 7 2)=true∧B1v (lb P 7 2)= "words"):=
 by and_intros<;>kernel_rfl
theorem A1E (P:Params)(L:Addr):(dL P L).cl.lookup ("names" :Str)=some (L+1)∧(dL P L).cl.lookup ("words" :Str)=some (L+2)∧(dL P L).cl.lookup ("thin" :Str)=some (L+3)∧(dL P L).scope.names.lookup ("names" :Str)=some .cell∧(dL P L).scope.names.lookup ("words" :Str)=some .cell∧(dL P L).scope.names.lookup ("thin" :Str)=some .cell∧(dL P L).scope.names.lookup ("k" :Str)=some .local∧
  (dL P L).cl= [(("thin" :Str),L+3),("words",L+2),("names",L+1)]:=
 by and_intros<;>kernel_rfl
theorem A7X (P:Params):Turn6 P 0 17 20∧Turn6 P 1 34 37∧Turn6 P 2 51 54∧Turn7 P 3 20 65 71∧Turn7 P 4 20 66 72∧Turn7 P 5 20 67 73∧Turn7 P 6 32 81 87∧Turn7 P 7 32 82 88∧Turn7 P 8 32 83 89∧Turn7 P 9 20 97 103∧Turn7 P 10 20 98 104∧Turn7 P 11 20 99 105:=by
 and_intros<;>constructor<;>intros<;>kernel_rfl
theorem C2k {r:V}(h:m x=some v)(R:Rep G C₀ Z v r):Locs G C₀ Z m [(x,r)]:=fun y r' e=>by
 rw [a0M] at e
 cases hy:y==x with
 | true=>rw [hy] at e;exact x1 (motive:=fun r'=> ∃ v,m y=some v∧Rep G C₀ Z v r') e ⟨v,by rw [a0D hy];exact h,R⟩
 | false=>rw [hy] at e;exact x0 e
theorem B6w {q:V→Bool}(h:ρ.all (fun p=>q p.2)=true){y:Str}{r:V}(e:ρ.lookup y=some r):q r=true:=by
 induction ρ with
 | nil=>exact x0 e
 | cons p ρ ih=>
  obtain⟨z,r'⟩:=p
  rw [a0M] at e
  refine x5 h fun h1 h2=> ?_
  cases hy:y==z with
  | true=>rw [hy] at e;exact x1 (motive:=fun r=>q r=true) e h1
  | false=>rw [hy] at e;exact ih h2 e
theorem Locs.simple {Z':Held}(h:Locs G C₀ Z m ρ)(a:ρ.all (fun p=>(A0V p.2).isSome)=true):Locs G C₀ Z' m ρ:=fun y r e=>by
 obtain⟨v,h1,h2⟩:=h y r e
 obtain⟨x,hx⟩:=Option.isSome_iff_exists.mp (B6w (q:=fun r=>(A0V r).isSome) a e)
 exact⟨v,h1,A6A (motive:=fun r=>Rep G C₀ Z' v r) hx (.s (h2.ofS hx))⟩
section
variable {Q:Flow→Shared→Prop}
theorem St.part {own':List (Addr×Obj)}(S:St c m own s)(h: ∀ p∈own',p∈own):St c m own' s:=⟨S.F,fun p hp=>S.N p (by
 rcases a1O.mp hp with hp| hp
 ·exact a0H _ (h p hp)
 ·exact a0G _ hp),S.gens,S.os,S.dr⟩
noncomputable abbrev DL (dn dw dt:Addr)(on ow ot:Obj)(base:List (Addr×Obj)):List (Addr×Obj):=(dn,on)::(dw,ow)::(dt,ot)::base
structure Fix (c:Fc)(base:List (Addr×Obj))(dn dw dt:Addr):Prop where
 cn: ∃ oc,(c.L+1,oc)∈base∧oc.data= .cell (some (.ref dn))
 cw: ∃ oc,(c.L+2,oc)∈base∧oc.data= .cell (some (.ref dw))
 ct: ∃ oc,(c.L+3,oc)∈base∧oc.data= .cell (some (.ref dt))
 nw:dn≠dw
 nt:dn≠dt
 wt:dw≠dt
 off: ∀ p∈base++c.news,p.1≠dn∧p.1≠dw∧p.1≠dt
 ln:(dn==sysModules)=false
 lw:(dw==sysModules)=false
 lt:(dt==sysModules)=false
theorem Fix.more {base:List (Addr×Obj)}{dn dw dt:Addr}(F:Fix c base dn dw dt){I:Addr}{it:Obj}(h:dn≠I∧dw≠I∧dt≠I):Fix c ((I,it)::base) dn dw dt:=by
 obtain⟨⟨a,a1,a2⟩,⟨b,b1,b2⟩,⟨e,e1,e2⟩,f1,f2,f3,f4,f5,f6,f7⟩:=F
 refine⟨⟨a,a0P _ a1,a2⟩,⟨b,a0P _ b1,b2⟩,⟨e,a0P _ e1,e2⟩,f1,f2,f3,fun p hp=> ?_,f5,f6,f7⟩
 rcases a0T.mp hp with rfl| hp
 ·exact⟨h.1.symm,h.2.1.symm,h.2.2.symm⟩
 ·exact f4 p hp
variable {dn dw dt:Addr}{on ow ot:Obj}{base:List (Addr×Obj)}
theorem A6w (g:GOk G)(ok:c.Ok G A)(room:Room A 130)(he:c.env=(dL G.w.params c.L).env f c.L)(F:Fix c base dn dw dt){st:Stmt}{k b:List UInt8}{T:List (List UInt8×List UInt8)}(h:A3O st=true∧B1v st= "names")(hi:A9X (laE G.w.params c.L ρ (B2J st))=some k)
  (hv:A9X (laE G.w.params c.L ρ (B2I st))=some b) (hl:Locs G 818 (vis c (DL dn dw dt on ow ot base)) m ρ) (S:St c m (DL dn dw dt on ow ot base) s) (D:DB G on T) (hT:T.length≤1000)
  (q: ∀ s' on',St c m (DL dn dw dt on' ow ot base) s'→DB G on' (A7t T k b)→Q .next s'):wpAny G.M A (exec st c.env) Q E s:=by
 obtain⟨c1,c2,c3,c4,c5,c6,c7,c8⟩:=A1E G.w.params c.L
 obtain⟨r1,n1,e1,e2⟩:=A7p hi
 obtain⟨r2,n2,e3,e4⟩:=A7p hv
 obtain⟨kvs,D1,D2⟩:=D
 obtain⟨oc,hm,hcd⟩:=F.cn
 unfold laE at e1 e3
 rw [←g.K] at e1 e3
 refine B4x (knd:=bytesKind G.prog G.w) (k:=k) (pre:= []) g.ra ok room he h.1 (by rw [h.2];exact c4) (by rw [h.2];exact c1) (oc:=oc) (a0H _ (.tail _ (.tail _ (.tail _ hm)))) hcd hl e3 e1 (fun w hw=>B4k hw e2) S D1 (by rw [D2.length];exact hT) (fun p hp=>(nomatch hp)) (fun p hp=> ?_) (fun p hp=>(F.off p (a0G _ hp)).1) fun s' o' w hw S' D'=> ?_
 ·rcases a0T.mp hp with rfl| hp
  ·exact F.nw.symm
  ·rcases a0T.mp hp with rfl| hp
   ·exact F.nt.symm
   ·exact(F.off p (a0H _ hp)).1
 ·obtain⟨t,rfl⟩:=A9N hw e4
  exact q s' o' S' ⟨_,D',D2.put⟩
theorem B3l (g:GOk G)(ok:c.Ok G A)(room:Room A 130)(he:c.env=(dL G.w.params c.L).env f c.L)(F:Fix c base dn dw dt){st:Stmt}{k b:List UInt8}{T:List (List UInt8×List UInt8)}(h:A3O st=true∧B1v st= "thin")(hi:A9X (laE G.w.params c.L ρ (B2J st))=some k)
  (hv:A9X (laE G.w.params c.L ρ (B2I st))=some b) (hl:Locs G 818 (vis c (DL dn dw dt on ow ot base)) m ρ) (S:St c m (DL dn dw dt on ow ot base) s) (D:DB G ot T) (hT:T.length≤1000)
  (q: ∀ s' ot',St c m (DL dn dw dt on ow ot' base) s'→DB G ot' (A7t T k b)→Q .next s'):wpAny G.M A (exec st c.env) Q E s:=by
 obtain⟨c1,c2,c3,c4,c5,c6,c7,c8⟩:=A1E G.w.params c.L
 obtain⟨r1,n1,e1,e2⟩:=A7p hi
 obtain⟨r2,n2,e3,e4⟩:=A7p hv
 obtain⟨kvs,D1,D2⟩:=D
 obtain⟨oc,hm,hcd⟩:=F.ct
 unfold laE at e1 e3
 rw [←g.K] at e1 e3
 refine B4x (knd:=bytesKind G.prog G.w) (k:=k) (pre:= [(dn,on),(dw,ow)]) g.ra ok room he h.1 (by rw [h.2];exact c6) (by rw [h.2];exact c3) (oc:=oc) (a0H _ (.tail _ (.tail _ (.tail _ hm)))) hcd hl e3 e1 (fun w hw=>B4k hw e2) S D1 (by rw [D2.length];exact hT) (fun p hp=> ?_) (fun p hp=> ?_) (fun p hp=>(F.off p (a0G _ hp)).2.2) fun s' o' w hw S' D'=> ?_
 ·rcases a0T.mp hp with rfl| hp
  ·exact F.nt
  ·rw [a0L.mp hp];exact F.wt
 ·exact(F.off p (a0H _ hp)).2.2
 ·obtain⟨t,rfl⟩:=A9N hw e4
  exact q s' o' S' ⟨_,D',D2.put⟩
theorem B0i (g:GOk G)(ok:c.Ok G A)(room:Room A 130)(he:c.env=(dL G.w.params c.L).env f c.L)(F:Fix c base dn dw dt){st:Stmt}{k b:Str}{T:List (Str×Str)}(h:A3O st=true∧B1v st= "words")(hi:B8P (laE G.w.params c.L ρ (B2J st))=some k)
  (hv:B8P (laE G.w.params c.L ρ (B2I st))=some b) (hl:Locs G 818 (vis c (DL dn dw dt on ow ot base)) m ρ) (S:St c m (DL dn dw dt on ow ot base) s) (D:DS G ow T) (hT:T.length≤1000)
  (q: ∀ s' ow',St c m (DL dn dw dt on ow' ot base) s'→DS G ow' (A7t T k b)→Q .next s'):wpAny G.M A (exec st c.env) Q E s:=by
 obtain⟨c1,c2,c3,c4,c5,c6,c7,c8⟩:=A1E G.w.params c.L
 obtain⟨n1,e1⟩:=B3c hi
 obtain⟨n2,e3⟩:=B3c hv
 obtain⟨kvs,D1,D2⟩:=D
 obtain⟨oc,hm,hcd⟩:=F.cw
 unfold laE at e1 e3
 rw [←g.K] at e1 e3
 refine B4x (knd:=strKind G.prog G.w) (k:=k) (pre:= [(dn,on)]) g.ra ok room he h.1 (by rw [h.2];exact c5) (by rw [h.2];exact c2) (oc:=oc) (a0H _ (.tail _ (.tail _ (.tail _ hm)))) hcd hl e3 e1 (fun w hw=>B8f hw) S D1 (by rw [D2.length];exact hT) (fun p hp=> ?_) (fun p hp=> ?_) (fun p hp=>(F.off p (a0G _ hp)).2.1) fun s' o' w hw S' D'=> ?_
 ·rw [a0L.mp hp];exact F.nw
 ·rcases a0T.mp hp with rfl| hp
  ·exact F.wt.symm
  ·exact(F.off p (a0H _ hp)).2.1
 ·obtain⟨t,rfl⟩:=B4N hw
  exact q s' o' S' ⟨_,D',D2.put⟩
noncomputable def C1N (T:List (List UInt8×List UInt8))(o n:Nat):List (List UInt8×List UInt8):=A7t (A7t T (33::A4v o) (33::A4v n)) (20::B2d (A4v o)) (20::B2d (A4v n))
noncomputable def C1M (T:List (List UInt8×List UInt8))(o:Nat):List (List UInt8×List UInt8):=A7t (A7t T (33::A4v o) (32::List.replicate 32 (kw o))) (20::B2d (A4v o)) (20::B2d (List.replicate 32 (kw o)))
noncomputable def C1L (T:List (Str×Str))(o n:Nat):List (Str×Str):=A7t T (⟨#[48,50]⟩++wdS o 32) (⟨#[48,50]⟩++wdS n 32)
noncomputable def C1K (T:List (List UInt8×List UInt8))(sz o n:Nat):List (List UInt8×List UInt8):=A7t T (szL sz o) (szL sz n)
noncomputable def C1J (T:List (Str×Str))(sz o n:Nat):List (Str×Str):=A7t T (wdS o sz) (wdS n sz)
theorem A1t {K β:Type}[DecidableEq K](T:List (K×β))(k:K)(b:β):(A7t T k b).length≤T.length+1:=by
 unfold A7t
 split
 ·rw [a1D];lia
 ·rw [a1K,List.length_singleton];lia
noncomputable def B5C (i:Nat):Nat:=if 3≤i∧i<6 then 32 else 20
noncomputable def tn6:Nat→List (List UInt8×List UInt8)
 | 0=> []
 | i+1=>C1N (tn6 i) (wd false i) (wd true i)
noncomputable def tt6:Nat→List (List UInt8×List UInt8)
 | 0=> []
 | i+1=>C1M (tt6 i) (wd false i)
noncomputable def tw6:Nat→List (Str×Str)
 | 0=> []
 | i+1=>C1L (tw6 i) (wd false i) (wd true i)
noncomputable def tn7:Nat→List (List UInt8×List UInt8)
 | 0=>tn6 3
 | i+1=>C1K (tn7 i) (B5C i) (wd false (3+i)) (wd true (3+i))
noncomputable def tw7:Nat→List (Str×Str)
 | 0=>tw6 3
 | i+1=>C1J (tw7 i) (B5C i) (wd false (3+i)) (wd true (3+i))
theorem A8R: ∀ i,(tn6 i).length≤2*i
 | 0=>a0K _
 | i+1=>by
  have:=A8R i
  have a:=A1t (tn6 i) (33::A4v (wd false i)) (33::A4v (wd true i))
  have b:=A1t (A7t (tn6 i) (33::A4v (wd false i)) (33::A4v (wd true i))) (20::B2d (A4v (wd false i))) (20::B2d (A4v (wd true i)))
  show (A7t _ _ _).length≤_
  lia
theorem B2R: ∀ i,(tt6 i).length≤2*i
 | 0=>a0K _
 | i+1=>by
  have:=B2R i
  have a:=A1t (tt6 i) (33::A4v (wd false i)) (32::List.replicate 32 (kw (wd false i)))
  have b:=A1t (A7t (tt6 i) (33::A4v (wd false i)) (32::List.replicate 32 (kw (wd false i)))) (20::B2d (A4v (wd false i))) (20::B2d (List.replicate 32 (kw (wd false i))))
  show (A7t _ _ _).length≤_
  lia
theorem A8P: ∀ i,(tw6 i).length≤i
 | 0=>a0K _
 | i+1=>a0F (A1t _ _ _) (a1Y (A8P i))
theorem B2T: ∀ i,(tn7 i).length≤6+i
 | 0=>A8R 3
 | i+1=>a0F (A1t _ _ _) (a1Y (B2T i))
theorem B2Q: ∀ i,(tw7 i).length≤3+i
 | 0=>A8P 3
 | i+1=>a0F (A1t _ _ _) (a1Y (B2Q i))
theorem C3M (P:Params): ∀ i,i<3→Turn6 P (i:Nat) (wd false i) (wd true i):=by
 obtain⟨h0,h1,h2,_⟩:=A7X P
 have H: ∀ i∈List.range 3,Turn6 P (i:Nat) (wd false i) (wd true i):=fm h0 (fm h1 (fm h2 fn))
 exact fun i hi=>H i (List.mem_range.mpr hi)
theorem C3L (P:Params): ∀ i,i<9→Turn7 P (3+ (i:Nat)) (B5C i) (wd false (3+i)) (wd true (3+i)):=by
 obtain⟨_,_,_,h3,h4,h5,h6,h7,h8,h9,h10,h11⟩:=A7X P
 have H: ∀ i∈List.range 9,Turn7 P (3+ (i:Nat)) (B5C i) (wd false (3+i)) (wd true (3+i)):=fm h3 (fm h4 (fm h5 (fm h6 (fm h7 (fm h8 (fm h9 (fm h10 (fm h11 fn))))))))
 exact fun i hi=>H i (List.mem_range.mpr hi)
noncomputable abbrev A1j:List Str:= ["k","key","fresh","size"]
theorem C4V (g:GOk G)(ok:c.Ok G A)(room:Room A 130)(he:c.env=(dL G.w.params c.L).env f c.L)(F:Fix c base dn dw dt){k:Int}{o:Nat}{t:Tok}(T:Turn6 G.w.params k o n){Tn Tt:List (List UInt8×List UInt8)}{Tw:List (Str×Str)}(hTn:Tn.length≤500)(hTt:Tt.length≤500)(hTw:Tw.length≤500)
  (hk:m "k" =some (.int k t)) (S:St c m (DL dn dw dt on ow ot base) s) (D1:DB G on Tn) (D2:DS G ow Tw) (D3:DB G ot Tt)
  (q: ∀ m' s' on' ow' ot',(∀ y,y∉A1j→m' y=m y)→St c m' (DL dn dw dt on' ow' ot' base) s'→DB G on' (C1N Tn o n)→DS G ow' (C1L Tw o n)→DB G ot' (C1M Tt o)→Q .next s') (hpo:PassesOwn G.M A c.env E):
  wpAny G.M A (execs (A3T (lw G.w.params 6)) c.env) Q E s:=by
 obtain⟨⟨s1,s2⟩,⟨s3,s4⟩,⟨s5,s6⟩,⟨s7,s8⟩,⟨s9,s10⟩,_,_⟩:=B7Z G.w.params
 rw [(B3W G.w.params).1]
 have hl0:Locs G 818 (vis c []) m (ρk k):=C2k hk (.s .int)
 have en:Ends G 818 c A (DL dn dw dt on ow ot base) (((SRes.nxt ["fresh","key"] (ρ1 o n k)):SRes).bad=true) E:=⟨fun h=>(nomatch h),fun h=>(nomatch h),hpo⟩
 have ex0:=exa (own:=DL dn dw dt on ow ot base) g (T.g0 c.L) ok room he (hl0.mono fun a o h=>h.imp id fun z=>(nomatch z))
 refine a0N (ex0 s _ E S en fun own1 m1 fl s1' S1 R1=> ?_)
 obtain⟨rfl,hl1,hm1⟩:=R1
 have S1:=S1.drop
 have hl: ∀ (own':List (Addr×Obj)),Locs G 818 (vis c own') m1 (ρ1 o n k):=fun own'=>hl1.simple (by kernel_rfl)
 refine a0N (A6w g ok room he F ⟨s1,s2⟩ (T.i1 c.L) (T.v1 c.L) (hl _) S1 D1 (by lia) fun s2' on2 S2 D1'=> ?_)
 refine a0N (B3l g ok room he F ⟨s3,s4⟩ (T.i2 c.L) (T.v2 c.L) (hl _) S2 D3 (by lia) fun s3' ot3 S3 D3'=> ?_)
 refine a0N (A6w g ok room he F ⟨s5,s6⟩ (T.i3 c.L) (T.v3 c.L) (hl _) S3 D1' (by have:=A1t Tn (33::A4v o) (33::A4v n);lia) fun s4' on4 S4 D1''=> ?_)
 refine a0N (B3l g ok room he F ⟨s7,s8⟩ (T.i4 c.L) (T.v4 c.L) (hl _) S4 D3' (by have:=A1t Tt (33::A4v o) (32::List.replicate 32 (kw o));lia) fun s5' ot5 S5 D3''=> ?_)
 refine a0N (B0i g ok room he F ⟨s9,s10⟩ (T.i5 c.L) (T.v5 c.L) (hl _) S5 D2 (by lia) fun s6' ow6 S6 D2'=>a2O ?_)
 refine q m1 s6' on4 ow6 ot5 (fun y hy=>hm1 y fun z=>hy ?_) S6 D1'' D2' D3''
 simp only [a0T,List.not_mem_nil,or_false] at z ⊢
 rcases z with z| z
 ·exact .inr (.inr (.inl z))
 ·exact .inr (.inl z)
theorem C4U (g:GOk G)(ok:c.Ok G A)(room:Room A 130)(he:c.env=(dL G.w.params c.L).env f c.L)(F:Fix c base dn dw dt){k:Int}{sz o:Nat}{t:Tok}(T:Turn7 G.w.params k sz o n){Tn:List (List UInt8×List UInt8)}{Tw:List (Str×Str)}(hTn:Tn.length≤500)(hTw:Tw.length≤500)
  (hk:m "k" =some (.int k t)) (S:St c m (DL dn dw dt on ow ot base) s) (D1:DB G on Tn) (D2:DS G ow Tw)
  (q: ∀ m' s' on' ow',(∀ y,y∉A1j→m' y=m y)→St c m' (DL dn dw dt on' ow' ot base) s'→DB G on' (C1K Tn sz o n)→DS G ow' (C1J Tw sz o n)→Q .next s') (hpo:PassesOwn G.M A c.env E):
  wpAny G.M A (execs (A3T (lw G.w.params 7)) c.env) Q E s:=by
 obtain⟨_,_,_,_,_,⟨s1,s2⟩,⟨s3,s4⟩⟩:=B7Z G.w.params
 rw [(B3W G.w.params).2]
 have hl0:Locs G 818 (vis c []) m (ρk k):=C2k hk (.s .int)
 have en:Ends G 818 c A (DL dn dw dt on ow ot base) (((SRes.nxt ["size"] (ρs sz k)):SRes).bad=true) E:=⟨fun h=>(nomatch h),fun h=>(nomatch h),hpo⟩
 have ex0:=exa (own:=DL dn dw dt on ow ot base) g (T.g0 c.L) ok room he (hl0.mono fun a o h=>h.imp id fun z=>(nomatch z))
 refine a0N (ex0 s _ E S en fun own1 m1 fl s1' S1 R1=> ?_)
 obtain⟨rfl,hl1,hm1⟩:=R1
 have S1:=S1.drop
 have hl: ∀ (own':List (Addr×Obj)),Locs G 818 (vis c own') m1 (ρs sz k):=fun own'=>hl1.simple (by kernel_rfl)
 refine a0N (A6w g ok room he F ⟨s1,s2⟩ (T.i1 c.L) (T.v1 c.L) (hl _) S1 D1 (by lia) fun s2' on2 S2 D1'=> ?_)
 refine a0N (B0i g ok room he F ⟨s3,s4⟩ (T.i2 c.L) (T.v2 c.L) (hl _) S2 D2 (by lia) fun s3' ow3 S3 D2'=>a2O ?_)
 refine q m1 s3' on2 ow3 (fun y hy=>hm1 y fun z=>hy ?_) S3 D1' D2'
 simp only [a0T,List.not_mem_nil,or_false] at z ⊢
 exact .inr (.inr (.inr z))
end
noncomputable def C1x:Stmt→Option (Expr×Expr×List Stmt)
 | .For t it body orelse _=>gd orelse.isEmpty (some (t,it,body))
 | _=>none
@[elab_as_elim] theorem C1w {st:Stmt} {x:Expr×Expr×List Stmt} {motive:Stmt→Prop} (h:C1x st=some x) (q: ∀ p,motive (.For x.1 x.2.1 x.2.2 [] p)):motive st:=by
 cases st with
 | For t it body orelse p=>exact x2 h fun ho h=>A0O ho (by cases h;exact q p)
 | _=>exact x0 h
noncomputable def C5I (st:Stmt):Option (Str×Str×List Expr):=(C1x st).bind fun a=>(A1r a.1).bind fun x=>(A5g a.2.1).map fun f=>(x,f.1,f.2)
noncomputable def B9T (st:Stmt):Str×Str×List Expr:=(C5I st).getD (Str.empty,Str.empty,[])
noncomputable def C0J (st:Stmt):Str:=(B9T st).1
noncomputable def C3D (st:Stmt):Str:=(B9T st).2.1
noncomputable def B6Y (st:Stmt):List Expr:=(B9T st).2.2
noncomputable def B9U (st:Stmt):Bool:=(C5I st).any fun q=>q.2.2.all A0g
theorem B4u (P:Params):(B9U (lw P 6)=true∧C0J (lw P 6)= "k" ∧B9U (lw P 7)=true∧C0J (lw P 7)= "k")∧(∀ L,nmF (KF P) (dL P L) [] (C3D (lw P 6))=some (.k (.type "range"))∧nmF (KF P) (dL P L) [] (C3D (lw P 7))=some (.k (.type "range"))∧
  A3M (ra P) 130 (nmF (KF P) (dL P L) []) (B6Y (lw P 6))=some [.s (.int 3)]∧A3M (ra P) 130 (nmF (KF P) (dL P L) []) (B6Y (lw P 7))=some [.s (.int 3),.s (.int 12)]):=
 ⟨by and_intros<;>kernel_rfl,fun L=>by and_intros<;>kernel_rfl⟩
section
variable {Q:Flow→Shared→Prop}
theorem A8h (g:GOk G)(ok:c.Ok G A)(room:Room A 130)(he:c.env=d.env f c.L){st:Stmt}{a b:Int}(h:B9U st=true)(Inv:Nat→(Str→Option Value)→List (Addr×Obj)→Prop)(hx:d.scope.names.lookup (C0J st)=some .local)
  (hf:nmF G.K d [] (C3D st)=some (.k (.type "range"))) (ha:A3M (ra G.w.params) 130 (nmF G.K d []) (B6Y st)=some rs) (hrs:rs= [.s (.int b)]∧a=0∨rs= [.s (.int a),.s (.int b)])
  (hn:b - a=n) (hab:0≤a∧b<1000) (hpo:PassesOwn G.M A c.env E) (S:St c m own s) (h0:Inv 0 m own)
  (step: ∀ (I:Addr) (it:Obj) (i:Nat) (m₁:Str→Option Value) (own₁:List (Addr×Obj)) (t:Tok) (s₁:Shared) (Q':Flow→Shared→Prop),i<n→Inv i m₁ own₁→(∀ p∈own₁++c.news,p.1≠I)→St c (fun y=>if y=C0J st then some (.int (a+ (i:Int)) t) else m₁ y) ((I,it)::own₁) s₁→
   (∀ m' own' s',Inv (i+1) m' own'→(∀ p∈own',p.1≠I)→St c m' ((I,it)::own') s'→Q' .next s')→wpAny G.M A (execs (A3T st) c.env) Q' E s₁)
  (done: ∀ m' own' s',Inv n m' own'→St c m' own' s'→Q .next s'):wpAny G.M A (exec st c.env) Q E s:=by
 obtain⟨q,hq,h⟩:=B5m h
 rw [C0J,B9T,hq] at hx
 simp only [C0J,B9T,hq] at step
 rw [C3D,B9T,hq] at hf
 rw [B6Y,B9T,hq] at ha
 have hn':NamesOk G 818 c A m own c.env (nmF G.K d []):=A0f ok he fun y r e=>x0 e
 revert step
 refine x3 hq fun a h1 hq=>x3 hq fun x h2 hq=>x4e hq fun g' h3 e=> ?_
 subst e
 refine C1w h1 fun pos=>A0T (motive:=fun e=>_→wpAny G.M A (exec (.For e a.2.1 a.2.2 [] pos) c.env) Q E s) h2 fun px=>A4y (motive:=fun e=>_→wpAny G.M A (exec (.For (.Name x px) e a.2.2 [] pos) c.env) Q E s) h3 fun np cpos step=> ?_
 exact B7b ok he Inv hx h rfl (hn' g'.1 np _ [] hf) (fun own'=>⟨rs,hrs,A0u g.ra ok room (A0n he) ha (hn'.more own')⟩) hn hab hpo S h0 step done
theorem A3A {st:Stmt}{rest:List Stmt}{P:Shared→Prop}(h1:1≤s.toks)(h:wpAny G.M A (exec st c.env) (fun fl s'=>fl= .next∧P s') E s)(k: ∀ s',P s'→1≤s'.toks→wpAny G.M A (execs rest c.env) Q E s'):wpAny G.M A (execs (st::rest) c.env) Q E s:=
 a0N (a2F (wpAny_toks_of h1 h) (fun fl s' z=>by obtain⟨h2,rfl,p⟩:=z;exact k s' p h2) fun Ω Ω z=>z.2)
variable {dn dw dt:Addr}{on ow ot:Obj}{base:List (Addr×Obj)}
theorem kIn:("k" :Str)∈A1j:=by simp
theorem C5O {I:Addr}{it on ow ot:Obj}{base:List (Addr×Obj)}{dn dw dt:Addr}: ∀ p∈DL dn dw dt on ow ot ((I,it)::base),p∈ (I,it)::DL dn dw dt on ow ot base:=
 fm (.tail _ (.head _)) (fm (.tail _ (.tail _ (.head _))) (fm (.tail _ (.tail _ (.tail _ (.head _)))) (fm (.head _) fun p hp=> .tail _ (.tail _ (.tail _ (.tail _ hp))))))
theorem C3n {I:Addr}{it on ow ot:Obj}{base:List (Addr×Obj)}{dn dw dt:Addr}: ∀ p∈ (I,it)::DL dn dw dt on ow ot base,p∈DL dn dw dt on ow ot ((I,it)::base):=
 fm (.tail _ (.tail _ (.tail _ (.head _)))) (fm (.head _) (fm (.tail _ (.head _)) (fm (.tail _ (.tail _ (.head _))) fun p hp=> .tail _ (.tail _ (.tail _ (.tail _ hp))))))
theorem B3Z (g:GOk G)(ok:c.Ok G A)(room:Room A 130)(he:c.env=(dL G.w.params c.L).env f c.L)(F:Fix c base dn dw dt){rest:List Stmt}(S:St c m (DL dn dw dt on ow ot base) s)(D1:DB G on [])(D2:DS G ow [])(D3:DB G ot [])
  (h1:1≤s.toks) (hpo:PassesOwn G.M A c.env E) (q: ∀ m' s' on' ow' ot',(∀ y,y∉A1j→m' y=m y)→St c m' (DL dn dw dt on' ow' ot' base) s'→1≤s'.toks→DB G on' (tn7 9)→DS G ow' (tw7 9)→DB G ot' (tt6 3)→wpAny G.M A (execs rest c.env) Q E s'):
  wpAny G.M A (execs (lw G.w.params 6::lw G.w.params 7::rest) c.env) Q E s:=by
 obtain⟨⟨f1,f2,f3,f4⟩,f5⟩:=B4u G.w.params
 obtain⟨n1,n2,a1,a2⟩:=f5 c.L
 obtain⟨c1,c2,c3,c4,c5,c6,c7,c8⟩:=A1E G.w.params c.L
 rw [←g.K] at n1 n2 a1 a2
 have fresh: ∀ {I:Addr} {on ow ot:Obj},(∀ p∈DL dn dw dt on ow ot base++c.news,p.1≠I)→dn≠I∧dw≠I∧dt≠I:= @fun I on ow ot h=>⟨h (dn,on) (.head _),h (dw,ow) (.tail _ (.head _)),h (dt,ot) (.tail _ (.tail _ (.head _)))⟩
 have offI: ∀ {I:Addr} {on ow ot on' ow' ot':Obj},(∀ p∈DL dn dw dt on ow ot base++c.news,p.1≠I)→ ∀ p∈DL dn dw dt on' ow' ot' base,p.1≠I:=fun h=>
  fm (fresh h).1 (fm (fresh h).2.1 (fm (fresh h).2.2 fun p hp=>h p (a0H _ (.tail _ (.tail _ (.tail _ hp))))))
 refine A3A (P:=fun s'=> ∃ m₁ own₁,(∃ on ow ot,own₁=DL dn dw dt on ow ot base∧DB G on (tn6 3)∧DS G ow (tw6 3)∧DB G ot (tt6 3)∧ ∀ y,y∉A1j→m₁ y=m y)∧St c m₁ own₁ s') h1 (A8h g ok room he (a:=0) (b:=3) (n:=3) f1 (fun i m₁ own₁=> ∃ on ow ot,own₁=DL dn dw dt on ow ot base∧DB G on (tn6 i)∧DS G ow (tw6 i)∧DB G ot (tt6 i)∧ ∀ y,y∉A1j→m₁ y=m y) (by rw [f2];exact c7) n1 a1 (.inl ⟨rfl,rfl⟩) rfl ⟨by decide,by decide⟩ hpo S
  ⟨on,ow,ot,rfl,D1,D2,D3,fun Ω Ω=>rfl⟩ (fun I it i m₁ own₁ t s₁ Q' hi hv hI S₁ k=> ?_) fun m₁ own₁ s₁ hv S₁=>⟨rfl,m₁,own₁,hv,S₁⟩) fun s₁ z h2=> ?_
 ·obtain⟨on,ow,ot,rfl,D1,D2,D3,hm⟩:=hv
  have T:=C3M G.w.params i hi
  have hlt:=A8R i
  have htt:=B2R i
  have htw:=A8P i
  refine C4V (k:=(i:Int)) (t:=t) (base:=(I,it)::base) (dn:=dn) (dw:=dw) (dt:=dt) (on:=on) (ow:=ow) (ot:=ot) g ok room he (F.more (fresh hI)) T (by lia) (by lia) (by lia) (by rw [if_pos f2.symm,Int.zero_add]) (S₁.part C5O) D1 D2 D3 (fun m' s' on' ow' ot' hm' S' D1' D2' D3'=> ?_) hpo
  ·refine k m' (DL dn dw dt on' ow' ot' base) s' ⟨on',ow',ot',rfl,D1',D2',D3',fun y hy=> ?_⟩ (offI hI) (S'.part C3n)
   exact(hm' y hy).trans ((if_neg fun z=>hy (by rw [z,f2];exact kIn)).trans (hm y hy))
 obtain⟨m₁,own₁,⟨on,ow,ot,rfl,D1,D2,D3,hm⟩,S₁⟩:=z
 refine A3A (P:=fun s'=> ∃ m₂ own₁,(∃ on ow,own₁=DL dn dw dt on ow ot base∧DB G on (tn7 9)∧DS G ow (tw7 9)∧ ∀ y,y∉A1j→m₂ y=m y)∧St c m₂ own₁ s') h2 (A8h g ok room he (a:=3) (b:=12) (n:=9) f3 (fun i m₂ own₁=> ∃ on ow,own₁=DL dn dw dt on ow ot base∧DB G on (tn7 i)∧DS G ow (tw7 i)∧ ∀ y,y∉A1j→m₂ y=m y) (by rw [f4];exact c7) n2 a2 (.inr rfl) rfl ⟨by decide,by decide⟩ hpo S₁
  ⟨on,ow,rfl,D1,D2,hm⟩ (fun I it i m₂ own₁ t s₁ Q' hi hv hI S₁ k=> ?_) fun m₂ own₁ s₁ hv S₁=>⟨rfl,m₂,own₁,hv,S₁⟩) fun s₁ z h3=> ?_
 ·obtain⟨on,ow,rfl,D1,D2,hm⟩:=hv
  have T:=C3L G.w.params i hi
  have hlt:=B2T i
  have htw:=B2Q i
  refine C4U (k:=3+ (i:Int)) (t:=t) (base:=(I,it)::base) (dn:=dn) (dw:=dw) (dt:=dt) (on:=on) (ow:=ow) (ot:=ot) g ok room he (F.more (fresh hI)) T (by lia) (by lia) (by rw [if_pos f4.symm]) (S₁.part C5O) D1 D2 (fun m' s' on' ow' hm' S' D1' D2'=> ?_) hpo
  ·refine k m' (DL dn dw dt on' ow' ot base) s' ⟨on',ow',rfl,D1',D2',fun y hy=> ?_⟩ (offI hI) (S'.part C3n)
   exact(hm' y hy).trans ((if_neg fun z=>hy (by rw [z,f4];exact kIn)).trans (hm y hy))
 obtain⟨m₂,own₁,⟨on,ow,rfl,D1,D2,hm⟩,S₁⟩:=z
 exact q m₂ s₁ on ow ot hm S₁ h3 D1 D2 D3
end
noncomputable def C3Y {α:Type}:List α→Option (α×α×α)
 | a::l=>(A7E l).map fun p=>(a,p)
 | []=>none
@[elab_as_elim] theorem C1E {α:Type} {l:List α} {x} {motive:List α→Prop} (h:C3Y l=some x) (q:motive [x.1,x.2.1,x.2.2]):motive l:=by
 cases l with
 | nil=>exact x0 h
 | cons a l=>exact x4 (motive:=fun x=>motive [x.1,x.2.1,x.2.2]→motive (a::l)) h (fun p hp q=>A3Q (motive:=fun l=>motive (a::l)) hp q) q
noncomputable def A7a:Expr→Option Unit
 | .Dict ks vs _=>gd (ks.isEmpty&&vs.isEmpty) (some ())
 | _=>none
@[elab_as_elim] theorem A6Z {e:Expr} {u:Unit} {motive:Expr→Prop} (h:A7a e=some u) (q: ∀ p,motive (.Dict [] [] p)):motive e:=by
 cases e with
 | Dict=>exact x2 h fun hc h=>x5 hc fun h1 h2=>A0O h1 (A0O h2 (q _))
 | _=>exact x0 h
noncomputable def C3A (x:Str)(e:Expr):Option Unit:=(A1r e).bind fun y=>gd (y==x) (some ())
@[elab_as_elim] theorem B9H {e:Expr} {u:Unit} {motive:Expr→Prop} (h:C3A x e=some u) (q: ∀ p,motive (.Name x p)):motive e:=x3 h fun y hy h=>x2 h fun hc Ω=>A0T hy (a0D hc▸q)
noncomputable def C5K (st:Stmt):Option Unit:=(B8V st).bind fun a=>((B2f a.1).bind C3Y).bind fun t=>((B2f a.2).bind C3Y).bind fun v=>(C3A "names" t.1).bind fun Ω=>(C3A "words" t.2.1).bind fun Ω=>(C3A "thin" t.2.2).bind fun Ω=>(A7a v.1).bind fun Ω=>(A7a v.2.1).bind fun Ω=>A7a v.2.2
@[elab_as_elim] theorem C6W {st:Stmt} {u:Unit} {motive:Stmt→Prop} (h:C5K st=some u) (q: ∀ pa pb pe k tp p4 p5 p6 k2 p7 pos,motive (.Assign [.Tuple [.Name "names" pa,.Name "words" pb,.Name "thin" pe] k tp] (.Tuple [.Dict [] [] p4,.Dict [] [] p5,.Dict [] [] p6] k2 p7) pos)):motive st:=by
 refine x3 h fun a ha h=>x3 h fun t ht h=>x3 h fun v hv h=>x3 h fun Ω h1 h=>x3 h fun Ω h2 h=>x3 h fun Ω h3 h=>x3 h fun Ω h4 h=>x3 h fun Ω h5 h6=>B7O ha fun pos=> ?_
 refine x3 ht fun l hl ht=>A8i (motive:=fun e=>motive (.Assign [e] a.2 pos)) hl fun k tp=>C1E (motive:=fun l=>motive (.Assign [.Tuple l k tp] a.2 pos)) ht ?_
 refine B9H (motive:=fun e=>motive (.Assign [.Tuple [e,t.2.1,t.2.2] k tp] a.2 pos)) h1 fun pa=>B9H (motive:=fun e=>motive (.Assign [.Tuple [_,e,t.2.2] k tp] a.2 pos)) h2 fun pb=>B9H (motive:=fun e=>motive (.Assign [.Tuple [_,_,e] k tp] a.2 pos)) h3 fun pe=> ?_
 refine x3 hv fun l hl hv=>A8i (motive:=fun e=>motive (.Assign _ e pos)) hl fun k2 p7=>C1E (motive:=fun l=>motive (.Assign _ (.Tuple l k2 p7) pos)) hv ?_
 exact A6Z (motive:=fun e=>motive (.Assign _ (.Tuple [e,v.2.1,v.2.2] k2 p7) pos)) h4 fun p4=>A6Z (motive:=fun e=>motive (.Assign _ (.Tuple [_,e,v.2.2] k2 p7) pos)) h5 fun p5=>A6Z (motive:=fun e=>motive (.Assign _ (.Tuple [_,_,e] k2 p7) pos)) h6 fun p6=>q pa pb pe k tp p4 p5 p6 k2 p7 pos
noncomputable def C5b:Stmt→List Expr
 | .Assign ts _ _=>ts
 | _=> []
noncomputable def C7b:Stmt→Expr
 | .Assign _ v _=>v
 | _=>default
theorem B4T (P:Params):C5K (lw P 5)=some ()∧ ∀ (L:Addr) (f:Addr),swappedStores (C5b (lw P 5)) (C7b (lw P 5)) ((dL P L).env f L)=pure none:=by and_intros<;>intros<;>kernel_rfl
section
variable {Q:Flow→Shared→Prop}
theorem St.push (S:St c m own s)(o:Obj)(ho:o.isFreed=false:=by rfl):St c m ((s.heap.objs.size,o)::own) {s with heap:=s.heap.push o}:=⟨S.F.push _,News.push S.F S.N _ ho,S.gens,S.os,S.dr⟩
theorem B4a (g:GOk G)(ok:c.Ok G A)(he:c.env=(dL G.w.params c.L).env f c.L){o1 o2 o3:Obj}(h1:o1.data= .cell none)(h2:o2.data= .cell none)(h3:o3.data= .cell none)(S:St c m ((c.L+3,o3)::(c.L+2,o2)::(c.L+1,o1)::own) s)(hoff: ∀ p∈own++c.news,p.1≠c.L+1∧p.1≠c.L+2∧p.1≠c.L+3)
  (q: ∀ dn dw dt on ow ot o1' o2' o3' s',St c m (DL dn dw dt on ow ot ((c.L+3,o3')::(c.L+2,o2')::(c.L+1,o1')::own)) s'→Fix c ((c.L+3,o3')::(c.L+2,o2')::(c.L+1,o1')::own) dn dw dt→DB G on []→DS G ow []→DB G ot []→Q .next s'):
  wpAny G.M A (exec (lw G.w.params 5) c.env) Q E s:=by
 obtain⟨k1,k2⟩:=B4T G.w.params
 obtain⟨c1,c2,c3,c4,c5,c6,c7,c8⟩:=A1E G.w.params c.L
 have k2:=k2 c.L f
 rw [←he] at k2
 generalize lw G.w.params 5=st at k1 k2 ⊢
 revert k2
 refine C6W k1 fun pa pb pe k tp p4 p5 p6 k2' p7 pos k2=> ?_
 refine Assign_Tuple (wpAny_Tuple ?_) rfl k2
 have dnew: ∀ (h:Heap),Obj.IsDictOf (bytesKind G.prog G.w) {cls:= .type "dict",data:= .dict #[]} []:=fun h=>by
  obtain⟨o,ho,hd⟩:=Heap.dictOf_iff.mp (Heap.DictOf.new (knd:=bytesKind G.prog G.w) h)
  rw [Heap.get?_push_size _ rfl] at ho
  exact x1' (motive:=fun o=>Obj.IsDictOf (bytesKind G.prog G.w) o []) ho hd
 have dnewS: ∀ (h:Heap),Obj.IsDictOf (strKind G.prog G.w) {cls:= .type "dict",data:= .dict #[]} []:=fun h=>by
  obtain⟨o,ho,hd⟩:=Heap.dictOf_iff.mp (Heap.DictOf.new (knd:=strKind G.prog G.w) h)
  rw [Heap.get?_push_size _ rfl] at ho
  exact x1' (motive:=fun o=>Obj.IsDictOf (strKind G.prog G.w) o []) ho hd
 have low:sysModules<c.h₀.objs.size:=modules_low ok.T₀.nolimit
 have lt0: ∀ p∈ ((c.L+3,o3)::(c.L+2,o2)::(c.L+1,o1)::own)++c.news,p.1<s.heap.objs.size:=fun p hp=>a0W (S.N p hp).1
 show wpAny G.M A (spliced [(false,eval (.Dict [] [] p4) c.env),(false,eval (.Dict [] [] p5) c.env),(false,eval (.Dict [] [] p6) c.env)]) _ E s
 refine a2V (wpAny_Dict_empty ?_)
 refine a2V (wpAny_Dict_empty ?_)
 refine a2V (wpAny_Dict_empty ?_)
 refine Calls.spliced_nil ⟨by rw [a1I];exact a0Z rfl,?_⟩
 have S1:=S.push {cls:= .type "dict",data:= .dict #[]}
 have S2:=S1.push {cls:= .type "dict",data:= .dict #[]}
 have S3:=S2.push {cls:= .type "dict",data:= .dict #[]}
 dsimp only at S1 S2 S3 ⊢
 have z1:(s.heap.push {cls:= .type "dict",data:= .dict #[]}).objs.size=s.heap.objs.size+1:=a1U ..
 have z2:((s.heap.push {cls:= .type "dict",data:= .dict #[]}).push {cls:= .type "dict",data:= .dict #[]}).objs.size=s.heap.objs.size+2:=by rw [a1U,z1]
 have l1:=S.F.notModules low
 have l2:=S1.F.notModules low
 have l3:=S2.F.notModules low
 dsimp only at l2 l3
 rw [z1] at l2
 rw [z2] at l3
 rw [z1,z2] at S3 ⊢
 generalize hN:s.heap.objs.size=N at*
 generalize hH:((s.heap.push {cls:= .type "dict",data:= .dict #[]}).push {cls:= .type "dict",data:= .dict #[]}).push {cls:= .type "dict",data:= .dict #[]}=H at*
 have S4:=S3.push {cls:= .type "tuple",data:= .seq [Value.ref N,Value.ref (N+1),Value.ref (N+2)].toArray}
 have hT:Heap.IsTuple (H.push {cls:= .type "tuple",data:= .seq [Value.ref N,Value.ref (N+1),Value.ref (N+2)].toArray}) H.objs.size [Value.ref N,Value.ref (N+1),Value.ref (N+2)].toArray:=⟨_,Heap.get?_push_size _ rfl,rfl,_,rfl⟩
 refine wpAny_assign_Tuple ok.free hT rfl rfl fun h' x'=> ?_
 have S5:=(S4.ext x').part (own':=(N+2,{cls:= .type "dict",data:= .dict #[]})::(N+1,{cls:= .type "dict",data:= .dict #[]})::(N,{cls:= .type "dict",data:= .dict #[]})::(c.L+3,o3)::(c.L+2,o2)::(c.L+1,o1)::own) fun p hp=>a0P _ hp
 generalize hO:({cls:= .type "dict",data:= .dict #[]}:Obj)=O at*
 show wpAny _ A (do holding _ (assign (.Name "names" pa) c.env (.ref N));do holding _ (assign (.Name "words" pb) c.env (.ref (N+1)));do holding _ (assign (.Name "thin" pe) c.env (.ref (N+2)));pure ()) _ _ _
 have ne: ∀ {p:Addr×Obj},p∈ ((c.L+3,o3)::(c.L+2,o2)::(c.L+1,o1)::own)++c.news→p.1≠N∧p.1≠N+1∧p.1≠N+2:=fun hp=>by
  have:=lt0 _ hp
  exact⟨a0S this,a0S (a1Z this),a0S (a1Z (a1Z this))⟩
 have m1:=ne (p:=(c.L+1,o1)) (.tail _ (.tail _ (.head _)))
 have m2:=ne (p:=(c.L+2,o2)) (.tail _ (.head _))
 have m3:=ne (p:=(c.L+3,o3)) (.head _)
 have e12:c.L+1≠c.L+2:=fun h=>absurd (Nat.add_left_cancel h) (by decide)
 have e13:c.L+1≠c.L+3:=fun h=>absurd (Nat.add_left_cancel h) (by decide)
 have e23:c.L+2≠c.L+3:=fun h=>absurd (Nat.add_left_cancel h) (by decide)
 have offo:=fun (p:Addr×Obj) (hp:p∈own)=>hoff p (a0H _ hp)
 have offn:=fun (p:Addr×Obj) (hp:p∈c.news)=>hoff p (a0G _ hp)
 refine a0A (a0R (a2R (A2b (pre:= [(N+2,O),(N+1,O),(N,O),(c.L+3,o3),(c.L+2,o2)]) (post:=own) ok he c4 c1 S5 h1 (fm m1.2.2.symm (fm m1.2.1.symm (fm m1.1.symm (fm e13.symm (fm e12.symm fn))))) (fun p hp=>(offo p hp).1) (fun p hp=>(offn p hp).1) fun s6 o1' S6 d1=> ?_)))
 refine a0A (a0R (a2R (A2b (pre:= [(N+2,O),(N+1,O),(N,O),(c.L+3,o3)]) (post:=(c.L+1,o1')::own) ok he c5 c2 S6 h2 (fm m2.2.2.symm (fm m2.2.1.symm (fm m2.1.symm (fm e23.symm fn)))) (fm e12 fun p hp=>(offo p hp).2.1) (fun p hp=>(offn p hp).2.1) fun s7 o2' S7 d2=> ?_)))
 refine a0A (a0R (a2R (A2b (pre:= [(N+2,O),(N+1,O),(N,O)]) (post:=(c.L+2,o2')::(c.L+1,o1')::own) ok he c6 c3 S7 h3 (fm m3.2.2.symm (fm m3.2.1.symm (fm m3.1.symm fn))) (fm e23 (fm e13 fun p hp=>(offo p hp).2.2)) (fun p hp=>(offn p hp).2.2) fun s8 o3' S8 d3=>a0I ?_)))
 refine q N (N+1) (N+2) O O O o1' o2' o3' s8 (S8.part (fm (.tail _ (.tail _ (.head _))) (fm (.tail _ (.head _)) (fm (.head _) (fm (.tail _ (.tail _ (.tail _ (.head _)))) (fm (.tail _ (.tail _ (.tail _ (.tail _ (.head _))))) (fm (.tail _ (.tail _ (.tail _ (.tail _ (.tail _ (.head _)))))) fun p hp=> .tail _ (.tail _ (.tail _ (.tail _ (.tail _ (.tail _ hp))))))))))))
  ⟨⟨o1',.tail _ (.tail _ (.head _)),d1⟩,⟨o2',.tail _ (.head _),d2⟩,⟨o3',.head _,d3⟩,a0S (a1A _),a0S (a1Z (a1A _)),a0S (a1A _),fm m3 (fm m2 (fm m1 fun p hp=>ne (.tail _ (.tail _ (.tail _ hp))))),l1,l2,l3⟩ ⟨[],dnew s.heap,trivial⟩ ⟨[],dnewS s.heap,trivial⟩ ⟨[],dnew s.heap,trivial⟩
end
noncomputable def swp (c e:Nat)(l:List Nat):List Nat:=l.map fun a=>if a=c then e else a
theorem A6q {c e:Nat}: ∀ {l:List Nat},c∉l→swp c e l=l
 | [],_=>rfl
 | a::l,h=>by
  have h1: ¬ a=c:=fun q=>h (q▸a1G ..)
  show (if a=c then e else a)::swp c e l=_
  rw [if_neg h1,A6q fun m=>h (.tail _ m)]
theorem A5P {c e:Nat}(a b:List Nat):swp c e (a++b)=swp c e a++swp c e b:=a2P ..
theorem B0g {c e:Nat}: ∀ parts:List Str,(∀ p∈parts,c∉p.cps.toList)→(Str.join ⟨#[e]⟩ parts).cps.toList=swp c e (Str.join ⟨#[c]⟩ parts).cps.toList
 | [],_=>rfl
 | [p],h=>(A6q (h p (a0L.mpr rfl))).symm
 | p::q::r,h=>by
  have ih:=B0g (e:=e) (q::r) fun a ha=>h a (.tail _ ha)
  show (p++ ⟨#[e]⟩++Str.join ⟨#[e]⟩ (q::r)).cps.toList=swp c e (p++ ⟨#[c]⟩++Str.join ⟨#[c]⟩ (q::r)).cps.toList
  simp only [Str.cps_append,Array.toList_append]
  rw [A5P,A5P,ih,A6q (h p (.head _))]
  show _=_++ (if c=c then e else c):: []++_
  rw [if_pos rfl]
theorem A2n (x:Str)(c e:Nat):(Txt.replace x ⟨#[c]⟩ ⟨#[e]⟩).cps.toList=swp c e x.cps.toList:=by
 rw [StrLaws.replace_one,B0g _ (StrLaws.split_free x c),StrLaws.join_split]
theorem A1c (x:Str)(c e:Nat):(Txt.replace x ⟨#[c]⟩ ⟨#[e]⟩).length≤x.length:=by
 have:=congrArg List.length (A2n x c e)
 unfold swp at this
 simp only [a1X,a1D] at this
 exact Nat.le_of_eq this
noncomputable def A2W (c:Nat):List Nat→List (List Nat)
 | []=> [[]]
 | a::l=>if a=c then []::A2W c l else match A2W c l with
  | []=> [[a]]
  | p::r=>(a::p)::r
theorem A9R {c:Nat}{l:List Nat}:A2W c (c::l)= []::A2W c l:=by rw [A2W,if_pos rfl]
theorem A9Q {c a:Nat}{l:List Nat}(h: ¬ a=c):A2W c (a::l)=match A2W c l with
 | []=> [[a]]
 | p::r=>(a::p)::r:=by rw [A2W,if_neg h]
theorem A8w {c:Nat}: ∀ {l:List Nat},c∉l→A2W c l= [l]
 | [],_=>rfl
 | a::l,h=>by
  have h1: ¬ a=c:=fun q=>h (q▸a1G ..)
  unfold A2W
  rw [if_neg h1,A8w fun m=>h (.tail _ m)]
theorem A8u {c:Nat}: ∀ {l:List Nat} (r:List Nat),c∉l→A2W c (l++c::r)=l::A2W c r
 | [],r,_=>A9R
 | a::l,r,h=>by
  have h1: ¬ a=c:=fun q=>h (q▸a1G ..)
  show A2W c (a::(l++c::r))=_
  rw [A9Q h1,A8u r fun m=>h (.tail _ m)]
theorem A8v {c:Nat}: ∀ parts:List Str,parts≠ []→(∀ p∈parts,c∉p.cps.toList)→A2W c (Str.join ⟨#[c]⟩ parts).cps.toList=parts.map (·.cps.toList)
 | [],h,_=>(h rfl).elim
 | [p],_,h=>A8w (h p (a0L.mpr rfl))
 | p::q::r,_,h=>by
  have ih:=A8v (q::r) (by simp) fun a ha=>h a (.tail _ ha)
  have e:(Str.join ⟨#[c]⟩ (p::q::r)).cps.toList=p.cps.toList++c::(Str.join ⟨#[c]⟩ (q::r)).cps.toList:=by
   show (p++ ⟨#[c]⟩++Str.join ⟨#[c]⟩ (q::r)).cps.toList=_
   simp [Str.cps_append]
  rw [e,A8u _ (h p (.head _)),ih];rfl
theorem A3q (x:Str)(c:Nat):Txt.split x ⟨#[c]⟩=(A2W c x.cps.toList).map fun l=>⟨l.toArray⟩:=by
 have hne:Txt.split x ⟨#[c]⟩≠ []:=by
  unfold Txt.split
  split
  ·exact List.cons_ne_nil _ _
  ·split
   ·exact List.cons_ne_nil _ _
   ·intro e
    have:=len_partsBetween x (Builtin.Str.occurrences x ⟨#[c]⟩ 0 x.length (x.length+1)) (⟨#[c]⟩:Str).length
    rw [e] at this
    cases this
 have:=A8v _ hne (StrLaws.split_free x c)
 rw [StrLaws.join_split] at this
 rw [this,List.map_map]
 exact(List.map_id _).symm
theorem A5p (c:Nat): ∀ l:List Nat,(A2W c l).length≤l.length+1
 | []=>a0K _
 | a::l=>by
  have ih:=A5p c l
  unfold A2W
  split
  ·simp only [a1T];lia
  ·split
   ·simp
   ·rename_i h;rw [h] at ih;simp only [a1T] at ih ⊢;lia
theorem A7n (c:Nat): ∀ l:List Nat,((A2W c l).map (·.length)).sum≤l.length
 | []=>a0K _
 | a::l=>by
  have ih:=A7n c l
  unfold A2W
  split
  ·simp only [a0V,a2L,List.length_nil,a1T];lia
  ·split
   ·simp
   ·rename_i h;rw [h] at ih;simp only [a0V,a2L,a1T] at ih ⊢;lia
def EvP (n:Nat)(G:Gx)(C₀:Addr)(c:Fc)(A:Around)(m:Str→Option Value)(own:List (Addr×Obj))(t:Sem Value)(r:V):Prop:=
 ∀ s Q E,St c m own s→n≤s.toks→(∀ own' v s',St c m (own'++own) s'→n≤s'.toks→Rep G C₀ (vis c (own'++own)) v r→Q v s')→wpAny G.M A t Q E s
noncomputable abbrev EvK:=EvP 1
def C0C (n:Nat)(G:Gx)(c:Fc)(A:Around)(m:Str→Option Value)(own:List (Addr×Obj))(t:Sem Bool)(b:Bool):Prop:=
 ∀ s (Q:Bool→Shared→Prop) E,St c m own s→n≤s.toks→(∀ own' s',St c m (own'++own) s'→Q b s')→wpAny G.M A t Q E s
noncomputable def strI (p:Str):V:= .s (.str p p.length)
section
variable {r r':V}
theorem Ev.K {t:Sem Value}(h:Ev G C₀ c A m own t r):EvP n G C₀ c A m own t r:=fun s Q E S h1 q=>
 wpAny_with_toks h1 (h s _ _ S fun own' v s' S' R h2=>q own' v s' S' h2 R)
theorem EvP.ev {t:Sem Value}(h:EvP 0 G C₀ c A m own t r):Ev G C₀ c A m own t r:=fun s Q E S q=>h s Q E S (a2K _) fun own' v s' S' Ω R=>q own' v s' S' R
theorem A3h {o:Expr}{y z:Str}{k q1 q2:Nat}{apos p1 p2:Pos}(hso:A0v o=true)(hp:(apos.endLine==pos.line)=true)(hyz:(y==z)=false)(hx:k≤1000000)(hz:z.length≤14)
  (ho:EvK G C₀ c A m own (eval o env) (.s (.str x k))) (hl:(Txt.replace x y z).length≤x.length):EvK G C₀ c A m own (eval (.Call (.Attribute o "replace" apos) [.Constant (.str y) q1 p1,.Constant (.str z) q2 p2] [] pos) env) (.s (.str (Txt.replace x y z) k)):=by
 intro s Q E S h1 q
 rw [arm_eval_Call,A0e hso]
 refine a0A (ho s _ E S h1 fun own' v s' S' h2 R=>a0A (a1R ?_))
 have R:=R.sI
 refine R.strE fun _ _=> ?_
 rename_i t hk
 rw [show ([(Expr.Constant (.str y) q1 p1),.Constant (.str z) q2 p2].length+ ([]:List Keyword).length)= [(Expr.Constant (.str y) q1 p1),.Constant (.str z) q2 p2].length+0 from rfl,A0j hp rfl (by simp)]
 refine a0A (a0R (GM.replace ?_))
 refine callWith_of (P:=fun _=>True) rfl (fun h _=>⟨.machine,.inr (.inl rfl),Looks.of_pure rfl⟩) (A0k rfl (a2V (Constant_str (k:=q1) (pos:=p1) (a2V (Constant_str (k:=q2) (pos:=p2) (Calls.spliced_nil ?_))))))
 refine⟨trivial,?_⟩
 have S2:=(S'.tok (s'.toks+1)).tok (s'.toks+1+1)
 refine wpAny_with_toks (n:=1) (a1Y (a2K _)) (SC.replaceW (Nat.pos_iff_ne_zero.mp h2) (Nat.succ_ne_zero _) (a0S (a1A _)) hyz (a0F (a0F hk hx) (by decide)) hz fun t' kk h3=> ?_)
 exact q own' _ _ (S2.tok _) h3 (.s (.str (a0F hl hk)))
theorem A7G: ∀ {l:List (Str×Tok)} {Z:Held},Reps G C₀ Z (strValues l) ((l.map (·.1)).map strI)
 | [],_=> .nil
 | p::l,Z=> .cons (.s (.str (a0K _))) (A7G (l:=l))
theorem A8r {o:Expr}{y:Str}{k q1:Nat}{apos p1:Pos}(ok:c.Ok G A)(hso:A0v o=true)(hp:(apos.endLine==pos.line)=true)(hy:(y.length==0)=false)(hx:k≤1000000)
  (ho:EvP n G C₀ c A m own (eval o env) (.s (.str x k))):EvP n G C₀ c A m own (eval (.Call (.Attribute o "split" apos) [.Constant (.str y) q1 p1] [] pos) env) (.list ((Txt.split x y).map strI)):=by
 intro s Q E S h1 q
 rw [arm_eval_Call,A0e hso]
 refine a0A (ho s _ E S h1 fun own' v s' S' h2 R=>a0A (a1R ?_))
 have R:=R.sI
 refine R.strE fun _ _=> ?_
 rename_i t hk
 rw [show ([(Expr.Constant (.str y) q1 p1)].length+ ([]:List Keyword).length)= [(Expr.Constant (.str y) q1 p1)].length+0 from rfl,A0j hp rfl (by simp)]
 refine a0A (a0R (GM.split ?_))
 refine callWith_of (P:=fun _=>True) rfl (fun h _=>⟨.machine,.inr (.inl rfl),Looks.of_pure rfl⟩) (A0k rfl (a2V (Constant_str (k:=q1) (pos:=p1) (Calls.spliced_nil ?_))))
 refine⟨trivial,?_⟩
 have S2:=S'.tok (s'.toks+1)
 refine wpAny_with_toks (n:=n) (Nat.le_succ_of_le h2) (splitN1 S2.F S2.N hy (fun l h' kk e F N h3=> ?_) (by rw [a1I];lia))
 rw [←e] at q
 refine q ((_,{cls:= .type "list",data:= .seq (strValues l).toArray})::own') _ _ ⟨F,N,S'.gens,S'.os,S'.dr⟩ h3 ?_
 exact .list (vs:=strValues l) (n:=0) (.inr (.head _)) A7G
theorem C0b {K β:Type}[DecidableEq K]{enc:β→Tok→Value}{knd:KeyKind G.prog G.w K}{o ke de:Expr}{apos:Pos}{dd:Addr}{ob:Obj}{kvs:List (K×Value)}{k:K}{kr dr:V}{res:SV}(ok:c.Ok G A)(hso:A0v o=true)(hp:(apos.endLine==pos.line)=true)(hs: [ke,de].all A0g=true)
  (ho:Ev G C₀ c A m own (eval o env) (.k (.ref dd))) (hk: ∀ own',Ev G C₀ c A m (own'++own) (eval ke env) kr) (hd: ∀ own',Ev G C₀ c A m (own'++own) (eval de env) dr) (hm:(dd,ob)∈own++c.news) (hdo:ob.IsDictOf knd kvs) (lo:(dd==sysModules)=false)
  (hkey: ∀ Z w,Rep G C₀ Z w kr→knd.is k w=true) (hres: ∀ Z w,Rep G C₀ Z w dr→SRep ((valueAt kvs k).getD w) res):Ev G C₀ c A m own (eval (.Call (.Attribute o "get" apos) [ke,de] [] pos) env) (.s res):=by
 intro s Q E S q
 rw [arm_eval_Call,A0e hso]
 refine a0A (ho s _ E S fun own' v s' S' R=>a0A (a1R ?_))
 refine R.kE ?_
 rw [show ([ke,de].length+ ([]:List Keyword).length)= [ke,de].length+0 from rfl,A0j hp hs (by simp)]
 have mem: ∀ (own'':List (Addr×Obj)),(dd,ob)∈ (own''++own)++c.news:=fun own''=>by
  rw [a0C];exact a0G _ hm
 refine a0A (a0R (kdg_method S'.N (mem own') hdo ?_))
 refine callWith_of (P:=fun Ω=>True) (by rw [A1D hs];rfl) (fun h Ω=>⟨.machine,.inr (.inl rfl),Looks.of_pure rfl⟩) (A0k hs ((A0s (rs:= [dr]) (a0J.mp hs _ (by simp)) (hk own') fun own2=>A0s (a0J.mp hs _ (by simp)) (by rw [←a0C];exact hd (own2++own')) fun own3=>A0N) s' _ E S' fun own'' vs s'' S'' R=>⟨trivial,?_⟩))
 refine R.consE fun Ω Ω R1 R=> ?_
 refine R.consE fun Ω Ω R2 R=> ?_
 refine R.nilE ?_
 have S3:St c m ((own''++own')++own) s'':=by rw [a0C];exact S''
 refine kdg_get2 S3.N (mem _) hdo lo (hkey _ _ R1) _ rfl ?_
 exact q (own''++own') _ _ (S3.tok _) (.s (hres _ _ R2))
theorem A7x {α:Type}{elt:Expr}{g:α→V}{h:α→SV}: ∀ (l:List α) (H: ∀ a∈l,∀ own' C oC m₂ v,(C,oC)∈own'→NsObj oC m₂→m₂ x=some v→Rep G C₀ (vis c (own'++own)) v (g a)→Ev G C₀ c A m (own'++own) (eval elt (compEnvC scope cl C env)) (.s (h a))),
  B2H G C₀ c A m own env scope cl x elt (l.map g) (l.map h)
 | [],H=>rfl
 | a::l,H=>⟨h a,l.map h,rfl,H a (.head _),A7x l fun b hb=>H b (.tail _ hb)⟩
theorem A5O {α:Type}{ct elt:Expr}{g:α→V}{h:α→SV}{t:α→Bool}(l:List α): ∀ (H: ∀ a∈l,∀ own' C oC m₂ v,(C,oC)∈own'→NsObj oC m₂→m₂ x=some v→Rep G C₀ (vis c (own'++own)) v (g a)→EvT G c A m (own'++own) (isTrue ct (compEnvC scope cl C env) (eval ct (compEnvC scope cl C env))) (t a))
  (H2: ∀ a∈l,t a=true→ ∀ own' C oC m₂ v,(C,oC)∈own'→NsObj oC m₂→m₂ x=some v→Rep G C₀ (vis c (own'++own)) v (g a)→Ev G C₀ c A m (own'++own) (eval elt (compEnvC scope cl C env)) (.s (h a))),
  A6o G C₀ c A m own env scope cl x ct elt (l.map g) ((l.filter t).map h):=by
 induction l with
 | nil=>exact fun Ω Ω=>rfl
 | cons a l ih=>
  intro H H2
  have ih:=ih (fun b hb=>H b (.tail _ hb)) fun b hb=>H2 b (.tail _ hb)
  refine⟨t a,h a,(l.filter t).map h,H a (.head _),fun e=>⟨?_,H2 a (.head _) e⟩,fun e=> ?_,ih⟩
  ·rw [List.filter_cons_of_pos e];rfl
  ·rw [List.filter_cons_of_neg (by rw [e];decide)]
theorem A4g {elt iter ct:Expr}{px:Pos}{ys:List SV}{tup:Bool}(ok:c.Ok G A)(hsc:CompScopeC scope x env cl)(hset:A1P iter=true)(hlen:rs.length≤1000)
  (hi:Ev G C₀ c A m own (eval iter env) (if tup then .tup rs else .list rs)) (T: ∀ own',A6o G C₀ c A m (own'++own) env scope cl x ct elt rs ys):
  Ev G C₀ c A m own (eval (.ListComp elt [⟨.Name x px,iter,[ct],0⟩] scope pos) env) (.list (ys.map .s)):=by
 intro s Q E S q
 rw [eval_ListComp]
 refine wpAny_comprehension_free (use:=none) rfl (A0y hset) hsc.clos hsc.kind hsc.names (hi s _ E S fun own' v s₁ S₁ R=>B0j ok S₁ hlen R fun I g vs fp Sx Sp W Rs=> ?_)
 have hlen':vs.toArray.size=rs.length:=by simp [Rs.length]
 have fin: ∀ all,SReps all ys→FinE c.h₀ c.L m {s₁ with heap:=g} Q all ((own'++own)++c.news):=by
  intro all hall D h tk F N off
  refine q ((D,lst all)::own') _ _ ⟨F,N,S₁.gens,S₁.os,S₁.dr⟩ ?_
  exact .list (vs:=all) (n:=all.length) (.inr (.head _)) hall.reps
 refine block_T (S:=Sp) (Fin:=FinE c.h₀ c.L m {s₁ with heap:=g} Q) W.W W.sz W.io W.st hsc.nocell hsc.kind hsc.var W.s0 W.fps W.sts.F W.sts.N W.ne W.new W.off W.inS ?_ ?_
 ·rw [hlen']
  exact A6m (its:=vs.toArray) (S:=Sp) (Fin:=FinE c.h₀ c.L m {s₁ with heap:=g} Q) (s₂:= {s₁ with heap:=g}) ok W.inS ⟨S₁.gens,S₁.os,S₁.dr⟩ rs 0 vs [] [] ys (T own') .nil Rs (fun j=>by simp) (fun all ha=>fin all (by simpa using ha))
 ·intro D C h tk m' ys' news' F' N' o1 hn hC₀ hD₀ hCL hDL hCD offC fn
  refine⟨m',hn,fun h'' hs''=>fn D h'' tk (F'.change hs'' hCL hC₀) (fun p hp=> ?_) o1⟩
  refine⟨hs''.extBut _ _ ?_ (N' p hp).1,(N' p hp).2⟩
  rcases a0T.mp hp with rfl| hp
  ·exact a0X hCD
  ·exact offC p hp
end
def B0a (G:Gx)(A:Around)(op:CmpOp)(a b:SV)(x:Bool):Prop:= ∀ (s:Shared) (Q:Value→Shared→Prop) (E:Value→Shared→Prop) (va vb:Value),SRep va a→SRep vb b→Q (.bool x) s→wpAny G.M A (compareOp op va vb) Q E s
section
variable {r r':V}
theorem B8r {op:CmpOp}{a b:SV}{x:Bool}(e:A5J op a b=some x):B0a G A op a b x:=fun s Q E va vb ha hb q=>A2L ha hb e q
theorem B4X {x y:List UInt8}{k:Nat}:B0a G A .NotEq (.bytes x n) (.bytes y k) (x.reverse !=y.reverse):=fun s Q E va vb ha hb q=>by
 refine ha.bytesE fun _ _ _ _=> ?_;refine hb.bytesE fun _ _ _ _=> ?_
 rename_i h1 _ _ _ h2 _
 exact PySem.W.ne_bytes (by rw [h1,h2];exact q)
theorem B4Y {x y:List UInt8}{k:Nat}:B0a G A .Eq (.bytes x n) (.bytes y k) (x.reverse==y.reverse):=fun s Q E va vb ha hb q=>by
 refine ha.bytesE fun _ _ _ _=> ?_;refine hb.bytesE fun _ _ _ _=> ?_
 rename_i h1 _ _ _ h2 _
 exact PySem.W.eq_bytes (by rw [h1,h2];exact q)
noncomputable def B9I:SV→Option Int
 | .int i=>some i
 | .bint i _ _=>some i
 | _=>none
theorem B0K {a:SV}{i:Int}(h:SRep v a)(e:B9I a=some i): ∃ t,v= .int i t:=by
 cases h<;>first| (cases e;exact⟨_,rfl⟩)| exact x0 e
theorem A9U {a b:SV}{i j:Int}(h1:B9I a=some i)(h2:B9I b=some j):B0a G A .NotEq a b (i !=j):=fun s Q E va vb ha hb q=>by
 obtain⟨t,rfl⟩:=B0K ha h1
 obtain⟨u,rfl⟩:=B0K hb h2
 exact PyProof.Rows.ne_int q
theorem B4W {a b:Bool}:B0a G A .NotEq (.bool a) (.bool b) (a !=b):=fun s Q E va vb ha hb q=>by
 refine ha.boolE ?_;refine hb.boolE ?_
 exact PyProof.Rows.ne_bool q
theorem A1X {op:CmpOp}{l e:Expr}{a b:SV}{x:Bool}{whole:Sem Value}(hm:A0Y op e=true)(hl:Ev G C₀ c A m own (eval l env) (.s a))(hr: ∀ own',Ev G C₀ c A m (own'++own) (eval e env) (.s b))(hx:B0a G A op a b x):
  EvT G c A m own (isTrue (.Compare l [op] [e] pos) env whole) x:=by
 intro s Q E S q
 refine wpAny_isTrue_Compare1 (hl s _ E S fun own' va s' S' R=>hr own' s' _ E S' fun own'' vb s'' S'' R'=> ?_) (xn hm)
 refine R.sE fun _=> ?_;refine R'.sE fun _=> ?_
 rename_i ha hb
 exact hx _ _ _ _ _ ha hb (a2C (q (own''++own') _ S''.asc))
theorem A2X: ∀ {ss:List Str},(∀ x∈ss,x.cps.all (· <0x110000)=true)→PyData.canLayAll0 (ss.map PyData.str)=true
 | [],_=>rfl
 | x::r,h=>by
  have:=A2X (ss:=r) fun y hy=>h y (.tail _ hy)
  have hx:PyData.strOk x=true:=h x (.head _)
  simp [PyData.canLayAll0,PyData.canLay0,this,hx]
theorem A3I: ∀ ss:List Str,PyData.depthAll (ss.map PyData.str)=0
 | []=>rfl
 | _::r=>by simp [PyData.depthAll,PyData.depth,A3I r]
theorem A1a {ss:List Str}(h: ∀ x∈ss,x.cps.all (· <0x110000)=true):SeqAt.shaped (.list (ss.map PyData.str))=true:=by
 simp [SeqAt.shaped,PyData.canLay0,PyData.depth,A2X h,A3I]
theorem A1N: ∀ xs ys:List Str,PySem.Spec.sameAll (xs.map PyData.str) (ys.map PyData.str)=decide (xs=ys)
 | [],[]=>by simp [PySem.Spec.sameAll]
 | [],_::_=>by simp [PySem.Spec.sameAll]
 | _::_,[]=>by simp [PySem.Spec.sameAll]
 | a::r,b::t=>by
  simp only [a0V,PySem.Spec.sameAll,PySem.Spec.same,A1N r t]
  by_cases h:a=b<;>by_cases h':r=t<;>simp [h,h']
theorem A0P: ∀ {vs:List Value} {ss:List Str},StrsAre vs ss→CarriedAll vs (ss.map PyData.str)
 | _,_,.nil=> .nil
 | _,_,.cons x t r=> .cons (.str _ t) (A0P r)
theorem A2e {ss:List Str}: ∀ {vs:List Value},Reps G C₀ Z vs (ss.map strI)→StrsAre vs ss:=by
 induction ss with
 | nil=>exact fun h=>by rw [h.nilI];exact .nil
 | cons x ss ih=>exact fun h=>h.consE fun Ω Ω h1 h2=>h1.sI.strE fun Ω Ω=> .cons _ _ (ih h2)
theorem A7y: ∀ {vs:List Value} {ss:List Str},StrsAre vs ss→Reps G C₀ Z vs (ss.map strI)
 | _,_,.nil=> .nil
 | _,_,.cons x t r=> .cons (.s (.str (a0K _))) (A7y r)
theorem B7p {l e:Expr}{xs ys:List Str}{whole:Sem Value}{op:CmpOp}(hop:op= .Eq∨op= .NotEq)(ok:c.Ok G A)(room:Room A 130)(hm:A0Y op e=true)(hl:EvP n G C₀ c A m own (eval l env) (.list (xs.map strI)))(hr: ∀ own',Ev G C₀ c A m (own'++own) (eval e env) (.list (ys.map strI)))
  (hx: ∀ x∈xs,x.cps.all (· <0x110000)=true) (hy: ∀ x∈ys,x.cps.all (· <0x110000)=true):C0C n G c A m own (isTrue (.Compare l [op] [e] pos) env whole) (match op with| .Eq=>decide (xs=ys)| _=> !decide (xs=ys)):=by
 intro s Q E S h1 q
 refine wpAny_isTrue_Compare1 (hl s _ E S h1 fun own' va s' S' h2 R=>hr own' s' _ E S' fun own'' vb s'' S'' R'=> ?_) (xn hm)
 have S3:St c m ((own''++own')++own) s'':=by rw [a0C];exact S''
 have R1:=R.mono (A0a (own':=own''))
 refine R1.listE fun Ω Ω Ω z1 R1=> ?_
 refine R'.listE fun Ω Ω Ω z2 R2=> ?_
 have l1:s''.heap.IsList _ _:=⟨_,S''.get ok z1,rfl,_,rfl⟩
 have l2:s''.heap.IsList _ _:=⟨_,S''.get ok z2,rfl,_,rfl⟩
 have hu:A.units+64<cLine:=by have:=room.2;omega
 have hmix:=SeqAt.noMix_of_shape (.list .str) rfl (.list (xs.map PyData.str)) (.list (ys.map PyData.str)) (list_map_has fun Ω=>rfl) (list_map_has fun Ω=>rfl)
 rcases hop with rfl| rfl
 ·refine eq_dataH_same (reads_newData l1 (A0P (A2e R1))) (reads_newData l2 (A0P (A2e R2))) (A1a hx) (A1a hy) hu hmix ?_
  rw [show PySem.Spec.same (.list (xs.map PyData.str)) (.list (ys.map PyData.str))=decide (xs=ys) from A1N xs ys]
  exact a2C (q (own''++own') _ S3)
 ·refine ne_dataH_same (reads_newData l1 (A0P (A2e R1))) (reads_newData l2 (A0P (A2e R2))) (A1a hx) (A1a hy) hu hmix ?_
  rw [show PySem.Spec.same (.list (xs.map PyData.str)) (.list (ys.map PyData.str))=decide (xs=ys) from A1N xs ys]
  exact a2C (q (own''++own') _ S3)
theorem B3p: ∀ {x:Str} {acc:Array Value},ItemsOf (SignAt x) acc x.cps.size→StrsAre acc.toList (signs x):=fun {x acc} h=>
 StrsAre.ofCarried (carriedAll_of_get _ _ (by simp [h.1,signs]) fun j v hv=>by
  obtain⟨c,u,hc,rfl⟩:=h.2 j v (by simpa using hv)
  exact⟨.str ⟨#[c]⟩,by simp [signs,hc],.str _ _⟩)
theorem B1z {w:World}{h₀:Heap}{L:Addr}{news:List (Addr×Obj)}{t:Tok}(hh:A.handled=none)(F:Fr h₀ L s.heap m)(N:News h₀ L s.heap news)(h64:x.cps.size<64)
  (h: ∀ D ob s' vs' ss',Fr h₀ L s'.heap m→News h₀ L s'.heap ((D,ob)::news)→s'.gens=s.gens→s'.os=s.os→s'.drawn=s.drawn→(∃ n,ob=⟨.type "list",none,.seq (List.toArray vs') n,#[]⟩)→StrsAre vs' ss'→ss'.Perm (signs x)→sortedS ss'=true→Q (.ref D) s'):
  wpAny (model prog w) A (call (.builtin "sorted") [.str x t]) Q E s:=by
 refine Calls.call_function_entry kind_sorted plain_sorted entry_sorted (args_sorted1 _) ?_
 unfold Builtin.«sorted»
 refine a0A (m:=checkCount "sorted" 1 1 _) (a0I ?_)
 refine a0A (wpAny_collect_str (A:=A.in1) hh x t (fun s' acc k1 e1 e2 e3 I=> ?_) (by rw [a1I];lia))
 have hS:=B3p I
 have hlen:acc.toList.length<64:=by rw [a1X,I.1];exact h64
 generalize acc.toList=vs at hS hlen ⊢
 refine a0A (wpAny_newList ?_ (by rw [a1I];lia))
 have F':Fr h₀ L s'.heap m:=F.keeps k1
 have N':News h₀ L s'.heap news:=fun p hp=>⟨k1 _ _ (N p hp).1,(N p hp).2⟩
 generalize hN:s'.heap.objs.size=n
 have hoL:(s'.heap.push (seqObj "list" vs.toArray 0)).get? n=some (seqObj "list" vs.toArray 0):=by rw [←hN];exact Heap.get?_push_size _ rfl
 refine a0A (a0R (a2Y slot_list_sort ⟨_,hoL,rfl⟩ entry_list_sort (list_sort_treeK strKind_oneLt hoL hS.keysOf (fun v₁ v₂ rest e=>keyKind_strs (by rw [←e];exact hS)) hlen fun st' hp hs=>⟨_,rfl,?_⟩) (args_list_sort _)))
 obtain⟨ss',a1,a2,a3⟩:=sorted_out_str hS hp hs
 refine a0I ⟨_,rfl,?_⟩
 obtain⟨e,he⟩:=sortedHeap_at (out:=(arrOf st').map (·.2)) hoL
 have old: ∀ b o,s'.heap.get? b=some o→(sortedHeap (s'.heap.push (seqObj "list" vs.toArray 0)) n vs ((arrOf st').map (·.2))).get? b=some o:=fun b o q=>by
  have hlt:=a0W q
  rw [hN] at hlt
  rw [sortedHeap_old (a0S hlt) (by rw [size_push',hN];exact a1Z hlt),Heap.get?_push_ne _ _ _ (by rw [hN];exact a0S hlt)]
  exact q
 refine h n _ _ _ ss' (F'.kept old) (N'.kept_cons F' old (Nat.le_of_eq hN) he) e1 e3 e2 ⟨e,?_⟩ a1 a2 a3
 rw [Array.toArray_toList]
theorem B2p {k:Nat}{ss:List Str}(hh:A.handled=none)(h64:x.cps.size<64)(hu: ∀ ss':List Str,ss'.Perm (signs x)→sortedS ss'=true→ss'=ss)(R:SRep v (.str x k)):EvR G C₀ c A m own False (call (.builtin "sorted") [v]) (fun Z w=>Rep G C₀ Z w (.list (ss.map strI))):=by
 intro s Q E S q e
 refine R.strE fun Ω Ω=> ?_
 refine B1z hh S.F S.N h64 fun D ob s' vs' ss' F N e1 e2 e3 ho a1 a2 a3=> ?_
 obtain⟨n,rfl⟩:=ho
 have:=hu ss' a2 a3
 subst this
 exact q [(D,_)] (.ref D) s' ⟨F,N,e1.trans S.gens,e2.trans S.os,e3.trans S.dr⟩ (.list (vs:=vs') (n:=n) (.inr (.head _)) (A7y a1))
end
noncomputable def sw8 (q:Nat→Pos):Stmt:=(.If (.BoolOp .Or [(.Compare (.Call (.Attribute (.Name "leaf" (q 0)) "compile" (q 1)) [] [] (q 2)) [.NotEq] [(.Call (.Attribute (.Constant (.bytes []) 0 (q 3)) "join" (q 4)) [(.ListComp (.Call (.Attribute (.Name "thin" (q 5)) "get" (q 6)) [(.Name "item" (q 7)),(.Name "item" (q 8))] [] (q 9)) [⟨(.Name "item" (q 10)),(.Name "items" (q 11)),[],0⟩] ⟨.function,[(".0",.local),("item",.local),("thin",.free)],false,false,[]⟩ (q 12))] [] (q 13))] (q 14)),(.Compare (.Call (.Attribute (.Name "other" (q 15)) "compile" (q 16)) [] [] (q 17)) [.NotEq] [(.Call (.Attribute (.Constant (.bytes []) 0 (q 18)) "join" (q 19)) [(.ListComp (.Call (.Attribute (.Name "names" (q 20)) "get" (q 21)) [(.Name "item" (q 22)),(.Name "item" (q 23))] [] (q 24)) [⟨(.Name "item" (q 25)),(.Name "items" (q 26)),[],0⟩] ⟨.function,[(".0",.local),("item",.local),("names",.free)],false,false,[]⟩ (q 27))] [] (q 28))] (q 29))] (q 30)) [(.Return (some (.Constant (.bool false) 0 (q 31))) (q 32))] [] (q 33))
noncomputable def A8K:List (Nat×Nat×Nat×Nat):=onL 1431 [7,11,7,19,7,21,25,28,25,33,35,39,35,43,44,48,50,54,35,55,60,64,68,73,34,74,25,75,7,75,79,84,79,92,79,94,98,101,98,106,108,113,108,117,118,122,124,128,108,129,134,138,142,147,107,148,98,149,79,149,7,149]++onL 1432 [15,20,8,20]++ [(1431,4,1432,20)]
theorem C1g (P:Params):lw P 8=sw8 (A0h A8K):=by kernel_rfl
noncomputable def sw9 (q:Nat→Pos):Stmt:=(.Assign [(.Name "count" (q 0))] (.Call (.Name "len" (q 1)) [(.ListComp (.Name "item" (q 2)) [⟨(.Name "item" (q 3)),(.Name "items" (q 4)),[(.Compare (.Subscript (.Name "item" (q 5)) (.Slice none (some (.Constant (.int 1) 0 (q 6))) none (q 7)) (q 8)) [.Eq] [(.Constant (.bytes [33]) 0 (q 9))] (q 10))],0⟩] ⟨.function,[(".0",.local),("item",.local)],false,false,[]⟩ (q 11))] [] (q 12)) (q 13))
noncomputable def C0F:List (Nat×Nat×Nat×Nat):=onL 1433 [4,9,12,15,17,21,26,30,34,39,43,47,49,50,48,50,43,51,55,59,43,59,16,60,12,61,4,61]
theorem C1f (P:Params):lw P 9=sw9 (A0h C0F):=by kernel_rfl
noncomputable def C6f (q:Nat→Pos):Stmt:=(.If (.BoolOp .Or [(.Compare (.Call (.Name "len" (q 0)) [(.Name "plain" (q 1))] [] (q 2)) [.NotEq] [(.Call (.Name "len" (q 3)) [(.Call (.Attribute (.Constant (.bytes []) 0 (q 4)) "join" (q 5)) [(.Name "items" (q 6))] [] (q 7))] [] (q 8))] (q 9)),(.Compare (.Call (.Name "len" (q 10)) [(.Name "leaf" (q 11))] [] (q 12)) [.NotEq] [(.BinOp (.Call (.Name "len" (q 13)) [(.Name "plain" (q 14))] [] (q 15)) .Sub (.Name "count" (q 16)) (q 17))] (q 18)),(.Compare (.Call (.Name "len" (q 19)) [(.Name "other" (q 20))] [] (q 21)) [.NotEq] [(.Call (.Name "len" (q 22)) [(.Name "plain" (q 23))] [] (q 24))] (q 25))] (q 26)) [(.Return (some (.Constant (.bool false) 0 (q 27))) (q 28))] [] (q 29))
noncomputable def A1U:List (Nat×Nat×Nat×Nat):=onL 1434 [7,10,11,16,7,17,21,24,25,28,25,33,34,39,25,40,21,41,7,41,45,48,49,53,45,54,58,61,62,67,58,68,71,76,58,76,45,76,80,83,84,89,80,90,94,97,98,103,94,104,80,104,7,104]++onL 1435 [15,20,8,20]++ [(1434,4,1435,20)]
theorem B8N (P:Params):lw P 10=C6f (A0h A1U):=by kernel_rfl
noncomputable def C6e (q:Nat→Pos):Stmt:=(.Assign [(.Name "parts" (q 0))] (.Call (.Attribute (.Call (.Attribute (.Call (.Attribute (.Call (.Attribute (.Name "text" (q 1)) "replace" (q 2)) [(.Constant (.str "(") 0 (q 3)),(.Constant (.str " ") 0 (q 4))] [] (q 5)) "replace" (q 6)) [(.Constant (.str ")") 0 (q 7)),(.Constant (.str " ") 0 (q 8))] [] (q 9)) "replace" (q 10)) [(.Constant (.str ",") 0 (q 11)),(.Constant (.str " ") 0 (q 12))] [] (q 13)) "split" (q 14)) [(.Constant (.str " ") 0 (q 15))] [] (q 16)) (q 17))
noncomputable def A5x:List (Nat×Nat×Nat×Nat):=onL 1436 [4,9,12,16,12,24,25,28,30,33,12,34,12,42,43,46,48,51,12,52,12,60,61,64,66,69,12,70,12,76,77,80,12,81,4,81]
theorem B8M (P:Params):lw P 11=C6e (A0h A5x):=by kernel_rfl
noncomputable def C6d (q:Nat→Pos):Stmt:=(.If (.BoolOp .Or [(.Compare (.Call (.Name "str" (q 0)) [(.Name "leaf" (q 1))] [] (q 2)) [.NotEq] [(.Name "text" (q 3))] (q 4)),(.Compare (.Call (.Attribute (.Call (.Attribute (.Call (.Attribute (.Call (.Attribute (.Call (.Name "str" (q 5)) [(.Name "other" (q 6))] [] (q 7)) "replace" (q 8)) [(.Constant (.str "(") 0 (q 9)),(.Constant (.str " ") 0 (q 10))] [] (q 11)) "replace" (q 12)) [(.Constant (.str ")") 0 (q 13)),(.Constant (.str " ") 0 (q 14))] [] (q 15)) "replace" (q 16)) [(.Constant (.str ",") 0 (q 17)),(.Constant (.str " ") 0 (q 18))] [] (q 19)) "split" (q 20)) [(.Constant (.str " ") 0 (q 21))] [] (q 22)) [.NotEq] [(.ListComp (.Call (.Attribute (.Name "words" (q 23)) "get" (q 24)) [(.Name "part" (q 25)),(.Name "part" (q 26))] [] (q 27)) [⟨(.Name "part" (q 28)),(.Name "parts" (q 29)),[],0⟩] ⟨.function,[(".0",.local),("part",.local),("words",.free)],false,false,[]⟩ (q 30))] (q 31))] (q 32)) [(.Return (some (.Constant (.bool false) 0 (q 33))) (q 34))] [] (q 35))
noncomputable def A2a:List (Nat×Nat×Nat×Nat):=onL 1437 [7,10,11,15,7,16,20,24,7,24,28,31,32,37,28,38,28,46,47,50,52,55,28,56,28,64,65,68,70,73,28,74,28,82,83,86,88,91,28,92,28,98,99,102,28,103,108,113,108,117,118,122,124,128,108,129,134,138,142,147,107,148,28,148,7,148]++onL 1438 [15,20,8,20]++ [(1437,4,1438,20)]
theorem B8L (P:Params):lw P 12=C6d (A0h A2a):=by kernel_rfl
noncomputable def C6c (q:Nat→Pos):Stmt:=(.If (.BoolOp .Or [(.Compare (.Attribute (.Name "plain" (q 0)) "type" (q 1)) [.NotEq] [(.Attribute (.Name "other" (q 2)) "type" (q 3))] (q 4)),(.Compare (.Attribute (.Name "plain" (q 5)) "properties" (q 6)) [.NotEq] [(.Attribute (.Name "other" (q 7)) "properties" (q 8))] (q 9)),(.Compare (.Call (.Name "_law_let" (q 10)) [(.Name "plain" (q 11))] [] (q 12)) [.NotEq] [(.Call (.Name "_law_let" (q 13)) [(.Name "other" (q 14))] [] (q 15))] (q 16)),(.Compare (.Attribute (.Name "plain" (q 17)) "type" (q 18)) [.NotEq] [(.Attribute (.Name "leaf" (q 19)) "type" (q 20))] (q 21))] (q 22)) [(.Return (some (.Constant (.bool false) 0 (q 23))) (q 24))] [] (q 25))
noncomputable def A2z:List (Nat×Nat×Nat×Nat):=onL 1439 [7,12,7,17,21,26,21,31,7,31,35,40,35,51,55,60,55,71,35,71,75,83,84,89,75,90,94,102,103,108,94,109,75,109,114,119,114,124,128,132,128,137,114,137,7,138]++onL 1440 [15,20,8,20]++ [(1439,4,1440,20)]
theorem B8K (P:Params):lw P 13=C6c (A0h A2z):=by kernel_rfl
noncomputable def C6b (q:Nat→Pos):Stmt:=(.If (.Compare (.Constant (.str "d") 0 (q 0)) [.NotIn] [(.Call (.Attribute (.Constant (.str "") 0 (q 1)) "join" (q 2)) [(.ListComp (.Subscript (.Call (.Attribute (.Name "part" (q 3)) "split" (q 4)) [(.Constant (.str ":") 0 (q 5))] [] (q 6)) (.Constant (.int 0) 0 (q 7)) (q 8)) [⟨(.Name "part" (q 9)),(.Name "parts" (q 10)),[(.Compare (.Constant (.str ":") 0 (q 11)) [.In] [(.Name "part" (q 12))] (q 13))],0⟩] ⟨.function,[(".0",.local),("part",.local)],false,false,[]⟩ (q 14))] [] (q 15))] (q 16)) [(.If (.BoolOp .Or [(.Compare (.Attribute (.Name "plain" (q 17)) "properties" (q 18)) [.NotEq] [(.Attribute (.Name "leaf" (q 19)) "properties" (q 20))] (q 21)),(.Compare (.Call (.Name "_law_let" (q 22)) [(.Name "plain" (q 23))] [] (q 24)) [.NotEq] [(.Call (.Name "_law_let" (q 25)) [(.Name "leaf" (q 26))] [] (q 27))] (q 28))] (q 29)) [(.Return (some (.Constant (.bool false) 0 (q 30))) (q 31))] [] (q 32))] [] (q 33))
noncomputable def A4G:List (Nat×Nat×Nat×Nat):=onL 1441 [7,10,18,20,18,25,27,31,27,37,38,41,27,42,43,44,27,45,50,54,58,63,67,70,74,78,67,78,26,79,18,80,7,80]++onL 1442 [11,16,11,27,31,35,31,46,11,46,50,58,59,64,50,65,69,77,78,82,69,83,50,83,11,83]++onL 1443 [19,24,12,24]++ [(1442,8,1443,24)]++ [(1441,4,1443,24)]
theorem B8J (P:Params):lw P 14=C6b (A0h A4G):=by kernel_rfl
noncomputable def C6a (q:Nat→Pos):Stmt:=(.Return (some (.BoolOp .And [(.Compare (.Call (.Name "sorted" (q 0)) [(.Attribute (.Name "one" (q 1)) "properties" (q 2))] [] (q 3)) [.Eq] [(.List [(.Constant (.str "d") 0 (q 4)),(.Constant (.str "n") 0 (q 5)),(.Constant (.str "o") 0 (q 6))] (q 7))] (q 8)),(.Compare (.Call (.Name "sorted" (q 9)) [(.Attribute (.Name "two" (q 10)) "properties" (q 11))] [] (q 12)) [.Eq] [(.List [(.Constant (.str "d") 0 (q 13)),(.Constant (.str "n") 0 (q 14)),(.Constant (.str "o") 0 (q 15)),(.Constant (.str "u") 0 (q 16))] (q 17))] (q 18)),(.Compare (.Call (.Attribute (.Name "plain" (q 19)) "compile" (q 20)) [] [] (q 21)) [.Eq] [(.Call (.Attribute (.Constant (.bytes []) 0 (q 22)) "join" (q 23)) [(.Name "items" (q 24))] [] (q 25))] (q 26))] (q 27))) (q 28))
noncomputable def A1Z:List (Nat×Nat×Nat×Nat):=onL 1445 [11,17,18,21,18,32,11,33,38,41,43,46,48,51,37,52,11,52,57,63,64,67,64,78,57,79,84,87,89,92,94,97,99,102,83,103,57,103,109,114,109,122,109,124,128,131,128,136,137,142,128,143,109,143,11,144,4,144]
theorem B8I (P:Params):lw P 16=C6a (A0h A1Z):=by kernel_rfl
noncomputable def ρA (x y z:ND)(tx:Str)(I:List (List UInt8)):Loc:= [("leaf",.abs (A0d 4 y)),("other",.abs (A0d 4 z)),("text",.s (.str tx (Bd 4))),("items",.list (itV I)),("plain",.abs (A0d 4 x))]
noncomputable def ρB (x y z:ND)(tx:Str)(I:List (List UInt8))(k:Int):Loc:=("count",.s (.int k))::ρA x y z tx I
noncomputable def ρC (x y z:ND)(tx:Str)(I:List (List UInt8))(k:Int)(ps:List Str):Loc:=("parts",.list (ps.map strI))::ρB x y z tx I k
noncomputable def A0Q {K:Type}[DecidableEq K](T:List (K×K))(k:K):K:=match T.find? (fun q=>q.1=k) with
 | some q=>q.2
 | none=>k
structure CellD (c:Fc)(own:List (Addr×Obj))(ci dd:Addr)(ob:Obj):Prop where
 cell: ∃ oc,(ci,oc)∈own∧oc.data= .cell (some (.ref dd))
 dict:(dd,ob)∈own
 lo:(dd==sysModules)=false
theorem CellD.more {own':List (Addr×Obj)}{ci dd:Addr}{ob:Obj}(h:CellD c own ci dd ob):CellD c (own'++own) ci dd ob:=
 let ⟨⟨oc,a,b⟩,e,f⟩:=h; ⟨⟨oc,a0G _ a,b⟩,a0G _ e,f⟩
section
variable {r r':V}
theorem A6i {K β α:Type}[DecidableEq K]{enc:β→Tok→Value}{knd:KeyKind G.prog G.w K}{kvs:List (K×Value)}{X y:Str}{iter:Expr}{p5 p6 p7 p8 p9 p10 p12:Pos}{ci dd:Addr}{ob:Obj}{l:List α}{g:α→V}{key:α→K}{h:α→SV}(ok:c.Ok G A)
  (hsc:CompScopeC scope y c.env [(X,ci)]) (hXf:scope.names.lookup X=some .free) (hXc:c.env.kindOf X=some .cell) (hXd:(X==("__debug__" :Str))=false) (hyd:(y==("__debug__" :Str))=false) (cd:CellD c own ci dd ob) (hdo:ob.IsDictOf knd kvs) (hp:(p6.endLine==p9.line)=true)
  (hset:A1P iter=true) (hlen:l.length≤1000) (hi:Ev G C₀ c A m own (eval iter c.env) (.list (l.map g))) (hkey: ∀ a∈l,∀ Z w,Rep G C₀ Z w (g a)→knd.is (key a) w=true) (hres: ∀ a∈l,∀ Z w,Rep G C₀ Z w (g a)→SRep ((valueAt kvs (key a)).getD w) (h a)):
  Ev G C₀ c A m own (eval (.ListComp (.Call (.Attribute (.Name X p5) "get" p6) [.Name y p7,.Name y p8] [] p9) [⟨.Name y p10,iter,[],0⟩] scope p12) c.env) (.list ((l.map h).map .s)):=by
 obtain⟨⟨oc,hm,hcd⟩,hdm,lo⟩:=cd
 refine A5j (tup:=false) ok hsc hset (by rw [a1D];exact hlen) hi fun own'=>A7x l fun a ha own2 C oC m₂ v hmC hN hv R=> ?_
 have mem: ∀ {p:Addr×Obj},p∈own→ ∀ own3:List (Addr×Obj),p∈ (own3++ (own2++ (own'++own)))++c.news:=fun hp own3=>a0H _ (a0G _ (a0G _ (a0G _ hp)))
 have var: ∀ p own3,Ev G C₀ c A m (own3++ (own2++ (own'++own))) (eval (.Name y p) (compEnvC scope [(X,ci)] C c.env)) (g a):=fun p own3=>
  A0S (oC:=oC) ok hsc.kind hsc.var (fun s S=>S.cmp hmC) hN hv (R.mono A0a) hyd
 exact C0b (enc:=enc) ok rfl hp rfl (A3e ok hsc.kind ok.kind hXf hXc (by simp) (mem hm []) hcd .k hXd) (var p7) (var p8) (mem hdm []) hdo lo (fun Z w=>hkey a ha Z w) (fun Z w=>hres a ha Z w)
theorem B2y (f:List UInt8→List UInt8)(l:List (List UInt8)):A5t (l.map fun it=>V.s (.bytes (f it).reverse 77))=some (((l.map f).flatten).reverse,77*l.length):=by
 induction l with
 | nil=>rfl
 | cons a l ih=>
  rw [a0V]
  show (A5t _).map _=_
  rw [ih]
  simp only [Option.map_some,a0V,List.flatten_cons,a2I,a1T]
  rw [Nat.mul_succ,Nat.add_comm]
theorem B2Z (l:List Str):A8S (l.map strI)=some (l,(l.map (·.length)).sum):=by
 induction l with
 | nil=>rfl
 | cons a l ih=>
  rw [a0V]
  show (A8S _).map _=_
  rw [ih]
  rfl
theorem B0D {K:Type}[DecidableEq K]{enc:K→Tok→Value}{kvs:List (K×Value)}{T:List (K×K)}{w:Value}{k:K}(h:Tab enc kvs T)(hw: ∃ t,w=enc k t): ∃ t,(valueAt kvs k).getD w=enc (A0Q T k) t:=by
 have:=h.look (k:=k)
 unfold A0Q
 split at this
 ·rename_i q e
  obtain⟨t,ht⟩:=this
  rw [e,ht];exact⟨t,rfl⟩
 ·rename_i e
  rw [e,this];exact hw
theorem C2H {β:Type}{c:Bool}{x:Option β}(h:c=true):gd c x=x:=by rw [h];rfl
theorem A4z {rr:Evs}{lx:Expr}{q:Nat}{p1 p2 p3:Pos}{l:List (List UInt8)}{f:List UInt8→List UInt8}(X:Snd G C₀ rr)(ok:c.Ok G A)(room:Room A 130)(hp:(p2.endLine==p3.line)=true)(hs:A0g lx=true)(hl:l.length≤1000)
  (ha: ∀ own',Ev G C₀ c A m (own'++own) (eval lx env) (.list (l.map fun it=>V.s (.bytes (f it).reverse 77)))):
  Ev G C₀ c A m own (eval (.Call (.Attribute (.Constant (.bytes []) q p1) "join" p2) [lx] [] p3) env) (.s (.bytes ((l.map f).flatten).reverse (77*l.length))):=by
 refine A2Z (b:=130) (rs:= [.list (l.map fun it=>V.s (.bytes (f it).reverse 77))]) X ?_ ok room rfl hp (by simp [hs]) (by simp) rfl A7e fun own'=>A0s hs (ha own') fun Ω=>A0N
 show gd (("join" :Str)== "join") ((A5t _).bind fun p=>gd (decide (p.2≤16777216)&&decide (_≤1000)) (some (V.s (.bytes p.1 p.2))))=_
 rw [C2H (by decide),B2y f l]
 exact C2H (by simp only [a1B,decide_eq_true_eq,a1D];lia)
end
noncomputable abbrev cSc (y X:Str):Scope:=⟨.function,[(".0",.local),(y,.local),(X,.free)],false,false,[]⟩
theorem f8 (P:Params)(x y z:ND)(tx:Str)(I:List (List UInt8))(L:Addr):(ra P).E 130 (nmF (KF P) (dL P L) (ρA x y z tx I)) (.Call (.Attribute (.Name "leaf" (A0h A8K 0)) "compile" (A0h A8K 1)) [] [] (A0h A8K 2))=some (.s (.bytes (y.hd::y.tl) (Bd 4)))∧
 (ra P).E 130 (nmF (KF P) (dL P L) (ρA x y z tx I)) (.Call (.Attribute (.Name "other" (A0h A8K 15)) "compile" (A0h A8K 16)) [] [] (A0h A8K 17))=some (.s (.bytes (z.hd::z.tl) (Bd 4))):=by and_intros<;>kernel_rfl
theorem f8p:((A0h A8K 6).endLine==(A0h A8K 9).line)=true∧((A0h A8K 4).endLine==(A0h A8K 13).line)=true∧((A0h A8K 21).endLine==(A0h A8K 24).line)=true∧((A0h A8K 19).endLine==(A0h A8K 28).line)=true:=by and_intros<;>kernel_rfl
theorem A1e (P:Params)(L:Addr):(["leaf","other","text","items","plain","count","parts","one","two","depth","script"]:List Str).all (fun x=>(dL P L).scope.names.lookup x==some .local)=true∧nsIn (KF P) mainGlobals "len" =some none∧(dL P L).scope.names.lookup ("len" :Str)=some .globalImplicit:=by and_intros<;>kernel_rfl
section
variable {r r':V}{x y z:ND}{tx:Str}{I:List (List UInt8)}{k:Int}{ps:List Str}
theorem A6l (ok:c.Ok G A)(he:c.env=(dL G.w.params c.L).env f c.L){X y:Str}{ci:Addr}(hX:(X= "names" ∧ci=c.L+1)∨(X= "words" ∧ci=c.L+2)∨(X= "thin" ∧ci=c.L+3))(hy:y= "item" ∨y= "part"):
  CompScopeC (cSc y X) y c.env [(X,ci)]∧(cSc y X).names.lookup X=some .free∧c.env.kindOf X=some .cell∧(X==("__debug__" :Str))=false∧(y==("__debug__" :Str))=false:=by
 obtain⟨c1,c2,c3,c4,c5,c6,c7,c8⟩:=A1E G.w.params c.L
 have hcl:c.env.cells= [(("thin" :Str),c.L+3),("words",c.L+2),("names",c.L+1)]:=by rw [he];exact c8
 have hk: ∀ X,c.env.kindOf X=(dL G.w.params c.L).scope.names.lookup X:=fun X=>by rw [he];rfl
 rcases hX with ⟨rfl,rfl⟩| ⟨rfl,rfl⟩| ⟨rfl,rfl⟩<;>rcases hy with rfl| rfl<;>
  exact⟨⟨A3W (by rw [hcl];rfl),by decide,rfl,by decide,rfl⟩,rfl,by rw [hk];assumption,by decide,by decide⟩
theorem Locs.m2 {a b:List (Addr×Obj)}(h:Locs G C₀ (vis c own) m ρ):Locs G C₀ (vis c (a++ (b++own))) m ρ:=(h.mono A0a).mono A0a
theorem Locs.m3 {a b e:List (Addr×Obj)}(h:Locs G C₀ (vis c own) m ρ):Locs G C₀ (vis c (a++ (b++ (e++own)))) m ρ:=h.m2.mono A0a
noncomputable abbrev lwNs:List Str:= ["leaf","other","text","items","plain","count","parts","one","two","depth","script"]
theorem A3Z (g:GOk G)(ok:c.Ok G A)(he:c.env=(dL G.w.params c.L).env f c.L)(hl:Locs G C₀ (vis c own) m ρ){v:Str}{r:V}(hv:lwNs.elem v=true)(hx:ρ.lookup v=some r)(hd:(v==("__debug__" :Str))=false){p:Pos}:Ev G C₀ c A m own (eval (.Name v p) c.env) r:=
 A0R ok he hl hx (a0D (a0J.mp (A1e G.w.params c.L).1 v (List.elem_iff.mp hv))) hd
theorem B4G (g:GOk G)(ok:c.Ok G A)(he:c.env=(dL G.w.params c.L).env f c.L){X:Str}{ci dd:Addr}{ob:Obj}{T:List (List UInt8×List UInt8)}{p5 p6 p7 p8 p9 p10 p11 p12:Pos}(hX:(X= "names" ∧ci=c.L+1)∨(X= "words" ∧ci=c.L+2)∨(X= "thin" ∧ci=c.L+3))
  (hl:Locs G C₀ (vis c own) m ρ) (hit:ρ.lookup ("items" :Str)=some (V.list (itV I))) (hI:I.length≤1000) (h77: ∀ it∈I,it.length≤77) (b1: ∀ q∈T,q.2.length≤77) (cd:CellD c own ci dd ob) (D:DB G ob T) (hp:(p6.endLine==p9.line)=true):
  Ev G C₀ c A m own (eval (.ListComp (.Call (.Attribute (.Name X p5) "get" p6) [.Name "item" p7,.Name "item" p8] [] p9) [⟨.Name "item" p10,.Name "items" p11,[],0⟩] (cSc "item" X) p12) c.env) (.list (I.map fun it=>V.s (.bytes (A0Q T it).reverse 77))):=by
 obtain⟨s1,s2,s3,s4,s5⟩:=A6l ok he hX (.inl rfl)
 obtain⟨kvs,D1,D2⟩:=D
 have:=A6i (knd:=bytesKind G.prog G.w) (l:=I) (g:=fun it=>V.s (.bytes it.reverse 77)) (key:=id) (h:=fun it=>SV.bytes (A0Q T it).reverse 77) (p5:=p5) (p6:=p6) (p7:=p7) (p8:=p8) (p9:=p9) (p10:=p10) (p12:=p12) (iter:= .Name "items" p11) (enc:=C3E) ok s1 s2 s3 s4 s5 cd D1 hp rfl hI
  (A3Z g ok he hl rfl hit (by decide)) (fun a ha Z w R=> ?_) fun a ha Z w R=> ?_
 ·rw [List.map_map] at this;exact this
 ·have R:=R.sI
  exact B4k R (a1M a)
 ·have R:=R.sI
  obtain⟨t,ht⟩:=B0D D2 (k:=a) (A9N R (a1M a))
  show SRep ((valueAt kvs a).getD w) _
  rw [ht]
  refine .bytes ?_ ?_
  ·rw [a1M]
  ·rw [a0O]
   unfold A0Q
   split
   ·rename_i q e;exact b1 q (List.mem_of_find?_eq_some e)
   ·exact h77 a ha
theorem B7c {test:Expr}{body:List Stmt}(hl:Locs G C₀ (vis c own) m ρ)(h:EvT G c A m own (isTrue test c.env (eval test c.env)) false):Ex G C₀ c A m own (exec (.If test body [] pos) c.env) (.nxt [] ρ):=
 A3B (b:=false) h fun own'=>A2h (hl.mono A0a)
theorem st8 (g:GOk G)(ok:c.Ok G A)(room:Room A 130)(he:c.env=(dL G.w.params c.L).env f c.L){dt dn:Addr}{ot on:Obj}{Tt Tn:List (List UInt8×List UInt8)}(hl:Locs G 818 (vis c own) m (ρA x y z tx I))(hI:I.length≤1000)(h77: ∀ it∈I,it.length≤77)
  (T1:CellD c own (c.L+3) dt ot) (D1:DB G ot Tt) (T2:CellD c own (c.L+1) dn on) (D2:DB G on Tn) (b1: ∀ q∈Tt,q.2.length≤77) (b2: ∀ q∈Tn,q.2.length≤77)
  (e1:(y.hd::y.tl).reverse=(I.map (A0Q Tt)).flatten) (e2:(z.hd::z.tl).reverse=(I.map (A0Q Tn)).flatten):Ex G 818 c A m own (exec (lw G.w.params 8) c.env) (.nxt [] (ρA x y z tx I)):=by
 rw [C1g]
 obtain⟨a1,a2⟩:=f8 G.w.params x y z tx I c.L
 obtain⟨p1,p2,p3,p4⟩:=f8p
 generalize A0h A8K=q at*
 rw [←g.K] at a1 a2
 have hn: ∀ own',NamesOk G 818 c A m (own'++own) c.env (nmF G.K (dL G.w.params c.L) (ρA x y z tx I)):=fun own'=>A0f ok he (hl.mono A0a)
 refine B7c hl (A2j (b:=false) (A1X rfl (g.ra.E a1 ok room (A0n he) (hn [])) (fun own'=>A4z (f:=A0Q Tt) g.ra ok room p2 rfl hI fun own2=>B4G g ok he (.inr (.inr ⟨rfl,rfl⟩)) hl.m2 rfl hI h77 b1 (by rw [←a0C];exact T1.more) D1 p1) ?_)
  (fun Ω own'=>A2j (b:=false) (A1X rfl (g.ra.E a2 ok room (A0n he) (hn own')) (fun own2=>A4z (f:=A0Q Tn) g.ra ok room p4 rfl hI fun own3=>B4G g ok he (.inl ⟨rfl,rfl⟩) hl.m3 rfl hI h77 b2 (by rw [←a0C,←a0C];exact T2.more) D2 p3) ?_) (fun Ω own2=>evT_or_nil) nofun) nofun)
 ·have:=B4X (G:=G) (A:=A) (x:=y.hd::y.tl) (y:=((I.map (A0Q Tt)).flatten).reverse) (n:=Bd 4) (k:=77*I.length)
  rw [a1M,e1,a1V] at this
  exact this
 ·have:=B4X (G:=G) (A:=A) (x:=z.hd::z.tl) (y:=((I.map (A0Q Tn)).flatten).reverse) (n:=Bd 4) (k:=77*I.length)
  rw [a1M,e2,a1V] at this
  exact this
end
noncomputable abbrev cS0 (y:Str):Scope:=⟨.function,[(".0",.local),(y,.local)],false,false,[]⟩
noncomputable def A3y (it:List UInt8):Bool:=it.take 1== [33]
theorem f9 (P:Params)(L:Addr):(∀ r:List UInt8,(ra P).E 130 (nmC (KF P) (cS0 "item") "item" (.s (.bytes r 77))) (.Subscript (.Name "item" (A0h C0F 5)) (.Slice none (some (.Constant (.int 1) 0 (A0h C0F 6))) none (A0h C0F 7)) (A0h C0F 8))=some (.s (.bytes (List.take 1 r.reverse).reverse 77)))∧
 (∀ ρ:Loc,nmF (KF P) (dL P L) ρ "len" =some (.k (.builtin "len")))∧A0L (KF P) (.builtin "len")=true:=by and_intros<;>intros<;>kernel_rfl
theorem f10 (P:Params)(x y z:ND)(tx:Str)(I:List (List UInt8))(k:Int)(L:Addr):(ra P).E 130 (nmF (KF P) (dL P L) (ρB x y z tx I k)) (.Call (.Name "len" (A0h A1U 0)) [(.Name "plain" (A0h A1U 1))] [] (A0h A1U 2))=some (.s (.bint x.ln 0 (Bd 4)))∧
 (ra P).E 130 (nmF (KF P) (dL P L) (ρB x y z tx I k)) (.Call (.Name "len" (A0h A1U 10)) [(.Name "leaf" (A0h A1U 11))] [] (A0h A1U 12))=some (.s (.bint y.ln 0 (Bd 4)))∧
 (ra P).E 130 (nmF (KF P) (dL P L) (ρB x y z tx I k)) (.BinOp (.Call (.Name "len" (A0h A1U 13)) [(.Name "plain" (A0h A1U 14))] [] (A0h A1U 15)) .Sub (.Name "count" (A0h A1U 16)) (A0h A1U 17))=some (.s (.bint (x.ln - k) (0 - k) (Bd 4 - k)))∧
 (ra P).E 130 (nmF (KF P) (dL P L) (ρB x y z tx I k)) (.Call (.Name "len" (A0h A1U 19)) [(.Name "other" (A0h A1U 20))] [] (A0h A1U 21))=some (.s (.bint z.ln 0 (Bd 4)))∧
 (ra P).E 130 (nmF (KF P) (dL P L) (ρB x y z tx I k)) (.Call (.Name "len" (A0h A1U 22)) [(.Name "plain" (A0h A1U 23))] [] (A0h A1U 24))=some (.s (.bint x.ln 0 (Bd 4)))∧((A0h A1U 5).endLine==(A0h A1U 7).line)=true:=by and_intros<;>kernel_rfl
theorem f11:(((A0h A5x 2).endLine==(A0h A5x 5).line)=true∧((A0h A5x 6).endLine==(A0h A5x 9).line)=true∧((A0h A5x 10).endLine==(A0h A5x 13).line)=true∧((A0h A5x 14).endLine==(A0h A5x 16).line)=true):=by and_intros<;>kernel_rfl
theorem f12:(((A0h A2a 8).endLine==(A0h A2a 11).line)=true∧((A0h A2a 12).endLine==(A0h A2a 15).line)=true∧((A0h A2a 16).endLine==(A0h A2a 19).line)=true∧((A0h A2a 20).endLine==(A0h A2a 22).line)=true∧((A0h A2a 24).endLine==(A0h A2a 27).line)=true):=by and_intros<;>kernel_rfl
theorem C6Q (P:Params)(x y z:ND)(tx:Str)(I:List (List UInt8))(k:Int)(ps:List Str)(L:Addr):(ra P).T 130 (nmF (KF P) (dL P L) (ρC x y z tx I k ps)) (.Compare (.Call (.Name "str" (A0h A2a 0)) [(.Name "leaf" (A0h A2a 1))] [] (A0h A2a 2)) [.NotEq] [(.Name "text" (A0h A2a 3))] (A0h A2a 4))=some (y.tx !=tx)∧
 (ra P).E 130 (nmF (KF P) (dL P L) (ρC x y z tx I k ps)) (.Call (.Name "str" (A0h A2a 5)) [(.Name "other" (A0h A2a 6))] [] (A0h A2a 7))=some (.s (.str z.tx (Bd 4))):=by and_intros<;>kernel_rfl
noncomputable def spT (x:Str):Str:=Txt.replace (Txt.replace (Txt.replace x "(" " ") ")" " ") "," " "
noncomputable def A8L (x:Str):List Str:=Txt.split (spT x) " "
section
variable {r r':V}{x y z:ND}{tx:Str}{I:List (List UInt8)}{k:Int}{ps:List Str}
theorem ls9 (g:GOk G)(ok:c.Ok G A)(room:Room A 130)(he:c.env=(dL G.w.params c.L).env f c.L)(hl:Locs G 818 (vis c own) m (ρA x y z tx I))(hI:I.length<1000):Ex G 818 c A m own (exec (lw G.w.params 9) c.env) (.nxt ["count"] (ρB x y z tx I (I.filter A3y).length)):=by
 rw [C1f]
 obtain⟨a1,a2,a3⟩:=f9 G.w.params c.L
 have lo:=(A1e G.w.params c.L).1
 generalize A0h C0F=q at*
 rw [←g.K] at a1 a2 a3
 have hsc:=A1T (scope:=cS0 "item") (x:= "item") (by rfl)
 refine A5f ok he (a0D (a0J.mp lo "count" (List.elem_iff.mp rfl))) rfl hl ((A0z (P:=fun Ω v=>SRep v (.int (I.filter A3y).length)) ok rfl a3 (A0f ok he hl "len" (q 1) _ [] (a2 _)) (fun own'=>A0s rfl (A4g (tup:=false) (ys:=(I.filter A3y).map fun it=>SV.bytes it.reverse 77) ok (hsc.toC _) rfl (by rw [a1D];lia)
  (A3Z g ok he (hl.mono A0a) rfl rfl (by decide)) fun own2=>A5O (t:=A3y) I (fun a ha own3 C oC m₂ v hC hN hv R=> ?_) fun a ha Ω own3 C oC m₂ v hC hN hv R=> ?_) fun Ω=>A0N) fun own' vs R=> ?_).ev fun Ω Ω p=> .s p)
 ·have:=A1X (m:=m) (whole:=eval (.Compare (.Subscript (.Name "item" (q 5)) (.Slice none (some (.Constant (.int 1) 0 (q 6))) none (q 7)) (q 8)) [.Eq] [(.Constant (.bytes [33]) 0 (q 9))] (q 10)) (compEnvC (cS0 "item") [] C c.env)) (pos:=q 10) (op:= .Eq) rfl (g.ra.E (a1 a.reverse) ok room (env:=compEnvC (cS0 "item") [] C c.env) ⟨(A0n he).g,(A0n he).b⟩ (A2P ok (A0n he) hsc (a0H _ hC) hN hv R)) (fun own4=>A7e (m:=m) (x:= [33]) (k:=0) (pos:=q 9)) B4Y
  rw [a1M,a1M,a1M] at this
  exact this
 ·exact A0S (oC:=oC) ok rfl hsc.var (fun s S=>(S.N (C,oC) (by simp [hC])).1) hN hv R (by decide)
 ·refine R.consE fun Ω Ω R1 R=> ?_
  refine R.nilE ?_
  have:=A2K (m:=m) (l:=((I.filter A3y).map fun it=>SV.bytes it.reverse 77).map V.s) (by simp only [a1D];have:=List.length_filter_le A3y I;lia) ok R1
  simp only [a1D] at this
  exact this
theorem C6B (g:GOk G)(ok:c.Ok G A)(room:Room A 130)(he:c.env=(dL G.w.params c.L).env f c.L)(hl:Locs G 818 (vis c own) m (ρB x y z tx I k))(hI:I.length<1000)(e1:x.ln=(I.flatten).length)(e2:y.ln=x.ln - k)(e3:z.ln=x.ln):Ex G 818 c A m own (exec (lw G.w.params 10) c.env) (.nxt [] (ρB x y z tx I k)):=by
 rw [B8N]
 obtain⟨a1,a2,a3,a4,a5,p1⟩:=f10 G.w.params x y z tx I k c.L
 obtain⟨_,n2,n3⟩:=f9 G.w.params c.L
 generalize A0h A1U=q at*
 rw [←g.K] at a1 a2 a3 a4 a5 n2 n3
 have hn: ∀ own',NamesOk G 818 c A m (own'++own) c.env (nmF G.K (dL G.w.params c.L) (ρB x y z tx I k)):=fun own'=>A0f ok he (hl.mono A0a)
 have eB:=A0n he
 refine B7c hl (A2j (b:=false) (A1X (b:= .bint (I.flatten).length 0 (77*I.length)) rfl (g.ra.E a1 ok room eB (hn [])) (fun own'=>(A0z (P:=fun Ω v=>SRep v (.bint (I.flatten).length 0 ((77*I.length:Nat):Int))) ok rfl n3 (hn own' "len" (q 3) _ [] (n2 _)) (fun own2=>A0s (r:= .s (.bytes (I.flatten).reverse (77*I.length))) rfl ?_ fun Ω=>A0N) fun own2 vs R=> ?_).ev fun Ω Ω p=> .s p) ?_)
  (fun Ω own'=>A2j (b:=false) (A1X rfl (g.ra.E a2 ok room eB (hn own')) (fun own2=>g.ra.E a3 ok room eB (by rw [←a0C];exact hn _)) ?_)
   (fun Ω own2=>A2j (b:=false) (A1X rfl (g.ra.E a4 ok room eB (by rw [←a0C];exact hn _)) (fun own3=>g.ra.E a5 ok room eB (by rw [←a0C,←a0C];exact hn _)) ?_) (fun Ω own3=>evT_or_nil) nofun) nofun) nofun)
 ·have:=A4z (c:=c) (A:=A) (m:=m) (own:=own2++ (own'++own)) (C₀:=818) (env:=c.env) (lx:= .Name "items" (q 6)) (q:=0) (p1:=q 4) (p2:=q 5) (p3:=q 7) (l:=I) (f:=id) g.ra ok room p1 rfl (by lia) fun own3=>A3Z g ok he hl.m3 rfl rfl (by decide)
  rw [List.map_id] at this
  exact this
 ·refine R.consE fun Ω Ω R1 R=> ?_
  refine R.nilE ?_
  have R1:=R1.sI
  have:=A2t (G:=G) (C₀:=818) (c:=c) (A:=A) (m:=m) (own:=own2++ (own'++own)) (by lia) R1
  rw [a0O] at this
  exact this
 ·have:=A9U (G:=G) (A:=A) (a:= .bint x.ln 0 (Bd 4)) (b:= .bint (I.flatten).length 0 (77*I.length)) rfl rfl
  rw [e1,a1V] at this
  rw [e1];exact this
 ·have:=A9U (G:=G) (A:=A) (a:= .bint y.ln 0 (Bd 4)) (b:= .bint (x.ln - k) (0 - k) (Bd 4 - k)) rfl rfl
  rw [e2,a1V] at this
  rw [e2];exact this
 ·have:=A9U (G:=G) (A:=A) (a:= .bint z.ln 0 (Bd 4)) (b:= .bint x.ln 0 (Bd 4)) rfl rfl
  rw [e3,a1V] at this
  rw [e3];exact this
end
def ExK (G:Gx)(C₀:Addr)(c:Fc)(A:Around)(m:Str→Option Value)(own:List (Addr×Obj))(t:Sem Flow)(res:SRes):Prop:=
 ∀ s Q E,St c m own s→1≤s.toks→Ends G C₀ c A own (res.bad=true) E→(∀ own' m' fl s',St c m' (own'++own) s'→FlRep G C₀ (vis c (own'++own)) m m' fl res→Q fl s')→wpAny G.M A t Q E s
section
variable {r r':V}{x y z:ND}{tx:Str}{I:List (List UInt8)}{k:Int}{ps:List Str}
theorem Ex.K {t:Sem Flow}(h:Ex G C₀ c A m own t res):ExK G C₀ c A m own t res:=fun s Q E S Ω en q=>h s Q E S en q
theorem A1S {st:Stmt}{rest:List Stmt}{as:List Str}{ρ':Loc}(h:ExK G C₀ c A m own (exec st env) (.nxt as ρ'))
  (k: ∀ own' m',Locs G C₀ (vis c (own'++own)) m' ρ'→(∀ y,y∉as→m' y=m y)→ExK G C₀ c A m' (own'++own) (execs rest env) res):ExK G C₀ c A m own (execs (st::rest) env) (res.pre as):=by
 intro s Q E S h1 en q
 refine a0N (a2F (wpAny_toks_of h1 (h s _ E S h1 (en.less fun x=>nomatch x) fun own' m' fl s' S' R=>(⟨own',m',S',R⟩: ∃ own' m',St c m' (own'++own) s'∧FlRep G C₀ (vis c (own'++own)) m m' fl (.nxt as ρ')))) (fun fl s' z=> ?_) fun e s' z=>z.2)
 obtain⟨h2,own',m',S',rfl,hl,hm⟩:=z
 rw [SRes.bad_pre] at en
 exact k own' m' hl hm s' Q E S' h2 en.more fun own'' m'' fl s'' S'' R=>q (own''++own') m'' fl s'' S''.asc (by rw [a0C];exact R.pre hm)
theorem B2g {x:Str}{p':Pos}(ok:c.Ok G A)(he:c.env=d.env f c.L)(hk:d.scope.names.lookup x=some .local)(hc:A2G value=true)(hl:Locs G C₀ (vis c own) m ρ)(h:EvK G C₀ c A m own (eval value c.env) r):
  ExK G C₀ c A m own (exec (.Assign [.Name x p'] value pos) c.env) (.nxt [x] ((x,r)::ρ)):=by
 intro s Q E S h1 e q
 exact wpAny_Assign_Name (h s _ E S h1 fun own' v s' S' Ω R=>A0o ok he hk S' fun s'' S''=>q own' _ _ s'' S'' ⟨rfl,(hl.mono A0a).set R,A2c⟩) (A0l hc)
theorem A9K {a:Addr}{args:List Value}{post:Held→Value→Prop}(ok:c.Ok G A)(ho:c.outer= [])(room:Room A n)(hc:B1j G n Z a ⟨args,[]⟩ post)(hz:Z.le (vis c own)):EvR G C₀ c A m own False (call (.ref a) args) post:=fun s Q E S q e=>
 wpAny_call (hc c A m own s _ ok ho room S hz fun own' v s' S' p=>q own' v s' S' p)
theorem lit_eq:("(" :Str)=⟨#[40]⟩∧(")" :Str)=⟨#[41]⟩∧("," :Str)=⟨#[44]⟩∧(" " :Str)=⟨#[32]⟩∧(":" :Str)=⟨#[58]⟩∧("d" :Str)=⟨#[100]⟩:=by and_intros<;>kernel_rfl
theorem B1a {o:Expr}{q:Nat→Pos}{i:Nat}{x:Str}(ok:c.Ok G A)(hso:A0v o=true)(hp:((q i).endLine==(q (i+3)).line)=true∧((q (i+4)).endLine==(q (i+7)).line)=true∧((q (i+8)).endLine==(q (i+11)).line)=true∧((q (i+12)).endLine==(q (i+14)).line)=true)(ho:Ev G C₀ c A m own (eval o env) (.s (.str x (Bd 4)))):
  EvK G C₀ c A m own (eval (.Call (.Attribute (.Call (.Attribute (.Call (.Attribute (.Call (.Attribute o "replace" (q i)) [(.Constant (.str "(") 0 (q (i+1))),(.Constant (.str " ") 0 (q (i+2)))] [] (q (i+3))) "replace" (q (i+4))) [(.Constant (.str ")") 0 (q (i+5))),(.Constant (.str " ") 0 (q (i+6)))] [] (q (i+7))) "replace" (q (i+8))) [(.Constant (.str ",") 0 (q (i+9))),(.Constant (.str " ") 0 (q (i+10)))] [] (q (i+11))) "split" (q (i+12))) [(.Constant (.str " ") 0 (q (i+13)))] [] (q (i+14))) env) (.list ((A8L x).map strI)):=by
 obtain⟨l1,l2,l3,l4,_⟩:=lit_eq
 refine A8r ok rfl hp.2.2.2 (by rw [l4];rfl) (k:=Bd 4) (by decide) (A3h rfl hp.2.2.1 (by rw [l3,l4];decide) (by decide) (by rw [l4];decide) (A3h rfl hp.2.1 (by rw [l2,l4];decide) (by decide) (by rw [l4];decide) (A3h hso hp.1 (by rw [l1,l4];decide) (by decide) (by rw [l4];decide) ho.K ?_) ?_) ?_)
 ·rw [l1,l4];exact A1c _ _ _
 ·rw [l2,l4];exact A1c _ _ _
 ·rw [l3,l4];exact A1c _ _ _
theorem C6A (g:GOk G)(ok:c.Ok G A)(he:c.env=(dL G.w.params c.L).env f c.L)(hl:Locs G 818 (vis c own) m (ρB x y z tx I k)):ExK G 818 c A m own (exec (lw G.w.params 11) c.env) (.nxt ["parts"] (ρC x y z tx I k (A8L tx))):=by
 rw [B8M]
 have p:=f11
 generalize A0h A5x=q at*
 exact B2g ok he (a0D (a0J.mp (A1e G.w.params c.L).1 "parts" (List.elem_iff.mp rfl))) rfl hl (B1a (i:=2) ok rfl p (A3Z g ok he hl rfl rfl (by decide)))
theorem B4J {e:Expr}{b x:Bool}{whole:Sem Value}(h:C0C n G c A m own (isTrue e env (eval e env)) b)(k:b=false→ ∀ own',C0C n G c A m (own'++own) (isTrue (.BoolOp .Or es pos) env whole) x)(hx:b=true→x=true):
  C0C n G c A m own (isTrue (.BoolOp .Or (e::es) pos) env whole) x:=by
 intro s Q E S h1 q
 refine isTrue_or (wpAny_with_toks h1 (h s _ _ S h1 fun own' s' S' h2=> ?_))
 cases b with
 | true=>rw [hx rfl] at q;exact q own' s' S'
 | false=>exact k rfl own' s' Q E S' h2 fun own'' s'' S''=>q (own''++own') s'' S''.asc
theorem EvT.K {t:Sem Bool}{b:Bool}(h:EvT G c A m own t b):C0C n G c A m own t b:=fun s Q E S Ω q=>h s Q E S q
theorem C2N {test:Expr}{body:List Stmt}(hl:Locs G C₀ (vis c own) m ρ)(h:C0C 1 G c A m own (isTrue test c.env (eval test c.env)) false):ExK G C₀ c A m own (exec (.If test body [] pos) c.env) (.nxt [] ρ):=by
 intro s Q E S h1 e q
 refine wpAny_If (h s _ E S h1 fun own' s' S'=> ?_)
 exact A2h (env:=c.env) (hl.mono A0a) s' Q E S' (e.more.less fun z=>nomatch z) fun own'' m'' fl s'' S'' R=>q (own''++own') m'' fl s'' S''.asc (by rw [a0C];exact R)
theorem C0a (g:GOk G)(ok:c.Ok G A)(he:c.env=(dL G.w.params c.L).env f c.L){ci dd:Addr}{ob:Obj}{T:List (Str×Str)}{p5 p6 p7 p8 p9 p10 p11 p12:Pos}(hX:ci=c.L+2)
  (hl:Locs G C₀ (vis c own) m ρ) (hit:ρ.lookup ("parts" :Str)=some (V.list (ps.map strI))) (hI:ps.length≤1000) (cd:CellD c own ci dd ob) (D:DS G ob T) (hp:(p6.endLine==p9.line)=true):
  Ev G C₀ c A m own (eval (.ListComp (.Call (.Attribute (.Name "words" p5) "get" p6) [.Name "part" p7,.Name "part" p8] [] p9) [⟨.Name "part" p10,.Name "parts" p11,[],0⟩] (cSc "part" "words") p12) c.env) (.list ((ps.map (A0Q T)).map strI)):=by
 obtain⟨s1,s2,s3,s4,s5⟩:=A6l ok he (.inr (.inl ⟨rfl,hX⟩)) (.inr rfl)
 obtain⟨kvs,D1,D2⟩:=D
 have:=A6i (knd:=strKind G.prog G.w) (l:=ps) (g:=strI) (key:=id) (h:=fun p=>SV.str (A0Q T p) (A0Q T p).length) (p5:=p5) (p6:=p6) (p7:=p7) (p8:=p8) (p9:=p9) (p10:=p10) (p12:=p12) (iter:= .Name "parts" p11) (enc:=C4N) ok s1 s2 s3 s4 s5 cd D1 hp rfl hI
  (A3Z g ok he hl rfl hit (by decide)) (fun a ha Z w R=> ?_) fun a ha Z w R=> ?_
 ·rw [List.map_map] at this ⊢;exact this
 ·cases R with
  | s R=>exact B8f R
 ·cases R with
  | s R=>
   obtain⟨t,ht⟩:=B0D D2 (k:=a) (B4N R)
   show SRep ((valueAt kvs a).getD w) _
   rw [ht]
   exact .str (a0K _)
theorem C6z (g:GOk G)(ok:c.Ok G A)(room:Room A 130)(he:c.env=(dL G.w.params c.L).env f c.L){dw:Addr}{ow:Obj}{Tw:List (Str×Str)}(hl:Locs G 818 (vis c own) m (ρC x y z tx I k ps))(hI:ps.length≤1000)(T1:CellD c own (c.L+2) dw ow)(D1:DS G ow Tw)
  (e1:y.tx=tx) (e2:A8L z.tx=ps.map (A0Q Tw)) (ha: ∀ x∈A8L z.tx,x.cps.all (· <0x110000)=true):ExK G 818 c A m own (exec (lw G.w.params 12) c.env) (.nxt [] (ρC x y z tx I k ps)):=by
 rw [B8L]
 obtain⟨a1,a2⟩:=C6Q G.w.params x y z tx I k ps c.L
 obtain⟨p1,p2,p3,p4,p5⟩:=f12
 generalize A0h A2a=q at*
 rw [←g.K] at a1 a2
 have hn: ∀ own',NamesOk G 818 c A m (own'++own) c.env (nmF G.K (dL G.w.params c.L) (ρC x y z tx I k ps)):=fun own'=>A0f ok he (hl.mono A0a)
 have eB:=A0n he
 have t1:=g.ra.T a1 ok room eB (hn [])
 rw [e1,a1V] at t1
 refine C2N hl (B4J (b:=false) t1.K (fun Ω own'=>B4J (b:=false) ?_ (fun Ω own2=>evT_or_nil.K) nofun) nofun)
 have e0:false= !decide (A8L z.tx=ps.map (A0Q Tw)):=by rw [e2,a0Q rfl];rfl
 refine cast (congrArg (C0C 1 G c A m (own'++own) _) e0.symm) ?_
 exact B7p (op:= .NotEq) (.inr rfl) ok room rfl (B1a (i:=8) (o:= .Call (.Name "str" (q 5)) [(.Name "other" (q 6))] [] (q 7)) ok rfl ⟨p1,p2,p3,p4⟩ (g.ra.E a2 ok room eB (hn own'))) (fun own2=>C0a g ok he rfl hl.m2 rfl hI (by rw [←a0C];exact T1.more) D1 p5) ha (fun x hx=>ha x (by rw [e2];exact hx))
end
theorem f13 (P:Params)(x y z:ND)(tx:Str)(I:List (List UInt8))(k:Int)(ps:List Str)(L:Addr):(ra P).T 130 (nmF (KF P) (dL P L) (ρC x y z tx I k ps)) (.Compare (.Attribute (.Name "plain" (A0h A2z 0)) "type" (A0h A2z 1)) [.NotEq] [(.Attribute (.Name "other" (A0h A2z 2)) "type" (A0h A2z 3))] (A0h A2z 4))=some (x.ty !=z.ty)∧
 (ra P).T 130 (nmF (KF P) (dL P L) (ρC x y z tx I k ps)) (.Compare (.Attribute (.Name "plain" (A0h A2z 5)) "properties" (A0h A2z 6)) [.NotEq] [(.Attribute (.Name "other" (A0h A2z 7)) "properties" (A0h A2z 8))] (A0h A2z 9))=some (x.ps !=z.ps)∧
 (ra P).T 130 (nmF (KF P) (dL P L) (ρC x y z tx I k ps)) (.Compare (.Attribute (.Name "plain" (A0h A2z 17)) "type" (A0h A2z 18)) [.NotEq] [(.Attribute (.Name "leaf" (A0h A2z 19)) "type" (A0h A2z 20))] (A0h A2z 21))=some (x.ty !=y.ty)∧
 (∀ ρ:Loc,nmF (KF P) (dL P L) ρ "_law_let" =some (.k (.ref 2439)))∧A0L (KF P) (.ref 2439)=true:=by and_intros<;>intros<;>kernel_rfl
theorem f14 (P:Params)(x y z:ND)(tx:Str)(I:List (List UInt8))(k:Int)(ps:List Str)(L:Addr):(ra P).T 130 (nmF (KF P) (dL P L) (ρC x y z tx I k ps)) (.Compare (.Attribute (.Name "plain" (A0h A4G 17)) "properties" (A0h A4G 18)) [.NotEq] [(.Attribute (.Name "leaf" (A0h A4G 19)) "properties" (A0h A4G 20))] (A0h A4G 21))=some (x.ps !=y.ps)∧
 ((A0h A4G 4).endLine==(A0h A4G 6).line)=true∧((A0h A4G 2).endLine==(A0h A4G 15).line)=true:=by and_intros<;>kernel_rfl
noncomputable def C5x (t:Bool):V:=A0t 2209 [A0t 2245 [A0t 1423 [.inst 1164 [("num",.s (.int 7))]] t] t] t
noncomputable def ρD (x y z:ND)(tx:Str)(I:List (List UInt8))(k:Int)(ps:List Str):Loc:=(("one" :Str),C5x false)::(("two" :Str),C5x true)::ρC x y z tx I k ps
theorem f15 (P:Params)(x y z:ND)(tx:Str)(I:List (List UInt8))(k:Int)(ps:List Str)(L:Addr):sta P (dL P L) (ρC x y z tx I k ps) (lw P 15)=some (.nxt ["two","one"] (ρD x y z tx I k ps)):=by kernel_rfl
noncomputable def A6E (p:Str):Str:=(Txt.split p ":").headD Str.empty
noncomputable def A9P (ps:List Str):Str:=Txt.join "" ((ps.filter fun p=>inS ":" p).map A6E)
section
variable {r r':V}{x y z:ND}{tx:Str}{I:List (List UInt8)}{k:Int}{ps:List Str}
theorem B0X (g:GOk G)(ok:c.Ok G A)(ho:c.outer= [])(room:Room A 130)(he:c.env=(dL G.w.params c.L).env f c.L)(hl:Locs G 818 (vis c own) m ρ){v:Str}{x:ND}(hv:lwNs.elem v=true)(hx:ρ.lookup v=some (V.abs (A0d 4 x)))(hd:(v==("__debug__" :Str))=false){p1 p2 p3:Pos}:
  Ev G 818 c A m own (eval (.Call (.Name "_law_let" p1) [.Name v p2] [] p3) c.env) (.s (.bool x.vf)):=by
 obtain⟨_,_,_,n1,n2⟩:=f13 G.w.params x x x Str.empty [] 0 [] c.L
 rw [←g.K] at n1 n2
 refine(A0z (P:=fun Ω w=>SRep w (.bool x.vf)) ok rfl n2 (A0f ok he hl "_law_let" p1 _ [] (n1 _)) (fun own'=>A0s rfl (A3Z g ok he (hl.mono A0a) hv hx hd) fun Ω=>A0N) fun own' vs R=> ?_).ev fun Ω Ω p=> .s p
 refine R.consE fun Ω Ω R1 R=> ?_
 refine R.nilE ?_
 exact A9K (n:=121) ok ho (room.less (by decide)) (B3Q g (d₀:=A0d 4 x) (b:=x.vf) rfl R1) Held.le.rfl
theorem C6y (g:GOk G)(ok:c.Ok G A)(ho:c.outer= [])(room:Room A 130)(he:c.env=(dL G.w.params c.L).env f c.L)(hl:Locs G 818 (vis c own) m (ρC x y z tx I k ps))(e1:x.ty=z.ty)(e2:x.ps=z.ps)(e3:x.vf=z.vf)(e4:x.ty=y.ty):
  Ex G 818 c A m own (exec (lw G.w.params 13) c.env) (.nxt [] (ρC x y z tx I k ps)):=by
 rw [B8K]
 obtain⟨a1,a2,a3,_,_⟩:=f13 G.w.params x y z tx I k ps c.L
 generalize A0h A2z=q at*
 rw [←g.K] at a1 a2 a3
 have hn: ∀ own',NamesOk G 818 c A m (own'++own) c.env (nmF G.K (dL G.w.params c.L) (ρC x y z tx I k ps)):=fun own'=>A0f ok he (hl.mono A0a)
 have eB:=A0n he
 have t1:=g.ra.T a1 ok room eB (hn [])
 have t2:=fun own'=>g.ra.T a2 ok room eB (hn own')
 have t3:=fun own'=>g.ra.T a3 ok room eB (hn own')
 rw [e1,a1V] at t1
 simp only [e2,a1V] at t2
 simp only [e4,a1V] at t3
 have hm:=fun own'=>hl.mono (A0a (own':=own'))
 refine B7c hl (A2j (b:=false) t1 (fun Ω own'=>A2j (b:=false) (t2 _) (fun Ω own2=>A2j (b:=false) (A1X rfl (B0X g ok ho room he (by rw [←a0C];exact hm _) rfl rfl (by decide)) (fun own3=>B0X g ok ho room he (by rw [←a0C,←a0C];exact hm _) rfl rfl (by decide)) ?_)
  (fun Ω own3=>A2j (b:=false) (by rw [←a0C,←a0C];exact t3 _) (fun Ω own4=>evT_or_nil) nofun) nofun) nofun) nofun)
 have:=B4W (G:=G) (A:=A) (a:=x.vf) (b:=z.vf)
 rw [e3,a1V] at this
 rw [e3];exact this
theorem B1y (p:Str):(Txt.split p ":")[0]?=some (A6E p):=by
 unfold A6E
 rw [lit_eq.2.2.2.2.1,A3q]
 have:A2W 58 p.cps.toList≠ []:=by
  generalize p.cps.toList=l
  cases l with
  | nil=>exact List.cons_ne_nil _ _
  | cons a l=>
   unfold A2W
   split
   ·exact List.cons_ne_nil _ _
   ·split<;>exact List.cons_ne_nil _ _
 cases h:A2W 58 p.cps.toList with
 | nil=>exact(this h).elim
 | cons a r=>rfl
set_option maxHeartbeats 4000000 in
theorem C6x (g:GOk G)(ok:c.Ok G A)(ho:c.outer= [])(room:Room A 130)(he:c.env=(dL G.w.params c.L).env f c.L)(hl:Locs G 818 (vis c own) m (ρC x y z tx I k ps))(hI:ps.length≤1000)(hJ:(((ps.filter fun p=>inS ":" p).map A6E).map (·.length)).sum≤100000)(hb: ∀ p∈ps,p.length≤1000)
  (hd:inS "d" (A9P ps)=false→x.ps=y.ps∧x.vf=y.vf):Ex G 818 c A m own (exec (lw G.w.params 14) c.env) (.nxt [] (ρC x y z tx I k ps)):=by
 rw [B8J]
 obtain⟨a1,p1,p2⟩:=f14 G.w.params x y z tx I k ps c.L
 generalize A0h A4G=q at*
 rw [←g.K] at a1
 have hn: ∀ own',NamesOk G 818 c A m (own'++own) c.env (nmF G.K (dL G.w.params c.L) (ρC x y z tx I k ps)):=fun own'=>A0f ok he (hl.mono A0a)
 have eB:=A0n he
 have hsc:=A1T (scope:=cS0 "part") (x:= "part") (by rfl)
 have hm:=fun own'=>hl.mono (A0a (own':=own'))
 have comp: ∀ own',Ev G 818 c A m (own'++own) (eval (.ListComp (.Subscript (.Call (.Attribute (.Name "part" (q 3)) "split" (q 4)) [(.Constant (.str ":") 0 (q 5))] [] (q 6)) (.Constant (.int 0) 0 (q 7)) (q 8)) [⟨(.Name "part" (q 9)),(.Name "parts" (q 10)),[(.Compare (.Constant (.str ":") 0 (q 11)) [.In] [(.Name "part" (q 12))] (q 13))],0⟩] (cS0 "part") (q 14)) c.env) (.list (((ps.filter fun p=>inS ":" p).map A6E).map strI)):=fun own'=>by
  have:=A4g (c:=c) (A:=A) (m:=m) (own:=own'++own) (C₀:=818) (cl:= []) (tup:=false) (ys:=(ps.filter fun p=>inS ":" p).map fun p=>SV.str (A6E p) (A6E p).length) (rs:=ps.map strI) (iter:= .Name "parts" (q 10)) (px:=q 9) (pos:=q 14) (scope:=cS0 "part") (x:= "part") (env:=c.env)
   (elt:= .Subscript (.Call (.Attribute (.Name "part" (q 3)) "split" (q 4)) [(.Constant (.str ":") 0 (q 5))] [] (q 6)) (.Constant (.int 0) 0 (q 7)) (q 8)) (ct:= .Compare (.Constant (.str ":") 0 (q 11)) [.In] [(.Name "part" (q 12))] (q 13))
   ok (hsc.toC _) rfl (by rw [a1D];exact hI) (A3Z g ok he (hm _) rfl rfl (by decide)) fun own2=>A5O (t:=fun p=>inS ":" p) ps (fun a ha own3 C oC m₂ v hC hN hv R=> ?_) fun a ha Ω own3 C oC m₂ v hC hN hv R=> ?_
  ·rw [List.map_map] at this ⊢;exact this
  ·exact A1X rfl A8j (fun own4=>A0S (oC:=oC) ok rfl hsc.var (fun s S=>(S.N (C,oC) (by simp [hC])).1) hN hv (R.mono A0a) (by decide)) (B8r rfl)
  ·refine A4e (l:=(Txt.split a ":").map strI) ok (A8r (n:=0) (k:=a.length) ok rfl p1 (by rw [lit_eq.2.2.2.2.1];rfl) (by have:=hb a ha;lia) (A0S (oC:=oC) ok rfl hsc.var (fun s S=>(S.N (C,oC) (by simp [hC])).1) hN hv R (by decide)).K).ev (by decide) (by decide) ?_
   rw [List.getElem?_map]
   show ((Txt.split a ":")[0]?).map strI=_
   rw [B1y];rfl
 have tst:EvT G c A m own (isTrue (.Compare (.Constant (.str "d") 0 (q 0)) [.NotIn] [(.Call (.Attribute (.Constant (.str "") 0 (q 1)) "join" (q 2)) [(.ListComp (.Subscript (.Call (.Attribute (.Name "part" (q 3)) "split" (q 4)) [(.Constant (.str ":") 0 (q 5))] [] (q 6)) (.Constant (.int 0) 0 (q 7)) (q 8)) [⟨(.Name "part" (q 9)),(.Name "parts" (q 10)),[(.Compare (.Constant (.str ":") 0 (q 11)) [.In] [(.Name "part" (q 12))] (q 13))],0⟩] (cS0 "part") (q 14))] [] (q 15))] (q 16)) c.env (eval (.Compare (.Constant (.str "d") 0 (q 0)) [.NotIn] [(.Call (.Attribute (.Constant (.str "") 0 (q 1)) "join" (q 2)) [(.ListComp (.Subscript (.Call (.Attribute (.Name "part" (q 3)) "split" (q 4)) [(.Constant (.str ":") 0 (q 5))] [] (q 6)) (.Constant (.int 0) 0 (q 7)) (q 8)) [⟨(.Name "part" (q 9)),(.Name "parts" (q 10)),[(.Compare (.Constant (.str ":") 0 (q 11)) [.In] [(.Name "part" (q 12))] (q 13))],0⟩] (cS0 "part") (q 14))] [] (q 15))] (q 16)) c.env)) (!inS "d" (A9P ps)):=by
  with_reducible refine A1X (C₀:=818) (b:= .str (A9P ps) ((((ps.filter fun p=>inS ":" p).map A6E).map (·.length)).sum+ (((ps.filter fun p=>inS ":" p).map A6E).map strI).length*16)) ?_ A8j (fun own'=> ?_) ?_
  ·rfl
  rotate_left
  ·exact B8r rfl
  with_reducible refine A2Z (b:=130) (r:=ra G.w.params) (rs:= [.list (((ps.filter fun p=>inS ":" p).map A6E).map strI)]) g.ra ?_ ok room ?_ p2 ?_ ?_ ?_ A8j ?_
  rotate_left
  ·rfl
  ·rfl
  ·simp
  ·rfl
  ·exact fun own2=>A0s rfl (by rw [←a0C];exact comp _) fun Ω=>A0N
  show gd (decide (("" :Str).length≤16)) ((A8S (((ps.filter fun p=>inS ":" p).map A6E).map strI)).bind fun p=>gd (decide (p.2+ (((ps.filter fun p=>inS ":" p).map A6E).map strI).length*16≤16777216)) (some (V.s (.str (Txt.join "" p.1) (p.2+ (((ps.filter fun p=>inS ":" p).map A6E).map strI).length*16)))))=_
  rw [C2H (by decide),B2Z]
  refine(C2H (a0Q ?_)).trans rfl
  ·have h1:=List.length_filter_le (fun p=>inS ":" p) ps
   simp only [a1D]
   lia
 show Ex G 818 c A m own (exec (Stmt.If _ _ _ _) c.env) _
 with_reducible refine A3B tst fun own'=> ?_
 cases hb2:inS "d" (A9P ps) with
 | true=>exact A2h (hm own')
 | false=>
  obtain⟨e2,e3⟩:=hd hb2
  have t2:=g.ra.T a1 ok room eB (hn own')
  rw [e2,a1V] at t2
  refine Ex.one (B7c (hm own') (A2j (b:=false) t2 (fun Ω own2=>A2j (b:=false) (A1X rfl (B0X g ok ho room he (by rw [←a0C];exact hm _) rfl rfl (by decide)) (fun own3=>B0X g ok ho room he (by rw [←a0C,←a0C];exact hm _) rfl rfl (by decide)) ?_) (fun Ω own3=>evT_or_nil) nofun) nofun))
  have:=B4W (G:=G) (A:=A) (a:=x.vf) (b:=y.vf)
  rw [e3,a1V] at this
  rw [e3];exact this
end
noncomputable def B8a (x:Str):Nat:=x.cps.toList.headD 0
theorem B3L (a b:Nat):ltCps [a] [b]=decide (a<b):=by
 rw [ltCps_eq]
 exact decide_eq_decide.mpr (by simp [List.cons_lt_cons_iff])
theorem A4N: ∀ {p:Str} {l:List Str},(∀ a∈p::l,∃ c,a=⟨#[c]⟩)→risingS p l=true→(p::l).Pairwise fun a b=>B8a a≤B8a b
 | p,[],_,_=>List.pairwise_singleton _ _
 | p,x::r,h1,h=>by
  simp only [risingS,a1B,Bool.not_eq_true'] at h
  have ih:=A4N (p:=x) (l:=r) (fun a ha=>h1 a (.tail _ ha)) h.2
  obtain⟨c,rfl⟩:=h1 p (.head _)
  obtain⟨e,rfl⟩:=h1 x (.tail _ (.head _))
  have hce:c≤e:=by
   have:=h.1
   change ltCps [e] [c]=false at this
   rw [B3L] at this
   exact Nat.not_lt.mp (of_decide_eq_false this)
  refine List.pairwise_cons.mpr ⟨fun a ha=> ?_,ih⟩
  rcases a0T.mp ha with rfl| ha
  ·exact hce
  ·exact a0F hce ((List.pairwise_cons.mp ih).1 a ha)
theorem A8Z {x:Str}{ss:List Str}(hp:ss.Perm (signs x))(hs:ss.Pairwise fun a b=>B8a a≤B8a b): ∀ ss':List Str,ss'.Perm (signs x)→sortedS ss'=true→ss'=ss:=by
 intro ss' h1 h2
 have one: ∀ a∈signs x,∃ c,a=(⟨#[c]⟩:Str):=fun a ha=>by
  obtain⟨c,_,rfl⟩:=List.mem_map.mp ha
  exact⟨c,rfl⟩
 have hp':ss'.Pairwise fun a b=>B8a a≤B8a b:=by
  cases ss' with
  | nil=>exact List.Pairwise.nil
  | cons p l=>exact A4N (fun a ha=>one a (h1.mem_iff.mp ha)) h2
 refine List.Perm.eq_of_pairwise (fun a b ha hb h3 h4=> ?_) hp' hs (h1.trans hp.symm)
 obtain⟨c,rfl⟩:=one a (h1.mem_iff.mp ha)
 obtain⟨e,rfl⟩:=one b (hp.mem_iff.mp hb)
 have:c=e:=Nat.le_antisymm h3 h4
 rw [this]
theorem f16 (P:Params)(x y z:ND)(tx:Str)(I:List (List UInt8))(k:Int)(ps:List Str)(L:Addr):(ra P).E 130 (nmF (KF P) (dL P L) (ρD x y z tx I k ps)) (.Attribute (.Name "one" (A0h A1Z 1)) "properties" (A0h A1Z 2))=some (.s (.str ⟨#[110,100,111]⟩ 3))∧
 (ra P).E 130 (nmF (KF P) (dL P L) (ρD x y z tx I k ps)) (.List [(.Constant (.str "d") 0 (A0h A1Z 4)),(.Constant (.str "n") 0 (A0h A1Z 5)),(.Constant (.str "o") 0 (A0h A1Z 6))] (A0h A1Z 7))=some (.list ([⟨#[100]⟩,⟨#[110]⟩,⟨#[111]⟩].map strI))∧
 (ra P).E 130 (nmF (KF P) (dL P L) (ρD x y z tx I k ps)) (.Attribute (.Name "two" (A0h A1Z 10)) "properties" (A0h A1Z 11))=some (.s (.str ⟨#[110,100,117,111]⟩ 4))∧
 (ra P).E 130 (nmF (KF P) (dL P L) (ρD x y z tx I k ps)) (.List [(.Constant (.str "d") 0 (A0h A1Z 13)),(.Constant (.str "n") 0 (A0h A1Z 14)),(.Constant (.str "o") 0 (A0h A1Z 15)),(.Constant (.str "u") 0 (A0h A1Z 16))] (A0h A1Z 17))=some (.list ([⟨#[100]⟩,⟨#[110]⟩,⟨#[111]⟩,⟨#[117]⟩].map strI))∧
 (ra P).E 130 (nmF (KF P) (dL P L) (ρD x y z tx I k ps)) (.Call (.Attribute (.Name "plain" (A0h A1Z 19)) "compile" (A0h A1Z 20)) [] [] (A0h A1Z 21))=some (.s (.bytes (x.hd::x.tl) (Bd 4)))∧
 (∀ ρ:Loc,nmF (KF P) (dL P L) ρ "sorted" =some (.k (.builtin "sorted")))∧A0L (KF P) (.builtin "sorted")=true∧((A0h A1Z 23).endLine==(A0h A1Z 25).line)=true:=by and_intros<;>intros<;>kernel_rfl
section
variable {r r':V}{x y z:ND}{tx:Str}{I:List (List UInt8)}{k:Int}{ps:List Str}
theorem C0g {e1 e2 e3:Expr}(h1:Ev G C₀ c A m own (eval e1 env) (.s (.bool true)))(h2: ∀ own',Ev G C₀ c A m (own'++own) (eval e2 env) (.s (.bool true)))(h3: ∀ own',Ev G C₀ c A m (own'++own) (eval e3 env) (.s (.bool true))):Ev G C₀ c A m own (eval (.BoolOp .And [e1,e2,e3] pos) env) (.s (.bool true)):=by
 intro s Q E S q
 refine BoolOp_and (h1 s _ E S fun own' v s' S' R=> ?_)
 refine R.sE fun _=> ?_
 rename_i hb
 refine hb.boolE ?_
 refine a2C (BoolOp_and (h2 own' s' _ E S' fun own2 v s2 S2 R=> ?_))
 refine R.sE fun _=> ?_
 rename_i hb
 refine hb.boolE ?_
 refine a2C (BoolOp_one (h3 (own2++own') s2 _ E S2.asc fun own3 v s3 S3 R=> ?_))
 exact q (own3++ (own2++own')) v s3 S3.asc (by rw [a0C];exact R)
theorem C2O {op:CmpOp}{l e:Expr}{a b:SV}{x:Bool}(hm:A0Y op e=true)(hl:Ev G C₀ c A m own (eval l env) (.s a))(hr: ∀ own',Ev G C₀ c A m (own'++own) (eval e env) (.s b))(hx:B0a G A op a b x):
  Ev G C₀ c A m own (eval (.Compare l [op] [e] pos) env) (.s (.bool x)):=by
 intro s Q E S q
 refine wpAny_Compare1 (hl s _ E S fun own' va s' S' R=>hr own' s' _ E S' fun own'' vb s'' S'' R'=> ?_) (xn hm)
 refine R.sE fun _=> ?_;refine R'.sE fun _=> ?_
 rename_i ha hb
 exact hx _ _ _ _ _ ha hb (q (own''++own') _ _ S''.asc (.s .bool))
theorem B8l {l e:Expr}{xs:List Str}(ok:c.Ok G A)(room:Room A 130)(hm:A0Y .Eq e=true)(hl:Ev G C₀ c A m own (eval l env) (.list (xs.map strI)))(hr: ∀ own',Ev G C₀ c A m (own'++own) (eval e env) (.list (xs.map strI)))
  (hx: ∀ x∈xs,x.cps.all (· <0x110000)=true):Ev G C₀ c A m own (eval (.Compare l [.Eq] [e] pos) env) (.s (.bool true)):=by
 intro s Q E S q
 refine wpAny_Compare1 (hl s _ E S fun own' va s' S' R=>hr own' s' _ E S' fun own'' vb s'' S'' R'=> ?_) (xn hm)
 have S3:St c m ((own''++own')++own) s'':=by rw [a0C];exact S''
 have R1:=R.mono (A0a (own':=own''))
 refine R1.listE fun Ω Ω Ω z1 R1=> ?_
 refine R'.listE fun Ω Ω Ω z2 R2=> ?_
 have l1:s''.heap.IsList _ _:=⟨_,S''.get ok z1,rfl,_,rfl⟩
 have l2:s''.heap.IsList _ _:=⟨_,S''.get ok z2,rfl,_,rfl⟩
 have hu:A.units+64<cLine:=by have:=room.2;lia
 refine eq_dataH_same (reads_newData l1 (A0P (A2e R1))) (reads_newData l2 (A0P (A2e R2))) (A1a hx) (A1a hx) hu (SeqAt.noMix_of_shape (.list .str) rfl _ _ (list_map_has fun Ω=>rfl) (list_map_has fun Ω=>rfl)) ?_
 rw [show PySem.Spec.same (.list (xs.map PyData.str)) (.list (xs.map PyData.str))=decide (xs=xs) from A1N xs xs,a0Q rfl]
 exact q (own''++own') _ _ S3 (.s .bool)
theorem C6w (g:GOk G)(ok:c.Ok G A)(room:Room A 130)(he:c.env=(dL G.w.params c.L).env f c.L)(hl:Locs G 818 (vis c own) m (ρD x y z tx I k ps))(hI:I.length<1000)(e1:(x.hd::x.tl).reverse=I.flatten):Ex G 818 c A m own (exec (lw G.w.params 16) c.env) (.ret (.s (.bool true))):=by
 rw [B8I]
 obtain⟨a1,a2,a3,a4,a5,n1,n2,p1⟩:=f16 G.w.params x y z tx I k ps c.L
 generalize A0h A1Z=q at*
 rw [←g.K] at a1 a2 a3 a4 a5 n1 n2
 have hn: ∀ own',NamesOk G 818 c A m (own'++own) c.env (nmF G.K (dL G.w.params c.L) (ρD x y z tx I k ps)):=fun own'=>A0f ok he (hl.mono A0a)
 have eB:=A0n he
 have srt: ∀ {own':List (Addr×Obj)} {a:Expr} {u:Str} {kk:Nat} {ss:List Str} {p4 p5:Pos},A0g a=true→(ra G.w.params).E 130 (nmF G.K (dL G.w.params c.L) (ρD x y z tx I k ps)) a=some (.s (.str u kk))→u.cps.size<64→ss.Perm (signs u)→(ss.Pairwise fun a b=>B8a a≤B8a b)→Ev G 818 c A m (own'++own) (eval (.Call (.Name "sorted" p4) [a] [] p5) c.env) (.list (ss.map strI)):=fun {own' a u kk ss p4 p5} hs ha h6 h1 h2=>
  (A0z (P:=fun Z w=>Rep G 818 Z w (.list (ss.map strI))) ok (by simp [hs]) n2 (hn _ "sorted" p4 _ [] (n1 _)) (fun own2=>A0s hs (g.ra.E ha ok room eB (A0f ok he hl.m3)) fun Ω=>A0N) fun own2 vs R=>by
   refine R.consE fun Ω Ω R1 R=> ?_
   refine R.nilE ?_
   have R1:=R1.sI
   exact B2p ok.free h6 (A8Z h1 h2) R1).evF
 refine A2i (C0g (B8l ok room rfl (srt (own':= []) rfl a1 (by decide) (by decide) (by decide)) (fun own'=>g.ra.E a2 ok room eB (hn own')) (by decide+kernel)) (fun own'=>B8l ok room rfl (srt rfl a3 (by decide) (by decide) (by decide)) (fun own2=>g.ra.E a4 ok room eB (by rw [←a0C];exact hn _)) (by decide+kernel)) fun own'=>
  C2O (b:= .bytes (I.flatten).reverse (77*I.length)) rfl (g.ra.E a5 ok room eB (hn own')) (fun own2=> ?_) ?_)
 ·have:=A4z (c:=c) (A:=A) (m:=m) (own:=own2++ (own'++own)) (C₀:=818) (env:=c.env) (lx:= .Name "items" (q 24)) (q:=0) (p1:=q 22) (p2:=q 23) (p3:=q 25) (l:=I) (f:=id) g.ra ok room p1 rfl (by lia) fun own3=>A3Z g ok he hl.m3 rfl rfl (by decide)
  rw [List.map_id] at this
  exact this
 ·have:=B4Y (G:=G) (A:=A) (x:=x.hd::x.tl) (y:=(I.flatten).reverse) (n:=Bd 4) (k:=77*I.length)
  rw [a1M,e1,a2B] at this
  exact this
end
noncomputable def sw0 (q:Nat→Pos):Stmt:=(.Assign [(.Name "depth" (q 0))] (.BinOp (.Constant (.int 1) 0 (q 1)) .Add (.BinOp (.Call (.Name "_law_number" (q 2)) [(.Name "script" (q 3)),(.Constant (.int 0) 0 (q 4))] [] (q 5)) .Mod (.Constant (.int 2) 0 (q 6)) (q 7)) (q 8)) (q 9))
noncomputable def C3t:List (Nat×Nat×Nat×Nat):=onL 1414 [4,9,12,13,16,27,28,34,36,37,16,38,41,42,16,42,12,42,4,42]
theorem C1i (P:Params):lw P 0=sw0 (A0h C3t):=by kernel_rfl
noncomputable def sw4 (q:Nat→Pos):Stmt:=(.Assign [(.Tuple [(.Name "leaf" (q 0)),(.Name "other" (q 1))] 0 (q 2))] (.Tuple [(.Call (.Name "_law_made" (q 3)) [(.Name "script" (q 4)),(.Constant (.int 1) 0 (q 5)),(.Name "depth" (q 6)),(.Constant (.bool true) 0 (q 7)),(.Name "_law_old" (q 8))] [] (q 9)),(.Call (.Name "_law_made" (q 10)) [(.Name "script" (q 11)),(.Constant (.int 1) 0 (q 12)),(.Name "depth" (q 13)),(.Constant (.bool false) 0 (q 14)),(.Name "_law_new" (q 15))] [] (q 16))] 0 (q 17)) (q 18))
noncomputable def B1t:List (Nat×Nat×Nat×Nat):=onL 1418 [4,8,10,15,4,15,19,28,29,35,37,38,40,45,47,51,53,61,19,62,64,73,74,80,82,83,85,90,92,97,99,107,64,108,18,109,4,109]
theorem C1h (P:Params):lw P 4=sw4 (A0h B1t):=by kernel_rfl
noncomputable def mk (t nw:Bool)(l:List Int)(dp:Int):ND:=if dp=1 then B1U t nw l 1 else C2g t nw l 1
noncomputable def ρ00 (l:List Int):Loc:= [("script",.list (A0D l))]
noncomputable def ρ01 (l:List Int)(dp:Int):Loc:=("depth",.s (.int dp))::ρ00 l
noncomputable def ρ02 (l:List Int)(dp:Int)(x:ND):Loc:=("plain",.abs (A0d 4 x))::ρ01 l dp
noncomputable def ρ03 (l:List Int)(dp:Int)(x:ND)(I:List (List UInt8)):Loc:=("items",.list (itV I))::ρ02 l dp x
noncomputable def ρ04 (l:List Int)(dp:Int)(x:ND)(I:List (List UInt8)):Loc:=("text",.s (.str x.tx (Bd 4)))::ρ03 l dp x I
theorem f0 (P:Params)(L:Addr):(∀ l:List Int,A3M (ra P) 130 (nmF (KF P) (dL P L) (ρ00 l)) [(.Name "script" (A0h C3t 3)),(.Constant (.int 0) 0 (A0h C3t 4))]=some [.list (A0D l),.s (.int 0)])∧
 (∀ ρ:Loc,nmF (KF P) (dL P L) ρ "_law_number" =some (.k (.ref 2404)))∧A0L (KF P) (.ref 2404)=true∧A0L (KF P) (.ref 2425)=true∧A0L (KF P) (.ref 2432)=true:=by and_intros<;>intros<;>kernel_rfl
theorem f1 (P:Params)(L:Addr):(A8H (lw P 1)=true∧B5l (lw P 1)= "plain" ∧A8H (lw P 2)=true∧B5l (lw P 2)= "items")∧(∀ ρ:Loc,nmF (KF P) (dL P L) ρ (B7z (lw P 1))=some (.k (.ref 2425))∧nmF (KF P) (dL P L) ρ (B7z (lw P 2))=some (.k (.ref 2432)))∧
  (∀ (l:List Int) (dp:Int),A3M (ra P) 130 (nmF (KF P) (dL P L) (ρ01 l dp)) (A7q (lw P 1))=some [.list (A0D l),.s (.int 1),.s (.int dp),.s (.bool false),.k (.ref (wA false))])∧
  (∀ (l:List Int) (dp:Int) (x:ND),A3M (ra P) 130 (nmF (KF P) (dL P L) (ρ02 l dp x)) (A7q (lw P 2))=some [.s (.bytes (x.hd::x.tl) (Bd 4))])∧
  (∀ (l:List Int) (dp:Int) (x:ND) (I:List (List UInt8)),sta P (dL P L) (ρ03 l dp x I) (lw P 3)=some (.nxt ["text"] (ρ04 l dp x I))):=
 ⟨by and_intros<;>kernel_rfl,fun ρ=>by and_intros<;>kernel_rfl,fun l dp=>by kernel_rfl,fun l dp x=>by kernel_rfl,fun l dp x I=>by kernel_rfl⟩
theorem f4 (P:Params)(L:Addr):(∀ (l:List Int) (dp:Int) (x:ND) (I:List (List UInt8)),A3M (ra P) 130 (nmF (KF P) (dL P L) (ρ04 l dp x I)) [(.Name "script" (A0h B1t 4)),(.Constant (.int 1) 0 (A0h B1t 5)),(.Name "depth" (A0h B1t 6)),(.Constant (.bool true) 0 (A0h B1t 7)),(.Name "_law_old" (A0h B1t 8))]=some [.list (A0D l),.s (.int 1),.s (.int dp),.s (.bool true),.k (.ref (wA false))])∧
 (∀ (l:List Int) (dp:Int) (x:ND) (I:List (List UInt8)),A3M (ra P) 130 (nmF (KF P) (dL P L) (ρ04 l dp x I)) [(.Name "script" (A0h B1t 11)),(.Constant (.int 1) 0 (A0h B1t 12)),(.Name "depth" (A0h B1t 13)),(.Constant (.bool false) 0 (A0h B1t 14)),(.Name "_law_new" (A0h B1t 15))]=some [.list (A0D l),.s (.int 1),.s (.int dp),.s (.bool false),.k (.ref (wA true))])∧
 (∀ ρ:Loc,nmF (KF P) (dL P L) ρ "_law_made" =some (.k (.ref 2425)))∧(match sw4 (A0h B1t) with| .Assign [.Tuple ts _ _] (.Tuple vs _ _) _=>A4F (dL P L) ts vs| _=>none)=some (["leaf","other"]:List Str):=by and_intros<;>intros<;>kernel_rfl
section
variable {r r':V}{x y z:ND}{tx:Str}{I:List (List UInt8)}{l:List Int}{dp:Int}
theorem A6J (g:GOk G){nw:Bool}(hc:(t&&nw)=false)(hlen:l.length≤63)(hdp:dp=1∨dp=2)(R:Reps G 818 Z vs [.list (A0D l),.s (.int 1),.s (.int dp),.s (.bool t),.k (.ref (wA nw))]):
  Calls G 818 133 Z 2425 ⟨vs,[]⟩ (fun H w=>Rep G 818 H w (.abs (A0d 4 (mk t nw l dp)))) False:=by
 unfold mk
 rcases hdp with rfl| rfl
 ·rw [if_pos rfl]
  exact(A9n g hc hlen R).mono (by decide) Held.le.rfl (fun Ω Ω h=>h.up (by decide)) id
 ·rw [if_neg (by decide)]
  exact A9m g hc hlen R
theorem C0e {op:Operator}{l e:Expr}{a b x:SV}(hl:Ev G C₀ c A m own (eval l env) (.s a))(hr: ∀ own',Ev G C₀ c A m (own'++own) (eval e env) (.s b))(hx:C4X op a b=some x):
  Ev G C₀ c A m own (eval (.BinOp l op e pos) env) (.s x):=by
 intro s Q E S q
 refine wpAny_BinOp (hl s _ E S fun own' va s' S' R=>hr own' s' _ E S' fun own'' vb s'' S'' R'=> ?_)
 refine R.sE fun _=> ?_;refine R'.sE fun _=> ?_
 rename_i ha hb
 exact B1g ha hb hx fun v tk h=>q (own''++own') v _ (by rw [a0C];exact S''.tok _) (.s h)
theorem ls1 (g:GOk G)(ok:c.Ok G A)(room:Room A 140)(he:c.env=(dL G.w.params c.L).env f c.L)(hlen:l.length≤63)(hdp:dp=1∨dp=2)(hl:Locs G 818 (vis c own) m (ρ01 l dp)):Ex G 818 c A m own (exec (lw G.w.params 1) c.env) (.nxt ["plain"] (ρ02 l dp (mk false false l dp))):=by
 obtain⟨⟨b1,b2,_,_⟩,n1,a1,_,_⟩:=f1 G.w.params c.L
 obtain⟨_,_,_,k1,_⟩:=f0 G.w.params c.L
 have a1:=a1 l dp
 have n1:=(n1 (ρ01 l dp)).1
 rw [←g.K] at a1 n1 k1
 have lo:=a0D (a0J.mp (A1e G.w.params c.L).1 "plain" (List.elem_iff.mp rfl))
 have:=A4c g.ra ok (room.less (by decide)) he hl b1 (by rw [b2];exact lo) n1 k1 a1 fun own' vs R=>A0I ok (room.less (by decide)) (A6J g rfl hlen hdp R) Held.le.rfl
 rw [b2] at this
 exact this
theorem ls2 (g:GOk G)(ok:c.Ok G A)(room:Room A 140)(he:c.env=(dL G.w.params c.L).env f c.L)(hx:(x.hd::x.tl).length≤1000)(hl:Locs G 818 (vis c own) m (ρ02 l dp x)):Ex G 818 c A m own (exec (lw G.w.params 2) c.env) (.nxt ["items"] (ρ03 l dp x (A0C (x.hd::x.tl).reverse))):=by
 obtain⟨⟨_,_,b1,b2⟩,n1,_,a1,_⟩:=f1 G.w.params c.L
 obtain⟨_,_,_,_,k1⟩:=f0 G.w.params c.L
 have a1:=a1 l dp x
 have n1:=(n1 (ρ02 l dp x)).2
 rw [←g.K] at a1 n1 k1
 have lo:=a0D (a0J.mp (A1e G.w.params c.L).1 "items" (List.elem_iff.mp rfl))
 have:=A4c g.ra ok (room.less (by decide)) he hl b1 (by rw [b2];exact lo) n1 k1 a1 fun own' vs R=>A0I ok (room.less (by decide)) (A9u g hx R) Held.le.rfl
 rw [b2] at this
 exact this
theorem ls4 (g:GOk G)(ok:c.Ok G A)(room:Room A 140)(he:c.env=(dL G.w.params c.L).env f c.L)(hlen:l.length≤63)(hdp:dp=1∨dp=2)(hl:Locs G 818 (vis c own) m (ρ04 l dp x I)):
  Ex G 818 c A m own (exec (lw G.w.params 4) c.env) (.nxt ["other","leaf"] (("leaf",.abs (A0d 4 (mk true false l dp)))::("other",.abs (A0d 4 (mk false true l dp)))::ρ04 l dp x I)):=by
 rw [C1h]
 obtain⟨a1,a2,n1,sw⟩:=f4 G.w.params c.L
 obtain⟨_,_,_,k1,_⟩:=f0 G.w.params c.L
 have a1:=a1 l dp x I
 have a2:=a2 l dp x I
 generalize A0h B1t=q at*
 rw [←g.K] at a1 a2 n1 k1
 have hn: ∀ own',NamesOk G 818 c A m (own'++own) c.env (nmF G.K (dL G.w.params c.L) (ρ04 l dp x I)):=fun own'=>A0f ok he (hl.mono A0a)
 have lo:=(A1e G.w.params c.L).1
 have hk: ∀ X,c.env.kindOf X=(dL G.w.params c.L).scope.names.lookup X:=fun X=>by rw [he];rfl
 have:=A3C (c:=c) (A:=A) (m:=m) (own:=own) (ρ:=ρ04 l dp x I) (G:=G) (C₀:=818) (xs:= ["leaf","other"]) (rs:= [.abs (A0d 4 (mk true false l dp)),.abs (A0d 4 (mk false true l dp))]) (pos:=q 18) (tp:=q 2) (k:=0) ok he (A3X (k2:=0) (p2:=q 17) sw hk (by rw [he];rfl)) (fun X hX=>a0D (a0J.mp lo X (by simp at hX ⊢;rcases hX with h| h<;>simp [h]))) rfl hl
  (A7f (by simp) (A0s rfl ((A0z (P:=fun Z w=>Rep G 818 Z w (.abs (A0d 4 (mk true false l dp)))) ok rfl k1 (hn [] "_law_made" (q 3) _ [] (n1 _)) (fun own2=>A0u g.ra ok (room.less (by decide)) (A0n he) a1 (A0f ok he (hl.mono fun a o h=>h.imp id fun z=>by simp [z]))) fun own2 vs R=>A0I ok (room.less (by decide)) (A6J g rfl hlen hdp R) Held.le.rfl).evF)
   fun own'=>A0s rfl ((A0z (P:=fun Z w=>Rep G 818 Z w (.abs (A0d 4 (mk false true l dp)))) ok rfl k1 (hn own' "_law_made" (q 10) _ [] (n1 _)) (fun own2=>A0u g.ra ok (room.less (by decide)) (A0n he) a2 (A0f ok he (hl.mono fun a o h=>h.imp id fun z=>by simp [z]))) fun own2 vs R=>A0I ok (room.less (by decide)) (A6J g rfl hlen hdp R) Held.le.rfl).evF) fun Ω=>A0N))
 exact this
end
structure LawOk (x y z:ND):Prop where
 len:(x.hd::x.tl).length≤999
 e1:(y.hd::y.tl).reverse=((A0C (x.hd::x.tl).reverse).map (A0Q (tt6 3))).flatten
 e2:(z.hd::z.tl).reverse=((A0C (x.hd::x.tl).reverse).map (A0Q (tn7 9))).flatten
 l1:x.ln=((x.hd::x.tl).length:Nat)
 l2:y.ln=x.ln - (((A0C (x.hd::x.tl).reverse).filter A3y).length:Nat)
 l3:z.ln=x.ln
 t1:y.tx=x.tx
 t2:A8L z.tx=(A8L x.tx).map (A0Q (tw7 9))
 ta: ∀ p∈A8L z.tx,p.cps.all (· <0x110000)=true
 tl:x.tx.length≤999
 ty:x.ty=z.ty
 ps:x.ps=z.ps
 vf:x.vf=z.vf
 ty':x.ty=y.ty
 dd:inS "d" (A9P (A8L x.tx))=false→x.ps=y.ps∧x.vf=y.vf
theorem A5b: ∀ (n:Nat) (l:List UInt8),l.length≤n→(A2w n l).flatten=l
 | 0,[],_=>rfl
 | 0,_::_,h=>by cases h
 | n+1,[],_=>rfl
 | n+1,b::r,h=>by
  have hl:(r.drop (A2Y b)).length≤n:=by rw [List.length_drop];simp only [a1T] at h;lia
  show (b::r.take (A2Y b))++ (A2w n (r.drop (A2Y b))).flatten=_
  rw [A5b n _ hl,List.cons_append,List.take_append_drop]
theorem A5a (l:List UInt8):(A0C l).flatten=l:=A5b _ _ (a0K _)
theorem A6c: ∀ (n:Nat) (l:List UInt8),(A2w n l).length≤l.length
 | 0,_=>a2K _
 | n+1,[]=>a0K _
 | n+1,b::r=>by
  have:=A6c n (r.drop (A2Y b))
  rw [List.length_drop] at this
  show (A2w n (r.drop (A2Y b))).length+1≤r.length+1
  lia
theorem A7Z: ∀ (n:Nat) (l:List UInt8),∀ it∈A2w n l,it.length≤77
 | 0,_,it,h=>nomatch h
 | n+1,[],it,h=>nomatch h
 | n+1,b::r,it,h=>by
  rcases a0T.mp h with rfl| h
  ·have:A2Y b≤76:=by unfold A2Y;split<;>lia
   simp only [a1T,List.length_take]
   lia
  ·exact A7Z n _ it h
theorem B8H:((tt6 3).all fun q=>decide (q.2.length≤77))=true∧((tn7 9).all fun q=>decide (q.2.length≤77))=true:=by and_intros<;>kernel_rfl
theorem B3n (x:Str):(spT x).length≤x.length:=by
 obtain⟨l1,l2,l3,l4,_⟩:=lit_eq
 unfold spT
 rw [l1,l2,l3,l4]
 exact a0F (A1c _ _ _) (a0F (A1c _ _ _) (A1c _ _ _))
theorem A7l (x:Str):A8L x=(A2W 32 (spT x).cps.toList).map fun l=>⟨l.toArray⟩:=by
 unfold A8L
 rw [lit_eq.2.2.2.1]
 exact A3q _ _
theorem B7r (x:Str):(A8L x).length≤x.length+1:=by
 rw [A7l,a1D]
 have h1:=A5p 32 (spT x).cps.toList
 have h2:=B3n x
 rw [a1X] at h1
 exact a0F h1 (a1Y h2)
theorem B7q (x:Str):((A8L x).map (·.length)).sum≤x.length:=by
 rw [A7l,List.map_map]
 have h1:=A7n 32 (spT x).cps.toList
 have h2:=B3n x
 rw [a1X] at h1
 refine a0F (Nat.le_of_eq (congrArg List.sum (List.map_congr_left fun a Ω=> ?_))) (a0F h1 h2)
 show (a.toArray).size=a.length
 exact a1N ..
theorem B5T (p:Str):(A6E p).length≤p.length:=by
 unfold A6E
 rw [lit_eq.2.2.2.2.1,A3q]
 have h:=A7n 58 p.cps.toList
 rw [a1X] at h
 cases he:A2W 58 p.cps.toList with
 | nil=>exact a2K _
 | cons a r=>
  rw [he] at h
  simp only [a0V,a2L] at h
  show (a.toArray).size≤_
  rw [a1N]
  exact a0F (a2H _ _) h
theorem A3o (f:Str→Bool): ∀ l:List Str,(((l.filter f).map A6E).map (·.length)).sum≤ (l.map (·.length)).sum
 | []=>a0K _
 | a::l=>by
  have ih:=A3o f l
  have:=B5T a
  rw [List.filter_cons]
  split
  ·simp only [a0V,a2L];lia
  ·simp only [a0V,a2L];lia
theorem A6a: ∀ (l:List Str) (a:Str),a∈l→a.length≤ (l.map (·.length)).sum
 | b::l,a,h=>by
  simp only [a0V,a2L]
  rcases a0T.mp h with rfl| h
  ·lia
  ·have:=A6a l a h;lia
theorem C3d (P:Params):(A0c P 2444).body= [lw P 0,lw P 1,lw P 2,lw P 3,lw P 4,lw P 5,lw P 6,lw P 7,lw P 8,lw P 9,lw P 10,lw P 11,lw P 12,lw P 13,lw P 14,lw P 15,lw P 16]:=by kernel_rfl
theorem C2R (n:Int):1+n.fmod 2=1∨1+n.fmod 2=2:=by
 have h:n.fmod 2=n%2:=Int.fmod_eq_emod_of_nonneg _ (by decide)
 rw [h];lia
section
variable {Q:Flow→Shared→Prop}{x y z:ND}{l:List Int}
theorem A6r {st:Stmt}{rest:List Stmt}{as:List Str}{ρ':Loc}(h:ExK G C₀ c A m own (exec st c.env) (.nxt as ρ'))(S:St c m own s)(h1:1≤s.toks)(hpo:PassesOwn G.M A c.env E)
  (k: ∀ own' m' s',St c m' (own'++own) s'→1≤s'.toks→Locs G C₀ (vis c (own'++own)) m' ρ'→(∀ y,y∉as→m' y=m y)→wpAny G.M A (execs rest c.env) Q E s'):wpAny G.M A (execs (st::rest) c.env) Q E s:=by
 refine A3A (P:=fun s'=> ∃ own' m',St c m' (own'++own) s'∧Locs G C₀ (vis c (own'++own)) m' ρ'∧ ∀ y,y∉as→m' y=m y) h1 (h s _ E S h1 ⟨fun q=>(nomatch q),fun q=>(nomatch q),hpo⟩ fun own' m' fl s' S' R=>⟨R.1,own',m',S',R.2⟩) fun s' z h2=> ?_
 obtain⟨own',m',S',a,b⟩:=z
 exact k own' m' s' S' h2 a b
theorem B9x (g:GOk G)(ok:c.Ok G A)(ho:c.outer= [])(room:Room A 130)(he:c.env=(dL G.w.params c.L).env f c.L){dn dw dt:Addr}{on ow ot:Obj}(LO:LawOk x y z)(hl:Locs G 818 (vis c own) m (ρA x y z x.tx (A0C (x.hd::x.tl).reverse)))
  (T1:CellD c own (c.L+1) dn on) (T2:CellD c own (c.L+2) dw ow) (T3:CellD c own (c.L+3) dt ot) (D1:DB G on (tn7 9)) (D2:DS G ow (tw7 9)) (D3:DB G ot (tt6 3)):
  ExK G 818 c A m own (execs [lw G.w.params 8,lw G.w.params 9,lw G.w.params 10,lw G.w.params 11,lw G.w.params 12,lw G.w.params 13,lw G.w.params 14,lw G.w.params 15,lw G.w.params 16] c.env) (.ret (.s (.bool true))):=by
 have hI:(A0C (x.hd::x.tl).reverse).length<1000:=by
  have h1:=A6c (x.hd::x.tl).reverse.length (x.hd::x.tl).reverse
  have h2:=LO.len
  rw [a0O] at h1
  show (A2w _ _).length<_
  rw [a0O]
  lia
 have hf:=A5a (x.hd::x.tl).reverse
 have h77:=A7Z (x.hd::x.tl).reverse.length (x.hd::x.tl).reverse
 have L1:=LO.l1
 rw [←a0O,←hf] at L1
 have hp:=B7r x.tx
 have hs:=B7q x.tx
 have htl:=LO.tl
 obtain⟨b1,b2⟩:=B8H
 refine A1S (res:= .ret _) (st8 g ok room he hl (Nat.le_of_lt hI) h77 T3 D3 T1 D1 (fun q hq=>a0B (a0J.mp b1 q hq)) (fun q hq=>a0B (a0J.mp b2 q hq)) LO.e1 LO.e2).K fun o1 m1 hl1 Ω=> ?_
 refine A1S (res:= .ret _) (ls9 g ok room he hl1 hI).K fun o2 m2 hl2 Ω=> ?_
 refine A1S (res:= .ret _) (C6B g ok room he hl2 hI L1 LO.l2 LO.l3).K fun o3 m3 hl3 Ω=> ?_
 refine A1S (res:= .ret _) (C6A g ok he hl3) fun o4 m4 hl4 Ω=> ?_
 refine A1S (res:= .ret _) (C6z g ok room he hl4 (by lia) T2.more.more.more.more D2 LO.t1 LO.t2 LO.ta) fun o5 m5 hl5 Ω=> ?_
 refine A1S (res:= .ret _) (C6y g ok ho room he hl5 LO.ty LO.ps LO.vf LO.ty').K fun o6 m6 hl6 Ω=> ?_
 refine A1S (res:= .ret _) (C6x g ok ho room he hl6 (by lia) (a0F (A3o _ _) (by lia)) (fun p hp=>a0F (A6a _ p hp) (by lia)) LO.dd).K fun o7 m7 hl7 Ω=> ?_
 refine A1S (res:= .ret _) (exa g (f15 G.w.params x y z x.tx (A0C (x.hd::x.tl).reverse) _ (A8L x.tx) c.L) ok room he hl7).K fun o8 m8 hl8 Ω=> ?_
 exact(Ex.one (C6w g ok room he hl8 hI hf.symm)).K
end
section
variable {G:Gx}{C₀:Addr}{c:Fc}{A:Around}{m:Str→Option Value}{own:List (Addr×Obj)}{n:Nat}{d:Fd}{f:Addr}{ρ:Loc}{s:Shared}{Q:Flow→Shared→Prop}{E:Value→Shared→Prop}{x y z:ND}{l:List Int}
theorem Locs.over {Z Z':Held}{m m':Str→Option Value}(h:Locs G C₀ Z m ρ)(k:(nc Z).le Z')(e: ∀ x r,ρ.lookup x=some r→m' x=m x):Locs G C₀ Z' m' ρ:=fun x r hx=>
 let ⟨v,a,b⟩:=h x r hx; ⟨v,(e x r hx).trans a,b.nc.mono k⟩
theorem C6C (g:GOk G)(ok:c.Ok G A)(room:Room A 140)(he:c.env=(dL G.w.params c.L).env f c.L)(hlen:l.length≤63)(hl:Locs G 818 (vis c own) m (ρ00 l))(S:St c m own s)
  (q: ∀ own' m' s',St c m' (own'++own) s'→1≤s'.toks→Locs G 818 (vis c (own'++own)) m' (ρ01 l (1+ (A1K l 0).fmod 2))→Q .next s'):wpAny G.M A (exec (lw G.w.params 0) c.env) Q E s:=by
 rw [C1i]
 obtain⟨a1,n1,n2,_,_⟩:=f0 G.w.params c.L
 have a1:=a1 l
 generalize A0h C3t=q' at*
 rw [←g.K] at a1 n1 n2
 have hn: ∀ own',NamesOk G 818 c A m (own'++own) c.env (nmF G.K (dL G.w.params c.L) (ρ00 l)):=fun own'=>A0f ok he (hl.mono A0a)
 refine wpAny_Assign_Name (wpAny_BinOp (a1J (wpAny_with_toks (n:=1) (a1Y (a2K _)) ?_))) (A0l rfl)
 have ev2:Ev G 818 c A m own (eval (.BinOp (.Call (.Name "_law_number" (q' 2)) [(.Name "script" (q' 3)),(.Constant (.int 0) 0 (q' 4))] [] (q' 5)) .Mod (.Constant (.int 2) 0 (q' 6)) (q' 7)) c.env) (.s (.int ((A1K l 0).fmod 2))):=by
  refine C0e (a:= .int (A1K l 0)) (b:= .int 2) ((A0z (P:=fun Z w=>Rep G 818 Z w (.s (.int (A1K l 0)))) ok rfl n2 (hn [] "_law_number" (q' 2) _ [] (n1 _)) (fun own2=>A0u g.ra ok (room.less (by decide)) (A0n he) a1 (A0f ok he (hl.mono fun a o h=>h.imp id fun z=>by simp [z]))) fun own2 vs R=>A0I ok (room.less (by decide)) (A1O g hlen (by decide) (by decide) R) Held.le.rfl).evF) (fun Ω=>A5h) ?_
  exact C2H (c:=decide ((2:Int)≠0)) (x:=some (SV.int ((A1K l 0).fmod 2))) (by decide)
 refine ev2 _ _ _ (S.tok _) fun own2 v s2 S2 R h2=> ?_
 have R:=R.sI
 refine wpAny_with_toks h2 (A5w (a:= .int 1) (b:= .int ((A1K l 0).fmod 2)) .int R rfl fun v tk h h3=> ?_)
 exact wpAny_with_toks h3 (A0o ok he (a0D (a0J.mp (A1e G.w.params c.L).1 "depth" (by simp))) (S2.tok tk) fun s'' S'' h4=>q own2 _ s'' S'' h4 ((hl.mono A0a).set (.s h)))
noncomputable abbrev ρ05 (l:List Int)(dp:Int)(x y z:ND)(I:List (List UInt8)):Loc:=("leaf",.abs (A0d 4 y))::("other",.abs (A0d 4 z))::ρ04 l dp x I
theorem B6E (g:GOk G)(ok:c.Ok G A)(ho:c.outer= [])(room:Room A 140)(he:c.env=(dL G.w.params c.L).env 2444 c.L)(hnews:c.news= []){cells:List (Addr×Obj)}(Y:CellsAre (fun Ω=>none) (cellsFrom (c.L+1) (A0c G.w.params 2444).scope.names []) cells)
  (S:St c m cells s) (hlen:l.length≤63) (hl:Locs G 818 c.H m (ρ00 l)) (LO:LawOk (mk false false l (1+ (A1K l 0).fmod 2)) (mk true false l (1+ (A1K l 0).fmod 2)) (mk false true l (1+ (A1K l 0).fmod 2))) (hpo:PassesOwn G.M A c.env E)
  (q: ∀ own m' s',St c m' own s'→Q (.ret (.bool true)) s'):wpAny G.M A (execs (A0c G.w.params 2444).body c.env) Q E s:=by
 obtain⟨c1,c2,c3,c4,c5,c6,c7,c8⟩:=A1E G.w.params c.L
 have ecl:cellsFrom (c.L+1) (A0c G.w.params 2444).scope.names []= [(("thin" :Str),c.L+3),("words",c.L+2),("names",c.L+1)]:=c8
 rw [ecl] at Y
 obtain⟨o3,o2,o1,rfl,d3,d2,d1⟩:=Y.three
 rw [C3d]
 have hdp:=C2R (A1K l 0)
 generalize hD:(1+ (A1K l 0).fmod 2:Int)=dp at*
 let c₁:Fc:=c.with [(c.L+3,o3),(c.L+2,o2),(c.L+1,o1)]
 have ok₁:c₁.Ok G A:=ok.with fun a o h=>(ok.le a o h).elim .inl fun z=>by rw [hnews] at z;cases z
 have S₁:St c₁ m [] s:=⟨S.F,fun p hp=>S.N p (by rw [hnews,a1H];exact hp),S.gens,S.os,S.dr⟩
 have hl₁:Locs G 818 (vis c₁ []) m (ρ00 l):=hl.mono fun a o h=> .inl h
 have he₁:c₁.env=(dL G.w.params c₁.L).env 2444 c₁.L:=he
 have r0:Room A 130:=room.less (by decide)
 have hl1000:=LO.len
 show wpAny G.M A (execs _ c₁.env) Q E s
 refine a0N (C6C (c:=c₁) g ok₁ room he₁ hlen hl₁ S₁ fun w1 m1 s1 S1 t1 hl1=> ?_)
 rw [hD] at hl1
 refine A6r (c:=c₁) (ls1 g ok₁ room he₁ hlen hdp hl1).K S1 t1 hpo fun w2 m2 s2 S2 t2 hl2 Ω=> ?_
 refine A6r (c:=c₁) (ls2 g ok₁ room he₁ (by lia) hl2).K S2 t2 hpo fun w3 m3 s3 S3 t3 hl3 Ω=> ?_
 refine A6r (c:=c₁) (exa g ((f1 G.w.params c₁.L).2.2.2.2 l dp _ _) ok₁ r0 he₁ hl3).K S3 t3 hpo fun sw4 m4 s4 S4 t4 hl4 Ω=> ?_
 refine A6r (c:=c₁) (ls4 g ok₁ room he₁ hlen hdp hl4).K S4 t4 hpo fun w5 m5 s5 S5 t5 hl5 Ω=> ?_
 generalize (w5++ (sw4++ (w3++ (w2++ (w1++ [])))))=own1 at S5 hl5
 clear S1 S2 S3 S4 hl1 hl2 hl3 hl4 S₁ hl₁
 let own2:=own1.filter fun p=>decide (p.1≠c.L+1)&&decide (p.1≠c.L+2)&&decide (p.1≠c.L+3)
 have in2: ∀ p,p∈own2→p∈own1∧p.1≠c.L+1∧p.1≠c.L+2∧p.1≠c.L+3:=fun p hp=>by
  exact x6 (List.mem_filter.mp hp).2 fun a b e=>⟨(List.mem_filter.mp hp).1,a0B a,a0B b,a0B e⟩
 have S6:St c m5 ((c.L+3,o3)::(c.L+2,o2)::(c.L+1,o1)::own2) s5:=⟨S5.F,fm (S5.N _ (a0G _ (.head _))) (fm (S5.N _ (a0G _ (.tail _ (.head _)))) (fm (S5.N _ (a0G _ (.tail _ (.tail _ (.head _))))) fun p hp=>S5.N p (a0H _ (in2 p (by have hp:p∈own2++c.news:=hp;rw [hnews,a1H] at hp;exact hp)).1))),S5.gens,S5.os,S5.dr⟩
 have notc: ∀ (k:Nat) (ob:Obj),(c.L+k,ob)∈ [(c.L+3,o3),(c.L+2,o2),(c.L+1,o1)]→ob.data= .cell none→ ∀ a o,(a,o)∈own1→o.data≠ .cell none→a≠c.L+k:=fun k ob h hd a o ha hn e=>by
  subst e
  have z1:=(S5.N (c.L+k,o) (a0H _ ha)).1
  have z2:=(S5.N (c.L+k,ob) (a0G _ h)).1
  rw [z1] at z2
  have:=a0E z2
  exact hn (by show o.data=_;rw [show o=ob from this];exact hd)
 have hl6:Locs G 818 (vis c own2) m5 (ρ05 l dp (mk false false l dp) (mk true false l dp) (mk false true l dp) (A0C ((mk false false l dp).hd::(mk false false l dp).tl).reverse)):=hl5.over (fun a o h=>h.1.elim .inl fun z=> .inr (List.mem_filter.mpr ⟨z,by
  rw [a0Q (notc 1 o1 (.tail _ (.tail _ (.head _))) d1 a o z h.2),a0Q (notc 2 o2 (.tail _ (.head _)) d2 a o z h.2),a0Q (notc 3 o3 (.head _) d3 a o z h.2)];rfl⟩)) fun Ω Ω Ω=>rfl
 generalize mk false false l dp=x at*
 generalize mk true false l dp=y at*
 generalize mk false true l dp=z at*
 show wpAny G.M A (execs _ c.env) Q E s5
 refine A3A (P:=fun s'=> ∃ dn dw dt on ow ot o1' o2' o3',St c m5 (DL dn dw dt on ow ot ((c.L+3,o3')::(c.L+2,o2')::(c.L+1,o1')::own2)) s'∧Fix c ((c.L+3,o3')::(c.L+2,o2')::(c.L+1,o1')::own2) dn dw dt∧DB G on []∧DS G ow []∧DB G ot []) t5
  (B4a g ok he d1 d2 d3 S6 (fun p hp=>by rw [hnews,a1H] at hp;exact(in2 p hp).2) fun dn dw dt on ow ot o1' o2' o3' s' a b e1 e2 e3=>⟨rfl,dn,dw,dt,on,ow,ot,o1',o2',o3',a,b,e1,e2,e3⟩) fun s6 z6 t6=> ?_
 obtain⟨dn,dw,dt,on,ow,ot,o1',o2',o3',S7,F7,e1,e2,e3⟩:=z6
 refine B3Z g ok r0 he F7 S7 e1 e2 e3 t6 hpo fun m7 s7 on7 ow7 ot7 hm S8 t7 D1 D2 D3=> ?_
 have hl7:Locs G 818 (vis c (DL dn dw dt on7 ow7 ot7 ((c.L+3,o3')::(c.L+2,o2')::(c.L+1,o1')::own2))) m7 (ρ05 l dp x y z (A0C (x.hd::x.tl).reverse)):=hl6.over (fun a o h=>h.1.imp id fun q=> .tail _ (.tail _ (.tail _ (.tail _ (.tail _ (.tail _ q)))))) fun v r hv=>hm v fun hy=>x0 ((fm (P:=fun v=>List.lookup v (ρ05 l dp x y z (A0C (x.hd::x.tl).reverse))=none) rfl (fm rfl (fm rfl (fm rfl fn))) v hy).symm.trans hv)
 have hl8:Locs G 818 (vis c (DL dn dw dt on7 ow7 ot7 ((c.L+3,o3')::(c.L+2,o2')::(c.L+1,o1')::own2))) m7 (ρA x y z x.tx (A0C (x.hd::x.tl).reverse)):=hl7.sub fun v r hv=>by
  show List.lookup v (ρA x y z x.tx (A0C (x.hd::x.tl).reverse)++ρ01 l dp)=_
  rw [A1i,hv];rfl
 have inb: ∀ {p:Addr×Obj},p∈ (c.L+3,o3')::(c.L+2,o2')::(c.L+1,o1')::own2→p∈DL dn dw dt on7 ow7 ot7 ((c.L+3,o3')::(c.L+2,o2')::(c.L+1,o1')::own2):=fun h=>a0P _ (.tail _ (.tail _ h))
 refine B9x g ok ho r0 he LO hl8 ⟨?_,.head _,F7.ln⟩ ⟨?_,.tail _ (.head _),F7.lw⟩ ⟨?_,.tail _ (.tail _ (.head _)),F7.lt⟩ D1 D2 D3 s7 Q E S8 t7 ⟨fun q=>(nomatch q),fun q=>(nomatch q),hpo⟩ fun own' m' fl s' S' R=> ?_
 ·exact F7.cn.imp fun oc a=>⟨inb a.1,a.2⟩
 ·exact F7.cw.imp fun oc a=>⟨inb a.1,a.2⟩
 ·exact F7.ct.imp fun oc a=>⟨inb a.1,a.2⟩
 ·obtain⟨v,rfl,R⟩:=R
  have R:=R.sI
  refine R.boolE ?_
  exact q _ _ _ S'
end
theorem B3X (P:Params):A2V (KF P) 2444=some (A0c P 2444)∧A3V (KF P) 2444 (A0c P 2444)=true∧A0r (A0c P 2444).params=some [("script" :Str)]∧A1s (KF P) (A0c P 2444).dV=true∧(A0c P 2444).scope.names.lookup ("script" :Str)=some .local:=⟨by kernel_rfl,by kernel_rfl,by kernel_rfl,by kernel_rfl,by kernel_rfl⟩
theorem B5S {args:List WData}(h:cT1.pre args=true): ∃ l:List Int,args= [.list (l.map .int)]∧l.length≤63:=by
 obtain⟨h1,h2⟩:=pre_splitW (r:=rT.toRowW) h
 obtain⟨d,r,rfl,h3,h4⟩:=hasAllW_cons (show WShape.hasAll [] args [.list .int]=true from h1)
 have:=hasAllW_nil h4
 subst this
 obtain⟨xs,rfl,h5⟩:=hasW_list h3
 obtain⟨l,rfl⟩:=items_int h5
 refine⟨l,rfl,?_⟩
 have a0:(WTm.arg 0).value [] ({args:= [.list (l.map .int)]}:WCtx)=some (.list (l.map .int)):=rfl
 have e:(WTm.and (.not (.lt (.lit (.int 63)) (.len (.arg 0)))) (.lit (.bool true))).value [] ({args:= [.list (l.map .int)]}:WCtx)=some (.bool (!decide ((63:Int)< (l.map WData.int).length)&&true)):=w_and (w_not (w_lt rfl (w_len_list a0))) rfl
 have h2:(WTm.and (.not (.lt (.lit (.int 63)) (.len (.arg 0)))) (.lit (.bool true))).holds [] ({args:= [.list (l.map .int)]}:WCtx)=true:=h2
 unfold WTm.holds at h2
 rw [e] at h2
 by_cases q:(63:Int)< (l.map WData.int).length
 ·rw [a0Q q] at h2;exact xf h2
 ·rw [a1D] at q;omega
theorem B2O {P:Params}{h:Heap}{G:Gx}{C₀:Addr}{Z:Held}{l:List Int}: ∀ {vs:List Value},WellAll P h vs (l.map .int)→Reps G C₀ Z vs (A0D l):=by
 induction l with
 | nil=>intro vs h;cases h;exact .nil
 | cons i l ih=>intro vs h;cases h with
  | cons h1 h2=>cases h1;exact .cons (.s .int) (ih h2)
theorem room_caller:Room callerA 201:=⟨by decide,by decide⟩
theorem B7t {G:Gx}{s:Shared}{d:Fd}{f:Addr}{vs:List Value}{binds:List (Str×Value)}{R:Result→Shared→Prop}(X:G.K.In s.heap)(T:Top G.p G.loose G.mean G.mg G.mb s.heap)(hg:s.gens= #[])(e:A2V G.K f=some d)(q:A3V G.K f d=true)(hbind:BindsTo s d.data ⟨vs,[]⟩ binds)(hloc: ∀ y∈binds,d.scope.names.lookup y.1=some .local)
  (hb: ∀ (c:Fc) (A:Around) (s':Shared) (cells:List (Addr×Obj)),c.Ok G A→c.outer= []→c.news= []→c.env=(d.withC c.L).env f c.L→Room A 200→CellsAre (fun Ω=>none) (cellsFrom (c.L+1) d.scope.names []) cells→St c (fun y=>binds.reverse.lookup y) cells s'→c.H=A7v s.heap []→c.h₀=s.heap→c.os=s.os→
   wpAny G.M A (execs d.body c.env) (fun fl s''=>R (.ok (.ret (match fl with| .ret v=>v| _=> .none))) s'') (fun x s''=>wpAny G.M A (leaving c.env x) (fun Ω s3=>R (.error x) s3) (fun x' s3=>R (.error x') s3) s'') s'):
  codeAny G.M callerA (.call (.ref f) ⟨vs,[]⟩) R s:=by
 obtain⟨o,ho,hd,hc,h0,h1,h2,h3,h4⟩:=B8k X e q
 obtain⟨nm,qual,params,body,scope,dcl,dV,kV,doc,pm,an,cdv,ct⟩:=d
 dsimp only at h0 h1 h2 h3 h4 hc hloc hb
 subst h0
 refine codeAny_call_function (by decide) ho hd h2 h3 rfl hc (hbind _ _ _ _ ?_)
 refine wpAny_newFunctionEnv_cells h4 (fun x hx=> .inl (hloc x hx)) fun env' he s' x=> ?_
 subst he
 refine⟨T.nolimit.keeps x.toInCall.keep,codeAny_func ?_⟩
 obtain⟨h₁,tk,rfl,_⟩:=x.done
 have hk₁:=x.toInCall.keep
 obtain⟨cells,NC,Y⟩:=Cl.news (h₀:=s.heap) (a0K _) fun n c hm=>⟨x.cell n c (lookup_of_mem_nodup (cellsFrom_names scope.names 0 (s.heap.objs.size+1) [] [] rfl▸h1) hm),x.above n c hm⟩
 have hk: ∀ y∈binds,(envOfC qual scope s.heap.objs.size f cdv).kindOf y.1=some .local:=hloc
 have hns:=x.toInCall.ns
 have Y':CellsAre (bindC (envOfC qual scope s.heap.objs.size f cdv).kindOf binds fun Ω=>none) (cellsFrom (s.heap.objs.size+1) scope.names []) cells:=Y
 rw [A5v hk] at Y'
 have hns':h₁.Ns s.heap.objs.size (bindL (envOfC qual scope s.heap.objs.size f cdv).kindOf binds fun Ω=>none):=hns
 rw [A5u hk] at hns'
 have em:(fun y=>(binds.reverse.lookup y).or ((fun Ω=>none:Str→Option Value) y))=fun y=>binds.reverse.lookup y:=by funext y;cases binds.reverse.lookup y<;>rfl
 rw [em] at hns'
 let d:Fd:=⟨nm,qual,params,body,scope,[],dV,kV,doc,pm,an,cdv,ct⟩
 let L:=s.heap.objs.size
 let c':Fc:=⟨s.heap,[],s.heap,L,(d.withC L).env f L,[],A7v s.heap [],s.os,s.drawn⟩
 have S':St c' (fun y=>binds.reverse.lookup y) cells {s with heap:=h₁,toks:=tk}:=⟨⟨hns',hk₁,a0K _⟩,fun p hp=>by
  rw [show cells++c'.news=cells from a1H _] at hp
  exact NC p hp,hg,rfl,rfl⟩
 have ok':c'.Ok G (callerA.deeper ((d.withC L).env f L)):=⟨⟨_,below_caller s.heap⟩,a2M rfl,rfl,h4,rfl,X,T,fun a o h=>h⟩
 exact hb c' _ _ cells ok' rfl rfl rfl (room_caller.deeper (by decide)) Y' S' rfl rfl rfl
set_option tactic.hygienic true in
theorem C3I {G:Gx}(g:GOk G){s₁:Shared}(X:G.K.In s₁.heap)(T:Top G.p G.loose G.mean G.mg G.mb s₁.heap)(hg:s₁.gens= #[]){a:Addr}{vs:List Value}{l:List Int}(ha:s₁.heap.get? a=some ⟨.type "list",none,.seq vs.toArray 0,#[]⟩)(hvs:WellAll G.w.params s₁.heap vs (l.map .int))(hlen:l.length≤63)
  (PL:LawOk (mk false false l (1+ (A1K l 0).fmod 2)) (mk true false l (1+ (A1K l 0).fmod 2)) (mk false true l (1+ (A1K l 0).fmod 2))) {R:Result→Shared→Prop} (hR: ∀ s',(∀ b o,s₁.heap.get? b=some o→s'.heap.get? b=some o)→s'.os=s₁.os→s'.gens= #[]→R (.ok (.ret (.bool true))) s'):
  codeAny G.M callerA (.call (.ref 2444) ⟨[.ref a],[]⟩) R s₁:=by
 obtain⟨s1,s2,s3,s4,s5⟩:=B3X G.w.params
 rw [←g.K] at s1 s2 s4
 have lb:= @B6E G
 have hdl: ∀ L,(A0c G.w.params 2444).withC L=dL G.w.params L:=fun L=>by unfold dL;rfl
 generalize A0c G.w.params 2444=d at*
 refine B7t X T hg s1 s2 (A0Z X s3 rfl s4) (fun y hy=> ?_) fun c A s' cells ok ho hn he room Y S eH eh eo=> ?_
 ·rw [a0L.mp hy];exact s5
 ·rw [hdl] at he
  refine lb g ok ho (room.less (by decide)) he hn Y S hlen ?_ PL PassesOwn.leaving fun own m' s2 S2=> ?_
  ·intro x r hx
   rw [eH]
   unfold ρ00 at hx
   rw [a0M] at hx
   split at hx
   ·rename_i hxs
    refine x1 hx ?_
    rw [a0D hxs]
    exact⟨.ref a,rfl,.list (vs:=vs) (n:=0) (.inl ha) (B2O hvs)⟩
   ·exact x0 hx
  ·exact hR s2 (fun b o e=>S2.F.keep b o (by rw [eh];exact e)) (S2.os.trans eo) S2.gens
theorem B3A (args:List WData):cT1.post args (.bool true) args=true:=by
 show WTm.holds _ (.eq .res (.lit (.bool true))) _=true
 unfold WTm.holds
 rw [w_eq_bool (k:=true) (l:=true) (w_res rfl) rfl]
 rfl
set_option tactic.hygienic true in
theorem C3J (PL: ∀ l:List Int,l.length≤63→LawOk (mk false false l (1+ (A1K l 0).fmod 2)) (mk true false l (1+ (A1K l 0).fmod 2)) (mk false true l (1+ (A1K l 0).fmod 2))):C3l:=by
 intro w s₀ s₁ mg mb T X hg args vs as hpre hlay hrd hwell hlow
 obtain⟨l,rfl,hlen⟩:=B5S hpre
 have X:=C5i X
 cases hwell with
 | cons hv hrest=>
  cases hrest
  cases hv with
  | list ha hvs=>
   rename_i a vs
   have h1:pw.main.file=fl:=by kernel_rfl
   have h2:(pw.main.scope.names.lookup ("super" :Str)).isSome=false:=by kernel_rfl
   have W:=fun R hR=>C3I (G:=⟨pw,w,KF w.params,qT,looseW qT A6b,ExcName.means s₀.heap,mg,mb⟩) ⟨rfl,h1,h2⟩ X T hg ha hvs hlen (PL l hlen) (R:=R) hR
   refine wpAny_call (W _ fun s' k1 k2 k3=> ?_)
   exact⟨.inl ⟨.bool true,.bool true,[],rfl,fun _=>rfl,.bool true,B3A _,fun _=>⟨List.nodup_nil,fun _ h=>(nomatch h)⟩⟩,k1,k2,k3⟩
noncomputable def wfI:List UInt8→Bool
 | []=>false
 | b::r=>r.length==A2Y b
noncomputable def gdI (it:List UInt8):Bool:=wfI it&& ((A0Q (tt6 3) it).length+ (bif A3y it then 1 else 0)==it.length)&& ((A0Q (tn7 9) it).length==it.length)
def CR (a b c:List UInt8):Prop:= ∃ its:List (List UInt8),(∀ it∈its,gdI it=true)∧a=its.flatten∧b=(its.map (A0Q (tt6 3))).flatten∧c=(its.map (A0Q (tn7 9))).flatten
theorem A6d: ∀ (n:Nat) (its:List (List UInt8)),(∀ it∈its,wfI it=true)→its.flatten.length≤n→A2w n its.flatten=its
 | 0,[],_,_=>rfl
 | n+1,[],_,_=>rfl
 | n,it::its,h,hl=>by
  have h1:=h it (.head _)
  cases it with
  | nil=>exact xf h1
  | cons b r=>
   have hr:r.length=A2Y b:=a0D h1
   rw [List.flatten_cons] at hl ⊢
   cases n with
   | zero=>cases hl
   | succ n=>
    show (b::(r++its.flatten).take (A2Y b))::A2w n ((r++its.flatten).drop (A2Y b))=_
    rw [←hr,List.take_left' rfl,List.drop_left' rfl,A6d n its (fun it hit=>h it (.tail _ hit)) (by simp only [List.cons_append,a1T,a1K] at hl;lia)]
theorem C4I {it:List UInt8}(h:gdI it=true):wfI it=true:=by
 unfold gdI at h
 simp only [a1B] at h
 exact h.1.1
theorem CR.app {a b c a' b' c':List UInt8}(h:CR a b c)(h':CR a' b' c'):CR (a++a') (b++b') (c++c'):=by
 obtain⟨i,h1,rfl,rfl,rfl⟩:=h
 obtain⟨j,g1,rfl,rfl,rfl⟩:=h'
 refine⟨i++j,fun it hit=>(a1O.mp hit).elim (h1 it) (g1 it),?_,?_,?_⟩<;>simp
theorem keys_long:((tt6 3).all fun q=>decide (21≤q.1.length))=true∧((tn7 9).all fun q=>decide (21≤q.1.length))=true∧((tw7 9).all fun q=>decide (40≤q.1.length))=true:=by and_intros<;>kernel_rfl
theorem A3d {K:Type}[DecidableEq K]{T:List (K×K)}{k:K}(h: ∀ q∈T,q.1≠k):A0Q T k=k:=by
 unfold A0Q
 have:T.find? (fun q=>decide (q.1=k))=none:=List.find?_eq_none.mpr fun q hq=>by simpa using h q hq
 rw [this]
theorem B7S {it:List UInt8}(h:it.length≤20):A0Q (tt6 3) it=it:=A3d fun q hq e=>by
 have:=a0B (a0J.mp keys_long.1 q hq)
 rw [e] at this;lia
theorem B7R {it:List UInt8}(h:it.length≤20):A0Q (tn7 9) it=it:=A3d fun q hq e=>by
 have:=a0B (a0J.mp keys_long.2.1 q hq)
 rw [e] at this;lia
theorem CR.short {it:List UInt8}(h:it.length≤20)(hw:wfI it=true)(hk:A3y it=false):CR it it it:=by
 refine⟨[it],fun i hi=> ?_,by simp,by simp [B7S h],by simp [B7R h]⟩
 rw [a0L.mp hi]
 unfold gdI
 rw [B7S h,B7R h,hk,hw]
 simp
theorem CR.op {n:UInt8}(h:76≤n.toNat∨n=0):CR [n] [n] [n]:=by
 refine CR.short (by simp) ?_ ?_
 ·show (0==A2Y n)=true
  unfold A2Y
  rcases h with h| rfl
  ·rw [if_neg (by lia)];rfl
  ·rfl
 ·show ([n]== [33])=false
  rcases h with h| rfl
  ·refine a1L.mpr fun e=> ?_
   injection e with e
   rw [e] at h
   exact absurd h (by decide)
  ·rfl
noncomputable abbrev fw (x:ND):List UInt8:=(x.hd::x.tl).reverse
def RC (a b c:List UInt8):Prop:=CR a.reverse b.reverse c.reverse
theorem RC.app {a b c a' b' c':List UInt8}(h:RC a b c)(h':RC a' b' c'):RC (a++a') (b++b') (c++c'):=by
 unfold RC
 rw [a2I,a2I,a2I]
 exact CR.app h' h
theorem rop (n:UInt8)(h:76≤n.toNat∨n=0:=by decide):RC [n] [n] [n]:=CR.op h
theorem RC.op {a b c:List UInt8}(h:RC a b c)(n:UInt8)(k:76≤n.toNat∨n=0:=by decide):RC (n::a) (n::b) (n::c):=(rop n k).app h
def Ln (l:List UInt8)(i:Int)(k:Nat):Prop:=i+ (k:Nat)=(l.length:Int)
theorem Ln.post {l:List UInt8}{i:Int}{k:Nat}(q:List UInt8)(h:Ln l i k):Ln (l++q) i (k+q.length):=by
 unfold Ln at*
 rw [a1K,Int.natCast_add,Int.natCast_add,←h,Int.add_assoc]
theorem Ln.pre {l:List UInt8}{i:Int}{k:Nat}(p:List UInt8)(h:Ln l i k):Ln (p++l) i (k+p.length):=by
 have g:=h.post p
 unfold Ln at*
 rw [g,a1K,a1K,Nat.add_comm]
theorem Ln.add {l m:List UInt8}{i j:Int}{k:Nat}(h:Ln l i k)(g:Ln m j 0):Ln (m++l) (i+ (j+0)) k:=by
 unfold Ln at*
 rw [a1K,Int.natCast_add,←h,←g,Int.add_right_comm]
 exact Int.add_comm ..
theorem Ln.eq {l:List UInt8}{i j:Int}{k:Nat}(h:Ln l i k)(e:i=j):Ln l j k:=e▸h
structure Cd (x y z:ND):Prop where
 cr:CR (fw x) (fw y) (fw z)
 op:x.ty= "B" →76≤x.hd.toNat∧y.hd=x.hd∧z.hd=x.hd∧CR x.tl.reverse y.tl.reverse z.tl.reverse
 lx:x.ln=(x.tl.length:Int)+1
 ly:y.ln=(y.tl.length:Int)+1
 lz:z.ln=(z.tl.length:Int)+1
theorem Cd.rc {x y z:ND}(h:Cd x y z):RC (x.hd::x.tl) (y.hd::y.tl) (z.hd::z.tl):=h.cr
theorem A7V {x:ND}(h:x.ln=(x.tl.length:Int)+1):Ln (x.hd::x.tl) x.ln 0:=(Int.add_zero _).trans h
theorem Cd.of {x y z:ND}(n:UInt8)(hn:76≤n.toNat)(hx:x.hd=n)(hy:y.hd=n)(hz:z.hd=n)(h:RC x.tl y.tl z.tl)(lx:x.ln=(x.tl.length:Int)+1)(ly:y.ln=(y.tl.length:Int)+1)(lz:z.ln=(z.tl.length:Int)+1):Cd x y z:=by
 refine⟨?_,fun Ω=>⟨by rw [hx];exact hn,by rw [hx,hy],by rw [hx,hz],h⟩,lx,ly,lz⟩
 unfold fw
 rw [hx,hy,hz]
 exact RC.op h n (.inl hn)
theorem C1G:RC [] [] []:=⟨[],(fun Ω h=>nomatch h),rfl,rfl,rfl⟩
section
variable {x y z x' y' z' x2 y2 z2:ND}
theorem cd1 {F:ND→ND}(n:UInt8)(p q:List UInt8)(h:Cd x y z)(hF: ∀ u,(F u).hd=n∧(F u).tl=p++ ((u.hd::u.tl)++q))(hl: ∀ u,(F u).ln=u.ln+ ((0+q.length+p.length+1:Nat):Int))(hp:RC p p p:=by exact C1G)(hq:RC q q q:=by exact C1G)(hn:76≤n.toNat:=by decide):Cd (F x) (F y) (F z):=by
 have l: ∀ {u:ND},u.ln=(u.tl.length:Int)+1→(F u).ln=((F u).tl.length:Int)+1:=fun {u} g=>by
  rw [hl,(hF u).2]
  exact(((A7V g).post q).pre p).pre [n]
 refine .of n hn (hF x).1 (hF y).1 (hF z).1 ?_ (l h.lx) (l h.ly) (l h.lz)
 rw [(hF x).2,(hF y).2,(hF z).2]
 exact hp.app (h.rc.app hq)
theorem cd0 {F:ND→ND}(n:UInt8)(h:Cd x y z)(hF: ∀ u,(F u).hd=n∧(F u).tl=u.hd::u.tl∧(F u).ln=u.ln+1)(hn:76≤n.toNat:=by decide):Cd (F x) (F y) (F z):=by
 have l: ∀ {u:ND},u.ln=(u.tl.length:Int)+1→(F u).ln=((F u).tl.length:Int)+1:=fun {u} g=>by
  rw [(hF u).2.2,(hF u).2.1,g];rfl
 refine .of n hn (hF x).1 (hF y).1 (hF z).1 ?_ (l h.lx) (l h.ly) (l h.lz)
 rw [(hF x).2.1,(hF y).2.1,(hF z).2.1]
 exact h.rc
theorem cd2 {F:ND→ND→ND}(n:UInt8)(p:List UInt8)(h:Cd x y z)(h':Cd x' y' z')(hF: ∀ u v,(F u v).hd=n∧(F u v).tl=(v.hd::v.tl)++ (p++ (u.hd::u.tl))∧(F u v).ln=u.ln+ (v.ln+0)+ ((0+p.length+1:Nat):Int))(hp:RC p p p:=by exact C1G)(hn:76≤n.toNat:=by decide):Cd (F x x') (F y y') (F z z'):=by
 have l: ∀ {u v:ND},u.ln=(u.tl.length:Int)+1→v.ln=(v.tl.length:Int)+1→(F u v).ln=((F u v).tl.length:Int)+1:=fun {u v} g g'=>by
  rw [(hF u v).2.2,(hF u v).2.1]
  exact(((A7V g).pre p).add (A7V g')).pre [n]
 refine .of n hn (hF x x').1 (hF y y').1 (hF z z').1 ?_ (l h.lx h'.lx) (l h.ly h'.ly) (l h.lz h'.lz)
 rw [(hF x x').2.1,(hF y y').2.1,(hF z z').2.1]
 exact h'.rc.app (hp.app h.rc)
theorem cdA (h:Cd x y z):Cd (ndA x) (ndA y) (ndA z):=cd1 108 [] [107] h (fun Ω=>⟨rfl,rfl⟩) (fun Ω=>rfl) C1G (rop 107)
theorem cdC (h:Cd x y z):Cd (ndC x) (ndC y) (ndC z):=cd0 0xac h fun Ω=>⟨rfl,rfl,rfl⟩
theorem cdT (h:Cd x y z):Cd (ndT x) (ndT y) (ndT z):=cd0 81 h fun Ω=>⟨rfl,rfl,rfl⟩
theorem cdN (h:Cd x y z):Cd (ndN x) (ndN y) (ndN z):=cd0 0x92 h fun Ω=>⟨rfl,rfl,rfl⟩
theorem cdD (h:Cd x y z){a b c:Bool}:Cd (ndD a x) (ndD b y) (ndD c z):= .of 104 (by decide) rfl rfl rfl (h.rc.app ((rop 118).op 99)) (((A7V h.lx).post [99,118]).pre [104]) (((A7V h.ly).post [99,118]).pre [104]) (((A7V h.lz).post [99,118]).pre [104])
theorem cdJ (h:Cd x y z):Cd (ndJ x) (ndJ y) (ndJ z):= .of 104 (by decide) rfl rfl rfl (h.rc.app (((rop 0x82).op 0x92).op 99)) rfl rfl rfl
theorem cdL (h:Cd x y z):Cd (ndL x) (ndL y) (ndL z):=cd1 104 [] [103,0,99] h (fun Ω=>⟨rfl,rfl⟩) (fun Ω=>rfl) C1G (((rop 99).op 0).op 103)
theorem cdU (h:Cd x y z):Cd (ndU x) (ndU y) (ndU z):=cd1 104 [0,103] [99] h (fun Ω=>⟨rfl,rfl⟩) (fun Ω=>rfl) ((rop 103).op 0) (rop 99)
theorem B3b {a b:Str}(h:(a==b)=false):a≠b:=fun e=>by rw [e,a2B] at h;cases h
theorem cdS (h:Cd x y z):Cd (ndS x) (ndS y) (ndS z):=⟨h.rc.app (rop 124),fun e=>absurd e (B3b (by rfl)),(A7V h.lx).post [124],(A7V h.ly).post [124],(A7V h.lz).post [124]⟩
theorem cdV (h:Cd x y z)(hB:x.ty= "B"):Cd (ndV x) (ndV y) (ndV z):=by
 obtain⟨h1,h2,h3,h4⟩:=h.op hB
 refine⟨?_,fun e=>absurd e (B3b (by rfl)),rfl,rfl,rfl⟩
 unfold fw ndV
 dsimp only
 rw [h2,h3]
 unfold vhd vtl
 cases hb:A2F x.hd with
 | true=>
  simp only [cond_true,a2E]
  refine h4.app (CR.op (.inl ?_))
  unfold A2F at hb
  simp only [Bool.or_eq_true,beq_iff_eq] at hb
  rcases hb with ((hb| hb)| hb)| hb<;>rw [hb]<;>decide
 | false=>
  have h5:=h.cr
  unfold fw at h5
  rw [h2,h3] at h5
  simp only [cond_false]
  rw [a2E,a2E (as:=x.hd::y.tl),a2E (as:=x.hd::z.tl)]
  exact h5.app (CR.op (.inl (by decide)))
theorem ln2 {u v:ND}(g:u.ln=(u.tl.length:Int)+1)(g':v.ln=(v.tl.length:Int)+1):u.ln+ (v.ln+0)=((v.tl++ (u.hd::u.tl)).length:Int)+1:=(Int.add_zero _).symm.trans ((A7V g).add (A7V g'))
theorem C2W (h:Cd x y z)(h':Cd x' y' z'):Cd (A3s x x') (A3s y y') (A3s z z'):=
 ⟨h'.rc.app h.rc,fun e=>let ⟨h1,h2,h3,h4⟩:=h'.op e; ⟨h1,h2,h3,RC.app h4 h.rc⟩,ln2 h.lx h'.lx,ln2 h.ly h'.ly,ln2 h.lz h'.lz⟩
theorem C2Y (h:Cd x y z)(h':Cd x' y' z'):Cd (A3u x x') (A3u y y') (A3u z z'):=cd2 0x9a [] h h' fun Ω Ω=>⟨rfl,rfl,rfl⟩
theorem C2X (h:Cd x y z)(h':Cd x' y' z'):Cd (A3t x x') (A3t y y') (A3t z z'):=cd2 104 [103,0,100] h h' (fun Ω Ω=>⟨rfl,rfl,rfl⟩) (((rop 100).op 0).op 103)
theorem C4S (h:Cd x y z)(h':Cd x' y' z'):Cd (A6I x x') (A6I y y') (A6I z z'):=cd2 0x9b [] h h' fun Ω Ω=>⟨rfl,rfl,rfl⟩
theorem C4R (h:Cd x y z)(h':Cd x' y' z'):Cd (A6H x x') (A6H y y') (A6H z z'):=cd2 104 [100] h h' (fun Ω Ω=>⟨rfl,rfl,rfl⟩) (rop 100)
theorem C4Q (h:Cd x y z)(h':Cd x' y' z'):Cd (A6G x x') (A6G y y') (A6G z z'):=cd2 104 [100,115] h h' (fun Ω Ω=>⟨rfl,rfl,rfl⟩) ((rop 115).op 100)
theorem B9v {u v:ND}(g:u.ln=(u.tl.length:Int)+1)(g':v.ln=(v.tl.length:Int)+1):(A4S u v).ln=((A4S u v).tl.length:Int)+1:=((((A7V g).post [99]).pre [103]).add (A7V g')).pre [104]
theorem C4P (h:Cd x y z)(h':Cd x' y' z'):Cd (A4S x x') (A4S y y') (A4S z z'):= .of 104 (by decide) rfl rfl rfl (h'.rc.app ((h.rc.app (rop 99)).op 103)) (B9v h.lx h'.lx) (B9v h.ly h'.ly) (B9v h.lz h'.lz)
theorem i3 (a b c:Int):a+ (c+0)+ (b+0)=a+ (b+ (c+0)):=by lia
theorem A9p {u v w:ND}(g:u.ln=(u.tl.length:Int)+1)(g':v.ln=(v.tl.length:Int)+1)(g2:w.ln=(w.tl.length:Int)+1):(A1d u v w).ln=((A1d u v w).tl.length:Int)+1:=((((((A7V g).pre [100]).add (A7V g2)).pre [103]).add (A7V g')).pre [104]).eq (i3 ..)
theorem C0r (h:Cd x y z)(h':Cd x' y' z')(h2:Cd x2 y2 z2):Cd (A1d x x' x2) (A1d y y' y2) (A1d z z' z2):= .of 104 (by decide) rfl rfl rfl (h'.rc.app ((h2.rc.app (h.rc.op 100)).op 103)) (A9p h.lx h'.lx h2.lx) (A9p h.ly h'.ly h2.ly) (A9p h.lz h'.lz h2.lz)
theorem C4o {u v w:ND}(k:Int)(g:u.ln=(u.tl.length:Int)+1)(g':v.ln=(v.tl.length:Int)+1)(g2:w.ln=(w.tl.length:Int)+1):(B1r k u v w).ln=((B1r k u v w).tl.length:Int)+1:=by simp [B1r,C4j,C1T];lia
theorem C6X (k:Nat)(hk:k<3)(h:Cd x y z)(h':Cd x' y' z')(h2:Cd x2 y2 z2):Cd (B1r (1+k) x x' x2) (B1r (1+k) y y' y2) (B1r (1+k) z z' z2):=by
 have hn:76≤ (C1T (1+k)).hd.toNat:=by
  match k,hk with
  | 0,_=>decide
  | 1,_=>decide
  | 2,_=>decide
 exact .of 0x87 (by decide) rfl rfl rfl ((rop (C1T (1+k)).hd (.inl hn)).app (((h2.rc.op 0x93).app (h'.rc.op 0x93)).app h.rc)) (C4o _ h.lx h'.lx h2.lx) (C4o _ h.ly h'.ly h2.ly) (C4o _ h.lz h'.lz h2.lz)
end
noncomputable def A2q (a:Nat):Bool:=a==32|| a==40|| a==41|| a==44
noncomputable def cc:List Nat→List (List Nat)
 | []=> [[]]
 | a::l=>if A2q a then []::cc l else match cc l with
  | []=> [[a]]
  | p::r=>(a::p)::r
theorem B5c: ∀ l:List Nat,∃ p r,cc l=p::r
 | []=>⟨[],[],rfl⟩
 | a::l=>by
  obtain⟨p,r,h⟩:=B5c l
  unfold cc
  split
  ·exact⟨_,_,rfl⟩
  ·rw [h];exact⟨_,_,rfl⟩
theorem B1d {a:Nat}{l:List Nat}(h:A2q a=true):cc (a::l)= []::cc l:=by rw [cc,if_pos h]
theorem A1H {a:Nat}{l p:List Nat}{r:List (List Nat)}(h:A2q a=false)(e:cc l=p::r):cc (a::l)=(a::p)::r:=by rw [cc,if_neg (by rw [h];decide),e]
theorem C3a (l:List Nat):A2W 32 (swp 44 32 (swp 41 32 (swp 40 32 l)))=cc l:=by
 induction l with
 | nil=>rfl
 | cons a l ih=>
  have e:swp 44 32 (swp 41 32 (swp 40 32 (a::l)))=(if A2q a then 32 else a)::swp 44 32 (swp 41 32 (swp 40 32 l)):=by
   show (if (if (if a=40 then 32 else a)=41 then 32 else (if a=40 then 32 else a))=44 then 32 else (if (if a=40 then 32 else a)=41 then 32 else (if a=40 then 32 else a)))::_=_
   congr 1
   unfold A2q
   by_cases h1:a=40
   ·subst h1;rfl
   ·by_cases h2:a=41
    ·subst h2;rfl
    ·by_cases h3:a=44
     ·subst h3;rfl
     ·by_cases h4:a=32
      ·subst h4;rfl
      ·rw [if_neg h1,if_neg h2,if_neg h3]
       have:(a==32|| a==40|| a==41|| a==44)=false:=by simp [h1,h2,h3,h4]
       rw [this];rfl
  rw [e]
  by_cases hs:A2q a=true
  ·rw [if_pos hs,B1d hs,A9R,ih]
  ·obtain⟨p,r,q⟩:=B5c l
   rw [if_neg hs,A1H (by simpa using hs) q,A9Q (fun q=>hs (by rw [q];rfl)),ih,q]
theorem A8A: ∀ (l:List Nat) (s:Nat) (r:List Nat),A2q s=true→cc (l++s::r)=cc l++cc r
 | [],s,r,h=>B1d h
 | a::l,s,r,h=>by
  have ih:=A8A l s r h
  obtain⟨p,q,e⟩:=B5c l
  show cc (a::(l++s::r))=_
  by_cases hs:A2q a=true
  ·rw [B1d hs,B1d hs,ih];rfl
  ·rw [A1H (by simpa using hs) e,A1H (p:=p) (r:=q++cc r) (by simpa using hs) (by rw [ih,e];rfl)];rfl
theorem A7o: ∀ {l:List Nat},(∀ a∈l,A2q a=false)→cc l= [l]
 | [],_=>rfl
 | a::l,h=>A1H (h a (.head _)) (A7o fun b hb=>h b (.tail _ hb))
theorem C2Z (l:List Nat): ∀ p∈cc l,∀ a∈p,a∈l:=by
 induction l with
 | nil=>intro p hp a ha;rw [a0L.mp hp] at ha;cases ha
 | cons b l ih=>
  intro p hp a ha
  obtain⟨p',r',e⟩:=B5c l
  by_cases hs:A2q b=true
  ·unfold cc at hp
   rw [if_pos hs] at hp
   rcases a0T.mp hp with rfl| hp
   ·cases ha
   ·exact a0P _ (ih p hp a ha)
  ·rw [A1H (by simpa using hs) e] at hp
   rcases a0T.mp hp with rfl| hp
   ·rcases a0T.mp ha with rfl| ha
    ·exact a1G ..
    ·exact a0P _ (ih p' (by rw [e];exact a1G ..) a ha)
   ·exact a0P _ (ih p (by rw [e];exact a0P _ hp) a ha)
noncomputable def lkW (l:List Nat):List Nat:=(A0Q (tw7 9) ⟨l.toArray⟩).cps.toList
noncomputable abbrev chs (s:Str):List Nat:=s.cps.toList
theorem A2H {l:List Nat}(h:l.length≤30):lkW l=l:=by
 unfold lkW
 rw [A3d fun q hq e=> ?_]
 have:=a0B (a0J.mp keys_long.2.2 q hq)
 rw [e] at this
 have e2:(⟨l.toArray⟩:Str).length=l.length:=a1N ..
 rw [e2] at this
 lia
structure Tx (n b:Nat)(x y z:ND):Prop where
 t:y.tx=x.tx
 c:cc (chs z.tx)=(cc (chs x.tx)).map lkW
 h: ∃ p r,cc (chs x.tx)=p::r∧p.length≤n∧x.wr=decide (58∈p)
 wy:y.wr=x.wr
 wz:z.wr=x.wr
 a: ∀ c∈chs x.tx,c<128
 az: ∀ c∈chs z.tx,c<128
 l:(chs x.tx).length≤b
def Pd (x:ND):Prop:= ∃ p∈cc (chs x.tx),58∈p∧100∈p.takeWhile (· !=58)
theorem Tx.le {n' b':Nat}{x y z:ND}(h:Tx n b x y z)(hn:n≤n')(hb:b≤b'):Tx n' b' x y z:=⟨h.t,h.c,let ⟨p,r,e,l,w⟩:=h.h; ⟨p,r,e,a0F l hn,w⟩,h.wy,h.wz,h.a,h.az,a0F h.l hb⟩
noncomputable def wTx (o:Nat)(x:ND):List Nat:=if x.wr then o::chs x.tx else o::58::chs x.tx
theorem B0b {o:Nat}{op:Str}(ho:op=⟨#[o]⟩)(x:ND):chs (txW op x)=wTx o x:=by
 subst ho
 unfold txW wTx
 cases x.wr with
 | true=>simp [chs,Str.cps_append]
 | false=>
  have e:(":" :Str)=⟨#[58]⟩:=lit_eq.2.2.2.2.1
  simp [chs,Str.cps_append,e]
theorem B5a {a b:Str}(h:chs a=chs b):a=b:=by
 cases a;cases b
 exact congrArg Str.mk (Array.toList_inj.mp h)
theorem B2P {o:Nat}{x:ND}{P:Nat→Prop}(h1:P o)(h2:P 58)(h3: ∀ c∈chs x.tx,P c): ∀ c∈wTx o x,P c:=itP (P:=fun l:List Nat=> ∀ c∈l,P c) (fm h1 h3) (fm h1 (fm h2 h3))
theorem Tx.wrap {x y z X Y Z:ND}{o:Nat}(h:Tx n b x y z)(hn:n+2≤30)(ho:A2q o=false)(h58:o≠58)(h128:o<128)(hX:chs X.tx=wTx o x)(hY:chs Y.tx=wTx o y)(hZ:chs Z.tx=wTx o z)(wX:X.wr=true)(wY:Y.wr=true)(wZ:Z.wr=true):
  Tx (n+2) (b+2) X Y Z∧(Pd x→Pd X)∧(o=100→Pd X):=by
 obtain⟨p,r,e,l,w⟩:=h.h
 have ez:cc (chs z.tx)=p::r.map lkW:=by rw [h.c,e,a0V,A2H (by lia)]
 have hcx:cc (chs X.tx)=(if x.wr then o::p else o::58::p)::r:=by
  rw [hX];unfold wTx
  cases x.wr with
  | true=>exact A1H ho e
  | false=>exact A1H ho (A1H (by rfl) e)
 have hcz:cc (chs Z.tx)=(if x.wr then o::p else o::58::p)::r.map lkW:=by
  rw [hZ];unfold wTx;rw [h.wz]
  cases x.wr with
  | true=>exact A1H ho ez
  | false=>exact A1H ho (A1H (by rfl) ez)
 have hlen:(if x.wr then o::p else o::58::p).length≤n+2:=itP (P:=fun q:List Nat=>q.length≤n+2) (Nat.le_succ_of_le (a1Y l)) (a1Y (a1Y l))
 have h58m:58∈ (if x.wr then o::p else o::58::p):=by
  cases hw:x.wr with
  | true=>rw [hw] at w;exact a0P _ (a0B w.symm)
  | false=>exact .tail _ (.head _)
 refine⟨⟨?_,?_,⟨_,r,hcx,hlen,by rw [wX,a0Q h58m]⟩,by rw [wY,wX],by rw [wZ,wX],?_,?_,?_⟩,?_,?_⟩
 ·exact B5a (by rw [hX,hY];unfold wTx;rw [h.wy,h.t])
 ·rw [hcx,hcz,a0V,A2H (a0F hlen hn)]
 ·rw [hX];exact B2P h128 (by decide) h.a
 ·rw [hZ];exact B2P h128 (by decide) h.az
 ·rw [hX];exact itP (P:=fun q:List Nat=>q.length≤b+2) (Nat.le_succ_of_le (a1Y h.l)) (a1Y (a1Y h.l))
 ·rintro⟨s,hs,h1,h2⟩
  rw [e] at hs
  have ho':(o !=58)=true:=bne_iff_ne.mpr h58
  rcases a0T.mp hs with rfl| hs
  ·have hw:x.wr=true:=by rw [w,a0Q h1]
   refine⟨_,by rw [hcx];exact a1G ..,h58m,?_⟩
   rw [if_pos hw,List.takeWhile_cons,if_pos ho']
   exact a0P _ h2
  ·exact⟨s,by rw [hcx];exact a0P _ hs,h1,h2⟩
 ·rintro rfl
  refine⟨_,by rw [hcx];exact a1G ..,h58m,?_⟩
  split<;>(rw [List.takeWhile_cons,if_pos (by rfl)];exact a1G ..)
noncomputable def A1n:List (List Nat)→List Nat
 | []=> [41]
 | [a]=>a++ [41]
 | a::b::r=>a++44::A1n (b::r)
theorem A9V: ∀ (as:List (List Nat)),as≠ []→cc (A1n as)=as.flatMap cc++ [[]]
 | [],h=>(h rfl).elim
 | [a],_=>by
  show cc (a++41:: [])=_
  rw [A8A a 41 [] (by rfl)];simp [cc]
 | a::b::r,_=>by
  have ih:=A9V (b::r) (by simp)
  show cc (a++44::A1n (b::r))=_
  rw [A8A a 44 _ (by rfl),ih];simp
theorem B0y: ∀ (as:List (List Nat)),∀ c∈A1n as,c=41∨c=44∨ ∃ a∈as,c∈a
 | [],c,h=> .inl (a0L.mp h)
 | [a],c,h=>(a1O.mp h).elim (fun z=> .inr (.inr ⟨a,by simp,z⟩)) fun z=> .inl (a0L.mp z)
 | a::b::r,c,h=>by
  rcases a1O.mp (show c∈a++44::A1n (b::r) from h) with z| z
  ·exact .inr (.inr ⟨a,by simp,z⟩)
  ·rcases a0T.mp z with rfl| z
   ·exact .inr (.inl rfl)
   ·rcases B0y (b::r) c z with z| z| ⟨d,z1,z2⟩
    ·exact .inl z
    ·exact .inr (.inl z)
    ·exact .inr (.inr ⟨d,a0P _ z1,z2⟩)
theorem B0F: ∀ (as:List (List Nat)),(A1n as).length≤ (as.map (·.length)).sum+as.length+1
 | []=>by simp [A1n]
 | [a]=>by simp [A1n]
 | a::b::r=>by
  have ih:=B0F (b::r)
  show (a++44::A1n (b::r)).length≤_
  simp only [a1K,a1T,a0V,a2L] at ih ⊢
  lia
theorem Tx.call {X Y Z:ND}{nm:List Nat}{as bs:List (List Nat)}{k B:Nat}(hne:as≠ [])(hlen:as.length≤4)(hX:chs X.tx=nm++40::A1n as)(hY:chs Y.tx=nm++40::A1n as)(hZ:chs Z.tx=nm++40::A1n bs)(hnm:(nm.all fun a=> !A2q a&&decide (a<128)&&decide (a≠58))=true)(hk:nm.length≤k)(hk30:k≤30)
  (hbs:bs≠ []) (hc:bs.flatMap cc=(as.flatMap cc).map lkW) (ha: ∀ a∈as,∀ c∈a,c<128) (hb: ∀ a∈bs,∀ c∈a,c<128) (hl:(as.map (·.length)).sum≤B) (wX:X.wr=false) (wY:Y.wr=false) (wZ:Z.wr=false):
  Tx k (B+k+6) X Y Z∧ ∀ a∈as,(∃ p∈cc a,58∈p∧100∈p.takeWhile (· !=58))→Pd X:=by
 have nmf: ∀ a∈nm,A2q a=false∧a<128∧a≠58:=fun a h=>by
  have:=a0J.mp hnm a h
  simp only [a1B,Bool.not_eq_true',decide_eq_true_eq] at this
  exact⟨this.1.1,this.1.2,this.2⟩
 have cx:cc (chs X.tx)=nm::(as.flatMap cc++ [[]]):=by rw [hX,A8A nm 40 _ (by rfl),A7o fun a h=>(nmf a h).1,A9V as hne];rfl
 have cz:cc (chs Z.tx)=nm::(bs.flatMap cc++ [[]]):=by rw [hZ,A8A nm 40 _ (by rfl),A7o fun a h=>(nmf a h).1,A9V bs hbs];rfl
 have low: ∀ (l:List (List Nat)),(∀ a∈l,∀ c∈a,c<128)→ ∀ c∈nm++40::A1n l,c<128:=fun l h c hc=>by
  rcases a1O.mp hc with z| z
  ·exact(nmf c z).2.1
  ·rcases a0T.mp z with rfl| z
   ·decide
   ·rcases B0y l c z with rfl| rfl| ⟨a,h1,h2⟩
    ·decide
    ·decide
    ·exact h a h1 c h2
 refine⟨⟨?_,?_,⟨nm,_,cx,hk,?_⟩,by rw [wY,wX],by rw [wZ,wX],by rw [hX];exact low as ha,by rw [hZ];exact low bs hb,?_⟩,fun a h1 ⟨p,h2,h3⟩=>⟨p,?_,h3⟩⟩
 ·have:chs Y.tx=chs X.tx:=by rw [hX,hY]
  unfold chs at this
  cases hYt:Y.tx with
  | mk a=>cases hXt:X.tx with
   | mk b=>
    rw [hYt,hXt] at this
    exact congrArg Str.mk (Array.toList_inj.mp this)
 ·rw [cx,cz,a0V,a2P,←hc,A2H (a0F hk hk30)]
  rw [show [([]:List Nat)].map lkW= [[]] from by rw [List.map_singleton,A2H (by simp)]]
 ·rw [wX];exact(a1F fun h=>(nmf 58 h).2.2 rfl).symm
 ·rw [hX]
  have:=B0F as
  simp only [a1K,a1T]
  lia
 ·rw [cx]
  exact a0P _ (a0H _ (List.mem_flatMap.mpr ⟨a,h1,h2⟩))
theorem B6L (a:Str):chs (Txt.join "," [a])=chs a:=by
 show (Builtin.Str.glued "," [a]).cps.toList=_
 rw [StrLaws.glued_eq_join];rfl
theorem A2g (a b:Str)(r:List Str):chs (Txt.join "," (a::b::r))=chs a++44::chs (Txt.join "," (b::r)):=by
 show (Builtin.Str.glued "," (a::b::r)).cps.toList=_++44::(Builtin.Str.glued "," (b::r)).cps.toList
 rw [StrLaws.glued_eq_join,StrLaws.glued_eq_join]
 show (a++ "," ++Str.join "," (b::r)).cps.toList=_
 rw [lit_eq.2.2.1]
 simp [Str.cps_append]
theorem A4C (nm J:Str):chs (((nm++ "(")++J)++ ")")=chs nm++40::(chs J++ [41]):=by
 rw [lit_eq.1,lit_eq.2.1]
 simp [chs,Str.cps_append]
theorem B0c (nm a:Str):chs (tx1 nm a)=chs nm++40::A1n [chs a]:=by
 unfold tx1;rw [A4C,B6L];rfl
theorem C0W (nm a b:Str):chs (tx2 nm a b)=chs nm++40::A1n [chs a,chs b]:=by
 unfold tx2;rw [A4C,A2g,B6L];simp [A1n]
theorem C0V (nm a b c:Str):chs (tx3 nm a b c)=chs nm++40::A1n [chs a,chs b,chs c]:=by
 unfold tx3;rw [A4C,A2g,A2g,B6L];simp [A1n]
theorem C0U (nm a b c d:Str):chs (tx4 nm a b c d)=chs nm++40::A1n [chs a,chs b,chs c,chs d]:=by
 unfold tx4;rw [A4C,A2g,A2g,A2g,B6L];simp [A1n]
structure Tri (n b:Nat)(x y z:ND):Prop where
 cd:Cd x y z
 tx:Tx n b x y z
 ty:y.ty=x.ty
 tz:z.ty=x.ty
 pz:z.ps=x.ps
 vz:z.vf=x.vf
 sy:(y.ps=x.ps∧y.vf=x.vf)∨Pd x
 len:x.ln≤2* (b:Int)
theorem Tri.le {n' b':Nat}{x y z:ND}(h:Tri n b x y z)(hn:n≤n')(hb:b≤b'):Tri n' b' x y z:=⟨h.cd,h.tx.le hn hb,h.ty,h.tz,h.pz,h.vz,h.sy,a1E h.len (Int.mul_le_mul_of_nonneg_left (Int.ofNat_le.mpr hb) (by decide))⟩
noncomputable def A7u (x:ND):Str×Bool×Str:=(x.ps,x.vf,x.ty)
noncomputable def bare (x:ND):ND:=⟨0,[],0,Str.empty,x.ty,x.ps,x.vf,false⟩
noncomputable def A3L (x:ND):ND:=⟨0,[],0,Str.empty,x.ty,Str.empty,false,false⟩
theorem A3l {x y:ND}(h1:y.ps=x.ps)(h2:y.vf=x.vf)(h3:y.ty=x.ty):bare y=bare x:=by unfold bare;rw [h1,h2,h3]
theorem A1J {x y:ND}(h3:y.ty=x.ty):A3L y=A3L x:=by unfold A3L;rw [h3]
section
variable {n' b' n2 b2:Nat}{x y z x' y' z' x2 y2 z2:ND}
theorem Tri.bz (h:Tri n b x y z):bare z=bare x:=A3l h.pz h.vz h.tz
theorem le2 {a b k:Int}(h:k≤20):a+ (b+0)+k≤a+b+20:=by rw [Int.add_zero];exact a3A h _
theorem C6E {x:ND}(g:x.ln=(x.tl.length:Int)+1):(ndV x).ln≤x.ln+4:=by
 show (((vhd x.hd::vtl x.hd x.tl).length:Nat):Int)≤_
 rw [g]
 unfold vtl
 cases A2F x.hd<;>simp only [cond_true,cond_false,a1T]<;>lia
theorem B5B {F:ND→ND}(o:Nat)(op:Str)(h:Tri n b x y z)(hn:n+2≤30)(cd:Cd (F x) (F y) (F z))(ho:A2q o=false)(h58:o≠58)(h128:o<128)(hop:op=⟨#[o]⟩)(ht: ∀ u,(F u).tx=txW op u∧(F u).wr=true)(hF: ∀ u,A7u (F u)=A7u (F (bare u)))(hT: ∀ u,(F u).ty=(F (A3L u)).ty)(hl:(F x).ln≤x.ln+4):Tri (n+2) (b+2) (F x) (F y) (F z):=by
 have hw: ∀ u,chs (F u).tx=wTx o u:=fun u=>by rw [(ht u).1];exact B0b hop u
 obtain⟨w1,w2,_⟩:=h.tx.wrap (X:=F x) (Y:=F y) (Z:=F z) (o:=o) hn ho h58 h128 (hw x) (hw y) (hw z) (ht x).2 (ht y).2 (ht z).2
 have oz:A7u (F z)=A7u (F x):=by rw [hF z,h.bz,←hF x]
 refine⟨cd,w1,by rw [hT y,A1J h.ty,←hT x],by rw [hT z,A1J h.tz,←hT x],congrArg Prod.fst oz,congrArg (fun q=>q.2.1) oz,h.sy.elim (fun s=> .inl ?_) fun p=> .inr (w2 p),by have:=h.len;lia⟩
 have oy:A7u (F y)=A7u (F x):=by rw [hF y,A3l s.1 s.2 h.ty,←hF x]
 exact⟨congrArg Prod.fst oy,congrArg (fun q=>q.2.1) oy⟩
theorem C3R (h:Tri n b x y z)(hn:n+2≤30):Tri (n+2) (b+2) (ndA x) (ndA y) (ndA z):=B5B 97 "a" h hn (cdA h.cd) rfl (by decide) (by decide) (by kernel_rfl) (fun Ω=>⟨rfl,rfl⟩) (fun Ω=>rfl) (fun Ω=>rfl) (a3A (by decide) _)
theorem C5n (h:Tri n b x y z)(hn:n+2≤30):Tri (n+2) (b+2) (ndS x) (ndS y) (ndS z):=B5B 115 "s" h hn (cdS h.cd) rfl (by decide) (by decide) (by kernel_rfl) (fun Ω=>⟨rfl,rfl⟩) (fun Ω=>rfl) (fun Ω=>rfl) (a3A (by decide) _)
theorem C3Q (h:Tri n b x y z)(hn:n+2≤30):Tri (n+2) (b+2) (ndC x) (ndC y) (ndC z):=B5B 99 "c" h hn (cdC h.cd) rfl (by decide) (by decide) (by kernel_rfl) (fun Ω=>⟨rfl,rfl⟩) (fun Ω=>rfl) (fun Ω=>rfl) (a3A (by decide) _)
theorem C5T (h:Tri n b x y z)(hn:n+2≤30):Tri (n+2) (b+2) (ndT x) (ndT y) (ndT z):=B5B 116 "t" h hn (cdT h.cd) rfl (by decide) (by decide) (by kernel_rfl) (fun Ω=>⟨rfl,rfl⟩) (fun Ω=>rfl) (fun Ω=>rfl) (a3A (by decide) _)
theorem C5W (h:Tri n b x y z)(hn:n+2≤30):Tri (n+2) (b+2) (ndJ x) (ndJ y) (ndJ z):=B5B 106 "j" h hn (cdJ h.cd) rfl (by decide) (by decide) (by kernel_rfl) (fun Ω=>⟨rfl,rfl⟩) (fun Ω=>rfl) (fun Ω=>rfl) (Int.le_of_eq ((((A7V h.cd.lx).post [99,0x92,0x82]).pre [104]).symm))
theorem C5U (h:Tri n b x y z)(hn:n+2≤30):Tri (n+2) (b+2) (ndN x) (ndN y) (ndN z):=B5B 110 "n" h hn (cdN h.cd) rfl (by decide) (by decide) (by kernel_rfl) (fun Ω=>⟨rfl,rfl⟩) (fun Ω=>rfl) (fun Ω=>rfl) (a3A (by decide) _)
theorem C5V (h:Tri n b x y z)(hn:n+2≤30):Tri (n+2) (b+2) (ndL x) (ndL y) (ndL z):=B5B 108 "l" h hn (cdL h.cd) rfl (by decide) (by decide) (by kernel_rfl) (fun Ω=>⟨rfl,rfl⟩) (fun Ω=>rfl) (fun Ω=>rfl) (a3A (by decide) _)
theorem C5S (h:Tri n b x y z)(hn:n+2≤30):Tri (n+2) (b+2) (ndU x) (ndU y) (ndU z):=B5B 117 "u" h hn (cdU h.cd) rfl (by decide) (by decide) (by kernel_rfl) (fun Ω=>⟨rfl,rfl⟩) (fun Ω=>rfl) (fun Ω=>rfl) (a3A (by decide) _)
theorem C5m (h:Tri n b x y z)(hn:n+2≤30)(hB:x.ty= "B"):Tri (n+2) (b+2) (ndV x) (ndV y) (ndV z):=B5B 118 "v" h hn (cdV h.cd hB) rfl (by decide) (by decide) (by kernel_rfl) (fun Ω=>⟨rfl,rfl⟩) (fun Ω=>rfl) (fun Ω=>rfl) (C6E h.cd.lx)
theorem C5X (h:Tri n b x y z)(hn:n+2≤30):Tri (n+2) (b+2) (ndD false x) (ndD t y) (ndD false z):=by
 obtain⟨w1,w2,w3⟩:=h.tx.wrap (X:=ndD false x) (Y:=ndD t y) (Z:=ndD false z) (o:=100) hn rfl (by decide) (by decide) (B0b (by kernel_rfl) x) (B0b (by kernel_rfl) y) (B0b (by kernel_rfl) z) rfl rfl rfl
 exact⟨cdD h.cd,w1,rfl,rfl,by simp only [ndD,h.pz,h.tz,h.vz],by simp only [ndD,h.pz,h.tz,h.vz],.inr (w3 rfl),by have:=h.len;show x.ln+3≤_;lia⟩
theorem C4m {P:List Nat→Prop}{a b:List Nat}(h:P a)(h':P b): ∀ c∈ [a,b],P c:=fm h (fm h' fn)
theorem B8F {F:ND→ND→ND}(nm:Str)(h:Tri n b x y z)(h':Tri n' b' x' y' z')(cd:Cd (F x x') (F y y') (F z z'))(hnm:((chs nm).all fun a=> !A2q a&&decide (a<128)&&decide (a≠58))=true)(hk:(chs nm).length≤9)(ht: ∀ u v,(F u v).tx=tx2 nm u.tx v.tx∧(F u v).wr=false)
  (hF: ∀ u v,A7u (F u v)=A7u (F (bare u) (bare v))) (hT: ∀ u v,(F u v).ty=(F (A3L u) (A3L v)).ty) (hl:(F x x').ln≤x.ln+x'.ln+20):Tri 9 (b+b'+15) (F x x') (F y y') (F z z'):=by
 have hw: ∀ u v,chs (F u v).tx=chs nm++40::A1n [chs u.tx,chs v.tx]:=fun u v=>by rw [(ht u v).1];exact C0W _ _ _
 obtain⟨w1,w2⟩:=Tx.call (X:=F x x') (Y:=F y y') (Z:=F z z') (nm:=chs nm) (as:= [chs x.tx,chs x'.tx]) (bs:= [chs z.tx,chs z'.tx]) (k:=9) (B:=b+b') (fun e=>nomatch e) (a0Z rfl) (hw x x') (by rw [hw y,h.tx.t,h'.tx.t]) (hw z z') hnm hk (by decide)
  (fun e=>nomatch e) (by simp [h.tx.c,h'.tx.c]) (C4m h.tx.a h'.tx.a) (C4m h.tx.az h'.tx.az) (Nat.add_le_add h.tx.l h'.tx.l) (ht x x').2 (ht y y').2 (ht z z').2
 have oz:A7u (F z z')=A7u (F x x'):=by rw [hF z,h.bz,h'.bz,←hF x]
 refine⟨cd,w1,by rw [hT y,A1J h.ty,A1J h'.ty,←hT x],congrArg (fun q=>q.2.2) oz,congrArg Prod.fst oz,congrArg (fun q=>q.2.1) oz,h.sy.elim (fun s=>h'.sy.elim (fun s'=> .inl ?_) fun p=> .inr (w2 _ (.tail _ (.head _)) p)) fun p=> .inr (w2 _ (.head _) p),by have:=h.len;have:=h'.len;lia⟩
 have oy:A7u (F y y')=A7u (F x x'):=by rw [hF y,A3l s.1 s.2 h.ty,A3l s'.1 s'.2 h'.ty,←hF x]
 exact⟨congrArg Prod.fst oy,congrArg (fun q=>q.2.1) oy⟩
theorem B8C (h:Tri n b x y z)(h':Tri n' b' x' y' z'):Tri 9 (b+b'+15) (A3s x x') (A3s y y') (A3s z z'):=B8F "and_v" h h' (C2W h.cd h'.cd) (by kernel_rfl) (a0Z (by kernel_rfl)) (fun Ω Ω=>⟨rfl,rfl⟩) (fun Ω Ω=>rfl) (fun Ω Ω=>rfl) (by lia:x.ln+ (x'.ln+0)≤x.ln+x'.ln+20)
theorem B8E (h:Tri n b x y z)(h':Tri n' b' x' y' z'):Tri 9 (b+b'+15) (A3u x x') (A3u y y') (A3u z z'):=B8F "and_b" h h' (C2Y h.cd h'.cd) (by kernel_rfl) (a0Z (by kernel_rfl)) (fun Ω Ω=>⟨rfl,rfl⟩) (fun Ω Ω=>rfl) (fun Ω Ω=>rfl) (le2 (by decide))
theorem B8D (h:Tri n b x y z)(h':Tri n' b' x' y' z'):Tri 9 (b+b'+15) (A3t x x') (A3t y y') (A3t z z'):=B8F "and_n" h h' (C2X h.cd h'.cd) (by kernel_rfl) (a0Z (by kernel_rfl)) (fun Ω Ω=>⟨rfl,rfl⟩) (fun Ω Ω=>rfl) (fun Ω Ω=>rfl) (le2 (by decide))
theorem C1d (h:Tri n b x y z)(h':Tri n' b' x' y' z'):Tri 9 (b+b'+15) (A6I x x') (A6I y y') (A6I z z'):=B8F "or_b" h h' (C4S h.cd h'.cd) (by kernel_rfl) (a0Z (by kernel_rfl)) (fun Ω Ω=>⟨rfl,rfl⟩) (fun Ω Ω=>rfl) (fun Ω Ω=>rfl) (le2 (by decide))
theorem C1c (h:Tri n b x y z)(h':Tri n' b' x' y' z'):Tri 9 (b+b'+15) (A6H x x') (A6H y y') (A6H z z'):=B8F "or_c" h h' (C4R h.cd h'.cd) (by kernel_rfl) (a0Z (by kernel_rfl)) (fun Ω Ω=>⟨rfl,rfl⟩) (fun Ω Ω=>rfl) (fun Ω Ω=>rfl) (le2 (by decide))
theorem C1b (h:Tri n b x y z)(h':Tri n' b' x' y' z'):Tri 9 (b+b'+15) (A6G x x') (A6G y y') (A6G z z'):=B8F "or_d" h h' (C4Q h.cd h'.cd) (by kernel_rfl) (a0Z (by kernel_rfl)) (fun Ω Ω=>⟨rfl,rfl⟩) (fun Ω Ω=>rfl) (fun Ω Ω=>rfl) (le2 (by decide))
theorem C1a (h:Tri n b x y z)(h':Tri n' b' x' y' z'):Tri 9 (b+b'+15) (A4S x x') (A4S y y') (A4S z z'):=B8F "or_i" h h' (C4P h.cd h'.cd) (by kernel_rfl) (a0Z (by kernel_rfl)) (fun Ω Ω=>⟨rfl,rfl⟩) (fun Ω Ω=>rfl) (fun Ω Ω=>rfl) (le2 (by decide))
theorem A4B (i:Int): ∀ c∈chs (dec i),A2q c=false∧c<128:=fun c hc=>by
 have f:=fun (k:Nat) (hk:k≠45∧(k<48∨57<k)) (e:c=k)=>int_text_free' k hk i (e▸hc)
 refine⟨?_,?_⟩
 ·unfold A2q
  have h1:=f 32 (by decide)
  have h2:=f 40 (by decide)
  have h3:=f 41 (by decide)
  have h4:=f 44 (by decide)
  simp only [Bool.or_eq_false_iff,a1L]
  exact⟨⟨⟨h1,h2⟩,h3⟩,h4⟩
 ·refine Nat.lt_of_not_le fun h=>f c ⟨by lia,by lia⟩ rfl
theorem B8n {i:Int}(h0:0≤i)(h1:i<10^10):cc (chs (dec i))= [chs (dec i)]∧(cc (chs (dec i))).map lkW=cc (chs (dec i))∧(chs (dec i)).length≤10:=by
 have hl:(chs (dec i)).length≤10:=A9O h0 h1
 have e:=A7o fun a ha=>(A4B i a ha).1
 exact⟨e,by rw [e,List.map_singleton,A2H (by lia)],hl⟩
theorem C5o {F:ND→ND→ND→ND}(nm:Str)(pre:List (List Nat))(h:Tri n b x y z)(h':Tri n' b' x' y' z')(h2:Tri n2 b2 x2 y2 z2)(cd:Cd (F x x' x2) (F y y' y2) (F z z' z2))(hnm:((chs nm).all fun a=> !A2q a&&decide (a<128)&&decide (a≠58))=true)(hk:(chs nm).length≤9)
  (hp:pre.length≤1) (hp1:(pre.flatMap cc).map lkW=pre.flatMap cc) (hp2: ∀ a∈pre,∀ c∈a,c<128) {m:Nat} (hp3:(pre.map (·.length)).sum≤m) (ht: ∀ u v w,chs (F u v w).tx=chs nm++40::A1n (pre++ [chs u.tx,chs v.tx,chs w.tx])∧(F u v w).wr=false)
  (hF: ∀ u v w,A7u (F u v w)=A7u (F (bare u) (bare v) (bare w))) (hT: ∀ u v w,(F u v w).ty=(F (A3L u) (A3L v) (A3L w)).ty) (hl:(F x x' x2).ln≤x.ln+x'.ln+x2.ln+20):Tri 9 (b+b'+b2+m+15) (F x x' x2) (F y y' y2) (F z z' z2):=by
 have mm: ∀ {P:List Nat→Prop} {a b c:List Nat},(∀ a∈pre,P a)→P a→P b→P c→ ∀ d∈pre++ [a,b,c],P d:=fun h0 h1 h2 h3 d hd=>(a1O.mp hd).elim (h0 d) (fm h1 (C4m h2 h3) d)
 have hi: ∀ {a},a∈ [chs x.tx,chs x'.tx,chs x2.tx]→a∈pre++ [chs x.tx,chs x'.tx,chs x2.tx]:=fun h=>a0G _ h
 obtain⟨w1,w2⟩:=Tx.call (X:=F x x' x2) (Y:=F y y' y2) (Z:=F z z' z2) (nm:=chs nm) (as:=pre++ [chs x.tx,chs x'.tx,chs x2.tx]) (bs:=pre++ [chs z.tx,chs z'.tx,chs z2.tx]) (k:=9) (B:=b+b'+b2+m) (by simp) (by simp;lia) (ht x x' x2).1 (by rw [(ht y y' y2).1,h.tx.t,h'.tx.t,h2.tx.t]) (ht z z' z2).1 hnm hk (by decide)
  (by simp) (by simp only [List.flatMap_append,a2P,hp1];simp [h.tx.c,h'.tx.c,h2.tx.c]) (mm hp2 h.tx.a h'.tx.a h2.tx.a) (mm hp2 h.tx.az h'.tx.az h2.tx.az) (by have:=h.tx.l;have:=h'.tx.l;have:=h2.tx.l;simp only [a2P,List.sum_append,a0V,List.map_nil,a2L,List.sum_nil];lia) (ht x x' x2).2 (ht y y' y2).2 (ht z z' z2).2
 have oz:A7u (F z z' z2)=A7u (F x x' x2):=by rw [hF z,h.bz,h'.bz,h2.bz,←hF x]
 refine⟨cd,w1.le (a0K _) (by lia),by rw [hT y,A1J h.ty,A1J h'.ty,A1J h2.ty,←hT x],congrArg (fun q=>q.2.2) oz,congrArg Prod.fst oz,congrArg (fun q=>q.2.1) oz,h.sy.elim (fun s=>h'.sy.elim (fun s'=>h2.sy.elim (fun s2=> .inl ?_) fun p=> .inr (w2 _ (hi (.tail _ (.tail _ (.head _)))) p)) fun p=> .inr (w2 _ (hi (.tail _ (.head _))) p)) fun p=> .inr (w2 _ (hi (.head _)) p),by have:=h.len;have:=h'.len;have:=h2.len;lia⟩
 have oy:A7u (F y y' y2)=A7u (F x x' x2):=by rw [hF y,A3l s.1 s.2 h.ty,A3l s'.1 s'.2 h'.ty,A3l s2.1 s2.2 h2.ty,←hF x]
 exact⟨congrArg Prod.fst oy,congrArg (fun q=>q.2.1) oy⟩
theorem B5A (h:Tri n b x y z)(h':Tri n' b' x' y' z')(h2:Tri n2 b2 x2 y2 z2):Tri 9 (b+b'+b2+15) (A1d x x' x2) (A1d y y' y2) (A1d z z' z2):=
 C5o (F:=A1d) (m:=0) "andor" [] h h' h2 (C0r h.cd h'.cd h2.cd) (by kernel_rfl) (a0Z (by kernel_rfl)) (a2K _) rfl (fun Ω h=>nomatch h) (a0K _) (fun Ω Ω Ω=>⟨C0V _ _ _ _,rfl⟩) (fun Ω Ω Ω=>rfl) (fun Ω Ω Ω=>rfl) (by show x.ln+ (x'.ln+ (x2.ln+0))+3≤_;lia)
theorem C3P (k:Nat)(hk:k<3)(h:Tri n b x y z)(h':Tri n' b' x' y' z')(h2:Tri n2 b2 x2 y2 z2):Tri 9 (b+b'+b2+25) (B1r (1+k) x x' x2) (B1r (1+k) y y' y2) (B1r (1+k) z z' z2):=by
 obtain⟨d1,d2,d3⟩:=B8n (i:=1+ (k:Int)) (by lia) (by lia)
 exact(C5o (F:=B1r (1+k)) (m:=10) "thresh" [chs (dec (1+k))] h h' h2 (C6X k hk h.cd h'.cd h2.cd) (by kernel_rfl) (a0Z (by kernel_rfl)) (a0K _) (by simp [d2]) (fm (fun c hc=>(A4B _ c hc).2) fn) (by simpa using d3) (fun Ω Ω Ω=>⟨C0U _ _ _ _ _,rfl⟩) (fun Ω Ω Ω=>rfl) (fun Ω Ω Ω=>rfl) (by show 1+ (x.ln+ (x'.ln+ (x2.ln+0)))+4 - 1≤_;lia)).le (a0K _) (by lia)
end
noncomputable def B7s (a b c:List UInt8):Bool:=(A0C a).all gdI&& ((A0C a).map (A0Q (tt6 3))).flatten==b&& ((A0C a).map (A0Q (tn7 9))).flatten==c
theorem CR.chk {a b c:List UInt8}(h:B7s a b c=true):CR a b c:=by
 unfold B7s at h
 simp only [a1B,beq_iff_eq] at h
 exact⟨A0C a,fun it hit=>a0J.mp h.1.1 it hit,(A5a a).symm,h.1.2.symm,h.2.symm⟩
noncomputable def C0q (x y z:ND):Bool:=B7s (fw x) (fw y) (fw z)&& (!(x.ty== "B")|| (decide (76≤x.hd.toNat)&&y.hd==x.hd&&z.hd==x.hd&&B7s x.tl.reverse y.tl.reverse z.tl.reverse))&&x.ln==(x.tl.length:Int)+1&&y.ln==(y.tl.length:Int)+1&&z.ln==(z.tl.length:Int)+1
theorem Cd.chk {x y z:ND}(h:C0q x y z=true):Cd x y z:=by
 unfold C0q at h
 simp only [a1B,beq_iff_eq,Bool.or_eq_true,decide_eq_true_eq,Bool.not_eq_true'] at h
 obtain⟨⟨⟨⟨h1,h2⟩,h3⟩,h4⟩,h5⟩:=h
 refine⟨CR.chk h1,fun e=> ?_,h3,h4,h5⟩
 rcases h2 with h2| ⟨⟨⟨a,b⟩,c⟩,d⟩
 ·exact absurd e (B3b h2)
 ·exact⟨a,b,c,CR.chk d⟩
noncomputable def C0T (l r:List Nat):Bool:=cc r==(cc l).map lkW&& (match cc l with
 | p::_=>decide (p.length≤9)&& !decide (58∈p)
 | []=>false)&&l.all (fun c=>decide (c<128))&&r.all (fun c=>decide (c<128))&&decide (l.length≤80)
noncomputable def C2B (i k:Nat):List Nat:=(List.replicate k (chs (B5r i))).flatten
noncomputable def B9B (i:Nat):List Nat:=48::50::C2B i 32
noncomputable def khl (nw:Bool)(w e:Nat):List Nat:=if e=2 then C2B (wd nw (3+w)) 20 else B9B (wd nw w)
theorem A7N (i k:Nat):chs (Txt.mul (B5r i) (k+2:Nat))=C2B i (k+2):=by
 have go: ∀ (l:List (Array Nat)) (a:Array Nat),(l.foldl (· ++ ·) a).toList=a.toList++ (l.map Array.toList).flatten:=fun l=>by
  induction l with
  | nil=>intro a;exact(a1H _).symm
  | cons b l ih=>intro a;rw [List.foldl_cons,ih,Array.toList_append,a0C];rfl
 have h1: ¬ ((k+2:Nat):Int)<1:=by omega
 have h2:((((k+2:Nat):Int)==1)|| (B5r i).length==0)=false:=by
  rw [a1L.mpr (by omega)];rfl
 unfold Txt.mul
 show chs (if ((k+2:Nat):Int)<1 then _ else _)=_
 rw [if_neg h1,if_neg (by rw [h2];decide)]
 exact(go _ _).trans (by rw [List.map_replicate];rfl)
theorem A4Z (i:Nat)(t:Bool):chs (B4c i t).tx=B9B i:=by
 have h:chs (⟨#[48,50]⟩++Txt.mul (B5r i) 32)=B9B i:=by
  show (Array.toList (_++_))=_
  rw [Array.toList_append];exact congrArg (fun l=>48::50::l) (A7N i 30)
 cases t<;>exact h
theorem B2a (t nw:Bool)(w e:Nat):chs (khD t nw w e).tx=khl nw w e:=by
 unfold khD khl
 by_cases h:e=2
 ·rw [if_pos h,if_pos h];exact A7N _ 18
 ·rw [if_neg h,if_neg h];exact A4Z _ true
noncomputable def A8Q (nm:Str)(l r:List Nat)(x y z:ND):Bool:=C0T (chs nm++40::A1n [l]) (chs nm++40::A1n [r])&&C0q x y z&&y.ty==x.ty&&z.ty==x.ty&&z.ps==x.ps&&z.vf==x.vf&&y.ps==x.ps&&y.vf==x.vf&&decide (x.ln≤160)
theorem Tri.chk {x y z:ND}{nm a b c:Str}{l r:List Nat}(ha:chs a=l)(hb:chs b=l)(hc:chs c=r)(h:A8Q nm l r x y z=true)(hx:x.tx=tx1 nm a)(hy:y.tx=tx1 nm b)(hz:z.tx=tx1 nm c)(wx:x.wr=false)(wy:y.wr=false)(wz:z.wr=false):Tri 9 80 x y z:=by
 unfold A8Q C0T at h
 rw [←ha,←hc,←B0c,←B0c,←hx,←hz] at h
 simp only [a1B,beq_iff_eq,decide_eq_true_eq] at h
 obtain⟨⟨⟨⟨⟨⟨⟨⟨⟨⟨⟨⟨t1,t2⟩,t3⟩,t4⟩,t5⟩,h1⟩,h3⟩,h4⟩,h5⟩,h6⟩,h7⟩,h8⟩,h9⟩:=h
 refine⟨Cd.chk h1,⟨by rw [hx,hy,B5a (ha.trans hb.symm)],t1,?_,wy.trans wx.symm,wz.trans wx.symm,fun c hc=>a0B (a0J.mp t3 c hc),fun c hc=>a0B (a0J.mp t4 c hc),t5⟩,h3,h4,h5,h6,.inl ⟨h7,h8⟩,h9⟩
 obtain⟨p,r,e⟩:=B5c (chs x.tx)
 rw [e] at t2
 simp only [a1B,decide_eq_true_eq,Bool.not_eq_true'] at t2
 exact⟨p,r,e,t2.1,by rw [wx,t2.2]⟩
noncomputable def ws3:List Nat:= [0,1,2]
theorem B1Z:(ws3.all fun w=>A8Q "pk" (B9B (wd false w)) (B9B (wd true w)) (C1W (B4c (wd false w) false)) (C1W (B4c (wd false w) true)) (C1W (B4c (wd true w) false))&&A8Q "pk_k" (B9B (wd false w)) (B9B (wd true w)) (B1P (B4c (wd false w) false)) (B1P (B4c (wd false w) true)) (B1P (B4c (wd true w) false)))=true:=by kernel_rfl
theorem B3S:(ws3.all fun w=>ws3.all fun e=>A8Q "pkh" (khl false w e) (khl true w e) (A9j (khD false false w e)) (A9j (khD true false w e)) (A9j (khD false true w e))&&A8Q "pk_h" (khl false w e) (khl true w e) (A7L (khD false false w e)) (A7L (khD true false w e)) (A7L (khD false true w e)))=true:=by kernel_rfl
noncomputable def B4n (op:UInt8)(nm:Str)(i k w:Nat):Bool:=A8Q nm (C2B (wd false (i+w)) k) (C2B (wd true (i+w)) k) (A1Q op nm (A3n (wd false (i+w)) k)) (A1Q op nm (A3n (wd false (i+w)) k)) (A1Q op nm (A3n (wd true (i+w)) k))
theorem A9q:(ws3.all fun w=>B4n 0xa8 "sha256" 6 32 w&&B4n 0xaa "hash256" 6 32 w&&B4n 0xa6 "ripemd160" 9 20 w&&B4n 0xa9 "hash160" 9 20 w)=true:=by kernel_rfl
theorem Tri.hs {op:UInt8}{nm:Str}{i k w:Nat}(h:B4n op nm i (k+2) w=true):Tri 9 80 (A1Q op nm (A3n (wd false (i+w)) (k+2))) (A1Q op nm (A3n (wd false (i+w)) (k+2))) (A1Q op nm (A3n (wd true (i+w)) (k+2))):=Tri.chk (A7N _ _) (A7N _ _) (A7N _ _) h rfl rfl rfl rfl rfl rfl
theorem B9o {k:Int}(h:k≤70000):(nuR k).length≤3:=by
 unfold nuR B1W
 have e:(List.range 32)=List.range 3++List.range' 3 29:=by decide
 rw [e,a2P,a2I,List.dropWhile_append_of_pos]
 ·exact a0F (List.dropWhile_sublist _).length_le (by simp)
 ·intro a ha
  obtain⟨j,hj,rfl⟩:=List.mem_map.mp (List.mem_reverse.mp ha)
  obtain⟨i,hi,rfl⟩:=List.mem_range'.mp hj
  have h1:256^3≤256^ (3+1*i):=Nat.pow_le_pow_right (by decide) (by lia)
  have h2:k.toNat<256^ (3+1*i):=Nat.lt_of_lt_of_le (by lia) h1
  rw [Nat.div_eq_of_lt h2];rfl
theorem C4i {k:Int}(h1:1≤k)(h2:k≤70000):CR (A1W k).reverse (A1W k).reverse (A1W k).reverse∧(A1W k).length≤5:=by
 unfold A1W
 split
 ·rename_i h16
  refine⟨CR.op (.inl ?_),by simp⟩
  have:(80+k).toNat<256:=by lia
  rw [UInt8.toNat_ofNat_of_lt' this];lia
 ·have hr:=B9o h2
  have hp:(B1J (nuR k)).length≤4:=by
   unfold B1J
   cases decide (((nuR k).headD 0).toNat≥ (128:Int))<;>simp<;>lia
  generalize B1J (nuR k)=l at hp ⊢
  refine⟨?_,by simp;lia⟩
  rw [a2I]
  have hn:(((l.length:Int).toNat.toUInt8).toNat)=l.length:=by
   rw [Int.toNat_natCast];exact UInt8.toNat_ofNat_of_lt' (by show l.length<256;lia)
  refine CR.short (by simp;lia) ?_ ?_
  ·show (l.reverse.length==A2Y _)=true
   unfold A2Y
   rw [hn,if_pos (by lia),a0O,a2B]
  ·show ([(l.length:Int).toNat.toUInt8]== [33])=false
   refine a1L.mpr fun e=> ?_
   injection e with e
   rw [e] at hn
   have:(33:UInt8).toNat=33:=by decide
   lia
theorem B2S {X:ND}{nm:List Nat}{k:Int}(h1:1≤k)(h2:k≤70000)(hd:X.hd=177∨X.hd=178)(ht:X.tl=A1W k)(hl:X.ln=(A1W k).length+0+1)(hx:chs X.tx=nm++40::A1n [chs (dec k)])(hw:X.wr=false)(hnm:(nm.all fun a=> !A2q a&&decide (a<128)&&decide (a≠58))=true)(hk:nm.length≤9):Tri 9 80 X X X:=by
 obtain⟨c1,c2⟩:=C4i h1 h2
 obtain⟨d1,d2,d3⟩:=B8n (i:=k) (by lia) (by lia)
 have h76:76≤X.hd.toNat:=by rcases hd with h| h<;>rw [h]<;>decide
 have w:=(Tx.call (X:=X) (Y:=X) (Z:=X) (nm:=nm) (as:= [chs (dec k)]) (bs:= [chs (dec k)]) (k:=9) (B:=10) (by simp) (by simp) hx hx hx hnm hk (by decide) (by simp) (by simp [d2]) (fun a ha=>by rw [a0L.mp ha];exact fun c hc=>(A4B k c hc).2) (fun a ha=>by rw [a0L.mp ha];exact fun c hc=>(A4B k c hc).2) (by simpa using d3) hw hw hw).1
 refine⟨.of X.hd h76 rfl rfl rfl (by rw [ht];exact c1) (by rw [ht,hl];lia) (by rw [ht,hl];lia) (by rw [ht,hl];lia),w.le (by decide) (by decide),rfl,rfl,rfl,rfl,.inl ⟨rfl,rfl⟩,by rw [hl];lia⟩
theorem B5z (w e k:Nat)(hw:w<3)(he:e<3)(m:Int):Tri 11 82 (A0W false false k w e m) (A0W true false k w e m) (A0W false true k w e m):=by
 have mw:w∈ws3:=(by decide: ∀ w<3,w∈ws3) w hw
 have me:e∈ws3:=(by decide: ∀ w<3,w∈ws3) e he
 have kk:=a0J.mp B1Z w mw
 have kh:=a0J.mp (a0J.mp B3S w mw) e me
 have hh:=a0J.mp A9q w mw
 simp only [a1B] at kk kh hh
 have n6:Tri 11 82 (A0W false false 6 w e m) (A0W true false 6 w e m) (A0W false true 6 w e m):=by
  have h0:0≤m%70000:=a2A _ (by decide)
  have h1:m%70000<70000:=a1Q _ (by decide)
  have h2:0≤m%300:=a2A _ (by decide)
  have h3:m%300<300:=a1Q _ (by decide)
  exact itP (P:=fun X=>Tri 11 82 X X X) ((B2S (nm:=chs "after") (k:=1+m%70000) (Int.le_add_of_nonneg_right h0) (by lia) (.inl rfl) rfl rfl (B0c _ _) rfl (by kernel_rfl) (a0Z (by kernel_rfl))).le (by decide) (by decide))
   ((B2S (nm:=chs "older") (k:=1+m%300) (Int.le_add_of_nonneg_right h2) (by lia) (.inr rfl) rfl rfl (B0c _ _) rfl (by kernel_rfl) (a0Z (by kernel_rfl))).le (by decide) (by decide))
 have k1:=Tri.chk (A4Z _ _) (A4Z _ _) (A4Z _ _) kk.1 rfl rfl rfl rfl rfl rfl
 have k2:=Tri.chk (A4Z _ _) (A4Z _ _) (A4Z _ _) kk.2 rfl rfl rfl rfl rfl rfl
 have h1:=Tri.chk (B2a _ _ _ _) (B2a _ _ _ _) (B2a _ _ _ _) kh.1 rfl rfl rfl rfl rfl rfl
 have h2:=Tri.chk (B2a _ _ _ _) (B2a _ _ _ _) (B2a _ _ _ _) kh.2 rfl rfl rfl rfl rfl rfl
 have c: ∀ {x y z:ND},Tri 9 80 x y z→Tri 11 82 x y z:=fun h=>h.le (by decide) (by decide)
 exact B6j (P:=fun k=>Tri 11 82 (A0W false false k w e m) (A0W true false k w e m) (A0W false true k w e m)) 10 (fm (c k1) (fm (c k2) (fm (C3Q k2 (by decide)) (fm (c h1) (fm (c h2) (fm (C3Q h2 (by decide)) (fm n6 (fm (c (.hs hh.1.1.1)) (fm (c (.hs hh.1.1.2)) (fm (c (.hs hh.1.2)) fn)))))))))) (fun Ω=>c (.hs hh.2)) k
theorem C2Q (n:Int):eOf n<3:=Nat.lt_of_lt_of_le (C3x (n / 33) (C0n (kOf n)).1).1 (C0n (kOf n)).2
theorem A3N (n:Int):Tri 11 82 (A1p false false n) (A1p true false n) (A1p false true n):=B5z (wOf n) (eOf n) (kOf n) (B8m n).2.2.2.1 (C2Q n) _
section
variable {n' b' n2 b2:Nat}{x y z x' y' z' x2 y2 z2:ND}
theorem B7K {F F':ND→ND}{m d:Nat}(h:Tri n b x y z)(hv:x.ty= "B" →Tri m d (F x) (F y) (F z))(hc:Tri m d (F' x) (F' y) (F' z)):Tri m d (if x.ty= "B" then F x else F' x) (if y.ty= "B" then F y else F' y) (if z.ty= "B" then F z else F' z):=by
 by_cases hB:x.ty= "B"
 ·rw [if_pos hB,if_pos (h.ty.trans hB),if_pos (h.tz.trans hB)];exact hv hB
 ·rw [if_neg hB,if_neg (fun e=>hB (h.ty.symm.trans e)),if_neg (fun e=>hB (h.tz.symm.trans e))];exact hc
theorem B5y (w:Nat)(h:Tri n b x y z)(hn:n+2≤30):Tri (n+2) (b+2) (A1Y false w x) (A1Y true w y) (A1Y false w z):=
 B6j (P:=fun w=>Tri (n+2) (b+2) (A1Y false w x) (A1Y true w y) (A1Y false w z)) 8 (fm (C3R h hn) (fm (C5n h hn) (fm (C5T h hn) (fm (C5X h hn) (fm (C5W h hn) (fm (C5U h hn) (fm (B7K h (C5m h hn) (C3Q h hn)) (fm (C5V h hn) fn)))))))) (fun Ω=>C5S h hn) w
theorem C3O (s:Nat)(h:Tri n b x y z)(hn:n+2≤30):Tri (n+2) (b+2) (yND s x) (yND s y) (yND s z):=
 have q:=h.le (a2H n 2) (a2H b 2)
 B6j (P:=fun s=>Tri (n+2) (b+2) (yND s x) (yND s y) (yND s z)) 3 (fm q (fm (C3R h hn) (fm (C5n h hn) fn))) (fun Ω=>B7K (F':=id) h (C5m h hn) q) s
theorem C3N (s:Nat)(h:Tri n b x y z)(hn:n+2≤30):Tri (n+2) (b+2) (zND s x) (zND s y) (zND s z):=
 B6j (P:=fun s=>Tri (n+2) (b+2) (zND s x) (zND s y) (zND s z)) 1 (fm (h.le (a2H n 2) (a2H b 2)) fn) (fun Ω=>C3R h hn) s
theorem B8B (w:Nat)(h:Tri n b x y z)(h':Tri n' b' x' y' z'):Tri 9 (b+b'+15) (A4l w x x') (A4l w y y') (A4l w z z'):=by
 have i:=C1a h h'
 exact B6j (P:=fun w=>Tri 9 (b+b'+15) (A4l w x x') (A4l w y y') (A4l w z z')) 15 (fm i (fm i (fm i (fm i (fm i (fm i (fm i (fm i (fm i (fm (B8C h h') (fm (B8E h h') (fm (B8D h h') (fm (C1d h h') (fm (C1c h h') (fm (C1b h h') fn))))))))))))))) (fun Ω=>i) w
theorem B0e (hn:n+2≤30)(h9:9≤n)(p q r:Int)(h:Tri n b x y z):Tri (n+2) (b+193) (A2v false false p q r x) (A2v true false p q r y) (A2v false true p q r z):=by
 unfold A2v
 split
 ·exact(B5y _ h hn).le (by lia) (by lia)
 ·dsimp only
  have hy:=C3O (p / 18%4).toNat (A3N q) (by decide)
  split
  ·exact(B8B _ h hy).le (by lia) (by lia)
  ·have hz:=C3N (p / 72%2).toNat (A3N r) (by decide)
   split
   ·exact(B5A h hy hz).le (by lia) (by lia)
   ·have h0:0≤p / 18%3:=a2A _ (by decide)
    have h1:p / 18%3<3:=a1Q _ (by decide)
    have:=C3P (p / 18%3).toNat (by lia) h hy hz
    rw [Int.toNat_of_nonneg h0] at this
    exact this.le (by lia) (by lia)
theorem C0Z (l:List Int)(dp:Int):Tri 15 468 (mk false false l dp) (mk true false l dp) (mk false true l dp):=by
 have h1: ∀ p,Tri 13 275 (B1U false false l p) (B1U true false l p) (B1U false true l p):=fun p=>B0e (by decide) (by decide) _ _ _ (A3N _)
 unfold mk
 split
 ·exact(h1 1).le (by decide) (by decide)
 ·exact B0e (by decide) (by decide) _ _ _ (h1 _)
end
theorem A4H (f g:List UInt8→Nat): ∀ l:List (List UInt8),(∀ it∈l,f it+ (bif A3y it then 1 else 0)=g it)→(l.map f).sum+ (l.filter A3y).length=(l.map g).sum
 | [],_=>rfl
 | a::l,h=>by
  have ih:=A4H f g l fun it hi=>h it (.tail _ hi)
  have ha:=h a (.head _)
  rw [List.filter_cons]
  cases hk:A3y a with
  | true=>
   rw [hk] at ha
   simp only [if_true,a0V,a2L,a1T,cond_true] at ha ⊢
   lia
  | false=>
   rw [hk] at ha
   simp only [Bool.false_eq_true,if_false,a0V,a2L,cond_false] at ha ⊢
   lia
theorem A6W (l:List (List UInt8)):l.flatten.length=(l.map (·.length)).sum:=List.length_flatten
theorem A7m (x:Str):A8L x=(cc (chs x)).map fun l=>⟨l.toArray⟩:=by
 rw [A7l,←C3a]
 congr 2
 obtain⟨l1,l2,l3,l4,_⟩:=lit_eq
 unfold spT
 rw [l1,l2,l3,l4,A2n,A2n,A2n]
theorem C2c (s:Str):(⟨(chs s).toArray⟩:Str)=s:=by cases s;simp [chs]
set_option tactic.hygienic true in
theorem B0f: ∀ (l:List Nat) (p:List Nat) (r:List (List Nat)),A2W 58 l=p::r→p=l.takeWhile (· !=58)
 | [],p,r,h=>by cases h;rfl
 | a::l,p,r,h=>by
  by_cases ha:a=58
  ·subst ha
   rw [A9R] at h
   cases h;rfl
  ·rw [A9Q ha] at h
   have hb:(a !=58)=true:=bne_iff_ne.mpr ha
   rw [List.takeWhile_cons,if_pos hb]
   split at h
   ·cases h
    rename_i e
    exact absurd e (by
     cases l with
     | nil=>simp [A2W]
     | cons b l=>unfold A2W;split<;>(first| simp| (split<;>simp)))
   ·rename_i q q2 e
    cases h
    rw [B0f l q _ e]
theorem B9e (p:List Nat):chs (A6E ⟨p.toArray⟩)=p.takeWhile (· !=58):=by
 unfold A6E
 rw [lit_eq.2.2.2.2.1,A3q]
 show chs (((A2W 58 p).map _).headD _)=_
 cases h:A2W 58 p with
 | nil=>
  exact absurd h (by
   cases p with
   | nil=>simp [A2W]
   | cons b l=>unfold A2W;split<;>(first| simp| (split<;>simp)))
 | cons a r=>rw [←B0f p a r h];simp [chs]
theorem B0w: ∀ (l:List Str) (a:Str) (c:Nat),a∈l→c∈chs a→c∈chs (Str.join "" l)
 | [b],a,c,h,hc=>by rw [a0L.mp h] at hc;exact hc
 | b::d::r,a,c,h,hc=>by
  show c∈ (b++ "" ++Str.join "" (d::r)).cps.toList
  simp only [Str.cps_append,Array.toList_append,a0C,a1O]
  rcases a0T.mp h with rfl| h
  ·exact .inl hc
  ·exact .inr (.inr (B0w (d::r) a c h hc))
theorem B8g (c:Nat)(x:Str):inS ⟨#[c]⟩ x=decide (c∈chs x):=StrLaws.found_one x c
theorem B9g {x:ND}(h:Pd x):inS "d" (A9P (A8L x.tx))=true:=by
 obtain⟨p,h1,h2,h3⟩:=h
 rw [lit_eq.2.2.2.2.2,B8g]
 refine a0Q ?_
 unfold A9P
 show 100∈chs (Builtin.Str.glued "" _)
 rw [StrLaws.glued_eq_join]
 refine B0w _ (A6E ⟨p.toArray⟩) 100 (List.mem_map.mpr ⟨⟨p.toArray⟩,List.mem_filter.mpr ⟨?_,?_⟩,rfl⟩) (by rw [B9e];exact h3)
 ·rw [A7m];exact List.mem_map.mpr ⟨p,h1,rfl⟩
 ·rw [lit_eq.2.2.2.2.1,B8g];exact a0Q (by simpa [chs] using h2)
theorem C4q {x y z:ND}(h:Tri n 468 x y z):LawOk x y z:=by
 obtain⟨its,g,e1,e2,e3⟩:=h.cd.cr
 have hI:A0C (fw x)=its:=by rw [e1];exact A6d _ its (fun it hi=>C4I (g it hi)) (a0K _)
 have gd: ∀ it∈its,((A0Q (tt6 3) it).length+ (bif A3y it then 1 else 0)=it.length)∧(A0Q (tn7 9) it).length=it.length:=fun it hi=>by
  have:=g it hi
  unfold gdI at this
  simp only [a1B,beq_iff_eq] at this
  exact⟨this.1.2,this.2⟩
 have lx:(fw x).length=x.tl.length+1:=by simp [fw]
 have ly:(fw y).length=y.tl.length+1:=by simp [fw]
 have lz:(fw z).length=z.tl.length+1:=by simp [fw]
 have c1:=h.cd.lx
 have c2:=h.cd.ly
 have c3:=h.cd.lz
 have sx:(fw x).length=(its.map (·.length)).sum:=by rw [e1];exact A6W _
 have sy:(fw y).length=(its.map fun it=>(A0Q (tt6 3) it).length).sum:=by rw [e2,A6W,List.map_map];rfl
 have sz:(fw z).length=(its.map (·.length)).sum:=by
  rw [e3,A6W,List.map_map]
  exact congrArg List.sum (List.map_congr_left fun it hi=>(gd it hi).2)
 have sk:=A4H (fun it=>(A0Q (tt6 3) it).length) (·.length) its fun it hi=>(gd it hi).1
 have hl:=h.len
 have htl:=h.tx.l
 refine⟨by simp only [a1T];lia,by show _=((A0C (fw x)).map _).flatten;rw [hI];exact e2,by show _=((A0C (fw x)).map _).flatten;rw [hI];exact e3,by rw [c1];simp,?_,by rw [c3,c1];lia,h.tx.t,?_,?_,a0F htl (by decide),h.tz.symm,h.pz.symm,h.vz.symm,h.ty.symm,fun hd=> ?_⟩
 ·show _=_ - (((A0C (fw x)).filter A3y).length:Int)
  rw [hI,c1,c2];lia
 ·rw [A7m,A7m,h.tx.c,List.map_map,List.map_map]
  exact List.map_congr_left fun l Ω=>C2c _
 ·intro p hp
  rw [A7m] at hp
  obtain⟨l,h1,rfl⟩:=List.mem_map.mp hp
  refine Array.all_eq_true_iff_forall_mem.mpr fun c hc=>a0Q ?_
  have hc:c∈l:=by simpa using hc
  have:=h.tx.az c (C2Z _ l h1 c hc)
  lia
 ·rcases h.sy with s| p
  ·exact⟨s.1.symm,s.2.symm⟩
  ·rw [B9g p] at hd;cases hd
theorem B3Y (l:List Int)(dp:Int):LawOk (mk false false l dp) (mk true false l dp) (mk false true l dp):=C4q (C0Z l dp)
theorem law_holds:PySem.Challenge.rw_ai0024_01.Holds:=B1Q (C3J fun l Ω=>B3Y l _)
end
end Mini.Internal
theorem PySem.Challenge.cw_ai0024_01_holds : PySem.Challenge.rw_ai0024_01.Holds :=
  Mini.Internal.law_holds
