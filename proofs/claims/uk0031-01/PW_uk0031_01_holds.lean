import PyProof.Rows.All
import Wide.All
import OpenK.AllK
import Wide.FinOn
import PySem.Challenge.RW_uk0031_01
set_option Elab.async false
set_option linter.all false
set_option bootstrap.genMatcherCode false
section
open PySem PySem.W PyProof.Rows
set_option maxRecDepth 100000
namespace Mine
theorem nS {α:Type} {a:α} {C:Prop} (h:none=some a):C:=nomatch h
theorem exE {α:Sort u} {p:α→Prop} {G:Prop} (h:∃ a,p a) (k:∀ a,p a→G):G:=let ⟨a,h⟩:=h; k a h
theorem anE {p q G:Prop} (h:p∧q) (k:p→q→G):G:=k h.1 h.2
theorem exA {α:Sort u} {p q:α→Prop} {G:Prop} (h:∃ a,p a∧q a) (k:∀ a,p a→q a→G):G:=let ⟨a,h,h'⟩:=h; k a h h'
theorem bdE {α β:Type} {o:Option α} {f:α→Option β} {r:β} {G:Prop} (h:o.bind f=some r) (k:∀ a,o=some a→f a=some r→G):G:=match o with
  | some a=>k a rfl h
  | none=>nS h
theorem hid {G:Prop} (h:∀ P:Prop,(G→P)→P):G:=h G id
theorem hidQ {M:Model} {A:Around} {α:Type} {x:Sem α} {Q:α→Shared→Prop} {E:Value→Shared→Prop} {s:Shared} (h:∀ (Q':α→Shared→Prop) (E':Value→Shared→Prop),(∀ a s,Q a s→Q' a s)→wpAny M A x Q' E' s):wpAny M A x Q E s:=h Q E fun _ _ h=>h
@[elab_as_elim] theorem genE {α:Sort u} {P:α→Prop} (a:α) (k:∀ x,a=x→P x):P a:=k a rfl
noncomputable def onB {β:Type} (b:Bool) (x:Option β):Option β:=Bool.casesOn (motive:=fun _=>Option β) b none x
theorem onE {β:Type} {b:Bool} {x:Option β} {r:β} {G:Prop} (h:onB b x=some r) (k:b=true→x=some r→G):G:=match b with
  | true=>k rfl h
  | false=>nS h
noncomputable abbrev RkR:=Flow × BT × Nat × Nat
noncomputable abbrev RkT:=BT→Nat→Nat→Sem Fin→Code→Pos→List Frame→Option RkR
noncomputable def retK (ih:RkT) (T:BT) (m k:Nat) (r:Result) (z:Option RkR) (pre:List Frame):Option RkR :=
  List.casesOn (motive:=fun _=>Option RkR) pre z fun fr pre'=>Frame.casesOn (motive:=fun _=>Option RkR) fr (fun kk _ _ _ c p _=>ih T m k (kk r) c p pre') fun _ _ _ _ _=>none
noncomputable def rk1 (den:Code→Sem Fin) (p:Program) (w:World) (base:List Frame) (ih:RkT):RkT:=fun T m k cur c q pre =>
  Sem.casesOn (motive:=fun _=>Option RkR) cur
    (fun fin=>PySem.Fin.casesOn (motive:=fun _=>Option RkR) fin (fun f=>retK ih T m k (.ok f) (some (f,T,m,k)) pre) fun c'=>onB c'.quiet (ih T m k (den c') c' q pre))
    (fun e=>retK ih T m k (.error e) none pre)
    (fun _=>none) (fun _=>none)
    (fun _ kk=>ih T m k (kk ()) c q pre)
    (fun q' kk=>ih T m k (kk ()) c q' pre)
    (fun a _ kk=>onB (Nat.blt a m) ((T.get a).bind fun o=>(alive o).bind fun o'=>ih T m k (kk o') c q pre))
    (fun a _ f kk=>onB (Nat.ble 28 a || Nat.beq a 2 || Nat.beq a 3) (onB (Nat.blt a m) ((T.get a).bind fun o=>(alive o).bind fun _=>ih (T.set a f) m k (kk ()) c q pre)))
    (fun o kk=>onB ((T.ins m o).get m).isSome (ih (T.ins m o) (m+1) k (kk m) c q pre))
    (fun a kk=>onB (Nat.blt a m) ((T.get a).bind fun o=>ih T m k (kk (alive o)) c q pre))
    (fun _ kk=>ih T m k (kk ()) c q pre)
    (fun _ _=>none)
    (fun kk=>ih T m (k+1) (kk k) c q pre)
    (fun kk=>ih T m k (kk ⟨p,w.params⟩) c q pre)
    (fun _ _ _=>none) (fun _ _ _=>none)
    (fun c' h g l kk=>ih T m k (den c') c' q (.ret kk h g l c q []::pre))
    (fun own kk=>ih T m k (kk (topHandled (if own then ownFrames (pre++base) else pre++base))) c q pre)
    (fun _ _=>none) (fun _ _=>none) (fun _ _ _ _=>none) (fun _ _ _ _=>none)
    (fun kk=>ih T m k (kk ((c,q)::(pre++base).map Frame.where_)) c q pre)
    (fun _ _=>none) (fun _=>none) (fun _ _ _ _ _=>none)
noncomputable def rk (den:Code→Sem Fin) (p:Program) (w:World) (base:List Frame) (n:Nat):RkT :=
  Nat.rec (motive:=fun _=>RkT) (fun _ _ _ _ _ _ _=>none) (fun _ ih=>rk1 den p w base ih) n
noncomputable abbrev shr (T:BT) (m:Nat) (life:Life) (d:Drawn) (k:Nat) (os:OsState):Shared:=⟨absHeap T m life,#[],d,k,os⟩
section
variable {p:Program} {w:World} {base:List Frame} {life:Life} {d:Drawn} {os:OsState}
structure Did (p:Program) (w:World) (base:List Frame) (life:Life) (d:Drawn) (os:OsState) (R:RkR) (T:BT) (m k:Nat) (t:Sem Fin) (c:Code) (q:Pos) (pre:List Frame):Prop where
  reach:Reach (model p w) base (shr T m life d k os) t c q pre (shr R.2.1 R.2.2.1 life d R.2.2.2 os) (.ret (.ok R.1))
  keep:28≤m→m≤R.2.2.1∧∀ b,b < 28→b≠2→b≠3→R.2.1.get b=T.get b
variable {R:RkR} {T T1:BT} {m m1 k k1:Nat} {t t1:Sem Fin} {c c1:Code} {q q1:Pos} {pre pre1:List Frame}
theorem Did.step (hs:(model p w).step (shr T m life d k os) ⟨t,c,q,pre++base⟩=.go (shr T1 m1 life d k1 os) ⟨t1,c1,q1,pre1++base⟩) (hm:m≤m1) (hg:28≤m→∀ b,b < 28→b≠2→b≠3→T1.get b=T.get b) (h:Did p w base life d os R T1 m1 k1 t1 c1 q1 pre1):Did p w base life d os R T m k t c q pre :=
  ⟨.step hs h.reach,fun l=>⟨Nat.le_trans hm (h.keep (Nat.le_trans l hm)).1,fun b x y z=>((h.keep (Nat.le_trans l hm)).2 b x y z).trans (hg l b x y z)⟩⟩
theorem Did.same (hs:(model p w).step (shr T m life d k os) ⟨t,c,q,pre++base⟩=.go (shr T m life d k1 os) ⟨t1,c1,q1,pre1++base⟩) (h:Did p w base life d os R T m k1 t1 c1 q1 pre1):Did p w base life d os R T m k t c q pre :=
  h.step hs (Nat.le_refl _) fun _ _ _ _ _=>rfl
theorem Did.ret {ih:RkT} (H:∀ {T m k t c q pre},ih T m k t c q pre=some R→Did p w base life d os R T m k t c q pre) {r:Result} {z:Option RkR} (hz:z=some R→Did p w base life d os R T m k (leafOf r) c q []) (h:retK ih T m k r z pre=some R):Did p w base life d os R T m k (leafOf r) c q pre:=match pre,h with
  | [],h=>hz h
  | .ret kk hd g l c₁ p₁ kp::_,h=>.same (step_leaf_ret (model p w) _ _ _ _ r kk hd g l c₁ p₁ kp) (H h)
  | .gen ..::_,h=>nS h
theorem keep_set {a:Nat} {f:Obj→Obj} (h:(Nat.ble 28 a || Nat.beq a 2 || Nat.beq a 3)=true) (b:Nat) (h1:b < 28) (h2:b≠2) (h3:b≠3):(T.set a f).get b=T.get b:=by
  rw [BT.get_set,if_neg]
  rintro rfl
  rcases Bool.or_eq_true_iff.mp h with h | h
  · rcases Bool.or_eq_true_iff.mp h with h | h
    · exact absurd h1 (Nat.not_lt.mpr (Nat.le_of_ble_eq_true h))
    · exact h2 (Nat.eq_of_beq_eq_true h)
  · exact h3 (Nat.eq_of_beq_eq_true h)
theorem shr_get {a:Nat} {o:Obj} (hb:Nat.blt a m=true) (ho:T.get a=some o):(shr T m life d k os).heap.get? a=alive o:=abs_get (Nat.le_of_ble_eq_true hb) ho
theorem step_set {a:Nat} {o o':Obj} {part:Option Value} {g:Obj→Obj} {kk:Unit→Sem Fin} (hb:Nat.blt a m=true) (ho:T.get a=some o) (ha:alive o=some o'):(model p w).step (shr T m life d k os) ⟨.update a part g kk,c,q,pre++base⟩=.go (shr (T.set a g) m life d k os) ⟨kk (),c,q,pre++base⟩ :=
  (step_update (model p w) _ _ _ _ part g kk (((congrArg Option.isSome ((shr_get hb ho).trans ha))))).trans (congrArg (fun h=>Step.go ⟨h,#[],d,k,os⟩ ⟨kk (),c,q,pre++base⟩) (absHeap_set ho).symm)
theorem step_ins {o:Obj} {kk:Addr→Sem Fin} (hb:((T.ins m o).get m).isSome=true):(model p w).step (shr T m life d k os) ⟨.alloc o kk,c,q,pre++base⟩=.go (shr (T.ins m o) (m+1) life d k os) ⟨kk m,c,q,pre++base⟩ :=
  (step_alloc (model p w) _ _ _ _ o kk).trans ((congrArg (fun n=>Step.go ⟨(absHeap T m life).push o,#[],d,k,os⟩ ⟨kk n,c,q,pre++base⟩) (absHeap_size T m life)).trans (congrArg (fun h=>Step.go ⟨h,#[],d,k,os⟩ ⟨kk m,c,q,pre++base⟩) (absHeap_ins hb).symm))
theorem step_lia {a:Nat} {o:Obj} {kk:Option Obj→Sem Fin} (hb:Nat.blt a m=true) (ho:T.get a=some o):(model p w).step (shr T m life d k os) ⟨.loadIfAlive a kk,c,q,pre++base⟩=.go (shr T m life d k os) ⟨kk (alive o),c,q,pre++base⟩ :=
  (step_loadIfAlive (model p w) _ _ _ _ a kk).trans (congrArg (fun x=>Step.go (shr T m life d k os) ⟨kk x,c,q,pre++base⟩) (shr_get hb ho))
theorem did_exit {f:Flow}:Did p w base life d os (f,T,m,k) T m k (.pure (.done f)) c q []:=⟨.exit ⟨rfl,rfl⟩,fun _=>⟨Nat.le_refl _,fun _ _ _ _=>rfl⟩⟩
theorem rk_did {n:Nat}:∀ {T:BT} {m k:Nat} {t:Sem Fin} {c:Code} {q:Pos} {pre:List Frame},rk (denote table) p w base n T m k t c q pre=some R→Did p w base life d os R T m k t c q pre:=by
  induction n with
  | zero=>exact nS
  | succ n ih =>
    intro T m k t c q pre h
    induction t with
    | pure fin=>induction fin with
      | done f=>exact .ret (r:=.ok f) ih (fun e=>Option.some.inj e ▸ did_exit) h
      | again c'=>exact onE h fun hq h=>.same (step_again (model p w) _ _ _ _ c' hq) (ih h)
    | raise e=>exact .ret (r:=.error e) ih nS h
    | rule _ kk=>exact .same (step_rule ..) (ih h)
    | «at» q' kk=>exact .same (step_at ..) (ih h)
    | point l kk=>exact .same (step_point ..) (ih h)
    | ask kk=>exact .same (step_ask ..) (ih h)
    | load a part kk=>exact onE h fun hb h=>bdE h fun o ho h=>bdE h fun o' ha h=>.same (step_load (model p w) _ _ _ _ part kk ((shr_get hb ho).trans ha)) (ih h)
    | loadIfAlive a kk=>exact onE h fun hb h=>bdE h fun o ho h=>.same (step_lia hb ho) (ih h)
    | update a part g kk=>exact onE h fun hq h=>onE h fun hb h=>bdE h fun o ho h=>bdE h fun o' ha h=>.step (step_set hb ho ha) (Nat.le_refl _) (fun _=>keep_set hq) (ih h)
    | alloc o kk=>exact onE h fun hb h=>.step (step_ins hb) (Nat.le_succ _) (fun l b hb' _ _=>(BT.get_ins o T m hb b).trans (if_neg (Nat.ne_of_lt (Nat.lt_of_lt_of_le hb' l)))) (ih h)
    | fresh kk=>exact .same (step_fresh ..) (ih h)
    | handled own kk=>exact .same (step_handled ..) (ih h)
    | stack kk=>exact .same (step_stack ..) (ih h)
    | call c' hd g l kk=>exact .same (pre1:=.ret kk hd g l c q []::pre) (step_call ..) (ih h)
    | _=>exact nS h
end
theorem rk_sound {p:Program} {w:World} {base:List Frame} {life:Life} {d:Drawn} {os:OsState} {n:Nat} {T:BT} {m k:Nat} {cur:Sem Fin} {c:Code} {q:Pos} {pre:List Frame} {f:Flow} {T':BT} {m' k':Nat}
    (h:rk (denote table) p w base n T m k cur c q pre=some (f,T',m',k')):Reach (model p w) base (shr T m life d k os) cur c q pre (shr T' m' life d k' os) (.ret (.ok f)):=(rk_did (life:=life) (d:=d) (os:=os) h).reach
theorem rk_keeps {p:Program} {w:World} {base:List Frame} {b:Nat} (hb:b < 28) (h2:b≠2) (h3:b≠3) {n:Nat} {T:BT} {m k:Nat} {cur:Sem Fin} {c:Code} {q:Pos} {pre:List Frame} {f:Flow} {T':BT} {m' k':Nat}
    (hm:28≤m) (h:rk (denote table) p w base n T m k cur c q pre=some (f,T',m',k')):T'.get b=T.get b∧m≤m' :=
  have x:=(rk_did (life:={}) (d:={}) (os:={}) h).keep hm
  ⟨x.2 b hb h2 h3,x.1⟩
theorem rk_wpG {α:Type} (enc:α→Flow) {p:Program} {w:World} {base:List Frame} {life:Life} {d:Drawn} {os:OsState} {n:Nat} {T:BT} {m k:Nat} {x:Sem α} {c:Code} {q:Pos} {f:Flow} {T':BT} {m' k':Nat}
    (h:rk (denote table) p w base n T m k (x >>= fun a=>(pure (.done (enc a)):Sem Fin)) c q []=some (f,T',m',k')) :
    Sem.wp (model p w) (Ctx.of c base) x (fun a _ s'=>enc a=f∧s'=shr T' m' life d k' os) (fun _ _ _=>False) q (shr T m life d k os):=by
  have r:=rk_sound (life:=life) (d:=d) (os:=os) h
  have:=(wp_iff_reach (M:=model p w) (base:=base) (c:=c) (x >>= fun a=>(pure (.done (enc a)):Sem Fin)) (fun r s'=>r=.ok f∧s'=shr T' m' life d k' os) q (shr T m life d k os)).mpr ⟨_,_,r,rfl,rfl⟩
  rw [Sem.wp_bind'] at this
  refine Sem.wp_mono _ _ x (fun f' p' s' hh=>?_) (fun e p' s' hh=>?_) q _ this
  · obtain ⟨e1,e2⟩:=hh
    exact ⟨by injection e1,e2⟩
  · exact nomatch hh.1
theorem reach_life {p:Program} {w:World} {base:List Frame} {s:Shared} {t:Sem Fin} {c:Code} {q:Pos} {pre:List Frame} {s':Shared} {e:End} (h:Reach (model p w) base s t c q pre s' e):s'.heap.life=s.heap.life:=by
  induction h with
  | exit _=>rfl
  | @step s t c p₀ pre s₁ t₁ c₁ p₁ pre₁ s' e hs _ ih =>
    refine ih.trans ?_
    have hs':stepI (denote table) p w s ⟨t,c,p₀,pre++base⟩=.go s₁ ⟨t₁,c₁,p₁,pre₁++base⟩:=hs
    have h1:runNI (denote table) p w 1 s ⟨t,c,p₀,pre++base⟩=.running s₁ ⟨t₁,c₁,p₁,pre₁++base⟩:=by
      unfold runNI
      rw [hs']
      rfl
    exact exE (runNI_running_real h1) fun σ h1=>exA h1 fun tau hr hf=>(congrArg Heap.life (Shared.forget_eq hf.1).1).symm.trans (runN_life_running hr)
theorem wp_life {p:Program} {w:World} {base:List Frame} {c:Code} {x:Sem Value} {Q:Value→Shared→Prop} {q:Pos} {s:Shared} (h:Sem.wp (model p w) (Ctx.of c base) x (fun v _ s'=>Q v s') (fun _ _ _=>False) q s) :
    Sem.wp (model p w) (Ctx.of c base) x (fun v _ s'=>Q v s'∧s'.heap.life=s.heap.life) (fun _ _ _=>False) q s:=by
  have h1:Sem.wp (model p w) (Ctx.of c base) (x >>= fun v=>(pure (.done (.ret v)):Sem Fin)) (Sem.finPost (model p w) (Ctx.of c base) fun r s'=>∃ v,r=.ok (.ret v)∧Q v s') (fun _ _ s'=>∃ v,(.error .none:Result)=.ok (.ret v)∧Q v s') q s:=by
    rw [Sem.wp_bind']
    exact Sem.wp_mono _ _ x (fun v p' s' hh=>⟨v,rfl,hh⟩) (fun _ _ _ hh=>hh.elim) q s h
  have h2:Sem.wp (model p w) (Ctx.of c base) (x >>= fun v=>(pure (.done (.ret v)):Sem Fin)) (Sem.finPost (model p w) (Ctx.of c base) fun r s'=>∃ v,r=.ok (.ret v)∧Q v s') (fun e _ s'=>∃ v,(.error e:Result)=.ok (.ret v)∧Q v s') q s :=
    Sem.wp_mono _ _ _ (fun _ _ _ x=>x) (fun e p' s' ⟨v,hv,_⟩=>nomatch hv) q s h1
  obtain ⟨r,s',hr,v,hv,hq⟩:=(wp_iff_reach _ _ q s).mp h2
  have l:=reach_life hr
  have h3:=(wp_iff_reach (M:=model p w) (base:=base) (c:=c) (x >>= fun v=>(pure (.done (.ret v)):Sem Fin)) (fun r s'=>∃ v,r=.ok (.ret v)∧Q v s'∧s'.heap.life=s.heap.life) q s).mpr ⟨r,s',hr,v,hv,hq,l⟩
  rw [Sem.wp_bind'] at h3
  refine Sem.wp_mono _ _ x (fun v p' s' hh=>?_) (fun e p' s' hh=>?_) q s h3
  · obtain ⟨v',e1,e2,e3⟩:=hh
    injection e1 with e1
    injection e1 with e1
    subst e1
    exact ⟨e2,e3⟩
  · obtain ⟨v',e1,_⟩:=hh
    exact nomatch e1
end Mine
end
section
open PySem PySem.W PyProof.Rows
set_option maxRecDepth 100000
set_option genSizeOf false
set_option genInjectivity false
namespace Mine
section
variable {w:World} {A:Around} {E:Value→Shared→Prop} {s:Shared} {p:Program}
noncomputable abbrev kn (p:Program) (w:World):=intKind p w
noncomputable abbrev NoE:Value→Shared→Prop:=fun _ _=>False
theorem put_fresh {d:Addr} {kvs:List (Int × Value)} {k:Int} {key v:Value} {Q:Unit→Shared→Prop} (hkey:(kn p w).is k key=true) (hm:s.heap.DictOf (kn p w) d kvs)
    (hnot:k ∉ kvs.map (·.1)) (hQ:∀ h',h'.DictOf (kn p w) d (kvs++[(k,v)])→Heap.SameBut d s.heap h'→Q () { s with heap:=h' })
    (hsz:kvs.length≤sizeLine):wpAny (model p w) A (dictPut d ((kn p w).hash k) key v) Q E s:=by
  obtain ⟨o,es,ep,ho,hc,hd,hk,hp,hn⟩:=hm
  have hes:es.size≤sizeLine:=Nat.le_trans (Nat.le_of_eq (Array.length_toList.symm.trans hp.length)) hsz
  unfold dictPut
  refine wpAny_bind (wpAny_dictFind_of hkey ho hd hk ?_)
  have hidx:(es.findIdx? fun e=>(kn p w).is k e.key)=kvs.findIdx? fun kv=>decide (kv.1=k):=by
    rw [← hp.findIdx k]; obtain ⟨l⟩:=es; simp
  cases hi:es.findIdx? fun e=>(kn p w).is k e.key with
  | some i =>
    exfalso
    rw [hidx] at hi
    obtain ⟨hlt,he,_⟩:=List.findIdx?_eq_some_iff_getElem.mp hi
    exact hnot (List.mem_map.mpr ⟨kvs[i],List.getElem_mem hlt,of_decide_eq_true he⟩)
  | none =>
    refine wpAny_updateDictKeys (hz:=hes) ho hd (hQ _ ⟨_,_,ep+1,Heap.get?_update_self _ ho (Obj.isFreed_of_dict (Obj.data_mapDictKeys hd _)),
      hc.mapDictKeys _,Obj.data_mapDictKeys hd _,hk.push hkey _,?_,?_⟩ (Heap.SameBut.update ..))
    · have:=hp.append hkey ((kn p w).hash k) v
      obtain ⟨l⟩:=es
      simpa using this
    · rw [List.map_append,List.nodup_append]
      refine ⟨hn,by simp,?_⟩
      intro a ha b hb
      simp only [List.map_cons,List.map_nil,List.mem_singleton] at hb
      subst hb
      exact fun e=>hnot (e ▸ ha)
theorem wpA_pure_eq {α:Type} {M:Model} {a b:α} {Q:α→Shared→Prop} (e:a=b) (h:Q b s):wpAny M A (pure a) Q E s:=e ▸ wpAny_pure h
theorem range_next {n i x:Nat} {rest:List Nat} (h:x::rest=List.range' i (n - i)):i < n∧x=i∧rest=List.range' (i+1) (n - (i+1)):=by
  cases q:n - i with
  | zero=>rw [q] at h; exact nomatch h
  | succ m =>
    rw [q,List.range'_succ] at h
    have e:n - (i+1)=m:=(Nat.sub_succ n i).trans (congrArg Nat.pred q)
    exact ⟨Nat.lt_of_sub_ne_zero (q ▸ Nat.succ_ne_zero m),(List.cons.inj h).1,e ▸ (List.cons.inj h).2⟩
theorem range_end {n i:Nat} (h:[]=List.range' i (n - i)) (hi:i≤n):i=n:=by
  cases q:n - i with
  | zero=>exact Nat.le_antisymm hi (Nat.le_of_sub_eq_zero q)
  | succ m=>rw [q,List.range'_succ] at h; exact nomatch h
inductive MI (p:Program) (w:World) (s:Shared) (d a:Addr) (kvs more:List (Int × Value)) (oo:Obj) (n:Nat) (rest:List Nat) (s':Shared):Prop
  | mk (h':Heap) (i:Nat) (e:s'={ s with heap:=h' }) (hr:rest=List.range' i (n - i)) (hi:i≤n) (hd:h'.DictOf (kn p w) d (kvs++more.take i)) (ho:h'.get? a=some oo) (hs:Heap.SameBut d s.heap h')
theorem nodup_next {kvs more:List (Int × Value)} (hnd:((kvs++more).map (·.1)).Nodup) {x:Nat} {k:Int} {v:Value} (e:more.take (x+1)=more.take x++[(k,v)]):k ∉ (kvs++more.take x).map (·.1):=by
  have hh:((kvs++more.take (x+1)).map (·.1)).Nodup:=List.Sublist.nodup ((List.Sublist.append_left (List.take_sublist _ _) _).map _) hnd
  rw [e,← List.append_assoc,List.map_append,List.nodup_append] at hh
  exact fun hm=>hh.2.2 _ hm k (.head _) rfl
theorem merge_fresh {d a:Addr} {kvs more:List (Int × Value)} {Q:Unit→Shared→Prop} (hda:d≠a) (hS:(a == sysModules)=false) (hd:s.heap.DictOf (kn p w) d kvs) (ha:s.heap.DictOf (kn p w) a more)
    (hnil:kvs≠[]) (hnd:((kvs++more).map (·.1)).Nodup)
    (hQ:∀ h',h'.DictOf (kn p w) d (kvs++more)→Heap.SameBut d s.heap h'→Q () { s with heap:=h' })
    (hsz:kvs.length+more.length≤sizeLine):wpAny (model p w) A (mergeMapping d (.ref a) false) Q E s:=by
  refine exE hd fun od h=>exE h fun esd h=>exE h fun epd h1=>exE ha fun oo h=>exE h fun eso h=>exE h fun epo h2=>?_
  have ty:s.TypeIs (.ref a) "dict":=⟨oo,h2.1,h2.2.1.1⟩
  have hne:esd.isEmpty=false:=by
    cases h:esd.isEmpty with
    | false=>rfl
    | true=>exact absurd (List.length_eq_zero_iff.mp (h1.2.2.2.2.1.length.symm.trans (congrArg (fun x:Array DictEntry=>x.toList.length) (Array.isEmpty_iff.mp h)))) hnil
  have hlen:more.length=eso.size:=h2.2.2.2.2.1.length.symm.trans Array.length_toList
  unfold mergeMapping
  refine wpAny_bind (wpAny_isInstance (b:=true) ty (by kernel_rfl) (wpAny_ite_true rfl (wpAny_bind (wpAny_specialOf (r:=some (.builtin "dict.__iter__")) ty (by kernel_rfl) (wpAny_bind (wpA_pure_eq (beq_self_eq_true _) ?_))))))
  refine wpAny_ite_false (by rw [hS]; rfl) (wpAny_bind (wpAny_dictEntries h1.1 h1.2.2.1 (wpAny_ite_false (by rw [hne]; rfl) ?_)))
  refine wpAny_bind (wpAny_dictEntries h2.1 h2.2.2.1 (wpAny_bind (wpAny_dictEpoch h2.1 h2.2.2.1 ?_)))
  refine wpAny_bind (wpAny_forIn_list _ (fun rest _ s'=>MI p w s d a kvs more oo eso.size rest s') _ ?_ ?_ _ _ ⟨s.heap,0,rfl,List.range_eq_range',Nat.zero_le _,(List.append_nil kvs).symm ▸ hd,h2.1,Heap.SameBut.refl _ _⟩)
  · intro x rest b s' H
    induction H with
    | mk h' i e hr hi hd' hoo' hs' =>
    subst e
    refine anE (range_next hr) fun hlt q=>?_
    obtain ⟨rfl,hrest⟩:=q
    have hlt':x < more.length:=hlen.symm ▸ hlt
    obtain ⟨k,v,hkv⟩:∃ k v,more[x]?=some (k,v):=⟨_,_,List.getElem?_eq_getElem hlt'⟩
    have hes:eso[x]?=some eso[x]:=Array.getElem?_eq_getElem hlt
    have P:=h2.2.2.2.2.1.get? (e:=eso[x]) (Array.getElem?_toList.trans hes) hkv
    refine exA (h2.2.2.2.1 eso[x] (Array.getElem_mem hlt)) fun k' hkey' hhash=>?_
    obtain rfl:k'=k:=(kn p w).inj _ _ _ hkey' P.1
    have htake:more.take (x+1)=more.take x++[(k',v)]:=by rw [List.take_add_one,hkv]; rfl
    refine wpAny_bind (wpAny_dictEntries hoo' h2.2.2.1 ?_)
    rw [hes]
    refine wpAny_bind (wpAny_holding ?_)
    rw [hhash,P.2]
    refine put_fresh (s:={ s with heap:=h' }) P.1 hd' (nodup_next hnd htake) (fun h'' hd'' hs''=>?_) ?_
    · refine wpAny_bind (wpAny_dictEpoch (s:={ s with heap:=h'' }) ((hs''.2 a (Ne.symm hda)).trans hoo') h2.2.2.1 (wpAny_ite_false (by rw [bne_self_eq_false]; rfl) (wpAny_pure ?_)))
      exact ⟨h'',x+1,rfl,hrest,hlt,by rw [htake,← List.append_assoc]; exact hd'',(hs''.2 a (Ne.symm hda)).trans hoo',hs'.trans hs''⟩
    · rw [List.length_append]
      exact Nat.le_trans (Nat.add_le_add_left (List.length_take_le' _ _) _) hsz
  · intro b s' H
    induction H with
    | mk h' i e hr hi hd' hoo' hs' =>
    subst e
    have hi':=range_end hr hi
    rw [hi',← hlen,List.take_length] at hd'
    exact wpAny_pure (hQ _ hd' hs')
noncomputable def pr (pos:Pos) (x:Int × Str):Sem Value × Sem Value:=(mkInt x.1,do let y ← mkText x.2; standAt pos; pure y)
noncomputable def txt?:Value→Option Str
  | .str x _=>some x
  | _=>none
noncomputable def Told (kvs:List (Int × Str)) (V:List (Int × Value)):Prop:=V.map (fun x=>(x.1,txt? x.2))=kvs.map fun x=>(x.1,some x.2)
theorem Told.keys {kvs:List (Int × Str)} {V:List (Int × Value)} (h:Told kvs V):V.map (·.1)=kvs.map (·.1):=by
  have:=congrArg (List.map (·.1)) h
  simpa [Function.comp_def] using this
theorem Told.length {kvs:List (Int × Str)} {V:List (Int × Value)} (h:Told kvs V):V.length=kvs.length:=by
  have:=congrArg List.length h.keys
  simpa using this
theorem Told.app {a b:List (Int × Str)} {V W:List (Int × Value)} (h:Told a V) (h':Told b W):Told (a++b) (V++W):=by
  unfold Told at *
  rw [List.map_append,List.map_append,h,h']
theorem dictOf_push (h:Heap):(h.push { cls:=.type "dict",data:=.dict #[] }).DictOf (kn p w) h.objs.size [] :=
  ⟨_,#[],0,Heap.get?_push_size _ rfl,⟨rfl,rfl,rfl⟩,rfl,fun e he=>by simp at he,.nil,by simp⟩
theorem push_below {h:Heap} {o:Obj} {b:Addr} (hb:b < h.objs.size):(h.push o).get? b=h.get? b:=Heap.get?_push_ne _ _ _ (Nat.ne_of_lt hb)
theorem entry_set {d:Addr} {V:List (Int × Value)} {pos:Pos} {x:Int × Str} {Q:Unit→Shared→Prop} (hd:s.heap.DictOf (kn p w) d V) (hnot:x.1 ∉ V.map (·.1)) (hsz:V.length≤sizeLine)
    (hQ:∀ h' v,txt? v=some x.2→h'.DictOf (kn p w) d (V++[(x.1,v)])→Heap.SameBut d s.heap h'→Q () { s with heap:=h',toks:=s.toks+3 }) :
    wpAny (model p w) A (do let kv ← (pr pos x).1; let vv ← holding [kv] (pr pos x).2; holding [kv,vv] (dictSet d kv vv)) Q E s:=by
  unfold pr
  refine wpAny_bind (wpAny_mkInt ?_)
  refine wpAny_bind (wpAny_holding (wpAny_bind (wpAny_mkText (wpAny_bind (wpAny_standAt (wpAny_pure ?_))))))
  refine wpAny_holding (wpAny_dictSet_pairs (knd:=kn p w) (k:=x.1) (kvs:=V) (s:={ s with toks:=s.toks+1+1 }) (by simp [kn,intKind,Value.isInt]) hd (fun h' hd' hs'=>?_) hsz)
  have hst:stored V x.1 (Value.str x.2 (s.toks+1))=V++[(x.1,Value.str x.2 (s.toks+1))]:=by
    unfold stored
    rw [if_neg]
    rw [List.any_eq_true]; rintro ⟨kv,hkv,he⟩
    exact hnot (List.mem_map.mpr ⟨kv,hkv,of_decide_eq_true he⟩)
  rw [hst] at hd'
  exact hQ h' _ rfl hd' hs'
theorem wpA_eq {α:Type} {M:Model} {x y:Sem α} {Q:α→Shared→Prop} (e:x=y) (h:wpAny M A y Q E s):wpAny M A x Q E s:=e ▸ h
theorem bind3 {α β γ δ:Type} {x:Sem α} {y:α→Sem β} {z:α→β→Sem γ} {f:γ→Sem δ}:(x >>= fun a=>y a >>= fun b=>z a b >>= f)=((x >>= fun a=>y a >>= fun b=>z a b) >>= f):=by simp only [bind_assoc]
theorem tok_snoc {n:Nat} {l:List (Int × Str)} {y:Int × Str}:n+3 * (l++[y]).length=n+3 * l.length+3:=by rw [List.length_append]; rfl
theorem pfx_len {α:Type} {l a b:List α} (e:l=a++b):a.length≤l.length:=e ▸ List.length_append ▸ Nat.le_add_right _ _
theorem snoc_app {α:Type} {l a b:List α} {y:α} (e:l=a++y::b):l=(a++[y])++b:=e.trans (List.append_assoc a [y] b).symm
theorem not_head {l a b:List (Int × Str)} {y:Int × Str} (hnd:(l.map (·.1)).Nodup) (e:l=a++y::b):y.1 ∉ a.map (·.1):=by
  rw [e,List.map_append,List.map_cons,List.nodup_append] at hnd
  exact fun hm=>hnd.2.2 _ hm y.1 (.head _) rfl
inductive LI (p:Program) (w:World) (s:Shared) (pos:Pos) (kvs:List (Int × Str)) (rest:List (Sem Value × Sem Value)) (s':Shared):Prop
  | mk (done restK:List (Int × Str)) (V:List (Int × Value)) (h':Heap) (hk:kvs=done++restK) (hr:rest=restK.map (pr pos)) (hT:Told done V) (e:s'={ s with heap:=h',toks:=s.toks+3 * done.length })
    (hd:h'.DictOf (kn p w) s.heap.objs.size V) (hz:h'.objs.size=s.heap.objs.size+1) (hb:∀ b,b < s.heap.objs.size→h'.get? b=s.heap.get? b)
theorem sub_long {kvs:List (Int × Str)} {pos:Pos} {Q:Addr→Shared→Prop} (hlen:¬ kvs.length≤15) (hle:kvs.length≤17) (hnd:(kvs.map (·.1)).Nodup)
    (hQ:∀ h' V,Told kvs V→h'.DictOf (kn p w) s.heap.objs.size V→h'.objs.size=s.heap.objs.size+1→(∀ b,b < s.heap.objs.size→h'.get? b=s.heap.get? b) →
      Q s.heap.objs.size { s with heap:=h',toks:=s.toks+3 * kvs.length }):wpAny (model p w) A (subDict (kvs.map (pr pos))) Q E s:=by
  unfold subDict
  refine wpAny_bind (wpAny_alloc (wpAny_bind (wpAny_holding (wpAny_ite_false (decide_eq_false (List.length_map (as:=kvs) (pr pos) ▸ hlen)) (wpAny_bind (wpAny_rule ?_))))))
  refine wpAny_bind (wpAny_forIn_list _ (fun rest _ s'=>LI p w s pos kvs rest s') _ (fun x rest b s' H=>?_) (fun b s' H=>?_) _ _ ⟨[],kvs,[],_,rfl,rfl,rfl,rfl,dictOf_push _,Array.size_push ..,fun b hb=>push_below hb⟩)
  · induction H with
    | mk done restK V h' hk hr hT e hd hz hb =>
    subst e
    cases restK with
    | nil=>exact nomatch hr
    | cons y ys =>
      obtain ⟨rfl,h2⟩:=List.cons.inj hr
      refine wpA_eq bind3 (wpAny_bind (entry_set (s:={ s with heap:=h',toks:=s.toks+3 * done.length }) hd (hT.keys ▸ not_head hnd hk) (Nat.le_trans (hT.length ▸ Nat.le_trans (pfx_len hk) hle) (by decide)) fun h'' v hv hd'' hs''=>wpAny_pure ?_))
      refine ⟨done++[y],ys,V++[(y.1,v)],h'',snoc_app hk,h2,hT.app (by unfold Told; rw [List.map_singleton,List.map_singleton,hv]),?_,hd'',hs''.1.trans hz,fun b hb'=>(hs''.2 b (Nat.ne_of_lt hb')).trans (hb b hb')⟩
      rw [tok_snoc]
  · induction H with
    | mk done restK V h' hk hr hT e hd hz hb =>
    subst e
    induction restK with
    | cons=>exact nomatch hr
    | nil =>
      rw [List.append_nil] at hk
      subst hk
      exact wpAny_pure (wpAny_pure (hQ h' V hT hd hz hb))
theorem evalP {pos:Pos}:∀ (kvs:List (Int × Str)) (s:Shared) (Q:List (Value × Value)→Shared→Prop),(∀ vs V,Carries (kn p w) vs V→Told kvs V→vs.length=kvs.length→Q vs { s with toks:=s.toks+2 * kvs.length }) →
    wpAny (model p w) A (evalPairs (kvs.map (pr pos))) Q E s
  | [],s,Q,h=>evalPairs_nil (h [] [] trivial rfl rfl)
  | x::r,s,Q,h=>by
    rw [List.map_cons]
    refine evalPairs_cons (k:=(pr pos x).1) (v:=(pr pos x).2) (wpAny_mkInt ?_)
    refine wpAny_bind (wpAny_mkText (wpAny_bind (wpAny_standAt (wpAny_pure ?_))))
    refine evalP r _ _ fun vs V hc hT hl=>?_
    have:=h ((.int x.1 s.toks,.str x.2 (s.toks+1))::vs) ((x.1,.str x.2 (s.toks+1))::V) ⟨by simp [kn,intKind,Value.isInt],rfl,hc⟩ (by unfold Told at *; rw [List.map_cons,List.map_cons,hT]; rfl) (by simp [hl])
    have e:s.toks+1+1+2 * r.length=s.toks+2 * (x::r).length:=by simp; omega
    rw [← e] at this
    exact this
theorem sub_short {kvs:List (Int × Str)} {pos:Pos} {Q:Addr→Shared→Prop} (hlen:kvs.length≤15) (hnd:(kvs.map (·.1)).Nodup)
    (hQ:∀ h' V,Told kvs V→h'.DictOf (kn p w) s.heap.objs.size V→h'.objs.size=s.heap.objs.size+1→(∀ b,b < s.heap.objs.size→h'.get? b=s.heap.get? b) →
      Q s.heap.objs.size { s with heap:=h',toks:=s.toks+3 * kvs.length }):wpAny (model p w) A (subDict (kvs.map (pr pos))) Q E s:=by
  refine wpAny_subDict (knd:=kn p w) (by simpa using hlen) ?_
  refine evalP kvs _ _ fun vs V hc hT hl=>⟨V,hc,dictOf_push _,fun h' hd hs=>?_⟩
  rw [merged_nil_of_nodup V (by rw [hT.keys]; exact hnd)] at hd
  have:=hQ h' V hT hd (by rw [hs.1]; simp [Heap.push]) fun b hb=>(hs.2 b (Nat.ne_of_lt hb)).trans (push_below hb)
  have e:s.toks+2 * kvs.length+vs.length=s.toks+3 * kvs.length:=by omega
  rw [← e] at this
  exact this
noncomputable def item (pos:Pos) (x:Int × Str):Option (Sem Value) × Sem Value:=(some (pr pos x).1,(pr pos x).2)
theorem sub_any {kvs:List (Int × Str)} {pos:Pos} {Q:Addr→Shared→Prop} (hlen:kvs.length≤17) (hnd:(kvs.map (·.1)).Nodup)
    (hQ:∀ h' V,Told kvs V→h'.DictOf (kn p w) s.heap.objs.size V→h'.objs.size=s.heap.objs.size+1→(∀ b,b < s.heap.objs.size→h'.get? b=s.heap.get? b) →
      Q s.heap.objs.size { s with heap:=h',toks:=s.toks+3 * kvs.length }):wpAny (model p w) A (subDict (kvs.map (pr pos))) Q E s:=by
  by_cases h:kvs.length≤15
  · exact sub_short h hnd hQ
  · exact sub_long h hlen hnd hQ
inductive Main (p:Program) (w:World) (s:Shared):List (Int × Str)→Option Addr→Shared→Prop
  | none:Main p w s [] none s
  | some {done:List (Int × Str)} (c:Nat) (V:List (Int × Value)) (h':Heap) (hne:done≠[]) (h1:done.length≤17 * c) (h2:17 * c < done.length+17) (hT:Told done V) (hd:h'.DictOf (kn p w) s.heap.objs.size V) (hz:h'.objs.size=s.heap.objs.size+c)
      (hb:∀ b,b < s.heap.objs.size→h'.get? b=s.heap.get? b):Main p w s done (some s.heap.objs.size) { s with heap:=h',toks:=s.toks+3 * done.length }
theorem DictOf.same {h h':Heap} {a:Addr} {V:List (Int × Value)} (hd:h.DictOf (kn p w) a V) (e:h'.get? a=h.get? a):h'.DictOf (kn p w) a V :=
  exE hd fun o hd=>exE hd fun es hd=>exE hd fun ep r=>⟨o,es,ep,e.trans r.1,r.2⟩
theorem div17 {n c:Nat} (h1:n≤17 * c) (h2:17 * c < n+17) (h:n % 17=0):n=17 * c:=by
  have q:=Nat.div_add_mod n 17
  rw [h,Nat.add_zero] at q
  exact Nat.le_antisymm h1 (Nat.le_trans (Nat.mul_le_mul_left 17 (Nat.le_of_lt_succ (Nat.lt_of_mul_lt_mul_left (a:=17) (by rw [Nat.mul_succ,q]; exact h2)))) (Nat.le_of_eq q))
theorem flush_wp {pos:Pos} {done cur:List (Int × Str)} {main:Option Addr} {s':Shared} {Q:Option Addr→Shared→Prop} (hlow:sysModules < s.heap.objs.size) (hm:Main p w s done main s') (h17:done.length % 17=0) (hcur:cur≠[]) (hle:cur.length≤17)
    (hnd:((done++cur).map (·.1)).Nodup) (hsz:(done++cur).length≤sizeLine) (hQ:∀ m s'',Main p w s (done++cur) m s''→m≠none→Q m s'') :
    wpAny (model p w) A (match (generalizing:=false) main with
      | none=>do return some (← subDict (cur.map (pr pos)))
      | some d=>do
        let sub ← holding [.ref d] (subDict (cur.map (pr pos)))
        (holding [.ref d,.ref sub] (mergeMapping d (.ref sub) false)).onRaise fun x=>do let _ ← holding [.ref d,x] (runValue (.builtin "proto.let_go" {}))
        return some d:Sem (Option Addr)) Q E s':=by
  have hndc:(cur.map (·.1)).Nodup:=(List.nodup_append.mp (List.map_append (f:=fun x:Int × Str=>x.1) ▸ hnd)).2.1
  have hpos:0 < cur.length:=List.length_pos_iff.mpr hcur
  cases hm with
  | none =>
    refine wpAny_bind (sub_any hle hndc fun h' V hT hd hz hb=>wpAny_pure ?_)
    exact hQ _ _ (.some 1 V h' hcur hle (Nat.lt_add_of_pos_left hpos) hT hd hz hb) (fun q=>nomatch q)
  | some c V h' hne hc1 hc2 hT hd hz hb =>
    have hc:done.length=17 * c:=div17 hc1 hc2 h17
    have hc0:0 < c:=Nat.pos_of_ne_zero fun q=>hne (List.length_eq_zero_iff.mp (hc.trans (congrArg (17 * ·) q)))
    have hdd:s.heap.objs.size < h'.objs.size:=hz ▸ Nat.lt_add_of_pos_right hc0
    refine wpAny_bind (wpAny_holding (sub_any hle hndc fun h₂ V₂ hT₂ hd₂ hz₂ hb₂=>?_))
    refine wpAny_bind (wpAny_onRaise (wpAny_mono (wpAny_holding (merge_fresh (E:=NoE) (Q:=fun _ s''=>∃ h₃,h₃.DictOf (kn p w) s.heap.objs.size (V++V₂)∧Heap.SameBut s.heap.objs.size h₂ h₃∧s''={ s with heap:=h₃,toks:=s.toks+3 * done.length+3 * cur.length })
      (Nat.ne_of_lt hdd) ?_ (DictOf.same hd (hb₂ _ hdd)) hd₂ (fun e=>hne (List.length_eq_zero_iff.mp (hT.length.symm.trans (congrArg List.length e)))) ?_ (fun h₃ hd₃ hs₃=>⟨h₃,hd₃,hs₃,rfl⟩) ?_)) (fun _ s'' hh=>?_) fun _ _ e=>e.elim))
    · exact beq_eq_false_iff_ne.mpr fun e=>Nat.lt_irrefl _ (Nat.lt_trans hlow (e ▸ hdd:s.heap.objs.size < sysModules))
    · rw [List.map_append,hT.keys,hT₂.keys,← List.map_append]; exact hnd
    · rw [hT.length,hT₂.length,← List.length_append]; exact hsz
    · refine exA hh fun h₃ hd₃ hh=>anE hh fun hs₃ e=>?_
      subst e
      have hl:(done++cur).length=17 * c+cur.length:=List.length_append.trans (congrArg (·+cur.length) hc)
      have st:s.toks+3 * done.length+3 * cur.length=s.toks+3 * (done++cur).length:=by rw [List.length_append,Nat.mul_add,Nat.add_assoc]
      rw [st]
      refine wpAny_pure (hQ _ _ (.some (c+1) (V++V₂) h₃ (fun q=>hne (List.append_eq_nil_iff.mp q).1) (hl ▸ Nat.add_le_add_left hle _) ?_ (hT.app hT₂) hd₃ ?_ fun b hb'=>?_) (fun q=>nomatch q))
      · rw [hl]; exact Nat.add_lt_add_right (Nat.lt_add_of_pos_right hpos) 17
      · rw [hs₃.1,hz₂,hz]; rfl
      · rw [hs₃.2 b (Nat.ne_of_lt hb'),hb₂ b (Nat.lt_trans hb' hdd),hb b hb']
inductive Stand (p:Program) (w:World) (s:Shared) (pos:Pos) (kvs:List (Int × Str)) (rest:List (Option (Sem Value) × Sem Value)) (main:Option Addr) (run:List (Sem Value × Sem Value)) (s':Shared):Prop
  | mk (done cur restK:List (Int × Str)) (hk:kvs=done++(cur++restK)) (hr:rest=restK.map (item pos)) (hrun:run=cur.map (pr pos)) (h17:cur.length < 17) (hmod:done.length % 17=0) (hm:Main p w s done main s')
theorem display {kvs:List (Int × Str)} {pos:Pos} {Q:Value→Shared→Prop} (hlow:sysModules < s.heap.objs.size) (hne:kvs≠[]) (hnd:(kvs.map (·.1)).Nodup) (hsz:kvs.length≤sizeLine)
    (hQ:∀ c V h',kvs.length≤17 * c→17 * c < kvs.length+17→Told kvs V→h'.DictOf (kn p w) s.heap.objs.size V→h'.objs.size=s.heap.objs.size+c→(∀ b,b < s.heap.objs.size→h'.get? b=s.heap.get? b) →
      Q (.ref s.heap.objs.size) { s with heap:=h',toks:=s.toks+3 * kvs.length }):wpAny (model p w) A (dictDisplay (kvs.map (item pos))) Q E s:=by
  have ends:∀ {m s''},Main p w s kvs m s''→∀ {d},m=some d→Q (.ref d) s'':=fun {m s''} hm {d} e=>by
    induction hm with
    | none=>exact absurd rfl hne
    | some c V h' _ h1 h2 hT hd hz hb=>exact Option.some.inj e ▸ hQ c V h' h1 h2 hT hd hz hb
  have sub:∀ {a b:List (Int × Str)},kvs=a++b→(a.map (·.1)).Nodup:=fun e=>((e ▸ List.sublist_append_left _ _:List.Sublist _ kvs).map _).nodup hnd
  unfold dictDisplay
  refine wpAny_bind (wpAny_forIn_list _ (fun rest st s'=>Stand p w s pos kvs rest st.1 st.2 s') _ (fun x rest st s' H=>?_) (fun st s' H=>?_) _ _ ⟨[],[],kvs,rfl,rfl,rfl,by decide,rfl,.none⟩)
  · obtain ⟨main,run⟩:=st
    induction H with
    | mk done cur restK hk hr hrun h17 hmod hm =>
    cases restK with
    | nil=>exact nomatch hr
    | cons y ys =>
      obtain ⟨rfl,h2⟩:=List.cons.inj hr
      have hk':kvs=(done++(cur++[y]))++ys:=hk.trans (by rw [List.append_assoc,List.append_assoc]; rfl)
      have e17:run++[((pr pos y).1,(pr pos y).2)]=(cur++[y]).map (pr pos):=by rw [List.map_append,← hrun]; rfl
      have el:(run++[((pr pos y).1,(pr pos y).2)]).length=cur.length+1:=by rw [e17,List.length_map,List.length_append]; rfl
      refine wpAny_ite_split (fun q=>?_) fun q=>?_
      · have hl:(cur++[y]).length=17:=(List.length_append (bs:=[y])).trans (el.symm.trans (beq_iff_eq.mp q))
        show wpAny _ _ ((if (run++[((pr pos y).1,(pr pos y).2)]).isEmpty=true then _ else _) >>= _) _ _ _
        rw [e17]
        refine wpAny_bind (wpAny_ite_false (by cases cur <;> rfl) (flush_wp (done:=done) (cur:=cur++[y]) (main:=main) (p:=p) (w:=w) (s:=s) hlow hm hmod (fun q=>nomatch (List.append_eq_nil_iff.mp q).2) (Nat.le_of_eq hl) (sub hk') (Nat.le_trans (pfx_len hk') hsz) fun m s'' hm' hn=>wpAny_pure ?_))
        refine ⟨done++(cur++[y]),[],ys,hk',h2,rfl,by decide,?_,hm'⟩
        rw [List.length_append,hl,Nat.add_mod_right]
        exact hmod
      · refine wpAny_pure ⟨done,cur++[y],ys,hk'.trans (List.append_assoc ..),h2,e17,Nat.lt_of_le_of_ne ?_ fun z=>q (beq_iff_eq.mpr (el.trans ((List.length_append (bs:=[y])).symm.trans z))),hmod,hm⟩
        rw [List.length_append]; exact h17
  · obtain ⟨main,run⟩:=st
    induction H with
    | mk done cur restK hk hr hrun h17 hmod hm =>
    cases restK with
    | cons=>exact nomatch hr
    | nil =>
    rw [List.append_nil] at hk
    have fin:∀ {m s''},Main p w s kvs m s''→wpAny (model p w) A (match m with | some d=>pure (Value.ref d) | none=>(do let d ← alloc { cls:=.type "dict",data:=.dict #[] }; pure (Value.ref d))) Q E s'':=fun {m s''} hm=>by
      induction m with
      | none=>cases hm; exact absurd rfl hne
      | some d=>exact wpAny_pure (ends hm rfl)
    cases cur with
    | nil =>
      subst hrun
      rw [List.append_nil] at hk
      subst hk
      exact wpAny_bind (wpAny_pure (fin hm))
    | cons y ys =>
      subst hrun
      refine wpAny_bind (flush_wp (done:=done) (cur:=y::ys) (main:=main) (p:=p) (w:=w) (s:=s) hlow hm hmod (fun q=>nomatch q) (Nat.le_of_lt h17) (hk ▸ hnd) (hk ▸ hsz) fun m s'' hm' hn=>?_)
      rw [← hk] at hm'
      exact fin hm'
end
end Mine
end
section
open PySem PySem.W PyProof.Rows
namespace Mine
theorem left0:leftWithCleanup #[]=false:=by simp [leftWithCleanup]
theorem ran_of_wp {p:Program} {w:World} {c:Code} {t:Sem Fin} {s:Shared} {pos:Pos} {R:Shared→Prop} (hz:s.asleep)
    (h:Sem.wp (model p w) (Ctx.of c []) t (fun fin _ s'=>∃ f,fin=.done f∧R s'∧s'.gens=#[]) (fun _ _ _=>False) pos s) :
    ∃ s',(∃ n t',schedN (denote table) p w n (.single s ⟨t,c,pos,[]⟩)=.running (.single s' t')∧through t'=true)∧R s':=by
  have h1:Sem.wp (model p w) ⟨c,none,none,[],none⟩ t (Sem.finPost (model p w) ⟨c,none,none,[],none⟩ fun r s'=>(∃ f,r=.ok f)∧leftWithCleanup s'.gens=false)
      (fun e _ s'=>(∃ f,(.error e:Result)=.ok f)∧leftWithCleanup s'.gens=false) pos s :=
    Sem.wp_mono _ _ _ (fun fin p' s' ⟨f,e,_,hg⟩=>e ▸ ⟨⟨f,rfl⟩,(congrArg leftWithCleanup hg).trans left0⟩) (fun e p' s' hh=>hh.elim) _ _ h
  refine exE ((wp_iff_halts _ (fun r s'=>∃ f,r=.ok f) pos s).mp h1) fun n h1=>exE h1 fun r h1=>exA h1 fun s' hn hf=>exE hf fun f hf=>?_
  refine exA (runNI_real _ p w hn (hf ▸ rfl)) fun s'' hr hc=>?_
  have hne:∀ k s₂,PySem.runN (denote table) p w k s ⟨t,c,pos,[]⟩≠.halted (.unsupported "lifetime:generator-with-cleanup-left-suspended") s₂:=fun k s₂ hk=>by
    have a:=runN_mono (denote table) p w n k s _ _ _ hr
    rw [Nat.add_comm,runN_mono (denote table) p w k n s _ _ s₂ hk,hf] at a
    exact nomatch a
  refine exE (wp_reaches h) fun k h2=>exE h2 fun s1 h2=>exE h2 fun σ h2=>exE h2 fun p' h2=>exA h2 fun leaf hk h2=>anE h2 fun hf hl=>hl.elim (fun ⟨a,e,f,e',hR,hg⟩=>?_) fun ⟨_,_,x⟩=>x.elim
  refine ⟨σ,⟨k,_,(schedN_eq_runN (denote table) p w s _ hz ⟨hc.2,hne⟩ k).trans (congrArg Run.lift hk),?_⟩,Shared.eq_of_forget_eq hf hg ▸ hR⟩
  rw [e,e']
  rfl
end Mine
end
section
open PySem PySem.W PyProof.Rows
set_option maxRecDepth 100000
set_option maxHeartbeats 0
namespace Mine
noncomputable abbrev P:Program:=PySem.Challenge.pw_uk0031_01
noncomputable def envT:Env:={ scope:=P.main.scope,locals:=mainNs,globals:=mainNs,cells:=[],code:=.ref 30,frame:=some 31 }
noncomputable def body:List Stmt:=behindTheImports P
noncomputable def cE:Code:=.body body envT
noncomputable def stAt (i:Nat):Option Stmt:=(body.drop i).head?
noncomputable def stSel {β:Type} (d:β) (fn:Str→Arguments→List Stmt→Scope→β) (cl:List Stmt→β) (asg:List Expr→Expr→Pos→β) (rt:Option Expr→β) (o:Option Stmt):β :=
  Option.casesOn (motive:=fun _=>β) o d fun s=>Stmt.casesOn (motive_2:=fun _=>β) s (fun n a b _ _ _ sc _ _ _=>fn n a b sc) (fun _ _ _ _ _ _ _ _ _ _=>d) (fun _ _ _ b _ _ _ _ _ _ _=>cl b) (fun v _=>rt v) (fun _ _=>d) asg (fun _ _ _ _ _ _ _=>d) (fun _ _ _ _=>d) (fun _ _ _ _ _=>d) (fun _ _ _ _ _=>d) (fun _ _ _ _ _=>d) (fun _ _ _ _=>d) (fun _ _ _ _=>d) (fun _ _ _=>d) (fun _ _ _=>d) (fun _ _ _=>d) (fun _ _ _=>d) (fun _ _ _ _ _=>d) (fun _ _ _ _ _=>d) (fun _ _ _=>d) (fun _ _=>d) (fun _ _ _ _=>d) (fun _ _=>d) (fun _ _=>d) (fun _ _=>d) (fun _=>d) (fun _=>d) (fun _=>d)
noncomputable def exSel {β:Type} (d:β) (nm:Str→Pos→β) (dict:List (Option Expr)→List Expr→Pos→β) (cst:Const→Nat→Pos→β) (call:List Keyword→β) (lam:Pos→β) (e:Expr):β :=
  Expr.casesOn (motive_1:=fun _=>β) e (fun _ _ _=>d) (fun _ _ _=>d) (fun _ _ _ _=>d) (fun _ _ _=>d) (fun _ _ _ p=>lam p) (fun _ _ _ _=>d) dict (fun _ _ _=>d) (fun _ _ _ _=>d) (fun _ _ _ _=>d) (fun _ _ _ _ _=>d) (fun _ _ _ _=>d) (fun _ _=>d) (fun _ _=>d) (fun _ _=>d) (fun _ _ _ _=>d) (fun _ _ k _=>call k) (fun _ _ _ _=>d) (fun _ _=>d) cst (fun _ _ _=>d) (fun _ _ _=>d) (fun _ _=>d) nm (fun _ _=>d) (fun _ _ _=>d) (fun _ _ _ _=>d)
noncomputable def fnSel {β:Type} (d:β) (f:Str→Arguments→List Stmt→Scope→β) (o:Option Stmt):β:=stSel d f (fun _=>d) (fun _ _ _=>d) (fun _=>d) o
noncomputable def asSel {β:Type} (d:β) (f:List Expr→Expr→Pos→β) (o:Option Stmt):β:=stSel d (fun _ _ _ _=>d) (fun _=>d) f (fun _=>d) o
noncomputable def hdSel {α β:Type} (d:β) (f:α→β) (l:List α):β:=List.casesOn (motive:=fun _=>β) l d fun a _=>f a
noncomputable def methAt (i:Nat):Option Stmt:=stSel none (fun _ _ _ _=>none) (fun b=>(b.drop i).head?) (fun _ _ _=>none) (fun _=>none) (stAt 19)
noncomputable def parsAt:Option Stmt→Arguments:=fnSel ⟨[],[],none,[],[],none,[]⟩ fun _ a _ _=>a
noncomputable def bodyAt:Option Stmt→List Stmt:=fnSel [] fun _ _ b _=>b
noncomputable def scopeAt:Option Stmt→Scope:=fnSel default fun _ _ _ s=>s
noncomputable def nameAt:Option Stmt→Str:=fnSel Str.empty fun n _ _ _=>n
noncomputable def fnData (st:Option Stmt) (qual:Str) (dfl kwd mod:Value) (code:Nat):FuncData :=
  { name:=nameAt st,qualname:=qual,params:=parsAt st,body:=.stmts (bodyAt st),scope:=scopeAt st,globals:=mainNs,closure:=[],defaults:=dfl,kwdefaults:=kwd,pyModule:=mod,code:=.ref code }
noncomputable def fd47:FuncData:=fnData (stAt 2) "insort_right" (.ref 39) (.ref 40) (.str "cpy313.bisect" 289) 46
noncomputable def co46:Array Value:=#[.str "insort_right" 293,.str "insort_right" 294,.str "/claim/cut.py" 295,.int 6 0,.int 4 0,.int 0 0,.int 1 0,.int 3 0,.ref 41,.bool true,.int 276 0,.ref 42,.none,.ref 43,.ref 44,.ref 45,.int 301 0,.int 6 0,.str "/claim/cut.py" 302]
noncomputable def fd56:FuncData:=fnData (stAt 3) "bisect_right" (.ref 48) (.ref 49) (.str "cpy313.bisect" 289) 55
noncomputable def co55:Array Value:=#[.str "bisect_right" 306,.str "bisect_right" 307,.str "/claim/cut.py" 308,.int 12 0,.int 4 0,.int 0 0,.int 1 0,.int 3 0,.ref 50,.bool true,.int 276 0,.ref 51,.none,.ref 52,.ref 53,.ref 54,.int 315 0,.int 12 0,.str "/claim/cut.py" 316]
noncomputable def fd65:FuncData:=fnData (stAt 4) "insort_left" (.ref 57) (.ref 58) (.str "cpy313.bisect" 289) 64
noncomputable def co64:Array Value:=#[.str "insort_left" 320,.str "insort_left" 321,.str "/claim/cut.py" 322,.int 32 0,.int 4 0,.int 0 0,.int 1 0,.int 3 0,.ref 59,.bool true,.int 276 0,.ref 60,.none,.ref 61,.ref 62,.ref 63,.int 328 0,.int 32 0,.str "/claim/cut.py" 329]
noncomputable def fd74:FuncData:=fnData (stAt 5) "bisect_left" (.ref 66) (.ref 67) (.str "cpy313.bisect" 289) 73
noncomputable def co73:Array Value:=#[.str "bisect_left" 333,.str "bisect_left" 334,.str "/claim/cut.py" 335,.int 38 0,.int 4 0,.int 0 0,.int 1 0,.int 3 0,.ref 68,.bool true,.int 276 0,.ref 69,.none,.ref 70,.ref 71,.ref 72,.int 342 0,.int 38 0,.str "/claim/cut.py" 343]
noncomputable def fd81:FuncData:=fnData (stAt 8) "_ellipsis_match" (.none) (.none) (.str "cpy313.doctest" 345) 80
noncomputable def co80:Array Value:=#[.str "_ellipsis_match" 349,.str "_ellipsis_match" 350,.str "/claim/cut.py" 351,.int 60 0,.int 2 0,.int 0 0,.int 0 0,.int 3 0,.ref 75,.bool true,.int 276 0,.ref 76,.none,.ref 77,.ref 78,.ref 79,.int 358 0,.int 60 0,.str "/claim/cut.py" 359]
noncomputable def fd99:FuncData:=fnData (stAt 11) "in_table_b1" (.none) (.none) (.str "cpy313.stringprep" 361) 98
noncomputable def co98:Array Value:=#[.str "in_table_b1" 423,.str "in_table_b1" 424,.str "/claim/cut.py" 425,.int 90 0,.int 1 0,.int 0 0,.int 0 0,.int 3 0,.ref 93,.bool true,.int 276 0,.ref 94,.none,.ref 95,.ref 96,.ref 97,.int 427 0,.int 90 0,.str "/claim/cut.py" 428]
noncomputable def fd145:FuncData:=fnData (stAt 13) "map_table_b3" (.none) (.none) (.str "cpy313.stringprep" 361) 144
noncomputable def co144:Array Value:=#[.str "map_table_b3" 2381,.str "map_table_b3" 2382,.str "/claim/cut.py" 2383,.int 93 0,.int 1 0,.int 0 0,.int 0 0,.int 3 0,.ref 139,.bool true,.int 276 0,.ref 140,.none,.ref 141,.ref 142,.ref 143,.int 2386 0,.int 93 0,.str "/claim/cut.py" 2387]
noncomputable def fd168:FuncData:=fnData (stAt 18) "_formatparam" (.ref 161) (.none) (.str "cpy313.wsgiref.headers" 2389) 167
noncomputable def co167:Array Value:=#[.str "_formatparam" 2486,.str "_formatparam" 2487,.str "/claim/cut.py" 2488,.int 102 0,.int 3 0,.int 0 0,.int 0 0,.int 3 0,.ref 162,.bool true,.int 276 0,.ref 163,.none,.ref 164,.ref 165,.ref 166,.int 2492 0,.int 102 0,.str "/claim/cut.py" 2493]
noncomputable def fd183:FuncData:=fnData (methAt 0) "Headers.__init__" (.ref 176) (.none) (.str "cpy313.wsgiref.headers" 2389) 182
noncomputable def co182:Array Value:=#[.str "__init__" 2507,.str "Headers.__init__" 2508,.str "/claim/cut.py" 2509,.int 113 0,.int 2 0,.int 0 0,.int 0 0,.int 3 0,.ref 177,.bool true,.int 276 0,.ref 178,.none,.ref 179,.ref 180,.ref 181,.int 2514 0,.int 113 0,.str "/claim/cut.py" 2515]
noncomputable def fd190:FuncData:=fnData (methAt 1) "Headers._convert_string_type" (.none) (.none) (.str "cpy313.wsgiref.headers" 2389) 189
noncomputable def co189:Array Value:=#[.str "_convert_string_type" 2517,.str "Headers._convert_string_type" 2518,.str "/claim/cut.py" 2519,.int 123 0,.int 2 0,.int 0 0,.int 1 0,.int 3 0,.ref 184,.bool true,.int 276 0,.ref 185,.none,.ref 186,.ref 187,.ref 188,.int 2524 0,.int 123 0,.str "/claim/cut.py" 2525]
noncomputable def fd228:FuncData:=fnData (methAt 7) "Headers.get_all" (.none) (.none) (.str "cpy313.wsgiref.headers" 2389) 227
noncomputable def co227:Array Value:=#[.str "get_all" 2565,.str "Headers.get_all" 2566,.str "/claim/cut.py" 2567,.int 148 0,.int 2 0,.int 0 0,.int 0 0,.int 3 0,.ref 224,.bool true,.int 276 0,.ref 225,.none,.none,.none,.ref 226,.int 2568 0,.int 148 0,.str "/claim/cut.py" 2569]
noncomputable def fd286:FuncData:=fnData (methAt 16) "Headers.add_header" (.none) (.none) (.str "cpy313.wsgiref.headers" 2389) 285
noncomputable def co285:Array Value:=#[.str "add_header" 2630,.str "Headers.add_header" 2631,.str "/claim/cut.py" 2632,.int 180 0,.int 3 0,.int 0 0,.int 0 0,.int 11 0,.ref 280,.bool true,.int 276 0,.ref 281,.none,.ref 282,.ref 283,.ref 284,.int 2640 0,.int 180 0,.str "/claim/cut.py" 2641]
noncomputable def fd300:FuncData:=fnData (stAt 21) "_law_words" (.none) (.none) (.str "law_uk0031_01" 2652) 299
noncomputable def co299:Array Value:=#[.str "_law_words" 2654,.str "_law_words" 2655,.str "/claim/cut.py" 2656,.int 194 0,.int 0 0,.int 0 0,.int 0 0,.int 3 0,.ref 294,.bool true,.int 276 0,.ref 295,.none,.ref 296,.ref 297,.ref 298,.int 2657 0,.int 194 0,.str "/claim/cut.py" 2658]
noncomputable def fd307:FuncData:=fnData (stAt 22) "_law_unseen" (.none) (.none) (.str "law_uk0031_01" 2652) 306
noncomputable def co306:Array Value:=#[.str "_law_unseen" 2660,.str "_law_unseen" 2661,.str "/claim/cut.py" 2662,.int 196 0,.int 1 0,.int 0 0,.int 0 0,.int 3 0,.ref 301,.bool true,.int 276 0,.ref 302,.none,.ref 303,.ref 304,.ref 305,.int 2664 0,.int 196 0,.str "/claim/cut.py" 2665]
noncomputable def fd314:FuncData:=fnData (stAt 23) "_law_beside" (.none) (.none) (.str "law_uk0031_01" 2652) 313
noncomputable def co313:Array Value:=#[.str "_law_beside" 2667,.str "_law_beside" 2668,.str "/claim/cut.py" 2669,.int 200 0,.int 1 0,.int 0 0,.int 0 0,.int 3 0,.ref 308,.bool true,.int 276 0,.ref 309,.none,.ref 310,.ref 311,.ref 312,.int 2671 0,.int 200 0,.str "/claim/cut.py" 2672]
noncomputable def fd321:FuncData:=fnData (stAt 24) "_law_letter" (.none) (.none) (.str "law_uk0031_01" 2652) 320
noncomputable def co320:Array Value:=#[.str "_law_letter" 2674,.str "_law_letter" 2675,.str "/claim/cut.py" 2676,.int 202 0,.int 2 0,.int 0 0,.int 0 0,.int 3 0,.ref 315,.bool true,.int 276 0,.ref 316,.none,.ref 317,.ref 318,.ref 319,.int 2679 0,.int 202 0,.str "/claim/cut.py" 2680]
noncomputable def fd326:FuncData:=fnData (stAt 25) "_law_typed" (.none) (.none) (.str "law_uk0031_01" 2652) 325
noncomputable def co325:Array Value:=#[.str "_law_typed" 2682,.str "_law_typed" 2683,.str "/claim/cut.py" 2684,.int 208 0,.int 2 0,.int 0 0,.int 0 0,.int 3 0,.ref 322,.bool true,.int 276 0,.ref 323,.none,.none,.none,.ref 324,.int 2685 0,.int 208 0,.str "/claim/cut.py" 2686]
noncomputable def fd331:FuncData:=fnData (stAt 26) "_law_prepared" (.none) (.none) (.str "law_uk0031_01" 2652) 330
noncomputable def co330:Array Value:=#[.str "_law_prepared" 2688,.str "_law_prepared" 2689,.str "/claim/cut.py" 2690,.int 220 0,.int 1 0,.int 0 0,.int 0 0,.int 3 0,.ref 327,.bool true,.int 276 0,.ref 328,.none,.none,.none,.ref 329,.int 2691 0,.int 220 0,.str "/claim/cut.py" 2692]
noncomputable def fd338:FuncData:=fnData (stAt 27) "_law_order" (.none) (.none) (.str "law_uk0031_01" 2652) 337
noncomputable def co337:Array Value:=#[.str "_law_order" 2694,.str "_law_order" 2695,.str "/claim/cut.py" 2696,.int 222 0,.int 1 0,.int 0 0,.int 0 0,.int 3 0,.ref 332,.bool true,.int 276 0,.ref 333,.none,.ref 334,.ref 335,.ref 336,.int 2701 0,.int 222 0,.str "/claim/cut.py" 2702]
noncomputable def fd345:FuncData:=fnData (stAt 28) "_law_day" (.none) (.none) (.str "law_uk0031_01" 2652) 344
noncomputable def co344:Array Value:=#[.str "_law_day" 2704,.str "_law_day" 2705,.str "/claim/cut.py" 2706,.int 227 0,.int 1 0,.int 0 0,.int 0 0,.int 3 0,.ref 339,.bool true,.int 276 0,.ref 340,.none,.ref 341,.ref 342,.ref 343,.int 2708 0,.int 227 0,.str "/claim/cut.py" 2709]
noncomputable def fd350:FuncData:=fnData (stAt 29) "_law_plans" (.none) (.none) (.str "law_uk0031_01" 2652) 349
noncomputable def co349:Array Value:=#[.str "_law_plans" 2711,.str "_law_plans" 2712,.str "/claim/cut.py" 2713,.int 229 0,.int 4 0,.int 0 0,.int 0 0,.int 3 0,.ref 346,.bool true,.int 276 0,.ref 347,.none,.none,.none,.ref 348,.int 2714 0,.int 229 0,.str "/claim/cut.py" 2715]
noncomputable def fd355:FuncData:=fnData (stAt 30) "_law_table" (.none) (.none) (.str "law_uk0031_01" 2652) 354
noncomputable def co354:Array Value:=#[.str "_law_table" 2717,.str "_law_table" 2718,.str "/claim/cut.py" 2719,.int 248 0,.int 3 0,.int 0 0,.int 0 0,.int 3 0,.ref 351,.bool true,.int 276 0,.ref 352,.none,.none,.none,.ref 353,.int 2720 0,.int 248 0,.str "/claim/cut.py" 2721]
noncomputable def fd362:FuncData:=fnData (stAt 31) "_law_dotted" (.none) (.none) (.str "law_uk0031_01" 2652) 361
noncomputable def co361:Array Value:=#[.str "_law_dotted" 2723,.str "_law_dotted" 2724,.str "/claim/cut.py" 2725,.int 256 0,.int 1 0,.int 0 0,.int 0 0,.int 3 0,.ref 356,.bool true,.int 276 0,.ref 357,.none,.ref 358,.ref 359,.ref 360,.int 2727 0,.int 256 0,.str "/claim/cut.py" 2728]
noncomputable def fd369:FuncData:=fnData (stAt 32) "_law_taken" (.none) (.none) (.str "law_uk0031_01" 2652) 368
noncomputable def co368:Array Value:=#[.str "_law_taken" 2730,.str "_law_taken" 2731,.str "/claim/cut.py" 2732,.int 258 0,.int 2 0,.int 0 0,.int 0 0,.int 3 0,.ref 363,.bool true,.int 276 0,.ref 364,.none,.ref 365,.ref 366,.ref 367,.int 2737 0,.int 258 0,.str "/claim/cut.py" 2738]
noncomputable def fd374:FuncData:=fnData (stAt 33) "_law_rising" (.none) (.none) (.str "law_uk0031_01" 2652) 373
noncomputable def co373:Array Value:=#[.str "_law_rising" 2740,.str "_law_rising" 2741,.str "/claim/cut.py" 2742,.int 264 0,.int 1 0,.int 0 0,.int 0 0,.int 3 0,.ref 370,.bool true,.int 276 0,.ref 371,.none,.none,.none,.ref 372,.int 2743 0,.int 264 0,.str "/claim/cut.py" 2744]
noncomputable def fd379:FuncData:=fnData (stAt 34) "_law_due" (.none) (.none) (.str "law_uk0031_01" 2652) 378
noncomputable def co378:Array Value:=#[.str "_law_due" 2746,.str "_law_due" 2747,.str "/claim/cut.py" 2748,.int 269 0,.int 4 0,.int 0 0,.int 0 0,.int 3 0,.ref 375,.bool true,.int 276 0,.ref 376,.none,.none,.none,.ref 377,.int 2749 0,.int 269 0,.str "/claim/cut.py" 2750]
noncomputable def fd384:FuncData:=fnData (stAt 35) "_law_copies_agree" (.none) (.none) (.str "law_uk0031_01" 2652) 383
noncomputable def co383:Array Value:=#[.str "_law_copies_agree" 2752,.str "_law_copies_agree" 2753,.str "/claim/cut.py" 2754,.int 273 0,.int 4 0,.int 0 0,.int 0 0,.int 3 0,.ref 380,.bool true,.int 276 0,.ref 381,.none,.none,.none,.ref 382,.int 2755 0,.int 273 0,.str "/claim/cut.py" 2756]
noncomputable def fd389:FuncData:=fnData (stAt 36) "law" (.none) (.none) (.str "law_uk0031_01" 2652) 388
noncomputable def co388:Array Value:=#[.str "law" 2758,.str "law" 2759,.str "/claim/cut.py" 2760,.int 278 0,.int 1 0,.int 0 0,.int 0 0,.int 3 0,.ref 385,.bool true,.int 276 0,.ref 386,.none,.none,.none,.ref 387,.int 2761 0,.int 278 0,.str "/claim/cut.py" 2762]
noncomputable def setEs:Array (Int × Value):=#[(65024,.int 65024 379),(65025,.int 65025 380),(65026,.int 65026 381),(65027,.int 65027 382),(65028,.int 65028 383),(65029,.int 65029 384),(6150,.int 6150 365),(65030,.int 65030 385),(65031,.int 65031 386),(65032,.int 65032 387),(65033,.int 65033 388),(6155,.int 6155 366),(6156,.int 6156 367),(6157,.int 6157 368),(8203,.int 8203 369),(8204,.int 8204 370),(8205,.int 8205 371),(65034,.int 65034 389),(65035,.int 65035 390),(65036,.int 65036 391),(65037,.int 65037 392),(65038,.int 65038 393),(65039,.int 65039 394),(173,.int 173 363),(847,.int 847 364),(8288,.int 8288 372),(65279,.int 65279 373)]
noncomputable def setTab (w:World):SetTable:={ mask:=127,place:=#[0,1,2,3,4,5,6,7,8,9,10,11,12,13,14,15,16,17,18,19,20,21,22,45,79,96,127],dummies:=#[],finger:=0,led:=!w.params.followText "set-order",moves:=2,plain:=true }
noncomputable def lookAts:List Addr:=[47,46,56,55,65,64,74,73,81,80,99,98,145,144,168,167,183,182,190,189,228,227,286,285,300,299,307,306,314,313,321,320,326,325,331,330,338,337,345,344,350,349,355,354,362,361,369,368,374,373,379,378,384,383,389,388,39,48,57,66,176,154,159,155,160,376,89,289]
noncomputable def lookObjs (w:World):List (Option Obj):=[
  some { cls:=.type "function",data:=.func fd47 },
  some { cls:=.type "code",data:=.fields co46 },
  some { cls:=.type "function",data:=.func fd56 },
  some { cls:=.type "code",data:=.fields co55 },
  some { cls:=.type "function",data:=.func fd65 },
  some { cls:=.type "code",data:=.fields co64 },
  some { cls:=.type "function",data:=.func fd74 },
  some { cls:=.type "code",data:=.fields co73 },
  some { cls:=.type "function",data:=.func fd81 },
  some { cls:=.type "code",data:=.fields co80 },
  some { cls:=.type "function",data:=.func fd99 },
  some { cls:=.type "code",data:=.fields co98 },
  some { cls:=.type "function",data:=.func fd145 },
  some { cls:=.type "code",data:=.fields co144 },
  some { cls:=.type "function",data:=.func fd168 },
  some { cls:=.type "code",data:=.fields co167 },
  some { cls:=.type "function",data:=.func fd183 },
  some { cls:=.type "code",data:=.fields co182 },
  some { cls:=.type "function",data:=.func fd190 },
  some { cls:=.type "code",data:=.fields co189 },
  some { cls:=.type "function",data:=.func fd228 },
  some { cls:=.type "code",data:=.fields co227 },
  some { cls:=.type "function",data:=.func fd286 },
  some { cls:=.type "code",data:=.fields co285 },
  some { cls:=.type "function",data:=.func fd300 },
  some { cls:=.type "code",data:=.fields co299 },
  some { cls:=.type "function",data:=.func fd307 },
  some { cls:=.type "code",data:=.fields co306 },
  some { cls:=.type "function",data:=.func fd314 },
  some { cls:=.type "code",data:=.fields co313 },
  some { cls:=.type "function",data:=.func fd321 },
  some { cls:=.type "code",data:=.fields co320 },
  some { cls:=.type "function",data:=.func fd326 },
  some { cls:=.type "code",data:=.fields co325 },
  some { cls:=.type "function",data:=.func fd331 },
  some { cls:=.type "code",data:=.fields co330 },
  some { cls:=.type "function",data:=.func fd338 },
  some { cls:=.type "code",data:=.fields co337 },
  some { cls:=.type "function",data:=.func fd345 },
  some { cls:=.type "code",data:=.fields co344 },
  some { cls:=.type "function",data:=.func fd350 },
  some { cls:=.type "code",data:=.fields co349 },
  some { cls:=.type "function",data:=.func fd355 },
  some { cls:=.type "code",data:=.fields co354 },
  some { cls:=.type "function",data:=.func fd362 },
  some { cls:=.type "code",data:=.fields co361 },
  some { cls:=.type "function",data:=.func fd369 },
  some { cls:=.type "code",data:=.fields co368 },
  some { cls:=.type "function",data:=.func fd374 },
  some { cls:=.type "code",data:=.fields co373 },
  some { cls:=.type "function",data:=.func fd379 },
  some { cls:=.type "code",data:=.fields co378 },
  some { cls:=.type "function",data:=.func fd384 },
  some { cls:=.type "code",data:=.fields co383 },
  some { cls:=.type "function",data:=.func fd389 },
  some { cls:=.type "code",data:=.fields co388 },
  some { cls:=.type "tuple",data:=.seq #[.int 0 291,.none] 0 },
  some { cls:=.type "tuple",data:=.seq #[.int 0 304,.none] 0 },
  some { cls:=.type "tuple",data:=.seq #[.int 0 318,.none] 0 },
  some { cls:=.type "tuple",data:=.seq #[.int 0 331,.none] 0 },
  some { cls:=.type "tuple",data:=.seq #[.none] 0 },
  some { cls:=.type "tuple",data:=.seq #[.int 14 0,.int 10 0,.int 4 0,.int 1 0,.int 1 0,.int 22 0,.int 0 0,.int 31 0,.int 16 0,.int 127 0,.int 0 0,.int 13 0,.int 7 0,.int 22 0,.int 0 0,.int 31 0,.int 16 0,.int 127 0,.int 0 0,.int 1 0] 0 },
  some { cls:=.type "tuple",data:=.seq #[.int 14 0,.int 14 0,.int 4 0,.int 1 0,.int 1 0,.int 9 0,.int 4294966783 0,.int 0 0,.int 0 0,.int 2147483648 0,.int 0 0,.int 0 0,.int 0 0,.int 0 0,.int 0 0,.int 13 0,.int 11 0,.int 9 0,.int 4294966783 0,.int 0 0,.int 0 0,.int 2147483648 0,.int 0 0,.int 0 0,.int 0 0,.int 0 0,.int 0 0,.int 1 0] 0 },
  some { cls:=.type "re.Pattern",data:=.fields #[.str "[\\x00-\\x1F\\x7F]" 2426,.int 32 2449,.int 0 0,.none,.none,.ref 154,.int 0 0] },
  some { cls:=.type "re.Pattern",data:=.fields #[.str "[\\x00-\\x08\\x0A-\\x1F\\x7F]" 2452,.int 32 2483,.int 0 0,.none,.none,.ref 159,.int 0 0] },
  some { cls:=.none,data:=.fields #[] },
  some { cls:=.type "set",data:=.set setEs 29 (setTab w) },
  some { cls:=.type "type",data:=.cls { name:="Headers",bases:=[.type "object"],mro:=[.ref 289,.type "object"],ns:=288,qualname:="Headers" },slots:=#[none,none,some (.str "Headers" 2495),some (.str "Headers" 2503),some (.builtin "object.__new__"),some (.bool true)] }]
noncomputable def lookNames1:List Str:=["insort_right","bisect_right","insort_left","bisect_left","_ellipsis_match","in_table_b1","map_table_b3","_formatparam","_law_words","_law_unseen","_law_beside","_law_letter","_law_typed","_law_prepared","_law_order","_law_day","_law_plans","_law_table","_law_dotted","_law_taken","_law_rising","_law_due","_law_copies_agree","law","ELLIPSIS_MARKER","b1_set","b3_exceptions","tspecials","_name_disallowed_re","_value_disallowed_re","Headers"]
noncomputable def lookNames2:List Str:=["len","chr","ord","abs","min","max","sum","list","str","type","range","enumerate","sorted","set"]
noncomputable def lookNames:List Str:=lookNames1++lookNames2
noncomputable def lookVals:List (Option Value):=[some (.ref 47),some (.ref 56),some (.ref 65),some (.ref 74),some (.ref 81),some (.ref 99),some (.ref 145),some (.ref 168),some (.ref 300),some (.ref 307),some (.ref 314),some (.ref 321),some (.ref 326),some (.ref 331),some (.ref 338),some (.ref 345),some (.ref 350),some (.ref 355),some (.ref 362),some (.ref 369),some (.ref 374),some (.ref 379),some (.ref 384),some (.ref 389),some (.str "..." 347),some (.ref 89),some (.ref 100),some (.ref 150),some (.ref 155),some (.ref 160),some (.ref 289),none,none,none,none,none,none,none,none,none,none,none,none,none,none]
noncomputable def lookNs:List (Addr × Str):=[(40,"key"),(49,"key"),(58,"key"),(67,"key"),(288,"__module__"),(288,"__firstlineno__"),(288,"__init__"),(288,"_convert_string_type"),(288,"__len__"),(288,"__setitem__"),(288,"__delitem__"),(288,"__getitem__"),(288,"__contains__"),(288,"get_all"),(288,"get"),(288,"keys"),(288,"values"),(288,"items"),(288,"__repr__"),(288,"__str__"),(288,"__bytes__"),(288,"setdefault"),(288,"add_header"),(288,"__static_attributes__"),(288,"__dict__"),(288,"__weakref__"),(288,"__doc__"),(288,"__getattribute__"),(288,"__getattr__"),(288,"__setattr__"),(288,"_headers")]
noncomputable def lookNsVals:List (Option Value):=[some .none,some .none,some .none,some .none,some (.str "cpy313.wsgiref.headers" 2389),some (.int 111 2505),some (.ref 183),some (.ref 190),some (.ref 197),some (.ref 204),some (.ref 209),some (.ref 216),some (.ref 223),some (.ref 228),some (.ref 236),some (.ref 241),some (.ref 246),some (.ref 253),some (.ref 260),some (.ref 265),some (.ref 272),some (.ref 279),some (.ref 286),some (.ref 287),some (.ref 290),some (.ref 291),some (.none),none,none,none,none]
noncomputable def toB? (l:List Obj):BT→Nat→Option BT:=List.rec (motive:=fun _=>BT→Nat→Option BT) (fun T _=>some T) (fun o _ ih T m=>onB ((T.ins m o).get m).isSome (ih (T.ins m o) (m+1))) l
noncomputable def preS:Sem (Value × Addr):=do
  let code ← moduleCode P.main
  let fr ← newBodyFrame code mainNs mainNs
  pure (code,fr)
noncomputable def encP (a:Value × Addr):Flow:=if a.1=.ref 30∧a.2=31 then .next else .brk
noncomputable def runA (w:World) (T:BT) (m k:Nat):Option (Flow × BT × Nat × Nat):=rk (denote treeTable) P w [] 40 T m k (preS >>= fun a=>(pure (.done (encP a)):Sem Fin)) (.builtin "claim.caller" {}) default []
noncomputable def semB:Sem Flow:=do blockStart body envT; execs (body.take 12) envT
noncomputable def runB (w:World) (q0 q:Pos) (T:BT) (m k:Nat):Option (Flow × BT × Nat × Nat):=rk (denote treeTable) P w [topFrame q0] 2500 T m k (semB >>= fun f=>(pure (.done f):Sem Fin)) cE q []
noncomputable def gObjs (g:Nat→Obj):List Obj:=(List.range' 100 39).map g
noncomputable def posOf:Option Stmt→Pos:=asSel default fun t _ _=>hdSel default (exSel default (fun _ p=>p) (fun _ _ _=>default) (fun _ _ _=>default) (fun _=>default) fun _=>default) t
noncomputable def semC:Sem Flow:=do
  standAt (posOf (stAt 12))
  bindName envT "b3_exceptions" (.ref 100)
  execs (body.drop 13) envT
noncomputable def runC (w:World) (q0 q:Pos) (T:BT) (m k:Nat):Option (Flow × BT × Nat × Nat):=rk (denote treeTable) P w [topFrame q0] 2500 T m k (semC >>= fun f=>(pure (.done f):Sem Fin)) cE q []
noncomputable def allAlive (T:BT) (n:Nat):Bool:=Nat.rec (motive:=fun _=>Bool) true (fun n ih=>Option.any Obj.alive (T.get n) && ih) n
structure Ends where
  s:Shared
  T0:BT
  a:Flow × BT × Nat × Nat
  b:Flow × BT × Nat × Nat
  T1:BT
  c:Flow × BT × Nat × Nat
noncomputable def ends (w:World) (g:Nat→Obj) (q0 q1 q2:Pos):Option Ends :=
  (fencedOpening treeTable P w 2000).bind fun s=>(toB? s.heap.objs.toList .nil 0).bind fun T0 =>
  (runA w T0 s.heap.objs.size s.toks).bind fun a=>(runB w q0 q1 a.2.1 a.2.2.1 a.2.2.2).bind fun b =>
  (toB? (gObjs g) b.2.1 100).bind fun T1=>(runC w q0 q2 T1 139 2380).map fun c=>⟨s,T0,a,b,T1,c⟩
noncomputable def flags (h₀ h₁:Heap):List Bool:=let mods:=importedModules P.main.body
  [h₀.isNs mainGlobals,staticsOk mods h₀ h₁,namesBound P h₁,laidKept h₀ h₁,h₁.accountedOkI mods,h₁.isNs mainGlobals,h₁.isNs builtinsNs,h₁.bmainOk,h₁.isNs cStatics,h₁.isNs 40,h₁.isNs 49,h₁.isNs 58,h₁.isNs 67,h₁.isNs 288]
noncomputable abbrev lookAll (T:BT) (h₁:Heap):=(h₁.bltView,lookNames.map (h₁.nsMap mainGlobals),(["sys.recursionlimit","sys.int_max_str_digits"]:List Str).map (h₁.nsMap cStatics),lookNs.map fun x=>h₁.nsMap x.1 x.2,lookAts.map T.get)
noncomputable def obs (w:World) (g:Nat→Obj) (q0 q1 q2:Pos):=(ends w g q0 q1 q2).map fun e =>
  ((e.s.gens.size,e.s.heap.objs.size,e.a.1,e.a.2.2,e.b.1,e.b.2.2),(allAlive e.b.2.1 100,e.c.1,e.c.2.2),flags e.s.heap (absHeap e.c.2.1 390 {}),e.c.2.1.get 100,lookAll e.c.2.1 (absHeap e.c.2.1 390 {}))
noncomputable def want (w:World) (g:Nat→Obj):=some (((0:Nat),(28:Nat),Flow.next,((32:Nat),(282:Nat)),Flow.next,((100:Nat),(430:Nat))),(true,Flow.next,((390:Nat),(2764:Nat))),List.replicate 14 true,some (g 100),
  (bltViewBooted,lookVals,[(none:Option Value),none],lookNsVals,lookObjs w))
noncomputable def envG (p:Program):Env:={ scope:=p.main.scope,locals:=mainNs,globals:=mainNs,cells:=[],code:=.ref 30,frame:=some 31 }
noncomputable def preG (p:Program):Sem (Value × Addr):=do
  let code ← moduleCode p.main
  let fr ← newBodyFrame code mainNs mainNs
  pure (code,fr)
noncomputable def runAG (p:Program) (w:World) (T:BT) (m k:Nat):Option (Flow × BT × Nat × Nat):=rk (denote treeTable) p w [] 40 T m k (preG p >>= fun a=>(pure (.done (encP a)):Sem Fin)) (.builtin "claim.caller" {}) default []
noncomputable def runBG (p:Program) (w:World) (q0 q:Pos) (T:BT) (m k:Nat):Option (Flow × BT × Nat × Nat):=rk (denote treeTable) p w [topFrame q0] 2500 T m k ((do blockStart (behindTheImports p) (envG p); execs ((behindTheImports p).take 12) (envG p)) >>= fun f=>(pure (.done f):Sem Fin)) (.body (behindTheImports p) (envG p)) q []
noncomputable def semCG (p:Program):Sem Flow:=do
  standAt (posOf ((behindTheImports p).drop 12).head?)
  bindName (envG p) "b3_exceptions" (.ref 100)
  execs ((behindTheImports p).drop 13) (envG p)
noncomputable def runCG (p:Program) (w:World) (q0 q:Pos) (T:BT) (m k:Nat):Option (Flow × BT × Nat × Nat):=rk (denote treeTable) p w [topFrame q0] 2500 T m k (semCG p >>= fun f=>(pure (.done f):Sem Fin)) (.body (behindTheImports p) (envG p)) q []
noncomputable def endsG (p:Program) (w:World) (g:Nat→Obj) (q0 q1 q2:Pos):Option Ends :=
  (fencedOpening treeTable p w 2000).bind fun s=>(toB? s.heap.objs.toList .nil 0).bind fun T0 =>
  (runAG p w T0 s.heap.objs.size s.toks).bind fun a=>(runBG p w q0 q1 a.2.1 a.2.2.1 a.2.2.2).bind fun b =>
  (toB? (gObjs g) b.2.1 100).bind fun T1=>(runCG p w q0 q2 T1 139 2380).map fun c=>⟨s,T0,a,b,T1,c⟩
noncomputable def flagsG (p:Program) (h₀ h₁:Heap):List Bool:=let mods:=importedModules p.main.body
  [h₀.isNs mainGlobals,staticsOk mods h₀ h₁,namesBound p h₁,laidKept h₀ h₁,h₁.accountedOkI mods,h₁.isNs mainGlobals,h₁.isNs builtinsNs,h₁.bmainOk,h₁.isNs cStatics,h₁.isNs 40,h₁.isNs 49,h₁.isNs 58,h₁.isNs 67,h₁.isNs 288]
noncomputable def obsG (p:Program) (w:World) (g:Nat→Obj) (q0 q1 q2:Pos):=(endsG p w g q0 q1 q2).map fun e =>
  ((e.s.gens.size,e.s.heap.objs.size,e.a.1,e.a.2.2,e.b.1,e.b.2.2),(allAlive e.b.2.1 100,e.c.1,e.c.2.2),flagsG p e.s.heap (absHeap e.c.2.1 390 {}),e.c.2.1.get 100,lookAll e.c.2.1 (absHeap e.c.2.1 390 {}))
theorem obsG_self:obsG=obsG:=rfl
theorem obs_G (w:World) (g:Nat→Obj) (q0 q1 q2:Pos):obs w g q0 q1 q2=obsG P w g q0 q1 q2:=rfl
end Mine
open Mine
name_quick obsQ for Mine.obsG by Mine.obsG_self
theorem Mine.obsT:∀ (w:World) (g:Nat→Obj) (q0 q1 q2:Pos),PySem.W.Fast.obsQ P (w.withFollow "special-get-raises" true) g q0 q1 q2 =
  want (w.withFollow "special-get-raises" true) g:=by intro w g q0 q1 q2; kernel_rfl
theorem Mine.obsF:∀ (w:World) (g:Nat→Obj) (q0 q1 q2:Pos),PySem.W.Fast.obsQ P (w.withFollow "special-get-raises" false) g q0 q1 q2 =
  want (w.withFollow "special-get-raises" false) g:=by intro w g q0 q1 q2; kernel_rfl
theorem Mine.obs_all (w:World):∀ (g:Nat→Obj) (q0 q1 q2:Pos),obs w g q0 q1 q2=want w g:=by
  refine byRow2 "special-get-raises" (P:=fun w=>∀ (g:Nat→Obj) (q0 q1 q2:Pos),obs w g q0 q1 q2=want w g) (fun w g q0 q1 q2=>?_) (fun w g q0 q1 q2=>?_) w
  · rw [obs_G,PySem.W.Fast.obsQ_eq]; exact Mine.obsF w g q0 q1 q2
  · rw [obs_G,PySem.W.Fast.obsQ_eq]; exact Mine.obsT w g q0 q1 q2
end
section
open PySem PySem.W PyProof.Rows
set_option maxRecDepth 100000
set_option maxHeartbeats 0
namespace Mine
theorem toB_abs {life:Life} {l:List Obj}:∀ {T:BT} {m:Nat} {T':BT},toB? l T m=some T'→absHeap T' (m+l.length) life=⟨((absHeap T m life).objs.toList++l).toArray,life⟩:=by
  induction l with
  | nil=>exact fun {T m T'} h=>Option.some.inj h ▸ congrArg (fun x=>(⟨x,life⟩:Heap)) (congrArg List.toArray (List.append_nil _)).symm
  | cons o os ih=>exact fun {T m T'} h=>onE h fun hg h=>(congrArg (fun n=>absHeap T' n life) (Nat.succ_add m os.length).symm).trans ((ih h).trans (by
      rw [absHeap_ins hg]
      simp [Heap.push]))
theorem toB_heap {s:Shared} {T:BT} (h:toB? s.heap.objs.toList .nil 0=some T):absHeap T s.heap.objs.size s.heap.life=s.heap:=by
  have:=toB_abs (life:=s.heap.life) h
  rw [Nat.zero_add,Array.length_toList] at this
  rw [this]
  simp [absHeap,BT.list]
noncomputable def dcSel {β:Type} (d:β) (f:List (Option Expr)→List Expr→Pos→β):Option Stmt→β:=asSel d fun _ v _=>exSel d (fun _ _=>d) f (fun _ _ _=>d) (fun _=>d) (fun _=>d) v
noncomputable def ks12:List (Option Expr):=dcSel [] (fun ks _ _=>ks) (stAt 12)
noncomputable def vs12:List Expr:=dcSel [] (fun _ vs _=>vs) (stAt 12)
noncomputable def dp12:Pos:=dcSel default (fun _ _ p=>p) (stAt 12)
noncomputable def ap12:Pos:=asSel default (fun _ _ p=>p) (stAt 12)
noncomputable def st12v:Stmt:=.Assign [.Name "b3_exceptions" (posOf (stAt 12))] (.Dict ks12 vs12 dp12) ap12
theorem st12:stAt 12=some st12v:=by kernel_rfl
theorem body_split:body=body.take 12++st12v::body.drop 13:=by
  have h:(body.drop 12).head?=some st12v:=st12
  have e:body=body.take 12++body.drop 12:=(List.take_append_drop 12 body).symm
  generalize st12v=st at h
  have:body.drop 12=st::body.drop 13:=by
    cases hd:body.drop 12 with
    | nil=>rw [hd] at h; simp at h
    | cons x r =>
      rw [hd] at h
      simp only [List.head?_cons,Option.some.injEq] at h
      have:body.drop 13=r:=by
        have:=congrArg List.tail hd
        simpa using this
      rw [this,h]
  rw [← this]
  exact e
noncomputable def cSel {β:Type} (d:β) (f:Const→Nat→Pos→β):Expr→β:=exSel d (fun _ _=>d) (fun _ _ _=>d) f (fun _=>d) fun _=>d
noncomputable def cInt (c:Const):Int:=Const.casesOn (motive:=fun _=>Int) c 0 (fun _=>0) (fun i=>i) (fun _=>0) (fun _ _=>0) (fun _=>0) (fun _=>0) 0
noncomputable def cStr (c:Const):Str:=Const.casesOn (motive:=fun _=>Str) c Str.empty (fun _=>Str.empty) (fun _=>Str.empty) (fun _=>Str.empty) (fun _ _=>Str.empty) (fun s=>s) (fun _=>Str.empty) Str.empty
noncomputable abbrev Ent:=(Int × Nat × Pos) × (Str × Nat × Pos)
noncomputable def pK (o:Option Expr):Int × Nat × Pos:=Option.casesOn (motive:=fun _=>Int × Nat × Pos) o (0,0,default) (cSel (0,0,default) fun c k p=>(cInt c,k,p))
noncomputable def pV:Expr→Str × Nat × Pos:=cSel (Str.empty,0,default) fun c k p=>(cStr c,k,p)
noncomputable def rK (x:Ent):Option Expr:=some (.Constant (.int x.1.1) x.1.2.1 x.1.2.2)
noncomputable def rV (x:Ent):Expr:=.Constant (.str x.2.1) x.2.2.1 x.2.2.2
noncomputable def rX (x:Ent):Int × Str:=(x.1.1,x.2.1)
noncomputable def ents12:List Ent:=(ks12.map pK).zip (vs12.map pV)
theorem zip_items (env:Env) (pos:Pos) (l:List Ent):(evalEachOpt (l.map rK) env).zip ((evalEach (l.map rV) env).map fun v=>do let x ← v; standAt pos; pure x)=(l.map rX).map (item pos):=by
  induction l with
  | nil=>rfl
  | cons x l ih=>exact congrArg (List.cons (item pos (rX x))) ih
noncomputable def kvs12:List (Int × Str):=ents12.map rX
theorem ks12_eq:ks12=ents12.map rK:=by kernel_rfl
theorem vs12_eq:vs12=ents12.map rV:=by kernel_rfl
noncomputable def chn (l:List Int):Int→Bool:=List.rec (motive:=fun _=>Int→Bool) (fun _=>true) (fun b _ ih x=>decide (x < b) && ih b) l
theorem chn_lt {l:List Int}:∀ {x:Int},chn l x=true→(∀ y∈l,x < y)∧l.Nodup:=by
  induction l with
  | nil=>exact fun {x} _=>⟨fun _ h=>absurd h List.not_mem_nil,List.nodup_nil⟩
  | cons b l ih=>exact fun {x} h=>anE (Bool.and_eq_true_iff.mp h) fun h1 h2=>anE (ih h2) fun a n =>
      ⟨fun y hy=>(List.mem_cons.mp hy).elim (fun e=>e ▸ of_decide_eq_true h1) fun hy=>Int.lt_trans (of_decide_eq_true h1) (a y hy),List.nodup_cons.mpr ⟨fun hb=>Int.lt_irrefl _ (a b hb),n⟩⟩
theorem kvs12_facts:(chn (kvs12.map (·.1)) (-1) && decide (kvs12.length=650))=true:=by kernel_rfl
theorem kvs12_nodup:(kvs12.map (·.1)).Nodup:=(chn_lt (Bool.and_eq_true_iff.mp kvs12_facts).1).2
theorem kvs12_len:kvs12.length=650:=of_decide_eq_true (Bool.and_eq_true_iff.mp kvs12_facts).2
noncomputable def thenN (m:Sem Flow) (f:Flow):Sem Flow:=Flow.casesOn (motive:=fun _=>Sem Flow) f m (pure .brk) (pure .cont) fun v=>pure (.ret v)
theorem execs_append (env:Env) (r:List Stmt):∀ l:List Stmt,execs (l++r) env=execs l env >>= thenN (execs r env)
  | []=>(pure_bind Flow.next (thenN (execs r env))).symm
  | s::l=>by
    rw [List.cons_append,execs_cons,execs_cons,bind_assoc]
    congr 1; funext f
    induction f with
    | next=>exact execs_append env r l
    | brk=>exact (pure_bind Flow.brk (thenN (execs r env))).symm
    | cont=>exact (pure_bind Flow.cont (thenN (execs r env))).symm
    | ret v=>exact (pure_bind (Flow.ret v) (thenN (execs r env))).symm
theorem Ctx_enter (q:Pos) (c:Code):(Ctx.of (.builtin "claim.caller" {}) []).enter c none q=Ctx.of c [topFrame q]:=rfl
theorem den_body (c:Code) (b:List Stmt) (env:Env) (h:c=.body b env):(denote table c)=(blockStart b env >>= fun _=>((execs b env).onRaise (leaving env)) >>= fun f=>(pure (.done f):Sem Fin)):=by
  subst h; rfl
section
variable {w:World} {s₀:Shared}
theorem semTop:(topStub P).cur=preS >>= fun a=>(run (.body body { envT with code:=a.1,frame:=some a.2 }) >>= fun _=>(ret .none:Sem Fin)):=by
  unfold preS
  simp only [bind_assoc,pure_bind]
  rfl
theorem semB_eq:(blockStart body envT >>= fun _=>execs body envT)=semB >>= thenN (execs (st12v::body.drop 13) envT):=by
  unfold semB
  rw [bind_assoc]
  congr 1; funext _
  conv=>lhs; rw [body_split]
  exact execs_append envT (st12v::body.drop 13) (body.take 12)
theorem st12_exec:execs (st12v::body.drop 13) envT=(do standAt ap12; standAt dp12; let v ← dictDisplay (kvs12.map (item dp12)); standAt (posOf (stAt 12)); bindName envT "b3_exceptions" v; execs (body.drop 13) envT):=by
  rw [execs_cons]
  unfold st12v
  rw [exec_Assign_Name envT _ _ _ _ rfl,arm_eval_Dict,ks12_eq,vs12_eq,zip_items envT dp12]
  simp only [bind_assoc,pure_bind]
  rfl
theorem mpE {α β:Type} {o:Option α} {f:α→β} {r:β} {G:Prop} (h:o.map f=some r) (k:∀ a,o=some a→f a=r→G):G:=match o with
  | some a=>k a rfl (Option.some.inj h)
  | none=>nS h
theorem ends_parts {g:Nat→Obj} {q0 q1 q2:Pos} {e:Ends} (h:ends w g q0 q1 q2=some e):fencedOpening treeTable P w 2000=some e.s∧toB? e.s.heap.objs.toList .nil 0=some e.T0 ∧
    runA w e.T0 e.s.heap.objs.size e.s.toks=some e.a∧runB w q0 q1 e.a.2.1 e.a.2.2.1 e.a.2.2.2=some e.b∧toB? (gObjs g) e.b.2.1 100=some e.T1∧runC w q0 q2 e.T1 139 2380=some e.c :=
  bdE h fun s h1 h=>bdE h fun T0 h2 h=>bdE h fun a h3 h=>bdE h fun b h4 h=>bdE h fun T1 h5 h=>mpE h fun c h6 e=>e ▸ ⟨h1,h2,h3,h4,h5,h6⟩
structure Seen (w:World) (g:Nat→Obj) (e:Ends):Prop where
  gens:e.s.gens.size=0
  size:e.s.heap.objs.size=28
  a:e.a.1=.next∧e.a.2.2=(32,282)
  b:e.b.1=.next∧e.b.2.2=(100,430)
  alive:allAlive e.b.2.1 100=true
  c:e.c.1=.next∧e.c.2.2=(390,2764)
  flags:flags e.s.heap (absHeap e.c.2.1 390 {})=List.replicate 14 true
  b3:e.c.2.1.get 100=some (g 100)
  looks:lookAll e.c.2.1 (absHeap e.c.2.1 390 {})=(bltViewBooted,lookVals,[(none:Option Value),none],lookNsVals,lookObjs w)
theorem ends_seen (w:World) (g:Nat→Obj) (q0 q1 q2:Pos):∃ e,ends w g q0 q1 q2=some e∧Seen w g e:=by
  have h:=obs_all w g q0 q1 q2
  unfold obs want at h
  refine hid fun GG kk=>?_
  obtain ⟨e,he,h⟩:=Option.map_eq_some_iff.mp h
  obtain ⟨h1,h⟩:=Prod.mk.inj h
  obtain ⟨h2,h⟩:=Prod.mk.inj h
  obtain ⟨h3,h⟩:=Prod.mk.inj h
  obtain ⟨h4,h5⟩:=Prod.mk.inj h
  obtain ⟨g1,h1⟩:=Prod.mk.inj h1
  obtain ⟨g2,h1⟩:=Prod.mk.inj h1
  obtain ⟨a1,h1⟩:=Prod.mk.inj h1
  obtain ⟨a2,h1⟩:=Prod.mk.inj h1
  obtain ⟨b1,b2⟩:=Prod.mk.inj h1
  obtain ⟨al,h2⟩:=Prod.mk.inj h2
  obtain ⟨c1,c2⟩:=Prod.mk.inj h2
  refine kk ?_
  clear kk GG
  exact ⟨e,he,⟨g1,g2,⟨a1,a2⟩,⟨b1,b2⟩,al,⟨c1,c2⟩,h3,h4,h5⟩⟩
theorem abs_same {T T':BT} {m m':Nat} {life life':Life} {b:Addr} (h:T'.get b=T.get b) (hm:b < m) (hm':b < m'):(absHeap T' m' life').get? b=(absHeap T m life).get? b:=by
  unfold Heap.get?
  rw [absHeap_at,absHeap_at,if_pos hm,if_pos hm',h]
theorem alive_at {T:BT} {life:Life} {n m:Nat}:allAlive T n=true→n≤m→∀ b,b < n→∃ o,(absHeap T m life).objs[b]?=some o∧(absHeap T m life).get? b=some o:=by
  induction n with
  | zero=>exact fun _ _ _ h=>absurd h (Nat.not_lt_zero _)
  | succ n ih =>
    intro h hm b hb
    refine anE (Bool.and_eq_true_iff.mp h) fun h1 h2=>?_
    rcases Nat.lt_or_eq_of_le (Nat.le_of_lt_succ hb) with q | q
    · exact ih h2 (Nat.le_of_succ_le hm) b q
    · rw [← q] at h1
      cases hT:T.get b with
      | none=>rw [hT] at h1; exact nomatch h1
      | some o =>
        have e:(absHeap T m life).objs[b]?=some o:=by rw [absHeap_at,if_pos (Nat.lt_of_lt_of_le hb hm),hT]; rfl
        exact ⟨o,e,(Heap.get?_eq_some _ _ _).mpr ⟨e,by rw [hT] at h1; exact h1⟩⟩
theorem get_objs {h:Heap} {b:Addr} {o:Obj} (e:h.get? b=some o):h.objs[b]?=some o:=((Heap.get?_eq_some _ _ _).mp e).1
theorem in_top (q:Pos):(Ctx.of cE [topFrame q]).In { depth:=100000,units:=100000 }:=by
  refine ⟨rfl,?_,?_,?_,?_⟩
  · show frameCount [(Code.builtin "claim.caller" {},q)]+cE.weight≤100000
    rw [frameCount_cons]
    have e1:(Code.builtin "claim.caller" {}).weight≤1000:=by decide +kernel
    have e2:cE.weight≤10:=by
      have:(Code.body [] default).weight≤10:=by decide +kernel
      exact this
    have e3:frameCount []=0:=rfl
    omega
  · intro l hl; exact nomatch hl
  · intro l hl; exact nomatch hl
  · show cE.cUnits+unitsOf [(Code.builtin "claim.caller" {},q)]≤100000
    rw [unitsOf_cons]
    have e1:(Code.builtin "claim.caller" {}).cUnits≤400:=by decide +kernel
    have e2:cE.cUnits≤5:=by
      have:(Code.body [] default).cUnits≤5:=by decide +kernel
      exact this
    have e3:unitsOf []=0:=rfl
    omega
end
theorem tableT:denote treeTable=denote table:=by rw [table_eq_tree]
theorem keeps_of {base:List Frame} {n m k m' k':Nat} {T T':BT} {cur:Sem Fin} {c:Code} {q:Pos} {f:Flow} {life life':Life} {b:Addr} (hb:b < 28) (h2:b≠2) (h3:b≠3) (hm:28≤m)
    (h:rk (denote treeTable) P w base n T m k cur c q []=some (f,T',m',k')):(absHeap T' m' life').get? b=(absHeap T m life).get? b:=by
  rw [tableT] at h
  obtain ⟨e,l⟩:=rk_keeps hb h2 h3 hm h
  exact abs_same e (Nat.lt_of_lt_of_le hb hm) (Nat.lt_of_lt_of_le (Nat.lt_of_lt_of_le hb hm) l)
theorem run_heap {h':Heap} {T T1:BT} {life:Life} (hT:toB? (gObjs fun i=>(h'.objs[i]?).getD default) T 100=some T1) (hal:allAlive T 100=true) (hsz:h'.objs.size=139) (hl:h'.life=life)
    (hold:∀ b,b < 100→h'.get? b=(absHeap T 100 life).get? b):h'=absHeap T1 139 life:=by
  have e:=toB_abs (life:=life) hT
  rw [show 100+(gObjs fun i=>(h'.objs[i]?).getD default).length=139 by simp [gObjs]] at e
  rw [e]
  obtain ⟨objs,lf⟩:=h'
  simp only at hsz hl hold ⊢
  subst hl
  have:objs=((absHeap T 100 lf).objs.toList++gObjs fun i=>(objs[i]?).getD default).toArray:=by
    apply Array.ext_getElem?
    intro i
    have hs100:(absHeap T 100 lf).objs.toList.length=100:=by rw [Array.length_toList,absHeap_size]
    have eR:∀ l:List Obj,l.toArray[i]?=l[i]?:=fun l=>by simp
    rw [eR ((absHeap T 100 lf).objs.toList++_)]
    by_cases h1:i < 100
    · rw [List.getElem?_append_left (by rw [hs100]; exact h1),Array.getElem?_toList]
      obtain ⟨o,a1,a2⟩:=alive_at (life:=lf) (n:=100) (m:=100) hal (Nat.le_refl _) i h1
      rw [a1]
      exact get_objs ((hold i h1).trans a2)
    · rw [List.getElem?_append_right (l₁:=(absHeap T 100 lf).objs.toList) (by rw [hs100]; omega),hs100]
      unfold gObjs
      rw [List.getElem?_map]
      by_cases h2:i < 139
      · rw [List.getElem?_range' (by omega)]
        simp only [Option.map_some]
        rw [show 100+1 * (i - 100)=i by omega]
        rw [Array.getElem?_eq_getElem (by omega)]
        rfl
      · rw [List.getElem?_eq_none (by simp; omega),Array.getElem?_eq_none (by omega)]
        rfl
  rw [← this]
section
variable {M:Model} {Γ:Ctx} {α β:Type} {Q:β→Pos→Shared→Prop} {E:Value→Pos→Shared→Prop} {q:Pos} {s:Shared}
theorem wpT_eq {x y:Sem β} (e:x=y) (h:Sem.wp M Γ y Q E q s):Sem.wp M Γ x Q E q s:=e ▸ h
theorem wpT_bind {x:Sem α} {f:α→Sem β} {Q1:α→Pos→Shared→Prop} (h:Sem.wp M Γ x Q1 (fun _ _ _=>False) q s) (k:∀ a q s,Q1 a q s→Sem.wp M Γ (f a) Q E q s):Sem.wp M Γ (x >>= f) Q E q s:=by
  rw [Sem.wp_bind']
  exact Sem.wp_mono _ _ _ k (fun _ _ _ x=>x.elim) _ _ h
theorem wpT_at {p:Pos} {f:Unit→Sem β} (h:Sem.wp M Γ (f ()) Q E p s):Sem.wp M Γ (standAt p >>= f) Q E q s:=by
  rw [Sem.wp_bind',Sem.wp_cmd_standAt]
  exact h
end
section
variable {w:World} {s₀:Shared}
inductive DispEnd (w:World) (T:BT) (life:Life) (d:Drawn) (os:OsState) (kvs:List (Int × Str)) (v:Value) (s':Shared):Prop
  | mk (c:Nat) (V:List (Int × Value)) (h':Heap) (x1:kvs.length≤17 * c) (x2:17 * c < kvs.length+17) (x3:Told kvs V) (x4:h'.DictOf (kn P w) 100 V) (x5:h'.objs.size=100+c) (x6:∀ b,b < 100→h'.get? b=(absHeap T 100 life).get? b) (x7:v=.ref 100) (x8:s'=⟨h',#[],d,430+3 * kvs.length,os⟩)
theorem disp_wp {kvs:List (Int × Str)} {pos q0:Pos} {T:BT} {life:Life} {d:Drawn} {os:OsState} (X:Sem Value) (hX:dictDisplay (kvs.map (item pos))=X) (hnd:(kvs.map (·.1)).Nodup) (hlen:kvs.length=650) :
    Sem.wp (model P w) (Ctx.of cE [topFrame q0]) X (fun v _ s'=>DispEnd w T life d os kvs v s'∧s'.heap.life=life) (fun _ _ _=>False) pos (shr T 100 life d 430 os):=by
  subst hX
  have D:wpAny (model P w) { depth:=100000,units:=100000 } (dictDisplay (kvs.map (item pos))) (DispEnd w T life d os kvs) NoE (shr T 100 life d 430 os):=by
    refine display (by rw [absHeap_size]; decide) (by rintro rfl; cases hlen) hnd (by rw [hlen]; decide) ?_
    intro c V h' x1 x2 x3 x4 x5 x6
    rw [absHeap_size] at x4 x5 x6 ⊢
    exact ⟨c,V,h',x1,x2,x3,x4,x5,x6,rfl,rfl⟩
  exact wp_life (D _ pos (in_top q0))
structure EndsAt (w:World) (s₀:Shared) (a:Flow × BT × Nat × Nat) (g:Nat→Obj) (q0 q2:Pos) (e:Ends):Prop where
  he:ends w g q0 q0 q2=some e
  seen:Seen w g e
  s:e.s=s₀
  a:e.a=a
theorem EndsAt.rb {a g q0 q2 e} (x:EndsAt w s₀ a g q0 q2 e):rk (denote table) P w [topFrame q0] 2500 a.2.1 32 282 (semB >>= fun f=>(pure (.done (id f)):Sem Fin)) cE q0 []=some e.b:=by
  have h:=(ends_parts x.he).2.2.2.1
  unfold runB at h
  have ha:=x.seen.a.2
  rw [x.a] at h ha
  rw [tableT,ha] at h
  dsimp only at h
  exact h
theorem EndsAt.rc {a g q0 q2 e} (x:EndsAt w s₀ a g q0 q2 e):rk (denote table) P w [topFrame q0] 2500 e.T1 139 2380 (semC >>= fun f=>(pure (.done (id f)):Sem Fin)) cE q2 []=some e.c:=by
  have h:=(ends_parts x.he).2.2.2.2.2
  unfold runC at h
  rw [tableT] at h
  exact h
theorem EndsAt.eb {a g q0 q2 e} (x:EndsAt w s₀ a g q0 q2 e):e.b=(.next,e.b.2.1,100,430):=Prod.ext x.seen.b.1 (Prod.ext rfl x.seen.b.2)
theorem EndsAt.ec {a g q0 q2 e} (x:EndsAt w s₀ a g q0 q2 e):e.c=(.next,e.c.2.1,390,2764):=Prod.ext x.seen.c.1 (Prod.ext rfl x.seen.c.2)
theorem EndsAt.wb {a g q0 q2 e} (x:EndsAt w s₀ a g q0 q2 e):Sem.wp (model P w) (Ctx.of cE [topFrame q0]) semB (fun f _ s'=>f=.next∧s'=shr e.b.2.1 100 s₀.heap.life s₀.drawn 430 s₀.os) (fun _ _ _=>False) q0 (shr a.2.1 32 s₀.heap.life s₀.drawn 282 s₀.os) :=
  rk_wpG id (x.rb.trans (congrArg some x.eb))
theorem EndsAt.wc {a g q0 q2 e} (x:EndsAt w s₀ a g q0 q2 e):Sem.wp (model P w) (Ctx.of cE [topFrame q0]) semC (fun f _ s'=>f=.next∧s'=shr e.c.2.1 390 s₀.heap.life s₀.drawn 2764 s₀.os) (fun _ _ _=>False) q2 (shr e.T1 139 s₀.heap.life s₀.drawn 2380 s₀.os) :=
  rk_wpG id (x.rc.trans (congrArg some x.ec))
theorem EndsAt.kb {a g q0 q2 e} (x:EndsAt w s₀ a g q0 q2 e) {life:Life} {b:Addr} (hb:b < 28) (h2:b≠2) (h3:b≠3):(absHeap e.b.2.1 100 life).get? b=(absHeap a.2.1 32 life).get? b :=
  keeps_of (m:=32) hb h2 h3 (by decide) (by rw [tableT]; exact x.rb.trans (congrArg some x.eb))
theorem EndsAt.kc {a g q0 q2 e} (x:EndsAt w s₀ a g q0 q2 e) {life:Life} {b:Addr} (hb:b < 28) (h2:b≠2) (h3:b≠3):(absHeap e.c.2.1 390 life).get? b=(absHeap e.T1 139 life).get? b :=
  keeps_of (m:=139) hb h2 h3 (by decide) (by rw [tableT]; exact x.rc.trans (congrArg some x.ec))
inductive BodyEnd (w:World) (s₀:Shared) (a:Flow × BT × Nat × Nat) (q0:Pos) (s':Shared):Prop
  | mk (g:Nat→Obj) (q2:Pos) (e:Ends) (V:List (Int × Value)) (x:EndsAt w s₀ a g q0 q2 e) (hs:s'=shr e.c.2.1 390 s₀.heap.life s₀.drawn 2764 s₀.os) (hT:Told kvs12 V) (hd:∀ h:Heap,h.get? 100=some (g 100)→h.DictOf (kn P w) 100 V) (ha:alive (g 100)=some (g 100))
theorem alive_of_get {h:Heap} {b:Addr} {o:Obj} (e:h.get? b=some o):alive o=some o:=by
  have x:=((Heap.get?_eq_some _ _ _).mp e).2
  unfold Obj.alive at x
  obtain ⟨c,d,dt,sl⟩:=o
  cases dt <;> first | rfl | exact absurd x Bool.false_ne_true
theorem DictOf.at {h h':Heap} {V:List (Int × Value)} {b:Addr} {o:Obj} (hd:h.DictOf (kn P w) b V) (e:h.get? b=some o) (e':h'.get? b=some o):h'.DictOf (kn P w) b V:=DictOf.same hd (e'.trans e.symm)
theorem thenN_next {m:Sem Flow}:thenN m .next=m:=rfl
theorem bodyRun {q0:Pos} {a:Flow × BT × Nat × Nat} (hE:∀ (g:Nat→Obj) (q2:Pos),∃ e,EndsAt w s₀ a g q0 q2 e) :
    Sem.wp (model P w) (Ctx.of cE [topFrame q0]) (blockStart body envT >>= fun _=>execs body envT) (fun f _ s'=>f=.next∧BodyEnd w s₀ a q0 s'∧∀ b,b < 28→b≠2→b≠3→s'.heap.get? b=(absHeap a.2.1 32 s₀.heap.life).get? b) (fun _ _ _=>False) q0 (shr a.2.1 32 s₀.heap.life s₀.drawn 282 s₀.os):=by
  refine exE (hE (fun _=>default) default) fun e X0=>wpT_eq semB_eq (wpT_bind X0.wb fun f q s2 hh=>?_)
  obtain ⟨rfl,rfl⟩:=hh
  rw [thenN_next.trans st12_exec]
  refine genE (dictDisplay (kvs12.map (item dp12))) fun X hX=>?_
  refine wpT_at (wpT_at (wpT_bind (disp_wp X hX kvs12_nodup kvs12_len) fun v q' s3 hh=>?_))
  refine anE hh fun D hl=>?_
  cases D with
  | mk c V h' x1 x2 x3 x4 x5 x6 x7 x8 =>
  subst x7 x8
  rw [kvs12_len] at x1 x2
  have hc:c=39:=by omega
  subst hc
  refine exE (hE (fun i=>(h'.objs[i]?).getD default) q') fun e2 X2=>?_
  have hbb:e2.b=e.b:=Option.some.inj (X2.rb.symm.trans X0.rb)
  have hh':=run_heap (hbb ▸ (ends_parts X2.he).2.2.2.2.1) X0.seen.alive x5 hl x6
  have es:(⟨h',#[],s₀.drawn,430+3 * kvs12.length,s₀.os⟩:Shared)=shr e2.T1 139 s₀.heap.life s₀.drawn 2380 s₀.os:=by rw [hh',kvs12_len]
  refine exE x4 fun o hD=>exE hD fun _ hD=>exE hD fun _ hD=>?_
  have hgo:(h'.objs[100]?).getD default=o:=by rw [get_objs hD.1]; rfl
  rw [es]
  refine Sem.wp_mono _ _ _ (fun f qb sb Wb=>⟨Wb.1,⟨_,q',e2,V,X2,Wb.2,x3,fun h hg=>DictOf.at x4 hD.1 (hg.trans (congrArg some hgo)),hgo ▸ alive_of_get hD.1⟩,fun b hb28 h2 h3=>?_⟩) (fun _ _ _ x=>x) _ _ X2.wc
  rw [Wb.2]
  exact (X2.kc hb28 h2 h3).trans ((hh' ▸ x6 b (Nat.lt_of_lt_of_le hb28 (by decide))).trans (X0.kb hb28 h2 h3))
end
section
variable {w:World} {s₀:Shared}
structure Ended (w:World) (s₀ s₁:Shared):Prop where
  heap:∃ a q0,BodyEnd w s₀ a q0 s₁
  old:∀ b o,b≠2→b≠3→s₀.heap.get? b=some o→s₁.heap.get? b=some o
theorem Shared.at0 {s:Shared} {T:BT} (hg:s.gens=#[]) (hT:absHeap T 28 s.heap.life=s.heap):s=shr T 28 s.heap.life s.drawn s.toks s.os:=by
  show s=⟨absHeap T 28 s.heap.life,#[],s.drawn,s.toks,s.os⟩
  rw [hT,← hg]
theorem encP_next {c:Value × Addr} (h:encP c=.next):c=(.ref 30,31):=by
  unfold encP at h
  split at h
  · rename_i x; exact Prod.ext x.1 x.2
  · cases h
theorem ends_all (hS:fencedOpening treeTable P w 2000=some s₀) {e:Ends} {g0:Nat→Obj} {p0 p1 p2:Pos} (he:ends w g0 p0 p1 p2=some e) (g:Nat→Obj) (q0 q2:Pos):∃ e',EndsAt w s₀ e.a g q0 q2 e':=by
  refine exA (ends_seen w g q0 q0 q2) fun e' he' hse'=>?_
  have p:=ends_parts he
  have r:=ends_parts he'
  have hs:e.s=s₀:=Option.some.inj (p.1.symm.trans hS)
  have hs':e'.s=s₀:=Option.some.inj (r.1.symm.trans hS)
  have hT:e'.T0=e.T0:=Option.some.inj ((r.2.1.symm.trans (by rw [hs',hs])).trans p.2.1)
  exact ⟨e',he',hse',hs',Option.some.inj ((r.2.2.1.symm.trans (by rw [hs',hs,hT])).trans p.2.2.1)⟩
theorem top_body {q:Pos} {R:Flow→Pos→Shared→Prop} {s:Shared} (h:Sem.wp (model P w) (Ctx.of cE [topFrame q]) (blockStart body envT >>= fun _=>execs body envT) R (fun _ _ _=>False) q s) (Q:PySem.Fin→Pos→Shared→Prop) (E:Value→Pos→Shared→Prop)
    (hQ:∀ p s',R .next p s'→Q (.done (.ret .none)) q s') (hR:∀ f p s',R f p s'→f=.next) :
    Sem.wp (model P w) (Ctx.of (.builtin "claim.caller" {}) []) (run (.body body envT) >>= fun _=>(ret .none:Sem PySem.Fin)) Q E q s:=by
  rw [Sem.wp_bind',Sem.wp_run]
  have hcE:Code.body body envT=cE:=rfl
  rw [hcE,Ctx_enter,wpCode_iff_wp]
  show Sem.wp (model P w) (Ctx.of cE [topFrame q]) (denote table cE) _ _ _ _
  rw [den_body cE body envT rfl,Sem.wp_bind']
  rw [Sem.wp_bind'] at h
  refine Sem.wp_mono _ _ _ (fun _ p2' s2 h=>?_) (fun _ _ _ x=>x.elim) _ _ h
  rw [Sem.wp_bind',Sem.wp_onRaise]
  refine Sem.wp_mono _ _ _ (fun f p3' s3 hf=>?_) (fun _ _ _ x=>x.elim) _ _ h
  cases hR f p3' s3 hf
  rw [Sem.wp_pure',Sem.finPost]
  dsimp only
  rw [Sem.wp_cmd_ret]
  exact hQ _ _ hf
theorem top_wp (hS:fencedOpening treeTable P w 2000=some s₀) :
    Sem.wp (model P w) (Ctx.of (.builtin "claim.caller" {}) []) (topStub P).cur (fun fin _ s'=>∃ f,fin=.done f∧Ended w s₀ s'∧s'.gens=#[]) (fun _ _ _=>False) default s₀:=by
  refine exA (ends_seen w (fun _=>default) default default default) fun e he hse=>?_
  have p:=ends_parts he
  have hes:e.s=s₀:=Option.some.inj (p.1.symm.trans hS)
  have hsz:s₀.heap.objs.size=28:=hes ▸ hse.size
  have hT0:absHeap e.T0 28 s₀.heap.life=s₀.heap:=(congrArg (fun n=>absHeap e.T0 n s₀.heap.life) hsz).symm.trans (toB_heap (hes ▸ p.2.1))
  have hA:rk (denote table) P w [] 40 e.T0 28 s₀.toks (preS >>= fun a=>(pure (.done (encP a)):Sem PySem.Fin)) (.builtin "claim.caller" {}) default []=some (.next,e.a.2.1,32,282):=by
    have:=p.2.2.1
    unfold runA at this
    rw [tableT,hes,hsz] at this
    exact this.trans (congrArg some (Prod.ext hse.a.1 (Prod.ext rfl hse.a.2)))
  refine wpT_eq semTop ?_
  have WA:=rk_wpG (life:=s₀.heap.life) (d:=s₀.drawn) (os:=s₀.os) encP hA
  rw [← Shared.at0 (hes ▸ Array.eq_empty_of_size_eq_zero hse.gens) hT0] at WA
  refine wpT_bind WA fun c p1 s1 hh=>?_
  rw [encP_next hh.1,hh.2]
  refine top_body (bodyRun fun g q2=>ends_all hS he g p1 q2) _ _ (fun q s' hf=>⟨_,rfl,⟨⟨_,_,hf.2.1⟩,fun b o h2 h3 ho=>?_⟩,?_⟩) fun f q s' hf=>hf.1
  · have hb:b < 28:=hsz ▸ Heap.lt_size ho
    refine (hf.2.2 b hb h2 h3).trans ((keeps_of (life:=s₀.heap.life) (m:=28) hb h2 h3 (by decide) (by rw [tableT]; exact hA)).trans ?_)
    rw [hT0]; exact ho
  · induction hf.2.1 with
    | mk _ _ _ _ _ hs=>rw [hs]
theorem top_ran (hS:fencedOpening treeTable P w 2000=some s₀) (hz:s₀.asleep) :
    ∃ s₁,(∃ n t',schedN (denote table) P w n (.single s₀ (topStub P))=.running (.single s₁ t')∧through t'=true)∧Ended w s₀ s₁ :=
  ran_of_wp hz (top_wp hS)
end
structure WF (w:World) (h:Heap):Prop where
  main:∃ mg,h.Ns mainNs mg∧lookNames.map mg=lookVals
  blt:∃ mb,h.Ns builtinsNs mb∧∀ x:Str,x≠"__name__"→mb x=bootBuiltins x
  lim:∃ mc,h.Ns cStatics mc∧mc "sys.recursionlimit"=none∧mc "sys.int_max_str_digits"=none
  nss:∀ a,(a,true)∈[((40:Nat),true),(49,true),(58,true),(67,true),(288,true)]→∃ m,h.Ns a m∧∀ k v,((a,k),v)∈lookNs.zip lookNsVals→m k=v
  objs:∀ a o,(a,some o)∈lookAts.zip (lookObjs w)→h.get? a=some o
  b3:∃ V,Told kvs12 V∧h.DictOf (kn P w) 100 V
  size:390≤h.objs.size
  bmod:∃ mg,h.Ns mainNs mg∧h.BuiltinsAt mg 376
theorem zip_map_get {α β:Type} {f:α→β} {l:List α} {vs:List β} (e:l.map f=vs) {a:α} {b:β} (h:(a,b)∈l.zip vs):f a=b:=by
  subst e
  obtain ⟨i,hi,he⟩:=List.getElem_of_mem h
  simp only [List.getElem_zip,List.getElem_map,Prod.mk.injEq] at he
  obtain ⟨h1,h2⟩:=he
  rw [← h1,h2]
theorem atsLow:(lookAts.all fun a=>decide (a < 390))=true:=by decide +kernel
theorem objsAlive (w:World):((lookObjs w).all fun o=>match o with | some ⟨_,_,.freed,_⟩=>false | some _=>true | none=>false)=true:=by rfl
section
variable {w:World} {s₀ s₁:Shared}
theorem flag_at {l:List Bool} {n i:Nat} (e:l=List.replicate n true) {b:Bool} (h:l[i]?=some b):b=true:=by
  subst e
  rw [List.getElem?_replicate] at h
  split at h
  · exact (Option.some.inj h).symm
  · cases h
structure TopFlags (s₀ s₁:Shared):Prop where
  ns0:s₀.heap.isNs mainGlobals=true
  statics:staticsOk (importedModules P.main.body) s₀.heap s₁.heap=true
  names:namesBound P s₁.heap=true
  laid:laidKept s₀.heap s₁.heap=true
  acc:s₁.heap.accountedOkI (importedModules P.main.body)=true
  ns:s₁.heap.isNs mainGlobals=true
  nsb:s₁.heap.isNs builtinsNs=true
  bmain:s₁.heap.bmainOk=true
  blt:s₁.heap.bltView=bltViewBooted
  gens:s₁.gens=#[]
  life:s₁.heap.life=s₀.heap.life
  os:s₁.os=s₀.os
theorem flags_of (E:Ended w s₀ s₁):TopFlags s₀ s₁:=by
  refine exE E.heap fun a h=>exE h fun q0 h=>?_
  cases h with
  | mk g q2 e V X hs hT hd ha =>
  subst hs
  have f:=X.seen.flags
  rw [X.s] at f
  exact ⟨flag_at f (i:=0) rfl,flag_at f (i:=1) rfl,flag_at f (i:=2) rfl,flag_at f (i:=3) rfl,flag_at f (i:=4) rfl,flag_at f (i:=5) rfl,flag_at f (i:=6) rfl,flag_at f (i:=7) rfl,(Prod.mk.inj X.seen.looks).1,rfl,rfl,rfl⟩
theorem alive_lk {o:Obj} (h:(match some o with | some ⟨_,_,.freed,_⟩=>false | some _=>true | none=>false)=true):alive o=some o:=by
  obtain ⟨c,d,dt,sl⟩:=o
  cases dt <;> first | rfl | exact absurd h Bool.false_ne_true
theorem abs_bmod {T:BT} {life:Life} (hb:(absHeap T 390 life).bmainOk=true) {mg:Str→Option Value} (hg:(absHeap T 390 life).Ns mainGlobals mg) (hm:mg=(absHeap T 390 life).nsMap mainGlobals) (h3:(absHeap T 390 life).get? 376=some ({ cls:=.none,data:=.fields #[] }:Obj)) :
    ∃ mg,(absHeap T 390 life).Ns mainNs mg∧(absHeap T 390 life).BuiltinsAt mg 376:=by
  generalize absHeap T 390 life=h at *
  subst hm
  obtain ⟨bm,ob,a,b,c,d,h1,h2⟩:=Heap.bmainOk_spec hb
  refine ⟨_,hg,bm,ob,a,b,fun q=>?_,fun q=>?_,c,d,h1,h2⟩
  · obtain ⟨o,es,ep,e1,e2,_⟩:=hg
    rw [q,e1] at c; cases c; rw [h2] at e2; cases e2
  · rw [q,h3] at c; cases c; cases h2
theorem wf_of (E:Ended w s₀ s₁):WF w s₁.heap:=by
  refine exE E.heap fun a h=>exE h fun q0 h=>?_
  cases h with
  | mk g q2 e V X hs hT hd ha =>
  subst hs
  have f:=X.seen.flags
  refine anE (Prod.mk.inj X.seen.looks) fun l1 L=>anE (Prod.mk.inj L) fun l2 L=>anE (Prod.mk.inj L) fun l3 L=>anE (Prod.mk.inj L) fun l4 l5=>?_
  have ns:∀ a,(absHeap e.c.2.1 390 {}).isNs a=true→(absHeap e.c.2.1 390 s₀.heap.life).Ns a ((absHeap e.c.2.1 390 {}).nsMap a):=fun a h=>Heap.Ns.of_isNs (h:=absHeap e.c.2.1 390 s₀.heap.life) h
  have n5:=ns _ (flag_at f (i:=5) rfl)
  have ob:∀ a o,(a,some o)∈lookAts.zip (lookObjs w)→(absHeap e.c.2.1 390 s₀.heap.life).get? a=some o:=fun a o h =>
    (abs_get (of_decide_eq_true (List.all_eq_true.mp atsLow a (List.of_mem_zip h).1)) (zip_map_get (f:=e.c.2.1.get) l5 h)).trans (alive_lk (List.all_eq_true.mp (objsAlive w) _ (List.of_mem_zip h).2))
  have nsM:∀ {a},(absHeap e.c.2.1 390 {}).isNs a=true→∃ m,(absHeap e.c.2.1 390 s₀.heap.life).Ns a m∧∀ k v,((a,k),v)∈lookNs.zip lookNsVals→m k=v:=fun {a} h=>⟨_,ns a h,fun k v hk=>zip_map_get (f:=fun x:Addr × Str=>(absHeap e.c.2.1 390 {}).nsMap x.1 x.2) l4 hk⟩
  have nss:∀ p∈[((40:Nat),true),(49,true),(58,true),(67,true),(288,true)],∃ m,(absHeap e.c.2.1 390 s₀.heap.life).Ns p.1 m∧∀ k v,((p.1,k),v)∈lookNs.zip lookNsVals→m k=v :=
    List.forall_mem_cons.mpr ⟨nsM (flag_at f (i:=9) rfl),List.forall_mem_cons.mpr ⟨nsM (flag_at f (i:=10) rfl),List.forall_mem_cons.mpr ⟨nsM (flag_at f (i:=11) rfl),List.forall_mem_cons.mpr ⟨nsM (flag_at f (i:=12) rfl),List.forall_mem_cons.mpr ⟨nsM (flag_at f (i:=13) rfl),fun _ h=>absurd h List.not_mem_nil⟩⟩⟩⟩⟩
  refine ⟨⟨_,n5,l2⟩,⟨_,ns _ (flag_at f (i:=6) rfl),fun x hx=>Heap.of_bltView (flag_at f (i:=6) rfl) l1 x hx⟩,⟨_,ns _ (flag_at f (i:=8) rfl),(List.cons.inj l3).1,(List.cons.inj (List.cons.inj l3).2).1⟩,fun a ha=>nss (a,true) ha,ob,⟨V,hT,hd _ ((abs_get (by decide) X.seen.b3).trans ha)⟩,?_,abs_bmod (flag_at f (i:=7) rfl) n5 rfl (ob 376 _ (List.mem_of_getElem? (i:=65) rfl))⟩
  · exact Nat.le_of_eq (absHeap_size ..).symm
end
noncomputable def LawRuns:Prop:=∀ (w:World) (s:Shared) (l:Addr) (vs:List Value) (xs:List Int),WF w s.heap→s.gens=#[]→s.heap.IsList l vs.toArray→IntsAre vs xs→xs.length≤63→390≤l →
  wpAny (model P w) callerA (call (.ref 389) [.ref l]) (fun v s'=>v=.bool true∧OldK s.heap s'.heap∧s'.os=s.os∧s'.gens=#[]) (fun _ _=>False) s
noncomputable abbrev rwO:OpenRow:=PySem.Challenge.rw_uk0031_01.row
theorem theDef_law:P.theDef "law"=some (parsAt (stAt 36),bodyAt (stAt 36),scopeAt (stAt 36)):=by kernel_rfl
theorem law_fd:fd389.name="law"∧fd389.qualname="law":=by constructor <;> kernel_rfl
theorem law_pars:(parsAt (stAt 36)).defaults=[]∧kwWritten? (parsAt (stAt 36)).kwonlyargs (parsAt (stAt 36)).kw_defaults=some []:=by constructor <;> kernel_rfl
theorem WF.name {w:World} {h:Heap} (W:WF w h):∃ mg,h.Ns mainNs mg∧∀ n v,(n,v)∈lookNames.zip lookVals→mg n=v :=
  let ⟨mg,h1,h2⟩:=W.main; ⟨mg,h1,fun _ _ h=>zip_map_get h2 h⟩
theorem law_name:(("law":Str),some (Value.ref 389))∈lookNames.zip lookVals:=by
  have:(lookNames.zip lookVals).contains (("law":Str),some (Value.ref 389))=true:=by decide +kernel
  exact List.contains_iff_mem.mp this
theorem mem_pick {α:Type} {l:List α} {i:Nat} {a:α} (h:l[i]?=some a):a∈l:=List.mem_of_getElem? h
theorem law_obj (w:World):((389:Nat),some ({ cls:=.type "function",data:=.func fd389 }:Obj))∈lookAts.zip (lookObjs w):=mem_pick (i:=54) rfl
theorem the_defs {w:World} {s₀ s₁:Shared} (E:Ended w s₀ s₁):isTheDefsW P s₁.heap "law":=by
  have W:=wf_of E
  have F:=flags_of E
  obtain ⟨mg,hg,hn⟩:=W.name
  refine ⟨389,_,fd389,_,_,_,?_,W.objs _ _ (law_obj w),rfl,theDef_law,law_fd.1,law_fd.2,rfl,rfl,rfl,rfl,rfl,rfl,.inl ⟨law_pars.1,rfl⟩,[],law_pars.2,.inl ⟨rfl,rfl⟩⟩
  rw [Pin.globalOf_eq F.ns]
  refine exE E.heap fun a h=>exE h fun q0 h=>?_
  induction h with
  | mk g q2 e V X hs hT hd ha =>
  rw [hs]
  exact zip_map_get (f:=(absHeap e.c.2.1 390 {}).nsMap mainGlobals) (Prod.mk.inj (Prod.mk.inj X.seen.looks).2).1 law_name
theorem top_is {w:World} {s₀ s₁:Shared} (R:∃ n t',schedN (denote table) P w n (.single s₀ (topStub P))=.running (.single s₁ t')∧through t'=true) (E:Ended w s₀ s₁):TopRan P w s₀ s₁:=by
  have F:=flags_of E
  refine hid fun GG kk=>?_
  obtain ⟨bm,ob,a,_,c,d,f,_⟩:=Heap.bmainOk_spec F.bmain
  refine kk ?_
  clear kk GG
  exact ⟨R,F.life,Shared.rest_eq F.os,fun b o hb hn=>E.old b o (fun q=>hn (.inr (.inl q))) (fun q=>hn (.inl q)) hb,
    Heap.accountedI_of_ok F.acc,statics_of_ok F.statics,Pin.keysAreStrs_of F.ns,fun x hx=>(Pin.builtinOf_eq F.nsb x).trans (Heap.of_bltView F.nsb F.blt x hx),⟨bm,ob,(Pin.globalOf_eq F.ns _).trans a,c,d,f⟩,
    fun g hg=>(by rw [F.gens] at hg; exact absurd hg (by simp)),names_of_bound F.names,laid_of_kept F.laid⟩
theorem WF.keeps {w:World} {h h':Heap} (W:WF w h) (hk:∀ b o,h.get? b=some o→h'.get? b=some o) (hs:h.objs.size≤h'.objs.size):WF w h':=by
  refine ⟨?_,?_,?_,fun a ha=>?_,fun a o hm=>hk _ _ (W.objs a o hm),?_,Nat.le_trans W.size hs,?_⟩
  · obtain ⟨m,h1,h2⟩:=W.main; exact ⟨m,h1.keeps hk,h2⟩
  · obtain ⟨m,h1,h2⟩:=W.blt; exact ⟨m,h1.keeps hk,h2⟩
  · obtain ⟨m,h1,h2⟩:=W.lim; exact ⟨m,h1.keeps hk,h2⟩
  · obtain ⟨m,h1,h2⟩:=W.nss a ha; exact ⟨m,h1.keeps hk,h2⟩
  · obtain ⟨V,h1,o,es,ep,ho,r⟩:=W.b3
    exact ⟨V,h1,o,es,ep,hk _ _ ho,r⟩
  · obtain ⟨m,h1,bm,o,a1,a2,a3,a4,a5,a6⟩:=W.bmod
    exact ⟨m,h1.keeps hk,bm,o,a1,a2,a3,a4,hk _ _ a5,a6⟩
section
variable {R:WRecords} {cl:Str→Option Addr} {h:Heap}
theorem has_int {v:Value} {d:WData} {as:List Addr} (r:ReadsW R cl h v d as):WShape.has R d .int=true→∃ i t,v=.int i t∧d=.int i:=by
  cases r with
  | int i t=>exact fun _=>⟨i,t,rfl,rfl⟩
  | _=>exact fun q=>absurd q Bool.false_ne_true
theorem has_ints {xs:List WData}:∀ {vs:List Value} {as:List Addr},ReadsAllW R cl h vs xs as→WShape.hasItems R xs .int=true→∃ ns:List Int,xs=ns.map WData.int∧IntsAre vs ns:=by
  induction xs with
  | nil=>exact fun r _=>match r with | .nil=>⟨[],rfl,.nil⟩
  | cons x xs ih=>exact fun r q=>match r with
    | .cons r1 r2=>exE (has_int r1 (Bool.and_eq_true_iff.mp q).1) fun i e=>exA e fun t e1 e2=>exA (ih r2 (Bool.and_eq_true_iff.mp q).2) fun ns e3 a=>⟨i::ns,congr (congrArg List.cons e2) e3,e1 ▸ .cons i t a⟩
theorem has_list {v:Value} {d:WData} {as:List Addr} (r:ReadsW R cl h v d as):WShape.has R d (.list .int)=true→∃ (l:Addr) (items:List Value) (xs:List Int),v=.ref l∧d=.list (xs.map WData.int)∧h.IsList l items.toArray∧IntsAre items xs∧l∈as:=by
  cases r with
  | @list a o its n xs as ho hc hd ha=>exact fun q=>exA (has_ints ha ((Bool.or_false _).symm.trans q)) fun ns e hI=>⟨a,its.toList,ns,rfl,congrArg _ e,⟨o,ho,hc,n,hd⟩,hI,.head _⟩
  | _=>exact fun q=>absurd q Bool.false_ne_true
theorem args_are {vs:List Value} {args:List WData} {as:List Addr} (hh:WShape.hasAll R args [.list .int]=true) (hr:ReadsAllW R cl h vs args as) :
    ∃ (l:Addr) (items:List Value) (xs:List Int),vs=[.ref l]∧args=[.list (xs.map WData.int)]∧h.IsList l items.toArray∧IntsAre items xs∧l∈as:=by
  cases hr with
  | nil=>exact absurd hh Bool.false_ne_true
  | cons r1 r2 =>
    have q:=Bool.and_eq_true_iff.mp hh
    refine exE (has_list r1 q.1) fun l e=>exE e fun its e=>exE e fun xs e=>?_
    cases r2 with
    | nil=>exact ⟨l,its,xs,congrArg (fun x=>[x]) e.1,congrArg (fun x=>[x]) e.2.1,e.2.2.1,e.2.2.2.1,List.mem_append_left _ e.2.2.2.2⟩
    | cons=>exact absurd q.2 Bool.false_ne_true
end
end Mine
end
section
open PySem PySem.W PyProof.Rows
set_option maxRecDepth 100000
set_option maxHeartbeats 0
namespace Mine
noncomputable abbrev rwC:ClaimW:=rwO.toRowW.claim
theorem rw_name:rwO.name="law":=rfl
theorem pre_len {xs:List Int} (h:rwO.pre.holds rwO.records { args:=[.list (xs.map WData.int)] }=true):xs.length≤63:=by
  have h:WTm.holds rwO.records (.and (.not (.lit (.bool (decide ((63:Int) < ((xs.map WData.int).length:Int)))))) (.lit (.bool true))) { args:=[.list (xs.map WData.int)] }=true:=h
  cases hd:decide ((63:Int) < ((xs.map WData.int).length:Int)) with
  | true=>rw [hd] at h; exact absurd h Bool.false_ne_true
  | false=>exact List.length_map (as:=xs) WData.int ▸ Int.ofNat_le.mp (Int.not_lt.mp (of_decide_eq_false hd))
theorem post_true (args ds:List WData):rwC.post args (.bool true) ds=true:=by
  show (WShape.has rwO.records (.bool true) rwO.returns && rwO.post.holds rwO.records { args:=args,res:=some (.bool true),after:=ds })=true
  have e1:rwO.returns=.bool:=rfl
  have e2:rwO.post=.eq .res (.lit (.bool true)):=rfl
  rw [e1,e2]
  kernel_rfl
theorem rw_said:rwO.toRowW.promised:=⟨[.list [.int 3]],by decide +kernel,by decide +kernel⟩
theorem rw_frees:(frees rwO.toRowW && rwO.within.isEmpty)=true:=by decide +kernel
theorem rw_opens:opensWell P=true:=by decide +kernel
theorem rw_bare:P.bare:=⟨rfl,rfl,rfl,rfl,rfl,by decide +kernel⟩
theorem assemble_call (R:LawRuns) {w:World} {s₀ s:Shared} (hz:s.asleep) (E:Ended w s₀ s) (kept:Heap→Prop) (hkept:∀ h,kept h) (free:Addr→Prop) (gens:Prop) :
    rwC.CallFrom (callStub rwO.name) w free gens kept s:=by
  have F:=flags_of E
  have W:=wf_of E
  refine ClaimW.callFrom_of_specG (c:=rwC) (tree:=fun vs=>do match ← nsGet mainNs rwO.name with
      | some f=>do ret (← PySem.call f vs)
      | none=>unsupported "claim.caller:no-such-global") hz F.gens fun args hpre hlay ord hord=>?_
  refine hid fun GG kk=>?_
  obtain ⟨p1,p2⟩:=pre_splitW (r:=rwO.toRowW) hpre
  obtain ⟨⟨vs,s₁⟩,hlaid⟩:=Option.isSome_iff_exists.mp (layAllW_isSome (P:=w.params) (ord:=ord) (R:=rwO.records) (cl:=classAt s.heap) (fun c hc=>by cases hc) args rwO.args s p1)
  have keeps:=layAllW_keeps _ _ _ hlaid
  have hal:=layAllW_rest _ _ _ hlaid
  obtain ⟨as,hrd,hin,hold⟩:=reads_layAllW hord _ _ _ hlaid hlay s₁.heap (fun _ _ e=>e)
  refine kk ?_
  clear kk GG
  have L:Laid rwO.records w s s₁ args vs as:=⟨⟨ord,hord,hlaid⟩,hrd,hin,hold,keeps,hal.1.trans F.gens,hal.2.2.1⟩
  obtain ⟨l,items,xs,rfl,rfl,hl,hI,hla⟩:=args_are p1 hrd
  have hlen:=pre_len p2
  have hlow:390≤l:=Nat.le_trans W.size (hin.2.2 l hla).1
  have hsz:s.heap.objs.size≤s₁.heap.objs.size:=hin.1
  have W1:=W.keeps keeps hsz
  refine hid fun GG kk=>?_
  obtain ⟨mg,hg,hn⟩:=W1.name
  have hf:=hn _ _ law_name
  have run:=R w s₁ l items xs W1 L.gens hl hI hlen hlow
  obtain ⟨hsame,hu,ha,hap,hm⟩:=frees_parts (Bool.and_eq_true_iff.mp rw_frees).1
  refine kk ?_
  clear kk GG
  have hi:=ident_freeW hu ha hap
  have hwi:rwC.within=[]:=List.isEmpty_iff.mp (Bool.and_eq_true_iff.mp rw_frees).2
  refine ⟨_,s₁,hlaid,wpAny_bind (wpAny_nsGet hg ?_)⟩
  rw [rw_name,hf]
  refine wpAny_bind (wpAny_mono run (fun v s' hv=>wpAny_pure ?_) fun _ _ x=>x.elim)
  obtain ⟨rfl,K,ho,hgn⟩:=hv
  have G:GoodWG rwC (classAt s.heap) (ExcName.means s.heap) [.list (xs.map WData.int)] s₁ (.ok (.ret (.bool true))) s' :=
    ⟨.inl ⟨.bool true,.bool true,[],rfl,fun _=>rfl,.bool true,post_true _ _,fun _=>⟨List.nodup_nil,fun a ha=>by cases ha⟩⟩,K,ho,AllBare.of_eq hgn⟩
  have z:=G.laid (c:=rwC) hsame hwi hi L
  exact ⟨_,rfl,z.1,z.2.1,z.2.2,hkept _⟩
theorem assemble (R:LawRuns) (said:rwO.wellSaid=true):rwO.Holds:=by
  refine ⟨said,rw_said,⟨rw_bare,rw_opens,rfl⟩,rw_said.imp fun a h=>⟨h.1,(Bool.and_eq_true_iff.mp h.2).1⟩,fun w=>?_⟩
  refine hid fun GG kk=>?_
  obtain ⟨e,he,hse⟩:=ends_seen w (fun _=>default) default default default
  obtain ⟨hS,_⟩:=ends_parts he
  refine kk ?_
  clear kk GG
  have hS':=hS
  unfold fencedOpening at hS'
  rw [← table_eq_tree] at hS'
  obtain ⟨s,h4,h5⟩:=Option.bind_eq_some_iff.mp hS'
  have A:=AfterImport.of_importEnds h4
  refine ⟨⟨s,A⟩,fun s' hs'=>?_⟩
  obtain rfl:s'=s:=AfterImport.unique hs' A
  have z:e.s.asleep:=Shared.asleep_of_life (fence_lifeW h5) A.life
  obtain ⟨s₁,hr,E⟩:=top_ran hS z
  have F:=flags_of E
  refine ⟨e.s,h5,Array.eq_empty_of_size_eq_zero hse.gens,s₁,top_is hr E,fun n hn=>?_,fun x hx=>absurd hx (by rw [show rwC.records=[] from rfl]; simp),fun x hx=>absurd hx (by rw [show rwC.records=[] from rfl]; simp),?_⟩
  · have:n="law":=by
      have e:(if rwO.pinned=true then [rwO.name] else [])=(["law"]:List Str):=rfl
      rw [e] at hn
      simpa using hn
    subst this
    exact the_defs E
  · exact assemble_call R (Shared.asleep_of_life F.life z) E _ (fun h q=>by cases q) _ _
theorem ws_self:OpenLaw.wellSaid=OpenLaw.wellSaid:=rfl
end Mine
name_quick wsQ for PySem.W.OpenLaw.wellSaid by Mine.ws_self
namespace Mine
theorem said:OpenLaw.wellSaid PySem.Challenge.rw_uk0031_01=true:=by
  rw [PySem.W.Fast.wsQ_eq]; kernel_rfl
theorem law_holds (R:LawRuns):PySem.Challenge.rw_uk0031_01.Holds:=holds_law said fun q=>assemble R q
end Mine
end
section
open PySem PySem.W PyProof.Rows PySem.SeqAt
set_option maxRecDepth 100000
set_option genSizeOf false
set_option genInjectivity false
namespace Mine
inductive Bi where
  | len | chr | ord | abs | min | max | sum | split | find | lower | upper | join | index | append | insert | extend | dget | search
inductive Ty where
  | list | str | typ
inductive V where
  | none
  | bool (b:Bool)
  | int (i:Int)
  | str (s:Str)
  | tup (l:List V)
  | lst (k:Nat)
  | ins (k:Nat)
  | glob (a:Addr)
  | bi (b:Bi)
  | ty (t:Ty)
  | kw0 (k:Nat)
  | scr (xs:List Int)
inductive Cl where
  | lst (xs:List V)
  | ins (v:V)
  | kw
noncomputable abbrev St:=List Cl
noncomputable abbrev X (α:Type):=St→Option (α × St)
noncomputable def X.pure {α:Type} (a:α):X α:=fun σ=>some (a,σ)
noncomputable def X.bind {α β:Type} (m:X α) (f:α→X β):X β:=fun σ=>match m σ with
  | some (a,σ')=>f a σ'
  | none=>none
noncomputable def X.fail {α:Type}:X α:=fun _=>none
noncomputable def X.of {α:Type} (o:Option α):X α:=fun σ=>match o with
  | some a=>some (a,σ)
  | none=>none
noncomputable def X.guard {α:Type} (b:Bool) (m:X α):X α:=fun σ=>match b with
  | true=>m σ
  | false=>none
theorem X.bind_some {α β:Type} {m:X α} {f:α→X β} {σ:St} {r:β × St} (h:X.bind m f σ=some r):∃ a σ',m σ=some (a,σ')∧f a σ'=some r:=by
  unfold X.bind at h
  split at h
  · rename_i a σ' e; exact ⟨a,σ',e,h⟩
  · cases h
inductive BOp where
  | add | sub | mul | fdiv | mod
inductive COp where
  | lt | le | gt | ge | eq | ne | is | isnot | isin | notin
inductive Pl where
  | loc (x:Nat) | cel (x:Nat)
inductive Tg where
  | nm (p:Pl) | tup (ps:List Pl)
inductive Mth where
  | bi (b:Bi) | get_all | add_header | conv | items
mutual
inductive CE where
  | lit (v:V)
  | var (p:Pl)
  | lst (es:List CE)
  | tup (es:List CE)
  | bin (op:BOp) (a b:CE)
  | neg (a:CE)
  | not (a:CE)
  | cmp (op:COp) (a b:CE)
  | and (a b c:Option CE)
  | or (a b:CE)
  | ite (t a b:CE)
  | call (f:CE) (args:List CE) (kw:List (Nat × CE))
  | meth (o:CE) (m:Mth) (args:List CE) (kw:List (Nat × CE))
  | attr (o:CE)
  | item (o i:CE)
  | slice (o:CE) (lo hi:Option CE)
  | rev (o:CE)
  | comp (fr:List Nat) (elt:CE) (gens:List Gen)
  | newHeaders
  | lenSet (e:CE)
  | sortBy (fr:List Nat) (e:CE) (x:Pl) (key:CE)
inductive Gen where
  | mk (t:Tg) (it:It) (ifs:List CE)
inductive It where
  | of (e:CE) | range (es:List CE) | enum (e:CE) | items (e:CE)
end
inductive CS where
  | assign (t:Tg) (e:CE)
  | aug (x:Nat) (e:CE)
  | expr (e:CE)
  | ret (e:CE)
  | ifs (t:CE) (a b:List CS)
  | whil (t:CE) (b:List CS)
  | for (t:Tg) (it:It) (b:List CS)
  | assert (t:CE)
  | raise
inductive Fl where
  | next | ret (v:V)
structure EE where
  loc:List (Nat × V)
  cel:List (Nat × V)
  fn:Nat
noncomputable def lk:List (Nat × V)→Nat→Option V
  | [],_=>none
  | (y,v)::r,x=>match Nat.beq y x with
    | true=>some v
    | false=>lk r x
noncomputable def isIn (i:Nat):List Nat→Bool
  | []=>false
  | j::r=>match Nat.beq j i with
    | true=>true
    | false=>isIn i r
noncomputable def only (fr:List Nat):List (Nat × V)→List (Nat × V)
  | []=>[]
  | (i,v)::r=>match isIn i fr with
    | true=>(i,v)::only fr r
    | false=>only fr r
noncomputable def EE.get (e:EE):Pl→Option V
  | .loc x=>lk e.loc x
  | .cel x=>lk e.cel x
noncomputable def EE.set (e:EE) (v:V):Pl→EE
  | .loc x=>{ e with loc:=(x,v)::e.loc }
  | .cel x=>{ e with cel:=(x,v)::e.cel }
noncomputable def EE.setAll:EE→List Pl→List V→Option EE
  | e,[],[]=>some e
  | e,p::ps,v::vs=>(e.set v p).setAll ps vs
  | _,_,_=>none
noncomputable def clL (o:Option Cl):Option (List V):=o.bind fun c=>Cl.casesOn (motive:=fun _=>Option (List V)) c some (fun _=>none) none
noncomputable def clI (o:Option Cl):Option V:=o.bind fun c=>Cl.casesOn (motive:=fun _=>Option V) c (fun _=>none) some none
noncomputable def newLst (xs:List V):X V:=fun σ=>some (.lst σ.length,σ++[.lst xs])
noncomputable def getLst (k:Nat):X (List V):=fun σ=>(clL σ[k]?).map fun xs=>(xs,σ)
noncomputable def setLst (k:Nat) (xs:List V):X Unit:=fun σ=>(clL σ[k]?).map fun _=>((),σ.set k (.lst xs))
noncomputable def getIns (k:Nat):X V:=fun σ=>(clI σ[k]?).map fun v=>(v,σ)
noncomputable def big (n:Nat):Bool:=decide (n≤4096)
noncomputable def rd {β:Type} (n:X β) (fb:Bool→X β) (fi:Int→X β) (fs:Str→X β) (ft:List V→X β) (fl:Nat→X β) (fg:Addr→X β) (fz:List Int→X β) (v:V):X β :=
  V.casesOn (motive_1:=fun _=>X β) v n fb fi fs ft fl (fun _=>X.fail) fg (fun _=>X.fail) (fun _=>X.fail) (fun _=>X.fail) fz
noncomputable def no1 {α β:Type}:α→X β:=fun _=>X.fail
noncomputable def lsF {β:Type} (fl:Nat→List V→X β) (k:Nat):X β:=X.bind (getLst k) (fl k)
noncomputable def sw {β:Type} (fi:Int→X β) (fs:Str→X β) (fl:Nat→List V→X β):V→X β:=rd X.fail no1 fi fs no1 (lsF fl) no1 no1
noncomputable def onI {β:Type} (f:Int→X β):V→X β:=rd X.fail no1 f no1 no1 no1 no1 no1
noncomputable def onS {β:Type} (f:Str→X β):V→X β:=rd X.fail no1 no1 f no1 no1 no1 no1
noncomputable def onT {β:Type} (f:List V→X β):V→X β:=rd X.fail no1 no1 no1 f no1 no1 no1
noncomputable def onL {β:Type} (f:Nat→List V→X β):V→X β:=rd X.fail no1 no1 no1 no1 (lsF f) no1 no1
noncomputable def onG {β:Type} (f:Addr→X β):V→X β:=rd X.fail no1 no1 no1 no1 no1 f no1
noncomputable def onZ {β:Type} (f:List Int→X β):V→X β:=rd X.fail no1 no1 no1 no1 no1 no1 f
noncomputable def args0 {β:Type} (m:X β):List V→X β:=fun l=>List.casesOn (motive:=fun _=>X β) l m fun _ _=>X.fail
noncomputable def arg {β:Type} (f:V→List V→X β):List V→X β:=fun l=>List.casesOn (motive:=fun _=>X β) l X.fail f
noncomputable def args1 {β:Type} (f:V→X β):List V→X β:=arg fun a=>args0 (f a)
noncomputable def args2 {β:Type} (f:V→V→X β):List V→X β:=arg fun a=>args1 (f a)
noncomputable def args3 {β:Type} (f:V→V→V→X β):List V→X β:=arg fun a=>args2 (f a)
noncomputable def args4 {β:Type} (f:V→V→V→V→X β):List V→X β:=arg fun a=>args3 (f a)
noncomputable def mapO {α β:Type} (f:α→Option β):List α→Option (List β):=List.rec (motive:=fun _=>Option (List β)) (some []) fun a _ ih=>(f a).bind fun b=>ih.map (b::·)
noncomputable def toD (n:Nat):St→V→Option PyData:=Nat.rec (motive:=fun _=>St→V→Option PyData) (fun _ _=>none) (fun _ ih σ v=>V.casesOn (motive_1:=fun _=>Option PyData) v
  (some PyData.none) (fun b=>some (PyData.bool b)) (fun i=>some (PyData.int i)) (fun s=>some (PyData.str s)) (fun l=>(mapO (ih σ) l).map PyData.tuple) (fun k=>(clL σ[k]?).bind fun xs=>(mapO (ih σ) xs).map PyData.list)
  (fun _=>none) (fun _=>none) (fun _=>none) (fun _=>none) (fun _=>none) (fun _=>none)) n
noncomputable def int? (v:V):Option Int:=V.casesOn (motive_1:=fun _=>Option Int) v none (fun _=>none) some (fun _=>none) (fun _=>none) (fun _=>none) (fun _=>none) (fun _=>none) (fun _=>none) (fun _=>none) (fun _=>none) (fun _=>none)
noncomputable def str? (v:V):Option Str:=V.casesOn (motive_1:=fun _=>Option Str) v none (fun _=>none) (fun _=>none) some (fun _=>none) (fun _=>none) (fun _=>none) (fun _=>none) (fun _=>none) (fun _=>none) (fun _=>none) (fun _=>none)
noncomputable def lst? (v:V):Option Nat:=V.casesOn (motive_1:=fun _=>Option Nat) v none (fun _=>none) (fun _=>none) (fun _=>none) (fun _=>none) some (fun _=>none) (fun _=>none) (fun _=>none) (fun _=>none) (fun _=>none) (fun _=>none)
noncomputable def vInts:List V→Option (List Int):=mapO int?
noncomputable def vStrs:List V→Option (List Str):=mapO str?
noncomputable def lt3v (a b c d:Int) (x y:Str):Bool:=if a=c then (if b=d then (if x=y then false else decide (x.cps.toList < y.cps.toList)) else decide (b < d)) else decide (a < c)
noncomputable def tri {β:Type} (f:Int→Int→Str→X β):List V→X β:=args3 fun u v w=>onI (fun a=>onI (fun b=>onS (f a b) w) v) u
noncomputable def ltV (x y:V):X V:=rd X.fail no1 (fun a=>onI (fun b=>X.pure (.bool (decide (a < b)))) y) no1 (fun l=>onT (fun m=>tri (fun a b s=>tri (fun c d t=>X.pure (.bool (lt3v a b c d s t))) m) l) y) no1 no1 no1 x
noncomputable def isB1 (i:Int):Bool:=([173,847,6150,6155,6156,6157,8203,8204,8205,8288,65279]:List Int).contains i || (decide (65024≤i) && decide (i < 65040))
noncomputable def onII (f:Int→Int→X V) (x y:V):X V:=onI (fun a=>onI (f a) y) x
noncomputable def addV (x y:V):X V:=sw (fun a=>onI (fun b=>X.pure (.int (a+b))) y) (fun a=>onS (fun b=>X.guard (big (a.length+b.length)) (X.pure (.str (a++b)))) y) (fun _ xs=>onL (fun _ ys=>X.guard (big (xs.length+ys.length)) (newLst (xs++ys))) y) x
noncomputable def mulV (x y:V):X V:=sw (fun a=>onI (fun b=>X.guard (decide (a.natAbs≤4096) && decide (b.natAbs≤4096)) (X.pure (.int (a * b)))) y) (fun x=>onI (fun b=>X.guard (decide (0≤b) && decide (b≤8) && big x.length) (X.pure (.str (Txt.mul x b)))) y) (fun _ _=>X.fail) x
noncomputable def binV (o:BOp):V→V→X V:=BOp.casesOn (motive:=fun _=>V→V→X V) o addV (onII fun a b=>X.pure (.int (a - b))) mulV
  (onII fun a b=>X.guard (decide (0 < b) && decide (b≤4096)) (X.pure (.int (a.fdiv b)))) (onII fun a b=>X.guard (decide (0 < b)) (X.pure (.int (a.fmod b))))
noncomputable def isN (x:V):Option Bool:=V.casesOn (motive_1:=fun _=>Option Bool) x (some true) (fun _=>some false) (fun _=>some false) (fun _=>some false) (fun _=>some false) (fun _=>some false) (fun _=>none) (fun _=>some false) (fun _=>none) (fun _=>none) (fun _=>none) (fun _=>none)
noncomputable def isB (b:Bool) (x:V):Option Bool:=V.casesOn (motive_1:=fun _=>Option Bool) x (some false) (fun a=>some (a == b)) (fun _=>none) (fun _=>none) (fun _=>none) (fun _=>none) (fun _=>none) (fun _=>none) (fun _=>none) (fun _=>none) (fun _=>none) (fun _=>none)
noncomputable def tyEq (t u:Ty):Option Bool:=Ty.casesOn (motive:=fun _=>Option Bool) t (Ty.casesOn (motive:=fun _=>Option Bool) u (some true) (some false) none) (Ty.casesOn (motive:=fun _=>Option Bool) u (some false) (some true) none) none
noncomputable def isT (t:Ty) (x:V):Option Bool:=V.casesOn (motive_1:=fun _=>Option Bool) x none (fun _=>none) (fun _=>none) (fun _=>none) (fun _=>none) (fun _=>none) (fun _=>none) (fun _=>none) (fun _=>none) (tyEq t) (fun _=>none) (fun _=>none)
noncomputable def isV (x y:V):Option Bool:=V.casesOn (motive_1:=fun _=>Option Bool) y (isN x) (fun b=>isB b x) (fun _=>none) (fun _=>none) (fun _=>none) (fun _=>none) (fun _=>none) (fun _=>none) (fun _=>none) (fun t=>isT t x) (fun _=>none) (fun _=>none)
noncomputable def strIn (x y:Str):Bool:=!(Builtin.Str.occurrences y x 0 y.length 1).isEmpty
noncomputable def eqV (x y:V):X Bool:=fun σ=>(toD 4 σ x).bind fun d=>(toD 4 σ y).bind fun d'=>X.guard (shaped d && shaped d') (X.pure (PyData.eqv d d')) σ
noncomputable def inV (x y:V):X Bool:=sw (fun i=>onG (fun a=>X.guard (Nat.beq a 89) (X.pure (isB1 i))) y) (fun s=>sw no1 (fun t=>X.pure (strIn s t)) (fun _ xs=>X.bind (X.of (vStrs xs)) fun ys=>X.pure (ys.contains s)) y) (fun _ _=>X.fail) x
noncomputable def boolV (g:Bool→Bool) (m:X Bool):X V:=X.bind m fun r=>X.pure (.bool (g r))
noncomputable def leV (x y:V):X V:=sw (fun a=>onI (fun b=>X.pure (.bool (decide (a≤b)))) y) (fun a=>onS (fun b=>X.pure (.bool (!decide (b.cps.toList < a.cps.toList)))) y) (fun _ _=>X.fail) x
noncomputable def cmpV (o:COp):V→V→X V:=COp.casesOn (motive:=fun _=>V→V→X V) o ltV leV (onII fun a b=>X.pure (.bool (decide (b < a)))) (onII fun a b=>X.pure (.bool (decide (b≤a))))
  (fun x y=>boolV id (eqV x y)) (fun x y=>boolV not (eqV x y)) (fun x y=>boolV id (X.of (isV x y))) (fun x y=>boolV not (X.of (isV x y))) (fun x y=>boolV id (inV x y)) (fun x y=>boolV not (inV x y))
noncomputable def truth:V→X Bool:=rd (X.pure false) X.pure no1 (fun x=>X.guard (big x.length) (X.pure (x.length != 0))) no1 no1 no1 no1
noncomputable def small (i:Int):Bool:=decide (i.natAbs < 4611686018427387904)
noncomputable def pickV (l:List V) (i:Int):Option V:=(seqIndex? i l.length).bind (l[·]?)
noncomputable def itemV (x y:V):X V:=onI (fun i=>X.guard (small i) (rd X.fail no1 no1 (fun x=>X.bind (X.of ((seqIndex? i x.length).bind (x.cps[·]?))) fun c=>X.pure (.str ⟨#[c]⟩)) (fun l=>X.of (pickV l i)) (lsF fun _ l=>X.of (pickV l i)) no1 no1 x)) y
noncomputable def clip (n:Nat) (d:Int):Option Int→Int
  | none=>d
  | some i=>max 0 (min (if i < 0 then i+n else i) n)
noncomputable def cut {α:Type} (xs:List α) (lo hi:Option Int):List α :=
  (sliceRange (sliceBounds lo hi none xs.length).1 (sliceBounds lo hi none xs.length).2.1 (sliceBounds lo hi none xs.length).2.2).filterMap (xs[·]?)
noncomputable def optInt (o:Option V):Option (Option Int):=Option.casesOn (motive:=fun _=>Option (Option Int)) o (some none) fun v=>(int? v).bind fun i=>Bool.casesOn (motive:=fun _=>Option (Option Int)) (small i) none (some (some i))
noncomputable def sliceV (o:V) (lo hi:Option V):X V:=X.bind (X.of (optInt lo)) fun a=>X.bind (X.of (optInt hi)) fun b =>
  rd X.fail no1 no1 (fun x=>X.guard (big x.length) (X.pure (.str (Txt.slice x a b)))) no1 (lsF fun _ xs=>X.guard (big xs.length) (newLst (cut xs a b))) no1 (fun xs=>X.guard (big xs.length) (newLst ((cut xs a b).map .int))) o
noncomputable def revS (x:Str):Str:=⟨((Builtin.Str.strSliceIndices none none (-1) x.length).filterMap (x.cps[·]?)).toArray⟩
noncomputable def revV:V→X V:=onS fun x=>X.guard (big (revS x).length) (X.pure (.str (revS x)))
noncomputable def maxI:Int→List Int→Int
  | a,[]=>a
  | a,b::r=>maxI (if a < b then b else a) r
noncomputable def minI:Int→List Int→Int
  | a,[]=>a
  | a,b::r=>minI (if b < a then b else a) r
noncomputable def insAt {α:Type} (xs:List α) (i:Int) (x:α):List α:=xs.take (clip xs.length 0 (some i)).toNat++x::xs.drop (clip xs.length 0 (some i)).toNat
noncomputable def okHeader (x:Str):Bool:=big x.length && x.cps.toList.all fun c=>decide (32≤c) && decide (c < 127)
noncomputable def b3At (i:Int):Option Str:=(kvs12.find? fun kv=>decide (kv.1=i)).map (·.2)
noncomputable def splitOk (x y:Str):Bool:=!(decide (x.length < y.length) || decide (Builtin.Str.strKind x < Builtin.Str.strKind y)) && !(y.length == 0) && !(Builtin.Str.occurrences x y 0 x.length (x.length+1)).isEmpty && big x.length
noncomputable def splitOf (x y:Str):List Str:=Builtin.Str.partsBetween x (Builtin.Str.occurrences x y 0 x.length (x.length+1)) y.length
noncomputable def findIn (x y:Str) (i j:Int):Int:=match Builtin.Str.occurrences x y (fromIndex x.length i) (min x.length (fromIndex x.length j)) 1 with
  | k::_=>(k:Int)
  | []=>-1
noncomputable def lowered (x:Str):Str:=⟨placed x fun i _=>Unicode.lowerAt x.cps i⟩
noncomputable def uppered (x:Str):Str:=⟨placed x fun _ c=>Unicode.upperOf c⟩
noncomputable def bLen:List V→X V:=args1 (sw no1 (fun x=>X.guard (big x.length) (X.pure (.int x.length))) fun _ xs=>X.guard (big xs.length) (X.pure (.int xs.length)))
noncomputable def bChr:List V→X V:=args1 (onI fun i=>X.guard (decide (0≤i) && decide (i.natAbs≤0x10FFFF)) (X.pure (.str ⟨#[i.toNat]⟩)))
noncomputable def ord1 (l:List Nat):Option Nat:=List.casesOn (motive:=fun _=>Option Nat) l none fun c r=>List.casesOn (motive:=fun _=>Option Nat) r (some c) fun _ _=>none
noncomputable def bOrd:List V→X V:=args1 (onS fun x=>X.bind (X.of (ord1 x.cps.toList)) fun c=>X.pure (.int c))
noncomputable def bAbs:List V→X V:=args1 (onI fun i=>X.pure (.int (if i < 0 then -i else i)))
noncomputable def best (f:Int→List Int→Int) (l:List Int):Option Int:=List.casesOn (motive:=fun _=>Option Int) l none fun a r=>some (f a r)
noncomputable def bBest (f:Int→List Int→Int):List V→X V:=args1 (onL fun _ xs=>X.bind (X.of ((vInts xs).bind (best f))) fun i=>X.pure (.int i))
noncomputable def bSum:List V→X V:=args1 (onZ fun xs=>X.guard (big xs.length) (X.pure (.int xs.sum)))
noncomputable def onSS (f:Str→Str→X V):List V→X V:=args2 fun x y=>onS (fun a=>onS (f a) y) x
noncomputable def bSplit:List V→X V:=onSS fun x y=>X.guard (splitOk x y && big (splitOf x y).length) (newLst ((splitOf x y).map .str))
noncomputable def bFind:List V→X V:=args4 fun a b c d=>onS (fun x=>onS (fun y=>onI (fun i=>onI (fun j=>X.guard (small i && small j) (X.pure (.int (findIn x y i j)))) d) c) b) a
noncomputable def bLower:List V→X V:=args1 (onS fun x=>X.guard (big (lowered x).length) (X.pure (.str (lowered x))))
noncomputable def bUpper:List V→X V:=args1 (onS fun x=>X.guard (big (uppered x).length) (X.pure (.str (uppered x))))
noncomputable def bJoin:List V→X V:=args2 fun u v=>onS (fun x=>sw no1 (fun y=>X.guard (big (((PyProof.Rows.signs y).map (·.length)).sum+(PyProof.Rows.signs y).length * x.length)) (X.pure (.str (Builtin.Str.glued x (PyProof.Rows.signs y)))))
  (fun _ xs=>X.bind (X.of (vStrs xs)) fun ys=>X.guard (big ((ys.map (·.length)).sum+ys.length * x.length)) (X.pure (.str (Builtin.Str.glued x ys)))) v) u
noncomputable def bIndex:List V→X V:=onSS fun x y=>X.bind (X.of (Builtin.Str.occurrences x y 0 x.length 1).head?) fun i=>X.pure (.int i)
noncomputable def bAppend:List V→X V:=args2 fun l v=>onL (fun k xs=>X.guard (big xs.length) (X.bind (setLst k (xs++[v])) fun _=>X.pure .none)) l
noncomputable def bInsert:List V→X V:=args3 fun l i v=>onL (fun k xs=>onI (fun i=>X.guard (big xs.length && small i) (X.bind (setLst k (insAt xs i v)) fun _=>X.pure .none)) i) l
noncomputable def bExtend:List V→X V:=args2 fun l m=>onL (fun k xs=>onL (fun j ys=>X.guard (!Nat.beq k j && big (xs.length+ys.length)) (X.bind (setLst k (xs++ys)) fun _=>X.pure .none)) m) l
noncomputable def b3V (i:Int):V:=((b3At i).map V.str).getD .none
noncomputable def bGet:List V→X V:=args2 fun a i=>onG (fun a=>onI (fun i=>X.guard (Nat.beq a 100) (X.pure (b3V i))) i) a
noncomputable def bSearch:List V→X V:=args2 fun a x=>onG (fun a=>onS (fun x=>X.guard ((Nat.beq a 155 || Nat.beq a 160) && okHeader x) (X.pure .none)) x) a
noncomputable def callB (b:Bi):List V→X V:=Bi.casesOn (motive:=fun _=>List V→X V) b bLen bChr bOrd bAbs (bBest minI) (bBest maxI) bSum bSplit bFind bLower bUpper bJoin bIndex bAppend bInsert bExtend bGet bSearch
noncomputable def callT (t:Ty):List V→X V:=Ty.casesOn (motive:=fun _=>List V→X V) t (args1 (onL fun _ xs=>X.guard (big xs.length) (newLst xs))) (args1 (onI fun i=>X.guard (decide (i.natAbs < 1000000)) (X.pure (.str (toString i)))))
  (args1 (sw no1 (fun _=>X.pure (.ty .str)) fun _ _=>X.pure (.ty .list)))
inductive Src where
  | lst (k i:Nat)
  | str (x:List Nat)
  | rng (ns:List Int)
  | enumL (n:Nat) (k:Nat)
  | enumS (n:Nat) (x:List Nat)
  | nil
noncomputable def tgOk:Tg→Src→Bool
  | .nm _,.enumL ..=>false
  | .nm _,.enumS ..=>false
  | _,_=>true
noncomputable def isNil:Src→Bool
  | .nil=>true
  | _=>false
noncomputable def srcNext:Src→X (Option (V × Src))
  | .lst k i=>X.bind (getLst k) fun xs=>X.pure (xs[i]?.map fun v=>(v,.lst k (i+1)))
  | .str l=>X.pure (List.casesOn (motive:=fun _=>Option (V × Src)) l none fun c r=>some (.str ⟨#[c]⟩,.str r))
  | .rng l=>X.pure (List.casesOn (motive:=fun _=>Option (V × Src)) l none fun n r=>some (.int n,.rng r))
  | .enumL n k=>X.bind (getLst k) fun xs=>X.pure (xs[n]?.map fun v=>(.tup [.int n,v],.enumL (n+1) k))
  | .enumS n l=>X.pure (List.casesOn (motive:=fun _=>Option (V × Src)) l none fun c r=>some (.tup [.int n,.str ⟨#[c]⟩],.enumS (n+1) r))
  | .nil=>X.pure none
noncomputable def upFrom:Nat→Int→Int→List Int
  | 0,_,_=>[]
  | n+1,a,c=>a::upFrom n (a+c) c
noncomputable def gd {β:Type} (b:Bool) (o:Option β):Option β:=Bool.casesOn (motive:=fun _=>Option β) b none o
noncomputable def rangeOf (a b c:Int):Option (List Int):=Bool.casesOn (motive:=fun _=>Option (List Int)) (decide (c=1)) (gd (decide (a=4∧b=0∧c=-1)) (some [4,3,2,1])) (gd (small a && small b && big (b - a).toNat) (some (upFrom (b - a).toNat a 1)))
structure Par where
  p:Pl
  dfl:Option V
structure Fn where
  ars:List Nat
  pos:List Par
  kwo:List (Nat × Par)
  kwarg:Option Pl
  body:List CS
noncomputable def bindPos (l:List Par) (vs:List V):Option (List (Pl × V)):=List.rec (motive:=fun _=>List V→Option (List (Pl × V))) (fun vs=>List.casesOn (motive:=fun _=>Option (List (Pl × V))) vs (some []) fun _ _=>none)
  (fun a _ ih vs=>List.casesOn (motive:=fun _=>Option (List (Pl × V))) vs (a.dfl.bind fun d=>(ih []).map ((a.p,d)::·)) fun v vs=>(ih vs).map ((a.p,v)::·)) l vs
noncomputable def bindKw (l:List (Nat × Par)) (kw:List (Nat × V)):Option (List (Pl × V)):=List.casesOn (motive:=fun _=>Option (List (Pl × V))) l (List.casesOn (motive:=fun _=>Option (List (Pl × V))) kw (some []) fun _ _=>none)
  fun x _=>List.casesOn (motive:=fun _=>Option (List (Pl × V))) kw (x.2.dfl.map fun d=>[(x.2.p,d)]) fun y r=>List.casesOn (motive:=fun _=>Option (List (Pl × V))) r (gd (Nat.beq x.1 y.1) (some [(x.2.p,y.2)])) fun _ _=>none
noncomputable def EE.setPs (e:EE) (l:List (Pl × V)):EE:=l.foldl (fun e x=>e.set x.2 x.1) e
noncomputable def endB (l:List (Pl × V)) (kwarg:Option Pl):X EE:=Option.casesOn (motive:=fun _=>X EE) kwarg (X.pure (EE.setPs ⟨[],[],0⟩ l)) fun p σ=>some (EE.setPs ⟨[],[],0⟩ (l++[(p,.kw0 σ.length)]),σ++[.kw])
noncomputable def Fn.bind (fn:Fn) (args:List V) (kw:List (Nat × V)):X EE :=
  X.guard (isIn args.length fn.ars) (X.bind (X.of (bindPos fn.pos args)) fun a=>X.bind (X.of (bindKw fn.kwo kw)) fun b=>endB (a++b) fn.kwarg)
structure Fs where
  E:EE→CE→X V
  T:EE→CE→X Bool
  S:EE→CS→X (Fl × EE)
  C:Addr→List V→List (Nat × V)→X V
  L:EE→Tg→Src→List CS→X (Fl × EE)
  W:EE→CE→List CS→X (Fl × EE)
  G:EE→CE→Tg→Src→List CE→List Gen→Nat→X EE
noncomputable def evs (E:CE→X V):List CE→X (List V)
  | []=>X.pure []
  | c::r=>X.bind (E c) fun v=>X.bind (evs E r) fun vs=>X.pure (v::vs)
noncomputable def evKw (E:CE→X V):List (Nat × CE)→X (List (Nat × V))
  | []=>X.pure []
  | (n,c)::r=>X.bind (E c) fun v=>X.bind (evKw E r) fun vs=>X.pure ((n,v)::vs)
noncomputable def evO (E:CE→X V):Option CE→X (Option V)
  | none=>X.pure none
  | some c=>X.bind (E c) fun v=>X.pure (some v)
noncomputable def Fl.el {β:Type} (a:X β) (f:V→X β) (fl:Fl):X β:=Fl.casesOn (motive:=fun _=>X β) fl a f
noncomputable def execsV (S:EE→CS→X (Fl × EE)) (e:EE) (l:List CS):X (Fl × EE):=List.rec (motive:=fun _=>EE→X (Fl × EE)) (fun e=>X.pure (.next,e)) (fun c _ ih e=>X.bind (S e c) fun x=>x.1.el (ih x.2) fun v=>X.pure (.ret v,x.2)) l e
noncomputable def allT (T:CE→X Bool):List CE→X Bool
  | []=>X.pure true
  | c::r=>X.bind (T c) fun b=>match b with
    | true=>allT T r
    | false=>X.pure false
noncomputable def assignT (e:EE):Tg→V→Option EE
  | .nm p,v=>some (e.set v p)
  | .tup ps,.tup l=>e.setAll ps l
  | _,_=>none
noncomputable def rng3 (a b c:Int):X Src:=X.bind (X.of (rangeOf a b c)) fun ns=>X.pure (.rng ns)
noncomputable def listE {β:Type} (m:β) (f:V→List V→β) (l:List V):β:=List.casesOn (motive:=fun _=>β) l m f
noncomputable def rngF:List V→X Src:=arg fun u l=>onI (fun a=>listE (rng3 0 a 1) (fun v l=>onI (fun b=>listE (rng3 a b 1) (fun w l=>onI (fun c=>args0 (rng3 a b c) l) w) l) v) l) u
noncomputable def kwC (o:Option Cl):Option Unit:=o.bind fun c=>Cl.casesOn (motive:=fun _=>Option Unit) c (fun _=>none) (fun _=>none) (some ())
noncomputable def kw? (v:V):Option Nat:=V.casesOn (motive_1:=fun _=>Option Nat) v none (fun _=>none) (fun _=>none) (fun _=>none) (fun _=>none) (fun _=>none) (fun _=>none) (fun _=>none) (fun _=>none) (fun _=>none) some (fun _=>none)
noncomputable def evIt (E:CE→X V) (it:It):X Src:=It.casesOn (motive_3:=fun _=>X Src) it
  (fun c=>X.bind (E c) (sw no1 (fun x=>X.pure (.str x.cps.toList)) fun k _=>X.pure (.lst k 0)))
  (fun cs=>X.bind (evs E cs) rngF)
  (fun c=>X.bind (E c) (sw no1 (fun x=>X.pure (.enumS 0 x.cps.toList)) fun k _=>X.pure (.enumL 0 k)))
  (fun c=>X.bind (E c) fun v=>X.bind (X.of (kw? v)) fun k σ=>X.bind (X.of (kwC σ[k]?)) (fun _=>X.pure .nil) σ)
noncomputable def methAddr:Mth→Option Addr
  | .get_all=>some 228
  | .add_header=>some 286
  | .conv=>some 190
  | _=>none
noncomputable def ltKeys:List Str→List Str→Bool
  | [],[]=>false
  | [],_::_=>true
  | _::_,[]=>false
  | a::r,b::t=>if a=b then ltKeys r t else decide (a.cps.toList < b.cps.toList)
noncomputable def kev {α:Type} (n:Nat) (lt:Nat→Nat→Bool):KasT α→Option α
  | .ret a=>some a
  | .ask i j k=>match decide (i < n) && decide (j < n) with
    | true=>kev n lt (k (lt i j))
    | false=>none
noncomputable def keyAt (l:List (List Str)) (i:Nat):List Str:=match l[i]? with
  | some x=>x
  | none=>[]
noncomputable def sortK (ks:List (List Str)) (l:List V):Option (List V):=match decide (l.length < 2) with
  | true=>some l
  | false=>(kev l.length (fun i j=>ltKeys (keyAt ks i) (keyAt ks j)) (kas_sort l.length)).bind fun p=>mapO (fun i=>l[i]?) p.toList
noncomputable def dedupS (ys:List Str):List Str:=ys.foldl (fun σ v=>match σ.any (· == v) with
  | true=>σ
  | false=>σ++[v]) []
noncomputable def keysV (E:V→X V):List V→X (List V)
  | []=>X.pure []
  | v::r=>X.bind (E v) fun k=>X.bind (keysV E r) fun t=>X.pure (k::t)
noncomputable def readKeys (l:List V):X (List (List Str)):=List.rec (motive:=fun _=>X (List (List Str))) (X.pure []) (fun v _ ih=>onL (fun _ ks=>X.bind (X.of (vStrs ks)) fun ys=>X.bind ih fun t=>X.pure (ys::t)) v) l
noncomputable def lamPos:Pos:=stSel default (fun _ _ _ _=>default) (fun _=>default) (fun _ _ _=>default) (fun v=>Option.casesOn (motive:=fun _=>Pos) v default (exSel default (fun _ _=>default) (fun _ _ _=>default) (fun _ _ _=>default)
  (hdSel default fun k=>exSel default (fun _ _=>default) (fun _ _ _=>default) (fun _ _ _=>default) (fun _=>default) id k.value) fun _=>default)) ((bodyAt (stAt 34)).drop 2).head?
noncomputable def names1:List String:=["a","x","lo","hi","key","mid","want","got","ws","startpos","endpos","w","code","r","self","headers","k","v","value","name","regex","_name","_value","_params","parts","kv","small","word","n","shapes","typed","shape","fits","sign","order","rest","size","entry","pairs","days"]
noncomputable def names2:List String:=["gap","rows","turn","job","wider","row","day","low","high","longer","bare","said","also","spot","other","table","thing","wants","taken","texts","text","rising","steep","bound","due","i","copies","last","free","script","total","place","beside","rule","way","some"]
noncomputable def names:List Str:=(names1++names2).map Str.ofString
noncomputable def numFrom (x:Str) (l:List Str):Nat→Option Nat:=List.rec (motive:=fun _=>Nat→Option Nat) (fun _=>none) (fun y _ ih n=>Bool.casesOn (motive:=fun _=>Option Nat) (y == x) (ih (n+1)) (some n)) l
noncomputable def num (x:Str):Option Nat:=numFrom x names 0
noncomputable def gl (s:Str) (v:V):Str × V:=(s,v)
noncomputable def ml (s:Str) (m:Mth):Str × Mth:=(s,m)
noncomputable def globs:List (Str × V):=[gl "insort_right" (.glob 47),gl "bisect_right" (.glob 56),gl "insort_left" (.glob 65),gl "bisect_left" (.glob 74),gl "_ellipsis_match" (.glob 81),gl "in_table_b1" (.glob 99),gl "map_table_b3" (.glob 145),
  gl "_law_words" (.glob 300),gl "_law_unseen" (.glob 307),gl "_law_beside" (.glob 314),gl "_law_letter" (.glob 321),gl "_law_typed" (.glob 326),gl "_law_prepared" (.glob 331),gl "_law_order" (.glob 338),gl "_law_day" (.glob 345),gl "_law_plans" (.glob 350),
  gl "_law_table" (.glob 355),gl "_law_dotted" (.glob 362),gl "_law_taken" (.glob 369),gl "_law_rising" (.glob 374),gl "_law_due" (.glob 379),gl "_law_copies_agree" (.glob 384),gl "b1_set" (.glob 89),gl "b3_exceptions" (.glob 100),gl "_name_disallowed_re" (.glob 155),gl "_value_disallowed_re" (.glob 160),
  gl "ELLIPSIS_MARKER" (.str "..."),
  gl "len" (.bi .len),gl "chr" (.bi .chr),gl "ord" (.bi .ord),gl "abs" (.bi .abs),gl "min" (.bi .min),gl "max" (.bi .max),gl "sum" (.bi .sum),gl "list" (.ty .list),gl "str" (.ty .str),gl "type" (.ty .typ)]
noncomputable def meths:List (Str × Mth):=[ml "split" (.bi .split),ml "find" (.bi .find),ml "lower" (.bi .lower),ml "upper" (.bi .upper),ml "join" (.bi .join),ml "index" (.bi .index),
  ml "append" (.bi .append),ml "insert" (.bi .insert),ml "extend" (.bi .extend),ml "get" (.bi .dget),ml "search" (.bi .search),ml "get_all" (.get_all),ml "add_header" (.add_header),ml "_convert_string_type" (.conv)]
noncomputable def pick {α:Type} (x:Str):List (Str × α)→Option α
  | []=>none
  | (y,a)::r=>match y == x with
    | true=>some a
    | false=>pick x r
inductive View where
  | bool (op:BoolOp) (vs:List Expr) (p:Pos)
  | bin (l:Expr) (op:Operator) (r:Expr) (p:Pos)
  | un (op:UnaryOp) (x:Expr) (p:Pos)
  | lam (a:Arguments) (b:Expr) (sc:Scope) (p:Pos)
  | ite (t a b:Expr) (p:Pos)
  | comp (elt:Expr) (gens:List Comprehension) (sc:Scope) (p:Pos)
  | cmp (l:Expr) (ops:List CmpOp) (rs:List Expr) (p:Pos)
  | call (f:Expr) (args:List Expr) (kw:List Keyword) (p:Pos)
  | con (c:Const) (k:Nat) (p:Pos)
  | attr (o:Expr) (a:Str) (p:Pos)
  | sub (o s:Expr) (p:Pos)
  | name (x:Str) (p:Pos)
  | list (es:List Expr) (p:Pos)
  | tup (es:List Expr) (k:Nat) (p:Pos)
  | sl (lo hi st:Option Expr) (p:Pos)
  | other (e:Expr)
noncomputable def view (e:Expr):View:=Expr.casesOn (motive_1:=fun _=>View) e .bool (fun t v p=>.other (.NamedExpr t v p)) .bin .un .lam .ite (fun k v p=>.other (.Dict k v p)) (fun e k p=>.other (.Set e k p)) .comp (fun e g s p=>.other (.SetComp e g s p))
  (fun k v g s p=>.other (.DictComp k v g s p)) (fun e g s p=>.other (.GeneratorExp e g s p)) (fun v p=>.other (.Await v p)) (fun v p=>.other (.Yield v p)) (fun v p=>.other (.YieldFrom v p)) .cmp .call (fun v c f p=>.other (.FormattedValue v c f p))
  (fun v p=>.other (.JoinedStr v p)) .con .attr .sub (fun v p=>.other (.Starred v p)) .name .list .tup .sl
noncomputable def View.ex (v:View):Expr:=View.casesOn (motive:=fun _=>Expr) v .BoolOp .BinOp .UnaryOp .Lambda .IfExp .ListComp .Compare .Call .Constant .Attribute .Subscript .Name .List .Tuple .Slice id
noncomputable def l0 {α β:Type} (o:Option β) (l:List α):Option β:=List.casesOn (motive:=fun _=>Option β) l o fun _ _=>none
noncomputable def l1 {α β:Type} (f:α→List α→Option β) (l:List α):Option β:=List.casesOn (motive:=fun _=>Option β) l none f
noncomputable def lOne {α β:Type} (f:α→Option β):List α→Option β:=l1 fun a=>l0 (f a)
noncomputable def o0 {α β:Type} (o:Option β) (x:Option α):Option β:=Option.casesOn (motive:=fun _=>Option β) x o fun _=>none
noncomputable def o1 {α β:Type} (f:α→Option β) (x:Option α):Option β:=Option.casesOn (motive:=fun _=>Option β) x none f
noncomputable def no2 {α β γ:Type}:α→β→Option γ:=fun _ _=>none
noncomputable def no3 {α β γ δ:Type}:α→β→γ→Option δ:=fun _ _ _=>none
noncomputable def no4 {α β γ δ ε:Type}:α→β→γ→δ→Option ε:=fun _ _ _ _=>none
section
variable (K:Str→Option NameKind)
noncomputable def plOf (k:NameKind) (i:Nat):Option Pl:=NameKind.casesOn (motive:=fun _=>Option Pl) k (some (.loc i)) (some (.cel i)) (some (.cel i)) none none
noncomputable def ptOf (k:NameKind) (i:Nat):Option Pl:=NameKind.casesOn (motive:=fun _=>Option Pl) k (some (.loc i)) (some (.cel i)) none none none
noncomputable def cPl (x:Str):Option Pl:=(K x).bind fun k=>(num x).bind (plOf k)
noncomputable def cPt (x:Str):Option Pl:=(K x).bind fun k=>(num x).bind (ptOf k)
noncomputable def cOp:Operator→Option BOp
  | .Add=>some .add
  | .Sub=>some .sub
  | .Mult=>some .mul
  | .FloorDiv=>some .fdiv
  | .Mod=>some .mod
  | _=>none
noncomputable def cCmp:CmpOp→Option COp
  | .Lt=>some .lt
  | .LtE=>some .le
  | .Gt=>some .gt
  | .GtE=>some .ge
  | .Eq=>some .eq
  | .NotEq=>some .ne
  | .Is=>some .is
  | .IsNot=>some .isnot
  | .In=>some .isin
  | .NotIn=>some .notin
noncomputable def nmOf (x:Str) (k:NameKind):Option CE:=NameKind.casesOn (motive:=fun _=>Option CE) k (((num x).bind (plOf k)).map .var) (((num x).bind (plOf k)).map .var) (((num x).bind (plOf k)).map .var) none ((pick x globs).map .lit)
noncomputable def cName (x:Str):Option CE:=(K x).bind (nmOf x)
noncomputable def nameV (v:View):Option Str:=View.casesOn (motive:=fun _=>Option Str) v no3 no4 no3 no4 no4 no4 no4 no4 no3 no3 no3 (fun x _=>some x) no2 no3 no4 fun _=>none
noncomputable def cTg1 (e:Expr):Option Pl:=(nameV (view e)).bind (cPt K)
noncomputable def cTgs:List Expr→Option (List Pl):=mapO (cTg1 K)
noncomputable def cTgV (v:View):Option Tg:=View.casesOn (motive:=fun _=>Option Tg) v no3 no4 no3 no4 no4 no4 no4 no4 no3 no3 no3 (fun x _=>(cPt K x).map .nm) no2 (fun es _ _=>(cTgs K es).map .tup) no4 fun _=>none
noncomputable def cTg (e:Expr):Option Tg:=cTgV K (view e)
noncomputable def isGlob (x:Str) (g:Str):Bool:=x == g && decide (K x=some .globalImplicit)
end
noncomputable abbrev cL {α β:Type} (f:α→Option β):List α→Option (List β):=mapO f
noncomputable def cO {α β:Type} (f:α→Option β) (o:Option α):Option (Option β):=Option.casesOn (motive:=fun _=>Option (Option β)) o (some none) fun a=>(f a).map some
noncomputable def kinds (s:Scope):Str→Option NameKind:=fun x=>s.names.lookup x
noncomputable def scOk (K:Str→Option NameKind) (s:Scope):Bool:=decide ((s.names.map (·.1)).Nodup) && s.names.all fun y=>(s.names.lookup y.1 == some y.2) && (match y.2 with
  | .free=>(match K y.1 with | some .cell=>true | some .free=>true | _=>false)
  | _=>true)
noncomputable def frees (s:Scope):List Nat:=s.names.filterMap fun y=>match y.2 with
  | .free=>num y.1
  | _=>none
section
variable (F:(Str→Option NameKind)→Expr→Option CE) (K:Str→Option NameKind)
noncomputable def cItC (fv:View) (args:List Expr) (kw:List Keyword) (pos:Pos) (d:Option It):Option It:=View.casesOn (motive:=fun _=>Option It) fv no3 no4 no3 no4 no4 no4 no4 no4 no3
    (fun o m apos=>Bool.casesOn (motive:=fun _=>Option It) (m == ("items":Str)) d (gd (apos.endLine == pos.line) (l0 (l0 ((F K o).map .items) kw) args))) no3
    (fun x _=>Bool.casesOn (motive:=fun _=>Option It) (isGlob K x "range") (Bool.casesOn (motive:=fun _=>Option It) (isGlob K x "enumerate") d (l0 (lOne (fun e=>(F K e).map .enum) args) kw)) (l0 ((cL (F K) args).map .range) kw)) no2 no3 no4 fun _=>none
noncomputable def cItV (v:View) (d:Option It):Option It:=View.casesOn (motive:=fun _=>Option It) v (fun _ _ _=>d) (fun _ _ _ _=>d) (fun _ _ _=>d) (fun _ _ _ _=>d) (fun _ _ _ _=>d) (fun _ _ _ _=>d) (fun _ _ _ _=>d) (fun f args kw pos=>cItC F K (view f) args kw pos d)
  (fun _ _ _=>d) (fun _ _ _=>d) (fun _ _ _=>d) (fun _ _=>d) (fun _ _=>d) (fun _ _ _=>d) (fun _ _ _ _=>d) fun _=>d
noncomputable def cIt (e:Expr):Option It:=cItV F K (view e) ((F K e).map .of)
noncomputable def cGen (K1:Str→Option NameKind) (g:Comprehension):Option Gen:=gd (g.is_async == 0) ((cTg K g.target).bind fun t=>(cIt F K1 g.iter).bind fun it=>(cL (F K) g.ifs).map fun ifs=>.mk t it ifs)
noncomputable def cKw (k:Keyword):Option (Nat × CE):=o1 (fun a=>(num a).bind fun i=>(F K k.value).map fun c=>(i,c)) k.arg
noncomputable def cCon (c:Const):Option CE:=Const.casesOn (motive:=fun _=>Option CE) c (some (.lit .none)) (fun b=>some (.lit (.bool b))) (fun i=>some (.lit (.int i))) (fun _=>none) no2 (fun s=>some (.lit (.str s))) (fun _=>none) none
noncomputable def cAnd (vs:List Expr):Option CE:=l1 (fun a r=>l1 (fun b r=>(F K a).bind fun a=>(F K b).bind fun b=>List.casesOn (motive:=fun _=>Option CE) r (some (.and (some a) (some b) none)) fun c r=>l0 ((F K c).map fun c=>.and (some a) (some b) (some c)) r) r) vs
noncomputable def cOr (vs:List Expr):Option CE:=l1 (fun a r=>l1 (fun b r=>l0 ((F K a).bind fun a=>(F K b).map fun b=>.or a b) r) r) vs
noncomputable def cBool (op:BoolOp):List Expr→Option CE:=BoolOp.casesOn (motive:=fun _=>List Expr→Option CE) op (cAnd F K) (cOr F K)
noncomputable def cUn (op:UnaryOp) (x:Expr):Option CE:=UnaryOp.casesOn (motive:=fun _=>Option CE) op none ((F K x).map .not) none ((F K x).map .neg)
noncomputable def cCmpE (l:Expr) (ops:List CmpOp) (rs:List Expr):Option CE:=lOne (fun op=>lOne (fun r=>gd (!behindInMarks op r) ((cCmp op).bind fun o=>(F K l).bind fun a=>(F K r).map fun b=>.cmp o a b)) rs) ops
noncomputable def isOne (v:View):Bool:=View.casesOn (motive:=fun _=>Bool) v (fun _ _ _=>false) (fun _ _ _ _=>false) (fun _ _ _=>false) (fun _ _ _ _=>false) (fun _ _ _ _=>false) (fun _ _ _ _=>false) (fun _ _ _ _=>false) (fun _ _ _ _=>false) (fun c _ _=>decide (c=.int 1)) (fun _ _ _=>false) (fun _ _ _=>false) (fun _ _=>false) (fun _ _=>false) (fun _ _ _=>false) (fun _ _ _ _=>false) fun _=>false
noncomputable def isM1 (v:View):Bool:=View.casesOn (motive:=fun _=>Bool) v (fun _ _ _=>false) (fun _ _ _ _=>false) (fun op x _=>UnaryOp.casesOn (motive:=fun _=>Bool) op false false false (isOne (view x)))
  (fun _ _ _ _=>false) (fun _ _ _ _=>false) (fun _ _ _ _=>false) (fun _ _ _ _=>false) (fun _ _ _ _=>false) (fun _ _ _=>false) (fun _ _ _=>false) (fun _ _ _=>false) (fun _ _=>false) (fun _ _=>false) (fun _ _ _=>false) (fun _ _ _ _=>false) fun _=>false
noncomputable def cSub (o:Expr) (v:View) (d:Option CE):Option CE:=View.casesOn (motive:=fun _=>Option CE) v (fun _ _ _=>d) (fun _ _ _ _=>d) (fun _ _ _=>d)
  no4 no4 no4 no4 (fun _ _ _ _=>d) (fun _ _ _=>d) no3 no3 (fun _ _=>d) no2 no3
  (fun lo hi st _=>Option.casesOn (motive:=fun _=>Option CE) st ((F K o).bind fun o=>(cO (F K) lo).bind fun lo=>(cO (F K) hi).map fun hi=>.slice o lo hi) fun m=>gd (isM1 (view m)) (o0 (o0 ((F K o).map .rev) hi) lo)) fun _=>none
noncomputable def cComp (elt:Expr) (gens:List Comprehension) (sc:Scope):Option CE:=gd (decide (sc.kind=.function) && scOk K sc) ((F (kinds sc) elt).bind fun c=>l1 (fun g r=>(cGen F (kinds sc) K g).bind fun g=>(cL (cGen F (kinds sc) (kinds sc)) r).map fun r=>.comp (frees sc) c (g::r)) gens)
noncomputable def lamP (a:Arguments):Option Str:=l0 (o0 (l0 (l0 (o0 (l0 (lOne (fun p=>o0 (some p.arg) p.annotation) a.args) a.defaults) a.kwarg) a.kw_defaults) a.kwonlyargs) a.vararg) a.posonlyargs
noncomputable def cLam (e:Expr) (v:View):Option CE:=View.casesOn (motive:=fun _=>Option CE) v no3 no4 no3 (fun a b sc q=>gd (decide (sc.kind=.function) && (scOk K sc && (q.line == lamPos.line && q.col == lamPos.col && !sc.isCoroutine && !sc.isGenerator)))
    ((lamP a).bind fun p=>gd (decide (p="text")) ((F K e).bind fun e=>(cPt (kinds sc) p).bind fun p=>(F (kinds sc) b).map fun b=>.sortBy (frees sc) e p b))) no4 no4 no4 no4 no3 no3 no3 no2 no2 no3 no4 fun _=>none
noncomputable def cSort (args:List Expr) (kw:List Keyword):Option CE:=lOne (fun e=>lOne (fun k=>gd (k.arg == some ("key":Str)) (cLam F K e (view k.value))) kw) args
noncomputable def cMeth (o:Expr) (m:Str) (args:List Expr) (kw:List Keyword):Option CE:=(pick m meths).bind fun mm=>(F K o).bind fun o=>(cL (F K) args).bind fun as=>(cL (cKw F K) kw).map fun ks=>.meth o mm as ks
noncomputable def cCall (x:Str) (args:List Expr) (kw:List Keyword):Option CE:=(cName K x).bind fun f=>(cL (F K) args).bind fun as=>(cL (cKw F K) kw).map fun ks=>.call f as ks
noncomputable def setArgF (K:Str→Option NameKind) (v:View) (args:List Expr) (kw:List Keyword):Option Expr:=View.casesOn (motive:=fun _=>Option Expr) v no3 no4 no3 no4 no4 no4 no4 no4 no3 no3 no3 (fun y _=>gd (isGlob K y "set") (l0 (lOne some args) kw)) no2 no3 no4 fun _=>none
noncomputable def setArg (K:Str→Option NameKind) (v:View):Option Expr:=View.casesOn (motive:=fun _=>Option Expr) v no3 no4 no3 no4 no4 no4 no4 (fun f args kw _=>setArgF K (view f) args kw) no3 no3 no3 no2 no2 no3 no4 fun _=>none
noncomputable def cLenSet (args:List Expr) (kw:List Keyword):Option CE:=l0 (lOne (fun a=>(setArg K (view a)).bind fun e=>(F K e).map .lenSet) args) kw
noncomputable def orE {β:Type} (a b:Option β):Option β:=Option.casesOn (motive:=fun _=>Option β) a b some
noncomputable def cNm (x:Str) (args:List Expr) (kw:List Keyword):Option CE:=Bool.casesOn (motive:=fun _=>Option CE) (isGlob K x "Headers") (Bool.casesOn (motive:=fun _=>Option CE) (isGlob K x "sorted")
  (Bool.casesOn (motive:=fun _=>Option CE) (isGlob K x "len") (cCall F K x args kw) (orE (cLenSet F K args kw) (cCall F K x args kw))) (cSort F K args kw)) (l0 (l0 (some .newHeaders) kw) args)
noncomputable def cCallV (v:View) (args:List Expr) (kw:List Keyword) (pos:Pos):Option CE:=View.casesOn (motive:=fun _=>Option CE) v no3 no4 no3 no4 no4 no4 no4 no4 no3 (fun o m apos=>gd (apos.endLine == pos.line) (cMeth F K o m args kw)) no3 (fun x _=>cNm F K x args kw) no2 no3 no4 fun _=>none
noncomputable def cV (v:View):Option CE:=View.casesOn (motive:=fun _=>Option CE) v (fun op vs _=>cBool F K op vs) (fun l op r _=>(cOp op).bind fun o=>(F K l).bind fun a=>(F K r).map fun b=>.bin o a b) (fun op x _=>cUn F K op x) no4
  (fun t a b _=>(F K t).bind fun t=>(F K a).bind fun a=>(F K b).map fun b=>.ite t a b) (fun elt gens sc _=>cComp F K elt gens sc) (fun l ops rs _=>cCmpE F K l ops rs) (fun f args kw pos=>cCallV F K (view f) args kw pos) (fun c _ _=>cCon c)
  (fun o a _=>gd (a == ("_headers":Str)) ((F K o).map .attr)) (fun o s _=>cSub F K o (view s) ((F K o).bind fun o=>(F K s).map fun s=>.item o s)) (fun x _=>gd (!(x == ("__debug__":Str))) (cName K x)) (fun es _=>(cL (F K) es).map .lst) (fun es _ _=>(cL (F K) es).map .tup) no4 fun _=>none
end
noncomputable def cpE (n:Nat):(Str→Option NameKind)→Expr→Option CE:=Nat.rec (motive:=fun _=>(Str→Option NameKind)→Expr→Option CE) (fun _ _=>none) (fun _ F K e=>cV F K (view e)) n
noncomputable def tup? (e:Expr):Option (List Expr):=View.casesOn (motive:=fun _=>Option (List Expr)) (view e) no3 no4 no3 no4 no4 no4 no4 no4 no3 no3 no3 no2 no2 (fun es _ _=>some es) no4 fun _=>none
noncomputable def swOk (t v:Expr):Bool:=Option.casesOn (motive:=fun _=>Bool) (tup? t) true fun _=>Option.casesOn (motive:=fun _=>Bool) (tup? v) true fun vs=>!(vs.all (constantsAlone 8)) || vs.all (foldedForSure 8)
inductive SView where
  | asg (ts:List Expr) (v:Expr) (p:Pos)
  | aug (t:Expr) (op:Operator) (v:Expr) (p:Pos)
  | expr (v:Expr) (p:Pos)
  | ret (v:Option Expr) (p:Pos)
  | ifs (t:Expr) (a b:List Stmt) (p:Pos)
  | whl (t:Expr) (b o:List Stmt) (p:Pos)
  | fr (t it:Expr) (b o:List Stmt) (p:Pos)
  | asrt (t:Expr) (m:Option Expr) (p:Pos)
  | other (s:Stmt)
noncomputable def sview (s:Stmt):SView:=Stmt.casesOn (motive_2:=fun _=>SView) s (fun a b c d e f g h i j=>.other (.FunctionDef a b c d e f g h i j)) (fun a b c d e f g h i j=>.other (.AsyncFunctionDef a b c d e f g h i j)) (fun a b c d e f g h i j k=>.other (.ClassDef a b c d e f g h i j k)) .ret (fun a b=>.other (.Delete a b)) .asg
  (fun a b c d e f g=>.other (.TypeAlias a b c d e f g)) .aug (fun a b c d e=>.other (.AnnAssign a b c d e)) .fr (fun a b c d e=>.other (.AsyncFor a b c d e)) .whl .ifs (fun a b c=>.other (.With a b c)) (fun a b c=>.other (.AsyncWith a b c)) (fun a b c=>.other (.Match a b c)) (fun a b c=>.other (.Raise a b c))
  (fun a b c d e=>.other (.Try a b c d e)) (fun a b c d e=>.other (.TryStar a b c d e)) .asrt (fun a b=>.other (.Import a b)) (fun a b c d=>.other (.ImportFrom a b c d)) (fun a b=>.other (.Global a b)) (fun a b=>.other (.Nonlocal a b)) .expr (fun a=>.other (.Pass a)) (fun a=>.other (.Break a)) (fun a=>.other (.Continue a))
noncomputable def SView.st (v:SView):Stmt:=SView.casesOn (motive:=fun _=>Stmt) v .Assign .AugAssign .Expr .Return .If .While .For .Assert id
noncomputable def isCall (e:Expr):Bool:=View.casesOn (motive:=fun _=>Bool) (view e) (fun _ _ _=>false) (fun _ _ _ _=>false) (fun _ _ _=>false) (fun _ _ _ _=>false) (fun _ _ _ _=>false) (fun _ _ _ _=>false) (fun _ _ _ _=>false) (fun _ _ _ _=>true) (fun _ _ _=>false) (fun _ _ _=>false) (fun _ _ _=>false) (fun _ _=>false) (fun _ _=>false) (fun _ _ _=>false) (fun _ _ _ _=>false) fun _=>false
noncomputable def locP (p:Pl):Option Nat:=Pl.casesOn (motive:=fun _=>Option Nat) p some fun _=>none
section
variable (G:(Str→Option NameKind)→Stmt→Option CS) (K:Str→Option NameKind)
noncomputable def cFor (t:Tg) (it:It) (b:List Stmt):Option CS:=It.casesOn (motive_3:=fun _=>Option CS) it (fun c=>(cL (G K) b).map fun b=>.for t (.of c) b) (fun c=>(cL (G K) b).map fun b=>.for t (.range c) b) (fun c=>(cL (G K) b).map fun b=>.for t (.enum c) b) fun c=>some (.for t (.items c) [])
noncomputable def cS (v:SView):Option CS:=SView.casesOn (motive:=fun _=>Option CS) v (fun ts v _=>lOne (fun t=>gd (swOk t v) ((cTg K t).bind fun t=>(cpE 40 K v).map fun v=>.assign t v)) ts)
  (fun t op v _=>gd (decide (op=.Add)) ((cTg1 K t).bind fun p=>(locP p).bind fun i=>(cpE 40 K v).map fun v=>.aug i v)) (fun v _=>gd (isCall v) ((cpE 40 K v).map .expr)) (fun v _=>o1 (fun v=>(cpE 40 K v).map .ret) v)
  (fun t a b _=>(cpE 40 K t).bind fun t=>(cL (G K) a).bind fun a=>(cL (G K) b).map fun b=>.ifs t a b) (fun t b o _=>l0 ((cpE 40 K t).bind fun t=>(cL (G K) b).map fun b=>.whil t b) o)
  (fun t it b o _=>l0 ((cTg K t).bind fun t=>(cIt (cpE 40) K it).bind fun it=>cFor G K t it b) o) (fun t _ _=>(cpE 40 K t).map .assert) fun _=>none
end
noncomputable def cpS (n:Nat):(Str→Option NameKind)→Stmt→Option CS:=Nat.rec (motive:=fun _=>(Str→Option NameKind)→Stmt→Option CS) (fun _ _=>none) (fun _ G K s=>orE (cS G K (sview s)) (some .raise)) n
noncomputable def code (st:Option Stmt):List CS:=(cL (cpS 20 (kinds (scopeAt st))) (bodyAt st)).getD []
noncomputable def plainFn (ps:List Pl) (st:Option Stmt):Fn:=⟨[ps.length],ps.map fun p=>⟨p,none⟩,[],none,code st⟩
noncomputable def keyFn (st:Option Stmt):Fn:=⟨[2,4],[⟨.loc 0,none⟩,⟨.loc 1,none⟩,⟨.loc 2,some (.int 0)⟩,⟨.loc 3,some .none⟩],[(4,⟨.loc 4,some .none⟩)],none,code st⟩
noncomputable def convFn:Fn:=⟨[2],[⟨.loc 14,none⟩,⟨.loc 18,none⟩],[(19,⟨.loc 19,none⟩)],none,code (methAt 1)⟩
noncomputable def addFn:Fn:=⟨[3],[⟨.loc 14,none⟩,⟨.loc 21,none⟩,⟨.loc 22,none⟩],[],some (.loc 23),code (methAt 16)⟩
noncomputable def at1 {α:Type} (a:Nat) (l:List (Nat × α)):Option α:=List.rec (motive:=fun _=>Option α) none (fun x _ ih=>Bool.casesOn (motive:=fun _=>Option α) (Nat.beq x.1 a) ih (some x.2)) l
noncomputable def fnTab:List (Nat × Fn):=[(47,keyFn (stAt 2)),(56,keyFn (stAt 3)),(65,keyFn (stAt 4)),(74,keyFn (stAt 5)),(81,plainFn [.loc 6,.loc 7] (stAt 8)),(99,plainFn [.loc 12] (stAt 11)),(145,plainFn [.loc 12] (stAt 13)),(190,convFn),(228,plainFn [.loc 14,.cel 19] (methAt 7)),(286,addFn),(300,plainFn [] (stAt 21)),(307,plainFn [.loc 16] (stAt 22)),(314,plainFn [.loc 16] (stAt 23)),(321,plainFn [.loc 26,.loc 16] (stAt 24)),(326,plainFn [.cel 27,.loc 28] (stAt 25)),(331,plainFn [.loc 30] (stAt 26)),(338,plainFn [.loc 28] (stAt 27)),(345,plainFn [.loc 37] (stAt 28)),(350,plainFn [.loc 34,.cel 38,.loc 39,.cel 40] (stAt 29)),(355,plainFn [.loc 34,.loc 38,.loc 39] (stAt 30)),(362,plainFn [.loc 27] (stAt 31)),(369,plainFn [.loc 57,.loc 45] (stAt 32)),(374,plainFn [.cel 39] (stAt 33)),(379,plainFn [.cel 45,.cel 34,.loc 61,.cel 62] (stAt 34)),(384,plainFn [.loc 45,.loc 66,.loc 64,.cel 67] (stAt 35)),(389,plainFn [.loc 69] (stAt 36))]
noncomputable def fnAt (a:Addr):Option Fn:=at1 a fnTab
noncomputable def initK:Str→Option NameKind:=kinds (scopeAt (methAt 0))
noncomputable def initSt (i:Nat):SView:=sview (((bodyAt (methAt 0))[i]?).getD default)
noncomputable def hdrI:Nat:=15
noncomputable def svE (v:SView):Expr:=SView.casesOn (motive:=fun _=>Expr) v (fun _ v _=>v) (fun _ _ _ _=>default) (fun _ _=>default) (fun _ _=>default) (fun t _ _ _=>t) (fun _ _ _ _=>default) (fun _ _ _ _ _=>default) (fun _ _ _=>default) (fun _=>default)
noncomputable def svB (v:SView):List Stmt:=SView.casesOn (motive:=fun _=>List Stmt) v (fun _ _ _=>[]) (fun _ _ _ _=>[]) (fun _ _=>[]) (fun _ _=>[]) (fun _ a _ _=>a) (fun _ _ _ _=>[]) (fun _ _ _ _ _=>[]) (fun _ _ _=>[]) (fun _=>[])
noncomputable def initE:CE:=(cpE 40 initK (svE (initSt 0))).getD .newHeaders
noncomputable def initT:CE:=(cpE 40 initK (svE (initSt 1))).getD .newHeaders
noncomputable def initF:Stmt:=((svB (initSt 3))[0]?).getD default
noncomputable def initL:CS:=(cpS 20 initK initF).getD .raise
noncomputable def k0 {β:Type} (m:X β) (kw:List (Nat × V)):X β:=List.casesOn (motive:=fun _=>X β) kw m fun _ _=>X.fail
noncomputable def callV (f:Fs) (v:V) (args:List V) (kw:List (Nat × V)):X V:=V.casesOn (motive_1:=fun _=>X V) v X.fail no1 no1 no1 no1 no1 no1 (fun a=>f.C a args kw) (fun b=>k0 (callB b args) kw) (fun t=>k0 (callT t args) kw) no1 no1
noncomputable def insR (v:V):X Unit:=V.casesOn (motive_1:=fun _=>X Unit) v X.fail no1 no1 no1 no1 no1 (fun k=>X.bind (getIns k) fun _=>X.pure ()) no1 no1 no1 no1 no1
noncomputable def rS:V→X Unit:=onS fun _=>X.pure ()
noncomputable def rL:V→X Unit:=onL fun _ _=>X.pure ()
noncomputable def rcvB (b:Bi):V→X Unit:=Bi.casesOn (motive:=fun _=>V→X Unit) b no1 no1 no1 no1 no1 no1 no1 rS rS rS rS rS rS rL rL rL (onG fun a=>X.guard (Nat.beq a 100) (X.pure ())) (onG fun a=>X.guard (Nat.beq a 155 || Nat.beq a 160) (X.pure ()))
noncomputable def rcv (m:Mth):V→X Unit:=Mth.casesOn (motive:=fun _=>V→X Unit) m rcvB insR insR insR no1
noncomputable def insM (f:Fs) (a:Addr) (o:V) (args:List V) (kw:List (Nat × V)):X V:=V.casesOn (motive_1:=fun _=>X V) o X.fail no1 no1 no1 no1 no1 (fun k=>f.C a (.ins k::args) kw) no1 no1 no1 no1 no1
noncomputable def methV (f:Fs) (m:Mth) (o:V) (args:List V) (kw:List (Nat × V)):X V:=Mth.casesOn (motive:=fun _=>X V) m (fun b=>k0 (callB b (o::args)) kw) (insM f 228 o args kw) (insM f 286 o args kw) (insM f 190 o args kw) X.fail
noncomputable def ox {α β:Type} (f:α→X β) (x:Option α):X β:=Option.casesOn (motive:=fun _=>X β) x X.fail f
noncomputable def tf {β:Type} (a b:X β) (t:Bool):X β:=Bool.casesOn (motive:=fun _=>X β) t b a
noncomputable def orE2 (f:Fs) (e:EE) (b:CE) (x:V):X V:=X.bind (truth x) (tf (X.pure x) (f.E e b))
noncomputable def insE (v:V):X V:=V.casesOn (motive_1:=fun _=>X V) v X.fail no1 no1 no1 no1 no1 getIns no1 no1 no1 no1 no1
noncomputable def compE (f:Fs) (e:EE) (fr:List Nat) (elt:CE) (gs:List Gen):X V:=List.casesOn (motive:=fun _=>X V) gs X.fail fun g r=>Gen.casesOn (motive_2:=fun _=>X V) g fun t it ifs =>
  X.bind (evIt (f.E e) it) fun src σ=>X.bind (f.G ⟨[],only fr e.cel,0⟩ elt t src ifs r σ.length) (fun _=>X.pure (.lst σ.length)) (σ++[.lst []])
noncomputable def newE (f:Fs):X V:=X.bind (f.E ⟨[(hdrI,.none)],[],0⟩ initE) fun v=>X.bind (f.T ⟨[(hdrI,v)],[],0⟩ initT) (tf X.fail (X.bind (f.S ⟨[(hdrI,v)],[],0⟩ initL) fun r =>
  r.1.el (fun σ=>some (.ins σ.length,σ++[.ins v])) no1))
noncomputable def lenSetV (v:V):X V:=onL (fun _ xs=>X.bind (X.of (vStrs xs)) fun ys=>X.guard (decide (ys.length < 4000)) (X.pure (.int (dedupS ys).length))) v
noncomputable def sortV (f:Fs) (e:EE) (fr:List Nat) (p:Pl) (key:CE) (v:V):X V:=onL (fun _ xs=>X.guard (Nat.beq e.fn 379 && decide (xs.length < 64)) (X.bind (keysV (fun x=>f.E (EE.set ⟨[],only fr e.cel,0⟩ x p) key) xs) fun kvs =>
  X.bind (readKeys kvs) fun ks=>X.guard (ks.all fun y=>Nat.beq y.length 4) (X.bind (X.of (sortK ks xs)) newLst))) v
noncomputable def stepE (f:Fs) (e:EE) (c:CE):X V:=CE.casesOn (motive_1:=fun _=>X V) c X.pure (fun p=>X.of (e.get p)) (fun es=>X.bind (evs (f.E e) es) fun vs=>X.guard (big vs.length) (newLst vs)) (fun es=>X.bind (evs (f.E e) es) fun vs=>X.guard (big vs.length) (X.pure (.tup vs)))
  (fun op a b=>X.bind (f.E e a) fun x=>X.bind (f.E e b) fun y=>binV op x y) (fun a=>X.bind (f.E e a) (onI fun i=>X.pure (.int (-i)))) (fun _=>X.fail) (fun op a b=>X.bind (f.E e a) fun x=>X.bind (f.E e b) fun y=>cmpV op x y) (fun _ _ _=>X.fail)
  (fun a b=>X.bind (f.E e a) (orE2 f e b)) (fun t a b=>X.bind (f.T e t) (tf (f.E e a) (f.E e b))) (fun g args kw=>X.bind (f.E e g) fun fv=>X.bind (evs (f.E e) args) fun as=>X.bind (evKw (f.E e) kw) fun ks=>callV f fv as ks)
  (fun o m args kw=>X.guard (decide (args.length+kw.length < 20)) (X.bind (f.E e o) fun ov=>X.bind (rcv m ov) fun _=>X.bind (evs (f.E e) args) fun as=>X.bind (evKw (f.E e) kw) fun ks=>methV f m ov as ks)) (fun o=>X.bind (f.E e o) insE) (fun o i=>X.bind (f.E e o) fun x=>X.bind (f.E e i) fun y=>itemV x y)
  (fun o lo hi=>X.bind (f.E e o) fun x=>X.bind (evO (f.E e) lo) fun a=>X.bind (evO (f.E e) hi) fun b=>sliceV x a b) (fun o=>X.bind (f.E e o) revV) (compE f e) (newE f) (fun c=>X.bind (f.E e c) lenSetV) (fun fr c p key=>X.bind (f.E e c) (sortV f e fr p key))
noncomputable def tst (f:Fs) (e:EE) (c:CE):X Bool:=X.bind (f.E e c) truth
noncomputable def stepT (f:Fs) (e:EE) (c:CE):X Bool:=CE.casesOn (motive_1:=fun _=>X Bool) c no1 (fun p=>tst f e (.var p)) no1 no1 (fun _ _ _=>X.fail) no1 (fun c=>X.bind (f.T e c) fun b=>X.pure !b) (fun op a b=>tst f e (.cmp op a b))
  (fun a b c=>ox (fun a=>ox (fun b=>X.bind (f.T e a) (tf (X.bind (f.T e b) (tf (Option.casesOn (motive:=fun _=>X Bool) c (X.pure true) (f.T e)) (X.pure false))) (X.pure false))) b) a)
  (fun _ _=>X.fail) (fun _ _ _=>X.fail) (fun g args kw=>tst f e (.call g args kw)) (fun o m args kw=>tst f e (.meth o m args kw)) no1 (fun _ _=>X.fail) (fun _ _ _=>X.fail) no1 (fun _ _ _=>X.fail) X.fail no1 (fun _ _ _ _=>X.fail)
noncomputable def exprV (e:EE) (v:V):X (Fl × EE):=V.casesOn (motive_1:=fun _=>X (Fl × EE)) v (X.pure (.next,e)) no1 no1 no1 no1 no1 no1 no1 no1 no1 no1 no1
noncomputable def augV (x y:V):X V:=onII (fun a b=>X.pure (.int (a+b))) x y
noncomputable def stepS (f:Fs) (e:EE):CS→X (Fl × EE)
  | .assign t c=>X.bind (f.E e c) fun v=>X.bind (X.of (assignT e t v)) fun e'=>X.pure (.next,e')
  | .aug p c=>X.bind (X.of (lk e.loc p)) fun x=>X.bind (f.E e c) fun y=>X.bind (augV x y) fun v=>X.pure (.next,e.set v (.loc p))
  | .expr c=>X.bind (f.E e c) (exprV e)
  | .ret c=>X.bind (f.E e c) fun v=>X.pure (.ret v,e)
  | .ifs t a b=>X.bind (f.T e t) (tf (execsV f.S e a) (execsV f.S e b))
  | .whil t b=>f.W e t b
  | .for t it b=>X.bind (evIt (f.E e) it) fun src=>f.L e t src b
  | .assert t=>X.bind (f.T e t) fun t=>X.guard t (X.pure (.next,e))
  | .raise=>X.fail
noncomputable def stepC (f:Fs) (a:Addr) (args:List V) (kw:List (Nat × V)):X V :=
  X.bind (X.of (fnAt a)) fun fn=>X.bind (fn.bind args kw) fun e=>X.bind (execsV f.S { e with fn:=a } fn.body) fun r=>r.1.el (X.pure .none) X.pure
noncomputable def nx {β:Type} (m:X β) (k:V→Src→X β) (o:Option (V × Src)):X β:=Option.casesOn (motive:=fun _=>X β) o m fun p=>k p.1 p.2
noncomputable def stepL (f:Fs) (e:EE) (t:Tg) (src:Src) (b:List CS):X (Fl × EE) :=
  X.guard (tgOk t src) (X.bind (srcNext src) (nx (X.pure (.next,e)) fun v src'=>X.bind (X.of (assignT e t v)) fun e1=>X.bind (execsV f.S e1 b) fun x=>x.1.el (f.L x.2 t src' b) fun v=>X.pure (.ret v,x.2)))
noncomputable def stepW (f:Fs) (e:EE) (t:CE) (b:List CS):X (Fl × EE) :=
  X.bind (f.T e t) (tf (X.bind (execsV f.S e b) fun x=>x.1.el (f.W x.2 t b) fun v=>X.pure (.ret v,x.2)) (X.pure (.next,e)))
noncomputable def pushE (f:Fs) (e1:EE) (elt:CE) (k:Nat) (m:X EE):X EE:=X.bind (f.E e1 elt) fun x=>X.bind (getLst k) fun xs=>X.guard (big xs.length) (X.bind (setLst k (xs++[x])) fun _=>m)
noncomputable def stepG (f:Fs) (e:EE) (elt:CE) (t:Tg) (src:Src) (ifs:List CE) (rest:List Gen) (k:Nat):X EE :=
  X.guard (tgOk t src && !isNil src) (X.bind (srcNext src) (nx (X.pure e) fun v src'=>X.bind (X.of (assignT e t v)) fun e1=>X.bind (allT (f.T e1) ifs) (tf (List.casesOn (motive:=fun _=>X EE) rest (pushE f e1 elt k (f.G e1 elt t src' ifs rest k))
    fun g rest'=>Gen.casesOn (motive_2:=fun _=>X EE) g fun t' it' ifs'=>X.bind (evIt (f.E e1) it') fun src2=>X.bind (f.G e1 elt t' src2 ifs' rest' k) fun e2=>f.G e2 elt t src' ifs rest k) (f.G e1 elt t src' ifs rest k))))
noncomputable def step (f:Fs):Fs:=⟨stepE f,stepT f,stepS f,stepC f,stepL f,stepW f,stepG f⟩
noncomputable def fs:Nat→Fs
  | 0=>⟨fun _ _=>X.fail,fun _ _=>X.fail,fun _ _=>X.fail,fun _ _ _=>X.fail,fun _ _ _ _=>X.fail,fun _ _ _=>X.fail,fun _ _ _ _ _ _ _=>X.fail⟩
  | n+1=>step (fs n)
noncomputable def lawV (n:Nat) (script:List Int):Option Bool:=match (fs n).C 389 [.scr script] [] [] with
  | some (.bool b,_)=>some b
  | _=>none
end Mine
end
section
open PySem PySem.W PyProof.Rows PySem.SeqAt
set_option maxRecDepth 100000
namespace Mine
noncomputable def Bi.id:Bi→String
  | .len=>"len" | .chr=>"chr" | .ord=>"ord" | .abs=>"abs" | .min=>"min" | .max=>"max" | .sum=>"sum"
  | .split=>"str.split" | .find=>"str.find" | .lower=>"str.lower" | .upper=>"str.upper" | .join=>"str.join" | .index=>"str.index"
  | .append=>"list.append" | .insert=>"list.insert" | .extend=>"list.extend" | .dget=>"dict.get" | .search=>"re.Pattern.search"
noncomputable def Ty.nm:Ty→String
  | .list=>"list" | .str=>"str" | .typ=>"type"
structure Scr where
  l:Addr
  xs:List Int
mutual
inductive VR (Z:Scr) (μ:List Addr) (h:Heap):V→Value→Prop
  | none:VR Z μ h .none .none
  | bool (b):VR Z μ h (.bool b) (.bool b)
  | int (i t):VR Z μ h (.int i) (.int i t)
  | str (x t):VR Z μ h (.str x) (.str x t)
  | tup {l a o vs n}:h.get? a=some o→o.cls=.type "tuple"→o.data=.seq vs n→VRs Z μ h l vs.toList→VR Z μ h (.tup l) (.ref a)
  | lst {k:Nat} {a:Addr}:μ[k]?=some a→VR Z μ h (.lst k) (.ref a)
  | ins {k:Nat} {a:Addr} {o d}:h.get? a=some o→o.cls=.ref 289→o.data=.plain→o.dict=some d→μ[k]?=some d→VR Z μ h (.ins k) (.ref a)
  | glob (a):VR Z μ h (.glob a) (.ref a)
  | bi (b:Bi):VR Z μ h (.bi b) (.builtin b.id)
  | ty (t:Ty):VR Z μ h (.ty t) (.type t.nm)
  | kw0 {k:Nat} {a:Addr}:μ[k]?=some a→VR Z μ h (.kw0 k) (.ref a)
  | scr:VR Z μ h (.scr Z.xs) (.ref Z.l)
inductive VRs (Z:Scr) (μ:List Addr) (h:Heap):List V→List Value→Prop
  | nil:VRs Z μ h [] []
  | cons {v x vs xs}:VR Z μ h v x→VRs Z μ h vs xs→VRs Z μ h (v::vs) (x::xs)
end
noncomputable def Frozen (h h':Heap):Prop:=∀ a o,h.get? a=some o→((o.cls=.type "tuple"∧∃ vs n,o.data=.seq vs n)∨o.data=.plain)→h'.get? a=some o
theorem Frozen.refl (h:Heap):Frozen h h:=fun _ _ e _=>e
theorem Frozen.trans {h h' h'':Heap} (a:Frozen h h') (b:Frozen h' h''):Frozen h h'':=fun x o e f=>b x o (a x o e f) f
noncomputable def Pre (μ μ':List Addr):Prop:=∀ (k:Nat) (a:Addr),μ[k]?=some a→μ'[k]?=some a
theorem Pre.app (μ ν:List Addr):Pre μ (μ++ν):=fun k a h=>by
  rw [List.getElem?_append_left]
  · exact h
  · exact (List.getElem?_eq_some_iff.mp h).1
section
variable {Z:Scr} {μ μ':List Addr} {h h':Heap}
theorem VRs.ind {C:List V→List Value→Prop} (h0:C [] []) (h1:∀ {v x vs xs},VR Z μ h v x→VRs Z μ h vs xs→C vs xs→C (v::vs) (x::xs)) {vs xs} (r:VRs Z μ h vs xs):C vs xs :=
  VRs.rec (motive_1:=fun _ _ _=>True) (motive_2:=fun vs xs _=>C vs xs) trivial (fun _=>trivial) (fun _ _=>trivial) (fun _ _=>trivial) (fun _ _ _ _ _=>trivial) (fun _=>trivial) (fun _ _ _ _ _=>trivial) (fun _=>trivial) (fun _=>trivial) (fun _=>trivial) (fun _=>trivial) trivial h0 (fun a b _ c=>h1 a b c) r
theorem VR.mono (hp:Pre μ μ') (hf:Frozen h h') {v x} (r:VR Z μ h v x):VR Z μ' h' v x :=
  VR.rec (motive_1:=fun v x _=>VR Z μ' h' v x) (motive_2:=fun vs xs _=>VRs Z μ' h' vs xs) .none .bool .int .str (fun ho hc hd _ ih=>.tup (hf _ _ ho (.inl ⟨hc,_,_,hd⟩)) hc hd ih) (fun h=>.lst (hp _ _ h)) (fun ho hc hd h1 h2=>.ins (hf _ _ ho (.inr hd)) hc hd h1 (hp _ _ h2)) .glob .bi .ty (fun h=>.kw0 (hp _ _ h)) .scr .nil (fun _ _ a b=>.cons a b) r
theorem VRs.mono (hp:Pre μ μ') (hf:Frozen h h') {vs xs} (r:VRs Z μ h vs xs):VRs Z μ' h' vs xs :=
  VRs.rec (motive_1:=fun v x _=>VR Z μ' h' v x) (motive_2:=fun vs xs _=>VRs Z μ' h' vs xs) .none .bool .int .str (fun ho hc hd _ ih=>.tup (hf _ _ ho (.inl ⟨hc,_,_,hd⟩)) hc hd ih) (fun h=>.lst (hp _ _ h)) (fun ho hc hd h1 h2=>.ins (hf _ _ ho (.inr hd)) hc hd h1 (hp _ _ h2)) .glob .bi .ty (fun h=>.kw0 (hp _ _ h)) .scr .nil (fun _ _ a b=>.cons a b) r
theorem VRs.length {vs xs} (r:VRs Z μ h vs xs):vs.length=xs.length:=r.ind (C:=fun vs xs=>vs.length=xs.length) rfl fun _ _ c=>congrArg (·+1) c
theorem VRs.get {vs xs} (r:VRs Z μ h vs xs):∀ {i:Nat} {v:V},vs[i]?=some v→∃ x,xs[i]?=some x∧VR Z μ h v x :=
  r.ind (C:=fun vs xs=>∀ {i:Nat} {v:V},vs[i]?=some v→∃ x,xs[i]?=some x∧VR Z μ h v x) (fun e=>nS e) fun {_ x _ _} a _ c {i v} e=>match i,e with
    | 0,e=>⟨x,rfl,Option.some.inj e ▸ a⟩
    | _+1,e=>c e
theorem VRs.app {vs xs ws ys} (r:VRs Z μ h vs xs) (r':VRs Z μ h ws ys):VRs Z μ h (vs++ws) (xs++ys):=r.ind (C:=fun vs xs=>VRs Z μ h (vs++ws) (xs++ys)) r' fun a _ c=>.cons a c
theorem VRs.take {vs xs} (r:VRs Z μ h vs xs):∀ n,VRs Z μ h (vs.take n) (xs.take n) :=
  r.ind (C:=fun vs xs=>∀ n,VRs Z μ h (vs.take n) (xs.take n)) (fun n=>by rw [List.take_nil,List.take_nil]; exact .nil) fun a _ c n=>match n with
    | 0=>.nil
    | n+1=>.cons a (c n)
theorem VRs.drop {vs xs} (r:VRs Z μ h vs xs):∀ n,VRs Z μ h (vs.drop n) (xs.drop n) :=
  r.ind (C:=fun vs xs=>∀ n,VRs Z μ h (vs.drop n) (xs.drop n)) (fun n=>by rw [List.drop_nil,List.drop_nil]; exact .nil) fun a b c n=>match n with
    | 0=>.cons a b
    | n+1=>c n
end
structure Sim (Z:Scr) (N:Heap) (μ:List Addr) (σ:St) (h:Heap):Prop where
  len:μ.length=σ.length
  nodup:μ.Nodup
  low:∀ a∈μ,N.get? a=none
  lst:∀ (k:Nat) (xs:List V),σ[k]?=some (Cl.lst xs)→∃ a items,μ[k]?=some a∧h.PlainList a items∧VRs Z μ h xs items.toList
  ins:∀ (k:Nat) (v:V),σ[k]?=some (Cl.ins v)→∃ a m val,μ[k]?=some a∧h.Ns1 a m∧m "_headers"=some val∧(∀ x:Str,x≠("_headers":Str)→m x=none)∧VR Z μ h v val
  kw:∀ (k:Nat),σ[k]?=some Cl.kw→∃ a n,μ[k]?=some a∧h.get? a=some { cls:=.type "dict",data:=.dict #[] n }∧389 < a
noncomputable def lamQual:Str:="_law_due.<locals>.<lambda>"
noncomputable def LamCode (h:Heap) (c:Addr):Prop:=∃ o vs t,h.get? c=some o∧o.cls=.type "code"∧o.data=.fields vs∧vs[1]?=some (.str lamQual t)
noncomputable def Tab (N:Heap) (h:Heap):Prop:=∃ ps,h.IsCode 378 376 ps∧h.TableAt 378 376 ps∧(ps=#[]∨∃ c',ps=#[rawInt lamPos.line,rawInt lamPos.col,.ref c']∧N.get? c'=none∧LamCode h c')
structure Inv (h₀:Heap) (h:Heap):Prop where
  keep:∀ b o,h₀.get? b=some o→b≠376→h.get? b=some o
  tab:Tab h₀ h
structure Stp (h₀:Heap) (Xs:List Addr) (μ:List Addr) (s:Shared) (μ':List Addr) (s':Shared):Prop where
  pre:∃ new,μ'=μ++new∧∀ a∈new,s.heap.get? a=none∨a∈Xs
  keep:∀ b o,s.heap.get? b=some o→b ∉ μ→b ∉ Xs→b≠376→s'.heap.get? b=some o
  fro:Frozen s.heap s'.heap
  live:∀ b o,b ∉ Xs→s.heap.get? b=some o→∃ o',s'.heap.get? b=some o'
  os:s'.os=s.os
  gens:s'.gens=s.gens
  inv:Inv h₀ s.heap→Inv h₀ s'.heap
theorem Stp.refl (h₀:Heap) (Xs μ:List Addr) (s:Shared):Stp h₀ Xs μ s μ s :=
  ⟨⟨[],by simp,by simp⟩,fun _ _ e _ _ _=>e,.refl _,fun _ o _ e=>⟨o,e⟩,rfl,rfl,id⟩
theorem Stp.mem {h₀:Heap} {Xs μ μ':List Addr} {s s':Shared} (x:Stp h₀ Xs μ s μ' s') {b:Addr} {o:Obj} (e:s.heap.get? b=some o) (hb:b ∉ μ) (hx:b ∉ Xs):b ∉ μ':=by
  obtain ⟨new,rfl,hn⟩:=x.pre
  rw [List.mem_append,not_or]
  exact ⟨hb,fun h=>(hn b h).elim (fun q=>nomatch (q.symm.trans e)) hx⟩
theorem Stp.trans {h₀:Heap} {Xs μ μ' μ'':List Addr} {s s' s'':Shared} (x:Stp h₀ Xs μ s μ' s') (y:Stp h₀ Xs μ' s' μ'' s''):Stp h₀ Xs μ s μ'' s'':=by
  refine ⟨?_,fun b o e h1 h2 h3=>y.keep b o (x.keep b o e h1 h2 h3) (x.mem e h1 h2) h2 h3,x.fro.trans y.fro,fun b o h e=>let ⟨o1,e1⟩:=x.live b o h e; y.live b o1 h e1,y.os.trans x.os,y.gens.trans x.gens,fun i=>y.inv (x.inv i)⟩
  obtain ⟨n1,rfl,h1⟩:=x.pre
  obtain ⟨n2,rfl,h2⟩:=y.pre
  refine ⟨n1++n2,by simp,fun a ha=>?_⟩
  rcases List.mem_append.mp ha with h | h
  · exact h1 a h
  · rcases h2 a h with q | q
    · cases e:s.heap.get? a with
      | none=>exact .inl rfl
      | some o =>
        by_cases hx:a∈Xs
        · exact .inr hx
        · obtain ⟨o1,e1⟩:=x.live a o hx e; rw [q] at e1; cases e1
    · exact .inr q
theorem Stp.Pre {h₀:Heap} {Xs μ μ':List Addr} {s s':Shared} (x:Stp h₀ Xs μ s μ' s'):Pre μ μ':=by
  obtain ⟨n1,rfl,_⟩:=x.pre; exact Pre.app _ _
theorem Stp.vr {h₀:Heap} {Z:Scr} {Xs μ μ':List Addr} {s s':Shared} (x:Stp h₀ Xs μ s μ' s') {v val} (r:VR Z μ s.heap v val):VR Z μ' s'.heap v val:=r.mono x.Pre x.fro
theorem Stp.vrs {h₀:Heap} {Z:Scr} {Xs μ μ':List Addr} {s s':Shared} (x:Stp h₀ Xs μ s μ' s') {v val} (r:VRs Z μ s.heap v val):VRs Z μ' s'.heap v val:=r.mono x.Pre x.fro
theorem Stp.wide {h₀:Heap} {Xs Ys μ μ':List Addr} {s s':Shared} (x:Stp h₀ Xs μ s μ' s') (h:∀ a∈Xs,a∈Ys):Stp h₀ Ys μ s μ' s' :=
  { x with
    keep:=fun b o e h1 h2 h3=>x.keep b o e h1 (fun q=>h2 (h b q)) h3
    live:=fun b o h1 e=>x.live b o (fun q=>h1 (h b q)) e
    pre:=let ⟨n,e,hn⟩:=x.pre; ⟨n,e,fun a ha=>(hn a ha).imp id (h a)⟩ }
noncomputable def nm (i:Nat):Option Str:=names[i]?
theorem numFrom_nm {x:Str} {i:Nat} (l:List Str):∀ {n:Nat},numFrom x l n=some i→∃ k,i=n+k∧l[k]?=some x:=by
  induction l with
  | nil=>exact nS
  | cons y r ih =>
    intro n h
    replace h:Bool.casesOn (motive:=fun _=>Option Nat) (y == x) (numFrom x r (n+1)) (some n)=some i:=h
    cases q:y == x with
    | true=>rw [q] at h; exact ⟨0,(Option.some.inj h).symm,congrArg some (eq_of_beq q)⟩
    | false=>rw [q] at h; exact exA (ih h) fun k e1 e2=>⟨k+1,e1.trans (Nat.succ_add n k),e2⟩
theorem num_nm {x:Str} {i:Nat} (h:num x=some i):nm i=some x:=exA (numFrom_nm names h) fun k e1 e2=>e1 ▸ (Nat.zero_add k).symm ▸ e2
theorem names_nodup:names.Nodup:=by decide +kernel
theorem nm_inj {i j:Nat} {x:Str} (h:nm i=some x) (h':nm j=some x):i=j:=by
  obtain ⟨h1,e1⟩:=List.getElem?_eq_some_iff.mp h
  obtain ⟨h2,e2⟩:=List.getElem?_eq_some_iff.mp h'
  have p:=List.pairwise_iff_getElem.mp names_nodup
  rcases Nat.lt_trichotomy i j with q | q | q
  · exact absurd (e1.trans e2.symm) (p i j h1 h2 q)
  · exact q
  · exact absurd (e2.trans e1.symm) (p j i h2 h1 q)
structure EnvR (Z:Scr) (N:Heap) (μ:List Addr) (e:EE) (env:Env) (h:Heap):Prop where
  kind:env.scope.kind=.function
  glob:env.globals=mainNs
  bl:env.builtins=builtinsNs
  Lμ:env.locals ∉ μ
  Llow:N.get? env.locals=none
  ns:∃ m,h.Ns env.locals m∧∀ i v,lk e.loc i=some v→∃ x val,nm i=some x∧m x=some val∧VR Z μ h v val
  cells:∀ i v,lk e.cel i=some v→∃ x c val,nm i=some x∧env.cells.lookup x=some c∧h.IsCell c (some val)∧VR Z μ h v val
  has:∀ x,env.kindOf x=some .cell∨env.kindOf x=some .free→∃ c,env.cells.lookup x=some c
  cellsOk:∀ x c,(x,c)∈env.cells→(∃ ov,h.IsCell c ov)∧c ∉ μ∧N.get? c=none
  apart:env.cells.Pairwise fun x y=>x.2≠y.2
  code:e.fn=379→env.code=.ref 378∧env.qual="_law_due.<locals>."
noncomputable def ownC (K:Str→Option NameKind) (y:Str × Addr):Bool:=match K y.1 with
  | some .cell=>true
  | _=>false
noncomputable def Xof (K:Str→Option NameKind) (env:Env):List Addr:=env.locals::(env.cells.filter (ownC K)).map (·.2)
structure KR (K:Str→Option NameKind) (env:Env):Prop where
  loc:∀ x,K x=some .local→env.kindOf x=some .local
  cel:∀ x,K x=some .cell∨K x=some .free→(env.kindOf x=some .cell∨env.kindOf x=some .free)
  glo:∀ x,K x=some .globalImplicit→env.kindOf x=some .globalImplicit
theorem EnvR.stpX {Z:Scr} {h₀:Heap} {μ μ':List Addr} {e:EE} {env:Env} {s s':Shared} {Xs:List Addr} (R:EnvR Z h₀ μ e env s.heap) (x:Stp h₀ Xs μ s μ' s') (hL:env.locals ∉ Xs) (hC:∀ y c,(y,c)∈env.cells→c ∉ Xs) (h376:∃ o,h₀.get? 376=some o):EnvR Z h₀ μ' e env s'.heap:=by
  have k:∀ b o,b ∉ Xs→h₀.get? b=none→s.heap.get? b=some o→b ∉ μ→s'.heap.get? b=some o:=fun b o hX hb e hm=>x.keep b o e hm hX (fun q=>by obtain ⟨o1,e1⟩:=h376; rw [← q,hb] at e1; cases e1)
  refine hid fun GG kk=>?_
  refine exA (R.ns) fun m hn hm=>?_
  obtain ⟨oL,es,ep,hoL,hdL,rL⟩:=id hn
  refine kk ?_
  clear kk GG
  refine ⟨R.kind,R.glob,R.bl,x.mem hoL R.Lμ hL,R.Llow,⟨m,⟨oL,es,ep,k _ _ hL R.Llow hoL R.Lμ,hdL,rL⟩,fun i v h=>?_⟩,fun i v h=>?_,R.has,fun y c h=>?_,R.apart,R.code⟩
  · refine exE (hm i v h) fun y zz=>exE zz fun val zz=>anE zz fun h1 zz=>anE zz fun h2 h3=>?_
    exact ⟨y,val,h1,h2,x.vr h3⟩
  · obtain ⟨y,c,val,h1,h2,⟨o,ho,hd⟩,h4⟩:=R.cells i v h
    obtain ⟨_,hcμ,hcl⟩:=R.cellsOk y c (mem_of_lookup h2)
    exact ⟨y,c,val,h1,h2,⟨o,k _ _ (hC _ _ (mem_of_lookup h2)) hcl ho hcμ,hd⟩,x.vr h4⟩
  · obtain ⟨⟨ov,o,ho,hd⟩,hcμ,hcl⟩:=R.cellsOk y c h
    exact ⟨⟨ov,o,k _ _ (hC _ _ h) hcl ho hcμ,hd⟩,x.mem ho hcμ (hC _ _ h),hcl⟩
theorem EnvR.stp {Z:Scr} {h₀:Heap} {μ μ':List Addr} {e:EE} {env:Env} {s s':Shared} (R:EnvR Z h₀ μ e env s.heap) (x:Stp h₀ [] μ s μ' s') (h376:∃ o,h₀.get? 376=some o):EnvR Z h₀ μ' e env s'.heap :=
  R.stpX x (by simp) (by simp) h376
structure Base (w:World) (h₀:Heap) (Z:Scr):Prop where
  wf:WF w h₀
  b376:∃ o,h₀.get? 376=some o
  b378:∃ o,h₀.get? 378=some o
  scr:∃ items,h₀.IsList Z.l items∧IntsAre items.toList Z.xs
  low:390≤Z.l
  len:Z.xs.length≤63
noncomputable def GoodA (n:Nat) (A:Around):Prop:=A.handled=none∧A.depth+2 * n < 990∧A.units+16 * n+200 < cLine
theorem GoodA.le {n m:Nat} {A:Around} (g:GoodA n A) (h:m≤n):GoodA m A:=⟨g.1,by have:=g.2.1; omega,by have:=g.2.2; omega⟩
theorem GoodA.room {n:Nat} {A:Around} (g:GoodA n A):A.depth < recursionLimit:=by have:=g.2.1; unfold recursionLimit; omega
theorem GoodA.cu {n:Nat} {A:Around} (g:GoodA n A):A.units+64 < cLine:=by have:=g.2.2; omega
theorem Tab.keeps {N:Heap} {h h':Heap} (t:Tab N h) (hk:∀ b o,h.get? b=some o→h'.get? b=some o):Tab N h':=by
  refine hid fun GG kk=>?_
  refine exE t fun ps zz=>anE zz fun h1 zz=>anE zz fun h2 h3=>?_
  refine kk ?_
  clear kk GG
  refine ⟨ps,h1.keeps hk,h2.keeps hk,?_⟩
  rcases h3 with h3 | ⟨c',e,hl,o,vs,t,h4,h5,h6⟩
  · exact .inl h3
  · exact .inr ⟨c',e,hl,o,vs,t,hk _ _ h4,h5,h6⟩
theorem Inv.ext {h₀ h h':Heap} (i:Inv h₀ h) (hk:∀ b o,h.get? b=some o→h'.get? b=some o):Inv h₀ h' :=
  ⟨fun b o e n=>hk _ _ (i.keep b o e n),i.tab.keeps hk⟩
theorem Inv.fresh {h₀ h:Heap} (i:Inv h₀ h) {a:Addr} (e:h.get? a=none):h₀.get? a=none:=by
  cases q:h₀.get? a with
  | none=>rfl
  | some o =>
    by_cases h:a=376
    · subst h
      refine hid fun GG kk=>?_
      obtain ⟨ps,_,⟨_,ho⟩,_⟩:=i.tab
      refine kk ?_
      clear kk GG
      exact absurd (e.symm.trans ho) (by simp)
    · rw [i.keep a o q h] at e; cases e
theorem get?_size (h:Heap):h.get? h.objs.size=none:=by
  cases q:h.get? h.objs.size with
  | none=>rfl
  | some o=>exact absurd (Heap.lt_size q) (Nat.lt_irrefl _)
section
variable {w:World} {h₀:Heap} {Z:Scr}
theorem Stp.ext {Xs μ:List Addr} {s s':Shared} (hk:∀ b o,s.heap.get? b=some o→s'.heap.get? b=some o) (ho:s'.os=s.os) (hg:s'.gens=s.gens):Stp h₀ Xs μ s μ s' :=
  ⟨⟨[],by simp,by simp⟩,fun b o e _ _ _=>hk b o e,fun b o e _=>hk b o e,fun b o _ e=>⟨o,hk b o e⟩,ho,hg,fun i=>i.ext hk⟩
theorem Stp.toks {Xs μ:List Addr} {s:Shared} (t:Nat):Stp h₀ Xs μ s μ { s with toks:=t }:=Stp.ext (fun _ _ e=>e) rfl rfl
theorem Stp.push {Xs μ:List Addr} {s:Shared} (o:Obj) (t:Nat):Stp h₀ Xs μ s μ { s with heap:=s.heap.push o,toks:=t } :=
  Stp.ext (fun _ _ e=>Heap.get?_push_of_some _ e) rfl rfl
theorem Ns.ext {h h':Heap} {a:Addr} {m} (n:h.Ns a m) (hk:∀ o,h.get? a=some o→h'.get? a=some o):h'.Ns a m :=
  let ⟨o,es,ep,x,r⟩:=n; ⟨o,es,ep,hk _ x,r⟩
theorem Ns1.ext {h h':Heap} {a:Addr} {m} (n:h.Ns1 a m) (hk:∀ o,h.get? a=some o→h'.get? a=some o):h'.Ns1 a m :=
  let ⟨o,es,ep,x,r⟩:=n; ⟨o,es,ep,hk _ x,r⟩
theorem IsList.ext {h h':Heap} {a:Addr} {items} (n:h.IsList a items) (hk:∀ o,h.get? a=some o→h'.get? a=some o):h'.IsList a items :=
  let ⟨o,x,r⟩:=n; ⟨o,hk _ x,r⟩
theorem Sim.ext {N:Heap} {μ:List Addr} {σ:St} {h h':Heap} (S:Sim Z N μ σ h) (hk:∀ b o,h.get? b=some o→h'.get? b=some o):Sim Z N μ σ h':=by
  have hp:Pre μ μ:=fun _ _ e=>e
  have hf:Frozen h h':=fun b o e _=>hk b o e
  refine ⟨S.len,S.nodup,S.low,fun k xs e=>?_,fun k v e=>?_,fun k e=>?_⟩
  · refine exE (S.lst k xs e) fun a zz=>exE zz fun items zz=>anE zz fun h1 zz=>anE zz fun h2 h3=>?_
    exact ⟨a,items,h1,h2.at fun o e=>hk _ _ e,h3.mono hp hf⟩
  · obtain ⟨a,m,val,h1,h2,h3,h4,h5⟩:=S.ins k v e
    exact ⟨a,m,val,h1,Ns1.ext h2 fun o e=>hk _ _ e,h3,h4,h5.mono hp hf⟩
  · refine exE (S.kw k e) fun a zz=>exE zz fun n zz=>anE zz fun h1 zz=>anE zz fun h2 h3=>?_
    exact ⟨a,n,h1,hk _ _ h2,h3⟩
theorem Sim.toks {N:Heap} {μ:List Addr} {σ:St} {s:Shared} (S:Sim Z N μ σ s.heap) (t:Nat):Sim Z N μ σ ({ s with toks:=t }:Shared).heap:=S
theorem Sim.stp {N:Heap} {Xs μ μ':List Addr} {σ:St} {s s':Shared} (S:Sim Z N μ σ s.heap) (x:Stp h₀ Xs μ s μ' s') (hμ:μ'=μ) (hk:∀ a∈μ,∀ o,s.heap.get? a=some o→s'.heap.get? a=some o):Sim Z N μ σ s'.heap:=by
  subst hμ
  have hp:Pre μ' μ':=fun _ _ e=>e
  have mem:∀ {k:Nat} {a:Addr},μ'[k]?=some a→a∈μ':=fun h=>List.mem_of_getElem? h
  refine ⟨S.len,S.nodup,S.low,fun k xs e=>?_,fun k v e=>?_,fun k e=>?_⟩
  · refine exE (S.lst k xs e) fun a zz=>exE zz fun items zz=>anE zz fun h1 zz=>anE zz fun h2 h3=>?_
    exact ⟨a,items,h1,h2.at (hk _ (mem h1)),h3.mono hp x.fro⟩
  · obtain ⟨a,m,val,h1,h2,h3,h4,h5⟩:=S.ins k v e
    exact ⟨a,m,val,h1,Ns1.ext h2 (hk _ (mem h1)),h3,h4,h5.mono hp x.fro⟩
  · refine exE (S.kw k e) fun a zz=>exE zz fun n zz=>anE zz fun h1 zz=>anE zz fun h2 h3=>?_
    exact ⟨a,n,h1,hk _ (mem h1) _ h2,h3⟩
theorem Sim.fresh {N:Heap} {μ:List Addr} {σ:St} {h:Heap} (S:Sim Z N μ σ h):∀ a∈μ,∃ o,h.get? a=some o:=by
  intro a ha
  obtain ⟨k,hk,rfl⟩:=List.getElem_of_mem ha
  have hk':k < σ.length:=by rw [← S.len]; exact hk
  have e:σ[k]?=some σ[k]:=List.getElem?_eq_getElem hk'
  have em:μ[k]?=some μ[k]:=List.getElem?_eq_getElem hk
  cases hc:σ[k] with
  | lst xs =>
    rw [hc] at e
    refine hid fun GG kk=>?_
    obtain ⟨a,items,h1,⟨n,ho⟩,_⟩:=S.lst k xs e
    refine kk ?_
    clear kk GG
    rw [Option.some.inj (em.symm.trans h1)]; exact ⟨_,ho⟩
  | ins v =>
    rw [hc] at e
    refine hid fun GG kk=>?_
    obtain ⟨a,m,val,h1,⟨o,es,ep,ho,_⟩,_⟩:=S.ins k v e
    refine kk ?_
    clear kk GG
    rw [Option.some.inj (em.symm.trans h1)]; exact ⟨_,ho⟩
  | kw =>
    rw [hc] at e
    refine hid fun GG kk=>?_
    refine exE (S.kw k e) fun a zz=>exE zz fun n zz=>anE zz fun h1 zz=>anE zz fun ho _=>?_
    refine kk ?_
    clear kk GG
    rw [Option.some.inj (em.symm.trans h1)]; exact ⟨_,ho⟩
theorem Sim.snocN {N:Heap} {μ:List Addr} {σ:St} {h h':Heap} (S:Sim Z N μ σ h) (hk:∀ b o,h.get? b=some o→h'.get? b=some o) {a:Addr} (ha:a ∉ μ) (hN:N.get? a=none) {c:Cl}
    (hc:match c with
      | .lst xs=>∃ items,h'.PlainList a items∧VRs Z (μ++[a]) h' xs items.toList
      | .ins v=>∃ m val,h'.Ns1 a m∧m "_headers"=some val∧(∀ x:Str,x≠("_headers":Str)→m x=none)∧VR Z (μ++[a]) h' v val
      | .kw=>∃ n,h'.get? a=some { cls:=.type "dict",data:=.dict #[] n }∧389 < a):Sim Z N (μ++[a]) (σ++[c]) h':=by
  have S':=S.ext hk
  have hp:Pre μ (μ++[a]):=Pre.app _ _
  have hf:Frozen h' h':=.refl _
  have old:∀ {k:Nat} {c':Cl},(σ++[c])[k]?=some c'→σ[k]?=some c'∨(k=σ.length∧c=c'):=by
    intro k c' e
    by_cases hk:k < σ.length
    · rw [List.getElem?_append_left hk] at e; exact .inl e
    · rw [List.getElem?_append_right (by omega)] at e
      have:k - σ.length=0:=by
        cases hq:k - σ.length with
        | zero=>rfl
        | succ n=>rw [hq] at e; simp at e
      rw [this] at e
      exact .inr ⟨by omega,by simpa using e⟩
  have at_:(μ++[a])[σ.length]?=some a:=by rw [← S.len]; simp
  refine ⟨by simp [S.len],?_,fun b hb=>?_,fun k xs e=>?_,fun k v e=>?_,fun k e=>?_⟩
  · rw [List.nodup_append]
    refine ⟨S.nodup,by simp,fun x hx y hy=>?_⟩
    simp only [List.mem_singleton] at hy
    subst hy
    exact fun q=>ha (q ▸ hx)
  · rcases List.mem_append.mp hb with hb | hb
    · exact S.low b hb
    · simp only [List.mem_singleton] at hb
      subst hb; exact hN
  · rcases old e with e | ⟨rfl,rfl⟩
    · refine exE (S'.lst k xs e) fun b zz=>exE zz fun items zz=>anE zz fun h1 zz=>anE zz fun h2 h3=>?_
      exact ⟨b,items,hp _ _ h1,h2,h3.mono hp hf⟩
    · refine exA hc fun items h2 h3=>?_
      exact ⟨a,items,at_,h2,h3⟩
  · rcases old e with e | ⟨rfl,rfl⟩
    · obtain ⟨b,m,val,h1,h2,h3,h4,h5⟩:=S'.ins k v e
      exact ⟨b,m,val,hp _ _ h1,h2,h3,h4,h5.mono hp hf⟩
    · obtain ⟨m,val,h2,h3,h4,h5⟩:=hc
      exact ⟨a,m,val,at_,h2,h3,h4,h5⟩
  · rcases old e with e | ⟨rfl,rfl⟩
    · refine exE (S'.kw k e) fun b zz=>exE zz fun n zz=>anE zz fun h1 zz=>anE zz fun h2 h3=>?_
      exact ⟨b,n,hp _ _ h1,h2,h3⟩
    · refine exA hc fun n h2 h3=>?_
      exact ⟨a,n,at_,h2,h3⟩
theorem Sim.snoc {N:Heap} {μ:List Addr} {σ:St} {h h':Heap} (S:Sim Z N μ σ h) (hk:∀ b o,h.get? b=some o→h'.get? b=some o) {a:Addr} (ha:h.get? a=none) (hN:N.get? a=none) {c:Cl}
    (hc:match c with
      | .lst xs=>∃ items,h'.PlainList a items∧VRs Z (μ++[a]) h' xs items.toList
      | .ins v=>∃ m val,h'.Ns1 a m∧m "_headers"=some val∧(∀ x:Str,x≠("_headers":Str)→m x=none)∧VR Z (μ++[a]) h' v val
      | .kw=>∃ n,h'.get? a=some { cls:=.type "dict",data:=.dict #[] n }∧389 < a):Sim Z N (μ++[a]) (σ++[c]) h' :=
  S.snocN hk (fun q=>by obtain ⟨o,e⟩:=S.fresh a q; rw [ha] at e; cases e) hN hc
theorem VR.more {μ ν:List Addr} {h:Heap} {v x} (r:VR Z μ h v x):VR Z (μ++ν) h v x:=r.mono (Pre.app _ _) (.refl _)
theorem VRs.more {μ ν:List Addr} {h:Heap} {v x} (r:VRs Z μ h v x):VRs Z (μ++ν) h v x:=r.mono (Pre.app _ _) (.refl _)
theorem Stp.grow {Xs μ:List Addr} {s s':Shared} {a:Addr} (ha:s.heap.get? a=none) (hk:∀ b o,s.heap.get? b=some o→s'.heap.get? b=some o) (ho:s'.os=s.os) (hg:s'.gens=s.gens) :
    Stp h₀ Xs μ s (μ++[a]) s':=⟨⟨[a],rfl,fun b hb=>by simp only [List.mem_singleton] at hb; subst hb; exact .inl ha⟩,fun b o e _ _ _=>hk b o e,fun b o e _=>hk b o e,fun b o _ e=>⟨o,hk b o e⟩,ho,hg,fun i=>i.ext hk⟩
theorem Sim.write {N:Heap} {μ:List Addr} {σ:St} {h h':Heap} (S:Sim Z N μ σ h) {k:Nat} {a:Addr} {xs ys:List V} {items':Array Value} (e:σ[k]?=some (Cl.lst xs)) (ha:μ[k]?=some a)
    (hs:Heap.SameBut a h h') (hl:h'.PlainList a items') (hr:VRs Z μ h ys items'.toList):Sim Z N μ (σ.set k (.lst ys)) h'∧Frozen h h':=by
  refine hid fun GG kk=>?_
  obtain ⟨a',items,h1,⟨n,ho⟩,h3⟩:=S.lst k xs e
  refine kk ?_
  clear kk GG
  obtain rfl:a'=a:=Option.some.inj (h1.symm.trans ha)
  have hf:Frozen h h':=by
    intro b o' e' q
    have:b≠a':=by
      rintro rfl
      obtain rfl:=Option.some.inj (ho.symm.trans e')
      rcases q with q | q
      · have:=Value.type.inj q.1
        exact absurd this (by decide)
      · cases q
    exact (hs.2 b this).trans e'
  have hp:Pre μ μ:=fun _ _ e=>e
  have inj:∀ {j:Nat} {b:Addr},μ[j]?=some b→b=a'→j=k:=by
    intro j b hj hb
    subst hb
    obtain ⟨q1,e1⟩:=List.getElem?_eq_some_iff.mp hj
    obtain ⟨q2,e2⟩:=List.getElem?_eq_some_iff.mp ha
    have p:=List.pairwise_iff_getElem.mp S.nodup
    rcases Nat.lt_trichotomy j k with q | q | q
    · exact absurd (e1.trans e2.symm) (p j k q1 q2 q)
    · exact q
    · exact absurd (e2.trans e1.symm) (p k j q2 q1 q)
  have other:∀ {j:Nat} {b:Addr} {o':Obj},μ[j]?=some b→j≠k→h.get? b=some o'→h'.get? b=some o':=fun hj hne e'=>(hs.2 _ fun q=>hne (inj hj q)).trans e'
  have set_:∀ {j:Nat} {c:Cl},(σ.set k (.lst ys))[j]?=some c→(j=k∧c=.lst ys)∨(j≠k∧σ[j]?=some c):=by
    intro j c ej
    by_cases hj:k=j
    · subst hj
      rw [List.getElem?_set_self (List.getElem?_eq_some_iff.mp e).1] at ej
      exact .inl ⟨rfl,(Option.some.inj ej).symm⟩
    · rw [List.getElem?_set_ne hj] at ej
      exact .inr ⟨fun q=>hj q.symm,ej⟩
  refine ⟨⟨by rw [List.length_set]; exact S.len,S.nodup,S.low,fun j zs ej=>?_,fun j v ej=>?_,fun j ej=>?_⟩,hf⟩
  · rcases set_ ej with ⟨rfl,q⟩ | ⟨hj,ej⟩
    · cases q
      exact ⟨a',items',ha,hl,hr.mono hp hf⟩
    · refine exE (S.lst j zs ej) fun b zz=>exE zz fun its zz=>anE zz fun q1 zz=>anE zz fun q2 q3=>?_
      exact ⟨b,its,q1,q2.at fun o' e'=>other q1 hj e',q3.mono hp hf⟩
  · rcases set_ ej with ⟨rfl,q⟩ | ⟨hj,ej⟩
    · cases q
    · obtain ⟨b,m,val,q1,q2,q3,q4,q5⟩:=S.ins j v ej
      exact ⟨b,m,val,q1,Ns1.ext q2 fun o' e'=>other q1 hj e',q3,q4,q5.mono hp hf⟩
  · rcases set_ ej with ⟨rfl,q⟩ | ⟨hj,ej⟩
    · cases q
    · refine exE (S.kw j ej) fun b zz=>exE zz fun n' zz=>anE zz fun q1 zz=>anE zz fun q2 q3=>?_
      exact ⟨b,n',q1,other q1 hj q2,q3⟩
theorem Inv.write {h h':Heap} {a:Addr} (i:Inv h₀ h) (ha:h₀.get? a=none) (hs:Heap.SameBut a h h') (h378:∃ o,h₀.get? 378=some o) (h376:∃ o,h₀.get? 376=some o) (hcls:∀ o vs,h.get? a=some o→o.data=.fields vs→o.cls≠.type "code"):Inv h₀ h':=by
  have lo:∀ {b:Addr},(∃ o,h₀.get? b=some o)→b≠a:=fun ⟨o,hb⟩ q=>by rw [q,ha] at hb; cases hb
  refine ⟨fun b o e n=>(hs.2 b (lo ⟨o,e⟩)).trans (i.keep b o e n),?_⟩
  refine hid fun GG kk=>?_
  obtain ⟨ps,h1,h2,h3⟩:=i.tab
  refine kk ?_
  clear kk GG
  have n1:(378:Nat)≠a:=lo h378
  have n2:(376:Nat)≠a:=lo h376
  refine ⟨ps,h1.sameBut hs n1 n2,h2.sameBut hs n1 n2,?_⟩
  rcases h3 with h3 | ⟨c',e,hl,o,vs,t,h4,h5,h6⟩
  · exact .inl h3
  · refine .inr ⟨c',e,hl,o,vs,t,(hs.2 c' ?_).trans h4,h5,h6⟩
    rintro rfl
    exact hcls o vs h4 h6.1 h5
theorem Stp.write {Xs μ:List Addr} {s:Shared} {h':Heap} {a:Addr} {o':Obj} (ha:h₀.get? a=none) (hs:Heap.SameBut a s.heap h') (ho:h'.get? a=some o') (h378:∃ o,h₀.get? 378=some o) (h376:∃ o,h₀.get? 376=some o) (hf:Frozen s.heap h') (hcls:∀ o vs,s.heap.get? a=some o→o.data=.fields vs→o.cls≠.type "code")
    (hin:a∈μ∨a∈Xs) (t:Nat):Stp h₀ Xs μ s μ { s with heap:=h',toks:=t } :=
  ⟨⟨[],by simp,by simp⟩,fun b o e h1 h2 _=>(hs.2 b fun q=>hin.elim (fun h=>h1 (q ▸ h)) (fun h=>h2 (q ▸ h))).trans e,hf,fun b o _ e=>by
    by_cases h:b=a
    · exact ⟨o',h ▸ ho⟩
    · exact ⟨o,(hs.2 b h).trans e⟩,rfl,rfl,fun i=>i.write ha hs h378 h376 hcls⟩
end
section
variable {w:World} {h₀:Heap} {Z:Scr}
noncomputable def Wp (w:World) (h₀:Heap) (Z:Scr) (A:Around) (t:Sem Value) (μ:List Addr) (s:Shared) (σ':St) (v:V):Prop:=∀ (Q:Value→Shared→Prop) (E:Value→Shared→Prop),
  (∀ μ' s' val,Stp h₀ [] μ s μ' s'→Sim Z h₀ μ' σ' s'.heap→VR Z μ' s'.heap v val→Q val s')→wpAny (model P w) A t Q E s
noncomputable def WpB (w:World) (h₀:Heap) (Z:Scr) (A:Around) (t:Sem Bool) (μ:List Addr) (s:Shared) (σ':St) (b:Bool):Prop:=∀ (Q:Bool→Shared→Prop) (E:Value→Shared→Prop),
  (∀ μ' s',Stp h₀ [] μ s μ' s'→Sim Z h₀ μ' σ' s'.heap→Q b s')→wpAny (model P w) A t Q E s
noncomputable def WpL (w:World) (h₀:Heap) (Z:Scr) (A:Around) (t:Sem (List Value)) (μ:List Addr) (s:Shared) (σ':St) (vs:List V):Prop:=∀ (Q:List Value→Shared→Prop) (E:Value→Shared→Prop),
  (∀ μ' s' vals,Stp h₀ [] μ s μ' s'→Sim Z h₀ μ' σ' s'.heap→VRs Z μ' s'.heap vs vals→Q vals s')→wpAny (model P w) A t Q E s
structure Now (h₀:Heap) (Z:Scr) (μ:List Addr) (σ:St) (s:Shared):Prop where
  sim:Sim Z h₀ μ σ s.heap
  inv:Inv h₀ s.heap
theorem Now.stp {μ μ':List Addr} {σ σ':St} {s s':Shared} (n:Now h₀ Z μ σ s) {Xs:List Addr} (x:Stp h₀ Xs μ s μ' s') (S:Sim Z h₀ μ' σ' s'.heap):Now h₀ Z μ' σ' s':=⟨S,x.inv n.inv⟩
theorem X.of_some {α:Type} {o:Option α} {σ:St} {r:α × St} (h:X.of o σ=some r):o=some r.1∧r.2=σ:=by
  unfold X.of at h
  induction o with
  | none=>cases h
  | some a=>cases h; exact ⟨rfl,rfl⟩
theorem X.pure_some {α:Type} {a:α} {σ:St} {r:α × St} (h:X.pure a σ=some r):r=(a,σ):=by
  unfold X.pure at h; exact (Option.some.inj h).symm
theorem X.of_bind {α β:Type} {o:Option α} {f:α→X β} {σ:St} {r:β × St} (h:X.bind (X.of o) f σ=some r):∃ a,o=some a∧f a σ=some r:=by
  induction o with
  | none=>simp [X.bind,X.of] at h
  | some a=>exact ⟨a,rfl,h⟩
theorem getLst_bind {β:Type} {k:Nat} {f:List V→X β} {σ:St} {r:β × St} (h:X.bind (getLst k) f σ=some r):∃ xs,σ[k]?=some (Cl.lst xs)∧f xs σ=some r:=by
  unfold X.bind getLst at h
  cases e:σ[k]? with
  | none=>rw [e] at h; cases h
  | some c=>rw [e] at h; induction c with
    | lst xs=>exact ⟨xs,rfl,h⟩
    | ins v=>cases h
    | kw=>cases h
theorem getIns_some {k:Nat} {σ:St} {r:V × St} (h:getIns k σ=some r):σ[k]?=some (Cl.ins r.1)∧r.2=σ:=by
  unfold getIns at h
  cases e:σ[k]? with
  | none=>rw [e] at h; cases h
  | some c=>rw [e] at h; induction c with
    | ins v=>cases h; exact ⟨rfl,rfl⟩
    | lst v=>cases h
    | kw=>cases h
theorem setLst_bind {β:Type} {k:Nat} {xs:List V} {f:Unit→X β} {σ:St} {r:β × St} (h:X.bind (setLst k xs) f σ=some r):f () (σ.set k (.lst xs))=some r:=by
  unfold X.bind setLst at h
  cases e:clL σ[k]? with
  | none=>rw [e] at h; cases h
  | some c=>rw [e] at h; exact h
theorem newLst_some {xs:List V} {σ:St} {v:V} {σ':St} (h:newLst xs σ=some (v,σ')):v=.lst σ.length∧σ'=σ++[.lst xs]:=by
  unfold newLst at h; cases h; exact ⟨rfl,rfl⟩
theorem Wp.tok {A:Around} {t:Sem Value} {μ:List Addr} {σ:St} {s:Shared} {v:V} (N:Now h₀ Z μ σ s) (hv:∀ Q E,(∀ val tk,VR Z μ s.heap v val→Q val { s with toks:=tk })→wpAny (model P w) A t Q E s):Wp w h₀ Z A t μ s σ v :=
  fun Q E h=>hv Q E fun val tk r=>h μ _ val (Stp.toks tk) N.sim r
theorem Wp.newL {A:Around} {t:Sem Value} {μ:List Addr} {σ:St} {s:Shared} {xs:List V} {items:Array Value} (N:Now h₀ Z μ σ s) (hr:VRs Z μ s.heap xs items.toList)
    (ht:∀ Q E,(∀ tk n,Q (.ref s.heap.objs.size) { s with heap:=s.heap.push { cls:=.type "list",data:=.seq items n },toks:=tk })→wpAny (model P w) A t Q E s):Wp w h₀ Z A t μ s (σ++[.lst xs]) (.lst σ.length):=by
  intro Q E h
  refine ht Q E fun tk n=>h (μ++[s.heap.objs.size]) _ _ (Stp.grow (get?_size _) (fun _ _ e=>Heap.get?_push_of_some _ e) rfl rfl) ?_ (.lst ?_)
  · refine N.sim.snoc (h':=s.heap.push _) (fun _ _ e=>Heap.get?_push_of_some _ e) (get?_size _) (N.inv.fresh (get?_size _)) (c:=.lst xs) ?_
    exact ⟨items,⟨n,Heap.get?_push_size _ rfl⟩,hr.mono (Pre.app _ _) (fun _ _ e _=>Heap.get?_push_of_some _ e)⟩
  · rw [← N.sim.len]; simp
theorem big_le {n:Nat} (h:big n=true):n≤4096:=of_decide_eq_true h
theorem line_of {n:Nat} (h:n≤4096):n≤sizeLine:=Nat.le_trans h (by decide)
theorem Sim.list {N:Heap} {μ:List Addr} {σ:St} {h:Heap} (S:Sim Z N μ σ h) {k:Nat} {xs:List V} {a:Addr} (e:σ[k]?=some (Cl.lst xs)) (r:VR Z μ h (.lst k) (.ref a)):∃ items,h.PlainList a items∧VRs Z μ h xs items.toList:=by
  refine hid fun GG kk=>?_
  obtain ⟨b,items,h1,h2,h3⟩:=S.lst k xs e
  refine kk ?_
  clear kk GG
  cases r with
  | lst q=>obtain rfl:=Option.some.inj (h1.symm.trans q); exact ⟨items,h2,h3⟩
theorem X.guard_some {α:Type} {b:Bool} {m:X α} {σ:St} {r:α × St} (h:X.guard b m σ=some r):b=true∧m σ=some r:=by
  unfold X.guard at h
  induction b with
  | true=>exact ⟨rfl,h⟩
  | false=>cases h
theorem X.guardE {α:Type} {b:Bool} {m:X α} {σ:St} {r:α × St} {G:Prop} (h:X.guard b m σ=some r) (k:b=true→m σ=some r→G):G:=k (X.guard_some h).1 (X.guard_some h).2
theorem X.bindE {α β:Type} {m:X α} {f:α→X β} {σ:St} {r:β × St} {G:Prop} (h:X.bind m f σ=some r) (k:∀ a σ1,m σ=some (a,σ1)→f a σ1=some r→G):G:=let ⟨a,σ',h1,h2⟩:=X.bind_some h; k a σ' h1 h2
theorem X.bind2E {α α' β:Type} {m:X (α × α')} {f:α × α'→X β} {σ:St} {r:β × St} {G:Prop} (h:X.bind m f σ=some r) (k:∀ a b σ1,m σ=some ((a,b),σ1)→f (a,b) σ1=some r→G):G:=let ⟨⟨a,b⟩,σ',h1,h2⟩:=X.bind_some h; k a b σ' h1 h2
theorem getLstE {β:Type} {k:Nat} {f:List V→X β} {σ:St} {r:β × St} {G:Prop} (h:X.bind (getLst k) f σ=some r) (q:∀ xs,σ[k]?=some (Cl.lst xs)→f xs σ=some r→G):G:=exA (getLst_bind h) q
theorem pure2E {α β:Type} {C:α→β→St→Prop} {a v:α} {b u:β} {σ σ':St} (h:X.pure (a,b) σ=some ((v,u),σ')) (k:C a b σ):C v u σ':=by
  cases h; exact k
structure Cx (w:World) (h₀:Heap) (Z:Scr) where
  A:Around
  μ:List Addr
  σ:St
  s:Shared
  N:Now h₀ Z μ σ s
  B:Base w h₀ Z
  hA:A.handled=none
  hu:A.units+64 < cLine
variable (c:Cx w h₀ Z)
noncomputable abbrev Cx.R (v:V) (x:Value):Prop:=VR Z c.μ c.s.heap v x
noncomputable abbrev Cx.Rs (v:List V) (x:List Value):Prop:=VRs Z c.μ c.s.heap v x
noncomputable def Cx.W (t:Sem Value) (v:V) (σ':St):Prop:=Wp w h₀ Z c.A t c.μ c.s σ' v
noncomputable def Cx.G {β:Type} (m:X β) (C:β→St→Prop):Prop:=∀ ⦃v σ'⦄,m c.σ=some (v,σ')→C v σ'
structure Cx.TupAt (l:List V) (a:Addr):Prop where
  ex:∃ o vs n,c.s.heap.get? a=some o∧o.cls=.type "tuple"∧o.data=.seq vs n∧c.Rs l vs.toList
structure Cx.ListAt (k:Nat) (a:Addr) (xs:List V) (items:Array Value):Prop where
  e:c.σ[k]?=some (.lst xs)
  ha:c.μ[k]?=some a
  l:c.s.heap.PlainList a items
  r:c.Rs xs items.toList
theorem Cx.ListAt.size {c:Cx w h₀ Z} {k a xs items} (L:c.ListAt k a xs items):xs.length=items.size:=L.r.length.trans Array.length_toList
variable {c} {β:Type} {C:β→St→Prop}
theorem G.fail:c.G X.fail C:=fun _ _ e=>nomatch e
theorem G.pure {a:β} (h:C a c.σ):c.G (X.pure a) C  :=fun _ _ e=>(Prod.mk.inj (Option.some.inj e)).1 ▸ (Prod.mk.inj (Option.some.inj e)).2 ▸ h
theorem G.guard {b:Bool} {m:X β} (h:b=true→c.G m C):c.G (X.guard b m) C:=Bool.rec (motive:=fun x=>(x=true→c.G m C)→c.G (X.guard x m) C) (fun _=>G.fail) (fun h=>h rfl) b h
theorem G.of {α:Type} {o:Option α} {f:α→X β} (h:∀ a,o=some a→c.G (f a) C):c.G (X.bind (X.of o) f) C:=Option.rec (motive:=fun x=>(∀ a,x=some a→c.G (f a) C)→c.G (X.bind (X.of x) f) C) (fun _=>G.fail) (fun a h=>h a rfl) o h
theorem G.new {xs:List V} {C:V→St→Prop} (h:C (.lst c.σ.length) (c.σ++[.lst xs])):c.G (newLst xs) C  :=fun _ _ e=>(Prod.mk.inj (Option.some.inj e)).1 ▸ (Prod.mk.inj (Option.some.inj e)).2 ▸ h
theorem G.set {k:Nat} {xs:List V} {C:V→St→Prop} (h:C .none (c.σ.set k (.lst xs))):c.G (X.bind (setLst k xs) fun _=>X.pure .none) C:=fun _ _ e=>have e:=setLst_bind e; (Prod.mk.inj (Option.some.inj e)).1 ▸ (Prod.mk.inj (Option.some.inj e)).2 ▸ h
theorem G.lsF {k:Nat} {a:Addr} {f:Nat→List V→X β} (ha:c.μ[k]?=some a) (h:∀ xs items,c.ListAt k a xs items→c.G (f k xs) C):c.G (lsF f k) C:=fun _ _ e =>
  let ⟨xs,e1,e⟩:=getLst_bind e
  let ⟨items,l,r⟩:=c.N.sim.list e1 (.lst ha)
  h xs items ⟨e1,ha,l,r⟩ e
theorem G.rd {D:Value→β→St→Prop} {n:X β} {fb:Bool→X β} {fi:Int→X β} {fs:Str→X β} {ft:List V→X β} {fl:Nat→X β} {fg:Addr→X β} {fz:List Int→X β} {v x} (r:c.R v x) (hn:c.G n (D .none)) (hb:∀ b,c.G (fb b) (D (.bool b))) (hi:∀ i t,c.G (fi i) (D (.int i t)))
    (hs:∀ y t,c.G (fs y) (D (.str y t))) (ht:∀ l a,c.TupAt l a→c.G (ft l) (D (.ref a))) (hl:∀ k a,c.μ[k]?=some a→c.G (fl k) (D (.ref a))) (hg:∀ a,c.G (fg a) (D (.ref a))) (hz:c.G (fz Z.xs) (D (.ref Z.l))):c.G (rd n fb fi fs ft fl fg fz v) (D x):=by
  cases r with
  | none=>exact hn
  | bool b=>exact hb b
  | int i t=>exact hi i t
  | str y t=>exact hs y t
  | tup a b d e=>exact ht _ _ ⟨_,_,_,a,b,d,e⟩
  | lst h=>exact hl _ _ h
  | glob a=>exact hg a
  | scr=>exact hz
  | _=>exact G.fail
section
variable {D:Value→β→St→Prop} {v:V} {x:Value}
theorem G.onI {f:Int→X β} (r:c.R v x) (h:∀ i t,c.G (f i) (D (.int i t))):c.G (onI f v) (D x):=G.rd r G.fail (fun _=>G.fail) h (fun _ _=>G.fail) (fun _ _ _=>G.fail) (fun _ _ _=>G.fail) (fun _=>G.fail) G.fail
theorem G.onS {f:Str→X β} (r:c.R v x) (h:∀ i t,c.G (f i) (D (.str i t))):c.G (onS f v) (D x):=G.rd r G.fail (fun _=>G.fail) (fun _ _=>G.fail) h (fun _ _ _=>G.fail) (fun _ _ _=>G.fail) (fun _=>G.fail) G.fail
theorem G.onT {f:List V→X β} (r:c.R v x) (h:∀ l a,c.TupAt l a→c.G (f l) (D (.ref a))):c.G (onT f v) (D x):=G.rd r G.fail (fun _=>G.fail) (fun _ _=>G.fail) (fun _ _=>G.fail) h (fun _ _ _=>G.fail) (fun _=>G.fail) G.fail
theorem G.onL {f:Nat→List V→X β} (r:c.R v x) (h:∀ k a xs items,c.ListAt k a xs items→c.G (f k xs) (D (.ref a))):c.G (onL f v) (D x):=G.rd r G.fail (fun _=>G.fail) (fun _ _=>G.fail) (fun _ _=>G.fail) (fun _ _ _=>G.fail) (fun k a ha=>G.lsF ha (h k a)) (fun _=>G.fail) G.fail
theorem G.onG {f:Addr→X β} (r:c.R v x) (h:∀ a,c.G (f a) (D (.ref a))):c.G (onG f v) (D x):=G.rd r G.fail (fun _=>G.fail) (fun _ _=>G.fail) (fun _ _=>G.fail) (fun _ _ _=>G.fail) (fun _ _ _=>G.fail) h G.fail
theorem G.onZ {f:List Int→X β} (r:c.R v x) (h:c.G (f Z.xs) (D (.ref Z.l))):c.G (onZ f v) (D x):=G.rd r G.fail (fun _=>G.fail) (fun _ _=>G.fail) (fun _ _=>G.fail) (fun _ _ _=>G.fail) (fun _ _ _=>G.fail) (fun _=>G.fail) h
theorem G.sw {fi:Int→X β} {fs:Str→X β} {fl:Nat→List V→X β} (r:c.R v x) (hi:∀ i t,c.G (fi i) (D (.int i t))) (hs:∀ i t,c.G (fs i) (D (.str i t))) (hl:∀ k a xs items,c.ListAt k a xs items→c.G (fl k xs) (D (.ref a))):c.G (sw fi fs fl v) (D x) :=
  G.rd r G.fail (fun _=>G.fail) hi hs (fun _ _ _=>G.fail) (fun k a ha=>G.lsF ha (hl k a)) (fun _=>G.fail) G.fail
end
section
variable {D:List Value→β→St→Prop} {vs:List V} {xs:List Value}
theorem G.args0 {m:X β} (r:c.Rs vs xs) (h:c.G m (D [])):c.G (args0 m vs) (D xs):=by
  cases r with
  | nil=>exact h
  | cons a b=>exact G.fail
theorem G.arg {f:V→List V→X β} (r:c.Rs vs xs) (h:∀ v x vs xs,c.R v x→c.Rs vs xs→c.G (f v vs) (D (x::xs))):c.G (arg f vs) (D xs):=by
  cases r with
  | nil=>exact G.fail
  | cons a b=>exact h _ _ _ _ a b
theorem G.args1 {f:V→X β} (r:c.Rs vs xs) (h:∀ v x,c.R v x→c.G (f v) (D [x])):c.G (args1 f vs) (D xs):=G.arg r fun v x _ _ a b=>G.args0 (D:=fun l=>D (x::l)) b (h v x a)
theorem G.args2 {f:V→V→X β} (r:c.Rs vs xs) (h:∀ v x v' x',c.R v x→c.R v' x'→c.G (f v v') (D [x,x'])):c.G (args2 f vs) (D xs):=G.arg r fun v x _ _ a b=>G.args1 (D:=fun l=>D (x::l)) b fun v' x' a'=>h v x v' x' a a'
theorem G.args3 {f:V→V→V→X β} (r:c.Rs vs xs) (h:∀ v x v' x' u y,c.R v x→c.R v' x'→c.R u y→c.G (f v v' u) (D [x,x',y])):c.G (args3 f vs) (D xs):=G.arg r fun v x _ _ a b=>G.args2 (D:=fun l=>D (x::l)) b fun v' x' u y a' d=>h v x v' x' u y a a' d
theorem G.args4 {f:V→V→V→V→X β} (r:c.Rs vs xs) (h:∀ v x v' x' u y u' y',c.R v x→c.R v' x'→c.R u y→c.R u' y'→c.G (f v v' u u') (D [x,x',y,y'])):c.G (args4 f vs) (D xs):=G.arg r fun v x _ _ a b=>G.args3 (D:=fun l=>D (x::l)) b fun v' x' u y u' y' a' d e=>h v x v' x' u y u' y' a a' d e
end
theorem W.tok {t:Sem Value} {v:V} (h:∀ (Q:Value→Shared→Prop) E,(∀ val tk,c.R v val→Q val { c.s with toks:=tk })→wpAny (model P w) c.A t Q E c.s):c.W t v c.σ:=Wp.tok c.N h
theorem W.val {t:Sem Value} {v:V} {val:Value} (r:c.R v val) (h:∀ (Q:Value→Shared→Prop) E,Q val c.s→wpAny (model P w) c.A t Q E c.s):c.W t v c.σ:=fun Q E k=>h Q E (k c.μ c.s val (.refl _ _ _ _) c.N.sim r)
theorem W.newL {t:Sem Value} {xs:List V} {items:Array Value} (hr:c.Rs xs items.toList)
    (ht:∀ Q E,(∀ tk n,Q (.ref c.s.heap.objs.size) { c.s with heap:=c.s.heap.push { cls:=.type "list",data:=.seq items n },toks:=tk })→wpAny (model P w) c.A t Q E c.s):c.W t (.lst c.σ.length) (c.σ++[.lst xs]):=Wp.newL c.N hr ht
theorem log2_small {n:Nat} (h:n≤4096):n.log2≤12:=by
  by_cases h0:n=0
  · subst h0; decide
  · have:=(Nat.log2_lt h0 (k:=13)).mpr (by omega)
    omega
theorem mulOk_small {a b:Int} (h:a.natAbs≤4096):IntMulOk a b:=by
  unfold IntMulOk
  have:Builtin.Int.intBits a≤13:=by
    unfold Builtin.Int.intBits
    split
    · omega
    · have:=log2_small h; omega
  have e:decide (Builtin.Int.intBits a > shortFactorBits)=false:=by unfold shortFactorBits; exact decide_eq_false (by omega)
  rw [e]; simp
theorem mulOk_str {x:Str} {n:Int} (h:x.length≤4096) (h0:0≤n) (h8:n≤8):MulOk x n:=by
  obtain ⟨m,rfl⟩:=Int.eq_ofNat_of_zero_le h0
  have h2:x.length * m≤4096 * 8:=Nat.mul_le_mul h (Int.ofNat_le.mp h8)
  refine ⟨?_,fun q _=>Int.not_lt.mpr ((Int.le_ediv_iff_mul_le (Int.lt_of_not_ge fun e=>q (Int.lt_of_le_of_lt e (by decide)))).mpr (Int.le_trans (Int.ofNat_le.mpr h2) (by decide))),fun _ _=>decide_eq_false (Nat.not_lt_of_le (Nat.le_trans h2 (by decide)))⟩
  rw [decide_eq_false (Int.not_lt.mpr (Int.le_trans (by decide) h0)),decide_eq_false (Int.not_le.mpr (Int.lt_of_le_of_lt h8 (by decide)))]; rfl
theorem and_t {a b:Bool} (h:(a && b)=true):a=true∧b=true:=Bool.and_eq_true_iff.mp h
theorem addV_g {x y:V} {a b:Value} (hx:c.R x a) (hy:c.R y b):c.G (addV x y) (c.W (binaryOp .Add a b)) :=
  G.sw (D:=fun a=>c.W (binaryOp .Add a b)) hx (fun i t=>G.onI (D:=fun b=>c.W (binaryOp .Add (.int i t) b)) hy fun j u=>G.pure (W.tok fun Q E h=>wpAny_add_int (h _ _ (.int _ _))))
    (fun i t=>G.onS (D:=fun b=>c.W (binaryOp .Add (.str i t) b)) hy fun j u=>G.guard fun q=>G.pure (W.tok fun Q E h=>PyProof.Rows.add_str (fun t' tk=>h _ tk (.str _ t')) (line_of (big_le q))))
    fun k a xs items L=>G.onL (D:=fun b=>c.W (binaryOp .Add (.ref a) b)) hy fun l b ys items' L'=>G.guard fun q=>G.new (W.newL (items:=items++items') (by rw [Array.toList_append]; exact L.r.app L'.r) fun Q E h =>
      let ⟨n1,L1⟩:=L.l
      let ⟨n2,L2⟩:=L'.l
      _root_.PySem.P.add_list L1 L2 (h _ _) (L.size ▸ L'.size ▸ line_of (big_le q)))
theorem onII_g {f:Int→Int→X V} {t:Value→Value→Sem Value} {x y:V} {a b:Value} (hx:c.R x a) (hy:c.R y b) (h:∀ i j u u',c.G (f i j) (c.W (t (.int i u) (.int j u')))):c.G (onII f x y) (c.W (t a b)) :=
  G.onI (D:=fun a=>c.W (t a b)) hx fun i u=>G.onI (D:=fun b=>c.W (t (.int i u) b)) hy fun j u'=>h i j u u'
theorem mulV_g {x y:V} {a b:Value} (hx:c.R x a) (hy:c.R y b):c.G (mulV x y) (c.W (binaryOp .Mult a b)) :=
  G.sw (D:=fun a=>c.W (binaryOp .Mult a b)) hx (fun i t=>G.onI (D:=fun b=>c.W (binaryOp .Mult (.int i t) b)) hy fun j u=>G.guard fun q=>G.pure (W.tok fun Q E h=>PyProof.Rows.mul_int (h _ _ (.int _ _)) (mulOk_small (of_decide_eq_true (and_t q).1))))
    (fun i t=>G.onI (D:=fun b=>c.W (binaryOp .Mult (.str i t) b)) hy fun j u=>G.guard fun q=>G.pure (W.tok fun Q E h=>_root_.PySem.SB.mul (mulOk_str (big_le (and_t q).2) (of_decide_eq_true (and_t (and_t q).1).1) (of_decide_eq_true (and_t (and_t q).1).2)) fun t' k=>h _ k (.str _ t')))
    fun _ _ _ _ _=>G.fail
theorem natAbs_le {b:Int} (h:0 < b) (h1:b≤4096):b.natAbs≤4096:=by omega
theorem binV_g {op:Operator} {o:BOp} {x y:V} {a b:Value} (hop:cOp op=some o) (hx:c.R x a) (hy:c.R y b):c.G (binV o x y) (c.W (binaryOp op a b)):=by
  cases op <;> cases hop
  · exact addV_g hx hy
  · exact onII_g (t:=binaryOp .Sub) hx hy fun i j u u'=>G.pure (W.tok fun Q E h=>PyProof.Rows.sub_int (h _ _ (.int _ _)))
  · exact mulV_g hx hy
  · exact onII_g (t:=binaryOp .Mod) hx hy fun i j u u'=>G.guard fun q=>G.pure (W.tok fun Q E h=>mod_int' (Int.ne_of_gt (of_decide_eq_true q)) (h _ _ (.int _ _)))
  · exact onII_g (t:=binaryOp .FloorDiv) hx hy fun i j u u'=>G.guard fun q=>G.pure (W.tok fun Q E h=>floordiv_int (Int.ne_of_gt (of_decide_eq_true (and_t q).1)) (h _ _ (.int _ _)) (.inl (PyProof.noPylong_of_log2 (Nat.lt_of_le_of_lt (log2_small (natAbs_le (of_decide_eq_true (and_t q).1) (of_decide_eq_true (and_t q).2))) (by decide)))))
end
end Mine
end
section
open PySem PySem.W PyProof.Rows PySem.SeqAt
open AutoSeq1 (wpAny_loadPart')
open MeetsSeq MeetsSeq2 MeetsSeq3 SeqRoads2
set_option maxRecDepth 100000
namespace Mine
noncomputable def LtAt (A:Around) (s:Shared) (y x:Value) (b:Bool):Prop :=
  ∀ (prog:Program) (w:World) (E:Value→Shared→Prop) (Q:Value→Shared→Prop),Q (.bool b) s→wpAny (model prog w) A (richCompare .Lt y x) Q E s
noncomputable def lexR:List (Bool × Bool)→Bool
  | []=>false
  | (e,l)::r=>if e=true then lexR r else l
theorem tuple_ltAt (l b:Addr) (items items2:Array Value) (n n2:Nat) (dd dd2:Option Addr) (sl sl2:Array (Option Value)) (e k:Nat→Bool) (hsz:items.size=items2.size) :
    Meets (Builtin.«tuple.__lt__» ⟨[.ref l,.ref b],[]⟩)
      (fun A R s=>s.heap.get? l=some { cls:=.type "tuple",dict:=dd,data:=.seq items n,slots:=sl }∧s.heap.get? b=some { cls:=.type "tuple",dict:=dd2,data:=.seq items2 n2,slots:=sl2 } ∧
        (∀ j (h1:j < items.size) (h2:j < items2.size),EqAt A.in1 s items[j] items2[j] (e j))∧(∀ j (h1:j < items.size) (h2:j < items2.size),e j=false→LtAt A.in1 s items[j] items2[j] (k j)) ∧
        R (.ok (.ret (.bool (lexR ((List.range items.size).map fun i=>(e i,k i)))))) s) :=
  .of_wp fun prog w A R s h=>by
    obtain ⟨hp,g,d,tk,os⟩:=s; obtain ⟨hl,hb,he,hk,h⟩:=h
    have f2:=AutoSeq1.sub_tuple_tuple
    have hZ:(items.toList.zip items2.toList).length=items.size:=by simp [hsz]
    wp_walk using wpAny_loadPart' hl,wpAny_loadPart' hb,wpAny_forIn_list _ (fun rest b s'=>b.1=none∧s'=⟨hp,g,d,tk,os⟩∧∃ i,rest=(items.toList.zip items2.toList).drop i ∧
      R (.ok (.ret (.bool (lexR (((List.range items.size).drop i).map fun i=>(e i,k i)))))) ⟨hp,g,d,tk,os⟩) _
    case turn =>
      rintro ⟨y,x⟩ rest b s' ⟨hb',rfl,i,hz,hR⟩
      have hlt:i < (items.toList.zip items2.toList).length:=by
        rcases Nat.lt_or_ge i (items.toList.zip items2.toList).length with h' | h'
        · exact h'
        · rw [List.drop_of_length_le h'] at hz; cases hz
      have hm:i < items.size:=hZ ▸ hlt
      have h1:i < items.size:=hm
      have h2:i < items2.size:=hsz ▸ hm
      rw [List.drop_eq_getElem_cons hlt] at hz
      injection hz with hyx hrest
      have hy:y=items[i]:=by have:=congrArg Prod.fst hyx; simpa using this
      have hx:x=items2[i]:=by have:=congrArg Prod.snd hyx; simpa using this
      subst hy hx
      have hd:(List.range items.size).drop i=i::(List.range items.size).drop (i+1):=by simp [List.drop_eq_getElem_cons,hm]
      rw [hd,List.map_cons] at hR
      refine wpAny_bind (he i h1 h2 prog w _ _ ?_)
      cases hy:e i with
      | true =>
        rw [hy] at hR
        wp_walk
        exact ⟨rfl,rfl,i+1,hrest,by simpa [lexR] using hR⟩
      | false =>
        rw [hy] at hR
        have hR:R (.ok (.ret (.bool (k i)))) ⟨hp,g,d,tk,os⟩:=by simpa [lexR] using hR
        have hk':∀ {E:Value→Shared→Prop} {Q:Value→Shared→Prop},Q (.bool (k i)) ⟨hp,g,d,tk,os⟩→wpAny (model prog w) A.in1 (richCompare .Lt items[i] items2[i]) Q E ⟨hp,g,d,tk,os⟩:=fun h=>hk i h1 h2 hy prog w _ _ h
        wp_walk using hk'
        exact ⟨_,rfl,hR⟩
    case fin =>
      rintro ⟨b1,b2⟩ s' ⟨hb',rfl,i,hz,hR⟩
      simp only at hb'
      subst hb'
      have hge:items.size≤i:=by
        rcases Nat.lt_or_ge i (items.toList.zip items2.toList).length with h' | h'
        · rw [List.drop_eq_getElem_cons h'] at hz; cases hz
        · exact hZ ▸ h'
      rw [List.drop_of_length_le (by simpa using hge)] at hR
      wp_walk
      exact ⟨_,rfl,by simpa [Builtin.Tuple.tupleCompareSizes,lexR,hsz] using hR⟩
    case h =>
      exact ⟨rfl,rfl,0,rfl,by simpa using h⟩
end Mine
end
section
open PySem PySem.W PyProof.Rows PySem.SeqAt
set_option maxRecDepth 100000
namespace Mine
section
variable {w:World} {h₀:Heap} {Z:Scr}
theorem VR.str? {μ:List Addr} {h:Heap} {v:V} {x:Value} {y:Str} (r:VR Z μ h v x) (e:str? v=some y):∃ t,x=.str y t:=by
  cases r with
  | str z t=>exact ⟨t,Option.some.inj e ▸ rfl⟩
  | _=>exact nS e
theorem VR.int? {μ:List Addr} {h:Heap} {v:V} {x:Value} {y:Int} (r:VR Z μ h v x) (e:int? v=some y):∃ t,x=.int y t:=by
  cases r with
  | int z t=>exact ⟨t,Option.some.inj e ▸ rfl⟩
  | _=>exact nS e
theorem obind {α β:Type} {o:Option α} {f:α→Option β} {d:β} {C:Prop} (h:o.bind f=some d) (k:∀ a,o=some a→f a=some d→C):C:=by
  induction o with
  | none=>exact nS h
  | some a=>exact k a rfl h
@[elab_as_elim] theorem omap {α β:Type} {o:Option α} {f:α→β} {d:β} {C:β→Prop} (h:o.map f=some d) (k:∀ a,o=some a→C (f a)):C d:=by
  induction o with
  | none=>exact nS h
  | some a=>exact Option.some.inj h ▸ k a rfl
@[elab_as_elim] theorem mapO_cons {α β:Type} {f:α→Option β} {a:α} {r:List α} {l:List β} {C:List β→Prop} (h:mapO f (a::r)=some l) (k:∀ b bs,f a=some b→mapO f r=some bs→C (b::bs)):C l :=
  obind h fun b h1 h=>omap h fun bs h2=>k b bs h1 h2
theorem VRs.strs {μ:List Addr} {h:Heap} {xs:List V}:∀ {vs:List Value} {ys:List Str},VRs Z μ h xs vs→vStrs xs=some ys→∃ l:List (Str × Tok),vs=strValues l∧l.map (·.1)=ys:=by
  induction xs with
  | nil=>intro vs ys r e; cases r; exact ⟨[],rfl,Option.some.inj e⟩
  | cons x xs ih =>
    intro vs ys r e
    cases r with
    | cons rx rl =>
      refine mapO_cons e fun b bs h1 h2=>?_
      obtain ⟨t,rfl⟩:=rx.str? h1
      obtain ⟨l,rfl,rfl⟩:=ih rl h2
      exact ⟨(b,t)::l,rfl,rfl⟩
theorem VRs.ints {μ:List Addr} {h:Heap} {xs:List V}:∀ {vs:List Value} {ys:List Int},VRs Z μ h xs vs→vInts xs=some ys→IntsAre vs ys:=by
  induction xs with
  | nil=>intro vs ys r e; cases r; exact Option.some.inj e ▸ .nil
  | cons x xs ih =>
    intro vs ys r e
    cases r with
    | cons rx rl =>
      refine mapO_cons e fun b bs h1 h2=>?_
      obtain ⟨t,rfl⟩:=rx.int? h1
      exact .cons _ _ (ih rl h2)
variable {c:Cx w h₀ Z}
theorem reads_all {f:V→Option PyData} (ih:∀ {v val d},f v=some d→c.R v val→∃ as,Reads c.s.heap val d as) {l:List V}:∀ {ds:List PyData} {vs:List Value},mapO f l=some ds→c.Rs l vs→∃ as,ReadsAll c.s.heap vs ds as:=by
  induction l with
  | nil=>intro ds vs e r; cases r; exact Option.some.inj e ▸ ⟨[],.nil⟩
  | cons x l ih1 =>
    intro ds vs e r
    cases r with
    | cons rx rl =>
      refine mapO_cons e fun b bs h1 h2=>?_
      refine exE (ih h1 rx) fun as h1=>?_
      obtain ⟨bs,h2⟩:=ih1 h2 rl
      exact ⟨as++bs,.cons h1 h2⟩
theorem toD_reads (n:Nat):∀ {v:V} {val:Value} {d:PyData},toD n c.σ v=some d→c.R v val→∃ as,Reads c.s.heap val d as:=by
  induction n with
  | zero=>exact fun e=>nS e
  | succ n ih =>
    intro v val d e r
    cases r with
    | none=>exact Option.some.inj e ▸ ⟨[],.none⟩
    | bool b=>exact Option.some.inj e ▸ ⟨[],.bool b⟩
    | int i=>exact Option.some.inj e ▸ ⟨[],.int _ _⟩
    | str x=>exact Option.some.inj e ▸ ⟨[],.str _ _⟩
    | tup ho hc hd hr=>exact omap (f:=PyData.tuple) e fun ds e1=>let ⟨as,h1⟩:=reads_all ih e1 hr; ⟨as,.tuple ho hc hd h1⟩
    | lst ha =>
      refine obind (o:=clL c.σ[_]?) e fun xs e0 e=>omap (f:=PyData.list) e fun ds e1=>?_
      refine obind e0 fun cl e2 e0=>?_
      induction cl with
      | lst ys =>
        cases e0
        obtain ⟨items,⟨m,l1⟩,r1⟩:=c.N.sim.list e2 (.lst ha)
        refine exE (reads_all ih e1 r1) fun as h1=>?_
        exact ⟨_,.list l1 rfl rfl h1⟩
      | _=>exact nS e0
    | _=>exact nS e
theorem lt3 {a b:Addr} {oa ob:Obj} {va vb:Array Value} {na nb:Nat} {i j i' j':Int} {x y:Str} {t1 t2 t3 u1 u2 u3:Tok} (ha:c.s.heap.get? a=some oa) (ca:oa.cls=.type "tuple") (da:oa.data=.seq va na)
    (hb:c.s.heap.get? b=some ob) (cb:ob.cls=.type "tuple") (db:ob.data=.seq vb nb) (ea:va.toList=[.int i t1,.int j t2,.str x t3]) (eb:vb.toList=[.int i' u1,.int j' u2,.str y u3]):c.W (compareOp .Lt (.ref a) (.ref b)) (.bool (lt3v i j i' j' x y)) c.σ:=by
  refine hid fun GG kk=>?_
  obtain ⟨cls,dd,data,sl⟩:=oa
  obtain ⟨cls2,dd2,data2,sl2⟩:=ob
  refine kk ?_
  clear kk GG
  cases ca; cases da; cases cb; cases db
  cases Array.ext' (ys:=#[Value.int i t1,.int j t2,.str x t3]) ea
  cases Array.ext' (ys:=#[Value.int i' u1,.int j' u2,.str y u3]) eb
  refine W.val (.bool _) fun Q E h=>?_
  refine richCompare_meets_room (op:=.Lt) ⟨_,ha,rfl⟩ ⟨_,hb,rfl⟩ F.slot_tuple_lt F.entry_tuple_lt (F.args_tuple_lt_2 _ _)
    (tuple_ltAt a b #[.int i t1,.int j t2,.str x t3] #[.int i' u1,.int j' u2,.str y u3] na nb dd dd2 sl sl2 (fun n=>Nat.casesOn n (i == i') fun n=>Nat.casesOn n (j == j') fun _=>x == y) (fun n=>Nat.casesOn n (decide (i < i')) fun n=>Nat.casesOn n (decide (j < j')) fun _=>decide (x.cps.toList < y.cps.toList)) rfl)
    ⟨ha,hb,fun n h1 h2=>?_,fun n h1 h2 _=>?_,?_⟩ (Nat.lt_of_le_of_lt (Nat.le_add_right _ _) c.hu)
  · exact (match n,h1,h2 with
    | 0,_,_=>(MeetsSeq.EqGives.int _ _ _ _).at _ _
    | 1,_,_=>(MeetsSeq.EqGives.int _ _ _ _).at _ _
    | 2,_,_=>(eqGives_str _ _ _ _).at _ _)
  · exact (match n,h1,h2 with
    | 0,_,_=>fun prog w E Q hq=>PyProof.Rows.lt_int (prog:=prog) (w:=w) (a:=i) (b:=i') (t:=t1) (u:=u1) hq
    | 1,_,_=>fun prog w E Q hq=>PyProof.Rows.lt_int (prog:=prog) (w:=w) (a:=j) (b:=j') (t:=t2) (u:=u2) hq
    | 2,_,_=>fun prog w E Q hq=>PyProof.Rows.lt_str (prog:=prog) (w:=w) (x:=x) (y:=y) (t:=t3) (u:=u3) hq)
  · have:lexR ((List.range 3).map fun n=>((Nat.casesOn n (i == i') fun n=>Nat.casesOn n (j == j') fun _=>x == y:Bool),(Nat.casesOn n (decide (i < i')) fun n=>Nat.casesOn n (decide (j < j')) fun _=>decide (x.cps.toList < y.cps.toList):Bool)))=lt3v i j i' j' x y:=by
      show (if (i == i')=true then (if (j == j')=true then (if (x == y)=true then false else decide (x.cps.toList < y.cps.toList)) else decide (j < j')) else decide (i < i'))=_
      simp only [beq_iff_eq]; rfl
    exact this ▸ And.intro (fun e=>nomatch e) h
end
section
variable {w:World} {h₀:Heap} {Z:Scr}
theorem set_obj (w:World):((89:Nat),some ({ cls:=.type "set",data:=.set setEs 29 (setTab w) }:Obj))∈lookAts.zip (lookObjs w):=by
  have:(lookAts.zip (lookObjs w))[66]?=some ((89:Nat),some ({ cls:=.type "set",data:=.set setEs 29 (setTab w) }:Obj)):=rfl
  exact mem_pick this
noncomputable def setL:List (Int × Nat):=[(65024,379),(65025,380),(65026,381),(65027,382),(65028,383),(65029,384),(6150,365),(65030,385),(65031,386),(65032,387),(65033,388),(6155,366),(6156,367),(6157,368),(8203,369),(8204,370),(8205,371),(65034,389),(65035,390),(65036,391),(65037,392),(65038,393),(65039,394),(173,363),(847,364),(8288,372),(65279,373)]
theorem setEs_eq:setEs.toList=setL.map fun p=>(p.1,Value.int p.1 p.2):=rfl
theorem setL_ok:(setL.all fun p=>hashInt p.1 == p.1 && isB1 p.1)=true:=by decide +kernel
theorem setL_1:(([173,847,6150,6155,6156,6157,8203,8204,8205,8288,65279]:List Int).all fun i=>setL.any fun p=>p.1 == i)=true:=by decide +kernel
theorem setL_2:((List.range 16).all fun j=>setL.any fun p=>p.1 == (65024:Int)+j)=true:=by decide +kernel
theorem b1_in {k:Int} (hk:isB1 k=true):∃ p∈setL,p.1=k:=by
  have:(setL.any fun p=>p.1 == k)=true:=by
    rcases Bool.or_eq_true_iff.mp hk with hk | hk
    · exact List.all_eq_true.mp setL_1 k (List.contains_iff_mem.mp hk)
    · refine anE (and_t hk) fun q1 q2=>?_
      obtain ⟨j,hj⟩:=Int.eq_ofNat_of_zero_le (Int.sub_nonneg_of_le (of_decide_eq_true q1))
      have e:k=65024+(j:Int):=hj ▸ (by omega)
      exact e ▸ List.all_eq_true.mp setL_2 j (List.mem_range.mpr (Int.ofNat_lt.mp (hj ▸ Int.sub_left_lt_of_lt_add (of_decide_eq_true q2))))
  refine exA (List.any_eq_true.mp this) fun p hp h=>?_
  exact ⟨p,hp,beq_iff_eq.mp h⟩
theorem b1_set (W:WF w h₀):h₀.SetOf (kn P w) 89 isB1 27:=by
  have ok:∀ e∈setEs.toList,∃ p:Int × Nat,e=(p.1,Value.int p.1 p.2)∧hashInt p.1=p.1∧isB1 p.1=true:=fun e he =>
    let ⟨p,hp,e⟩:=List.mem_map.mp (setEs_eq ▸ he)
    let h:=and_t (List.all_eq_true.mp setL_ok p hp)
    ⟨p,e.symm,beq_iff_eq.mp h.1,h.2⟩
  refine ⟨_,setEs,29,setTab w,W.objs _ _ (set_obj w),⟨rfl,rfl,rfl⟩,rfl,fun e he=>?_,fun k=>⟨fun hk=>?_,fun hk=>?_⟩,by decide,rfl,rfl⟩
  · obtain ⟨p,rfl,h1,_⟩:=ok e he
    exact ⟨⟨p.1,beq_self_eq_true _,h1.symm⟩,rfl⟩
  · obtain ⟨p,hp,rfl⟩:=b1_in hk
    exact ⟨_,setEs_eq ▸ List.mem_map.mpr ⟨p,hp,rfl⟩,beq_self_eq_true _⟩
  · refine exA hk fun e he h2=>?_
    obtain ⟨p,rfl,_,h3⟩:=ok e he
    exact (beq_iff_eq.mp h2:p.1=k) ▸ h3
theorem SetOf.ext {h h':Heap} {a:Addr} {S:Int→Bool} {n:Nat} (x:h.SetOf (kn P w) a S n) (hk:∀ o,h.get? a=some o→h'.get? a=some o):h'.SetOf (kn P w) a S n :=
  let ⟨o,es,ep,t,ho,r⟩:=x; ⟨o,es,ep,t,hk _ ho,r⟩
theorem isN_g {x:V} {a:Value} {μ:List Addr} {h:Heap} {r:Bool} (e:isN x=some r) (hx:VR Z μ h x a):plainIs a .none=true∧(a == .none)=r:=by
  cases hx with
  | ins=>exact nS e
  | bi=>exact nS e
  | ty=>exact nS e
  | kw0=>exact nS e
  | scr=>exact nS e
  | _=>exact Option.some.inj e ▸ ⟨rfl,rfl⟩
theorem isB_g {b:Bool} {x:V} {a:Value} {μ:List Addr} {h:Heap} {r:Bool} (e:isB b x=some r) (hx:VR Z μ h x a):plainIs a (.bool b)=true∧(a == .bool b)=r:=by
  cases hx with
  | none=>exact Option.some.inj e ▸ ⟨rfl,rfl⟩
  | bool p=>exact Option.some.inj e ▸ ⟨rfl,by cases p <;> cases b <;> rfl⟩
  | _=>exact nS e
theorem tyEq_g {t u:Ty} {r:Bool} (e:tyEq t u=some r):plainIs (.type u.nm) (.type t.nm)=true∧(Value.type u.nm == .type t.nm)=r:=by
  cases t <;> cases u <;> first | exact nS e | exact Option.some.inj e ▸ ⟨rfl,rfl⟩
theorem isT_g {t:Ty} {x:V} {a:Value} {μ:List Addr} {h:Heap} {r:Bool} (e:isT t x=some r) (hx:VR Z μ h x a):plainIs a (.type t.nm)=true∧(a == .type t.nm)=r:=by
  cases hx with
  | ty u=>exact tyEq_g e
  | _=>exact nS e
theorem isV_sound {x y:V} {a b:Value} {μ:List Addr} {h:Heap} {r:Bool} (e:isV x y=some r) (hx:VR Z μ h x a) (hy:VR Z μ h y b):plainIs a b=true∧(a == b)=r:=by
  cases hy with
  | none=>exact isN_g e hx
  | bool b=>exact isB_g e hx
  | ty t=>exact isT_g e hx
  | _=>exact nS e
noncomputable def hits (x:Str):Value→Bool
  | .str y _=>y == x
  | _=>false
theorem hits_eq {A:Around} {s:Shared} {x:Str} {t:Tok} {l:List (Str × Tok)} {items:Array Value} (e:items.toList=strValues l):∀ y,y∈items→EqAt A s y (.str x t) (hits x y):=by
  intro y hy
  have hy:y∈strValues l:=by rw [← e]; exact Array.mem_toList_iff.mpr hy
  obtain ⟨p,hp,rfl⟩:=List.mem_map.mp hy
  exact (eqGives_str _ _ _ _).at _ _
theorem hits_any {x:Str}:∀ {l:List (Str × Tok)},(strValues l).any (hits x)=(l.map (·.1)).contains x
  | []=>rfl
  | p::l=>by
    show (hits x (.str p.1 p.2) || (strValues l).any (hits x))=(p.1::l.map (·.1)).contains x
    rw [hits_any,List.contains_cons]
    show (p.1 == x || _)=(x == p.1 || _)
    rw [Bool.beq_comm]
theorem hits_items {x:Str} {l:List (Str × Tok)} {items:Array Value} (e:items.toList=strValues l):items.any (hits x)=(l.map (·.1)).contains x:=by
  rw [← Array.any_toList,e]; exact hits_any
theorem VRs.cons_inv {μ:List Addr} {h:Heap} {v:V} {vs:List V} {l:List Value} (r:VRs Z μ h (v::vs) l):∃ x xs,l=x::xs∧VR Z μ h v x∧VRs Z μ h vs xs:=by
  cases r with
  | cons a b=>exact ⟨_,_,rfl,a,b⟩
theorem VRs.nil_inv {μ:List Addr} {h:Heap} {l:List Value} (r:VRs Z μ h [] l):l=[]:=by cases r; rfl
theorem VR.int_inv {μ:List Addr} {h:Heap} {i:Int} {x:Value} (r:VR Z μ h (.int i) x):∃ t,x=.int i t:=r.int? rfl
variable {c:Cx w h₀ Z}
theorem boolV_g {g:Bool→Bool} {m:X Bool} {C:Bool→St→Prop} {t:Sem Value} (h:c.G m C) (k:∀ r σ',C r σ'→c.W t (.bool (g r)) σ'):c.G (boolV g m) (c.W t):=fun _ _ e =>
  let ⟨r,σ1,e1,e2⟩:=X.bind_some e
  (Prod.mk.inj (Option.some.inj e2)).1 ▸ (Prod.mk.inj (Option.some.inj e2)).2 ▸ k r σ1 (h e1)
theorem eqV_g {x y:V} {a b:Value} (hx:c.R x a) (hy:c.R y b):c.G (eqV x y) fun r σ'=>c.W (compareOp .Eq a b) (.bool r) σ'∧c.W (compareOp .NotEq a b) (.bool !r) σ':=fun _ _ e =>
  obind e fun d e1 e=>obind e fun d' e2 e =>
  let ⟨_,r1⟩:=toD_reads 4 e1 hx
  let ⟨_,r2⟩:=toD_reads 4 e2 hy
  G.guard (c:=c) (C:=fun r σ'=>c.W (compareOp .Eq a b) (.bool r) σ'∧c.W (compareOp .NotEq a b) (.bool !r) σ') (fun q=>G.pure ⟨W.val (.bool _) fun _ _ h=>eq_dataH r1 r2 (and_t q).1 (and_t q).2 c.hu h,W.val (.bool _) fun _ _ h=>ne_dataH r1 r2 (and_t q).1 (and_t q).2 c.hu h⟩) e
theorem isV_g {x y:V} {a b:Value} (hx:c.R x a) (hy:c.R y b):c.G (X.of (isV x y)) fun r σ'=>c.W (compareOp .Is a b) (.bool r) σ'∧c.W (compareOp .IsNot a b) (.bool !r) σ':=by
  intro r σ' e
  obtain ⟨e1,rfl⟩:=X.of_some e
  obtain ⟨p1,rfl⟩:=isV_sound e1 hx hy
  exact ⟨W.val (.bool _) fun _ _ h=>wpAny_is_plain p1 h,W.val (.bool _) fun _ _ h=>wpAny_isNot_plain p1 h⟩
noncomputable def Cx.InW (c:Cx w h₀ Z) (a b:Value) (r:Bool) (σ':St):Prop:=c.W (compareOp .In a b) (.bool r) σ'∧c.W (compareOp .NotIn a b) (.bool !r) σ'
theorem inV_g {x y:V} {a b:Value} (hx:c.R x a) (hy:c.R y b):c.G (inV x y) (c.InW a b) :=
  G.sw (D:=fun a=>c.InW a b) hx
    (fun i t=>G.onG (D:=fun b=>c.InW (.int i t) b) hy fun l=>G.guard fun q=>G.pure (by
      cases Nat.eq_of_beq_eq_true q
      have hS:c.s.heap.SetOf (kn P w) 89 isB1 27:=SetOf.ext (b1_set c.B.wf) fun o e=>c.N.inv.keep _ _ e (by decide)
      exact ⟨W.tok fun Q E h=>wpAny_inSet_of (knd:=kn P w) (k:=i) (beq_self_eq_true _) rfl hS (h _ _ (.bool _)),W.tok fun Q E h=>wpAny_notInSet_of (knd:=kn P w) (k:=i) (beq_self_eq_true _) rfl hS (h _ _ (.bool _))⟩))
    (fun s t=>G.sw (D:=fun b=>c.InW (.str s t) b) hy (fun _ _=>G.fail) (fun u t'=>G.pure ⟨W.val (.bool _) fun Q E h=>_root_.PySem.P.in_str h,W.val (.bool _) fun Q E h=>_root_.PySem.P.notIn_str h⟩)
      fun k l xs items L=>G.of fun ys e2=>G.pure (by
        obtain ⟨l,e3,rfl⟩:=L.r.strs e2
        exact ⟨W.val (.bool _) fun Q E h=>in_listAt (hits s) L.l.isList (hits_eq e3) (hits_items e3 ▸ h),W.val (.bool _) fun Q E h=>notIn_listAt (hits s) L.l.isList (hits_eq e3) (hits_items e3 ▸ h)⟩))
    fun _ _ _ _ _=>G.fail
noncomputable def Cx.TriD (c:Cx w h₀ Z) (f:Int→Int→Str→X V) (C:V→St→Prop) (l:List Value) (v:V) (σ':St):Prop:=(∀ i t j u s w,l=[.int i t,.int j u,.str s w]→c.G (f i j s) C)→C v σ'
theorem tri_g {f:Int→Int→Str→X V} {C:V→St→Prop} {l:List V} {xs:List Value} (r:c.Rs l xs) (k:∀ i t j u s w,xs=[.int i t,.int j u,.str s w]→c.G (f i j s) C):c.G (tri f l) C:=fun _ _ e =>
  G.args3 (D:=c.TriD f C) r (fun _ x _ y _ z a1 a2 a3=>G.onI (D:=fun x=>c.TriD f C [x,y,z]) a1 fun i t=>G.onI (D:=fun y=>c.TriD f C [_,y,z]) a2 fun j u=>G.onS (D:=fun z=>c.TriD f C [_,_,z]) a3 fun s w _ _ e k=>k i t j u s w rfl e) e k
theorem ltV_g {x y:V} {a b:Value} (hx:c.R x a) (hy:c.R y b):c.G (ltV x y) (c.W (compareOp .Lt a b)) :=
  G.rd (D:=fun a=>c.W (compareOp .Lt a b)) hx G.fail (fun _=>G.fail) (fun i t=>G.onI (D:=fun b=>c.W (compareOp .Lt (.int i t) b)) hy fun j u=>G.pure (W.val (.bool _) fun Q E h=>PyProof.Rows.lt_int h)) (fun _ _=>G.fail)
    (fun l p T=>G.onT (D:=fun b=>c.W (compareOp .Lt (.ref p) b)) hy fun m q T' =>
      let ⟨_,_,_,h1,h2,h3,r⟩:=T.ex
      let ⟨_,_,_,h1',h2',h3',r'⟩:=T'.ex
      tri_g r fun _ _ _ _ _ _ e=>tri_g r' fun _ _ _ _ _ _ e'=>G.pure (lt3 h1 h2 h3 h1' h2' h3' e e'))
    (fun _ _ _=>G.fail) (fun _=>G.fail) G.fail
theorem leV_g {x y:V} {a b:Value} (hx:c.R x a) (hy:c.R y b):c.G (leV x y) (c.W (compareOp .LtE a b)) :=
  G.sw (D:=fun a=>c.W (compareOp .LtE a b)) hx (fun i t=>G.onI (D:=fun b=>c.W (compareOp .LtE (.int i t) b)) hy fun j u=>G.pure (W.val (.bool _) fun Q E h=>PyProof.Rows.le_int h))
    (fun i t=>G.onS (D:=fun b=>c.W (compareOp .LtE (.str i t) b)) hy fun j u=>G.pure (W.val (.bool _) fun Q E h=>_root_.PySem.P.le_str h)) fun _ _ _ _ _=>G.fail
theorem cmpV_g {op:CmpOp} {o:COp} {x y:V} {a b:Value} (hop:cCmp op=some o) (hx:c.R x a) (hy:c.R y b):c.G (cmpV o x y) (c.W (compareOp op a b)):=by
  cases op <;> cases hop
  · exact boolV_g (eqV_g hx hy) fun _ _ h=>h.1
  · exact boolV_g (eqV_g hx hy) fun _ _ h=>h.2
  · exact ltV_g hx hy
  · exact leV_g hx hy
  · exact onII_g (t:=compareOp .Gt) hx hy fun i j u u'=>G.pure (W.val (.bool _) fun Q E h=>PyProof.Rows.gt_int h)
  · exact onII_g (t:=compareOp .GtE) hx hy fun i j u u'=>G.pure (W.val (.bool _) fun Q E h=>PyProof.Rows.ge_int h)
  · exact boolV_g (isV_g hx hy) fun _ _ h=>h.1
  · exact boolV_g (isV_g hx hy) fun _ _ h=>h.2
  · exact boolV_g (inV_g hx hy) fun _ _ h=>h.1
  · exact boolV_g (inV_g hx hy) fun _ _ h=>h.2
end
section
variable {w:World} {h₀:Heap} {Z:Scr}
theorem len63 {n:Nat} (h:n≤sizeLine):(n:Int) < 2 ^ 63:=Int.lt_of_le_of_lt (Int.ofNat_le.mpr h) (by decide)
variable {c:Cx w h₀ Z}
theorem truth_g {x:V} {a:Value} (hx:c.R x a):c.G (truth x) fun b σ'=>WpB w h₀ Z c.A (truthy a) c.μ c.s σ' b :=
  G.rd (D:=fun a b σ'=>WpB w h₀ Z c.A (truthy a) c.μ c.s σ' b) hx (G.pure fun Q E h=>by
      unfold truthy
      exact wpAny_pure (h c.μ c.s (.refl _ _ _ _) c.N.sim)) (fun b=>G.pure fun Q E h=>wpAny_truthy_bool (h c.μ c.s (.refl _ _ _ _) c.N.sim)) (fun _ _=>G.fail)
    (fun x t=>G.guard fun q=>G.pure fun Q E h=>_root_.PySem.P.truthy_str (Int.not_le.mpr (len63 (line_of (big_le q)))) (by
      refine (?_:(x.length != 0)=((x.length:Int) != 0)) ▸ h c.μ { c.s with toks:=c.s.toks+1+1 } (Stp.toks _) c.N.sim
      cases x.length <;> rfl)) (fun _ _ _=>G.fail) (fun _ _ _=>G.fail) (fun _=>G.fail) G.fail
theorem ite_some {α:Type} {b:Bool} {x k:α} (h:(if b=true then some x else none)=some k):b=true∧x=k:=by
  induction b with
  | true=>exact ⟨rfl,Option.some.inj h⟩
  | false=>exact nS h
theorem seq_inv {i:Int} {n k:Nat} (h:seqIndex? i n=some k):k < n∧((0≤i∧i.toNat=k)∨(i < 0∧-(n:Int)≤i∧(i+n).toNat=k)):=by
  unfold seqIndex? at h
  by_cases hi:i < 0
  · rw [if_pos hi] at h
    obtain ⟨q,rfl⟩:=ite_some (b:=decide (0≤i+(n:Int)) && decide (i+(n:Int) < n)) h
    have q1:=of_decide_eq_true (and_t q).1
    exact ⟨(Int.toNat_lt q1).mpr (of_decide_eq_true (and_t q).2),.inr ⟨hi,Int.add_nonneg_iff_neg_le.mp q1,rfl⟩⟩
  · rw [if_neg hi] at h
    obtain ⟨q,rfl⟩:=ite_some (b:=decide (0≤i) && decide (i < (n:Int))) h
    have hi:=Int.not_lt.mp hi
    exact ⟨(Int.toNat_lt hi).mpr (of_decide_eq_true (and_t q).2),.inl ⟨hi,rfl⟩⟩
theorem fit62 {i:Int} (h:small i=true):-(2 ^ 63:Int)≤i∧i < 2 ^ 63∧(decide (i < -(2 ^ 63:Int)) || decide (i ≥ 2 ^ 63))=false:=by
  have h:(i.natAbs:Int) < 4611686018427387904:=Int.ofNat_lt.mpr (of_decide_eq_true h)
  have h2:i < 2 ^ 63:=Int.lt_of_le_of_lt Int.le_natAbs (Int.lt_trans h (by decide))
  have h1:-(2 ^ 63:Int)≤i:=Int.le_trans (Int.neg_le_neg (Int.le_of_lt (Int.lt_trans h (by decide)))) (Int.neg_le_of_neg_le (Int.natAbs_neg i ▸ Int.le_natAbs))
  exact ⟨h1,h2,by rw [decide_eq_false (Int.not_lt.mpr h1),decide_eq_false (Int.not_le.mpr h2)]; rfl⟩
noncomputable def Cx.Item (c:Cx w h₀ Z) (a:Value) (t:Sem Value) (v:V) (σ':St):Prop:=∃ T id,c.s.TypeIs a T∧typeLookup (.type T) "__getitem__"=pure (some (.builtin id))∧c.W t v σ'
theorem Item.str {x:Str} {t:Tok} {m:Sem Value} {v σ'} (h:c.W m v σ'):c.Item (.str x t) m v σ':=⟨"str",_,typeIs_str _ _ t,F.slot_str_getitem.lookup,h⟩
theorem Item.lst {a:Addr} {items:Array Value} {m:Sem Value} {v σ'} (l:c.s.heap.IsList a items) (h:c.W m v σ'):c.Item (.ref a) m v σ':=⟨"list",_,l.typeIs,slot_list_getitem.lookup,h⟩
theorem toList_at {items:Array Value} {k:Nat} {v:Value} (h:items.toList[k]?=some v):items[k]?=some v:=Array.getElem?_toList (xs:=items) ▸ h
theorem item_lst {a:Addr} {items:Array Value} {xs:List V} {i:Int} {t:Tok} {k:Nat} {v:V} {val:Value} (l:c.s.heap.PlainList a items) (hz:xs.length=items.size) (q:small i=true) (e:seqIndex? i xs.length=some k) (e3:items.toList[k]?=some val) (r:c.R v val):c.W (getItem (.ref a) (.int i t)) v c.σ :=
  W.val r fun Q E h=>by
    obtain ⟨_,(⟨g1,rfl⟩ | ⟨g1,g2,rfl⟩)⟩:=seq_inv e
    · exact wpAny_getItem_list l.isList g1 (fit62 q).2.1 (toList_at e3) h
    · exact wpAny_getItem_list_neg l.isList g1 (hz ▸ g2) (fit62 q).1 (hz ▸ toList_at e3) h
theorem pick_g {P:V→Prop} {xs:List V} {i:Int} {C:V→St→Prop} (h:∀ k v,seqIndex? i xs.length=some k→xs[k]?=some v→C v c.σ):c.G (X.of (pickV xs i)) C:=by
  intro v σ' e
  obtain ⟨e1,rfl⟩:=X.of_some e
  exact obind e1 fun k e2 e3=>h k v e2 e3
theorem itemV_g {x y:V} {a b:Value} (hx:c.R x a) (hy:c.R y b):c.G (itemV x y) (c.Item a (getItem a b)) :=
  G.onI (D:=fun b=>c.Item a (getItem a b)) hy fun i u=>G.guard fun q=>G.rd (D:=fun a=>c.Item a (getItem a (.int i u))) hx G.fail (fun _=>G.fail) (fun _ _=>G.fail)
    (fun s t=>G.of fun ch e=>G.pure (Item.str (W.tok fun Q E h=>PyProof.Rows.getItem_str (fit62 q).2.2 e (h _ _ (.str _ _)))))
    (fun l p T=>pick_g (P:=fun _=>True) fun k v e2 e3=>by
      refine hid fun GG kk=>?_
      obtain ⟨o,vs,n,ho,hc,hd,hr⟩:=T.ex
      obtain ⟨val,e4,r⟩:=hr.get e3
      refine kk ?_
      clear kk GG
      exact ⟨"tuple",_,⟨o,ho,hc⟩,F.slot_tuple_getitem.lookup,W.val r fun Q E h=>PyProof.Rows.getItem_tuple ⟨o,ho,hc,n,hd⟩ (fit62 q).1 (fit62 q).2.1 (hr.length.trans Array.length_toList ▸ e2) (toList_at e4) h⟩)
    (fun k p hp=>G.lsF hp fun xs items L=>pick_g (P:=fun _=>True) fun k v e2 e3 =>
      let ⟨_,e4,r⟩:=L.r.get e3
      Item.lst L.l.isList (item_lst L.l L.size q e2 e4 r))
    (fun _=>G.fail) G.fail
theorem VRs.pick {μ:List Addr} {h:Heap} {xs:List V} {items:Array Value} (r:VRs Z μ h xs items.toList):∀ l:List Nat,VRs Z μ h (l.filterMap (xs[·]?)) (l.filterMap (items[·]?))
  | []=>.nil
  | i::l=>by
    have ih:=VRs.pick r l
    cases e:xs[i]? with
    | none =>
      have:items[i]?=none:=by
        have hz:=r.length.trans Array.length_toList
        rw [Array.getElem?_eq_none_iff,← hz]
        exact List.getElem?_eq_none_iff.mp e
      rw [List.filterMap_cons,List.filterMap_cons,e,this]; exact ih
    | some v =>
      obtain ⟨x,e1,rx⟩:=r.get e
      have e1:items[i]?=some x:=by simpa using e1
      rw [List.filterMap_cons,List.filterMap_cons,e,e1]; exact .cons rx ih
theorem VRs.cut {μ:List Addr} {h:Heap} {xs:List V} {items:Array Value} (r:VRs Z μ h xs items.toList) (lo hi:Option Int):VRs Z μ h (cut xs lo hi) (slicePick items lo hi none).toList:=by
  have hz:=r.length.trans Array.length_toList
  unfold Mine.cut slicePick
  rw [hz,List.toList_toArray]
  exact r.pick _
theorem cut_map {α β:Type} (f:α→β) (xs:List α) (lo hi:Option Int):cut (xs.map f) lo hi=(cut xs lo hi).map f:=by
  unfold cut
  rw [List.length_map,List.map_filterMap]
  congr 1
  funext i
  simp
theorem VRs.ofInts {μ:List Addr} {h:Heap}:∀ {vs:List Value} {xs:List Int},IntsAre vs xs→VRs Z μ h (xs.map V.int) vs
  | _,_,.nil=>.nil
  | _,_,.cons n t r=>.cons (.int n t) (VRs.ofInts r)
theorem Base.script (B:Base w h₀ Z) {h:Heap} (i:Inv h₀ h):∃ items,h.IsList Z.l items∧IntsAre items.toList Z.xs:=by
  refine hid fun GG kk=>?_
  obtain ⟨items,⟨o,ho,r⟩,hI⟩:=B.scr
  refine kk ?_
  clear kk GG
  exact ⟨items,⟨o,i.keep _ _ ho (Nat.ne_of_gt (Nat.lt_of_lt_of_le (by decide) B.low)),r⟩,hI⟩
inductive PartR (Z:Scr) (μ:List Addr) (h:Heap):Option V→Value→Prop
  | no:PartR Z μ h none .none
  | yes {v x}:VR Z μ h v x→PartR Z μ h (some v) x
theorem PartR.stp {Xs μ μ':List Addr} {s s':Shared} {v x} (r:PartR Z μ s.heap v x) (st:Stp h₀ Xs μ s μ' s'):PartR Z μ' s'.heap v x:=by
  induction r with
  | no=>exact .no
  | yes r=>exact .yes (st.vr r)
theorem PartR.opt {μ:List Addr} {h:Heap} {v x} {i:Option Int} (r:PartR Z μ h v x) (e:optInt v=some i):∃ p:Option (Int × Tok),x=partValue p∧p.map (·.1)=i∧IsPart x i:=by
  induction r with
  | no=>exact Option.some.inj e ▸ ⟨none,rfl,rfl,.none⟩
  | yes r =>
    refine obind e fun j e1 e=>?_
    cases q:small j with
    | false=>rw [q] at e; exact nS e
    | true =>
      rw [q] at e
      obtain ⟨t,rfl⟩:=r.int? e1
      exact Option.some.inj e ▸ ⟨some (j,t),rfl,rfl,by obtain ⟨f1,f2,_⟩:=fit62 q; first | exact .int .. | exact .some .. | constructor⟩
theorem slice_str {y:Str} {t:Tok} {sl:Addr} {pl pu:Option (Int × Tok)} (hs:c.s.heap.IsSliceOf sl (partValue pl) (partValue pu) .none) (q:y.length≤4096):c.W (getItem (.str y t) (.ref sl)) (.str (Txt.slice y (pl.map (·.1)) (pu.map (·.1)))) c.σ :=
  W.tok fun Q E h=>wpAny_getItem_str_slice (l:=pl) (u:=pu) (st:=none) hs rfl (by
    have hle:(Txt.slice y (pl.map (·.1)) (pu.map (·.1))).length≤sizeLine:=Nat.le_trans (Txt.slice_le y _ _) (line_of q)
    unfold sliceMade slicePicked
    unfold Txt.slice at h hle
    split
    · rename_i cc
      rw [if_pos (show ((1:Int) == 1 && (Builtin.Str.strSliceIndices (pl.map (·.1)) (pu.map (·.1)) 1 y.length).length == y.length)=true from cc)] at h
      exact h _ _ (.str _ _)
    · rename_i cc
      rw [if_neg (show ¬ ((1:Int) == 1 && (Builtin.Str.strSliceIndices (pl.map (·.1)) (pu.map (·.1)) 1 y.length).length == y.length)=true from cc)] at h hle
      exact ⟨hle,h _ _ (.str _ _)⟩)
theorem sliceV_g {x:V} {lo hi:Option V} {a vl vu:Value} {sl:Addr} (hx:c.R x a) (hl:PartR Z c.μ c.s.heap lo vl) (hu:PartR Z c.μ c.s.heap hi vu) (hs:c.s.heap.IsSliceOf sl vl vu .none):c.G (sliceV x lo hi) (c.Item a (getItem a (.ref sl))) :=
  G.of fun l e1=>G.of fun u e2=>by
    obtain ⟨pl,rfl,rfl,P1⟩:=hl.opt e1
    obtain ⟨pu,rfl,rfl,P2⟩:=hu.opt e2
    exact G.rd (D:=fun a=>c.Item a (getItem a (.ref sl))) hx G.fail (fun _=>G.fail) (fun _ _=>G.fail) (fun y t=>G.guard fun q=>G.pure (Item.str (slice_str hs (big_le q)))) (fun _ _ _=>G.fail)
      (fun k p hp=>G.lsF hp fun xs items L=>G.guard fun q=>G.new (Item.lst L.l.isList (W.newL (L.r.cut _ _) fun Q E h=>wpAny_getItem_list_slice L.l.isList hs P1 P2 .none (fun e=>nomatch e) (h _ _) (L.size ▸ line_of (big_le q))))) (fun _=>G.fail)
      (G.guard fun q=>G.new (by
        obtain ⟨items,l1,hI⟩:=c.B.script c.N.inv
        have r1:c.Rs (Z.xs.map V.int) items.toList:=VRs.ofInts hI
        have hz:Z.xs.length=items.size:=(List.length_map ..).symm.trans (r1.length.trans Array.length_toList)
        exact Item.lst l1 (W.newL (cut_map V.int Z.xs _ _ ▸ r1.cut _ _) fun Q E h=>wpAny_getItem_list_slice l1 hs P1 P2 .none (fun e=>nomatch e) (h _ _) (hz ▸ line_of (big_le q)))))
end
section
variable {w:World} {h₀:Heap} {Z:Scr}
theorem Wp.keep {A:Around} {t:Sem Value} {μ:List Addr} {σ:St} {s:Shared} {v:V} (N:Now h₀ Z μ σ s)
    (hv:∀ (Q:Value→Shared→Prop) E,(∀ val h' tk,(∀ b o,s.heap.get? b=some o→h'.get? b=some o)→VR Z μ h' v val→Q val { s with heap:=h',toks:=tk })→wpAny (model P w) A t Q E s):Wp w h₀ Z A t μ s σ v :=
  fun Q E h=>hv Q E fun val h' tk hk r=>h μ { s with heap:=h',toks:=tk } val (Stp.ext hk rfl rfl) (N.sim.ext hk) r
theorem Wp.wr {A:Around} {t:Sem Value} {μ:List Addr} {σ:St} {s:Shared} {k:Nat} {a:Addr} {xs ys:List V} {items:Array Value} (B:Base w h₀ Z) (N:Now h₀ Z μ σ s) (e:σ[k]?=some (Cl.lst xs)) (ha:μ[k]?=some a)
    (hr:VRs Z μ s.heap ys items.toList) (hv:∀ (Q:Value→Shared→Prop) E,(∀ h' tk,h'.PlainList a items→Heap.SameBut a s.heap h'→Q .none { s with heap:=h',toks:=tk })→wpAny (model P w) A t Q E s):Wp w h₀ Z A t μ s (σ.set k (.lst ys)) .none:=by
  intro Q E h
  refine hv Q E fun h' tk hl hs=>?_
  obtain ⟨S',hf⟩:=N.sim.write e ha hs hl hr
  obtain ⟨n,ho⟩:=hl
  refine h μ _ _ (Stp.write (N.sim.low a (List.mem_of_getElem? ha)) hs ho B.b378 B.b376 hf (fun o vs q _=>?_) (.inl (List.mem_of_getElem? ha)) tk) S' .none
  obtain ⟨its,⟨m,q2⟩,_⟩:=N.sim.list e (.lst ha)
  obtain rfl:=Option.some.inj (q2.symm.trans q)
  intro c
  exact absurd (Value.type.inj c) (by decide)
theorem own_str:Manifest.owners.lookup (String.ofList ['r','t','s'].reverse)=some Manifest.sig_str:=by kernel_rfl
theorem args_find4 (a b c d:Value):argsOk "str.find" ⟨[a,b,c,d],[]⟩:=by
  unfold argsOk; rw [signature?_of (id:="str.find") (n:=['d','n','i','f']) (o:=['r','t','s']) (by kernel_rfl) own_str]; kernel_rfl
theorem gives_find4 (x y:Str) (i j:Int) (t u v v':Tok):Gives (Builtin.«str.find» ⟨[.str x t,.str y u,.int i v,.int j v'],[]⟩) (.int (findIn x y i j)):=by
  show Gives (match Builtin.Str.occurrences x y (fromIndex x.length i) (min (fromIndex x.length j) x.length) 1 with | k::_=>retInt k | []=>(do rule "str.find.not-found"; retInt (-1))) _
  rw [Nat.min_comm]
  unfold findIn
  cases Builtin.Str.occurrences x y (fromIndex x.length i) (min x.length (fromIndex x.length j)) 1 with
  | nil=>exact .rule (.of_eq rfl)
  | cons k _=>exact .of_eq rfl
theorem maxI_spec:∀ (r:List Int) (a:Int),maxI a r∈a::r∧∀ b∈a::r,b≤maxI a r
  | [],a=>⟨by simp [maxI],by simp [maxI]⟩
  | b::r,a=>by
    obtain ⟨h1,h2⟩:=maxI_spec r (if a < b then b else a)
    have h0:=h2 _ (by simp:(if a < b then b else a)∈_)
    unfold maxI
    refine ⟨?_,fun c hc=>?_⟩
    · rcases List.mem_cons.mp h1 with h1 | h1
      · rw [h1]; split <;> simp
      · exact List.mem_cons_of_mem _ (List.mem_cons_of_mem _ h1)
    · rcases List.mem_cons.mp hc with rfl | hc
      · refine Int.le_trans ?_ h0; split <;> omega
      · rcases List.mem_cons.mp hc with rfl | hc
        · refine Int.le_trans ?_ h0; split <;> omega
        · exact h2 c (List.mem_cons_of_mem _ hc)
theorem minI_spec:∀ (r:List Int) (a:Int),minI a r∈a::r∧∀ b∈a::r,minI a r≤b
  | [],a=>⟨by simp [minI],by simp [minI]⟩
  | b::r,a=>by
    obtain ⟨h1,h2⟩:=minI_spec r (if b < a then b else a)
    have h0:=h2 _ (by simp:(if b < a then b else a)∈_)
    unfold minI
    refine ⟨?_,fun c hc=>?_⟩
    · rcases List.mem_cons.mp h1 with h1 | h1
      · rw [h1]; split <;> simp
      · exact List.mem_cons_of_mem _ (List.mem_cons_of_mem _ h1)
    · rcases List.mem_cons.mp hc with rfl | hc
      · refine Int.le_trans h0 ?_; split <;> omega
      · rcases List.mem_cons.mp hc with rfl | hc
        · refine Int.le_trans h0 ?_; split <;> omega
        · exact h2 c (List.mem_cons_of_mem _ hc)
theorem maxI_eq {a:Int} {r:List Int} {M:Int} (h:M∈a::r) (hM:∀ b∈a::r,b≤M):M=maxI a r:=by
  obtain ⟨h1,h2⟩:=maxI_spec r a
  exact Int.le_antisymm (h2 _ h) (hM _ h1)
theorem minI_eq {a:Int} {r:List Int} {M:Int} (h:M∈a::r) (hM:∀ b∈a::r,M≤b):M=minI a r:=by
  obtain ⟨h1,h2⟩:=minI_spec r a
  exact Int.le_antisymm (hM _ h1) (h2 _ h)
theorem max_ints {A:Around} {s:Shared} {l:Addr} {items:Array Value} {a:Int} {r:List Int} (hh:A.handled=none) (hl:s.heap.IsList l items) (hi:IntsAre items.toList (a::r)) {Q:Value→Shared→Prop} {E:Value→Shared→Prop}
    (h:∀ h' t tk,(∀ b o,s.heap.get? b=some o→h'.get? b=some o)→Q (.int (maxI a r) t) { s with heap:=h',toks:=tk }):wpAny (model P w) A (call (.builtin "max") [.ref l]) Q E s:=by
  obtain ⟨xs,e⟩:=hi.allInts.items
  have e:items=intItems xs:=by rw [← e]
  subst e
  have hns:a::r=xs.toList.map (·.1):=by rw [← hi.numsOf,← nums_intItems]
  have hlen:xs.size=r.length+1:=by rw [← Array.length_toList,← List.length_map (f:=(·.1)),← hns]; rfl
  refine max_intList hh hl (by omega) fun v h' tk hv hk=>?_
  obtain ⟨t,rfl⟩:=intItems_at hv
  obtain ⟨h1,h2⟩:=argBest_gt (numAt xs) (xs.size - 1)
  have q:numAt xs (argBest (fun i j=>decide (numAt xs i > numAt xs j)) (xs.size - 1))=maxI a r:=by
    refine maxI_eq ?_ fun b hb=>?_
    · rw [hns,numAt_eq]; exact getD_mem (by rw [List.length_map,Array.length_toList]; omega)
    · rw [hns] at hb
      obtain ⟨j,hj,rfl⟩:=mem_getD hb
      rw [List.length_map,Array.length_toList] at hj
      rw [← numAt_eq]; exact h2 j (by omega)
  rw [q]
  exact h h' t tk hk
theorem min_ints {A:Around} {s:Shared} {l:Addr} {items:Array Value} {a:Int} {r:List Int} (hh:A.handled=none) (hl:s.heap.IsList l items) (hi:IntsAre items.toList (a::r)) {Q:Value→Shared→Prop} {E:Value→Shared→Prop}
    (h:∀ h' t tk,(∀ b o,s.heap.get? b=some o→h'.get? b=some o)→Q (.int (minI a r) t) { s with heap:=h',toks:=tk }):wpAny (model P w) A (call (.builtin "min") [.ref l]) Q E s:=by
  obtain ⟨xs,e⟩:=hi.allInts.items
  have e:items=intItems xs:=by rw [← e]
  subst e
  have hns:a::r=xs.toList.map (·.1):=by rw [← hi.numsOf,← nums_intItems]
  have hlen:xs.size=r.length+1:=by rw [← Array.length_toList,← List.length_map (f:=(·.1)),← hns]; rfl
  refine min_intList hh hl (by omega) fun v h' tk hv hk=>?_
  obtain ⟨t,rfl⟩:=intItems_at hv
  obtain ⟨h1,h2⟩:=argBest_lt (numAt xs) (xs.size - 1)
  have q:numAt xs (argBest (fun i j=>decide (numAt xs i < numAt xs j)) (xs.size - 1))=minI a r:=by
    refine minI_eq ?_ fun b hb=>?_
    · rw [hns,numAt_eq]; exact getD_mem (by rw [List.length_map,Array.length_toList]; omega)
    · rw [hns] at hb
      obtain ⟨j,hj,rfl⟩:=mem_getD hb
      rw [List.length_map,Array.length_toList] at hj
      rw [← numAt_eq]; exact h2 j (by omega)
  rw [q]
  exact h h' t tk hk
theorem sum_ints {A:Around} {s:Shared} {l:Addr} {items:Array Value} {ns:List Int} (hh:A.handled=none) (hl:s.heap.IsList l items) (hi:IntsAre items.toList ns) {Q:Value→Shared→Prop} {E:Value→Shared→Prop}
    (h:∀ h' t tk,(∀ b o,s.heap.get? b=some o→h'.get? b=some o)→Q (.int ns.sum t) { s with heap:=h',toks:=tk }):wpAny (model P w) A (call (.builtin "sum") [.ref l]) Q E s:=by
  obtain ⟨xs,e⟩:=hi.allInts.items
  have e:items=intItems xs:=by rw [← e]
  subst e
  have hns:ns=xs.toList.map (·.1):=by rw [← hi.numsOf,← nums_intItems]
  refine sum_intListG hh hl fun h' tk t' hk=>?_
  rw [preSum_eq,List.take_of_length_le (by simp),← hns]
  exact h h' t' tk hk
end
theorem own_re:Manifest.owners.lookup (String.ofList ['n','r','e','t','t','a','P','.','e','r'].reverse)=some Manifest.sig_re_Pattern:=by kernel_rfl
theorem plainAttrs_re:PlainAttrs "re.Pattern" :=
  ⟨⟨"object.__getattribute__",by rw [typeLookup_type,builtinLookup_eq_fast]; kernel_rfl,by decide +kernel⟩,by rw [typeLookup_type,builtinLookup_eq_fast]; kernel_rfl⟩
theorem slot_search:Slot "re.Pattern" "search" "re.Pattern.search" :=
  .of (owner:="re.Pattern") (n:="search") (by rw [typeLookup_type,builtinLookup_eq_fast]; kernel_rfl) (by decide +kernel) (by decide +kernel) (by decide +kernel)
    (by first | exact .inl (by decide +kernel) | exact .inr (by decide +kernel)) (by rw [isSubtype_type]; kernel_rfl)
theorem type_search:typeOf (.builtin "re.Pattern.search")=pure (.type "method_descriptor"):=by show builtinType _=_; rw [builtinType_eq_fast]; kernel_rfl
theorem entry_search:entryFor table "re.Pattern.search"=some Builtin.«re.Pattern.search»:=entryFor_of_tree (by kernel_rfl)
theorem args_search (a b:Value):argsOk "re.Pattern.search" ⟨[a,b],[]⟩:=by
  unfold argsOk; rw [signature?_of (id:="re.Pattern.search") (n:=['h','c','r','a','e','s']) (o:=['n','r','e','t','t','a','P','.','e','r']) (by kernel_rfl) own_re]; kernel_rfl
noncomputable def code1:Array Nat:=#[14,10,4,1,1,22,0,31,16,127,0,13,7,22,0,31,16,127,0,1]
noncomputable def code2:Array Nat:=#[14,14,4,1,1,9,4294966783,0,0,2147483648,0,0,0,0,0,13,11,9,4294966783,0,0,2147483648,0,0,0,0,0,1]
open Sre in
theorem set1 (c:Nat) (h:32≤c) (h':c < 127) (seen:Sre.Seen):∃ s',inSet code1 c code1.size 5 true seen=.ok (false,s'):=by
  have e1:(decide (c≤31))=false:=decide_eq_false (by omega)
  have e2:(c == 127)=false:=by simp; omega
  refine ⟨((seen.add 22).add 16).add 0,?_⟩
  show (if (decide (0≤c) && decide (c≤31))=true then Except.ok (true,seen.add 22) else (if (c == 127)=true then Except.ok (true,(seen.add 22).add 16) else Except.ok (false,((seen.add 22).add 16).add 0)))=_
  rw [e1,e2]
  rfl
open Sre in
theorem set2 (c:Nat) (h:32≤c) (h':c < 127) (seen:Sre.Seen):∃ s',inSet code2 c code2.size 5 true seen=.ok (false,s'):=by
  have e1:(decide (c < 256) && (code2.getD (5+(1+c / 32)) 0).testBit (c % 32))=false:=by
    have:∀ c,c < 127→32≤c→(decide (c < 256) && (code2.getD (5+(1+c / 32)) 0).testBit (c % 32))=false:=by decide +kernel
    exact this c h' h
  refine ⟨(seen.add 9).add 0,?_⟩
  show (if (decide (c < 256) && (code2.getD (5+(1+c / 32)) 0).testBit (c % 32))=true then Except.ok (true,seen.add 9) else Except.ok (false,(seen.add 9).add 0))=_
  rw [e1]
  rfl
open Sre in
theorem admitted_none {m:M} (h:∀ s,s < m.lim→∀ seen,∃ s',inSet m.code (m.text.getD s 0) m.code.size 5 true seen=.ok (false,s')):∀ (fuel s:Nat) (seen:Sre.Seen),∃ s',M.admitted m fuel s seen=.ok (none,s')
  | 0,s,seen=>⟨seen,rfl⟩
  | fuel+1,s,seen=>by
    unfold M.admitted
    by_cases hs:s ≥ m.lim
    · rw [if_pos hs]; exact ⟨seen,rfl⟩
    · rw [if_neg hs]
      refine exE (h s (by omega) seen) fun s' e=>?_
      rw [e]
      exact admitted_none h fuel (s+1) s'
structure Fails (m:Sre.M):Prop where
  ans:m.answer=some false
  fr:m.frames=[]
  out:m.outcome=none
open Sre in
theorem fails_from {m:M} (hf:m.hasFirstSet=true) (h:∀ s,s < m.lim→∀ seen,∃ s',inSet m.code (m.text.getD s 0) m.code.size 5 true seen=.ok (false,s')) (h1:m.frames=[]) (h2:m.outcome=none) {s:Nat} {first:Bool}:Fails (m.attemptFrom s first):=by
  unfold M.attemptFrom
  rw [hf]
  simp only [Bool.not_true,Bool.false_eq_true,if_false]
  refine exE (admitted_none h (m.lim+1 - s) s m.seen) fun s' e=>?_
  rw [e]
  exact ⟨rfl,h1,h2⟩
open Sre in
theorem fails_search {code text:Array Nat} (hc:code=code1∨code=code2) (ht:∀ s,s < text.size→32≤text.getD s 0∧text.getD s 0 < 127):Fails (forSearch code text 0 0 text.size false):=by
  have hh:∀ (m:M),m.code=code→m.text=text→m.lim=text.size→∀ s,s < m.lim→∀ seen,∃ s',inSet m.code (m.text.getD s 0) m.code.size 5 true seen=.ok (false,s'):=by
    intro m e1 e2 e3 s hs seen
    rw [e3] at hs
    refine anE (ht s hs) fun h1 h2=>?_
    rw [e1,e2]
    rcases hc with rfl | rfl
    · exact set1 _ h1 h2 seen
    · exact set2 _ h1 h2 seen
  have hhead:(header code).1=1:=by rcases hc with rfl | rfl <;> rfl
  have hf:∀ m:M,m.code=code→m.hasFirstSet=true:=by
    intro m e; unfold M.hasFirstSet; rw [e]; rcases hc with rfl | rfl <;> rfl
  unfold forSearch
  simp only
  rw [hhead]
  split
  · exact ⟨rfl,rfl,rfl⟩
  · exact fails_from (hf _ (by rfl)) (hh _ (by rfl) (by rfl) (by rfl)) (by rfl) (by rfl)
theorem runFor_fails {m:Sre.M} (h:Fails m):((m.runFor 4).outcome matches some .failed)=true∧(m.runFor 4).outcome.isSome=true:=by
  obtain ⟨code,text,lim,start,ls,wt,ma,pc,pos,handed,om,marks,lm,li,loops,inner,frames,weight,answer,seen,outcome⟩:=m
  obtain ⟨h1,h2,h3⟩:=h
  simp only at h1 h2 h3
  subst h1 h2 h3
  exact ⟨rfl,rfl⟩
open PySem.Builtin.Re in
theorem drive_fails {m:Sre.M} (h:Fails m):reDrive (2 ^ 64) m=pure (m.runFor 4):=by
  rw [show (2:Nat) ^ 64=(2 ^ 64 - 1)+1 from rfl,reDrive]
  show (if (m.runFor reTurnSteps).outcome.isSome=true then pure (m.runFor reTurnSteps) else _)=_
  rw [show reTurnSteps=4 from rfl,(runFor_fails h).2]
  rfl
open PySem.Builtin.Re in
theorem wpAny_runToEnd {M:Model} {A:Around} {E:Value→Shared→Prop} {s:Shared} {m:Sre.M} (h:Fails m) {Q:Option Sre.M→Shared→Prop} (hq:Q none s):wpAny M A (reRunToEnd m) Q E s:=by
  unfold reRunToEnd
  rw [drive_fails h]
  refine wpAny_bind (wpAny_pure ?_)
  refine wpAny_bind (wpAny_forIn_list _ (fun _ _ s'=>s'=s) _ ?_ ?_ _ _ rfl)
  · rintro x rest b _ rfl
    split
    · exact wpAny_bind (wpAny_rule (wpAny_pure rfl))
    · exact wpAny_pure rfl
  · rintro b _ rfl
    have h1:=(runFor_fails h).1
    cases ho:(m.runFor 4).outcome with
    | none=>rw [ho] at h1; cases h1
    | some o =>
      rw [ho] at h1
      induction o with
      | failed=>exact wpAny_pure hq
      | matched=>cases h1
      | stuck=>cases h1
open PySem.Builtin.Re in
theorem named_search (x:Str) (t:Tok):reNamed "re.Pattern.search" "search" ["string","pos","endpos"] 1 [.str x t] []=pure [some (.str x t),none,none]:=rfl
section
variable {w:World} {A:Around} {E:Value→Shared→Prop} {s:Shared}
theorem okHeader_at {x:Str} (h:okHeader x=true):∀ s,s < x.cps.size→32≤x.cps.getD s 0∧x.cps.getD s 0 < 127:=by
  intro i hi
  have hm:x.cps.getD i 0∈x.cps.toList:=by
    have:x.cps.getD i 0=x.cps[i]:=by simp [Array.getD,hi]
    rw [this]; simp
  have:=List.all_eq_true.mp (Bool.and_eq_true_iff.mp h).2 _ hm
  simpa using this
open PySem.Builtin.Re in
theorem wpAny_search {a c:Addr} {p:Value} {fl:Value} {items:Array Value} {n:Nat} {x:Str} {t:Tok} {Q:Value→Shared→Prop} (ha:s.heap.get? a=some { cls:=.type "re.Pattern",data:=.fields #[p,fl,.int 0 0,.none,.none,.ref c,.int 0 0] })
    (hc:s.heap.get? c=some { cls:=.type "tuple",data:=.seq items n }) (hi:(items.map reRawOf).map (·.toNat)=code1∨(items.map reRawOf).map (·.toNat)=code2) (hx:okHeader x=true) (hq:Q .none s) :
    wpAny (model P w) A (call (.builtin "re.Pattern.search") [.ref a,.str x t]) Q E s:=by
  refine wpAny_call_entry slot_search ⟨_,ha,rfl⟩ entry_search ?_ (args_search _ _)
  show wpAny _ _ (reTarget "re.Pattern.search" "search" ⟨[.ref a,.str x t],[]⟩ >>= fun t=>reAnswer t (Sre.forSearch t.code t.text t.groups t.pos t.lim false)) _ _ s
  refine wpAny_bind ?_
  unfold reTarget
  simp only
  rw [named_search]
  refine wpAny_bind (wpAny_pure ?_)
  simp only
  refine wpAny_bind (wpAny_pure (wpAny_bind (wpAny_pure ?_)))
  refine wpAny_bind (wpAny_fieldsOf ha rfl ?_)
  refine wpAny_bind (wpAny_of_eq (show reTextOf (.str x t)=pure (x.cps,0) from rfl) ?_)
  show wpAny _ _ (reNoCollectionInside (.str x t) 0 >>= fun _=>reRawItems (.ref c) >>= fun r=>pure ({ pattern:=.ref a,string:=.str x t,code:=r.map (·.toNat),text:=x.cps,kind:=0,groups:=0,pos:=0,lim:=min ((2:Int) ^ 63 - 1).toNat x.cps.size }:ReTarget)) _ _ _
  refine wpAny_bind (wpAny_of_eq (show reNoCollectionInside (.str x t) 0=pure () from rfl) ?_)
  refine wpAny_bind (wpAny_bind (wpAny_seqItems hc rfl (wpAny_pure (wpAny_pure ?_))))
  have hb:x.cps.size≤4096:=of_decide_eq_true (Bool.and_eq_true_iff.mp hx).1
  have hl:min ((2:Int) ^ 63 - 1).toNat x.cps.size=x.cps.size:=Nat.min_eq_right (Nat.le_trans hb (by decide))
  unfold reAnswer
  refine wpAny_bind (wpAny_runToEnd ?_ (wpAny_pure ⟨_,rfl,hq⟩))
  show Fails (Sre.forSearch ((items.map reRawOf).map (·.toNat)) x.cps 0 0 (min ((2:Int) ^ 63 - 1).toNat x.cps.size) false)
  rw [hl]
  exact fails_search hi (okHeader_at hx)
end
section
variable {w:World} {h₀:Heap} {Z:Scr}
theorem fit_big {n:Nat} (h:big n=true):Builtin.Str.tooLong n=false:=decide_eq_false (Nat.not_lt_of_le (line_of (big_le h)))
theorem long63 {n:Nat} (h:big n=true):¬ (n:Int) ≥ 2 ^ 63:=Int.not_le.mpr (len63 (line_of (big_le h)))
theorem VRs.two {μ:List Addr} {h:Heap} {a b:V} {l:List Value} (r:VRs Z μ h [a,b] l):∃ x y,l=[x,y]∧VR Z μ h a x∧VR Z μ h b y:=by
  obtain ⟨x,l1,rfl,r1,r⟩:=r.cons_inv
  obtain ⟨y,l2,rfl,r2,r⟩:=r.cons_inv
  cases r.nil_inv
  exact ⟨x,y,rfl,r1,r2⟩
theorem VRs.one {μ:List Addr} {h:Heap} {a:V} {l:List Value} (r:VRs Z μ h [a] l):∃ x,l=[x]∧VR Z μ h a x:=by
  obtain ⟨x,l1,rfl,r1,r⟩:=r.cons_inv
  cases r.nil_inv
  exact ⟨x,rfl,r1⟩
theorem VR.lst_inv {μ:List Addr} {h:Heap} {k:Nat} {x:Value} (r:VR Z μ h (.lst k) x):∃ a,x=.ref a∧μ[k]?=some a:=by
  cases r with
  | lst h=>exact ⟨_,rfl,h⟩
theorem VRs.strList {μ:List Addr} {h:Heap}:∀ (l:List (Str × Tok)),VRs Z μ h (l.map fun p=>V.str p.1) (strValues l)
  | []=>.nil
  | p::l=>.cons (.str p.1 p.2) (VRs.strList l)
theorem strsFrom_vrs {μ:List Addr} {h:Heap} (t:Nat) (l:List Str):VRs Z μ h (l.map V.str) (strsFrom t l):=by
  rw [strsFrom_eq]
  have:=VRs.strList (Z:=Z) (μ:=μ) (h:=h) (numbered t l)
  rw [← numbered_texts t l,List.map_map]
  rw [numbered_texts]
  exact this
theorem txt_vr {μ:List Addr} {h:Heap} {v:Value} {x:Str} (e:txt? v=some x):VR Z μ h (.str x) v:=by
  induction v with
  | str y t=>exact Option.some.inj e ▸ .str _ _
  | _=>exact nS e
theorem b3_vr {μ:List Addr} {h:Heap} {i:Int} {kvs:List (Int × Str)}:∀ {VV:List (Int × Value)},Told kvs VV→VR Z μ h (((kvs.find? fun kv=>decide (kv.1=i)).map fun kv=>V.str kv.2).getD .none) ((valueAt VV i).getD .none):=by
  induction kvs with
  | nil =>
    intro VV t
    induction VV with
    | nil=>exact .none
    | cons=>exact nomatch t
  | cons kv kvs ih =>
    intro VV t
    induction VV with
    | nil=>exact nomatch t
    | cons v VV =>
      obtain ⟨k,v⟩:=v
      obtain ⟨h1,h2⟩:=List.cons.inj t
      obtain ⟨q1,q2⟩:=Prod.mk.inj h1
      cases q1
      have ih:=ih h2
      show VR Z μ h (((List.find? (fun kv=>decide (kv.1=i)) (kv::kvs)).map fun kv=>V.str kv.2).getD .none) ((((List.find? (fun kv=>decide (kv.1=i)) ((kv.1,v)::VV))).map (·.2)).getD .none)
      rw [List.find?_cons,List.find?_cons]
      cases decide (kv.1=i) with
      | true=>exact txt_vr q2
      | false=>exact ih
end
section
variable {w:World} {h₀:Heap} {Z:Scr}
theorem ninfit {i:Int} (h:small i=true):Builtin.List.listFitsIndex i=true:=by
  unfold Builtin.List.listFitsIndex
  rw [decide_eq_true (fit62 h).1,decide_eq_true (fit62 h).2.1]; rfl
theorem plain_map {h:Heap} {a:Addr} {items:Array Value} {n:Nat} (ho:h.get? a=some { cls:=.type "list",data:=.seq items n }) (f:Array Value→Array Value):(h.update a (Obj.mapSeq f)).PlainList a (f items) :=
  ⟨_,Heap.get?_update_self (Obj.mapSeq f) ho rfl⟩
variable {c:Cx w h₀ Z}
theorem W.keep {t:Sem Value} {v:V} (h:∀ (Q:Value→Shared→Prop) E,(∀ val h' tk,(∀ b o,c.s.heap.get? b=some o→h'.get? b=some o)→VR Z c.μ h' v val→Q val { c.s with heap:=h',toks:=tk })→wpAny (model P w) c.A t Q E c.s):c.W t v c.σ:=Wp.keep c.N h
theorem W.wr {t:Sem Value} {k:Nat} {a:Addr} {xs ys:List V} {its items:Array Value} (L:c.ListAt k a xs its) (hr:c.Rs ys items.toList)
    (hv:∀ (Q:Value→Shared→Prop) E,(∀ h' tk,h'.PlainList a items→Heap.SameBut a c.s.heap h'→Q .none { c.s with heap:=h',toks:=tk })→wpAny (model P w) c.A t Q E c.s):c.W t .none (c.σ.set k (.lst ys)):=Wp.wr c.B c.N L.e L.ha hr hv
noncomputable abbrev Cx.Cl (c:Cx w h₀ Z) (id:String) (vals:List Value):V→St→Prop:=c.W (call (.builtin id) vals)
variable {args:List V} {vals:List Value}
theorem len_g (r:c.Rs args vals):c.G (bLen args) (c.Cl "len" vals):=G.args1 (D:=c.Cl "len") r fun v x r=>G.sw (D:=fun x=>c.Cl "len" [x]) r (fun _ _=>G.fail) (fun y t=>G.guard fun q=>G.pure (W.tok fun Q E h=>_root_.PySem.P.len_str (long63 q) (h _ _ (.int _ _))))
  fun k a xs items L=>G.guard fun q=>G.pure (W.tok fun Q E h=>Calls.call_len_list L.l.isList (L.size ▸ Int.not_le.mp (long63 q)) (L.size ▸ h (.int xs.length _) _ (.int _ _)))
theorem chr_g (r:c.Rs args vals):c.G (bChr args) (c.Cl "chr" vals):=G.args1 (D:=c.Cl "chr") r fun v x r=>G.onI (D:=fun x=>c.Cl "chr" [x]) r fun i t=>G.guard fun q=>G.pure (W.tok fun Q E h=>_root_.PySem.P.chr_of_int (by
  have q1:=of_decide_eq_true (and_t q).1
  have q2:=of_decide_eq_true (and_t q).2
  rw [decide_eq_false (Int.not_lt.mpr q1),decide_eq_false (p:=i > 1114111) (Int.not_lt.mpr (Int.le_trans Int.le_natAbs (Int.ofNat_le.mpr q2)))]; rfl) (h _ _ (.str _ _)))
theorem ord1_eq {x:Str} {n:Nat} (e:ord1 x.cps.toList=some n):x=⟨#[n]⟩:=by
  obtain ⟨⟨l⟩⟩:=x
  cases l with
  | nil=>exact nS e
  | cons a r =>
    induction r with
    | nil=>exact Option.some.inj e ▸ rfl
    | cons=>exact nS e
theorem ord_g (r:c.Rs args vals):c.G (bOrd args) (c.Cl "ord" vals):=G.args1 (D:=c.Cl "ord") r fun v x r=>G.onS (D:=fun x=>c.Cl "ord" [x]) r fun y t=>G.of fun n e=>G.pure (W.tok fun Q E h=>ord1_eq e ▸ _root_.PySem.P.ord_of_char (h _ _ (.int _ _)))
theorem abs_g (r:c.Rs args vals):c.G (bAbs args) (c.Cl "abs" vals):=G.args1 (D:=c.Cl "abs") r fun v x r=>G.onI (D:=fun x=>c.Cl "abs" [x]) r fun y t=>G.pure (W.tok fun Q E h=>call_abs_int fun u tk=>h _ _ (.int _ _))
theorem sum_g (r:c.Rs args vals):c.G (bSum args) (c.Cl "sum" vals):=G.args1 (D:=c.Cl "sum") r fun v x r=>G.onZ (D:=fun x=>c.Cl "sum" [x]) r (G.guard fun q=>G.pure (W.keep fun Q E h =>
  let ⟨_,l1,hI⟩:=c.B.script c.N.inv
  sum_ints c.hA l1 hI fun h' t tk hk=>h _ _ _ hk (.int _ _)))
theorem best_g {f:Int→List Int→Int} {id:String} (k:∀ {l:Addr} {items:Array Value} {a:Int} {r:List Int} {Q E},c.s.heap.IsList l items→IntsAre items.toList (a::r) →
    (∀ h' t tk,(∀ b o,c.s.heap.get? b=some o→h'.get? b=some o)→Q (.int (f a r) t) { c.s with heap:=h',toks:=tk })→wpAny (model P w) c.A (call (.builtin id) [.ref l]) Q E c.s) (r:c.Rs args vals):c.G (bBest f args) (c.Cl id vals) :=
  G.args1 (D:=c.Cl id) r fun v x r=>G.onL (D:=fun x=>c.Cl id [x]) r fun _ a xs items L=>G.of fun i e=>obind e fun l e1 e2=>by
    induction l with
    | nil=>exact nS e2
    | cons b l=>exact Option.some.inj e2 ▸ G.pure (W.keep fun Q E h=>k L.l.isList (L.r.ints e1) fun h' t tk hk=>h _ _ _ hk (.int _ _))
theorem onSS_g {f:Str→Str→X V} {id:String} (r:c.Rs args vals) (h:∀ x t y u,c.G (f x y) (c.Cl id [.str x t,.str y u])):c.G (onSS f args) (c.Cl id vals):=G.args2 (D:=c.Cl id) r fun v x v' x' r r'=>G.onS (D:=fun x=>c.Cl id [x,x']) r fun y t=>G.onS (D:=fun x'=>c.Cl id [.str y t,x']) r' fun z u=>h y t z u
theorem not_t {b:Bool} (h:(!b)=true):b=false:=(Bool.not_eq_true' b).mp h
theorem split_g (r:c.Rs args vals):c.G (bSplit args) (c.Cl "str.split" vals):=onSS_g r fun x t y t'=>G.guard fun q=>G.new (by
  refine hid fun GG kk=>?_
  obtain ⟨q,q5⟩:=and_t q
  obtain ⟨q,q4⟩:=and_t q
  obtain ⟨q,q3⟩:=and_t q
  refine kk ?_
  clear kk GG
  exact W.newL (items:=(strsFrom c.s.toks (splitOf x y)).toArray) (List.toList_toArray ▸ strsFrom_vrs _ _) fun Q E h=>call_meets F.slot_str_split (typeIs_str _ _ _) F.entry_str_split (F.args_str_split_2 _ _) (meets_str_split_sep x y t t' (not_t (and_t q).1) (not_t (and_t q).2) (not_t q3) (line_of (big_le q4)) (line_of (big_le q5))) (h _ _))
theorem find_g (r:c.Rs args vals):c.G (bFind args) (c.Cl "str.find" vals):=G.args4 (D:=c.Cl "str.find") r fun _ _ _ x2 _ x3 _ x4 r1 r2 r3 r4=>G.onS (D:=fun x=>c.Cl "str.find" [x,x2,x3,x4]) r1 fun x t=>G.onS (D:=fun x2=>c.Cl "str.find" [_,x2,x3,x4]) r2 fun y t' =>
  G.onI (D:=fun x3=>c.Cl "str.find" [_,_,x3,x4]) r3 fun i u=>G.onI (D:=fun x4=>c.Cl "str.find" [_,_,_,x4]) r4 fun j u'=>G.guard fun q=>G.pure (W.tok fun Q E h=>call_gives F.slot_str_find (typeIs_str _ _ _) F.entry_str_find (args_find4 _ _ _ _) (gives_find4 x y i j t t' u u') (h _ _ (.int _ _)))
theorem lower_g (r:c.Rs args vals):c.G (bLower args) (c.Cl "str.lower" vals):=G.args1 (D:=c.Cl "str.lower") r fun v x r=>G.onS (D:=fun x=>c.Cl "str.lower" [x]) r fun y t=>G.guard fun q=>G.pure (W.tok fun Q E h=>call_gives F.slot_str_lower (typeIs_str _ _ _) F.entry_str_lower (F.args_str_lower_1 _) (gives_str_lower _ t (fit_big q)) ⟨fit_le (fit_big q),h _ _ (.str _ _)⟩)
theorem upper_g (r:c.Rs args vals):c.G (bUpper args) (c.Cl "str.upper" vals):=G.args1 (D:=c.Cl "str.upper") r fun v x r=>G.onS (D:=fun x=>c.Cl "str.upper" [x]) r fun y t=>G.guard fun q=>G.pure (W.tok fun Q E h=>call_gives F.slot_str_upper (typeIs_str _ _ _) F.entry_str_upper (F.args_str_upper_1 _) (gives_str_upper _ t (fit_big q)) ⟨fit_le (fit_big q),h _ _ (.str _ _)⟩)
theorem join_g (r:c.Rs args vals):c.G (bJoin args) (c.Cl "str.join" vals):=G.args2 (D:=c.Cl "str.join") r fun _ _ _ x2 r1 r2=>G.onS (D:=fun x=>c.Cl "str.join" [x,x2]) r1 fun x t=>G.sw (D:=fun x2=>c.Cl "str.join" [.str x t,x2]) r2 (fun _ _=>G.fail)
  (fun y t'=>G.guard fun q=>G.pure (W.keep fun Q E h=>SC.joinStr c.hA (joinOk_of (Nat.le_trans (big_le q) (by decide))) fun h' k t' hk=>h _ h' k hk (.str (Builtin.Str.glued x (PyProof.Rows.signs y)) t')))
  fun k a xs items L=>G.of fun ys e=>G.guard fun q=>G.pure (by
    obtain ⟨l,e2,rfl⟩:=L.r.strs e
    cases Array.ext' (ys:=(strValues l).toArray) e2
    exact W.tok fun Q E h=>SC.join L.l.isList rfl (joinOk_of (Nat.le_trans (big_le q) (by decide))) fun t' k=>h _ k (.str (Builtin.Str.glued x _) t'))
theorem index_g (r:c.Rs args vals):c.G (bIndex args) (c.Cl "str.index" vals):=onSS_g r fun x t y t'=>G.of fun i e=>by
  cases eo:Builtin.Str.occurrences x y 0 x.length 1 with
  | nil=>rw [eo] at e; exact nS e
  | cons j l =>
    rw [eo] at e
    cases e
    exact G.pure (W.tok fun Q E h=>SC.index eo (h _ _ (.int _ _)))
theorem append_g (r:c.Rs args vals):c.G (bAppend args) (c.Cl "list.append" vals):=G.args2 (D:=c.Cl "list.append") r fun v x v' x' r r'=>G.onL (D:=fun x=>c.Cl "list.append" [x,x']) r fun k a xs items L=>G.guard fun q=>G.set (W.wr L (items:=items.push x') ((Array.toList_push (xs:=items) (x:=x')).symm ▸ L.r.app (.cons r' .nil)) fun Q E h =>
  wpAny_list_append_plain L.l (fun h' p sb=>h h' c.s.toks p sb) (line_of (L.size ▸ big_le q)))
theorem max0 (a:Int):(max 0 a).toNat=a.toNat:=by
  rcases Int.le_total 0 a with h | h
  · rw [Int.max_eq_right h]
  · rw [Int.max_eq_left h,Int.toNat_of_nonpos h]; rfl
theorem clip_eq (i:Int) (n:Nat):(if i < 0 then (i+(n:Int)).toNat else min i.toNat n)=(clip n 0 (some i)).toNat:=by
  show _=(max 0 (min (if i < 0 then i+n else i) n)).toNat
  rw [max0]
  by_cases h:i < 0
  · rw [if_pos h,if_pos h,Int.min_eq_left (Int.add_le_of_le_sub_right (Int.sub_self _ ▸ Int.le_of_lt h))]
  · rw [if_neg h,if_neg h]
    obtain ⟨m,rfl⟩:=Int.eq_ofNat_of_zero_le (Int.not_lt.mp h)
    exact congrArg Int.toNat (Lean.Omega.Int.ofNat_min m n)
theorem ins_items (items:Array Value) (k:Nat) (x:Value):((items.extract 0 k).push x++items.extract k).toList=items.toList.take k++x::items.toList.drop k:=by
  rw [Array.toList_append,Array.toList_push,Array.toList_extract,Array.toList_extract,List.extract_eq_take_drop,List.extract_eq_take_drop,List.append_assoc,List.drop_zero,Nat.sub_zero,List.take_of_length_le (l:=items.toList.drop k) (by rw [List.length_drop,Array.length_toList]; exact Nat.le_refl _)]; rfl
theorem insert_g (r:c.Rs args vals):c.G (bInsert args) (c.Cl "list.insert" vals):=G.args3 (D:=c.Cl "list.insert") r fun _ _ _ x2 _ x r1 r2 r3=>G.onL (D:=fun x1=>c.Cl "list.insert" [x1,x2,x]) r1 fun k a xs items L=>G.onI (D:=fun x2=>c.Cl "list.insert" [.ref a,x2,x]) r2 fun i u=>G.guard fun q=>G.set (by
  obtain ⟨n,ho⟩:=L.l
  refine W.wr L (items:=(fun xs:Array Value=>have k:=if i < 0 then (i+(xs.size:Int)).toNat else min i.toNat xs.size; (xs.extract 0 k).push x++xs.extract k) items) ?_ fun Q E h =>
    call_meets F.slot_list_insert ⟨_,ho,rfl⟩ F.entry_list_insert (F.args_list_insert_3 _ _ _) (_root_.PySem.AutoSeq1.list_insert_list_int_val_1 a items n i u x (by rw [ninfit (and_t q).2]; simp) (line_of (L.size ▸ big_le (and_t q).1))) ⟨ho,h _ c.s.toks (plain_map ho _) (Heap.SameBut.update ..)⟩
  show c.Rs _ ((items.extract 0 (if i < 0 then (i+(items.size:Int)).toNat else min i.toNat items.size)).push x++items.extract (if i < 0 then (i+(items.size:Int)).toNat else min i.toNat items.size)).toList
  rw [clip_eq,ins_items,← L.size]
  exact (L.r.take _).app (.cons r3 (L.r.drop _)))
theorem extend_g (r:c.Rs args vals):c.G (bExtend args) (c.Cl "list.extend" vals):=G.args2 (D:=c.Cl "list.extend") r fun _ _ _ x2 r1 r2=>G.onL (D:=fun x1=>c.Cl "list.extend" [x1,x2]) r1 fun k a xs items L=>G.onL (D:=fun x2=>c.Cl "list.extend" [.ref a,x2]) r2 fun j b ys items' L'=>G.guard fun q=>G.set (by
  obtain ⟨n,ho⟩:=L.l
  obtain ⟨n',ho'⟩:=L'.l
  have hs:items.size+items'.size≤4096:=L.size ▸ L'.size ▸ big_le (and_t q).2
  exact W.wr L (items:=items++items') ((Array.toList_append (xs:=items) (ys:=items')).symm ▸ L.r.app L'.r) fun Q E h=>call_meets F.slot_list_extend ⟨_,ho,rfl⟩ F.entry_list_extend (F.args_list_extend_2 _ _) (_root_.PySem.AutoSeq1.list_extend_list_list_0 a items n b items' n' (by
    unfold Builtin.List.listTooLong
    simp only [Bool.and_eq_true,decide_eq_true_eq,not_and]
    intro _
    exact Nat.not_lt_of_le (Nat.le_trans hs (by decide))) (line_of (Nat.le_trans (Nat.le_add_right _ _) hs)) (Nat.le_succ_of_le (line_of hs))) ⟨ho,ho',h _ c.s.toks (plain_map ho fun x=>x++items') (Heap.SameBut.update ..)⟩)
theorem get_g (r:c.Rs args vals):c.G (bGet args) (c.Cl "dict.get" vals):=G.args2 (D:=c.Cl "dict.get") r fun _ _ _ x2 r1 r2=>G.onG (D:=fun x1=>c.Cl "dict.get" [x1,x2]) r1 fun a=>G.onI (D:=fun x2=>c.Cl "dict.get" [.ref a,x2]) r2 fun i u=>G.guard fun q=>G.pure (by
  cases Nat.eq_of_beq_eq_true q
  refine hid fun GG kk=>?_
  obtain ⟨VV,hT,o,es,ep,ho,hd⟩:=c.B.wf.b3
  refine kk ?_
  clear kk GG
  have hD:c.s.heap.DictOf (kn P w) 100 VV:=⟨o,es,ep,c.N.inv.keep _ _ ho (by decide),hd⟩
  have hM:=hD.mapOf
  have e:b3V i=((kvs12.find? fun kv=>decide (kv.1=i)).map fun kv=>V.str kv.2).getD .none:=by unfold b3V b3At; rw [Option.map_map]; rfl
  exact W.tok fun Q E h=>call_meetsIn F.slot_dict_get hM.typeIs F.entry_dict_get (F.args_dict_get_2 _ _) (meets_dict_get (kn P w) 100 (k:=i) (beq_self_eq_true i) (by decide)) ⟨_,hM,h _ _ (e ▸ b3_vr hT)⟩)
theorem search_g (r:c.Rs args vals):c.G (bSearch args) (c.Cl "re.Pattern.search" vals):=G.args2 (D:=c.Cl "re.Pattern.search") r fun _ _ _ x2 r1 r2=>G.onG (D:=fun x1=>c.Cl "re.Pattern.search" [x1,x2]) r1 fun a=>G.onS (D:=fun x2=>c.Cl "re.Pattern.search" [.ref a,x2]) r2 fun x u=>G.guard fun q=>G.pure (by
  have keep:∀ b o,(b,some o)∈lookAts.zip (lookObjs w)→b≠376→c.s.heap.get? b=some o:=fun b o h n=>c.N.inv.keep _ _ (c.B.wf.objs _ _ h) n
  rcases Bool.or_eq_true_iff.mp (and_t q).1 with q1 | q1 <;> cases Nat.eq_of_beq_eq_true q1
  · exact W.val .none fun Q E h=>wpAny_search (keep _ _ (mem_pick (i:=63) rfl) (by decide)) (keep _ _ (mem_pick (i:=61) rfl) (by decide)) (.inl (by decide +kernel)) (and_t q).2 h
  · exact W.val .none fun Q E h=>wpAny_search (keep _ _ (mem_pick (i:=64) rfl) (by decide)) (keep _ _ (mem_pick (i:=62) rfl) (by decide)) (.inr (by decide +kernel)) (and_t q).2 h)
theorem callB_g {b:Bi} (r:c.Rs args vals):c.G (callB b args) (c.Cl b.id vals) :=
  Bi.casesOn (motive:=fun b=>c.G (callB b args) (c.Cl b.id vals)) b (len_g r) (chr_g r) (ord_g r) (abs_g r) (best_g (id:="min") (fun a b h=>min_ints c.hA a b h) r) (best_g (id:="max") (fun a b h=>max_ints c.hA a b h) r) (sum_g r) (split_g r) (find_g r) (lower_g r) (upper_g r) (join_g r) (index_g r) (append_g r) (insert_g r) (extend_g r) (get_g r) (search_g r)
end
end Mine
end
section
open PySem PySem.W PyProof.Rows PySem.SeqAt
set_option maxRecDepth 100000
set_option genSizeOf false
set_option genInjectivity false
namespace Mine
inductive L2 {α β:Type} (R:α→β→Prop):List α→List β→Prop
  | nil:L2 R [] []
  | cons {a b as bs}:R a b→L2 R as bs→L2 R (a::as) (b::bs)
inductive O2 {α β:Type} (R:α→β→Prop):Option α→Option β→Prop
  | none:O2 R Option.none Option.none
  | some {a b}:R a b→O2 R (Option.some a) (Option.some b)
section
variable (R:(Str→Option NameKind)→Expr→CE→Prop) (K:Str→Option NameKind)
inductive Kx:Keyword→Nat × CE→Prop
  | mk {a i v q c}:num a=some i→R K v c→Kx ⟨some a,v,q⟩ (i,c)
inductive It1:Expr→It→Prop
  | of {e c}:R K e c→It1 e (.of c)
  | range {p args pos cs}:K "range"=some .globalImplicit→L2 (R K) args cs→It1 (.Call (.Name "range" p) args [] pos) (.range cs)
  | enum {p e pos c}:K "enumerate"=some .globalImplicit→R K e c→It1 (.Call (.Name "enumerate" p) [e] [] pos) (.enum c)
  | items {o apos pos c}:(apos.endLine == pos.line)=true→R K o c→It1 (.Call (.Attribute o "items" apos) [] [] pos) (.items c)
inductive Ge1 (K1:Str→Option NameKind):Comprehension→Gen→Prop
  | mk {t it ifs a t' it' ifs'}:(a == 0)=true→cTg K t=some t'→It1 R K1 it it'→L2 (R K) ifs ifs'→Ge1 K1 ⟨t,it,ifs,a⟩ (.mk t' it' ifs')
inductive Ex1:Expr→CE→Prop
  | none {k p}:Ex1 (.Constant .none k p) (.lit .none)
  | bool {b k p}:Ex1 (.Constant (.bool b) k p) (.lit (.bool b))
  | int {i k p}:Ex1 (.Constant (.int i) k p) (.lit (.int i))
  | str {x k p}:Ex1 (.Constant (.str x) k p) (.lit (.str x))
  | name {x p c}:cName K x=some c→Ex1 (.Name x p) c
  | list {es p cs}:L2 (R K) es cs→Ex1 (.List es p) (.lst cs)
  | tuple {es k p cs}:L2 (R K) es cs→Ex1 (.Tuple es k p) (.tup cs)
  | bin {l op r p o a b}:cOp op=some o→R K l a→R K r b→Ex1 (.BinOp l op r p) (.bin o a b)
  | neg {x p a}:R K x a→Ex1 (.UnaryOp .USub x p) (.neg a)
  | not {x p a}:R K x a→Ex1 (.UnaryOp .Not x p) (.not a)
  | cmp {l op r p o a b}:behindInMarks op r=false→cCmp op=some o→R K l a→R K r b→Ex1 (.Compare l [op] [r] p) (.cmp o a b)
  | and {x y z p a b c}:R K x a→R K y b→L2 (R K) z c.toList→Ex1 (.BoolOp .And (x::y::z) p) (.and (some a) (some b) c)
  | or {x y p a b}:R K x a→R K y b→Ex1 (.BoolOp .Or [x,y] p) (.or a b)
  | ite {t x y p c a b}:R K t c→R K x a→R K y b→Ex1 (.IfExp t x y p) (.ite c a b)
  | attr {o p c}:R K o c→Ex1 (.Attribute o "_headers" p) (.attr c)
  | rev {o k q q' q'' p c}:R K o c→Ex1 (.Subscript o (.Slice Option.none Option.none (some (.UnaryOp .USub (.Constant (.int 1) k q) q')) q'') p) (.rev c)
  | slice {o lo hi q p c a b}:R K o c→O2 (R K) lo a→O2 (R K) hi b→Ex1 (.Subscript o (.Slice lo hi Option.none q) p) (.slice c a b)
  | item {o i p a b}:R K o a→R K i b→Ex1 (.Subscript o i p) (.item a b)
  | comp {elt g gs scope p c g' gs'}:scope.kind=.function→scOk K scope=true→R (kinds scope) elt c→Ge1 R (kinds scope) K g g'→L2 (Ge1 R (kinds scope) (kinds scope)) gs gs'→Ex1 (.ListComp elt (g::gs) scope p) (.comp (frees scope) c (g'::gs'))
  | meth {o m apos args kw pos mm c as ks}:pick m meths=some mm→(apos.endLine == pos.line)=true→R K o c→L2 (R K) args as→L2 (Kx R K) kw ks→Ex1 (.Call (.Attribute o m apos) args kw pos) (.meth c mm as ks)
  | newH {p pos}:K "Headers"=some .globalImplicit→Ex1 (.Call (.Name "Headers" p) [] [] pos) .newHeaders
  | sortBy {p0 e p b scope q kp pos pos' c pl k}:K "sorted"=some .globalImplicit→scope.kind=.function→scOk K scope=true→(q.line == lamPos.line && q.col == lamPos.col && !scope.isCoroutine && !scope.isGenerator)=true→R K e c→p=("text":Str)→cPt (kinds scope) p=some pl→R (kinds scope) b k →
      Ex1 (.Call (.Name "sorted" p0) [e] [⟨some "key",.Lambda ⟨[],[⟨p,Option.none,kp⟩],Option.none,[],[],Option.none,[]⟩ b scope q,pos⟩] pos') (.sortBy (frees scope) c pl k)
  | lenSet {p e q pos pos' c}:K "len"=some .globalImplicit→K "set"=some .globalImplicit→R K e c→Ex1 (.Call (.Name "len" p) [.Call (.Name "set" q) [e] [] pos'] [] pos) (.lenSet c)
  | call {x p args kw pos f as ks}:cName K x=some f→L2 (R K) args as→L2 (Kx R K) kw ks→Ex1 (.Call (.Name x p) args kw pos) (.call f as ks)
end
@[elab_as_elim] theorem gdE {β:Type} {b:Bool} {o:Option β} {C:β→Prop} {d:β} (h:gd b o=some d) (k:b=true→o=some d→C d):C d:=by
  induction b with
  | false=>exact nS h
  | true=>exact k rfl h
@[elab_as_elim] theorem l0E {α β:Type} {o:Option β} {C:List α→β→Prop} {l:List α} {d:β} (h:l0 o l=some d) (k:o=some d→C [] d):C l d:=by
  induction l with
  | nil=>exact k h
  | cons=>exact nS h
@[elab_as_elim] theorem l1E {α β:Type} {f:α→List α→Option β} {C:List α→β→Prop} {l:List α} {d:β} (h:l1 f l=some d) (k:∀ a r,f a r=some d→C (a::r) d):C l d:=by
  induction l with
  | nil=>exact nS h
  | cons a r=>exact k a r h
@[elab_as_elim] theorem lOneE {α β:Type} {f:α→Option β} {C:List α→β→Prop} {l:List α} {d:β} (h:lOne f l=some d) (k:∀ a,f a=some d→C [a] d):C l d:=l1E h fun a r h=>l0E (C:=fun r d=>C (a::r) d) h (k a)
@[elab_as_elim] theorem o0E {α β:Type} {o:Option β} {C:Option α→β→Prop} {l:Option α} {d:β} (h:o0 o l=some d) (k:o=some d→C none d):C l d:=by
  induction l with
  | none=>exact k h
  | some=>exact nS h
@[elab_as_elim] theorem o1E {α β:Type} {f:α→Option β} {C:Option α→β→Prop} {l:Option α} {d:β} (h:o1 f l=some d) (k:∀ a,f a=some d→C (some a) d):C l d:=by
  induction l with
  | none=>exact nS h
  | some a=>exact k a h
@[elab_as_elim] theorem obindE {α β:Type} {o:Option α} {f:α→Option β} {C:β→Prop} {d:β} (h:o.bind f=some d) (k:∀ a,o=some a→f a=some d→C d):C d:=obind h k
theorem view_ex (e:Expr):(view e).ex=e:=by cases e <;> rfl
section
variable {F:(Str→Option NameKind)→Expr→Option CE} {R:(Str→Option NameKind)→Expr→CE→Prop} (ih:∀ {K e c},F K e=some c→R K e c) {K:Str→Option NameKind}
theorem cL_l2 {α β:Type} {f:α→Option β} {R:α→β→Prop} (h:∀ {a b},f a=some b→R a b) {es:List α}:∀ {cs},cL f es=some cs→L2 R es cs:=by
  induction es with
  | nil=>exact fun e=>Option.some.inj e ▸ .nil
  | cons a r ih=>exact fun e=>mapO_cons e fun b bs h1 h2=>.cons (h h1) (ih h2)
theorem cO_o2 {α β:Type} {f:α→Option β} {R:α→β→Prop} (h:∀ {a b},f a=some b→R a b) {e:Option α} {c} (q:cO f e=some c):O2 R e c:=by
  induction e with
  | none=>exact Option.some.inj q ▸ .none
  | some a=>exact omap (f:=Option.some) q fun b h1=>.some (h h1)
include ih in
theorem cKw_kx {k:Keyword} {c} (h:cKw F K k=some c):Kx R K k c:=by
  obtain ⟨a,v,p⟩:=k
  exact o1E (C:=fun a c=>Kx R K ⟨a,v,p⟩ c) h fun a h=>obindE h fun i h1 h=>omap h fun c h2=>.mk h1 (ih h2)
theorem isGlob_eq {K x g} (h:isGlob K x g=true):x=g∧K x=some .globalImplicit:=by
  obtain ⟨h1,h2⟩:=and_t h
  exact ⟨beq_iff_eq.mp h1,of_decide_eq_true h2⟩
include ih in
theorem cItC_it {fv:View} {args kw pos} {d:Option It} {it:It} (hd:∀ {it},d=some it→It1 R K (.Call fv.ex args kw pos) it) (h:cItC F K fv args kw pos d=some it):It1 R K (.Call fv.ex args kw pos) it:=by
  induction fv with
  | attr o m apos =>
    revert h
    show Bool.casesOn (motive:=fun _=>Option It) (m == ("items":Str)) d _=some it→_
    cases q:m == ("items":Str) with
    | false=>exact hd
    | true =>
      cases beq_iff_eq.mp q
      exact fun h=>gdE h fun e h=>l0E (C:=fun args it=>It1 R K (.Call (.Attribute o "items" apos) args kw pos) it) h fun h=>l0E (C:=fun kw it=>It1 R K (.Call (.Attribute o "items" apos) [] kw pos) it) h fun h=>omap h fun c h=>.items e (ih h)
  | name x p =>
    revert h
    show Bool.casesOn (motive:=fun _=>Option It) (isGlob K x "range") _ _=some it→_
    cases q:isGlob K x "range" with
    | true =>
      obtain ⟨rfl,hk⟩:=isGlob_eq q
      exact fun h=>l0E (C:=fun kw it=>It1 R K (.Call (.Name "range" p) args kw pos) it) h fun h=>omap h fun c h=>.range hk (cL_l2 ih h)
    | false =>
      show Bool.casesOn (motive:=fun _=>Option It) (isGlob K x "enumerate") d _=some it→_
      cases q:isGlob K x "enumerate" with
      | false=>exact hd
      | true =>
        obtain ⟨rfl,hk⟩:=isGlob_eq q
        exact fun h=>l0E (C:=fun kw it=>It1 R K (.Call (.Name "enumerate" p) args kw pos) it) h fun h=>lOneE (C:=fun args it=>It1 R K (.Call (.Name "enumerate" p) args [] pos) it) h fun e h=>omap h fun c h=>.enum hk (ih h)
  | _=>exact nS h
include ih in
theorem cItV_it {v:View} {d:Option It} {it:It} (hd:∀ {it},d=some it→It1 R K v.ex it) (h:cItV F K v d=some it):It1 R K v.ex it:=by
  induction v with
  | call f args kw pos =>
    have:=cItC_it (F:=F) (R:=R) ih (K:=K) (fv:=view f) (args:=args) (kw:=kw) (pos:=pos) (d:=d) (it:=it)
    rw [view_ex f] at this
    exact this hd h
  | _=>exact hd h
include ih in
theorem cIt_it {e:Expr} {it:It} (h:cIt F K e=some it):It1 R K e it:=by
  have:=cItV_it (F:=F) (R:=R) ih (K:=K) (v:=view e) (d:=(F K e).map .of) (it:=it)
  rw [view_ex e] at this
  exact this (fun h=>omap h fun c h=>.of (ih h)) h
include ih in
theorem cGen_ge {K1:Str→Option NameKind} {g:Comprehension} {g'} (h:cGen F K K1 g=some g'):Ge1 R K K1 g g':=by
  obtain ⟨t,it,ifs,a⟩:=g
  exact gdE h fun ha h=>obindE h fun t' h1 h=>obindE h fun it' h2 h=>omap h fun ifs' h3=>.mk ha h1 (cIt_it ih h2) (cL_l2 ih h3)
include ih in
theorem cBool_ex {op:BoolOp} {vs p c} (h:cBool F K op vs=some c):Ex1 R K (.BoolOp op vs p) c:=by
  induction op with
  | And =>
    exact l1E (C:=fun vs c=>Ex1 R K (.BoolOp .And vs p) c) h fun x r h=>l1E (C:=fun r c=>Ex1 R K (.BoolOp .And (x::r) p) c) h fun y r h=>obindE h fun a h1 h=>obindE h fun b h2 h=>by
      induction r with
      | nil=>exact Option.some.inj h ▸ .and (ih h1) (ih h2) .nil
      | cons z r=>exact l0E (C:=fun r c=>Ex1 R K (.BoolOp .And (x::y::z::r) p) c) h fun h=>omap h fun d h3=>.and (ih h1) (ih h2) (.cons (ih h3) .nil)
  | Or=>exact l1E (C:=fun vs c=>Ex1 R K (.BoolOp .Or vs p) c) h fun x r h=>l1E (C:=fun r c=>Ex1 R K (.BoolOp .Or (x::r) p) c) h fun y r h=>l0E (C:=fun r c=>Ex1 R K (.BoolOp .Or (x::y::r) p) c) h fun h=>obindE h fun a h1 h=>omap h fun b h2=>.or (ih h1) (ih h2)
theorem isOne_ex {v:View} (h:isOne v=true):∃ k q,v.ex=.Constant (.int 1) k q:=by
  induction v with
  | con c k q=>exact ⟨k,q,of_decide_eq_true h ▸ rfl⟩
  | _=>exact nomatch h
theorem isM1_ex {v:View} (h:isM1 v=true):∃ k q q',v.ex=.UnaryOp .USub (.Constant (.int 1) k q) q':=by
  induction v with
  | un op x q' =>
    induction op with
    | USub=>exact let ⟨k,q,e⟩:=isOne_ex h; ⟨k,q,q',(view_ex x ▸ e:x=_) ▸ rfl⟩
    | _=>exact nomatch h
  | _=>exact nomatch h
include ih in
theorem cSub_ex {o:Expr} {v:View} {p c} {d:Option CE} (hd:∀ {c},d=some c→Ex1 R K (.Subscript o v.ex p) c) (h:cSub F K o v d=some c):Ex1 R K (.Subscript o v.ex p) c:=by
  induction v with
  | bool | bin | un | con | name | call=>exact hd h
  | sl lo hi st q =>
    induction st with
    | none=>exact obindE h fun c h1 h=>obindE h fun a h2 h=>omap h fun b h3=>.slice (ih h1) (cO_o2 ih h2) (cO_o2 ih h3)
    | some m =>
      exact gdE h fun e h=>o0E (C:=fun lo c=>Ex1 R K (.Subscript o (.Slice lo hi (some m) q) p) c) h fun h=>o0E (C:=fun hi c=>Ex1 R K (.Subscript o (.Slice none hi (some m) q) p) c) h fun h=>omap h fun c h =>
        let ⟨k,q,q',e⟩:=isM1_ex e
        (view_ex m ▸ e:m=_) ▸ .rev (ih h)
  | _=>exact nS h
theorem lamP_ex {a:Arguments} {x:Str} (h:lamP a=some x):∃ kp,a=⟨[],[⟨x,none,kp⟩],none,[],[],none,[]⟩:=by
  obtain ⟨a1,a2,a3,a4,a5,a6,a7⟩:=a
  refine l0E (C:=fun a1 x=>∃ kp,(⟨a1,a2,a3,a4,a5,a6,a7⟩:Arguments)=⟨[],[⟨x,none,kp⟩],none,[],[],none,[]⟩) h fun h=>o0E (C:=fun a3 x=>∃ kp,(⟨[],a2,a3,a4,a5,a6,a7⟩:Arguments)=⟨[],[⟨x,none,kp⟩],none,[],[],none,[]⟩) h fun h =>
    l0E (C:=fun a4 x=>∃ kp,(⟨[],a2,none,a4,a5,a6,a7⟩:Arguments)=⟨[],[⟨x,none,kp⟩],none,[],[],none,[]⟩) h fun h=>l0E (C:=fun a5 x=>∃ kp,(⟨[],a2,none,[],a5,a6,a7⟩:Arguments)=⟨[],[⟨x,none,kp⟩],none,[],[],none,[]⟩) h fun h =>
    o0E (C:=fun a6 x=>∃ kp,(⟨[],a2,none,[],[],a6,a7⟩:Arguments)=⟨[],[⟨x,none,kp⟩],none,[],[],none,[]⟩) h fun h=>l0E (C:=fun a7 x=>∃ kp,(⟨[],a2,none,[],[],none,a7⟩:Arguments)=⟨[],[⟨x,none,kp⟩],none,[],[],none,[]⟩) h fun h =>
    lOneE (C:=fun a2 x=>∃ kp,(⟨[],a2,none,[],[],none,[]⟩:Arguments)=⟨[],[⟨x,none,kp⟩],none,[],[],none,[]⟩) h fun p h=>?_
  obtain ⟨y,an,kp⟩:=p
  exact o0E (C:=fun an x=>∃ kp',(⟨[],[⟨y,an,kp⟩],none,[],[],none,[]⟩:Arguments)=⟨[],[⟨x,none,kp'⟩],none,[],[],none,[]⟩) h fun h=>⟨kp,Option.some.inj h ▸ rfl⟩
include ih in
theorem cLam_ex {e:Expr} {v:View} {p0 pos pos' c} (hk:K "sorted"=some .globalImplicit) (h:cLam F K e v=some c):Ex1 R K (.Call (.Name "sorted" p0) [e] [⟨some "key",v.ex,pos⟩] pos') c:=by
  induction v with
  | lam a b sc q =>
    exact gdE h fun e h=>obindE h fun x h1 h=>gdE h fun hx h=>obindE h fun c1 h2 h=>obindE h fun pl h3 h=>omap h fun k h4 =>
      let ⟨_,ea⟩:=lamP_ex h1
      ea ▸ .sortBy hk (of_decide_eq_true (and_t e).1) (and_t (and_t e).2).1 (and_t (and_t e).2).2 (ih h2) (of_decide_eq_true hx) h3 (ih h4)
  | _=>exact nS h
theorem setArgF_ex {v:View} {args kw e} (h:setArgF K v args kw=some e):K "set"=some .globalImplicit∧(∃ p,v.ex=.Name "set" p)∧args=[e]∧kw=[]:=by
  induction v with
  | name y p=>exact gdE h fun q h=>l0E (C:=fun kw e=>_∧_∧args=[e]∧kw=[]) h fun h=>lOneE (C:=fun args e=>_∧_∧args=[e]∧[]=[]) h fun a h=>⟨(isGlob_eq q).1 ▸ (isGlob_eq q).2,⟨p,(isGlob_eq q).1 ▸ rfl⟩,Option.some.inj h ▸ rfl,rfl⟩
  | _=>exact nS h
theorem setArg_ex {v:View} {e} (h:setArg K v=some e):K "set"=some .globalImplicit∧∃ p pos,v.ex=.Call (.Name "set" p) [e] [] pos:=by
  induction v with
  | call f args kw pos =>
    obtain ⟨h1,⟨p,h2⟩,rfl,rfl⟩:=setArgF_ex h
    exact ⟨h1,p,pos,(view_ex f ▸ h2:f=_) ▸ rfl⟩
  | _=>exact nS h
include ih in
theorem cNm_ex {x:Str} {args kw p pos c} (h:cNm F K x args kw=some c):Ex1 R K (.Call (.Name x p) args kw pos) c:=by
  have call:∀ {c},cCall F K x args kw=some c→Ex1 R K (.Call (.Name x p) args kw pos) c:=fun h=>obindE h fun f h1 h=>obindE h fun as h2 h=>omap h fun ks h3=>.call h1 (cL_l2 ih h2) (cL_l2 (cKw_kx ih) h3)
  revert h
  unfold cNm
  cases q:isGlob K x "Headers" with
  | true =>
    obtain ⟨rfl,hk⟩:=isGlob_eq q
    exact fun h=>l0E (C:=fun args c=>Ex1 R K (.Call (.Name "Headers" p) args kw pos) c) h fun h=>l0E (C:=fun kw c=>Ex1 R K (.Call (.Name "Headers" p) [] kw pos) c) h fun h=>Option.some.inj h ▸ .newH hk
  | false =>
    cases q:isGlob K x "sorted" with
    | true =>
      obtain ⟨rfl,hk⟩:=isGlob_eq q
      exact fun h=>lOneE (C:=fun args c=>Ex1 R K (.Call (.Name "sorted" p) args kw pos) c) h fun e h=>lOneE (C:=fun kw c=>Ex1 R K (.Call (.Name "sorted" p) [e] kw pos) c) h fun k h=>gdE h fun q h=>by
        obtain ⟨a,v,ps⟩:=k
        cases beq_iff_eq.mp q
        have:=cLam_ex (F:=F) (R:=R) ih (p0:=p) (pos:=ps) (pos':=pos) hk h
        rw [view_ex] at this
        exact this
    | false =>
      cases q:isGlob K x "len" with
      | false=>exact call
      | true =>
        show Option.casesOn (motive:=fun _=>Option CE) (cLenSet F K args kw) _ some=some c→_
        cases q2:cLenSet F K args kw with
        | none=>exact call
        | some c' =>
          obtain ⟨rfl,hk⟩:=isGlob_eq q
          exact fun e=>Option.some.inj e ▸ l0E (C:=fun kw c=>Ex1 R K (.Call (.Name "len" p) args kw pos) c) q2 fun h=>lOneE (C:=fun args c=>Ex1 R K (.Call (.Name "len" p) args [] pos) c) h fun a h=>obindE h fun e h1 h=>omap h fun c h2 =>
            let ⟨h3,_,_,e⟩:=setArg_ex h1
            (view_ex a ▸ e:a=_) ▸ .lenSet hk h3 (ih h2)
include ih in
theorem cCallV_ex {v:View} {args kw pos c} (h:cCallV F K v args kw pos=some c):Ex1 R K (.Call v.ex args kw pos) c:=by
  induction v with
  | attr o m apos=>exact gdE h fun hl h=>obindE h fun mm hm h=>obindE h fun o h1 h=>obindE h fun as h2 h=>omap h fun ks h3=>.meth hm hl (ih h1) (cL_l2 ih h2) (cL_l2 (cKw_kx ih) h3)
  | name x p=>exact cNm_ex ih h
  | _=>exact nS h
include ih in
theorem cV_ex {v:View} {c} (h:cV F K v=some c):Ex1 R K v.ex c:=by
  induction v with
  | bool op vs p=>exact cBool_ex ih h
  | bin l op r p=>exact obindE h fun o h1 h=>obindE h fun a h2 h=>omap h fun b h3=>.bin h1 (ih h2) (ih h3)
  | un op x p =>
    induction op with
    | Not=>exact omap h fun a h=>.not (ih h)
    | USub=>exact omap h fun a h=>.neg (ih h)
    | _=>exact nS h
  | ite t a b p=>exact obindE h fun t h1 h=>obindE h fun a h2 h=>omap h fun b h3=>.ite (ih h1) (ih h2) (ih h3)
  | comp elt gens sc p=>exact gdE h fun q h=>obindE h fun c h1 h=>l1E (C:=fun gens c=>Ex1 R K (.ListComp elt gens sc p) c) h fun g r h=>obindE h fun g' h2 h=>omap h fun r' h3=>.comp (of_decide_eq_true (and_t q).1) (and_t q).2 (ih h1) (cGen_ge ih h2) (cL_l2 (cGen_ge ih) h3)
  | cmp l ops rs p=>exact lOneE (C:=fun ops c=>Ex1 R K (.Compare l ops rs p) c) h fun op h=>lOneE (C:=fun rs c=>Ex1 R K (.Compare l [op] rs p) c) h fun r h=>gdE h fun q h=>obindE h fun o h1 h=>obindE h fun a h2 h=>omap h fun b h3=>.cmp (not_t q) h1 (ih h2) (ih h3)
  | call f args kw pos =>
    have:=cCallV_ex (F:=F) (R:=R) ih h
    rw [view_ex] at this
    exact this
  | con c k p =>
    induction c with
    | none=>exact Option.some.inj h ▸ .none
    | bool=>exact Option.some.inj h ▸ .bool
    | int=>exact Option.some.inj h ▸ .int
    | str=>exact Option.some.inj h ▸ .str
    | _=>exact nS h
  | attr o a p =>
    refine gdE h fun q h=>?_
    cases beq_iff_eq.mp q
    exact omap h fun c h=>.attr (ih h)
  | sub o s p =>
    have:=cSub_ex (F:=F) (R:=R) ih (p:=p) (v:=view s) (d:=(F K o).bind fun o=>(F K s).map fun s=>.item o s) (c:=c) (o:=o) (K:=K)
    rw [view_ex] at this
    exact this (fun h=>obindE h fun o h1 h=>omap h fun s h2=>.item (ih h1) (ih h2)) h
  | name x p=>exact gdE h fun _ h=>.name h
  | list es p=>exact omap h fun cs h=>.list (cL_l2 ih h)
  | tup es k p=>exact omap h fun cs h=>.tuple (cL_l2 ih h)
  | _=>exact nS h
end
noncomputable def Ex (K:Str→Option NameKind) (e:Expr) (c:CE):Prop:=∃ n,cpE n K e=some c
noncomputable abbrev Exs (K:Str→Option NameKind):List Expr→List CE→Prop:=L2 (Ex K)
noncomputable abbrev ExO (K:Str→Option NameKind):Option Expr→Option CE→Prop:=O2 (Ex K)
noncomputable abbrev Ks (K:Str→Option NameKind):List Keyword→List (Nat × CE)→Prop:=L2 (Kx Ex K)
noncomputable abbrev It_ (K:Str→Option NameKind):Expr→It→Prop:=It1 Ex K
noncomputable abbrev Ge (K K1:Str→Option NameKind):Comprehension→Gen→Prop:=Ge1 Ex K K1
noncomputable abbrev Ges (K:Str→Option NameKind):List Comprehension→List Gen→Prop:=L2 (Ge K K)
theorem Ex.inv {K e c} (h:Ex K e c):Ex1 Ex K e c:=by
  obtain ⟨n,h⟩:=h
  induction n with
  | zero=>exact nS h
  | succ n =>
    have:=cV_ex (R:=Ex) (F:=cpE n) (fun h=>⟨n,h⟩) h
    rw [view_ex] at this
    exact this
end Mine
end
section
open PySem PySem.W PyProof.Rows PySem.SeqAt
set_option maxRecDepth 100000
namespace Mine
theorem pick_mem {α:Type} {x:Str} {a:α} {l:List (Str × α)}:pick x l=some a→(x,a)∈l:=by
  induction l with
  | nil=>exact nS
  | cons p r ih =>
    obtain ⟨y,b⟩:=p
    show (match y == x with | true=>some b | false=>pick x r)=some a→_
    cases e:y == x with
    | true=>exact fun h=>(beq_iff_eq.mp e ▸ Option.some.inj h ▸ .head _:(x,a)∈(y,b)::r)
    | false=>exact fun h=>.tail _ (ih h)
noncomputable def bok (x:Str) (v:Value):Bool:=(lookNames.zip lookVals).contains (x,none) && decide (bootBuiltins x=some v) && decide (x≠"__name__")
noncomputable def gok (p:Str × V):Bool:=V.casesOn (motive_1:=fun _=>Bool) p.2 false (fun _=>false) (fun _=>false) (fun y=>(lookNames.zip lookVals).contains (p.1,some (.str y 347))) (fun _=>false) (fun _=>false) (fun _=>false) (fun a=>(lookNames.zip lookVals).contains (p.1,some (.ref a)))
  (fun b=>bok p.1 (.builtin b.id)) (fun t=>bok p.1 (.type t.nm)) (fun _=>false) (fun _=>false)
theorem globs_ok:(globs.all gok)=true:=by decide +kernel
section
variable {w:World} {h₀:Heap} {Z:Scr}
structure Ok (w:World) (h₀:Heap) (Z:Scr) (K:Str→Option NameKind) (e:EE) (env:Env) (μ:List Addr) (σ:St) (s:Shared):Prop where
  kr:KR K env
  er:EnvR Z h₀ μ e env s.heap
  now:Now h₀ Z μ σ s
theorem Ok.stp {K e env} {μ μ':List Addr} {σ σ':St} {s s':Shared} (B:Base w h₀ Z) (o:Ok w h₀ Z K e env μ σ s) (x:Stp h₀ [] μ s μ' s') (S:Sim Z h₀ μ' σ' s'.heap):Ok w h₀ Z K e env μ' σ' s' :=
  ⟨o.kr,o.er.stp x B.b376,o.now.stp x S⟩
theorem Ok.stpX {K e env} {μ μ' Xs:List Addr} {σ σ':St} {s s':Shared} (B:Base w h₀ Z) (o:Ok w h₀ Z K e env μ σ s) (x:Stp h₀ Xs μ s μ' s') (hL:env.locals ∉ Xs) (hC:∀ y c,(y,c)∈env.cells→c ∉ Xs) (S:Sim Z h₀ μ' σ' s'.heap):Ok w h₀ Z K e env μ' σ' s' :=
  ⟨o.kr,o.er.stpX x hL hC B.b376,o.now.stp x S⟩
theorem Ns.ofInv {h:Heap} {a:Addr} {m} (n:h₀.Ns a m) (i:Inv h₀ h) (ha:a≠376):h.Ns a m:=Ns.ext n fun o e=>i.keep _ _ e ha
theorem wpAny_glob {A:Around} {env:Env} {s:Shared} {x:Str} {v:Value} (B:Base w h₀ Z) (i:Inv h₀ s.heap) (hg:env.globals=mainNs) (hx:(x,some v)∈lookNames.zip lookVals) {Q:Value→Shared→Prop} {E:Value→Shared→Prop} (hq:Q v s) :
    wpAny (model P w) A (loadGlobal env x) Q E s:=by
  refine exA (B.wf.name) fun mg h1 h2=>?_
  exact Calls.loadGlobal_global (by rw [hg]; exact Ns.ofInv h1 i (by decide)) (h2 _ _ hx) hq
theorem wpAny_blt {A:Around} {env:Env} {s:Shared} {x:Str} {v:Value} (B:Base w h₀ Z) (i:Inv h₀ s.heap) (hg:env.globals=mainNs) (hb:env.builtins=builtinsNs) (hx:bok x v=true) {Q:Value→Shared→Prop} {E:Value→Shared→Prop} (hq:Q v s) :
    wpAny (model P w) A (loadGlobal env x) Q E s:=by
  unfold bok at hx
  refine hid fun GG kk=>?_
  obtain ⟨hx,h3⟩:=Bool.and_eq_true_iff.mp hx
  obtain ⟨h1,h2⟩:=Bool.and_eq_true_iff.mp hx
  refine exA (B.wf.name) fun mg g1 g2=>?_
  refine exA (B.wf.blt) fun mb b1 b2=>?_
  refine kk ?_
  clear kk GG
  exact Calls.loadGlobal_builtin (by rw [hg]; exact Ns.ofInv g1 i (by decide)) (g2 _ _ (List.contains_iff_mem.mp h1)) (by rw [hb]; exact Ns.ofInv b1 i (by decide)) ((b2 x (of_decide_eq_true h3)).trans (of_decide_eq_true h2)) hq
theorem glob_sound {A:Around} {env:Env} {μ:List Addr} {s:Shared} {x:Str} {v:V} (B:Base w h₀ Z) (i:Inv h₀ s.heap) (hg:env.globals=mainNs) (hb:env.builtins=builtinsNs) (hp:pick x globs=some v) :
    ∃ val,VR Z μ s.heap v val∧∀ (Q:Value→Shared→Prop) (E:Value→Shared→Prop),Q val s→wpAny (model P w) A (loadGlobal env x) Q E s:=by
  have h:=List.all_eq_true.mp globs_ok _ (pick_mem hp)
  cases v with
  | glob a=>exact ⟨_,.glob _,fun Q E hq=>wpAny_glob B i hg (List.contains_iff_mem.mp h) hq⟩
  | str y=>exact ⟨_,.str _ _,fun Q E hq=>wpAny_glob B i hg (List.contains_iff_mem.mp h) hq⟩
  | bi b=>exact ⟨_,.bi _,fun Q E hq=>wpAny_blt B i hg hb h hq⟩
  | ty t=>exact ⟨_,.ty _,fun Q E hq=>wpAny_blt B i hg hb h hq⟩
  | _=>exact nomatch h
theorem num_ne {x y:Str} {i:Nat} (h:num x=some i) (hy:num y=none):x≠y:=by rintro rfl; rw [h] at hy; cases hy
theorem beq_ne {x y:Str} (h:x≠y):(x == y)=false:=by
  cases e:x == y with
  | false=>rfl
  | true=>exact absurd (beq_iff_eq.mp e) h
theorem var_sound {A:Around} {K e env} {μ:List Addr} {σ:St} {s:Shared} {x:Str} {p:Pl} {v:V} (O:Ok w h₀ Z K e env μ σ s) (hp:cPl K x=some p) (hv:e.get p=some v) :
    ∃ val,VR Z μ s.heap v val∧∀ (Q:Value→Shared→Prop) (E:Value→Shared→Prop),Q val s→wpAny (model P w) A (loadName env x) Q E s:=by
  refine obind hp fun k hk hp=>obind hp fun i h1 hp=>?_
  have cell:(K x=some .cell∨K x=some .free)→e.get (.cel i)=some v→∃ val,VR Z μ s.heap v val∧∀ (Q:Value→Shared→Prop) (E:Value→Shared→Prop),Q val s→wpAny (model P w) A (loadName env x) Q E s:=fun hk hv=>by
    refine hid fun GG kk=>?_
    obtain ⟨y,c,val,h2,h3,h4,h5⟩:=O.er.cells i v hv
    refine kk ?_
    clear kk GG
    cases Option.some.inj (h2.symm.trans (num_nm h1))
    exact ⟨val,h5,fun Q E hq=>(O.kr.cel _ hk).elim (fun q=>wpAny_loadName_cell O.er.kind q h3 h4 hq) fun q=>wpAny_loadName_free O.er.kind q h3 h4 hq (beq_ne (num_ne h1 (by decide +kernel)))⟩
  induction k with
  | «local» =>
    cases hp
    refine hid fun GG kk=>?_
    refine exA (O.er.ns) fun m hn hm=>?_
    obtain ⟨y,val,h2,h3,h4⟩:=hm i v hv
    refine kk ?_
    clear kk GG
    cases Option.some.inj (h2.symm.trans (num_nm h1))
    exact ⟨val,h4,fun Q E hq=>wpAny_loadName_local O.er.kind (O.kr.loc _ hk) hn h3 hq⟩
  | cell=>cases hp; exact cell (.inl hk) hv
  | free=>cases hp; exact cell (.inr hk) hv
  | _=>exact nS hp
theorem cName_get {K:Str→Option NameKind} {x:Str} {c:CE} {C:Prop} (h:cName K x=some c) (k1:∀ v,K x=some .globalImplicit→pick x globs=some v→c=.lit v→C) (k2:∀ p,cPl K x=some p→c=.var p→C):C:=by
  refine obind h fun k hk h=>?_
  have var:∀ {k},K x=some k→((num x).bind (plOf k)).map CE.var=some c→C:=fun {k} hk h=>omap (C:=fun d=>c=d→C) h (fun p hp e=>k2 p ((by unfold cPl; rw [hk]; exact hp)) e) rfl
  induction k with
  | globalExplicit=>exact nS h
  | globalImplicit=>exact omap (C:=fun d=>c=d→C) h (fun v hv e=>k1 v hk hv e) rfl
  | _=>exact var hk h
theorem cName_ne {K:Str→Option NameKind} {x:Str} {c:CE} (h:cName K x=some c) {y:Str} (h1:pick y globs=none) (h2:num y=none):x≠y:=by
  rintro rfl
  exact cName_get h (fun v _ e _=>nS (h1.symm.trans e)) fun p e _=>obind e fun _ _ e=>obind e fun _ e _=>nS (h2.symm.trans e)
theorem name_sound {A:Around} {f:Fs} {K e env} {μ:List Addr} {σ σ':St} {s:Shared} {x:Str} {pos:Pos} {c:CE} {v:V} (B:Base w h₀ Z) (O:Ok w h₀ Z K e env μ σ s) (hc:cName K x=some c) (he:stepE f e c σ=some (v,σ')) :
    σ'=σ∧∃ val,VR Z μ s.heap v val∧∀ (Q:Value→Shared→Prop) (E:Value→Shared→Prop),Q val s→wpAny (model P w) A (eval (.Name x pos) env) Q E s:=by
  have hd:(x == ("__debug__":Str))=false:=beq_ne (cName_ne hc (by decide +kernel) (by decide +kernel))
  refine cName_get hc (fun u hk hp e=>?_) fun p hp e=>?_
  · cases e
    cases X.pure_some he
    refine exA (glob_sound (μ:=μ) (A:=A) B O.now.inv O.er.glob O.er.bl hp) fun val r h=>?_
    exact ⟨rfl,val,r,fun Q E hq=>Calls.Name_function_global O.er.kind (O.kr.glo _ hk) (h Q E hq) hd⟩
  · cases e
    obtain ⟨h2,h3⟩:=X.of_some he
    refine exA (var_sound (A:=A) O hp h2) fun val r h=>?_
    exact ⟨h3,val,r,fun Q E hq=>wpAny_Name (h Q E hq) hd⟩
end
section
variable {w:World} {h₀:Heap} {Z:Scr}
theorem Wp.newL' {A:Around} {t:Sem Value} {μ:List Addr} {σ:St} {s:Shared} {xs:List V} {items:Array Value} (N:Now h₀ Z μ σ s) (hr:VRs Z μ s.heap xs items.toList)
    (ht:∀ (Q:Value→Shared→Prop) E,(∀ h' tk,(∀ b o,s.heap.get? b=some o→h'.get? b=some o)→h'.PlainList s.heap.objs.size items→Q (.ref s.heap.objs.size) { s with heap:=h',toks:=tk })→wpAny (model P w) A t Q E s):Wp w h₀ Z A t μ s (σ++[.lst xs]) (.lst σ.length):=by
  intro Q E h
  refine ht Q E fun h' tk hk hp=>h (μ++[s.heap.objs.size]) { s with heap:=h',toks:=tk } _ (Stp.grow (get?_size _) hk rfl rfl) ?_ (.lst ?_)
  · refine N.sim.snoc (h':=h') hk (get?_size _) (N.inv.fresh (get?_size _)) (c:=.lst xs) ?_
    exact ⟨items,hp,hr.mono (Pre.app _ _) (fun _ _ e _=>hk _ _ e)⟩
  · rw [← N.sim.len]; simp
variable {c:Cx w h₀ Z}
theorem str_g {i:Int} {u:Tok} (q:i.natAbs < 1000000):c.W (call (.type "str") [.int i u]) (.str (toString i)) c.σ:=W.tok fun Q E h=>_root_.PySem.P.str_of_int (by
  by_cases h0:i.natAbs=0
  · rw [h0]; decide
  · exact Nat.lt_of_lt_of_le ((Nat.log2_lt h0 (k:=20)).mpr (Nat.lt_of_lt_of_le q (by decide))) (by decide)) (h _ _ (.str _ _))
theorem callT_g {t:Ty} {args:List V} {vals:List Value} (r:c.Rs args vals):c.G (callT t args) (c.W (call (.type t.nm) vals)):=by
  induction t with
  | list=>exact G.args1 (D:=fun l=>c.W (call (.type "list") l)) r fun v x r=>G.onL (D:=fun x=>c.W (call (.type "list") [x])) r fun k a xs items L=>G.guard fun q=>G.new (by
      obtain ⟨n,l1⟩:=L.l
      exact Wp.newL' c.N L.r fun Q E h=>call_list_seq a (.inl rfl) l1 rfl rfl (fun h' c' hk hD=>h h' c.s.toks hk ⟨c',hD⟩) (line_of (L.size ▸ big_le q)))
  | str=>exact G.args1 (D:=fun l=>c.W (call (.type "str") l)) r fun v x r=>G.onI (D:=fun x=>c.W (call (.type "str") [x])) r fun i u=>G.guard fun q=>G.pure (str_g (of_decide_eq_true q))
  | typ=>exact G.args1 (D:=fun l=>c.W (call (.type "type") l)) r fun v x r=>G.sw (D:=fun x=>c.W (call (.type "type") [x])) r (fun _ _=>G.fail) (fun y t=>G.pure (W.val (.ty .str) fun Q E h=>call_type_of (typeIs_str _ _ _) (by decide) h)) (fun k a xs items L=>G.pure (W.val (.ty .list) fun Q E h=>call_type_of L.l.isList.typeIs (by decide) h))
theorem revV_g {x:V} {a:Value} {sl:Addr} {t1:Tok} (hx:c.R x a) (hs:c.s.heap.IsSlice sl none none (some (-1,t1))):c.G (revV x) (c.Item a (getItem a (.ref sl))) :=
  G.onS (D:=fun a=>c.Item a (getItem a (.ref sl))) hx fun y t=>G.guard fun q=>G.pure (Item.str (W.tok fun Q E h=>wpAny_getItem_str_slice (l:=none) (u:=none) (st:=some (-1,t1)) hs rfl (And.intro (line_of (big_le q)) (h _ _ (.str _ _)))))
end
inductive BindI {α β:Type} (m:X α) (f:α→X β) (σ:St) (r:β × St):Prop
  | mk (a:α) (σ':St) (h1:m σ=some (a,σ')) (h2:f a σ'=some r)
theorem X.bind_inv {α β:Type} {m:X α} {f:α→X β} {σ:St} {r:β × St} (h:X.bind m f σ=some r):BindI m f σ r:=let ⟨a,σ',h1,h2⟩:=X.bind_some h; ⟨a,σ',h1,h2⟩
@[elab_as_elim] theorem pureE {β:Type} {a v:β} {σ σ':St} {C:β→St→Prop} (h:X.pure a σ=some (v,σ')) (k:C a σ):C v σ':=(Prod.mk.inj (Option.some.inj h)).1 ▸ (Prod.mk.inj (Option.some.inj h)).2 ▸ k
theorem onI_inv {β:Type} {f:Int→X β} {v:V} {σ:St} {r:β × St} (h:onI f v σ=some r):∃ i,v=.int i∧f i σ=some r:=by
  cases v with
  | int i=>exact ⟨i,rfl,h⟩
  | _=>exact nS h
theorem onL_inv {β:Type} {f:Nat→List V→X β} {v:V} {σ:St} {r:β × St} (h:onL f v σ=some r):∃ k xs,v=.lst k∧σ[k]?=some (.lst xs)∧f k xs σ=some r:=by
  cases v with
  | lst k=>exact let ⟨xs,e,h⟩:=getLst_bind h; ⟨k,xs,rfl,e,h⟩
  | _=>exact nS h
theorem starEach_of {K x c} (h:Ex K x c) (rest:List Expr) (env:Env):starEach (x::rest) env=(false,eval x env)::starEach rest env:=by cases h.inv <;> rfl
section
variable (w:World) (h₀:Heap) (Z:Scr)
noncomputable def SndE (n:Nat):Prop:=∀ {K e env μ σ s A x c v σ'},Ex K x c→(fs n).E e c σ=some (v,σ')→GoodA n A→Ok w h₀ Z K e env μ σ s→Wp w h₀ Z A (eval x env) μ s σ' v
noncomputable def SndT (n:Nat):Prop:=∀ {K e env μ σ s A x c b σ'},Ex K x c→(fs n).T e c σ=some (b,σ')→GoodA n A→Ok w h₀ Z K e env μ σ s→WpB w h₀ Z A (isTrue x env (eval x env)) μ s σ' b
inductive KwR (μ:List Addr) (h:Heap):List (Nat × V)→List (Str × Value)→Prop
  | nil:KwR μ h [] []
  | cons {i x v val l l'}:nm i=some x→VR Z μ h v val→KwR μ h l l'→KwR μ h ((i,v)::l) ((x,val)::l')
noncomputable def SndC (n:Nat):Prop:=∀ {μ σ s A a args kw v σ' vals kvs},(fs n).C a args kw σ=some (v,σ')→GoodA n A→Now h₀ Z μ σ s→VRs Z μ s.heap args vals→KwR Z μ s.heap kw kvs→Wp w h₀ Z A (call (.ref a) vals kvs) μ s σ' v
end
section
variable {w:World} {h₀:Heap} {Z:Scr}
noncomputable abbrev cx {n:Nat} {A:Around} {μ:List Addr} {σ:St} {s:Shared} (B:Base w h₀ Z) (g:GoodA n A) (N:Now h₀ Z μ σ s):Cx w h₀ Z:=⟨A,μ,σ,s,N,B,g.1,g.cu⟩
theorem KwR.mono {μ μ':List Addr} {h h':Heap} (hp:Pre μ μ') (hf:Frozen h h') {l l'} (r:KwR Z μ h l l'):KwR Z μ' h' l l':=by
  induction r with
  | nil=>exact .nil
  | cons a b _ ih=>exact .cons a (b.mono hp hf) ih
theorem evs_sound {n:Nat} (hE:SndE w h₀ Z n) (B:Base w h₀ Z) {K e env A pos} (g:GoodA n A) {xs:List Expr} {es:List CE} (hx:Exs K xs es):∀ {μ σ s vs σ'},evs ((fs n).E e) es σ=some (vs,σ')→Ok w h₀ Z K e env μ σ s →
    WpL w h₀ Z A (spliced (backTo pos (starEach xs env))) μ s σ' vs:=by
  induction hx with
  | nil =>
    intro μ σ s vs σ' he O
    exact pureE he fun Q E h=>args_nil (h μ s [] (.refl _ _ _ _) O.now.sim .nil)
  | cons hx hxs ih =>
    intro μ σ s vs σ' he O
    refine X.bindE he fun v σ1 h1 he=>?_
    refine X.bindE he fun vs1 σ2 h2 he=>?_
    exact pureE he fun Q E h=>args_cons (hE hx h1 g O _ E fun μ1 s1 val st1 S1 r1=>ih h2 (O.stp B st1 S1) _ E fun μ2 s2 vals st2 S2 r2=>h μ2 s2 _ (st1.trans st2) S2 (.cons (st2.vr r1) r2)) (starEach_of hx _ _)
theorem ks_some {K env pos} {kw:List Keyword} {ks:List (Nat × CE)} (h:Ks K kw ks):(backToKw pos (keywordEach kw env)).all (·.1.isSome)=true:=by
  induction h with
  | nil=>rfl
  | cons h _ ih=>cases h; exact ih
theorem evKw_sound {n:Nat} (hE:SndE w h₀ Z n) (B:Base w h₀ Z) {K e env A pos} (g:GoodA n A) {kw:List Keyword} {ks:List (Nat × CE)} (hx:Ks K kw ks):∀ {μ σ s vs σ'},evKw ((fs n).E e) ks σ=some (vs,σ')→Ok w h₀ Z K e env μ σ s →
    ∀ (Q:List Value→Shared→Prop) (E:Value→Shared→Prop),(∀ μ' s' vals,Stp h₀ [] μ s μ' s'→Sim Z h₀ μ' σ' s'.heap→KwR Z μ' s'.heap vs (((backToKw pos (keywordEach kw env)).filterMap (·.1)).zip vals)→Q vals s') →
      wpAny (model P w) A (evalAll ((backToKw pos (keywordEach kw env)).map (·.2))) Q E s:=by
  induction hx with
  | nil =>
    intro μ σ s vs σ' he O
    exact pureE he fun Q E h=>wpAny_evalAll_nil (h μ s [] (.refl _ _ _ _) O.now.sim .nil)
  | cons hk hxs ih =>
    intro μ σ s vs σ' he O
    induction hk with
    | mk hn hx =>
    refine X.bindE he fun v σ1 h1 he=>?_
    refine X.bindE he fun vs1 σ2 h2 he=>?_
    exact pureE he fun Q E h=>wpAny_evalAll_cons (wpAny_bind (hE hx h1 g O _ E fun μ1 s1 val st1 S1 r1=>wpAny_bind (wpAny_standAt (wpAny_pure (ih h2 (O.stp B st1 S1) _ E fun μ2 s2 vals st2 S2 r2=>h μ2 s2 _ (st1.trans st2) S2 (.cons (num_nm hn) (st2.vr r1) r2))))))
theorem evO_sound {n:Nat} (hE:SndE w h₀ Z n) {K e env A μ σ s} {x:Option Expr} {c:Option CE} {v:Option V} {σ':St} (g:GoodA n A) (hx:ExO K x c) (he:evO ((fs n).E e) c σ=some (v,σ')) (O:Ok w h₀ Z K e env μ σ s)
    {Q:Value→Shared→Prop} {E:Value→Shared→Prop} (h:∀ μ' s' val,Stp h₀ [] μ s μ' s'→Sim Z h₀ μ' σ' s'.heap→PartR Z μ' s'.heap v val→Q val s'):wpAny (model P w) A (evalPart x env) Q E s:=by
  induction hx with
  | none =>
    cases X.pure_some he
    exact wpAny_evalPart_none (h μ s _ (.refl _ _ _ _) O.now.sim .no)
  | some hx =>
    refine X.bindE he fun v1 σ1 h1 he=>?_
    cases X.pure_some he
    exact wpAny_evalPart_some (hE hx h1 g O _ E fun μ1 s1 val st1 S1 r1=>h μ1 s1 val st1 S1 (.yes r1))
theorem subscripted_ops (slice:Expr) (o i:Value):∃ ops,subscripted slice false o i=operate ops (getItem o i):=by
  unfold subscripted
  split
  · exact ⟨_,rfl⟩
  · rename_i h; cases h
  · exact ⟨_,rfl⟩
theorem tail_sound {A:Around} {value slice:Expr} {a i:Value} {v:V} {μ:List Addr} {σ':St} {s:Shared} (h:∃ T id,s.TypeIs a T∧typeLookup (.type T) "__getitem__"=pure (some (.builtin id))∧Wp w h₀ Z A (getItem a i) μ s σ' v) :
    Wp w h₀ Z A (subscriptTail value slice a i) μ s σ' v:=by
  refine hid fun GG kk=>?_
  refine exE h fun T zz=>exE zz fun id zz=>anE zz fun h1 zz=>anE zz fun h2 h3=>?_
  refine exE (subscripted_ops slice a i) fun ops ho=>?_
  refine kk ?_
  clear kk GG
  exact fun Q E hq=>tail_any h1 h2 (h3 Q E hq) ho
end
section
variable {w:World} {h₀:Heap} {Z:Scr}
theorem GoodA.s {n:Nat} {A:Around} (g:GoodA (n+1) A):GoodA n A:=g.le (Nat.le_succ _)
theorem isTrue_cmp {M:Model} {A:Around} {E:Value→Shared→Prop} {s:Shared} {env:Env} {l op r pos whole} {Q:Bool→Shared→Prop} (hm:behindInMarks op r=false)
    (h:wpAny M A (eval (.Compare l [op] [r] pos) env) (fun v s₁=>wpAny M A (truthy v) Q E s₁) E s):wpAny M A (isTrue (.Compare l [op] [r] pos) env whole) Q E s:=fun Γ p hΓ=>by
  have h:=h Γ p hΓ
  simp only [eval_Compare1,markedBehindIn_of_false hm,Sem.wp_bind',Sem.wp_holding,Sem.wp_cmd_standAt,Sem.wp_operate] at h
  simp only [isTrue_Compare1,markedBehindIn_of_false hm,Sem.wp_bind',Sem.wp_holding,Sem.wp_cmd_standAt,Sem.wp_operate]
  exact Sem.wp_mono M Γ _ (fun a p₁ s₁ h₁=>Sem.wp_mono M Γ _ (fun b _ s₂ h₂=>Sem.wp_mono M Γ _ (fun c p₃ s₃ h₃=>h₃ Γ p₃ hΓ)
    (fun _ _ _ h'=>h') _ _ h₂) (fun _ _ _ h'=>h') _ _ h₁) (fun _ _ _ h'=>h') _ _ h
theorem plainT {n:Nat} (hE:SndE w h₀ Z n) (B:Base w h₀ Z) {K e env μ σ s A x c b σ'} (hx:Ex K x c) (he:X.bind ((fs n).E e c) truth σ=some (b,σ')) (g:GoodA n A) (O:Ok w h₀ Z K e env μ σ s)
    (hs:∀ (Q:Bool→Shared→Prop) (E:Value→Shared→Prop),wpAny (model P w) A (eval x env) (fun v s₁=>wpAny (model P w) A (truthy v) Q E s₁) E s→wpAny (model P w) A (isTrue x env (eval x env)) Q E s):WpB w h₀ Z A (isTrue x env (eval x env)) μ s σ' b:=by
  refine X.bindE he fun v σ1 h1 he=>fun Q E h=>?_
  refine hs Q E (hE hx h1 g O _ E fun μ1 s1 val st1 S1 r1=>?_)
  exact truth_g (c:=cx B g (O.now.stp st1 S1)) r1 he Q E fun μ2 s2 st2 S2=>h μ2 s2 (st1.trans st2) S2
theorem T_and {n:Nat} (hT:SndT w h₀ Z n) (B:Base w h₀ Z) {K e env μ σ s A a b σ'} {x:Expr} {rest:List Expr} {pos:Pos} {whole:Sem Value} {m:X Bool} (hx:Ex K x a) (he:X.bind ((fs n).T e a) (tf m (X.pure false)) σ=some (b,σ')) (g:GoodA n A) (O:Ok w h₀ Z K e env μ σ s)
    (k:∀ {μ1 s1 σ1},Ok w h₀ Z K e env μ1 σ1 s1→m σ1=some (b,σ')→WpB w h₀ Z A (isTrue (.BoolOp .And rest pos) env whole) μ1 s1 σ' b):WpB w h₀ Z A (isTrue (.BoolOp .And (x::rest) pos) env whole) μ s σ' b:=by
  refine X.bindE he fun b1 σ1 h1 he=>fun Q E h=>?_
  refine isTrue_and (hT hx h1 g O _ E fun μ1 s1 st1 S1=>?_)
  induction b1 with
  | false=>exact pureE (C:=fun b σ'=>(∀ μ' s',Stp h₀ [] μ s μ' s'→Sim Z h₀ μ' σ' s'.heap→Q b s')→Q false s1) he (fun h=>h μ1 s1 st1 S1) h
  | true=>exact k (O.stp B st1 S1) he Q E fun μ2 s2 st2 S2=>h μ2 s2 (st1.trans st2) S2
theorem T_nil {env:Env} {pos:Pos} {whole:Sem Value} {A μ s σ'} {b:Bool} {σ:St} (N:Now h₀ Z μ σ s) (he:(X.pure true:X Bool) σ=some (b,σ')):WpB w h₀ Z A (isTrue (.BoolOp .And [] pos) env whole) μ s σ' b :=
  pureE he fun Q E h=>isTrue_and_nil (h μ s (.refl _ _ _ _) N.sim)
theorem T_last {n:Nat} (hT:SndT w h₀ Z n) {K e env μ σ s A a b σ'} {x:Expr} {pos:Pos} {whole:Sem Value} (hx:Ex K x a) (he:(fs n).T e a σ=some (b,σ')) (g:GoodA n A) (O:Ok w h₀ Z K e env μ σ s):WpB w h₀ Z A (isTrue (.BoolOp .And [x] pos) env whole) μ s σ' b :=
  fun Q E h=>isTrue_and (hT hx he g O _ E fun μ1 s1 st1 S1=>Bool.rec (motive:=fun b=>Q b s1→(if b=true then wpAny (model P w) A (isTrue (.BoolOp .And [] pos) env whole) Q E s1 else Q false s1)) (fun h=>h) (fun h=>isTrue_and_nil h) b (h μ1 s1 st1 S1))
theorem SndT_step {n:Nat} (hE:SndE w h₀ Z n) (hT:SndT w h₀ Z n) (B:Base w h₀ Z):SndT w h₀ Z (n+1):=by
  intro K e env μ σ s A x c b σ' hx he g O
  have g':=g.s
  replace he:stepT (fs n) e c σ=some (b,σ'):=he
  have hi:=hx.inv
  revert he hx
  induction hi with
  | not h0 =>
    intro hx he
    refine X.bindE he fun b1 σ1 h1 he=>?_
    exact pureE he fun Q E h=>isTrue_not (hT h0 h1 g' O _ E fun μ1 s1 st1 S1=>h μ1 s1 st1 S1)
  | @and x y z p a b c h0 hy hz =>
    intro hx he
    refine T_and hT B h0 he g' O fun O1 he=>T_and hT B hy he g' O1 fun O2 he=>?_
    induction c with
    | none=>cases hz; exact T_nil O2.now he
    | some c =>
      cases hz with
      | cons hz hn=>cases hn; exact T_last hT hz he g' O2
  | cmp hm ho h1 h2=>exact fun hx he=>plainT hE B hx he g' O fun Q E h=>isTrue_cmp hm h
  | name h1 =>
    intro hx he
    refine cName_get h1 (fun v _ _ ec=>?_) fun p _ ec=>?_
    · cases ec; exact nS he
    · cases ec; exact plainT hE B hx he g' O fun Q E h=>isTrue_plain h
  | meth=>exact fun hx he=>plainT hE B hx he g' O fun Q E h=>isTrue_plain h
  | call=>exact fun hx he=>plainT hE B hx he g' O fun Q E h=>isTrue_plain h
  | _=>exact fun _ he=>nS he
end
section
variable {w:World} {h₀:Heap} {Z:Scr}
theorem pushL {μ:List Addr} {σ:St} {s:Shared} {xs:List V} {items:Array Value} (N:Now h₀ Z μ σ s) (hr:VRs Z μ s.heap xs items.toList) (n tk:Nat) :
    Stp h₀ [] μ s (μ++[s.heap.objs.size]) { s with heap:=s.heap.push { cls:=.type "list",data:=.seq items n },toks:=tk } ∧
    Sim Z h₀ (μ++[s.heap.objs.size]) (σ++[.lst xs]) (s.heap.push { cls:=.type "list",data:=.seq items n })∧(μ++[s.heap.objs.size])[σ.length]?=some s.heap.objs.size:=by
  refine ⟨Stp.grow (get?_size _) (fun _ _ e=>Heap.get?_push_of_some _ e) rfl rfl,N.sim.snoc (h':=s.heap.push _) (fun _ _ e=>Heap.get?_push_of_some _ e) (get?_size _) (N.inv.fresh (get?_size _)) (c:=.lst xs) ?_,?_⟩
  · exact ⟨items,⟨n,Heap.get?_push_size _ rfl⟩,hr.mono (Pre.app _ _) (fun _ _ e _=>Heap.get?_push_of_some _ e)⟩
  · rw [← N.sim.len]; simp
theorem E_const {n:Nat} (B:Base w h₀ Z) {K e env μ σ s A x v v' σ'} (O:Ok w h₀ Z K e env μ σ s) (he:stepE (fs n) e (.lit v) σ=some (v',σ'))
    (h:∀ (Q:Value→Shared→Prop) (E:Value→Shared→Prop),(∀ val tk,VR Z μ s.heap v val→Q val { s with toks:=tk })→wpAny (model P w) A (eval x env) Q E s):Wp w h₀ Z A (eval x env) μ s σ' v':=by
  cases X.pure_some he
  exact Wp.tok O.now h
theorem E_name {n:Nat} (B:Base w h₀ Z) {K e env μ σ s A x p c v σ'} (hc:cName K x=some c) (he:stepE (fs n) e c σ=some (v,σ')) (O:Ok w h₀ Z K e env μ σ s):Wp w h₀ Z A (eval (.Name x p) env) μ s σ' v:=by
  obtain ⟨rfl,val,r,h⟩:=name_sound (A:=A) (pos:=p) B O hc he
  exact fun Q E k=>h Q E (k μ s val (.refl _ _ _ _) O.now.sim r)
theorem E_list {n:Nat} (hE:SndE w h₀ Z n) (B:Base w h₀ Z) {K e env μ σ s A es p cs v σ'} (hx:Exs K es cs) (he:stepE (fs n) e (.lst cs) σ=some (v,σ')) (g:GoodA n A) (O:Ok w h₀ Z K e env μ σ s):Wp w h₀ Z A (eval (.List es p) env) μ s σ' v:=by
  refine hid fun GG kk=>?_
  obtain ⟨vs,σ1,h1,he⟩:=X.bind_inv he
  obtain ⟨q,he⟩:=X.guard_some he
  refine kk ?_
  clear kk GG
  obtain ⟨rfl,rfl⟩:=newLst_some he
  intro Q E h
  refine wpAny_List_spliced (evs_sound hE B g hx h1 O _ E fun μ1 s1 vals st1 S1 r1=>⟨?_,?_⟩)
  · rw [← r1.length]; exact line_of (big_le q)
  · have N1:=O.now.stp st1 S1
    obtain ⟨st2,S2,r2⟩:=pushL N1 (items:=vals.toArray) (by rw [List.toList_toArray]; exact r1) 0 s1.toks
    exact h _ _ _ (st1.trans st2) S2 (.lst r2)
theorem E_tuple {n:Nat} (hE:SndE w h₀ Z n) (B:Base w h₀ Z) {K e env μ σ s A es k p cs v σ'} (hx:Exs K es cs) (he:stepE (fs n) e (.tup cs) σ=some (v,σ')) (g:GoodA n A) (O:Ok w h₀ Z K e env μ σ s):Wp w h₀ Z A (eval (.Tuple es k p) env) μ s σ' v:=by
  refine hid fun GG kk=>?_
  obtain ⟨vs,σ1,h1,he⟩:=X.bind_inv he
  obtain ⟨q,he⟩:=X.guard_some he
  refine kk ?_
  clear kk GG
  cases X.pure_some he
  intro Q E h
  refine wpAny_Tuple_spliced (evs_sound hE B g hx h1 O _ E fun μ1 s1 vals st1 S1 r1=>⟨?_,?_⟩)
  · rw [← r1.length]; exact line_of (big_le q)
  · refine h μ1 _ _ (st1.trans (Stp.push _ s1.toks)) (S1.ext fun _ _ e=>Heap.get?_push_of_some _ e) (.tup (Heap.get?_push_size _ rfl) rfl rfl ?_)
    rw [List.toList_toArray]
    exact r1.mono (fun _ _ e=>e) (fun _ _ e _=>Heap.get?_push_of_some _ e)
theorem E_bin {n:Nat} (hE:SndE w h₀ Z n) (B:Base w h₀ Z) {K e env μ σ s A l r op o a b p v σ'} (ho:cOp op=some o) (hl:Ex K l a) (hr:Ex K r b) (he:stepE (fs n) e (.bin o a b) σ=some (v,σ')) (g:GoodA n A) (O:Ok w h₀ Z K e env μ σ s):Wp w h₀ Z A (eval (.BinOp l op r p) env) μ s σ' v:=by
  obtain ⟨v1,σ1,h1,he⟩:=X.bind_inv he
  obtain ⟨v2,σ2,h2,he⟩:=X.bind_inv he
  intro Q E h
  refine wpAny_BinOp (hE hl h1 g O _ E fun μ1 s1 val1 st1 S1 r1=>?_)
  have O1:=O.stp B st1 S1
  refine hE hr h2 g O1 _ E fun μ2 s2 val2 st2 S2 r2=>?_
  have O2:=O1.stp B st2 S2
  exact binV_g (c:=cx B g O2.now) ho (st2.vr r1) r2 he Q E fun μ3 s3 val st3 S3 r3=>h μ3 s3 val ((st1.trans st2).trans st3) S3 r3
theorem E_neg {n:Nat} (hE:SndE w h₀ Z n) (B:Base w h₀ Z) {K e env μ σ s A x a p v σ'} (hx:Ex K x a) (he:stepE (fs n) e (.neg a) σ=some (v,σ')) (g:GoodA n A) (O:Ok w h₀ Z K e env μ σ s):Wp w h₀ Z A (eval (.UnaryOp .USub x p) env) μ s σ' v:=by
  obtain ⟨v1,σ1,h1,he⟩:=X.bind_inv he
  obtain ⟨i,rfl,he⟩:=onI_inv he
  refine pureE he fun Q E h=>UnaryOp_ (hE hx h1 g O _ E fun μ1 s1 val1 st1 S1 r1=>?_)
  obtain ⟨t,rfl⟩:=r1.int_inv
  exact PyProof.Rows.neg_int (h μ1 _ _ (st1.trans (Stp.toks _)) S1 (.int _ _))
theorem E_cmp {n:Nat} (hE:SndE w h₀ Z n) (B:Base w h₀ Z) {K e env μ σ s A l r op o a b p v σ'} (hm:behindInMarks op r=false) (ho:cCmp op=some o) (hl:Ex K l a) (hr:Ex K r b) (he:stepE (fs n) e (.cmp o a b) σ=some (v,σ')) (g:GoodA n A) (O:Ok w h₀ Z K e env μ σ s) :
    Wp w h₀ Z A (eval (.Compare l [op] [r] p) env) μ s σ' v:=by
  refine hid fun GG kk=>?_
  obtain ⟨v1,σ1,h1,he⟩:=X.bind_inv he
  obtain ⟨v2,σ2,h2,he⟩:=X.bind_inv he
  refine kk ?_
  clear kk GG
  intro Q E h
  refine wpAny_Compare1 (hE hl h1 g O _ E fun μ1 s1 val1 st1 S1 r1=>?_) hm
  have O1:=O.stp B st1 S1
  refine hE hr h2 g O1 _ E fun μ2 s2 val2 st2 S2 r2=>?_
  have O2:=O1.stp B st2 S2
  exact cmpV_g (c:=cx B g O2.now) ho (st2.vr r1) r2 he Q E fun μ3 s3 val st3 S3 r3=>h μ3 s3 val ((st1.trans st2).trans st3) S3 r3
theorem E_or {n:Nat} (hE:SndE w h₀ Z n) (B:Base w h₀ Z) {K e env μ σ s A x y a b p v σ'} (hx:Ex K x a) (hy:Ex K y b) (he:stepE (fs n) e (.or a b) σ=some (v,σ')) (g:GoodA n A) (O:Ok w h₀ Z K e env μ σ s):Wp w h₀ Z A (eval (.BoolOp .Or [x,y] p) env) μ s σ' v:=by
  refine hid fun GG kk=>?_
  obtain ⟨v1,σ1,h1,he⟩:=X.bind_inv he
  obtain ⟨t,σ2,h2,he⟩:=X.bind_inv he
  refine kk ?_
  clear kk GG
  intro Q E h
  refine BoolOp_or (hE hx h1 g O _ E fun μ1 s1 val1 st1 S1 r1=>?_)
  refine truth_g (c:=cx B g (O.now.stp st1 S1)) r1 h2 _ E fun μ2 s2 st2 S2=>?_
  have O2:=O.stp B (st1.trans st2) S2
  induction t with
  | true=>cases X.pure_some he; exact h μ2 s2 _ (st1.trans st2) S2 (st2.vr r1)
  | false=>exact BoolOp_one (hE hy he g O2 Q E fun μ3 s3 val st3 S3 r3=>h μ3 s3 val ((st1.trans st2).trans st3) S3 r3)
theorem E_ite {n:Nat} (hE:SndE w h₀ Z n) (hT:SndT w h₀ Z n) (B:Base w h₀ Z) {K e env μ σ s A t x y c a b p v σ'} (ht:Ex K t c) (hx:Ex K x a) (hy:Ex K y b) (he:stepE (fs n) e (.ite c a b) σ=some (v,σ')) (g:GoodA n A) (O:Ok w h₀ Z K e env μ σ s) :
    Wp w h₀ Z A (eval (.IfExp t x y p) env) μ s σ' v:=by
  obtain ⟨t1,σ1,h1,he⟩:=X.bind_inv he
  intro Q E h
  refine IfExp_ (hT ht h1 g O _ E fun μ1 s1 st1 S1=>?_)
  have O1:=O.stp B st1 S1
  induction t1 with
  | true=>exact hE hx he g O1 Q E fun μ3 s3 val st3 S3 r3=>h μ3 s3 val (st1.trans st3) S3 r3
  | false=>exact hE hy he g O1 Q E fun μ3 s3 val st3 S3 r3=>h μ3 s3 val (st1.trans st3) S3 r3
theorem E_item {n:Nat} (hE:SndE w h₀ Z n) (B:Base w h₀ Z) {K e env μ σ s A o i a b p v σ'} (ho:Ex K o a) (hi:Ex K i b) (he:stepE (fs n) e (.item a b) σ=some (v,σ')) (g:GoodA n A) (O:Ok w h₀ Z K e env μ σ s):Wp w h₀ Z A (eval (.Subscript o i p) env) μ s σ' v:=by
  refine hid fun GG kk=>?_
  obtain ⟨v1,σ1,h1,he⟩:=X.bind_inv he
  obtain ⟨v2,σ2,h2,he⟩:=X.bind_inv he
  refine kk ?_
  clear kk GG
  intro Q E h
  refine Subscript_ (hE ho h1 g O _ E fun μ1 s1 val1 st1 S1 r1=>?_)
  have O1:=O.stp B st1 S1
  refine hE hi h2 g O1 _ E fun μ2 s2 val2 st2 S2 r2=>?_
  have O2:=O1.stp B st2 S2
  exact tail_sound (itemV_g (c:=cx B g O2.now) (st2.vr r1) r2 he) Q E fun μ3 s3 val st3 S3 r3=>h μ3 s3 val ((st1.trans st2).trans st3) S3 r3
theorem E_slice {n:Nat} (hE:SndE w h₀ Z n) (B:Base w h₀ Z) {K e env μ σ s A o lo hi a b c q p v σ'} (ho:Ex K o a) (hl:ExO K lo b) (hh:ExO K hi c) (he:stepE (fs n) e (.slice a b c) σ=some (v,σ')) (g:GoodA n A) (O:Ok w h₀ Z K e env μ σ s) :
    Wp w h₀ Z A (eval (.Subscript o (.Slice lo hi none q) p) env) μ s σ' v:=by
  refine hid fun GG kk=>?_
  obtain ⟨v1,σ1,h1,he⟩:=X.bind_inv he
  obtain ⟨v2,σ2,h2,he⟩:=X.bind_inv he
  obtain ⟨v3,σ3,h3,he⟩:=X.bind_inv he
  refine kk ?_
  clear kk GG
  intro Q E h
  refine Subscript_ (hE ho h1 g O _ E fun μ1 s1 val1 st1 S1 r1=>?_)
  have O1:=O.stp B st1 S1
  refine wpAny_Slice (evO_sound hE g hl h2 O1 fun μ2 s2 val2 st2 S2 r2=>?_)
  have O2:=O1.stp B st2 S2
  refine evO_sound hE g hh h3 O2 fun μ3 s3 val3 st3 S3 r3=>wpAny_evalPart_none ?_
  have O3:=O2.stp B st3 S3
  have st4:Stp h₀ [] μ3 s3 μ3 { s3 with heap:=s3.heap.push { cls:=.type "slice",data:=.fields #[val2,val3,.none] } }:=Stp.push _ s3.toks
  have O4:=O3.stp B st4 (S3.ext fun _ _ e=>Heap.get?_push_of_some _ e)
  exact tail_sound (sliceV_g (c:=cx B g O4.now) (st4.vr (st3.vr (st2.vr r1))) ((r2.stp st3).stp st4) (r3.stp st4) (Heap.IsSliceOf.new ..) he) Q E fun μ5 s5 val st5 S5 r5=>h μ5 s5 val ((((st1.trans st2).trans st3).trans st4).trans st5) S5 r5
theorem E_rev {n:Nat} (hE:SndE w h₀ Z n) (B:Base w h₀ Z) {K e env μ σ s A o a k q q' q'' p v σ'} (ho:Ex K o a) (he:stepE (fs n) e (.rev a) σ=some (v,σ')) (g:GoodA n A) (O:Ok w h₀ Z K e env μ σ s) :
    Wp w h₀ Z A (eval (.Subscript o (.Slice none none (some (.UnaryOp .USub (.Constant (.int 1) k q) q')) q'') p) env) μ s σ' v:=by
  refine hid fun GG kk=>?_
  obtain ⟨v1,σ1,h1,he⟩:=X.bind_inv he
  refine kk ?_
  clear kk GG
  intro Q E h
  refine Subscript_ (hE ho h1 g O _ E fun μ1 s1 val1 st1 S1 r1=>?_)
  refine wpAny_Slice (wpAny_evalPart_none (wpAny_evalPart_none (wpAny_evalPart_some (UnaryOp_ (wpAny_Constant_int (PyProof.Rows.neg_int ?_))))))
  have st4:Stp h₀ [] μ1 s1 μ1 { s1 with heap:=s1.heap.push { cls:=.type "slice",data:=.fields #[.none,.none,.int (-1) (s1.toks+1)] },toks:=s1.toks+1+1 }:=Stp.push _ _
  have O4:=(O.stp B st1 S1).stp B st4 (S1.ext fun _ _ e=>Heap.get?_push_of_some _ e)
  exact tail_sound (revV_g (c:=cx B g O4.now) (t1:=s1.toks+1) (st4.vr r1) ⟨_,Heap.get?_push_size _ rfl,rfl,rfl⟩ he) Q E fun μ5 s5 val st5 S5 r5=>h μ5 s5 val ((st1.trans st4).trans st5) S5 r5
end
theorem lk_cons_self (i:Nat) (v:V) (l:List (Nat × V)):lk ((i,v)::l) i=some v:=by
  unfold lk; rw [Nat.beq_refl]
theorem lk_cons {i j:Nat} {v u:V} {l:List (Nat × V)} (h:lk ((i,v)::l) j=some u):(i=j∧v=u)∨(i≠j∧lk l j=some u):=by
  unfold lk at h
  cases e:Nat.beq i j with
  | true=>rw [e] at h; cases h; exact .inl ⟨Nat.eq_of_beq_eq_true e,rfl⟩
  | false=>rw [e] at h; exact .inr ⟨Nat.ne_of_beq_eq_false e,h⟩
section
variable {w:World} {h₀:Heap} {Z:Scr}
theorem frozen_of {h h':Heap} {a:Addr} (hs:Heap.SameBut a h h') (hd:∀ o,h.get? a=some o→(∃ es n,o.data=.dict es n)∨(∃ c,o.data=.cell c)∨(∃ vs,o.data=.fields vs)):Frozen h h':=by
  intro b o e q
  by_cases hb:b=a
  · subst hb
    rcases q with ⟨_,vs',n',q⟩ | q
    all_goals rcases hd o e with ⟨es,n,h⟩ | ⟨c,h⟩ | ⟨vs,h⟩ <;> rw [h] at q <;> cases q
  · exact (hs.2 b hb).trans e
theorem EnvR.apartL {N:Heap} {μ e env} {h:Heap} (R:EnvR Z N μ e env h) {x c} (hc:(x,c)∈env.cells):c≠env.locals:=by
  rintro rfl
  obtain ⟨m,⟨o,es,ep,ho,hd,_⟩,_⟩:=R.ns
  obtain ⟨⟨ov,o',ho',hd'⟩,_⟩:=R.cellsOk x _ hc
  obtain rfl:=Option.some.inj (ho.symm.trans ho')
  rw [hd] at hd'; cases hd'
theorem vr_frozen {μ:List Addr} {h h':Heap} (hf:Frozen h h') {v val} (r:VR Z μ h v val):VR Z μ h' v val:=r.mono (fun _ _ e=>e) hf
theorem Ok.setLoc {K e env} {μ:List Addr} {σ:St} {s:Shared} {h':Heap} {tk:Nat} {x:Str} {i:Nat} {v:V} {val:Value} {m:Str→Option Value} (B:Base w h₀ Z) (O:Ok w h₀ Z K e env μ σ s) (hi:nm i=some x) (r:VR Z μ s.heap v val)
    (hm:s.heap.Ns env.locals m) (hn:h'.Ns env.locals (fun y=>if y=x then some val else m y)) (hs:Heap.SameBut env.locals s.heap h') :
    Stp h₀ (Xof K env) μ s μ { s with heap:=h',toks:=tk }∧Ok w h₀ Z K (e.set v (.loc i)) env μ σ { s with heap:=h',toks:=tk }:=by
  have R:=O.er
  refine hid fun GG kk=>?_
  obtain ⟨oL,es,ep,hoL,hdL,_⟩:=id hm
  have hf:Frozen s.heap h':=frozen_of hs fun o e=>by obtain rfl:=Option.some.inj (hoL.symm.trans e); exact .inl ⟨_,_,hdL⟩
  have hk:∀ b o,b≠env.locals→s.heap.get? b=some o→h'.get? b=some o:=fun b o hb e=>(hs.2 b hb).trans e
  have hμ:∀ a∈μ,a≠env.locals:=fun a ha q=>R.Lμ (q ▸ ha)
  refine exE (id hn) fun oL' zz=>exE zz fun es' zz=>exA zz fun ep' hoL' _=>?_
  refine kk ?_
  clear kk GG
  have st:Stp h₀ (Xof K env) μ s μ { s with heap:=h',toks:=tk }:=Stp.write R.Llow hs hoL' B.b378 B.b376 hf (fun o vs e q=>by
    obtain rfl:=Option.some.inj (hoL.symm.trans e); rw [hdL] at q; cases q) (.inr (by simp [Xof])) tk
  have S':Sim Z h₀ μ σ h':=O.now.sim.stp (s':={ s with heap:=h',toks:=tk }) st rfl fun a ha o e=>hk a o (hμ a ha) e
  refine ⟨st,O.kr,⟨R.kind,R.glob,R.bl,R.Lμ,R.Llow,⟨_,hn,fun j u hu=>?_⟩,fun j u hu=>?_,R.has,fun y c hc=>?_,R.apart,R.code⟩,O.now.stp st S'⟩
  · rcases lk_cons hu with ⟨rfl,rfl⟩ | ⟨hne,hu⟩
    · exact ⟨x,val,hi,by simp,vr_frozen hf r⟩
    · refine exA (R.ns) fun m0 hm0 hr0=>?_
      refine hid fun GG kk=>?_
      refine exE (hr0 j u hu) fun y zz=>exE zz fun val' zz=>anE zz fun h1 zz=>anE zz fun h2 h3=>?_
      refine kk ?_
      clear kk GG
      have hyx:y≠x:=fun q=>hne (nm_inj (q ▸ hi) (q ▸ h1))
      have e0:m y=m0 y:=congrFun (hm.eq_nsMap.trans hm0.eq_nsMap.symm) y
      exact ⟨y,val',h1,by simp only [hyx,if_false]; exact e0.trans h2,vr_frozen hf h3⟩
  · obtain ⟨y,c,val',h1,h2,⟨o,h3,h4⟩,h5⟩:=R.cells j u hu
    exact ⟨y,c,val',h1,h2,⟨o,hk c o (R.apartL (mem_of_lookup h2)) h3,h4⟩,vr_frozen hf h5⟩
  · obtain ⟨⟨ov,o,ho,hd⟩,h2,h3⟩:=R.cellsOk y c hc
    exact ⟨⟨ov,o,hk c o (R.apartL hc) ho,hd⟩,h2,h3⟩
theorem Ok.setCel {K e env} {μ:List Addr} {σ:St} {s:Shared} {h':Heap} {tk:Nat} {x:Str} {i:Nat} {v:V} {val:Value} {c:Addr} {v₀:Option Value} (B:Base w h₀ Z) (O:Ok w h₀ Z K e env μ σ s) (hi:nm i=some x) (r:VR Z μ s.heap v val)
    (hKc:K x=some .cell) (hc:env.cells.lookup x=some c) (hv:s.heap.IsCell c v₀) (hn:h'.IsCell c (some val)) (hs:Heap.SameBut c s.heap h') :
    Stp h₀ (Xof K env) μ s μ { s with heap:=h',toks:=tk }∧Ok w h₀ Z K (e.set v (.cel i)) env μ σ { s with heap:=h',toks:=tk }:=by
  have R:=O.er
  have hmem:=mem_of_lookup hc
  refine hid fun GG kk=>?_
  obtain ⟨oL,hoL,hdL⟩:=hv
  have hf:Frozen s.heap h':=frozen_of hs fun o e=>by obtain rfl:=Option.some.inj (hoL.symm.trans e); exact .inr (.inl ⟨_,hdL⟩)
  have hk:∀ b o,b≠c→s.heap.get? b=some o→h'.get? b=some o:=fun b o hb e=>(hs.2 b hb).trans e
  obtain ⟨_,hcμ,hclow⟩:=R.cellsOk x c hmem
  have hμ:∀ a∈μ,a≠c:=fun a ha q=>hcμ (q ▸ ha)
  refine exA (id hn) fun oL' hoL' hdL'=>?_
  refine kk ?_
  clear kk GG
  have st:Stp h₀ (Xof K env) μ s μ { s with heap:=h',toks:=tk }:=Stp.write hclow hs hoL' B.b378 B.b376 hf (fun o vs e q=>by
    obtain rfl:=Option.some.inj (hoL.symm.trans e); rw [hdL] at q; cases q) (.inr (by unfold Xof; exact List.mem_cons_of_mem _ (List.mem_map.mpr ⟨(x,c),List.mem_filter.mpr ⟨hmem,by unfold ownC; rw [hKc]⟩,rfl⟩))) tk
  have S':Sim Z h₀ μ σ h':=O.now.sim.stp (s':={ s with heap:=h',toks:=tk }) st rfl fun a ha o e=>hk a o (hμ a ha) e
  refine exA (R.ns) fun m0 hm0 hr0=>?_
  have hcL:env.locals≠c:=fun q=>R.apartL hmem q.symm
  refine ⟨st,O.kr,⟨R.kind,R.glob,R.bl,R.Lμ,R.Llow,⟨m0,hm0.sameBut hs hcL,fun j u hu=>?_⟩,fun j u hu=>?_,R.has,fun y c' hc'=>?_,R.apart,R.code⟩,O.now.stp st S'⟩
  · refine exE (hr0 j u hu) fun y zz=>exE zz fun val' zz=>anE zz fun h1 zz=>anE zz fun h2 h3=>?_
    exact ⟨y,val',h1,h2,vr_frozen hf h3⟩
  · rcases lk_cons hu with ⟨rfl,rfl⟩ | ⟨hne,hu⟩
    · exact ⟨x,c,val,hi,hc,hn,vr_frozen hf r⟩
    · obtain ⟨y,c',val',h1,h2,⟨o,h3,h4⟩,h5⟩:=R.cells j u hu
      have hyx:c'≠c:=fun q=>hne (by
        subst q
        obtain rfl:=name_of_addr R.apart (mem_of_lookup h2) hmem
        exact nm_inj hi h1)
      exact ⟨y,c',val',h1,h2,⟨o,hk c' o hyx h3,h4⟩,vr_frozen hf h5⟩
  · obtain ⟨⟨ov,o,ho,hd⟩,h2,h3⟩:=R.cellsOk y c' hc'
    by_cases q:c'=c
    · subst q; exact ⟨⟨_,hn⟩,h2,h3⟩
    · exact ⟨⟨ov,o,hk c' o q ho,hd⟩,h2,h3⟩
theorem storeName_free {M:Model} {A:Around} {E:Value→Shared→Prop} {s:Shared} {env:Env} {name:Str} {c:Addr} {v₀:Option Value} {v:Value} {Q:Unit→Shared→Prop} (hk:env.scope.kind=.function) (hl:env.kindOf name=some .free)
    (hc:env.cells.lookup name=some c) (hv:s.heap.IsCell c v₀)
    (h:∀ h',h'.IsCell c (some v)→Heap.SameBut c s.heap h'→Q () { s with heap:=h' }):wpAny M A (storeName env name v) Q E s:=by
  unfold storeName
  simp only [hl,hk]
  exact wpAny_bind (wpAny_cellOf hc (wpAny_cellSet hv h))
theorem store_sound {A:Around} {K e env} {μ:List Addr} {σ:St} {s:Shared} {x:Str} {p:Pl} {v:V} {val:Value} (B:Base w h₀ Z) (O:Ok w h₀ Z K e env μ σ s) (hp:cPt K x=some p) (r:VR Z μ s.heap v val) {Q:Unit→Shared→Prop} {E:Value→Shared→Prop}
    (h:∀ s',Stp h₀ (Xof K env) μ s μ s'→Ok w h₀ Z K (e.set v p) env μ σ s'→Q () s'):wpAny (model P w) A (storeName env x val) Q E s:=by
  have cel:∀ {i:Nat},num x=some i→p=.cel i→K x=some .cell→(env.kindOf x=some .cell∨env.kindOf x=some .free)→wpAny (model P w) A (storeName env x val) Q E s:=by
    intro i hi hp hKc q
    subst hp
    obtain ⟨c,hc⟩:=O.er.has x q
    obtain ⟨⟨ov,hv⟩,_⟩:=O.er.cellsOk x c (mem_of_lookup hc)
    rcases q with q | q
    · exact wpAny_storeName_cell O.er.kind q hc hv fun h' hn hs=>let ⟨a,b⟩:=O.setCel (tk:=s.toks) B (num_nm hi) r hKc hc hv hn hs; h _ a b
    · exact storeName_free O.er.kind q hc hv fun h' hn hs=>let ⟨a,b⟩:=O.setCel (tk:=s.toks) B (num_nm hi) r hKc hc hv hn hs; h _ a b
  refine obind hp fun k hk hp=>obind hp fun i h1 hp=>?_
  induction k with
  | «local» =>
    cases hp
    refine exA (O.er.ns) fun m hm _=>?_
    exact wpAny_storeName_local (O.kr.loc _ hk) hm (fun h' hn hs=>let ⟨a,b⟩:=O.setLoc (tk:=s.toks+1) B (num_nm h1) r hm hn hs; h _ a b) (by rw [O.er.kind]; rfl)
  | cell=>exact cel h1 (Option.some.inj hp).symm hk (O.kr.cel _ (.inl hk))
  | _=>exact nS hp
end
theorem cells_spec:∀ (names:List (Str × NameKind)) (h:Heap) (acc:List (Str × Addr)),(∀ x c,(x,c)∈acc→c < h.objs.size)→(acc.Pairwise fun x y=>x.2≠y.2) →
    (∀ x c,(x,c)∈cellsFrom h.objs.size names acc→(x,c)∈acc∨(h.objs.size≤c∧(pushCells h names).IsCell c none)) ∧
    ((cellsFrom h.objs.size names acc).Pairwise fun x y=>x.2≠y.2) ∧
    (∀ x,(x,NameKind.cell)∈names→∃ c,(cellsFrom h.objs.size names acc).lookup x=some c) ∧
    (∀ x,(x,NameKind.cell) ∉ names→(cellsFrom h.objs.size names acc).lookup x=acc.lookup x)
  | [],h,acc,_,hp=>⟨fun x c hm=>.inl hm,hp,fun x hm=>(nomatch hm),fun _ _=>rfl⟩
  | (name,kind)::r,h,acc,hlt,hp=>by
    unfold cellsFrom pushCells
    by_cases hk:(kind == .cell)=true
    · rw [if_pos hk,if_pos hk]
      have hk':kind=.cell:=by revert hk; cases kind <;> simp <;> decide
      subst hk'
      have ih:=cells_spec r (h.push { cls:=.type "cell",data:=.cell none }) ((name,h.objs.size)::acc) (fun x c hm=>by
        rw [Heap.size_push]
        rcases List.mem_cons.mp hm with e | hm
        · cases e; exact Nat.lt_succ_self _
        · exact Nat.lt_succ_of_lt (hlt x c hm)) (List.pairwise_cons.mpr ⟨fun y hy e=>by
          have:=hlt y.1 y.2 hy
          have e:h.objs.size=y.2:=e
          rw [← e] at this; exact Nat.lt_irrefl _ this,hp⟩)
      rw [Heap.size_push] at ih
      refine hid fun GG kk=>?_
      refine anE ih fun h1 zz=>anE zz fun h2 zz=>anE zz fun h3 h4=>?_
      refine kk ?_
      clear kk GG
      refine ⟨fun x c hm=>?_,h2,fun x hm=>?_,fun x hm=>?_⟩
      · rcases h1 x c hm with q | ⟨q1,q2⟩
        · rcases List.mem_cons.mp q with e | q
          · cases e
            exact .inr ⟨Nat.le_refl _,_,pushCells_keeps r _ _ _ (Heap.get?_push_size _ rfl),rfl⟩
          · exact .inl q
        · exact .inr ⟨Nat.le_of_succ_le q1,q2⟩
      · rcases List.mem_cons.mp hm with e | hm
        · cases e
          by_cases hr:(name,NameKind.cell)∈r
          · exact h3 name hr
          · exact ⟨h.objs.size,by rw [h4 name hr,List.lookup_cons]; simp⟩
        · exact h3 x hm
      · have hr:(x,NameKind.cell) ∉ r:=fun q=>hm (List.mem_cons_of_mem _ q)
        have hne:(x == name)=false:=by
          cases e:x == name with
          | false=>rfl
          | true=>exact absurd (by rw [beq_iff_eq.mp e]; exact List.mem_cons_self) hm
        rw [h4 x hr,List.lookup_cons,hne]
    · rw [if_neg hk,if_neg hk]
      refine hid fun GG kk=>?_
      refine anE (cells_spec r h acc hlt hp) fun h1 zz=>anE zz fun h2 zz=>anE zz fun h3 h4=>?_
      refine kk ?_
      clear kk GG
      refine ⟨h1,h2,fun x hm=>?_,fun x hm=>h4 x fun q=>hm (List.mem_cons_of_mem _ q)⟩
      rcases List.mem_cons.mp hm with e | hm
      · cases e; exact absurd rfl hk
      · exact h3 x hm
theorem newEnv_scope {scope:Scope} {L globals cells qual func code around blt}:(newEnv scope L globals cells qual func code around blt).scope=scope:=by cases around <;> rfl
theorem newEnv_locals {scope:Scope} {L globals cells qual func code around blt}:(newEnv scope L globals cells qual func code around blt).locals=L:=by cases around <;> rfl
theorem newEnv_globals {scope:Scope} {L globals cells qual func code around blt}:(newEnv scope L globals cells qual func code around blt).globals=globals:=by cases around <;> rfl
theorem newEnv_cells {scope:Scope} {L globals cells qual func code around blt}:(newEnv scope L globals cells qual func code around blt).cells=cells:=by cases around <;> rfl
section
variable {w:World} {h₀:Heap} {Z:Scr}
inductive BindR (Z:Scr) (K:Str→Option NameKind) (μ:List Addr) (h:Heap):List (Pl × V)→List (Str × Value)→Prop
  | nil:BindR Z K μ h [] []
  | cons {p v x val l l'}:cPt K x=some p→VR Z μ h v val→BindR Z K μ h l l'→BindR Z K μ h ((p,v)::l) ((x,val)::l')
theorem BindR.mono {K} {μ μ':List Addr} {h h':Heap} (hp:Pre μ μ') (hf:Frozen h h') {l l'} (r:BindR Z K μ h l l'):BindR Z K μ' h' l l':=by
  induction r with
  | nil=>exact .nil
  | cons a b _ ih=>exact .cons a (b.mono hp hf) ih
noncomputable def uniqN (s:Scope):Bool:=s.names.all fun y=>(s.names.lookup y.1 == some y.2)
theorem uniq_lookup {s:Scope} (h:uniqN s=true) {x:Str} {k:NameKind} (hm:(x,k)∈s.names):s.names.lookup x=some k:=by
  have:=List.all_eq_true.mp h _ hm
  revert this
  cases s.names.lookup x with
  | none=>intro h; cases h
  | some k'=>cases k <;> cases k' <;> simp <;> decide
theorem binds_sound {A:Around} {K env} (B:Base w h₀ Z) (f:Str × Value→PUnit→Sem (ForInStep PUnit)) (hf:∀ n v u,f (n,v) u=(do storeName env n v; pure (.yield ⟨⟩))) {μ:List Addr} {σ:St} {l:List (Pl × V)}:∀ {binds:List (Str × Value)} {e:EE} {s:Shared},Ok w h₀ Z K e env μ σ s→BindR Z K μ s.heap l binds →
    ∀ {Q:PUnit→Shared→Prop} {E:Value→Shared→Prop},(∀ s',Stp h₀ (Xof K env) μ s μ s'→Ok w h₀ Z K (EE.setPs e l) env μ σ s'→Q ⟨⟩ s')→wpAny (model P w) A (forIn binds ⟨⟩ f) Q E s:=by
  induction l with
  | nil =>
    intro binds e s O r Q E h
    cases r
    exact List.forIn_nil (f:=f) ▸ wpAny_pure (h s (.refl _ _ _ _) O)
  | cons p l ih =>
    intro binds e s O r Q E h
    cases r with
    | cons hp r hr =>
      rw [List.forIn_cons,hf]
      exact wpAny_bind (wpAny_bind (store_sound B O hp r fun s1 st1 O1=>wpAny_pure (ih O1 (hr.mono (fun _ _ e=>e) st1.fro) fun s2 st2 O2=>h s2 (st1.trans st2) O2)))
theorem Stp.drop {Xs Ys μ μ' μ'':List Addr} {s s' s'':Shared} (x:Stp h₀ Xs μ s μ' s') (y:Stp h₀ Ys μ' s' μ'' s'') (h:∀ a∈Ys,a∈Xs∨s.heap.get? a=none):Stp h₀ Xs μ s μ'' s'':=by
  have hy:=h
  refine ⟨?_,fun b o e h1 h2 h3=>y.keep b o (x.keep b o e h1 h2 h3) (x.mem e h1 h2) (fun q=>?_) h3,x.fro.trans y.fro,fun b o hx e=>let ⟨o1,e1⟩:=x.live b o hx e; y.live b o1 (fun q=>(h b q).elim hx (fun z=>by rw [z] at e; cases e)) e1,y.os.trans x.os,y.gens.trans x.gens,fun i=>y.inv (x.inv i)⟩
  · obtain ⟨n1,rfl,h1⟩:=x.pre
    obtain ⟨n2,rfl,h2⟩:=y.pre
    refine ⟨n1++n2,by simp,fun a ha=>?_⟩
    rcases List.mem_append.mp ha with h | h
    · exact h1 a h
    · rcases h2 a h with q | q
      · cases e:s.heap.get? a with
        | none=>exact .inl rfl
        | some o =>
          by_cases hx:a∈Xs
          · exact .inr hx
          · obtain ⟨o1,e1⟩:=x.live a o hx e; rw [q] at e1; cases e1
      · rcases hy a q with z | z
        · exact .inr z
        · exact .inl z
  · rcases h b q with q | q
    · exact h2 q
    · rw [q] at e; cases e
theorem newEnv_sound {A:Around} {fnA:Nat} {scope:Scope} {closure:List (Str × Addr)} {binds:List (Str × Value)} {l:List (Pl × V)} {qual:Str} {func:Option Addr} {code:Value} {around:Option Env} {blt:Addr} {cel:List (Nat × V)} {μ:List Addr} {σ:St} {s:Shared}
    (B:Base w h₀ Z) (N:Now h₀ Z μ σ s) (hk:scope.kind=.function) (hu:uniqN scope=true)
    (hcl:∀ x c,(x,c)∈closure→(∃ ov,s.heap.IsCell c ov)∧c ∉ μ∧h₀.get? c=none∧scope.names.lookup x=some .free) (hap:closure.Pairwise fun x y=>x.2≠y.2)
    (hfree:∀ x,scope.names.lookup x=some .free→∃ c,closure.lookup x=some c)
    (hcel:∀ i v,lk cel i=some v→∃ x c val,nm i=some x∧scope.names.lookup x=some .free∧closure.lookup x=some c∧s.heap.IsCell c (some val)∧VR Z μ s.heap v val)
    (hb:(newEnv scope s.heap.objs.size mainNs (cellsFrom (s.heap.objs.size+1) scope.names closure) qual func code around blt).builtins=builtinsNs) (hB:BindR Z (kinds scope) μ s.heap l binds)
    (hfn:fnA=379→around=none∧code=.ref 378∧qual="_law_due.<locals>.")
    {Q:Env→Shared→Prop} {E:Value→Shared→Prop}
    (h:∀ env s',env=newEnv scope s.heap.objs.size mainNs (cellsFrom (s.heap.objs.size+1) scope.names closure) qual func code around blt→Stp h₀ [] μ s μ s'→(∀ a∈Xof (kinds scope) env,s.heap.get? a=none) →
      Ok w h₀ Z (kinds scope) (EE.setPs ⟨[],cel,fnA⟩ l) env μ σ s'→Q env s'):wpAny (model P w) A (newFunctionEnv scope mainNs closure binds qual func code around blt) Q E s:=by
  simp only [newFunctionEnv]
  refine wpAny_bind (wpAny_alloc ?_)
  refine wpAny_bind (wpAny_layCells _ (fun name kind cells=>by cases hkc:kind == NameKind.cell <;> simp [hkc]) _ _ _ _ ?_)
  refine genE ({ cls:=.type (if around.isSome=true then "dict" else "frame"),data:=.dict #[] }:Obj) fun fr hfr=>?_
  have hfd:fr.data=.dict #[]:=by rw [← hfr]
  have hsz:(s.heap.push fr).objs.size=s.heap.objs.size+1:=Heap.size_push ..
  have k0:∀ b o,s.heap.get? b=some o→(s.heap.push fr).get? b=some o:=fun b o e=>Heap.get?_push_of_some _ e
  have spec:=cells_spec scope.names (s.heap.push fr) closure (fun x c hm=>by
    obtain ⟨⟨ov,hv⟩,_⟩:=hcl x c hm
    rw [hsz]; exact Nat.lt_succ_of_lt hv.lt) hap
  rw [hsz] at spec
  refine hid fun GG kk=>?_
  refine anE spec fun c1 zz=>anE zz fun c2 zz=>anE zz fun c3 c4=>?_
  refine kk ?_
  clear kk GG
  rw [show ({ s with heap:=s.heap.push fr }:Shared).heap.objs.size=s.heap.objs.size+1 from hsz]
  show wpAny _ _ _ _ _ { s with heap:=pushCells (s.heap.push fr) scope.names }
  revert c1
  refine genE (pushCells (s.heap.push fr) scope.names) fun H hH c1=>?_
  have k1:∀ b o,(s.heap.push fr).get? b=some o→H.get? b=some o:=fun b o e=>hH ▸ pushCells_keeps _ _ b o e
  have kk:∀ b o,s.heap.get? b=some o→H.get? b=some o:=fun b o e=>k1 b o (k0 b o e)
  have fresh:∀ a,s.heap.objs.size≤a→s.heap.get? a=none:=fun a ha=>by
    cases e:s.heap.get? a with
    | none=>rfl
    | some o=>exact absurd (Heap.lt_size e) (Nat.not_lt.mpr ha)
  have live:∀ a∈μ,s.heap.get? a≠none:=fun a ha q=>by obtain ⟨o,e⟩:=N.sim.fresh a ha; rw [q] at e; cases e
  let ENV:=newEnv scope s.heap.objs.size mainNs (cellsFrom (s.heap.objs.size+1) scope.names closure) qual func code around blt
  have eS:ENV.scope=scope:=newEnv_scope
  have eL:ENV.locals=s.heap.objs.size:=newEnv_locals
  have eC:ENV.cells=cellsFrom (s.heap.objs.size+1) scope.names closure:=newEnv_cells
  have eK:∀ x,ENV.kindOf x=scope.names.lookup x:=fun x=>by unfold Env.kindOf; rw [eS]
  have st:Stp h₀ [] μ s μ { s with heap:=H }:=Stp.ext kk rfl rfl
  have nocell:∀ x,scope.names.lookup x=some .free→(x,NameKind.cell) ∉ scope.names:=fun x hx hm=>by
    have:=uniq_lookup hu hm
    rw [hx] at this
    exact absurd (Option.some.inj this) (by decide)
  have R:EnvR Z h₀ μ ⟨[],cel,fnA⟩ ENV H:=by
    refine ⟨by rw [eS]; exact hk,newEnv_globals,hb,by rw [eL]; exact fun q=>live _ q (fresh _ (Nat.le_refl _)),by rw [eL]; exact N.inv.fresh (fresh _ (Nat.le_refl _)),⟨fun _=>none,?_,fun i v hv=>by simp [lk] at hv⟩,fun i v hv=>?_,fun x hx=>?_,fun x c hc=>?_,by rw [eC]; exact c2,fun q=>by obtain ⟨rfl,rfl,rfl⟩:=hfn q; exact ⟨rfl,rfl⟩⟩
    · rw [eL]
      refine exE ((by rw [← hfr]; exact Heap.Ns.new s.heap _:(s.heap.push fr).Ns s.heap.objs.size fun _=>none)) fun o zz=>exE zz fun es zz=>exA zz fun ep ho r=>?_
      exact ⟨o,es,ep,k1 _ _ ho,r⟩
    · obtain ⟨x,c,val,h1,h2,h3,⟨o,h4,h5⟩,h6⟩:=hcel i v hv
      exact ⟨x,c,val,h1,by rw [eC,c4 x (nocell x h2)]; exact h3,⟨o,kk _ _ h4,h5⟩,h6.mono (fun _ _ e=>e) (fun b o e _=>kk b o e)⟩
    · rw [eK] at hx
      rw [eC]
      rcases hx with hx | hx
      · exact c3 x (mem_of_lookup hx)
      · refine exE (hfree x hx) fun c hc=>?_
        exact ⟨c,by rw [c4 x (nocell x hx)]; exact hc⟩
    · rw [eC] at hc
      rcases c1 x c hc with q | ⟨q1,q2⟩
      · obtain ⟨⟨ov,o,ho,hd⟩,h2,h3,_⟩:=hcl x c q
        exact ⟨⟨ov,o,kk _ _ ho,hd⟩,h2,h3⟩
      · have:=fresh c (Nat.le_of_succ_le q1)
        exact ⟨⟨_,q2⟩,fun q=>live _ q this,N.inv.fresh this⟩
  have O:Ok w h₀ Z (kinds scope) ⟨[],cel,fnA⟩ ENV μ σ { s with heap:=H } :=
    ⟨⟨fun x hx=>(eK x).trans hx,fun x hx=>by rw [eK]; exact hx,fun x hx=>(eK x).trans hx⟩,R,N.stp st (N.sim.ext kk)⟩
  have hX:∀ a∈Xof (kinds scope) ENV,s.heap.get? a=none:=by
    intro a ha
    unfold Xof at ha
    rcases List.mem_cons.mp ha with e | ha
    · rw [e,eL]; exact fresh _ (Nat.le_refl _)
    · obtain ⟨⟨x,c⟩,hm,rfl⟩:=List.mem_map.mp ha
      refine anE (List.mem_filter.mp hm) fun hm hown=>?_
      rw [eC] at hm
      rcases c1 x c hm with q | ⟨q1,q2⟩
      · refine anE (hcl x c q) fun _ zz=>anE zz fun _ zz=>anE zz fun _ h4=>?_
        unfold ownC kinds at hown
        rw [h4] at hown
        cases hown
      · exact fresh c (Nat.le_of_succ_le q1)
  have fin:wpAny (model P w) A ((forIn binds PUnit.unit fun (x:Str × Value) (_:PUnit)=>(do storeName ENV x.1 x.2; pure (ForInStep.yield PUnit.unit):Sem (ForInStep PUnit))) >>= fun _=>pure ENV) Q E { s with heap:=H }:=by
    refine wpAny_bind (binds_sound B _ (fun _ _ _=>rfl) O (hB.mono (fun _ _ e=>e) st.fro) fun s' st' O'=>wpAny_pure ?_)
    exact h ENV s' rfl (st.drop st' fun a ha=>.inr (hX a ha)) hX O'
  cases around <;> exact fin
end
inductive SrcR (w:World) (μ:List Addr) (h:Heap):Src→Addr→List Addr→Prop
  | lst {k i:Nat} {I a:Addr}:h.IsListIter I a i→μ[k]?=some a→SrcR w μ h (.lst k i) I [I]
  | str {I:Addr} {x:Str} {t:Tok} {i:Nat} {cls:String}:(cls="str_ascii_iterator"∨cls="str_iterator")→h.IsStrIter I cls x t i→SrcR w μ h (.str (x.cps.toList.drop i)) I [I]
  | rng {I:Addr} {x c:Int} {n:Nat}:IsRangeIter h I x (n:Int) c→SrcR w μ h (.rng (upFrom n x c)) I [I]
  | enumL {I J a:Addr} {k i:Nat} {old:Value}:IsEnum h I J (i:Int) old→h.IsListIter J a i→I≠J→μ[k]?=some a→SrcR w μ h (.enumL i k) I [I,J]
  | enumS {I J:Addr} {x:Str} {t:Tok} {i:Nat} {cls:String} {old:Value}:(cls="str_ascii_iterator"∨cls="str_iterator")→IsEnum h I J (i:Int) old→h.IsStrIter J cls x t i→I≠J→i≤x.cps.size→SrcR w μ h (.enumS i (x.cps.toList.drop i)) I [I,J]
  | nil {I d:Addr} {ep:Nat} {ok ov:Value}:IsItemIter h I d 0 0 ep ok ov→h.DictAt (kn P w) d [] ep→SrcR w μ h .nil I [I]
theorem SrcR.keepF {w:World} {μ μ':List Addr} {h h':Heap} {src:Src} {I:Addr} {fp:List Addr} (r:SrcR w μ h src I fp) (hp:Pre μ μ') (hk:∀ a∈fp,∀ o,h.get? a=some o→h'.get? a=some o) (hn:isNil src=false):SrcR w μ' h' src I fp:=by
  induction r with
  | lst a b=>exact .lst (let ⟨o,ho,r⟩:=a; ⟨o,hk _ (by simp) _ ho,r⟩) (hp _ _ b)
  | str c a=>exact .str c (let ⟨o,ho,r⟩:=a; ⟨o,hk _ (by simp) _ ho,r⟩)
  | rng a=>exact .rng (hk _ (by simp) _ a)
  | enumL a b c d=>exact .enumL (hk _ (by simp) _ a) (let ⟨o,ho,r⟩:=b; ⟨o,hk _ (by simp) _ ho,r⟩) c (hp _ _ d)
  | enumS c a b d q=>exact .enumS c (hk _ (.head _) _ a) (let ⟨o,ho,r⟩:=b; ⟨o,hk _ (.tail _ (.head _)) _ ho,r⟩) d q
  | nil=>cases hn
theorem SrcR.keep {w:World} {μ μ':List Addr} {h h':Heap} {src:Src} {I:Addr} {fp:List Addr} (r:SrcR w μ h src I fp) (hp:Pre μ μ') (hk:∀ a o,h.get? a=some o→h'.get? a=some o):SrcR w μ' h' src I fp:=by
  cases hn:isNil src with
  | false=>exact r.keepF hp (fun a _ o e=>hk a o e) hn
  | true =>
    induction r with
    | nil a b=>exact .nil (hk _ _ a) (let ⟨o,es,ho,r⟩:=b; ⟨o,es,hk _ _ ho,r⟩)
    | _=>cases hn
theorem SrcR.recs {w:World} {μ:List Addr} {h:Heap} {src:Src} {I:Addr} {fp:List Addr} (r:SrcR w μ h src I fp):I∈fp∧∀ a∈fp,∃ o vs,h.get? a=some o∧o.data=.fields vs∧o.cls≠.type "code":=by
  have two:∀ {I J:Addr},(∃ o vs,h.get? I=some o∧o.data=.fields vs∧o.cls≠.type "code")→(∃ o vs,h.get? J=some o∧o.data=.fields vs∧o.cls≠.type "code")→∀ a∈[I,J],∃ o vs,h.get? a=some o∧o.data=.fields vs∧o.cls≠.type "code":=by
    intro I J h1 h2 a ha
    simp only [List.mem_cons,List.not_mem_nil,or_false] at ha
    rcases ha with rfl | rfl
    · exact h1
    · exact h2
  have one:∀ {I:Addr},(∃ o vs,h.get? I=some o∧o.data=.fields vs∧o.cls≠.type "code")→∀ a∈[I],∃ o vs,h.get? a=some o∧o.data=.fields vs∧o.cls≠.type "code":=by
    intro I h1 a ha
    simp only [List.mem_cons,List.not_mem_nil,or_false] at ha
    subst ha; exact h1
  have ne:∀ {x y:String},x≠y→Value.type x≠Value.type y:=fun h e=>h (Value.type.inj e)
  have lit:∀ {I a:Addr} {i:Nat},h.IsListIter I a i→∃ o vs,h.get? I=some o∧o.data=.fields vs∧o.cls≠.type "code":=fun ⟨o,ho,hc,hd⟩=>⟨o,_,ho,hd,by rw [hc]; exact ne (by decide)⟩
  have sit:∀ {I:Addr} {cls:String} {x:Str} {t:Tok} {i:Nat},(cls="str_ascii_iterator"∨cls="str_iterator")→h.IsStrIter I cls x t i→∃ o vs,h.get? I=some o∧o.data=.fields vs∧o.cls≠.type "code":=fun hc ⟨o,ho,hcl,hd⟩=>⟨o,_,ho,hd,by rw [hcl]; rcases hc with rfl | rfl <;> exact ne (by decide)⟩
  induction r with
  | lst a b=>exact ⟨by simp,one (lit a)⟩
  | str c a=>exact ⟨by simp,one (sit c a)⟩
  | rng a=>exact ⟨by simp,one ⟨_,_,a,rfl,ne (by decide)⟩⟩
  | enumL a b c d=>exact ⟨by simp,two ⟨_,_,a,rfl,ne (by decide)⟩ (lit b)⟩
  | enumS c a b d q=>exact ⟨.head _,two ⟨_,_,a,rfl,ne (by decide)⟩ (sit c b)⟩
  | nil a b=>exact ⟨by simp,one ⟨_,_,a,rfl,ne (by decide)⟩⟩
section
variable {w:World} {h₀:Heap} {Z:Scr}
theorem Tab.keepsAt {N h h':Heap} (t:Tab N h) (hk:∀ b o,(b=378∨b=376∨(o.cls=.type "code"∧∃ vs,o.data=.fields vs))→h.get? b=some o→h'.get? b=some o):Tab N h':=by
  refine hid fun GG kk=>?_
  obtain ⟨ps,⟨o,vs,file,tf,flags,tg,inF,text,tt,op,a,r1,r2,r3,r4,r5,r6,b,r⟩,⟨⟨o1,vs1,a1,c1,q1⟩,b1⟩,h3⟩:=t
  refine kk ?_
  clear kk GG
  refine ⟨ps,⟨o,vs,file,tf,flags,tg,inF,text,tt,op,hk _ _ (.inl rfl) a,r1,r2,r3,r4,r5,r6,hk _ _ (.inr (.inl rfl)) b,r⟩,⟨⟨o1,vs1,hk _ _ (.inl rfl) a1,c1,q1⟩,hk _ _ (.inr (.inl rfl)) b1⟩,?_⟩
  rcases h3 with h3 | ⟨c',e,hl,o,vs,t,h4,h5,h6⟩
  · exact .inl h3
  · exact .inr ⟨c',e,hl,o,vs,t,hk _ _ (.inr (.inr ⟨h5,vs,h6.1⟩)) h4,h5,h6⟩
structure FpOk (h₀:Heap) (fp μ:List Addr):Prop where
  out:∀ a∈fp,a ∉ μ
  low:∀ a∈fp,h₀.get? a=none
theorem Stp.butR {fp μ:List Addr} {s:Shared} {h':Heap} (B:Base w h₀ Z) (hr:∀ a∈fp,∃ o vs,s.heap.get? a=some o∧o.data=.fields vs∧o.cls≠.type "code") (f:FpOk h₀ fp μ) (hk:∀ b o,b ∉ fp→s.heap.get? b=some o→h'.get? b=some o) (tk:Nat):Stp h₀ fp μ s μ { s with heap:=h',toks:=tk }:=by
  refine ⟨⟨[],by simp,by simp⟩,fun b o e _ h _=>hk b o h e,fun b o e q=>?_,fun b o h e=>⟨o,hk b o h e⟩,rfl,rfl,fun i=>⟨fun b o e n=>?_,?_⟩⟩
  · by_cases hb:b∈fp
    · refine exE (hr b hb) fun o' zz=>exA zz fun vs e' zz=>anE zz fun hd _=>?_
      obtain rfl:=Option.some.inj (e'.symm.trans e)
      rcases q with ⟨_,vs',n',q⟩ | q <;> rw [hd] at q <;> cases q
    · exact hk b o hb e
  · refine hk b o (fun hb=>?_) (i.keep b o e n)
    rw [f.low b hb] at e; cases e
  · have k0:∀ b,(∃ o,h₀.get? b=some o)→b ∉ fp:=fun b ⟨o,e⟩ hb=>by rw [f.low b hb] at e; cases e
    refine i.tab.keepsAt fun b o hb e=>hk b o (fun q=>?_) e
    rcases hb with rfl | rfl | hb
    · exact k0 _ B.b378 q
    · exact k0 _ B.b376 q
    · refine exE (hr b q) fun o' zz=>exE zz fun vs zz=>anE zz fun e' zz=>anE zz fun hd hc=>?_
      obtain rfl:=Option.some.inj (e'.symm.trans e)
      exact hc hb.1
theorem Stp.but {fp μ:List Addr} {s:Shared} {h':Heap} {src:Src} {I:Addr} (B:Base w h₀ Z) (r:SrcR w μ s.heap src I fp) (f:FpOk h₀ fp μ) (hk:∀ b o,b ∉ fp→s.heap.get? b=some o→h'.get? b=some o) (tk:Nat):Stp h₀ fp μ s μ { s with heap:=h',toks:=tk } :=
  Stp.butR B r.recs.2 f hk tk
theorem Sim.but {fp μ:List Addr} {σ:St} {s s':Shared} (S:Sim Z h₀ μ σ s.heap) (st:Stp h₀ fp μ s μ s') (f:FpOk h₀ fp μ) (hk:∀ b o,b ∉ fp→s.heap.get? b=some o→s'.heap.get? b=some o):Sim Z h₀ μ σ s'.heap :=
  S.stp st rfl fun a ha o e=>hk a o (fun q=>f.out a q ha) e
end
end Mine
end
section
open PySem PySem.W PyProof.Rows PySem.SeqAt
set_option maxRecDepth 100000
set_option genSizeOf false
set_option genInjectivity false
namespace Mine
theorem toList_at' {α:Type} {items:Array α} {k:Nat} {v:α} (h:items.toList[k]?=some v):items[k]?=some v:=Array.getElem?_toList (xs:=items) ▸ h
theorem drop_nil {x:Str} {i:Nat} (h:x.cps.toList.drop i=[]):x.cps[i]?=none:=Array.getElem?_eq_none_iff.mpr (Array.length_toList ▸ List.drop_eq_nil_iff.mp h)
theorem drop_cons {x:Str} {i c:Nat} {r:List Nat} (h:x.cps.toList.drop i=c::r):x.cps[i]?=some c∧r=x.cps.toList.drop (i+1):=by
  have h1:=congrArg List.head? h
  have h2:=congrArg List.tail h
  rw [List.head?_drop] at h1
  rw [List.tail_drop] at h2
  exact ⟨toList_at' h1,h2.symm⟩
section
variable {w:World} {h₀:Heap} {Z:Scr}
noncomputable def ownsT:List String:=["enumerate","zip","dict_itemiterator","dict_reverseitemiterator","odict_iterator","itertools.zip_longest","itertools.pairwise"]
inductive TgI (K:Str→Option NameKind):Expr→Tg→Prop
  | nm {x p pl}:cPt K x=some pl→TgI K (.Name x p) (.nm pl)
  | tup {es k p ps}:cTgs K es=some ps→TgI K (.Tuple es k p) (.tup ps)
theorem cTgV_inv {K} {v:View} {t'} (h:cTgV K v=some t'):TgI K v.ex t':=by
  induction v with
  | name x p=>exact omap h fun pl h=>.nm h
  | tup es k p=>exact omap h fun ps h=>.tup h
  | _=>exact nS h
theorem cTg_inv {K t t'} (h:cTg K t=some t'):TgI K t t':=view_ex t ▸ cTgV_inv h
theorem nameV_inv {v:View} {x} (h:nameV v=some x):∃ p,v.ex=.Name x p:=by
  induction v with
  | name y p=>exact ⟨p,Option.some.inj h ▸ rfl⟩
  | _=>exact nS h
theorem cTg1_inv {K e pl} (h:cTg1 K e=some pl):∃ x p,e=.Name x p∧cPt K x=some pl :=
  obind h fun x h1 h2=>let ⟨p,q⟩:=nameV_inv h1; ⟨x,p,(view_ex e).symm.trans q,h2⟩
theorem get_none {μ:List Addr} {h:Heap} {xs:List V} {items:Array Value} (r:VRs Z μ h xs items.toList) {i:Nat} (e:xs[i]?=none):items[i]?=none :=
  Array.getElem?_eq_none_iff.mpr ((r.length.trans Array.length_toList) ▸ List.getElem?_eq_none_iff.mp e)
theorem letOwned_plain {A:Around} {K t t'} {I:Addr} {val:Value} {s:Shared} {o:Obj} {n:String} (ht:cTg K t=some t') (ho:s.heap.get? I=some o) (hc:o.cls=.type n) (hn:ownsT.contains n=false) {Q:Unit→Shared→Prop} {E:Value→Shared→Prop} (hq:Q () s) :
    wpAny (model P w) A (letOwnedTupleGo t (.ref I) val) Q E s:=by
  cases cTg_inv ht with
  | nm=>exact wpAny_pure hq
  | tup =>
    unfold letOwnedTupleGo
    induction val with
    | ref a =>
      refine wpAny_bind (wpAny_load ho ?_)
      rw [hc]
      cases hd:o.data with
      | fields vs =>
        show wpAny _ A (if (ownsT.contains n && vs[0]? == some (rawInt a))=true then _ else _) Q E s
        rw [hn,Bool.false_and]
        exact wpAny_pure hq
      | _=>exact wpAny_pure hq
    | _=>exact wpAny_pure hq
structure NX (w:World) (h₀:Heap) (Z:Scr) (A:Around) (t:Expr) (μ:List Addr) (s:Shared) (σ':St) (I:Addr) (fp:List Addr) (r:Option (V × Src)) (Q:Option Value→Shared→Prop):Prop where
  end_:r=Option.none→∀ s',Stp h₀ fp μ s μ s'→Sim Z h₀ μ σ' s'.heap→Q none s'
  nxt:∀ v src',r=some (v,src')→isNil src'=false→∀ s' val,Stp h₀ fp μ s μ s'→Sim Z h₀ μ σ' s'.heap →
    (∀ (Q':Unit→Shared→Prop) (E':Value→Shared→Prop),(∀ s2,Stp h₀ fp μ s' μ s2→Sim Z h₀ μ σ' s2.heap→VR Z μ s2.heap v val→SrcR w μ s2.heap src' I fp→Q' () s2)→wpAny (model P w) A (letOwnedTupleGo t (.ref I) val) Q' E' s')→Q (some val) s'
section
variable {A:Around} {K:Str→Option NameKind} {t:Expr} {t':Tg} {μ:List Addr} {σ σ':St} {s:Shared} {src:Src} {I:Addr} {fp:List Addr} {r:Option (V × Src)} {Q:Option Value→Shared→Prop} (B:Base w h₀ Z) (N:Now h₀ Z μ σ s) (hs:SrcR w μ s.heap src I fp) (hf:FpOk h₀ fp μ) (X:NX w h₀ Z A t μ s σ' I fp r Q)
include B N hs hf X
theorem NX.step (ht:cTg K t=some t') {v:V} {src':Src} {val:Value} {h':Heap} {tk:Nat} (hr:r=some (v,src')) (hn:isNil src'=false) (hσ:σ'=σ) (hx:Heap.SameBut I s.heap h') (hI:I∈fp) (hv:(∀ μ h,VR Z μ h v val)∨VR Z μ s.heap v val) (hsr:SrcR w μ h' src' I fp)
    (ho:∃ o n,h'.get? I=some o∧o.cls=.type n∧ownsT.contains n=false):Q (some val) { s with heap:=h',toks:=tk }:=by
  have hk:∀ b o,b ∉ fp→s.heap.get? b=some o→h'.get? b=some o:=fun b o hb e=>hx.extBut b o (fun q=>hb (q ▸ hI)) e
  have st:=Stp.but (h':=h') B hs hf hk tk
  have S:=hσ ▸ N.sim.but st hf hk
  refine exE ho fun o ho=>exE ho fun n ho=>X.nxt v src' hr hn _ val st S fun Q' E' hq'=>letOwned_plain ht ho.1 ho.2.1 ho.2.2 ?_
  exact hq' _ (.refl _ _ _ _) S (hv.elim (fun h=>h _ _) fun h=>vr_frozen st.fro h) hsr
theorem NX.fin {I':Addr} (hI':I'∈fp) (hr:r=none) (hσ:σ'=σ) (h':Heap) (hx:Heap.ExtBut I' s.heap h'):Q none { s with heap:=h' }:=by
  have hk:∀ b o,b ∉ fp→s.heap.get? b=some o→h'.get? b=some o:=fun b o hb e=>hx b o (fun q=>hb (q ▸ hI')) e
  have st:=Stp.but (h':=h') B hs hf hk s.toks
  exact X.end_ hr _ st (hσ ▸ N.sim.but st hf hk)
theorem NX.enum (ht:cTg K t=some t') {J:Addr} {i:Nat} {v:V} {val:Value} {src':Src} {tk u:Nat} {h':Heap} (hr:r=some (.tup [.int i,v],src')) (hn:isNil src'=false) (hσ:σ'=σ) (hfp:fp=[I,J]) (hIJ:I≠J) (hN:∀ p,t'≠.nm p) (hE:IsEnumOut h' I J ((i:Int)+1) val s.heap.objs.size) (hk:∀ b o,b≠I→b≠J→s.heap.get? b=some o→h'.get? b=some o)
    (hT:h'.get? s.heap.objs.size=some { cls:=.type "tuple",data:=.seq #[.int i u,val] }) (hv:VR Z μ s.heap v val) (hJ:∃ o vs,h'.get? J=some o∧o.data=.fields vs∧o.cls≠.type "code") (hsr:∀ h2,IsEnum h2 I J ((i+1:Nat):Int) val→(∀ o,h'.get? J=some o→h2.get? J=some o)→SrcR w μ h2 src' I fp):Q (some (.ref s.heap.objs.size)) { s with heap:=h',toks:=tk }:=by
  subst hfp
  have not2:∀ {b},b ∉ [I,J]→b≠I∧b≠J:=fun hb=>⟨fun q=>hb (q ▸ .head _),fun q=>hb (q ▸ .tail _ (.head _))⟩
  have hk':∀ b o,b ∉ [I,J]→s.heap.get? b=some o→h'.get? b=some o:=fun b o hb e=>hk b o (not2 hb).1 (not2 hb).2 e
  have st:=Stp.but (h':=h') B hs hf hk' tk
  have S1:=N.sim.but st hf hk'
  refine X.nxt _ _ hr hn _ _ st (hσ ▸ S1) fun Q' E' hq'=>?_
  cases cTg_inv ht with
  | nm=>exact absurd rfl (hN _)
  | tup =>
  refine wpAny_letOwnedTupleGo_enum (s:={ s with heap:=h',toks:=tk }) hE fun h2' he2 hs2=>?_
  have k2:∀ b o,b ∉ [I,J]→h'.get? b=some o→h2'.get? b=some o:=fun b o hb e=>hs2.extBut b o (not2 hb).1 e
  have st2:Stp h₀ [I,J] μ { s with heap:=h',toks:=tk } μ { s with heap:=h2',toks:=tk }:=Stp.butR (s:={ s with heap:=h',toks:=tk }) B (fun b hb=>(List.mem_cons.mp hb).elim (fun q=>q ▸ ⟨_,_,hE,rfl,fun e=>absurd (Value.type.inj e) (by decide)⟩)
    fun q=>List.mem_singleton.mp q ▸ hJ) hf k2 tk
  exact hq' _ st2 (hσ ▸ Sim.but (s:={ s with heap:=h',toks:=tk }) S1 st2 hf k2) (vr_frozen st2.fro (.tup hT rfl rfl (.cons (.int _ _) (.cons (vr_frozen st.fro hv) .nil)))) (hsr _ he2 (fun o ho=>hs2.extBut J o hIJ.symm ho))
end
theorem next_sound {A:Around} {K t t'} {μ:List Addr} {σ σ':St} {s:Shared} {src:Src} {I:Addr} {fp:List Addr} {r:Option (V × Src)} (B:Base w h₀ Z) (hA:A.handled=none) (N:Now h₀ Z μ σ s) (hs:SrcR w μ s.heap src I fp) (hf:FpOk h₀ fp μ)
    (he:srcNext src σ=some (r,σ')) (ht:cTg K t=some t') (hok:tgOk t' src=true) {Q:Option Value→Shared→Prop} {E:Value→Shared→Prop}
    (hnone:r=none→∀ s',Stp h₀ fp μ s μ s'→Sim Z h₀ μ σ' s'.heap→Q none s')
    (hsome:∀ v src',r=some (v,src')→isNil src'=false→∀ s' val,Stp h₀ fp μ s μ s'→Sim Z h₀ μ σ' s'.heap →
      (∀ (Q':Unit→Shared→Prop) (E':Value→Shared→Prop),(∀ s2,Stp h₀ fp μ s' μ s2→Sim Z h₀ μ σ' s2.heap→VR Z μ s2.heap v val→SrcR w μ s2.heap src' I fp→Q' () s2)→wpAny (model P w) A (letOwnedTupleGo t (.ref I) val) Q' E' s')→Q (some val) s') :
    wpAny (model P w) A (pyNext (.ref I)) Q E s:=by
  have X:NX w h₀ Z A t μ s σ' I fp r Q:=⟨hnone,hsome⟩
  clear hnone hsome
  induction hs with
  | @lst k i I ad a b =>
    have hs0:SrcR w μ s.heap _ _ _:=.lst a b
    refine exA (getLst_bind he) fun xs e he=>?_
    obtain ⟨items,l1,r1⟩:=N.sim.list e (.lst b)
    have ⟨er,eσ⟩:=Prod.mk.inj (Option.some.inj he)
    cases hx:xs[i]? with
    | none =>
      rw [hx] at er
      exact wpAny_pyNext_list_end hA a l1.isList (get_none r1 hx) (NX.fin B N hs0 hf X (.head _) er.symm eσ.symm)
    | some v =>
      rw [hx] at er
      refine exA (r1.get hx) fun val h1 h2=>?_
      exact wpAny_pyNext_list_item a l1.isList (x:=val) (toList_at h1) fun h' hit hsb=>NX.step (tk:=s.toks) B N hs0 hf X ht er.symm rfl eσ.symm hsb (.head _) (.inr h2) (.lst hit b) (let ⟨o,ho,hc,_⟩:=hit; ⟨o,_,ho,hc,by decide⟩)
  | @str I x tk0 i cls c a =>
    have hs0:SrcR w μ s.heap _ _ _:=.str c a
    have ⟨er,eσ⟩:=Prod.mk.inj (Option.some.inj he)
    cases hl:x.cps.toList.drop i with
    | nil =>
      rw [hl] at er
      rcases c with rfl | rfl
      · exact wpAny_pyNext_ascii_end hA a (drop_nil hl) (NX.fin B N hs0 hf X (.head _) er.symm eσ.symm)
      · exact wpAny_pyNext_wide_end hA a (drop_nil hl) (NX.fin B N hs0 hf X (.head _) er.symm eσ.symm)
    | cons ch l =>
      rw [hl] at er
      obtain ⟨h1,rfl⟩:=drop_cons hl
      rcases c with rfl | rfl
      · exact wpAny_pyNext_ascii_item a h1 fun h' hit hsb=>NX.step B N hs0 hf X ht er.symm rfl eσ.symm hsb (.head _) (.inl fun _ _=>.str _ _) (.str (.inl rfl) hit) (let ⟨o,ho,hc,_⟩:=hit; ⟨o,_,ho,hc,by decide⟩)
      · exact wpAny_pyNext_wide_item a h1 fun h' hit hsb=>NX.step B N hs0 hf X ht er.symm rfl eσ.symm hsb (.head _) (.inl fun _ _=>.str _ _) (.str (.inr rfl) hit) (let ⟨o,ho,hc,_⟩:=hit; ⟨o,_,ho,hc,by decide⟩)
  | @rng I x c n a =>
    have hs0:SrcR w μ s.heap _ _ _:=.rng a
    have ⟨er,eσ⟩:=Prod.mk.inj (Option.some.inj he)
    induction n with
    | zero=>exact wpAny_pyNext_range_end hA a (Int.le_refl _) (NX.fin B N hs0 hf X (.head _) er.symm eσ.symm)
    | succ n =>
      refine wpAny_pyNext_range_item a (Int.natCast_pos.mpr (Nat.succ_pos n)) fun h' hit hsb=>?_
      have hit:IsRangeIter h' I (x+c) (n:Int) c:=(Int.add_sub_cancel (n:Int) 1:((n+1:Nat):Int) - 1=n) ▸ hit
      exact NX.step B N hs0 hf X ht er.symm rfl eσ.symm hsb (.head _) (.inl fun _ _=>.int _ _) (.rng hit) ⟨_,_,hit,rfl,by decide⟩
  | @enumL I J ad k i old a b hIJ d =>
    have hs0:SrcR w μ s.heap _ _ _:=.enumL a b hIJ d
    refine exA (getLst_bind he) fun xs e he=>?_
    refine exA (N.sim.list e (.lst d)) fun items l1 r1=>?_
    have ⟨er,eσ⟩:=Prod.mk.inj (Option.some.inj he)
    cases hx:xs[i]? with
    | none =>
      rw [hx] at er
      exact wpAny_pyNext_enum_end hA a b l1.isList (get_none r1 hx) (NX.fin B N hs0 hf X (.tail _ (.head _)) er.symm eσ.symm)
    | some v =>
      rw [hx] at er
      refine exA (r1.get hx) fun val h1 h2=>?_
      exact wpAny_pyNext_enum_item a b l1.isList (x:=val) (toList_at h1) hIJ fun h' hE hst hT hz hk=>NX.enum B N hs0 hf X ht er.symm rfl eσ.symm rfl hIJ (fun p q=>by rw [q] at hok; cases hok) hE hk hT h2 (let ⟨o,ho,hc,hd⟩:=hst; ⟨o,_,ho,hd,hc ▸ fun e=>absurd (Value.type.inj e) (by decide)⟩)
        fun h2' he2 hk2=>.enumL he2 (let ⟨o,ho,r⟩:=hst; ⟨o,hk2 o ho,r⟩) hIJ d
  | @enumS I J x tk0 i cls old c a b hIJ hle =>
    have hs0:SrcR w μ s.heap _ _ _:=.enumS c a b hIJ hle
    have ⟨er,eσ⟩:=Prod.mk.inj (Option.some.inj he)
    have D:Draws P w A.in1 J [J] x.cps.size (fun i v=>∃ c u,x.cps[i]?=some c∧v=.str ⟨#[c]⟩ u) (fun i h=>h.IsStrIter J cls x tk0 i):=by
      rcases c with rfl | rfl
      · exact Draws.strAscii (A:=A.in1) hA J x tk0
      · exact Draws.strWide (A:=A.in1) hA J x tk0
    cases hl:x.cps.toList.drop i with
    | nil =>
      rw [hl] at er
      obtain rfl:i=x.cps.size:=Nat.le_antisymm hle (Array.getElem?_eq_none_iff.mp (drop_nil hl))
      exact wpAny_pyNext_enum_endD D a b (NX.fin B N hs0 hf X (.tail _ (.head _)) er.symm eσ.symm)
    | cons ch l =>
      rw [hl] at er
      obtain ⟨h1,rfl⟩:=drop_cons hl
      have hi:i < x.cps.size:=(Array.getElem?_eq_some_iff.mp h1).1
      refine wpAny_pyNext_enum_itemD D a b hi hIJ (fun q=>hIJ (List.mem_singleton.mp q)) fun y h' tk hP hE hst hT hz hk=>?_
      obtain ⟨c',u,e1,rfl⟩:=hP
      obtain rfl:=Option.some.inj (h1.symm.trans e1)
      exact NX.enum B N hs0 hf X ht er.symm rfl eσ.symm rfl hIJ (fun p q=>by rw [q] at hok; cases hok) hE hk hT (.str _ _) (let ⟨o,ho,hc,hd⟩:=hst; ⟨o,_,ho,hd,hc ▸ fun e=>absurd (Value.type.inj e) (by rcases c with rfl | rfl <;> decide)⟩)
        fun h2' he2 hk2=>.enumS c he2 (let ⟨o,ho,r⟩:=hst; ⟨o,hk2 o ho,r⟩) hIJ hi
  | nil a b =>
    have hs0:SrcR w μ s.heap _ _ _:=.nil a b
    have ⟨er,eσ⟩:=Prod.mk.inj (Option.some.inj he)
    exact wpAny_pyNext_items_end hA a b rfl (NX.fin B N hs0 hf X (.head _) er.symm eσ.symm)
end
end Mine
end
section
open PySem PySem.W PyProof.Rows PySem.SeqAt
set_option maxRecDepth 100000
namespace Mine
section
variable {w:World} {h₀:Heap} {Z:Scr}
theorem assignEach_cons {x:Str} {p:Pos} {r:List Expr} {env:Env}:assignEach (.Name x p::r) env=(false,assign (.Name x p) env)::assignEach r env:=rfl
theorem order_sound {A:Around} {K env} (B:Base w h₀ Z) {μ:List Addr} {σ:St} {es:List Expr}:∀ {ps:List Pl} {vs:List V} {vals:List Value} {e e':EE} {s:Shared},cTgs K es=some ps→EE.setAll e ps vs=some e'→VRs Z μ s.heap vs vals→Ok w h₀ Z K e env μ σ s →
    ∀ {Q:Unit→Shared→Prop} {E:Value→Shared→Prop},(∀ s',Stp h₀ (Xof K env) μ s μ s'→Ok w h₀ Z K e' env μ σ s'→Q () s')→wpAny (model P w) A (assignInOrder ((assignEach es env).map (·.2)) vals) Q E s:=by
  induction es with
  | nil =>
    intro ps vs vals e e' s h1 h2 r O Q E h
    cases h1
    induction vs with
    | nil=>cases h2; exact assignInOrder_nil (h s (.refl _ _ _ _) O)
    | cons=>exact nS h2
  | cons x es ih =>
    intro ps vs vals e e' s h1 h2 r O Q E h
    refine mapO_cons (C:=fun ps=>EE.setAll e ps vs=some e'→_) h1 (fun pl ps' h3 h4 h2=>?_) h2
    obtain ⟨y,p,rfl,h3⟩:=cTg1_inv h3
    cases r with
    | nil=>exact nS h2
    | cons r1 r2=>exact assignInOrder_cons (wpAny_assign_Name (store_sound B O h3 r1 fun s1 st1 O1=>ih h4 h2 (r2.mono (fun _ _ e=>e) st1.fro) O1 fun s2 st2 O2=>h s2 (st1.trans st2) O2))
theorem cTgs_facts {K} {env:Env} {es:List Expr}:∀ {ps:List Pl},cTgs K es=some ps→(assignEach es env).length=ps.length∧(assignEach es env).findIdx? (·.1)=none:=by
  induction es with
  | nil=>exact fun h=>Option.some.inj h ▸ ⟨rfl,rfl⟩
  | cons e es ih =>
    intro ps h
    refine mapO_cons h fun pl ps' h3 h4=>?_
    obtain ⟨y,p,rfl,h3⟩:=cTg1_inv h3
    obtain ⟨h5,h6⟩:=ih h4
    refine ⟨congrArg (·+1) h5,?_⟩
    rw [assignEach_cons,List.findIdx?_cons,h6]; rfl
theorem setAll_len:∀ {ps:List Pl} {l:List V} {e e':EE},EE.setAll e ps l=some e'→ps.length=l.length:=by
  intro ps
  induction ps with
  | nil=>intro l e e' h; induction l with | nil=>rfl | cons _ _=>exact nS h
  | cons p ps ih=>intro l e e' h; induction l with | nil=>exact nS h | cons v l=>exact congrArg (·+1) (ih h)
theorem assign_sound {A:Around} {K env} (B:Base w h₀ Z) (hA:A.handled=none) {t t'} {e e':EE} {v:V} {val:Value} {μ:List Addr} {σ:St} {s:Shared} (ht:cTg K t=some t') (he:assignT e t' v=some e') (r:VR Z μ s.heap v val) (O:Ok w h₀ Z K e env μ σ s)
    {Q:Unit→Shared→Prop} {E:Value→Shared→Prop} (h:∀ s',Stp h₀ (Xof K env) μ s μ s'→Ok w h₀ Z K e' env μ σ s'→Q () s'):wpAny (model P w) A (assign t env val) Q E s:=by
  cases cTg_inv ht with
  | nm h1=>exact wpAny_assign_Name (store_sound B O h1 r fun s' st O'=>h s' st (Option.some.inj he ▸ O'))
  | tup h1 =>
    cases r with
    | tup ho hc hd hr =>
      rename_i a o vs n
      refine anE (cTgs_facts (env:=env) h1) fun f1 f2=>?_
      refine wpAny_assign_Tuple hA ⟨o,ho,hc,n,hd⟩ ((hr.length.trans Array.length_toList) ▸ f1.trans (setAll_len he)) f2 fun h' hx=>?_
      have hk:∀ b o,s.heap.get? b=some o→h'.get? b=some o:=fun b o e=>hx b o (Nat.ne_of_lt (Heap.lt_size e)) e
      have st:Stp h₀ [] μ s μ { s with heap:=h' }:=Stp.ext hk rfl rfl
      exact order_sound B h1 he (st.vrs hr) (O.stp B st (O.now.sim.ext hk)) fun s2 st2 O2=>h s2 ((st.wide fun _ h=>nomatch h).trans st2) O2
    | _=>exact nS he
end
section
variable {w:World} {h₀:Heap} {Z:Scr}
theorem Stp.dead {μ μ':List Addr} {s s':Shared} (x:Stp h₀ [] μ s μ' s') {a:Addr} (h:s'.heap.get? a=none):s.heap.get? a=none:=by
  cases e:s.heap.get? a with
  | none=>rfl
  | some o=>obtain ⟨o',e'⟩:=x.live a o (by simp) e; rw [h] at e'; cases e'
theorem blt_name {A:Around} {K e env} {μ:List Addr} {σ:St} {s:Shared} {x:Str} {v:Value} {p:Pos} (B:Base w h₀ Z) (O:Ok w h₀ Z K e env μ σ s) (hk:K x=some .globalImplicit) (hx:bok x v=true) (hd:(x == ("__debug__":Str))=false) {Q:Value→Shared→Prop} {E:Value→Shared→Prop} (h:Q v s) :
    wpAny (model P w) A (eval (.Name x p) env) Q E s:=Calls.Name_function_global O.er.kind (O.kr.glo _ hk) (wpAny_blt B O.now.inv O.er.glob O.er.bl hx h) hd
theorem glob_name {A:Around} {K e env} {μ:List Addr} {σ:St} {s:Shared} {x:Str} {v:Value} {p:Pos} (B:Base w h₀ Z) (O:Ok w h₀ Z K e env μ σ s) (hk:K x=some .globalImplicit) (hx:(x,some v)∈lookNames.zip lookVals) (hd:(x == ("__debug__":Str))=false) {Q:Value→Shared→Prop} {E:Value→Shared→Prop} (h:Q v s) :
    wpAny (model P w) A (eval (.Name x p) env) Q E s:=Calls.Name_function_global O.er.kind (O.kr.glo _ hk) (wpAny_glob B O.now.inv O.er.glob hx h) hd
theorem plain_args {K} {env:Env} {pos:Pos} {xs:List Expr} {es:List CE} (h:Exs K xs es):(backTo pos (starEach xs env)).any (·.1)=false:=by
  induction h with
  | nil=>rfl
  | cons h _ ih =>
    rw [starEach_of h]
    exact ih
theorem args_sound {n:Nat} (hE:SndE w h₀ Z n) (B:Base w h₀ Z) {K e env A pos} (g:GoodA n A) {xs:List Expr} {es:List CE} {μ σ s vs σ'} {f:Value} (hx:Exs K xs es) (he:evs ((fs n).E e) es σ=some (vs,σ')) (O:Ok w h₀ Z K e env μ σ s)
    {Q:Args→Shared→Prop} {E:Value→Shared→Prop} (h:∀ μ' s' vals,Stp h₀ [] μ s μ' s'→Sim Z h₀ μ' σ' s'.heap→VRs Z μ' s'.heap vs vals→Q ⟨vals,[]⟩ s'):wpAny (model P w) A (evalArgs f true (backTo pos (starEach xs env)) []) Q E s:=by
  induction hx with
  | nil =>
    cases X.pure_some he
    exact evalArgs_kw_nil (keywords:=[]) rfl (wpAny_evalAll_nil (h μ s [] (.refl _ _ _ _) O.now.sim .nil))
  | cons h1 h2 =>
    have hs:=evs_sound (pos:=pos) hE B g (.cons h1 h2) he O (fun vals s'=>Q ⟨vals,[]⟩ s') E fun μ' s' vals st S r=>h μ' s' vals st S r
    rw [starEach_of h1] at hs ⊢
    exact Calls.evalArgs_plain hs
theorem iter_new {μ μ1:List Addr} {σ1:St} {s s1:Shared} {h':Heap} {tk:Nat} {src:Src} {I:Addr} {fp:List Addr} (N1:Now h₀ Z μ1 σ1 s1) (st:Stp h₀ [] μ s μ1 s1) (hk:∀ b o,s1.heap.get? b=some o→h'.get? b=some o) (hf:∀ a∈fp,s1.heap.get? a=none) (r:SrcR w μ1 h' src I fp)
    {Q:Value→Shared→Prop} (h:∀ μ' s' I fp,Stp h₀ [] μ s μ' s'→Sim Z h₀ μ' σ1 s'.heap→SrcR w μ' s'.heap src I fp→FpOk h₀ fp μ'→(∀ a∈fp,s.heap.get? a=none)→Q (.ref I) s'):Q (.ref I) { s1 with heap:=h',toks:=tk }:=by
  refine h μ1 { s1 with heap:=h',toks:=tk } I fp (st.trans (Stp.ext hk rfl rfl)) (N1.sim.ext hk) r ⟨fun a ha q=>?_,fun a ha=>N1.inv.fresh (hf a ha)⟩ fun a ha=>st.dead (hf a ha)
  obtain ⟨o,e⟩:=N1.sim.fresh a q
  rw [hf a ha] at e; cases e
noncomputable def Cx.IterOk (c:Cx w h₀ Z) (μ:List Addr) (s:Shared) (t:Sem Value) (src:Src) (σ':St):Prop:=∀ {Q:Value→Shared→Prop} {E:Value→Shared→Prop},
  (∀ μ' s' I fp,Stp h₀ [] μ s μ' s'→Sim Z h₀ μ' σ' s'.heap→SrcR w μ' s'.heap src I fp→FpOk h₀ fp μ'→(∀ a∈fp,s.heap.get? a=none)→Q (.ref I) s')→wpAny (model P w) c.A t Q E c.s
theorem one_new {s:Shared}:∀ a∈[s.heap.objs.size],s.heap.get? a=none:=fun _ h=>List.mem_singleton.mp h ▸ get?_size _
theorem iter_g {c:Cx w h₀ Z} {μ:List Addr} {s:Shared} {v:V} {val:Value} (st:Stp h₀ [] μ s c.μ c.s) (r:c.R v val):c.G (sw no1 (fun x=>X.pure (.str x.cps.toList)) (fun k _=>X.pure (.lst k 0)) v) (c.IterOk μ s (pyIter val)) :=
  G.sw (D:=fun val=>c.IterOk μ s (pyIter val)) r (fun _ _=>G.fail) (fun x t=>G.pure fun h=>by
    have new:∀ b o o',c.s.heap.get? b=some o→(c.s.heap.push o').get? b=some o:=fun _ _ _ e=>Heap.get?_push_of_some _ e
    cases ha:x.cps.all (· < 128) with
    | true=>exact wpAny_pyIter_ascii ha (iter_new (fp:=[c.s.heap.objs.size]) c.N st (fun _ _=>new _ _ _) one_new (SrcR.str (x:=x) (i:=0) (.inl rfl) ⟨_,Heap.get?_push_size _ rfl,rfl,rfl⟩) h)
    | false=>exact wpAny_pyIter_wide ha (iter_new (fp:=[c.s.heap.objs.size]) c.N st (fun _ _=>new _ _ _) one_new (SrcR.str (x:=x) (i:=0) (.inr rfl) ⟨_,Heap.get?_push_size _ rfl,rfl,rfl⟩) h))
    fun k a xs items L=>G.pure fun h=>wpAny_pyIter_list L.l.isList (iter_new (fp:=[c.s.heap.objs.size]) c.N st (fun _ _ e=>Heap.get?_push_of_some _ e) one_new (.lst ⟨_,Heap.get?_push_size _ rfl,rfl,rfl⟩ L.ha) h)
theorem small62 {i:Int} (h:small i=true):-(2 ^ 62:Int)≤i∧i < 2 ^ 62:=by
  have h:(i.natAbs:Int) < 4611686018427387904:=Int.ofNat_lt.mpr (of_decide_eq_true h)
  exact ⟨Int.le_trans (Int.neg_le_neg (Int.le_of_lt h)) (Int.neg_le_of_neg_le (Int.natAbs_neg i ▸ Int.le_natAbs)),Int.lt_of_le_of_lt Int.le_natAbs h⟩
theorem size_one (a b:Int):Builtin.Range.rangeSize a b 1=((b - a).toNat:Int):=by
  rw [rangeSize_one]
  by_cases h:a < b
  · rw [if_pos h,Int.toNat_of_nonneg (Int.sub_nonneg_of_le (Int.le_of_lt h))]
  · rw [if_neg h,Int.toNat_of_nonpos (Int.sub_nonpos_of_le (Int.not_lt.mp h))]; rfl
theorem rangeOf_some {a b c:Int} {ns:List Int} (h:rangeOf a b c=some ns):(c=1∨c=-1)∧Builtin.Range.small a b c=true∧∃ n:Nat,Builtin.Range.rangeSize a b c=(n:Int)∧ns=upFrom n a c:=by
  unfold rangeOf at h
  cases q:decide (c=1) with
  | true =>
    rw [q] at h
    cases of_decide_eq_true q
    refine gdE h fun e h=>?_
    refine anE (small62 (and_t (and_t e).1).1) fun a1 a2=>?_
    obtain ⟨b1,b2⟩:=small62 (and_t (and_t e).1).2
    exact ⟨.inl rfl,small_one a1 a2 b1 b2,_,size_one a b,(Option.some.inj h).symm⟩
  | false =>
    rw [q] at h
    refine gdE h fun e h=>?_
    obtain ⟨rfl,rfl,rfl⟩:=of_decide_eq_true e
    exact ⟨.inr rfl,by decide +kernel,4,by decide +kernel,(Option.some.inj h).symm⟩
end
section
variable {w:World} {h₀:Heap} {Z:Scr}
theorem folded_of {K x it} (h:It_ K x it) (env:Env):∀ v,foldedSetIterable x env v=pure v:=by
  intro v
  induction h with
  | of h=>cases h.inv <;> rfl
  | range=>rfl
  | enum=>rfl
  | items=>rfl
theorem base_of {K o c} (h:Ex K o c) (m:Str) (env:Env):attributeBase o m env (eval o env)=eval o env:=by
  induction h.inv with
  | @call x p args kw pos f as ks hc ha hk =>
    induction ha with
    | nil =>
      induction hk with
      | nil =>
        have hne:x≠("super":Str):=cName_ne hc (by decide +kernel) (by decide +kernel)
        have hb:(x != ("super":Str))=true:=bne_iff_ne.mpr hne
        exact if_pos (by rw [hb]; rfl)
      | cons=>rfl
    | cons=>cases hk <;> rfl
  | _=>rfl
theorem meth0 {A:Around} {env:Env} {o:Expr} {name:Str} {apos pos:Pos} {T id:String} {s:Shared} {Q:Value→Shared→Prop} {E:Value→Shared→Prop} {K c} (ho:Ex K o c) (hline:(apos.endLine == pos.line)=true) (pa:PlainAttrs T) (slot:Slot T name id)
    (hty:typeOf (.builtin id)=pure (.type "method_descriptor"))
    (h:wpAny (model P w) A (eval o env) (fun ov s₁=>s₁.TypeIs ov T∧(∀ a,ov=.ref a→∃ ob,s₁.heap.get? a=some ob∧ob.dict=none)∧wpAny (model P w) A (call (.builtin id) [ov]) Q E s₁) E s) :
    wpAny (model P w) A (eval (.Call (.Attribute o name apos) [] [] pos) env) Q E s:=by
  refine wpAny_Call_method (base_of ho name env) (by rfl) hline pa slot hty (wpAny_mono h (fun ov s1 h1=>⟨h1.1,h1.2.1,?_⟩) fun _ _ x=>x)
  exact Calls.callWith_builtin rfl (PyProof.Rows.evalArgs_none h1.2.2)
theorem of_bindE {α β:Type} {o:Option α} {f:α→X β} {σ:St} {r:β × St} {C:Prop} (h:X.bind (X.of o) f σ=some r) (k:∀ a,o=some a→f a σ=some r→C):C:=by
  induction o with
  | none=>exact nS h
  | some a=>exact k a rfl h
noncomputable def Cx.IterC (c:Cx w h₀ Z) (μ:List Addr) (s:Shared) (t:Sem Value) (src:Src) (σ':St):Prop:=∀ {Q:Value→Shared→Prop} {E:Value→Shared→Prop},
  (∀ μ' s' I fp,Stp h₀ [] μ s μ' s'→Sim Z h₀ μ' σ' s'.heap→SrcR w μ' s'.heap src I fp→FpOk h₀ fp μ'→(∀ a∈fp,s.heap.get? a=none)→Q (.ref I) s')→wpAny (model P w) c.A t (fun xv s₁=>wpAny (model P w) c.A (pyIter xv) Q E s₁) E c.s
section
variable {c:Cx w h₀ Z} {μ:List Addr} {s:Shared}
theorem rng_fin (st:Stp h₀ [] μ s c.μ c.s) {a b d:Int} {ns:List Int} (hr:rangeOf a b d=some ns) {u v t:Tok} {tk:Nat} {Q:Value→Shared→Prop} {E:Value→Shared→Prop}
    (h:∀ μ' s' I fp,Stp h₀ [] μ s μ' s'→Sim Z h₀ μ' c.σ s'.heap→SrcR w μ' s'.heap (.rng ns) I fp→FpOk h₀ fp μ'→(∀ a∈fp,s.heap.get? a=none)→Q (.ref I) s') :
    wpAny (model P w) c.A (pyIter (.ref c.s.heap.objs.size)) Q E { c.s with heap:=c.s.heap.push { cls:=.type "range",data:=.fields #[.int a u,.int b v,.int d t] },toks:=tk }:=by
  obtain ⟨_,q1,n,q2,rfl⟩:=rangeOf_some hr
  have st2:=Stp.push (h₀:=h₀) (Xs:=[]) (μ:=c.μ) (s:=c.s) { cls:=.type "range",data:=.fields #[.int a u,.int b v,.int d t] } tk
  refine wpAny_pyIter_range (s:={ c.s with heap:=c.s.heap.push _,toks:=tk }) (Heap.get?_push_size _ rfl) q1 ?_
  rw [q2]
  exact iter_new (fp:=[(c.s.heap.push _).objs.size]) (c.N.stp st2 (c.N.sim.ext fun _ _ e=>Heap.get?_push_of_some _ e)) (st.trans st2) (fun _ _ e=>Heap.get?_push_of_some _ e) (fun _ h=>List.mem_singleton.mp h ▸ get?_size _) (.rng (Heap.get?_push_size _ rfl)) h
theorem G.listE {β:Type} {D:List Value→β→St→Prop} {m:X β} {f:V→List V→X β} {l:List V} {xs:List Value} (r:c.Rs l xs) (h0:c.G m (D [])) (h1:∀ v x l xs,c.R v x→c.Rs l xs→c.G (f v l) (D (x::xs))):c.G (listE m f l) (D xs):=by
  cases r with
  | nil=>exact h0
  | cons a b=>exact h1 _ _ _ _ a b
theorem rngF_g {vs:List V} {xs:List Value} (st:Stp h₀ [] μ s c.μ c.s) (r:c.Rs vs xs):c.G (rngF vs) (c.IterC μ s (call (.type "range") xs)) :=
  let D:=fun xs=>c.IterC μ s (call (.type "range") xs)
  G.arg (D:=D) r fun _ _ _ xs a1 r=>G.onI (D:=fun x=>D (x::xs)) a1 fun i u=>G.listE (D:=fun xs=>D (.int i u::xs)) r (G.of fun ns e=>G.pure fun h=>call_range_1 (rng_fin st e h)) fun _ _ _ xs a2 r =>
    G.onI (D:=fun x=>D (.int i u::x::xs)) a2 fun j v=>G.listE (D:=fun xs=>D (.int i u::.int j v::xs)) r (G.of fun ns e=>G.pure fun h=>call_range_2 (rng_fin st e h)) fun _ _ _ xs a3 r =>
      G.onI (D:=fun x=>D (.int i u::.int j v::x::xs)) a3 fun k t=>G.args0 (D:=fun xs=>D (.int i u::.int j v::.int k t::xs)) r (G.of fun ns e=>G.pure fun h=>(rangeOf_some e).1.elim
        (fun q=>call_range_3 (q ▸ (by decide)) (rng_fin st e h) (.inl (q ▸ PyProof.noPylong_of_log2 (by decide +kernel)))) fun q=>call_range_3 (q ▸ (by decide)) (rng_fin st e h) (.inl (q ▸ PyProof.noPylong_of_log2 (by decide +kernel))))
theorem enum_g {v:V} {val:Value} (st:Stp h₀ [] μ s c.μ c.s) (r:c.R v val):c.G (sw no1 (fun x=>X.pure (.enumS 0 x.cps.toList)) (fun k _=>X.pure (.enumL 0 k)) v) (c.IterC μ s (call (.type "enumerate") [val])) :=
  have two:∀ a∈[c.s.heap.objs.size+1,c.s.heap.objs.size],c.s.heap.get? a=none:=fun a ha=>(List.mem_cons.mp ha).elim (fun q=>q ▸ (by
      cases e:c.s.heap.get? (c.s.heap.objs.size+1) with
      | none=>rfl
      | some o=>exact absurd (Nat.lt_of_succ_lt (Heap.lt_size e)) (Nat.lt_irrefl _))) fun q=>List.mem_singleton.mp q ▸ get?_size _
  G.sw (D:=fun val=>c.IterC μ s (call (.type "enumerate") [val])) r (fun _ _=>G.fail) (fun x t=>G.pure fun h=>by
    refine call_enumerate_str fun h' hen hit hz hk=>wpAny_pyIter_enum (s:={ c.s with heap:=h' }) hen ?_
    exact iter_new (tk:=c.s.toks) c.N st hk two (SrcR.enumS (x:=x) (i:=0) (cls:=strIterType x) ((Decidable.em (x.cps.all (· < 128)=true)).imp (if_pos ·) (if_neg ·)) hen hit (Nat.succ_ne_self _) (Nat.zero_le _)) h) fun k a xs items L=>G.pure fun h=>by
    refine call_enumerate_list L.l.isList fun h' hen hit hz hk=>wpAny_pyIter_enum (s:={ c.s with heap:=h' }) hen ?_
    exact iter_new (tk:=c.s.toks) c.N st hk two (.enumL hen hit (Nat.succ_ne_self _) L.ha) h
end
theorem VR.kw_inv {μ:List Addr} {h:Heap} {v:V} {val:Value} {k:Nat} (r:VR Z μ h v val) (e:kw? v=some k):∃ a,val=.ref a∧μ[k]?=some a:=by
  cases r with
  | kw0 h=>exact ⟨_,rfl,Option.some.inj e ▸ h⟩
  | _=>exact nS e
theorem evIt_sound {n:Nat} (hE:SndE w h₀ Z n) (B:Base w h₀ Z) {K e env A} (g:GoodA n A) {x:Expr} {it:It} {src:Src} {μ σ s σ'} (hx:It_ K x it) (he:evIt ((fs n).E e) it σ=some (src,σ')) (O:Ok w h₀ Z K e env μ σ s) {Q:Value→Shared→Prop} {E:Value→Shared→Prop}
    (h:∀ μ' s' I fp,Stp h₀ [] μ s μ' s'→Sim Z h₀ μ' σ' s'.heap→SrcR w μ' s'.heap src I fp→FpOk h₀ fp μ'→(∀ a∈fp,s.heap.get? a=none)→Q (.ref I) s') :
    wpAny (model P w) A (eval x env) (fun xv s₁=>wpAny (model P w) A (pyIter xv) Q E s₁) E s:=by
  induction hx with
  | of hx =>
    refine X.bindE he fun v σ1 h1 he=>?_
    exact hE hx h1 g O _ E fun μ1 s1 val st1 S1 r1=>iter_g (c:=cx B g (O.now.stp st1 S1)) st1 r1 he h
  | range hk hx =>
    refine hid fun GG kk=>?_
    refine X.bindE he fun vs σ1 h1 he=>?_
    refine kk ?_
    clear kk GG
    refine wpAny_Call_Name_kw (blt_name B O hk (v:=.type "range") (by decide +kernel) (by decide) ?_)
    exact PyProof.Rows.callWith_type (plain_args hx) (args_sound hE B g hx h1 O fun μ1 s1 vals st1 S1 r1=>rngF_g (c:=cx B g (O.now.stp st1 S1)) st1 r1 he h)
  | enum hk hx =>
    refine hid fun GG kk=>?_
    refine X.bindE he fun v σ1 h1 he=>?_
    refine kk ?_
    clear kk GG
    refine wpAny_Call_Name_kw (blt_name B O hk (v:=.type "enumerate") (by decide +kernel) (by decide) ?_)
    refine PyProof.Rows.callWith_type (plain_args (.cons hx .nil)) ?_
    rw [starEach_of hx]
    exact Calls.evalArgs_plain (Calls.spliced_cons (hE hx h1 g O _ E fun μ1 s1 val st1 S1 r1=>Calls.spliced_nil (enum_g (c:=cx B g (O.now.stp st1 S1)) st1 r1 he h)))
  | items hl hx =>
    refine hid fun GG kk=>?_
    refine X.bindE he fun v σ1 h1 he=>?_
    refine kk ?_
    clear kk GG
    refine of_bindE (o:=kw? v) he fun k ek he=>of_bindE (o:=kwC σ1[k]?) he fun _ ec he=>?_
    refine anE (Prod.mk.inj (Option.some.inj he)) fun er eσ=>?_
    have e:σ1[k]?=some Cl.kw:=obind ec fun cl e1 e2=>by
      induction cl with
      | kw=>exact e1
      | _=>exact nS e2
    refine meth0 hx hl F.plainAttrs_dict F.slot_dict_items F.type_dict_items (hE hx h1 g O _ E fun μ1 s1 val st1 S1 r1=>?_)
    cases er; cases eσ
    have N1:=O.now.stp st1 S1
    refine hid fun GG kk=>?_
    refine exE (S1.kw k e) fun a zz=>exE zz fun m zz=>anE zz fun hμ zz=>anE zz fun ho ha=>?_
    refine kk ?_
    clear kk GG
    obtain ⟨_,rfl,hμ'⟩:=r1.kw_inv ek
    obtain rfl:=Option.some.inj (hμ.symm.trans hμ')
    have hD:s1.heap.DictAt (kn P w) a [] m:=⟨_,#[],ho,⟨rfl,rfl,rfl⟩,rfl,by intro e he; simp at he,.nil,List.nodup_nil⟩
    have hne:(a == sysModules)=false:=by
      have:a≠sysModules:=by unfold sysModules; exact Nat.ne_of_gt (Nat.lt_trans (by decide) ha)
      simpa using this
    refine ⟨⟨_,ho,rfl⟩,fun b hb=>by cases hb; exact ⟨_,ho,rfl⟩,call_meetsIn F.slot_dict_items ⟨_,ho,rfl⟩ F.entry_dict_items (F.args_dict_items_1 _) (meets_dict_items (kn P w) a hne) ⟨⟨[],_,_,m,ho,⟨rfl,rfl,rfl⟩,rfl,by intro e he; simp at he,.nil,List.nodup_nil⟩,?_⟩⟩
    have hk1:∀ b o,s1.heap.get? b=some o→(s1.heap.push { cls:=.type "dict_items",data:=.fields #[.ref a] }).get? b=some o:=fun _ _ e=>Heap.get?_push_of_some _ e
    show wpAny (model P w) A (pyIter (.ref s1.heap.objs.size)) Q E { s1 with heap:=s1.heap.push { cls:=.type "dict_items",data:=.fields #[.ref a] } }
    refine wpAny_pyIter_items (knd:=kn P w) (d:=a) (kvs:=[]) (ep:=m) ⟨_,Heap.get?_push_size _ rfl,rfl,rfl⟩ (let ⟨o,es,q,r⟩:=hD; ⟨o,es,hk1 _ _ q,r⟩) ?_
    have N2:Now h₀ Z μ1 σ' { s1 with heap:=s1.heap.push { cls:=.type "dict_items",data:=.fields #[.ref a] } }:=N1.stp (Xs:=[]) (Stp.push _ s1.toks) (S1.ext hk1)
    exact iter_new (tk:=s1.toks) (fp:=[(s1.heap.push { cls:=.type "dict_items",data:=.fields #[.ref a] }).objs.size]) N2 (st1.trans (Stp.push _ s1.toks)) (fun _ _ e=>Heap.get?_push_of_some _ e) (by intro b hb; rw [List.mem_singleton.mp hb]; exact get?_size _)
      (.nil (Heap.get?_push_size _ rfl) (let ⟨o,es,q,r⟩:=hD; ⟨o,es,Heap.get?_push_of_some _ (hk1 _ _ q),r⟩)) h
end
end Mine
end
section
open PySem PySem.W PyProof.Rows PySem.SeqAt
set_option maxRecDepth 100000
set_option genSizeOf false
set_option genInjectivity false
namespace Mine
section
variable (R:(Str→Option NameKind)→Stmt→CS→Prop) (K:Str→Option NameKind)
inductive Sx1:Stmt→CS→Prop
  | assign {t v p t' c}:cTg K t=some t'→swOk t v=true→Ex K v c→Sx1 (.Assign [t] v p) (.assign t' c)
  | aug {x q v p i c}:cPt K x=some (.loc i)→Ex K v c→Sx1 (.AugAssign (.Name x q) .Add v p) (.aug i c)
  | expr {v p c}:isCall v=true→Ex K v c→Sx1 (.Expr v p) (.expr c)
  | ret {v p c}:Ex K v c→Sx1 (.Return (some v) p) (.ret c)
  | ifs {t a b p t' a' b'}:Ex K t t'→L2 (R K) a a'→L2 (R K) b b'→Sx1 (.If t a b p) (.ifs t' a' b')
  | whil {t b p t' b'}:Ex K t t'→L2 (R K) b b'→Sx1 (.While t b [] p) (.whil t' b')
  | for {t it b p t' it' b'}:cTg K t=some t'→It_ K it it'→L2 (R K) b b'→Sx1 (.For t it b [] p) (.for t' it' b')
  | forI {t it b p t' c}:cTg K t=some t'→It_ K it (.items c)→Sx1 (.For t it b [] p) (.for t' (.items c) [])
  | assert {t m p t'}:Ex K t t'→Sx1 (.Assert t m p) (.assert t')
  | raise {s}:Sx1 s .raise
end
theorem sview_st (s:Stmt):(sview s).st=s:=by cases s <;> rfl
theorem cIt_it' {n:Nat} {K e it} (h:cIt (cpE n) K e=some it):It_ K e it:=cIt_it (R:=Ex) (fun h=>⟨_,h⟩) h
section
variable {G:(Str→Option NameKind)→Stmt→Option CS} {R:(Str→Option NameKind)→Stmt→CS→Prop} (ih:∀ {K e c},G K e=some c→R K e c) {K:Str→Option NameKind}
include ih in
theorem cFor_sx {t:Expr} {t' it it' b p c} (h1:cTg K t=some t') (h2:It_ K it it') (h:cFor G K t' it' b=some c):Sx1 R K (.For t it b [] p) c:=by
  cases it' with
  | items=>exact Option.some.inj h ▸ .forI h1 h2
  | _=>exact omap h fun b' h=>.for h1 h2 (cL_l2 ih h)
include ih in
theorem cS_sx {v:SView} {c} (h:cS G K v=some c):Sx1 R K v.st c:=by
  induction v with
  | asg ts v p=>exact lOneE (C:=fun ts c=>Sx1 R K (.Assign ts v p) c) h fun t h=>gdE h fun q h=>obindE h fun t' h1 h=>omap h fun c h2=>.assign h1 q ⟨_,h2⟩
  | aug t op v p =>
    refine gdE h fun q h=>obindE h fun pl h1 h=>obindE h fun i h2 h=>omap h fun c h3=>?_
    obtain ⟨x,q',rfl,h1⟩:=cTg1_inv h1
    cases of_decide_eq_true q
    induction pl with
    | loc j=>cases h2; exact .aug h1 ⟨_,h3⟩
    | cel=>exact nS h2
  | expr v p=>exact gdE h fun q h=>omap h fun c h=>.expr q ⟨_,h⟩
  | ret v p=>exact o1E (C:=fun v c=>Sx1 R K (.Return v p) c) h fun v h=>omap h fun c h=>.ret ⟨_,h⟩
  | ifs t a b p=>exact obindE h fun t' h1 h=>obindE h fun a' h2 h=>omap h fun b' h3=>.ifs ⟨_,h1⟩ (cL_l2 ih h2) (cL_l2 ih h3)
  | whl t b o p=>exact l0E (C:=fun o c=>Sx1 R K (.While t b o p) c) h fun h=>obindE h fun t' h1 h=>omap h fun b' h2=>.whil ⟨_,h1⟩ (cL_l2 ih h2)
  | fr t it b o p=>exact l0E (C:=fun o c=>Sx1 R K (.For t it b o p) c) h fun h=>obindE h fun t' h1 h=>obindE h fun it' h2 h=>cFor_sx ih h1 (cIt_it' h2) h
  | asrt t m p=>exact omap h fun t' h=>.assert ⟨_,h⟩
  | other=>exact nS h
end
noncomputable def Sx (K:Str→Option NameKind) (s:Stmt) (c:CS):Prop:=∃ n,cpS n K s=some c
noncomputable abbrev Sxs (K:Str→Option NameKind):List Stmt→List CS→Prop:=L2 (Sx K)
theorem Sx.inv {K s c} (h:Sx K s c):Sx1 Sx K s c:=by
  obtain ⟨n,h⟩:=h
  induction n with
  | zero=>exact nS h
  | succ n =>
    have h:Option.casesOn (motive:=fun _=>Option CS) (cS (cpS n) K (sview s)) (some .raise) some=some c:=h
    have:=cS_sx (R:=Sx) (G:=cpS n) (fun h=>⟨n,h⟩) (K:=K) (v:=sview s) (c:=c)
    rw [sview_st] at this
    cases e:cS (cpS n) K (sview s) with
    | none=>rw [e] at h; exact Option.some.inj h ▸ .raise
    | some c'=>rw [e] at h; exact this (e.trans h)
section
variable (w:World) (h₀:Heap) (Z:Scr)
inductive FlR (Z:Scr) (μ:List Addr) (h:Heap):Fl→Flow→Prop
  | next:FlR Z μ h .next .next
  | ret {v val}:VR Z μ h v val→FlR Z μ h (.ret v) (.ret val)
noncomputable def WpS (K:Str→Option NameKind) (A:Around) (t:Sem Flow) (env:Env) (μ:List Addr) (s:Shared) (σ':St) (fl:Fl) (e':EE):Prop:=∀ (Q:Flow→Shared→Prop) (E:Value→Shared→Prop),
  (∀ μ' s' f,Stp h₀ (Xof K env) μ s μ' s'→Ok w h₀ Z K e' env μ' σ' s'→FlR Z μ' s'.heap fl f→Q f s')→wpAny (model P w) A t Q E s
noncomputable def SndS (n:Nat):Prop:=∀ {K e env μ σ s A st c fl e' σ'},Sx K st c→(fs n).S e c σ=some ((fl,e'),σ')→GoodA n A→Ok w h₀ Z K e env μ σ s→WpS w h₀ Z K A (exec st env) env μ s σ' fl e'
end
section
variable {w:World} {h₀:Heap} {Z:Scr}
theorem FlR.mono {μ μ':List Addr} {h h':Heap} (hp:Pre μ μ') (hf:Frozen h h') {fl f} (r:FlR Z μ h fl f):FlR Z μ' h' fl f:=by
  induction r with
  | next=>exact .next
  | ret r=>exact .ret (r.mono hp hf)
theorem retS {K env} {μ μ1:List Addr} {s s1:Shared} {fl0 fl:Fl} {e0 e':EE} {σ0 σ':St} {f:Flow} (he:X.pure (fl0,e0) σ0=some ((fl,e'),σ')) {Q:Flow→Shared→Prop} (h:∀ μ' s' f,Stp h₀ (Xof K env) μ s μ' s'→Ok w h₀ Z K e' env μ' σ' s'→FlR Z μ' s'.heap fl f→Q f s') (st:Stp h₀ (Xof K env) μ s μ1 s1) (O:Ok w h₀ Z K e0 env μ1 σ0 s1) (r:FlR Z μ1 s1.heap fl0 f):Q f s1:=by
  cases he
  exact h _ _ _ st O r
theorem stp_nil {Ys μ μ':List Addr} {s s':Shared} (x:Stp h₀ [] μ s μ' s'):Stp h₀ Ys μ s μ' s':=x.wide fun _ h=>nomatch h
theorem execs_sound {n:Nat} (hS:SndS w h₀ Z n) {K env A} (g:GoodA n A) {sts:List Stmt} {cs:List CS} (hx:Sxs K sts cs):∀ {e μ σ s fl e' σ'},execsV (fs n).S e cs σ=some ((fl,e'),σ')→Ok w h₀ Z K e env μ σ s→WpS w h₀ Z K A (execs sts env) env μ s σ' fl e':=by
  induction hx with
  | nil =>
    intro e μ σ s fl e' σ' he O Q E h
    have x:=pure2E (C:=fun fl e' σ'=>Ok w h₀ Z K e' env μ σ' s∧FlR Z μ s.heap fl .next) he ⟨O,.next⟩
    exact wpAny_execs_nil (h μ s _ (.refl _ _ _ _) x.1 x.2)
  | cons hx hxs ih =>
    intro e μ σ s fl e' σ' he O Q E h
    refine X.bind2E he fun fl1 e1 σ1 h1 he=>wpAny_execs_cons (hS hx h1 g O _ E fun μ1 s1 f st1 O1 r1=>?_)
    induction r1 with
    | next=>exact ih he O1 Q E fun μ2 s2 f2 st2 O2 r2=>h μ2 s2 f2 (st1.trans st2) O2 r2
    | @ret v val r =>
      have x:=pure2E (C:=fun fl e' σ'=>Ok w h₀ Z K e' env μ1 σ' s1∧FlR Z μ1 s1.heap fl (.ret val)) he ⟨O1,.ret r⟩
      exact h μ1 s1 _ st1 x.1 x.2
structure Far (K:Str→Option NameKind) (env:Env) (fp:List Addr):Prop where
  loc:env.locals ∉ fp
  cel:∀ y c,(y,c)∈env.cells→c ∉ fp
theorem Far.xof {K env} {fp:List Addr} (f:Far K env fp):∀ a∈fp,a ∉ Xof K env:=by
  intro a ha q
  unfold Xof at q
  rcases List.mem_cons.mp q with q | q
  · exact f.loc (q ▸ ha)
  · obtain ⟨⟨y,c⟩,hm,rfl⟩:=List.mem_map.mp q
    exact f.cel y c (List.mem_filter.mp hm).1 ha
theorem Far.fresh {K e env} {μ:List Addr} {σ:St} {s:Shared} (O:Ok w h₀ Z K e env μ σ s) {fp:List Addr} (h:∀ a∈fp,s.heap.get? a=none):Far K env fp:=by
  refine ⟨fun q=>?_,fun y c hc q=>?_⟩
  · obtain ⟨m,⟨o,es,ep,ho,_⟩,_⟩:=O.er.ns
    rw [h _ q] at ho; cases ho
  · obtain ⟨⟨ov,o,ho,_⟩,_⟩:=O.er.cellsOk y c hc
    rw [h _ q] at ho; cases ho
theorem FpOk.stp {Xs μ μ':List Addr} {s s':Shared} {fp:List Addr} (f:FpOk h₀ fp μ) (x:Stp h₀ Xs μ s μ' s') (hl:∀ a∈fp,∃ o,s.heap.get? a=some o) (hX:∀ a∈fp,a ∉ Xs):FpOk h₀ fp μ' :=
  ⟨fun a ha=>let ⟨o,e⟩:=hl a ha; x.mem e (f.out a ha) (hX a ha),f.low⟩
theorem src_after {Xs μ μ':List Addr} {s s':Shared} {src:Src} {I:Addr} {fp:List Addr} (B:Base w h₀ Z) (r:SrcR w μ s.heap src I fp) (f:FpOk h₀ fp μ) (x:Stp h₀ Xs μ s μ' s') (hX:∀ a∈fp,a ∉ Xs) (hn:isNil src=false):SrcR w μ' s'.heap src I fp∧FpOk h₀ fp μ':=by
  refine ⟨r.keepF x.Pre (fun a ha o e=>x.keep a o e (f.out a ha) (hX a ha) fun q=>?_) hn,f.stp x (fun a ha=>let ⟨o,vs,e,_⟩:=r.recs.2 a ha; ⟨o,e⟩) hX⟩
  obtain ⟨o1,e1⟩:=B.b376
  rw [← q,f.low a ha] at e1; cases e1
noncomputable def clE (w:World) (A:Around) (env:Env) (R:Result→Shared→Prop):Value→Shared→Prop:=notedBy (model P w) A env fun e s'=>R (.error e) s'
noncomputable def flF (R:Result→Shared→Prop) (J:Shared→Prop) (f:Flow) (s:Shared):Prop:=Flow.casesOn (motive:=fun _=>Prop) f (J s) (R (.ok .next) s) (J s) fun v=>R (.ok (.ret v)) s
noncomputable def flQ (w:World) (A:Around) (env:Env) (R:Result→Shared→Prop) (t:Expr) (it:Value) (body:List Stmt) (J:Shared→Prop) (r:Option Value) (s1:Shared):Prop:=Option.casesOn (motive:=fun _=>Prop) r (wpAny (model P w) A (execs [] env) (fun f s3=>R (.ok f) s3) (clE w A env R) s1) fun v =>
  wpAny (model P w) A (letOwnedTupleGo t it v) (fun _ s2=>wpAny (model P w) A (assign t env v) (fun _ s3=>wpAny (model P w) A (execs body env) (flF R J) (clE w A env R) s3) (clE w A env R) s2) (clE w A env R) s1
theorem forLoop' {A:Around} {R:Result→Shared→Prop} {t:Expr} {it:Value} {body:List Stmt} {env:Env} {s:Shared} (I:Nat→Shared→Prop) (turn:∀ n s,I n s→wpAny (model P w) A (pyNext it) (flQ w A env R t it body (fun s=>∃ m,m < n∧I m s)) (clE w A env R) s) (n:Nat) (h:I n s):codeAny (model P w) A (.forLoop t it body [] env) R s :=
  codeAny_forLoop_any I (fun n s hI=>wpAny_mono (turn n s hI) (fun r s1 h1=>by
    induction r with
    | none=>exact h1
    | some v=>exact wpAny_mono h1 (fun _ s2 h2=>wpAny_mono h2 (fun _ s3 h3=>wpAny_mono h3 (fun f s4 h4=>by cases f <;> exact h4) fun _ _ x=>x) fun _ _ x=>x) fun _ _ x=>x) fun _ _ x=>x) n h
noncomputable def whQ (w:World) (A:Around) (env:Env) (R:Result→Shared→Prop) (body:List Stmt) (J:Shared→Prop) (b:Bool) (s1:Shared):Prop:=Bool.casesOn (motive:=fun _=>Prop) b (wpAny (model P w) A (execs [] env) (fun f s3=>R (.ok f) s3) (clE w A env R) s1) (wpAny (model P w) A (execs body env) (flF R J) (clE w A env R) s1)
theorem whLoop' {A:Around} {R:Result→Shared→Prop} {t:Expr} {body:List Stmt} {env:Env} {s:Shared} (I:Nat→Shared→Prop) (turn:∀ n s,I n s→wpAny (model P w) A (isTrue t env (eval t env)) (whQ w A env R body (fun s=>∃ m,m < n∧I m s)) (clE w A env R) s) (n:Nat) (h:I n s):codeAny (model P w) A (.whileLoop t body [] env) R s :=
  codeAny_whileLoop I (fun n s hI=>wpAny_mono (turn n s hI) (fun b s1 h1=>by
    induction b with
    | false=>exact h1
    | true=>exact wpAny_mono h1 (fun f s4 h4=>by cases f <;> exact h4) fun _ _ x=>x) fun _ _ x=>x) n h
theorem nx_none {β:Type} {m:X β} {k:V→Src→X β} {r:Option (V × Src)} {σ:St} {x:Option (β × St)} (e:r=none) (h:nx m k r σ=x):m σ=x:=by
  subst e; exact h
theorem nx_some {β:Type} {m:X β} {k:V→Src→X β} {r:Option (V × Src)} {σ:St} {x:Option (β × St)} {v:V} {src:Src} (e:r=some (v,src)) (h:nx m k r σ=x):k v src σ=x:=by
  subst e; exact h
inductive LInv (w:World) (h₀:Heap) (Z:Scr) (n:Nat) (K:Str→Option NameKind) (env:Env) (t':Tg) (b:List CS) (res:(Fl × EE) × St) (I:Addr) (fp μ:List Addr) (s:Shared) (m:Nat) (s1:Shared):Prop
  | mk (e1:EE) (src1:Src) (σ1:St) (μ1:List Addr) (hm:m≤n) (he:(fs m).L e1 t' src1 b σ1=some res) (O:Ok w h₀ Z K e1 env μ1 σ1 s1) (hs:SrcR w μ1 s1.heap src1 I fp) (hf:FpOk h₀ fp μ1) (st:Stp h₀ (Xof K env++fp) μ s μ1 s1)
inductive WInv (w:World) (h₀:Heap) (Z:Scr) (n:Nat) (K:Str→Option NameKind) (env:Env) (t':CE) (b:List CS) (res:(Fl × EE) × St) (μ:List Addr) (s:Shared) (m:Nat) (s1:Shared):Prop
  | mk (e1:EE) (σ1:St) (μ1:List Addr) (hm:m≤n) (he:(fs m).W e1 t' b σ1=some res) (O:Ok w h₀ Z K e1 env μ1 σ1 s1) (st:Stp h₀ (Xof K env) μ s μ1 s1)
theorem L_sound {n:Nat} (hS:∀ m,m≤n→SndS w h₀ Z m) (B:Base w h₀ Z) {K env A} (g:GoodA n A) {t:Expr} {t':Tg} {body:List Stmt} {b:List CS} (ht:cTg K t=some t') (hb:Sxs K body b) {e:EE} {src:Src} {σ σ':St} {fl:Fl} {e':EE} {I:Addr} {fp μ:List Addr} {s:Shared}
    (he:(fs n).L e t' src b σ=some ((fl,e'),σ')) (O:Ok w h₀ Z K e env μ σ s) (hs:SrcR w μ s.heap src I fp) (hf:FpOk h₀ fp μ) (far:Far K env fp) {R:Result→Shared→Prop}
    (hR:∀ μ' s' f,Stp h₀ (Xof K env++fp) μ s μ' s'→Ok w h₀ Z K e' env μ' σ' s'→FlR Z μ' s'.heap fl f→R (.ok f) s'):codeAny (model P w) A (.forLoop t (.ref I) body [] env) R s:=by
  refine forLoop' (LInv w h₀ Z n K env t' b ((fl,e'),σ') I fp μ s) (fun m s1 h1=>?_) n ⟨e,src,σ,μ,Nat.le_refl _,he,O,hs,hf,.refl _ _ _ _⟩
  induction h1 with
  | mk e1 src1 σ1 μ1 hm he1 O1 hs1 hf1 st1 =>
  induction m with
  | zero=>exact nS he1
  | succ m =>
    refine X.guardE (b:=tgOk t' src1) he1 fun hok he1=>X.bindE he1 fun r σ2 h2 he1=>?_
    have hm1:m≤n:=Nat.le_of_succ_le hm
    have gm:GoodA m A:=g.le hm1
    have wide1:∀ a∈fp,a∈Xof K env++fp:=fun a ha=>List.mem_append_right _ ha
    have wide2:∀ a∈Xof K env,a∈Xof K env++fp:=fun a ha=>List.mem_append_left _ ha
    refine next_sound B gm.1 O1.now hs1 hf1 h2 ht hok (fun e s2 st2 S2=>?_) fun v src' e hn s2 val st2 S2 hlet=>?_
    · have x:=pure2E (C:=fun fl e' σ'=>Ok w h₀ Z K e' env μ1 σ' s2∧FlR Z μ1 s2.heap fl .next) (nx_none e he1) ⟨O1.stpX B st2 far.loc far.cel S2,.next⟩
      exact wpAny_execs_nil (hR μ1 s2 _ (st1.trans (st2.wide wide1)) x.1 x.2)
    · refine of_bindE (nx_some e he1) fun e2 h3 he1=>X.bind2E he1 fun fl3 e3 σ3 h4 he1=>?_
      have st12:=st1.trans (st2.wide wide1)
      refine hlet _ _ fun s3 st3 S3 r3 hs3=>assign_sound B gm.1 ht h3 r3 ((O1.stpX B st2 far.loc far.cel S2).stpX B st3 far.loc far.cel S3) fun s4 st4 O4=>?_
      refine anE (src_after B hs3 hf1 st4 far.xof hn) fun hs4 hf4=>execs_sound (hS m hm1) gm hb h4 O4 _ _ fun μ5 s5 f st5 O5 r5=>?_
      have st15:=((st12.trans (st3.wide wide1)).trans (st4.wide wide2)).trans (st5.wide wide2)
      refine anE (src_after B hs4 hf4 st5 far.xof hn) fun hs5 hf5=>?_
      induction r5 with
      | next=>exact ⟨m,Nat.lt_succ_self _,⟨e3,src',σ3,μ5,hm1,he1,O5,hs5,hf5,st15⟩⟩
      | @ret v val r =>
        have x:=pure2E (C:=fun fl e' σ'=>Ok w h₀ Z K e' env μ5 σ' s5∧FlR Z μ5 s5.heap fl (.ret val)) he1 ⟨O5,.ret r⟩
        exact hR μ5 s5 _ st15 x.1 x.2
theorem W_sound {n:Nat} (hS:∀ m,m≤n→SndS w h₀ Z m) (hT:∀ m,m≤n→SndT w h₀ Z m) (B:Base w h₀ Z) {K env A} (g:GoodA n A) {t:Expr} {t':CE} {body:List Stmt} {b:List CS} (ht:Ex K t t') (hb:Sxs K body b) {e:EE} {σ σ':St} {fl:Fl} {e':EE} {μ:List Addr} {s:Shared}
    (he:(fs n).W e t' b σ=some ((fl,e'),σ')) (O:Ok w h₀ Z K e env μ σ s) {R:Result→Shared→Prop}
    (hR:∀ μ' s' f,Stp h₀ (Xof K env) μ s μ' s'→Ok w h₀ Z K e' env μ' σ' s'→FlR Z μ' s'.heap fl f→R (.ok f) s'):codeAny (model P w) A (.whileLoop t body [] env) R s:=by
  refine whLoop' (WInv w h₀ Z n K env t' b ((fl,e'),σ') μ s) (fun m s1 h1=>?_) n ⟨e,σ,μ,Nat.le_refl _,he,O,.refl _ _ _ _⟩
  induction h1 with
  | mk e1 σ1 μ1 hm he1 O1 st1 =>
  induction m with
  | zero=>exact nS he1
  | succ m =>
    refine X.bindE he1 fun c σ2 h2 he1=>?_
    have hm1:m≤n:=Nat.le_of_succ_le hm
    have gm:GoodA m A:=g.le hm1
    refine hT m hm1 ht h2 gm O1 _ _ fun μ2 s2 st2 S2=>?_
    have O2:=O1.stp B st2 S2
    have st12:=st1.trans (st2.wide (fun _ h=>nomatch h))
    induction c with
    | false =>
      have x:=pure2E (C:=fun fl e' σ'=>Ok w h₀ Z K e' env μ2 σ' s2∧FlR Z μ2 s2.heap fl .next) he1 ⟨O2,.next⟩
      exact wpAny_execs_nil (hR μ2 s2 _ st12 x.1 x.2)
    | true =>
      refine X.bind2E he1 fun fl3 e3 σ3 h4 he1=>execs_sound (hS m hm1) gm hb h4 O2 _ _ fun μ5 s5 f st5 O5 r5=>?_
      have st15:=st12.trans st5
      induction r5 with
      | next=>exact ⟨m,Nat.lt_succ_self _,⟨e3,σ3,μ5,hm1,he1,O5,st15⟩⟩
      | @ret v val r =>
        have x:=pure2E (C:=fun fl e' σ'=>Ok w h₀ Z K e' env μ5 σ' s5∧FlR Z μ5 s5.heap fl (.ret val)) he1 ⟨O5,.ret r⟩
        exact hR μ5 s5 _ st15 x.1 x.2
end
end Mine
end
section
open PySem PySem.W PyProof.Rows PySem.SeqAt
set_option maxRecDepth 100000
namespace Mine
section
variable {w:World} {h₀:Heap} {Z:Scr}
theorem iter_self {A:Around} {μ:List Addr} {s:Shared} {src:Src} {I:Addr} {fp:List Addr} (r:SrcR w μ s.heap src I fp) (hn:isNil src=false) {Q:Value→Shared→Prop} {E:Value→Shared→Prop} (h:Q (.ref I) s):wpAny (model P w) A (pyIter (.ref I)) Q E s:=by
  induction r with
  | lst a b=>exact wpAny_pyIter_listiter a h
  | str c a => rcases c with rfl | rfl
               · exact wpAny_pyIter_striter_ascii a h
               · exact wpAny_pyIter_striter_wide a h
  | rng a=>exact wpAny_pyIter_rangeiter a h
  | enumL a b c d=>exact wpAny_pyIter_enum a h
  | enumS c a b d q=>exact wpAny_pyIter_enum a h
  | nil=>cases hn
theorem compStart_any {A:Around} {R:Result→Shared→Prop} {s:Shared} {elt:Expr} {gens:List Comprehension} {scope:Scope} {pos:Pos} {d:Nat} {it acc:Value} {env:Env} {g:Comprehension} (hg:gens[d]?=some g) (ha:g.is_async=0)
    (h0:codeAny (model P w) A (.compLoop (.ListComp elt gens scope pos) d it acc env) R s)
    (h:wpAny (model P w) A (pyIter it) (fun it' s'=>codeAny (model P w) A (.compLoop (.ListComp elt gens scope pos) d it' acc env) R s') (notedBy (model P w) A env fun x s'=>R (.error x) s') s) :
    codeAny (model P w) A (.compStart (.ListComp elt gens scope pos) d it acc env) R s:=by
  refine codeAny_of_tree ?_
  show wpAny _ _ ((compStart (.ListComp elt gens scope pos) d it acc env).onRaise (fun x=>do noteFrame x env; standAt theWindowsPlace)) _ _ s
  refine wpAny_notedAt ?_
  unfold compStart
  have hc:(clausesOf (.ListComp elt gens scope pos))[d]?=some g:=hg
  rw [hc]
  simp only [Option.elim_some,ha,bne_self_eq_false,Bool.false_eq_true,if_false]
  show wpAny _ _ (ask >>= _) _ _ s
  refine wpAny_bind (wpAny_askSetting (wpAny_ite ?_))
  split
  · first
      | exact wpAny_bind (wpAny_pure (wpAny_pure (And.intro rfl h0)))
      | exact wpAny_pure (And.intro rfl h0)
  · first
      | exact wpAny_bind (wpAny_rule (wpAny_bind (wpAny_standAt (wpAny_bind (wpAny_mono h (fun it' s' h'=>wpAny_pure (And.intro rfl h')) fun _ _ x=>x)))))
      | (refine wpAny_bind (wpAny_rule ?_); show wpAny _ _ (standAt g.iter.pos >>= _) _ _ s; exact wpAny_bind (wpAny_standAt (wpAny_bind (wpAny_mono h (fun it' s' h'=>wpAny_pure (And.intro rfl h')) fun _ _ x=>x))))
noncomputable def testsOf (ifs:List Expr) (env:Env):Sem Bool:=forIn ifs true fun c r=>if r=true then do let ok ← isTrue c env (eval c env); pure (ForInStep.yield ok) else pure (ForInStep.yield r)
noncomputable def cl5 (w:World) (A:Around) (elt:Expr) (gens:List Comprehension) (scope:Scope) (pos:Pos) (d:Nat) (acc:Value) (env:Env) (R:Result→Shared→Prop) (J:Shared→Prop) (g':Comprehension) (s4:Shared):Prop :=
  g'.is_async=0∧(∀ v,foldedSetIterable g'.iter env v=pure v)∧wpAny (model P w) A (eval g'.iter env) (fun x s5=>wpAny (model P w) A (pyIter x) (fun it' s6 =>
    codeAny (model P w) A (.compStart (.ListComp elt gens scope pos) (d+1) it' acc env) (fun r s7=>Except.casesOn (motive:=fun _=>Prop) r (fun e=>cameBackBy (model P w) A env (clE w A env R) e s7) fun _=>J s7) s6) (clE w A env R) s5) (clE w A env R) s4
noncomputable def cl4 (w:World) (A:Around) (elt:Expr) (gens:List Comprehension) (scope:Scope) (pos:Pos) (d:Nat) (acc:Value) (env:Env) (R:Result→Shared→Prop) (J:Shared→Prop) (ok:Bool) (s4:Shared):Prop :=
  Bool.casesOn (motive:=fun _=>Prop) ok (J s4) (Option.casesOn (motive:=fun _=>Prop) gens[d+1]? (wpAny (model P w) A (eval elt env) (fun x s5=>wpAny (model P w) A (call (.builtin "list.append") [acc,x]) (fun _ s6=>J s6) (clE w A env R) s5) (clE w A env R) s4) fun g'=>cl5 w A elt gens scope pos d acc env R J g' s4)
noncomputable def cl1 (w:World) (A:Around) (elt:Expr) (gens:List Comprehension) (scope:Scope) (pos:Pos) (d:Nat) (it acc:Value) (env:Env) (R:Result→Shared→Prop) (J:Shared→Prop) (g:Comprehension) (r:Option Value) (s1:Shared):Prop :=
  Option.casesOn (motive:=fun _=>Prop) r (R (.ok .next) s1) fun v=>wpAny (model P w) A (letOwnedTupleGo g.target it v) (fun _ s2=>wpAny (model P w) A (assign g.target env v) (fun _ s3=>wpAny (model P w) A (testsOf g.ifs env) (cl4 w A elt gens scope pos d acc env R J) (clE w A env R) s3) (clE w A env R) s2) (clE w A env R) s1
theorem compLoop_any {A:Around} {R:Result→Shared→Prop} {s:Shared} {elt:Expr} {gens:List Comprehension} {scope:Scope} {pos:Pos} {d:Nat} {it acc:Value} {env:Env} {g:Comprehension} (hg:gens[d]?=some g) (ha:g.is_async=0) (I:Nat→Shared→Prop)
    (turn:∀ n s,I n s→wpAny (model P w) A (pyNext it) (cl1 w A elt gens scope pos d it acc env R (fun s=>∃ m,m < n∧I m s) g) (clE w A env R) s)
    (n:Nat) (h:I n s):codeAny (model P w) A (.compLoop (.ListComp elt gens scope pos) d it acc env) R s:=by
  refine codeAny_loop rfl I (fun n s hI=>?_) n h
  show wpAny _ _ ((compTurn (.ListComp elt gens scope pos) d it acc env).onRaise (fun x=>do noteFrame x env; theTreesLotGoes x)) _ _ s
  refine wpAny_noted ?_
  unfold compTurn
  simp only [hg,ha,bne_self_eq_false,Bool.false_eq_true,if_false]
  refine wpAny_bind (wpAny_standAt (wpAny_bind (wpAny_mono (turn n s hI) (fun r s1 h1=>?_) fun _ _ x=>x)))
  induction r with
  | none=>exact wpAny_pure h1
  | some v =>
    refine wpAny_bind (wpAny_mono h1 (fun _ s2 h2=>?_) fun _ _ x=>x)
    refine wpAny_bind (wpAny_mono h2 (fun _ s3 h3=>?_) fun _ _ x=>x)
    refine wpAny_bind (wpAny_mono h3 (fun ok s4 h4=>?_) fun _ _ x=>x)
    induction ok with
    | false=>exact wpAny_pure ⟨rfl,h4⟩
    | true =>
      unfold cl4 at h4
      cases hq:gens[d+1]? with
      | none =>
        rw [hq] at h4
        exact wpAny_bind (wpAny_bind (wpAny_mono h4 (fun x s5 h5=>wpAny_bind (wpAny_mono h5 (fun _ s6 h6=>wpAny_pure (wpAny_pure ⟨rfl,h6⟩)) fun _ _ x=>x)) fun _ _ x=>x))
      | some g' =>
        rw [hq] at h4
        have ha':=h4.1
        simp only [ha',bne_self_eq_false,Bool.false_eq_true,if_false]
        refine wpAny_bind (wpAny_mono h4.2.2 (fun x s5 h5=>wpAny_bind (wpAny_standAt (wpAny_bind (wpAny_of_eq (h4.2.1 x) (wpAny_bind (wpAny_holding (wpAny_mono h5 (fun it' s6 h6=>?_) fun _ _ x=>x))))))) fun _ _ x=>x)
        exact wpAny_bind (wpAny_runOwn (codeAny_mono h6 fun r s7 h7=>by
          induction r with
          | ok f=>exact wpAny_pure ⟨rfl,h7⟩
          | error e=>exact h7))
end
end Mine
end
section
open PySem PySem.W PyProof.Rows PySem.SeqAt
set_option maxRecDepth 100000
set_option genSizeOf false
set_option genInjectivity false
namespace Mine
section
variable {w:World} {h₀:Heap} {Z:Scr}
theorem tests_f {A:Around} {env:Env} {Q:Bool→Shared→Prop} {E:Value→Shared→Prop} {s:Shared} (h:Q false s) {xs:List Expr}:wpAny (model P w) A (forIn xs false fun c r=>if r=true then do let ok ← isTrue c env (eval c env); pure (ForInStep.yield ok) else pure (ForInStep.yield r)) Q E s:=by
  induction xs with
  | nil=>exact List.forIn_nil (m:=Sem) ▸ wpAny_pure h
  | cons y ys ih =>
    rw [List.forIn_cons]
    exact wpAny_bind (wpAny_pure ih)
theorem tests_sound {n:Nat} (hT:SndT w h₀ Z n) (B:Base w h₀ Z) {K env A} (g:GoodA n A) {ifs:List Expr} {cs:List CE} (hx:Exs K ifs cs):∀ {e μ σ s ok σ'},allT ((fs n).T e) cs σ=some (ok,σ')→Ok w h₀ Z K e env μ σ s→WpB w h₀ Z A (testsOf ifs env) μ s σ' ok:=by
  induction hx with
  | nil =>
    intro e μ σ s ok σ' he O
    cases he
    exact fun Q E h=>wpAny_pure (h μ s (.refl _ _ _ _) O.now.sim)
  | cons hx hxs ih =>
    intro e μ σ s ok σ' he O
    obtain ⟨b,σ1,h1,he⟩:=X.bind_inv he
    intro Q E h
    unfold testsOf
    rw [List.forIn_cons]
    refine wpAny_bind (wpAny_bind (hT hx h1 g O _ E fun μ1 s1 st1 S1=>wpAny_pure ?_))
    induction b with
    | true=>exact ih he (O.stp B st1 S1) Q E fun μ2 s2 st2 S2=>h μ2 s2 (st1.trans st2) S2
    | false=>cases he; exact tests_f (h μ1 s1 st1 S1)
theorem drop_head {α:Type} {l:List α} {d:Nat} {a:α} {r:List α} (h:l.drop d=a::r):l[d]?=some a∧l.drop (d+1)=r:=by
  have h1:=congrArg List.head? h
  have h2:=congrArg List.tail h
  rw [List.head?_drop] at h1
  rw [List.tail_drop] at h2
  exact ⟨h1,h2⟩
theorem drop_none {α:Type} {l:List α} {d:Nat} (h:l.drop d=[]):l[d]?=none:=List.getElem?_eq_none_iff.mpr (List.drop_eq_nil_iff.mp h)
theorem Far.app {K env} {a b:List Addr} (h:Far K env a) (h':Far K env b):Far K env (a++b) :=
  ⟨fun q=>(List.mem_append.mp q).elim h.loc h'.loc,fun y c hc q=>(List.mem_append.mp q).elim (h.cel y c hc) (h'.cel y c hc)⟩
theorem G_notnil {n:Nat} {e elt t src ifs rest k σ r} (h:(fs n).G e elt t src ifs rest k σ=some r):isNil src=false:=by
  induction n with
  | zero=>exact nS h
  | succ n=>exact not_t (and_t (X.guard_some (b:=tgOk t src && !isNil src) h).1).2
theorem ges_nil {K} {l:List Comprehension} (h:Ges K l []):l=[]:=by
  cases h; rfl
theorem ges_cons {K} {l:List Comprehension} {x:Gen} {xs:List Gen} {G:Prop} (h:Ges K l (x::xs)) (k:∀ t it ifs a t' it' ifs' gs,l=⟨t,it,ifs,a⟩::gs→x=.mk t' it' ifs'→(a == 0)=true→cTg K t=some t'→It_ K it it'→Exs K ifs ifs'→Ges K gs xs→G):G:=by
  cases h with
  | cons h1 h2=>induction h1 with
    | mk a b c d=>exact k _ _ _ _ _ _ _ _ rfl rfl a b c d h2
inductive GInv (w:World) (h₀:Heap) (Z:Scr) (n:Nat) (K:Str→Option NameKind) (env:Env) (elt':CE) (t':Tg) (ifs':List CE) (rest:List Gen) (k:Nat) (res:EE × St) (I:Addr) (fp μ:List Addr) (s:Shared) (m:Nat) (s1:Shared):Prop
  | mk (e1:EE) (src1:Src) (σ1:St) (μ1:List Addr) (hm:m≤n) (he:(fs m).G e1 elt' t' src1 ifs' rest k σ1=some res) (O:Ok w h₀ Z K e1 env μ1 σ1 s1) (hs:SrcR w μ1 s1.heap src1 I fp) (hf:FpOk h₀ fp μ1) (st:Stp h₀ (Xof K env++fp) μ s μ1 s1)
theorem cl4_none {A:Around} {elt:Expr} {gens:List Comprehension} {scope:Scope} {pos:Pos} {d:Nat} {acc:Value} {env:Env} {R:Result→Shared→Prop} {J:Shared→Prop} {s4:Shared} (e:gens[d+1]?=none) (h:wpAny (model P w) A (eval elt env) (fun x s5=>wpAny (model P w) A (call (.builtin "list.append") [acc,x]) (fun _ s6=>J s6) (clE w A env R) s5) (clE w A env R) s4) :
    cl4 w A elt gens scope pos d acc env R J true s4:=by
  unfold cl4; rw [e]; exact h
theorem cl4_some {A:Around} {elt:Expr} {gens:List Comprehension} {scope:Scope} {pos:Pos} {d:Nat} {acc:Value} {env:Env} {R:Result→Shared→Prop} {J:Shared→Prop} {s4:Shared} {g:Comprehension} (e:gens[d+1]?=some g) (h:cl5 w A elt gens scope pos d acc env R J g s4) :
    cl4 w A elt gens scope pos d acc env R J true s4:=by
  unfold cl4; rw [e]; exact h
theorem G_sound (B:Base w h₀ Z) {elt:Expr} {elt':CE} {gens:List Comprehension} {scope:Scope} {pos:Pos} {K env A} (hel:Ex K elt elt'):∀ (n:Nat),(∀ m,m≤n→SndE w h₀ Z m)→(∀ m,m≤n→SndT w h₀ Z m)→GoodA n A →
    ∀ {d:Nat} {g:Comprehension} {t':Tg} {ifs':List CE} {rest:List Gen} {k:Nat} {D:Addr} {e:EE} {src:Src} {σ σ':St} {e':EE} {I:Addr} {fp μ:List Addr} {s:Shared},
      gens[d]?=some g→g.is_async=0→cTg K g.target=some t'→Exs K g.ifs ifs'→Ges K (gens.drop (d+1)) rest→(fs n).G e elt' t' src ifs' rest k σ=some (e',σ')→Ok w h₀ Z K e env μ σ s →
      SrcR w μ s.heap src I fp→FpOk h₀ fp μ→Far K env fp→μ[k]?=some D→∀ {R:Result→Shared→Prop},(∀ μ' s',Stp h₀ (Xof K env++fp) μ s μ' s'→Ok w h₀ Z K e' env μ' σ' s'→R (.ok .next) s') →
      codeAny (model P w) A (.compLoop (.ListComp elt gens scope pos) d (.ref I) (.ref D) env) R s:=by
  intro n
  induction n using Nat.strongRecOn with
  | ind n ih =>
  intro hE hT gA d g t' ifs' rest k D e src σ σ' e' I fp μ s hg ha ht hi hr he O hs hf far hD R hR
  refine compLoop_any hg ha (GInv w h₀ Z n K env elt' t' ifs' rest k (e',σ') I fp μ s) (fun m s1 h1=>?_) n ⟨e,src,σ,μ,Nat.le_refl _,he,O,hs,hf,.refl _ _ _ _⟩
  induction h1 with
  | mk e1 src1 σ1 μ1 hm he1 O1 hs1 hf1 st1 =>
  cases m with
  | zero=>exact nS he1
  | succ m =>
    refine X.guardE (b:=tgOk t' src1 && !isNil src1) he1 fun hok he1=>X.bindE he1 fun r σ2 h2 he1=>?_
    have hm1:m≤n:=Nat.le_of_succ_le hm
    have gm:GoodA m A:=gA.le hm1
    have wide1:∀ a∈fp,a∈Xof K env++fp:=fun a ha=>List.mem_append_right _ ha
    have wide2:∀ a∈Xof K env,a∈Xof K env++fp:=fun a ha=>List.mem_append_left _ ha
    refine next_sound B gm.1 O1.now hs1 hf1 h2 ht (and_t hok).1 (fun e s2 st2 S2=>?_) fun v src' e hn s2 val st2 S2 hlet=>?_
    · exact hR μ1 s2 (st1.trans (st2.wide wide1)) (pureE (C:=fun e' σ'=>Ok w h₀ Z K e' env μ1 σ' s2) (nx_none e he1) (O1.stpX B st2 far.loc far.cel S2))
    · refine of_bindE (nx_some e he1) fun e2 h3 he1=>X.bindE he1 fun ok σ3 h4 he1=>?_
      have st12:=st1.trans (st2.wide wide1)
      refine hlet _ _ fun s3 st3 S3 r3 hs3=>assign_sound B gm.1 ht h3 r3 ((O1.stpX B st2 far.loc far.cel S2).stpX B st3 far.loc far.cel S3) fun s4 st4 O4=>?_
      refine anE (src_after B hs3 hf1 st4 far.xof hn) fun hs4 hf4=>tests_sound (hT m hm1) B gm hi h4 O4 _ _ fun μ5 s5 st5 S5=>?_
      have O5:=O4.stp B st5 S5
      have st15:=((st12.trans (st3.wide wide1)).trans (st4.wide wide2)).trans (stp_nil st5)
      refine anE (src_after B hs4 hf4 st5 (fun _ _ h=>nomatch h) hn) fun hs5 hf5=>?_
      have hD5:μ5[k]?=some D:=st15.Pre _ _ hD
      induction ok with
      | false=>exact ⟨m,Nat.lt_succ_self _,⟨e2,src',σ3,μ5,hm1,he1,O5,hs5,hf5,st15⟩⟩
      | true =>
        induction rest with
        | nil =>
          refine cl4_none (drop_none (ges_nil hr)) (X.bindE he1 fun x σ6 h6 he1=>getLstE he1 fun xs e1' he1=>X.guardE he1 fun q he1=>?_)
          refine hE m hm1 hel h6 gm O5 _ _ fun μ6 s6 xv st6 S6 r6=>?_
          have O6:=O5.stp B st6 S6
          have hD6:μ6[k]?=some D:=st6.Pre _ _ hD5
          refine exE (S6.list e1' (.lst hD6)) fun items h=>anE h fun l1 r1=>?_
          refine anE (src_after B hs5 hf5 st6 (fun _ _ h=>nomatch h) hn) fun hs6 hf6=>?_
          refine Wp.wr (w:=w) B O6.now e1' hD6 (items:=items.push xv) ((Array.toList_push (xs:=items) (x:=xv)).symm ▸ r1.app (.cons r6 .nil)) (fun Q E h=>wpAny_list_append_plain l1 (fun h' p sb=>h h' s6.toks p sb) (line_of ((r1.length.trans Array.length_toList) ▸ big_le q))) _ _ fun μ7 s7 val st7 S7 r7=>?_
          refine anE (src_after B hs6 hf6 st7 (fun _ _ h=>nomatch h) hn) fun hs7 hf7=>?_
          exact ⟨m,Nat.lt_succ_self _,⟨e2,src',_,μ7,hm1,setLst_bind he1,O6.stp B st7 S7,hs7,hf7,(st15.trans (stp_nil st6)).trans (stp_nil st7)⟩⟩
        | cons g2' gs2' =>
          refine ges_cons hr fun t2 itx2 ifs2 a2 t2' it2' ifs2' gs2 hdr eg ha2 ht2 hit2 hi2 hr2=>?_
          subst eg
          refine anE (drop_head hdr) fun hsome hdr2=>X.bindE he1 fun src2 σ6 h6 he1=>X.bindE he1 fun e3 σ7 h7 he1=>?_
          refine cl4_some hsome ⟨beq_iff_eq.mp ha2,folded_of hit2 env,?_⟩
          refine evIt_sound (hE m hm1) B gm hit2 h6 O5 fun μ6 s6 I2 fp2 st6 S6 hs2 hf2 hfr2=>?_
          have O6:=O5.stp B st6 S6
          have inner:=ih m hm (fun j hj=>hE j (Nat.le_trans hj hm1)) (fun j hj=>hT j (Nat.le_trans hj hm1)) gm hsome (beq_iff_eq.mp ha2) ht2 hi2 (hdr2.symm ▸ hr2) h7 O6 hs2 hf2 (Far.fresh O5 hfr2) (st6.Pre _ _ hD5)
            (R:=fun r s7=>Except.casesOn (motive:=fun _=>Prop) r (fun e=>cameBackBy (model P w) A env (clE w A env R) e s7) fun _=>∃ m',m' < m+1∧GInv w h₀ Z n K env elt' t' ifs' (.mk t2' it2' ifs2'::gs2') k (e',σ') I fp μ s m' s7) fun μ8 s8 st8 O8=>by
              have st58:Stp h₀ (Xof K env) μ5 s5 μ8 s8:=(stp_nil st6).drop st8 fun a ha=>(List.mem_append.mp ha).imp id (hfr2 a)
              refine anE (src_after B hs5 hf5 st58 far.xof hn) fun hs8 hf8=>?_
              exact ⟨m,Nat.lt_succ_self _,⟨e3,src',σ7,μ8,hm1,he1,O8,hs8,hf8,st15.trans (st58.wide wide2)⟩⟩
          refine compStart_any hsome (beq_iff_eq.mp ha2) inner ?_
          exact iter_self hs2 (G_notnil h7) inner
end
end Mine
end
section
open PySem PySem.W PyProof.Rows PySem.SeqAt
set_option maxRecDepth 100000
namespace Mine
noncomputable def clOf (env:Env):List (Str × NameKind)→List (Str × Addr)→List (Str × Addr)
  | [],acc=>acc
  | (n,k)::r,acc=>if k == .free then (match env.cells.lookup n with
    | some c=>clOf env r ((n,c)::acc)
    | none=>clOf env r acc) else clOf env r acc
theorem closureFor_eq {scope:Scope} {env:Env} (h:∀ x,(x,NameKind.free)∈scope.names→∃ c,env.cells.lookup x=some c):closureFor scope env=pure (clOf env scope.names []):=by
  have:∀ (l:List (Str × NameKind)) (acc:List (Str × Addr)),(∀ x,(x,NameKind.free)∈l→∃ c,env.cells.lookup x=some c) →
      (forIn l acc fun (x:Str × NameKind) (cs:List (Str × Addr))=>if (x.2 == NameKind.free)=true then (do let __do_lift ← cellOf env x.1; pure (ForInStep.yield ((x.1,__do_lift)::cs)):Sem (ForInStep (List (Str × Addr)))) else pure (ForInStep.yield cs))=pure (clOf env l acc):=by
    intro l
    induction l with
    | nil=>intro acc _; rfl
    | cons y r ih =>
      intro acc hh
      obtain ⟨n,k⟩:=y
      rw [List.forIn_cons]
      unfold clOf
      by_cases hk:(k == NameKind.free)=true
      · have hk':k=.free:=by revert hk; cases k <;> simp <;> decide
        subst hk'
        obtain ⟨c,hc⟩:=hh n List.mem_cons_self
        simp only [hk,if_true]
        have:cellOf env n=pure c:=by unfold cellOf; rw [hc]
        rw [this,hc]
        exact ih _ fun x hx=>hh x (List.mem_cons_of_mem _ hx)
      · simp only [if_neg hk]
        exact ih _ fun x hx=>hh x (List.mem_cons_of_mem _ hx)
  unfold closureFor
  have:=this scope.names [] h
  show (forIn scope.names [] _ >>= fun cs=>pure cs)=_
  rw [show (forIn scope.names ([]:List (Str × Addr)) (fun (x:Str × NameKind) (cs:List (Str × Addr))=>if (x.2 == NameKind.free)=true then (do let __do_lift ← cellOf env x.1; pure (ForInStep.yield ((x.1,__do_lift)::cs)):Sem (ForInStep (List (Str × Addr)))) else pure (ForInStep.yield cs)))=pure (clOf env scope.names []) from this]
  rfl
theorem clOf_mem {env:Env}:∀ {l:List (Str × NameKind)} {acc:List (Str × Addr)} {x c},(x,c)∈clOf env l acc→(x,c)∈acc∨((x,NameKind.free)∈l∧env.cells.lookup x=some c)
  | [],acc,x,c,h=>.inl h
  | (n,k)::r,acc,x,c,h=>by
    unfold clOf at h
    by_cases hk:(k == NameKind.free)=true
    · have hk':k=.free:=by revert hk; cases k <;> simp <;> decide
      subst hk'
      rw [if_pos hk] at h
      cases hc:env.cells.lookup n with
      | none =>
        rw [hc] at h
        exact (clOf_mem h).imp id fun ⟨a,b⟩=>⟨List.mem_cons_of_mem _ a,b⟩
      | some c' =>
        rw [hc] at h
        rcases clOf_mem h with q | ⟨a,b⟩
        · rcases List.mem_cons.mp q with e | q
          · cases e; exact .inr ⟨List.mem_cons_self,hc⟩
          · exact .inl q
        · exact .inr ⟨List.mem_cons_of_mem _ a,b⟩
    · rw [if_neg hk] at h
      exact (clOf_mem h).imp id fun ⟨a,b⟩=>⟨List.mem_cons_of_mem _ a,b⟩
theorem clOf_keeps {env:Env}:∀ {l:List (Str × NameKind)} {acc:List (Str × Addr)} {y:Str × Addr},y∈acc→y∈clOf env l acc
  | [],acc,y,h=>h
  | (n,k)::r,acc,y,h=>by
    unfold clOf
    split
    · split
      · exact clOf_keeps (List.mem_cons_of_mem _ h)
      · exact clOf_keeps h
    · exact clOf_keeps h
theorem clOf_has {env:Env}:∀ {l:List (Str × NameKind)} {acc:List (Str × Addr)} {x c},(x,NameKind.free)∈l→env.cells.lookup x=some c→(x,c)∈clOf env l acc
  | (n,k)::r,acc,x,c,hm,hc=>by
    unfold clOf
    rcases List.mem_cons.mp hm with e | hm
    · cases e
      rw [if_pos (by decide),hc]
      exact clOf_keeps List.mem_cons_self
    · split
      · split <;> exact clOf_has hm hc
      · exact clOf_has hm hc
theorem lookup_of_mem {α:Type}:∀ {l:List (Str × α)} {x:Str} {a:α},(l.map (·.1)).Nodup→(x,a)∈l→l.lookup x=some a
  | (y,b)::r,x,a,hn,hm=>by
    rw [List.map_cons,List.nodup_cons] at hn
    rw [List.lookup_cons]
    rcases List.mem_cons.mp hm with e | hm
    · cases e; simp
    · have:(x == y)=false:=by
        cases e:x == y with
        | false=>rfl
        | true=>exact absurd (List.mem_map.mpr ⟨(x,a),hm,beq_iff_eq.mp e⟩) hn.1
      rw [this]
      exact lookup_of_mem hn.2 hm
theorem clOf_nodup {env:Env}:∀ {l:List (Str × NameKind)} {acc:List (Str × Addr)},(l.map (·.1)).Nodup→(acc.map (·.1)).Nodup→(∀ x,x∈l.map (·.1)→x ∉ acc.map (·.1))→((clOf env l acc).map (·.1)).Nodup
  | [],acc,_,h,_=>h
  | (n,k)::r,acc,hn,h,hd=>by
    rw [List.map_cons,List.nodup_cons] at hn
    unfold clOf
    have hr:∀ x,x∈r.map (·.1)→x ∉ acc.map (·.1):=fun x hx=>hd x (List.mem_cons_of_mem _ hx)
    split
    · split
      · rename_i c hc
        refine clOf_nodup hn.2 ?_ fun x hx q=>?_
        · rw [List.map_cons,List.nodup_cons]; exact ⟨hd n List.mem_cons_self,h⟩
        · rw [List.map_cons] at q
          rcases List.mem_cons.mp q with rfl | q
          · exact hn.1 hx
          · exact hr x hx q
      · exact clOf_nodup hn.2 h hr
    · exact clOf_nodup hn.2 h hr
theorem relabel_lookup {scope:Scope} {env:Env} (x:Str):(relabel scope env).names.lookup x=(scope.names.lookup x).map fun k=>if (k == .free && env.scope.kind == .function && env.kindOf x == some .cell) then .cell else k:=by
  unfold relabel
  generalize scope.names=l
  induction l with
  | nil=>rfl
  | cons y r ih =>
    obtain ⟨n,k⟩:=y
    simp only [List.map_cons] at ih ⊢
    have key:∀ (c:Bool) (l:List (Str × NameKind)),List.lookup x ((if c=true then (n,NameKind.cell) else (n,k))::l)=if (x == n)=true then some (if c=true then NameKind.cell else k) else List.lookup x l:=by
      intro c l
      induction c with
      | true=>simp only [if_true]; rw [List.lookup_cons]; cases x == n <;> rfl
      | false=>simp only [Bool.false_eq_true,if_false]; rw [List.lookup_cons]; cases x == n <;> rfl
    rw [key,List.lookup_cons]
    cases hx:x == n with
    | true =>
      obtain rfl:=beq_iff_eq.mp hx
      rfl
    | false=>simp only [Bool.false_eq_true,if_false]; exact ih
theorem lk_only {fr:List Nat}:∀ {l:List (Nat × V)} {i:Nat} {v:V},lk (only fr l) i=some v→isIn i fr=true∧lk l i=some v
  | [],i,v,h=>by simp [only,lk] at h
  | (j,u)::r,i,v,h=>by
    unfold only at h
    cases hj:isIn j fr with
    | true =>
      rw [hj] at h
      rcases lk_cons h with ⟨rfl,rfl⟩ | ⟨hne,h⟩
      · exact ⟨hj,lk_cons_self _ _ _⟩
      · refine anE (lk_only h) fun h1 h2=>?_
        refine ⟨h1,?_⟩
        unfold lk
        cases e:Nat.beq j i with
        | true=>exact absurd (Nat.eq_of_beq_eq_true e) hne
        | false=>exact h2
    | false =>
      rw [hj] at h
      refine anE (lk_only h) fun h1 h2=>?_
      refine ⟨h1,?_⟩
      unfold lk
      cases e:Nat.beq j i with
      | true=>rw [Nat.eq_of_beq_eq_true e,h1] at hj; cases hj
      | false=>exact h2
theorem isIn_mem:∀ {l:List Nat} {i:Nat},isIn i l=true→i∈l
  | [],i,h=>by cases h
  | j::r,i,h=>by
    unfold isIn at h
    cases e:Nat.beq j i with
    | true=>rw [Nat.eq_of_beq_eq_true e]; exact List.mem_cons_self
    | false=>rw [e] at h; exact List.mem_cons_of_mem _ (isIn_mem h)
theorem frees_mem {s:Scope} {i:Nat} (h:i∈frees s):∃ x,(x,NameKind.free)∈s.names∧num x=some i:=by
  unfold frees at h
  obtain ⟨⟨x,k⟩,hm,hx⟩:=List.mem_filterMap.mp h
  cases k <;> simp at hx
  exact ⟨x,hm,hx⟩
section
variable {w:World} {h₀:Heap} {Z:Scr}
theorem sc_parts {K:Str→Option NameKind} {s:Scope} (h:scOk K s=true):(s.names.map (·.1)).Nodup∧uniqN s=true∧∀ x,(x,NameKind.free)∈s.names→K x=some .cell∨K x=some .free:=by
  unfold scOk at h
  refine anE (Bool.and_eq_true_iff.mp h) fun h1 h2=>?_
  have h2:=List.all_eq_true.mp h2
  refine ⟨of_decide_eq_true h1,List.all_eq_true.mpr fun y hy=>(Bool.and_eq_true_iff.mp (h2 y hy)).1,fun x hx=>?_⟩
  have:=(Bool.and_eq_true_iff.mp (h2 _ hx)).2
  simp only at this
  split at this
  · rename_i e; exact .inl e
  · rename_i e; exact .inr e
  · cases this
theorem under_env {K e env} {μ:List Addr} {σ:St} {s:Shared} {scope:Scope} (B:Base w h₀ Z) (O:Ok w h₀ Z K e env μ σ s) (hsc:scOk K scope=true) :
    closureFor scope env=pure (clOf env scope.names []) ∧
    (∀ x c,(x,c)∈clOf env scope.names []→(∃ ov,s.heap.IsCell c ov)∧c ∉ μ∧h₀.get? c=none∧scope.names.lookup x=some .free) ∧
    ((clOf env scope.names []).Pairwise fun x y=>x.2≠y.2) ∧
    (∀ x,scope.names.lookup x=some .free→∃ c,(clOf env scope.names []).lookup x=some c) ∧
    (∀ i v,lk (only (frees scope) e.cel) i=some v→∃ x c val,nm i=some x∧scope.names.lookup x=some .free∧(clOf env scope.names []).lookup x=some c∧s.heap.IsCell c (some val)∧VR Z μ s.heap v val):=by
  refine anE (sc_parts hsc) fun hnd zz=>anE zz fun hu hfree=>?_
  have has:∀ x,(x,NameKind.free)∈scope.names→∃ c,env.cells.lookup x=some c:=fun x hx=>O.er.has x (O.kr.cel x (hfree x hx))
  have nd:((clOf env scope.names []).map (·.1)).Nodup:=clOf_nodup hnd (by simp) (by simp)
  have look:∀ x,(x,NameKind.free)∈scope.names→∃ c,env.cells.lookup x=some c∧(clOf env scope.names []).lookup x=some c:=fun x hx=>by
    refine exE (has x hx) fun c hc=>?_
    exact ⟨c,hc,lookup_of_mem nd (clOf_has hx hc)⟩
  refine ⟨closureFor_eq has,fun x c hm=>?_,?_,fun x hx=>?_,fun i v hv=>?_⟩
  · rcases clOf_mem hm with q | ⟨q1,q2⟩
    · cases q
    · obtain ⟨h1,h2,h3⟩:=O.er.cellsOk x c (mem_of_lookup q2)
      exact ⟨h1,h2,h3,uniq_lookup hu q1⟩
  · have:∀ l:List (Str × Addr),(l.map (·.1)).Nodup→(∀ x c,(x,c)∈l→env.cells.lookup x=some c)→l.Pairwise fun x y=>x.2≠y.2:=by
      intro l
      induction l with
      | nil=>intro _ _; exact List.Pairwise.nil
      | cons y r ih =>
        intro h1 h2
        rw [List.map_cons,List.nodup_cons] at h1
        refine List.pairwise_cons.mpr ⟨fun z hz e=>?_,ih h1.2 fun x c h=>h2 x c (List.mem_cons_of_mem _ h)⟩
        have a:=mem_of_lookup (h2 y.1 y.2 List.mem_cons_self)
        have b:=mem_of_lookup (h2 z.1 z.2 (List.mem_cons_of_mem _ hz))
        rw [e] at a
        have:=name_of_addr O.er.apart a b
        exact h1.1 (List.mem_map.mpr ⟨z,hz,this.symm⟩)
    refine this _ nd fun x c h=>?_
    rcases clOf_mem h with q | ⟨_,q2⟩
    · cases q
    · exact q2
  · refine exA (look x (mem_of_lookup hx)) fun c _ h=>?_
    exact ⟨c,h⟩
  · refine anE (lk_only hv) fun h1 h2=>?_
    refine hid fun GG kk=>?_
    refine exA (frees_mem (isIn_mem h1)) fun x h3 h4=>?_
    obtain ⟨y,c,val,h5,h6,h7,h8⟩:=O.er.cells i v h2
    refine kk ?_
    clear kk GG
    obtain rfl:=Option.some.inj ((num_nm h4).symm.trans h5)
    refine exA (look x h3) fun c' h9 h10=>?_
    obtain rfl:=Option.some.inj (h6.symm.trans h9)
    exact ⟨x,c,val,h5,uniq_lookup hu h3,h10,h7,h8⟩
theorem Ok.relab {e env} {μ:List Addr} {σ:St} {s:Shared} {scope:Scope} {outer:Env} (O:Ok w h₀ Z (kinds scope) e env μ σ s) (he:env.scope=scope):Ok w h₀ Z (kinds scope) e { env with scope:=relabel scope outer } μ σ s:=by
  have kd:∀ x,Env.kindOf { env with scope:=relabel scope outer } x=(scope.names.lookup x).map fun k=>if (k == .free && outer.scope.kind == .function && outer.kindOf x == some .cell) then .cell else k:=fun x=>relabel_lookup x
  have ko:∀ x,env.kindOf x=scope.names.lookup x:=fun x=>by unfold Env.kindOf; rw [he]
  have R:=O.er
  refine ⟨⟨fun x hx=>?_,fun x hx=>?_,fun x hx=>?_⟩,⟨?_,R.glob,R.bl,R.Lμ,R.Llow,R.ns,R.cells,fun x hx=>?_,R.cellsOk,R.apart,R.code⟩,O.now⟩
  · rw [kd]; unfold kinds at hx; rw [hx]; rfl
  · rw [kd]
    unfold kinds at hx
    rcases hx with hx | hx <;> rw [hx]
    · exact .inl rfl
    · simp only [Option.map_some]
      split
      · exact .inl rfl
      · exact .inr rfl
  · rw [kd]; unfold kinds at hx; rw [hx]; rfl
  · have:=R.kind
    rw [he] at this
    exact this
  · refine R.has x ?_
    rw [ko]
    rw [kd] at hx
    cases h:scope.names.lookup x with
    | none=>rw [h] at hx; simp at hx
    | some k =>
      rw [h] at hx
      induction k with
      | cell=>exact .inl rfl
      | free=>exact .inr rfl
      | _=>simp at hx
theorem Far.recs {K e env} {μ:List Addr} {σ:St} {s:Shared} {fp:List Addr} (O:Ok w h₀ Z K e env μ σ s) (hr:∀ a∈fp,∃ o vs,s.heap.get? a=some o∧o.data=.fields vs∧o.cls≠.type "code"):Far K env fp:=by
  refine ⟨fun q=>?_,fun y c hc q=>?_⟩
  · refine exE (hr _ q) fun o zz=>exE zz fun vs zz=>anE zz fun e zz=>anE zz fun hd _=>?_
    obtain ⟨m,⟨o',es,ep,e',hd',_⟩,_⟩:=O.er.ns
    obtain rfl:=Option.some.inj (e.symm.trans e')
    rw [hd] at hd'; cases hd'
  · refine exE (hr _ q) fun o zz=>exE zz fun vs zz=>anE zz fun e zz=>anE zz fun hd _=>?_
    refine hid fun GG kk=>?_
    obtain ⟨⟨ov,o',e',hd'⟩,_⟩:=O.er.cellsOk y c hc
    refine kk ?_
    clear kk GG
    obtain rfl:=Option.some.inj (e.symm.trans e')
    rw [hd] at hd'; cases hd'
theorem comp_core {n:Nat} (hE:∀ m,m≤n→SndE w h₀ Z m) (hT:∀ m,m≤n→SndT w h₀ Z m) (B:Base w h₀ Z) {K e env A μ σ s} {elt:Expr} {c:CE} {g:Comprehension} {gs:List Comprehension} {g':Gen} {gs':List Gen} {scope:Scope} {p pos:Pos} {v:V} {σ':St}
    (hk:scope.kind=.function) (hsc:scOk K scope=true) (hel:Ex (kinds scope) elt c) (hg:Ge (kinds scope) K g g') (hgs:Ges (kinds scope) gs gs') (he:stepE (fs n) e (.comp (frees scope) c (g'::gs')) σ=some (v,σ')) (gA:GoodA n A) (O:Ok w h₀ Z K e env μ σ s)
    {use:Option (Value→Sem Unit)} {Q:Value→Shared→Prop} {E:Value→Shared→Prop}
    (h:∀ μ' s' val C m,Stp h₀ [] μ s μ' s'→Sim Z h₀ μ' σ' s'.heap→VR Z μ' s'.heap v val→s.heap.get? C=none→h₀.get? C=none→C ∉ μ'→s'.heap.Ns C m→compPost (model P w) A E use Q val C (.ok .next) s') :
    wpAny (model P w) A (comprehension (.ListComp elt (g::gs) scope p) scope env pos (newList []) false (eval g.iter env) use) Q E s:=by
  refine anE (sc_parts hsc) fun hnd zz=>anE zz fun hu hfree=>?_
  induction hg with
  | @mk t it ifs a t' it' ifs' ha ht hit hi =>
  refine X.bindE he fun src σ1 h1 he=>?_
  refine X.bindE he fun e3 σ3 h3 he=>?_
  cases he
  have cl0:=(under_env B O hsc).1
  refine wpAny_comprehension_free (g:=⟨t,it,ifs,a⟩) (gs:=gs) rfl (folded_of hit env) cl0 hk (fun x hx hl=>by rw [uniq_lookup hu (x:=x.1) (k:=x.2) hx,hl]) ?_
  refine evIt_sound (hE n (Nat.le_refl _)) B gA hit h1 O fun μ1 s1 I fp st1 S1 hs1 hf1 hfr1=>?_
  have N1:=O.now.stp st1 S1
  refine anE (pushL (xs:=[]) (items:=#[]) N1 (by exact .nil) 0 s1.toks) fun st2 zz=>anE zz fun S2 hD=>?_
  have O2:=(O.stp B st1 S1).stp B st2 S2
  have st12:=st1.trans st2
  refine wpAny_newList ?_ (by simp)
  show wpAny (model P w) A (newFunctionEnv scope env.globals (clOf env scope.names []) [] env.qual none .none (some env)) _ E { s1 with heap:=s1.heap.push { cls:=.type "list",data:=.seq #[] } }
  rw [O.er.glob]
  refine hid fun GG kk=>?_
  obtain ⟨_,u2,u3,u4,u5⟩:=under_env (scope:=scope) B O2 hsc
  refine kk ?_
  clear kk GG
  have hbl:(newEnv scope (s1.heap.push { cls:=.type "list",data:=.seq #[] }).objs.size mainNs (cellsFrom ((s1.heap.push { cls:=.type "list",data:=.seq #[] }).objs.size+1) scope.names (clOf env scope.names [])) env.qual none .none (some env) builtinsNs).builtins=builtinsNs:=O.er.bl
  refine newEnv_sound (cel:=only (frees scope) e.cel) (l:=[]) (fnA:=0) B O2.now hk hu u2 u3 u4 u5 hbl .nil (fun q=>nomatch q) fun cenv s3 hce st3 hX3 O3=>?_
  have O3':=O3.relab (outer:=env) (by rw [hce]; rfl)
  have st13:=st12.trans st3
  have hs2:SrcR w (μ1++[s1.heap.objs.size]) s3.heap src I fp:=by
    refine (hs1.keep (Pre.app _ _) (fun a o e=>Heap.get?_push_of_some _ e:∀ a o,s1.heap.get? a=some o→(s1.heap.push { cls:=.type "list",data:=.seq #[] }).get? a=some o)).keepF (fun _ _ e=>e) (fun a ha o e=>?_) (G_notnil h3)
    refine st3.keep a o e ?_ (by simp) fun q=>?_
    · intro q
      rcases List.mem_append.mp q with q | q
      · exact hf1.out a ha q
      · rw [List.mem_singleton.mp q] at ha
        refine exE (hs1.recs.2 _ ha) fun _ zz=>exA zz fun vs e' _=>?_
        rw [get?_size] at e'; cases e'
    · refine exE (B.b376) fun o1 e1=>?_
      rw [← q,hf1.low a ha] at e1; cases e1
  have hf2:FpOk h₀ fp (μ1++[s1.heap.objs.size]):=by
    refine ⟨fun a ha q=>?_,hf1.low⟩
    rcases List.mem_append.mp q with q | q
    · exact hf1.out a ha q
    · rw [List.mem_singleton.mp q] at ha
      refine exE (hs1.recs.2 _ ha) fun _ zz=>exA zz fun vs e' _=>?_
      rw [get?_size] at e'; cases e'
  have far:=Far.recs O3' hs2.recs.2
  have start:codeAny (model P w) A (.compLoop (.ListComp elt (⟨t,it,ifs,a⟩::gs) scope p) 0 (.ref I) (.ref s1.heap.objs.size) { cenv with scope:=relabel scope env }) (compPost (model P w) A E use Q (.ref s1.heap.objs.size) cenv.locals) s3:=by
    refine G_sound (gens:=⟨t,it,ifs,a⟩::gs) B hel n hE hT gA (d:=0) rfl (by simpa using ha) ht hi (show Ges (kinds scope) ((⟨t,it,ifs,a⟩::gs:List Comprehension).drop (0+1)) gs' from hgs) h3 O3' hs2 hf2 far hD fun μ4 s4 st4 O4=>?_
    have dead:∀ a∈Xof (kinds scope) cenv,s.heap.get? a=none:=fun a ha=>st12.dead (hX3 a ha)
    have st14:Stp h₀ [] μ s μ4 s4:=st13.drop st4 fun a ha=>by
      rcases List.mem_append.mp ha with q | q
      · exact .inr (dead a q)
      · exact .inr (hfr1 a q)
    refine exA (O4.er.ns) fun m hm _=>?_
    exact h μ4 s4 (.ref s1.heap.objs.size) cenv.locals m st14 O4.now.sim (.lst (st4.Pre _ _ hD)) (dead _ (by unfold Xof; exact List.mem_cons_self)) O4.er.Llow O4.er.Lμ hm
  exact compStart_any (d:=0) rfl (by simpa using ha) start (iter_self hs2 (G_notnil h3) start)
end
section
variable {w:World} {h₀:Heap} {Z:Scr}
theorem Stp.dictC {μ:List Addr} {s:Shared} {h':Heap} {C:Addr} {m} (B:Base w h₀ Z) (hm:s.heap.Ns C m) (h0:h₀.get? C=none) (hs:Heap.SameBut C s.heap h') (tk:Nat):Stp h₀ [C] μ s μ { s with heap:=h',toks:=tk }:=by
  refine hid fun GG kk=>?_
  obtain ⟨oC,es,ep,hoC,hdC,_⟩:=hm
  refine kk ?_
  clear kk GG
  have hk:∀ b o,b≠C→s.heap.get? b=some o→h'.get? b=some o:=fun b o hb e=>(hs.2 b hb).trans e
  refine ⟨⟨[],by simp,by simp⟩,fun b o e _ h _=>hk b o (by simpa using h) e,frozen_of hs fun o e=>by obtain rfl:=Option.some.inj (hoC.symm.trans e); exact .inl ⟨_,_,hdC⟩,fun b o h e=>⟨o,hk b o (by simpa using h) e⟩,rfl,rfl,fun i=>⟨fun b o e n=>?_,?_⟩⟩
  · refine hk b o (fun hb=>?_) (i.keep b o e n)
    rw [hb,h0] at e; cases e
  · refine i.tab.keepsAt fun b o hb e=>hk b o (fun q=>?_) e
    subst q
    rcases hb with rfl | rfl | ⟨_,vs,hb⟩
    · obtain ⟨o1,e1⟩:=B.b378; rw [h0] at e1; cases e1
    · obtain ⟨o1,e1⟩:=B.b376; rw [h0] at e1; cases e1
    · obtain rfl:=Option.some.inj (hoC.symm.trans e)
      rw [hdC] at hb; cases hb
theorem E_comp {n:Nat} (hE:∀ m,m≤n→SndE w h₀ Z m) (hT:∀ m,m≤n→SndT w h₀ Z m) (B:Base w h₀ Z) {K e env A μ σ s} {elt:Expr} {c:CE} {g:Comprehension} {gs:List Comprehension} {g':Gen} {gs':List Gen} {scope:Scope} {p:Pos} {v:V} {σ':St}
    (hk:scope.kind=.function) (hsc:scOk K scope=true) (hel:Ex (kinds scope) elt c) (hg:Ge (kinds scope) K g g') (hgs:Ges (kinds scope) gs gs') (he:stepE (fs n) e (.comp (frees scope) c (g'::gs')) σ=some (v,σ')) (gA:GoodA n A) (O:Ok w h₀ Z K e env μ σ s) :
    Wp w h₀ Z A (eval (.ListComp elt (g::gs) scope p) env) μ s σ' v:=by
  intro Q E h
  obtain ⟨gt,gi,gf,ga⟩:=g
  have ha:firstAsync (⟨gt,gi,gf,ga⟩::gs)=false:=by
    cases hg with
    | mk ha=>unfold firstAsync; simp only; rw [beq_iff_eq.mp ha]; rfl
  rw [arm_eval_ListComp]
  show wpAny (model P w) A (comprehension (.ListComp elt (⟨gt,gi,gf,ga⟩::gs) scope p) scope env (firstIterPos (⟨gt,gi,gf,ga⟩::gs) p) (newList []) (firstAsync (⟨gt,gi,gf,ga⟩::gs)) (eval gi env) none) Q E s
  rw [ha]
  refine comp_core hE hT B hk hsc hel hg hgs he gA O fun μ' s' val C m st S r hC hC0 hCμ hm=>?_
  refine ⟨m,hm,fun h' hs=>?_⟩
  have st2:=Stp.dictC (μ:=μ') B hm hC0 hs s'.toks
  refine h μ' _ val (st.drop st2 fun a ha=>.inr ?_) (S.stp st2 rfl fun a ha o e=>(hs.2 a fun q=>hCμ (q ▸ ha)).trans e) (vr_frozen st2.fro r)
  rw [List.mem_singleton.mp ha]; exact hC
end
section
variable {w:World} {h₀:Heap} {Z:Scr}
theorem Assign_one {M:Model} {A:Around} {E:Value→Shared→Prop} {s:Shared} {env:Env} {t v:Expr} {pos:Pos} {Q:Flow→Shared→Prop}
    (h:wpAny M A (eval v env) (fun x s₁=>wpAny M A (assign t env x) (fun _=>Q .next) E s₁) E s) (he:assignEach [t] env=[(false,assign t env)]) (hs:swapsWithSole [t] v pos.line env=pure false) (hw:swappedStores [t] v env=pure none) :
    wpAny M A (exec (.Assign [t] v pos) env) Q E s:=by
  rw [PyProof.Rows.exec_Assign]
  refine wpAny_bind (wpAny_standAt ?_)
  rw [hs]
  refine wpAny_bind (wpAny_pure ?_)
  rw [if_neg (by decide)]
  refine wpAny_bind (wpAny_mono h (fun v s₁ h₁=>?_) fun _ _ x=>x)
  rw [hw,he]
  refine wpAny_bind (wpAny_pure ?_)
  show wpAny M A (do assignAll v [assign t env]; pure .next) Q E s₁
  exact wpAny_bind (wpAny_mono h₁ (fun _ _ x=>wpAny_pure x) fun _ _ x=>x)
noncomputable def compScope (v:Expr):Option Scope:=PySem.swapsWith.match_1 (fun _=>Option Scope) v (fun _ _ s _=>some s) (fun _ _ s _=>some s) (fun _ _ _ s _=>some s) fun _=>none
theorem sw_pure (t v:Expr) (line:Nat) (env:Env):∃ b,swapsWithSole [t] v line env=pure b:=by
  show ∃ b,PySem.swapsWith.match_6 (fun _=>Sem Bool) (compScope v) _ _=(pure b:Sem Bool)
  cases compScope v with
  | none=>exact ⟨_,rfl⟩
  | some sc=>cases t <;> exact ⟨_,rfl⟩
theorem sw_none {t v:Expr} {line:Nat} {env:Env} (h:compScope v=none):swapsWithSole [t] v line env=pure false:=by
  show PySem.swapsWith.match_6 (fun _=>Sem Bool) (compScope v) _ _=_
  rw [h]
end
theorem eraseDups_le:∀ (n:Nat) (l:List Str),l.length≤n→l.eraseDups.length≤l.length∧(l.eraseDups.length=l.length→l.Nodup)
  | _,[],_=>⟨by simp,fun _=>List.nodup_nil⟩
  | 0,_::_,h=>by simp at h
  | n+1,a::as,h=>by
    rw [List.eraseDups_cons]
    have hf:(as.filter fun b=>!b == a).length≤as.length:=List.length_filter_le _ _
    refine anE (eraseDups_le n (as.filter fun b=>!b == a) (by simp at h; omega)) fun h1 h2=>?_
    simp only [List.length_cons]
    refine ⟨by omega,fun e=>?_⟩
    have e1:(as.filter fun b=>!b == a).length=as.length:=by omega
    have e2:as.filter (fun b=>!b == a)=as:=List.filter_eq_self.mpr fun b hb=>(List.length_filter_eq_length_iff.mp e1) b hb
    rw [List.nodup_cons]
    refine ⟨fun hm=>?_,?_⟩
    · have:=List.length_filter_eq_length_iff.mp e1 a hm
      simp at this
    · rw [e2] at h2
      exact h2 (by rw [e2] at e; omega)
inductive NamesR (K:Str→Option NameKind):List Str→List Pl→Prop
  | nil:NamesR K [] []
  | cons {x xs i ps}:K x=some .local→num x=some i→NamesR K xs ps→NamesR K (x::xs) (.loc i::ps)
noncomputable def nameF (env:Env) (line:Nat):Expr→Option Str
  | .Name id pos=>if (env.kindOf id == some .local && pos.line == line)=true then some id else none
  | _=>none
theorem namesR_of {K env} (kr:KR K env) (line:Nat) {ts:List Expr}:∀ {ps:List Pl},cTgs K ts=some ps→(ts.filterMap (nameF env line)).length=ts.length→NamesR K (ts.filterMap (nameF env line)) ps:=by
  induction ts with
  | nil=>exact fun h _=>Option.some.inj h ▸ .nil
  | cons t ts ih =>
    intro ps h hl
    refine mapO_cons h fun pl ps' h3 h4=>?_
    obtain ⟨x,pos,rfl,h6⟩:=cTg1_inv h3
    cases c:(env.kindOf x == some .local && pos.line == line) with
    | false =>
      rw [List.filterMap_cons_none (show nameF env line (.Name x pos)=none from if_neg (by rw [c]; exact Bool.noConfusion))] at hl
      exact absurd (hl ▸ List.length_filterMap_le _ _) (Nat.not_succ_le_self _)
    | true =>
      have e:nameF env line (.Name x pos)=some x:=if_pos c
      rw [List.filterMap_cons_some e] at hl ⊢
      have hk:env.kindOf x=some .local:=eq_of_beq (and_t c).1
      refine obind h6 fun k q h3=>obind h3 fun i h5 h3=>?_
      induction k with
      | «local»=>exact Option.some.inj h3 ▸ .cons q h5 (ih h4 (Nat.succ.inj hl))
      | cell=>rcases kr.cel x (.inl q) with z | z <;> exact nomatch (hk.symm.trans z)
      | _=>exact nS h3
theorem swapped_cases {K env} (kr:KR K env) {t v:Expr} {t':Tg} (ht:cTg K t=some t') (hsw:swOk t v=true) :
    swappedStores [t] v env=pure none∨∃ ts k p names ps,t=.Tuple ts k p∧t'=.tup ps∧(names.length=ts.length)∧swappedStores [t] v env=pure (some names)∧NamesR K names ps∧names.Nodup:=by
  cases cTg_inv ht with
  | nm=>exact .inl rfl
  | @tup ts k p ps h1 =>
    cases v with
    | Tuple vs k' p' =>
      unfold swappedStores
      simp only
      split
      · exact .inl rfl
      · split
        · exact .inl rfl
        · generalize hl:(Option.map (fun x:Expr=>x.pos.line) ts.head?).getD 0=line
          generalize hN:List.filterMap _ ts=N
          have hN':N=ts.filterMap (nameF env line):=by
            rw [← hN]
            congr 1
          split
          · exact .inl rfl
          · rename_i hc
            simp only [Bool.or_eq_true,bne_iff_ne,ne_eq,not_or,Decidable.not_not] at hc
            refine anE hc fun c1 c2=>?_
            split
            · exact .inl rfl
            · rename_i hf
              split
              · rename_i hcc
                rcases Bool.or_eq_true_iff.mp hsw with q | q
                · exact absurd (not_t q) (by rw [hcc]; exact Bool.noConfusion)
                · exact absurd q hf
              · exact .inr ⟨ts,k,p,N,ps,rfl,rfl,c1,rfl,by rw [hN'] at c1 ⊢; exact namesR_of kr line h1 c1,(eraseDups_le N.length N (Nat.le_refl _)).2 c2⟩
    | _=>exact .inl rfl
theorem lk_app {r:List (Nat × V)} {i:Nat}:∀ {A:List (Nat × V)},(A.map (·.1)).Nodup→(∀ v,(i,v)∈A→lk (A++r) i=some v)∧((∀ v,(i,v) ∉ A)→lk (A++r) i=lk r i)
  | [],_=>⟨fun v h=>(nomatch h),fun _=>rfl⟩
  | (j,u)::A,hn=>by
    rw [List.map_cons,List.nodup_cons] at hn
    refine anE (lk_app (A:=A) (r:=r) (i:=i) hn.2) fun h1 h2=>?_
    have step:lk ((j,u)::(A++r)) i=match Nat.beq j i with | true=>some u | false=>lk (A++r) i:=rfl
    refine ⟨fun v hv=>?_,fun hv=>?_⟩
    · show lk ((j,u)::(A++r)) i=some v
      rw [step]
      rcases List.mem_cons.mp hv with e | hv
      · cases e; rw [Nat.beq_refl]
      · have:j≠i:=fun q=>hn.1 (List.mem_map.mpr ⟨(i,v),hv,q.symm⟩)
        cases e:Nat.beq j i with
        | true=>exact absurd (Nat.eq_of_beq_eq_true e) this
        | false=>exact h1 v hv
    · show lk ((j,u)::(A++r)) i=lk r i
      rw [step]
      have:j≠i:=fun q=>hv u (by rw [q]; exact List.mem_cons_self)
      cases e:Nat.beq j i with
      | true=>exact absurd (Nat.eq_of_beq_eq_true e) this
      | false=>exact h2 fun v q=>hv v (List.mem_cons_of_mem _ q)
theorem zip_rev {α β:Type}:∀ {as:List α} {bs:List β},as.length=bs.length→as.reverse.zip bs.reverse=(as.zip bs).reverse
  | [],[],_=>rfl
  | [],_::_,h=>by cases h
  | _::_,[],h=>by cases h
  | a::as,b::bs,h=>by
    rw [List.reverse_cons,List.reverse_cons,List.zip_append (by simpa using h),zip_rev (by simpa using h)]
    simp
theorem lk_rev {A r:List (Nat × V)} {i:Nat} {v:V} (hn:(A.map (·.1)).Nodup) (h:lk (A.reverse++r) i=some v):lk (A++r) i=some v:=by
  have hn':(A.reverse.map (·.1)).Nodup:=by rw [List.map_reverse]; exact List.pairwise_reverse.mpr (hn.imp fun h=>Ne.symm h)
  obtain ⟨a1,a2⟩:=lk_app (r:=r) (i:=i) hn
  refine anE (lk_app (r:=r) (i:=i) hn') fun b1 b2=>?_
  by_cases hm:∃ u,(i,u)∈A
  · obtain ⟨u,hu⟩:=hm
    rw [b1 u (List.mem_reverse.mpr hu)] at h
    rw [a1 u hu]; exact h
  · have h1:∀ u,(i,u) ∉ A:=fun u q=>hm ⟨u,q⟩
    rw [b2 fun u q=>h1 u (List.mem_reverse.mp q)] at h
    rw [a2 h1]; exact h
section
variable {w:World} {h₀:Heap} {Z:Scr}
theorem Ok.congr {K env} {e1 e2:EE} {μ:List Addr} {σ:St} {s:Shared} (O:Ok w h₀ Z K e1 env μ σ s) (hl:∀ i v,lk e2.loc i=some v→lk e1.loc i=some v) (hc:e2.cel=e1.cel) (hf:e2.fn=379→e1.fn=379):Ok w h₀ Z K e2 env μ σ s:=by
  obtain ⟨kr,R,N⟩:=O
  refine ⟨kr,⟨R.kind,R.glob,R.bl,R.Lμ,R.Llow,?_,by rw [hc]; exact R.cells,R.has,R.cellsOk,R.apart,fun q=>R.code (hf q)⟩,N⟩
  refine exA (R.ns) fun m hm h=>?_
  exact ⟨m,hm,fun i v hv=>h i v (hl i v hv)⟩
theorem NamesR.locs {K}:∀ {xs:List Str} {ps:List Pl},NamesR K xs ps→∃ is:List Nat,ps=is.map .loc∧xs.map num=is.map some
  | _,_,.nil=>⟨[],rfl,rfl⟩
  | _,_,.cons h1 h2 h3=>by
    obtain ⟨is,rfl,h4⟩:=h3.locs
    exact ⟨_::is,rfl,by rw [List.map_cons,List.map_cons,h2,h4]⟩
theorem NamesR.app {K}:∀ {xs:List Str} {ps:List Pl} {ys qs},NamesR K xs ps→NamesR K ys qs→NamesR K (xs++ys) (ps++qs)
  | _,_,_,_,.nil,h=>h
  | _,_,_,_,.cons a b c,h=>.cons a b (c.app h)
theorem NamesR.rev {K}:∀ {xs:List Str} {ps:List Pl},NamesR K xs ps→NamesR K xs.reverse ps.reverse
  | _,_,.nil=>.nil
  | _,_,.cons a b c=>by rw [List.reverse_cons,List.reverse_cons]; exact c.rev.app (.cons a b .nil)
theorem VRs.rev {μ:List Addr} {h:Heap}:∀ {vs xs},VRs Z μ h vs xs→VRs Z μ h vs.reverse xs.reverse
  | _,_,.nil=>.nil
  | _,_,.cons a b=>by rw [List.reverse_cons,List.reverse_cons]; exact b.rev.app (.cons a .nil)
theorem stores_sound {A:Around} {K env} (B:Base w h₀ Z):∀ {xs:List Str} {ps:List Pl} {vs:List V} {vals:List Value} {e:EE} {μ:List Addr} {σ:St} {s:Shared},NamesR K xs ps→VRs Z μ s.heap vs vals→Ok w h₀ Z K e env μ σ s→xs.length=vs.length →
    ∀ {Q:Unit→Shared→Prop} {E:Value→Shared→Prop},(∀ s',Stp h₀ (Xof K env) μ s μ s'→Ok w h₀ Z K (EE.setPs e (ps.zip vs)) env μ σ s'→Q () s')→wpAny (model P w) A (assignInOrder (xs.map fun n=>bindName env n) vals) Q E s
  | _,_,vs,vals,e,μ,σ,s,.nil,r,O,hz,Q,E,h=>assignInOrder_nil (h s (.refl _ _ _ _) O)
  | _,_,[],vals,e,μ,σ,s,.cons h1 h2 h3,r,O,hz,Q,E,h=>by cases hz
  | _,_,v::vs,vals,e,μ,σ,s,.cons h1 h2 h3,r,O,hz,Q,E,h=>by
    obtain ⟨val,vals',rfl,r1,r2⟩:=r.cons_inv
    refine assignInOrder_cons (wpAny_bindName (store_sound B O (by unfold cPt; rw [h1,h2]; rfl) r1 fun s1 st1 O1=>?_))
    exact stores_sound B h3 (r2.mono (fun _ _ e=>e) st1.fro) O1 (by simpa using hz) fun s2 st2 O2=>h s2 (st1.trans st2) O2
theorem setPs_locs:∀ (is:List Nat) (vs:List V) (e:EE),EE.setPs e ((is.map Pl.loc).zip vs)={ e with loc:=(is.zip vs).reverse++e.loc }
  | [],vs,e=>by cases vs <;> rfl
  | i::is,[],e=>rfl
  | i::is,v::vs,e=>by
    show EE.setPs (e.set v (.loc i)) ((is.map Pl.loc).zip vs)=_
    rw [setPs_locs is vs]
    simp [EE.set]
theorem setAll_locs:∀ {is:List Nat} {vs:List V} {e e':EE},EE.setAll e (is.map Pl.loc) vs=some e'→is.length=vs.length∧e'={ e with loc:=(is.zip vs).reverse++e.loc }
  | [],[],e,e',h=>by simp only [List.map_nil,EE.setAll,Option.some.injEq] at h; subst h; exact ⟨rfl,rfl⟩
  | [],v::vs,e,e',h=>by cases h
  | i::is,[],e,e',h=>by cases h
  | i::is,v::vs,e,e',h=>by
    refine anE (setAll_locs (is:=is) (vs:=vs) (e:=e.set v (.loc i)) h) fun h1 h2=>?_
    exact ⟨congrArg (·+1) h1,by rw [h2]; simp [EE.set]⟩
theorem num_nodup:∀ {xs:List Str} {is:List Nat},xs.map num=is.map some→xs.Nodup→is.Nodup
  | [],is,h,_=>by induction is with | nil=>exact List.nodup_nil | cons _ _=>cases h
  | x::xs,[],h,_=>by cases h
  | x::xs,i::is,h,hn=>by
    refine anE (List.cons.inj h) fun h1 h2=>?_
    rw [List.nodup_cons] at hn ⊢
    refine ⟨fun hm=>hn.1 ?_,num_nodup h2 hn.2⟩
    have:some i∈xs.map num:=by rw [h2]; exact List.mem_map.mpr ⟨i,hm,rfl⟩
    refine exA (List.mem_map.mp this) fun y hy he=>?_
    have a:=num_nm h1
    have b:=num_nm he
    rw [Option.some.inj (a.symm.trans b)]; exact hy
theorem swapped_sound {A:Around} {K env} (B:Base w h₀ Z) (hA:A.handled=none) {names:List Str} {ps:List Pl} {v:V} {val:Value} {e e':EE} {μ:List Addr} {σ:St} {s:Shared} (hn:NamesR K names ps) (hd:names.Nodup) (he:assignT e (.tup ps) v=some e') (r:VR Z μ s.heap v val) (O:Ok w h₀ Z K e env μ σ s)
    {Q:Unit→Shared→Prop} {E:Value→Shared→Prop} (h:∀ s',Stp h₀ (Xof K env) μ s μ s'→Ok w h₀ Z K e' env μ σ s'→Q () s') :
    wpAny (model P w) A (unpackItems val names.length none) (fun items s₂=>wpAny (model P w) A (assignInOrder (names.reverse.map fun n=>bindName env n) items.reverse) Q E s₂) E s:=by
  cases v with
  | tup l =>
    cases r with
    | tup ho hc hd' hr =>
      rename_i a o vs n
      obtain ⟨is,rfl,h2⟩:=hn.locs
      obtain ⟨hz,rfl⟩:=setAll_locs (show EE.setAll e (is.map Pl.loc) l=some e' from he)
      have hlen:names.length=is.length:=by have:=congrArg List.length h2; simpa using this
      have hv:=hr.length
      have:names.length=vs.size:=by rw [hlen,hz,hv]; simp
      rw [this]
      refine wpAny_unpackItems_tuple hA ⟨o,ho,hc,n,hd'⟩ fun h' hx=>?_
      have hk:∀ b o,s.heap.get? b=some o→h'.get? b=some o:=fun b o e=>hx b o (Nat.ne_of_lt (Heap.lt_size e)) e
      have st:Stp h₀ [] μ s μ { s with heap:=h' }:=Stp.ext hk rfl rfl
      have O1:=O.stp B st (O.now.sim.ext hk)
      refine stores_sound B hn.rev (st.vrs hr).rev O1 (by simp [hlen,hz]) fun s2 st2 O2=>h s2 ((st.wide (by simp)).trans st2) (O2.congr (fun i v hv=>?_) ?_ fun q=>?_)
      · rw [← List.map_reverse,setPs_locs]
        have hzip:(is.reverse.zip l.reverse).reverse=is.zip l:=by
          rw [zip_rev hz,List.reverse_reverse]
        show lk ((is.reverse.zip l.reverse).reverse++e.loc) i=some v
        rw [hzip]
        refine lk_rev ?_ hv
        rw [List.map_fst_zip (by omega)]
        exact num_nodup h2 hd
      · rw [← List.map_reverse,setPs_locs]
      · rw [← List.map_reverse,setPs_locs]; exact q
  | _=>cases he
end
section
variable {w:World} {h₀:Heap} {Z:Scr}
theorem S_plain {n:Nat} (hE:SndE w h₀ Z n) (B:Base w h₀ Z) {K e env μ σ s A} {t v:Expr} {p:Pos} {t':Tg} {c:CE} {fl:Fl} {e':EE} {σ':St} (ht:cTg K t=some t') (hsw:swOk t v=true) (hx:Ex K v c)
    (he:stepS (fs n) e (.assign t' c) σ=some ((fl,e'),σ')) (gA:GoodA n A) (O:Ok w h₀ Z K e env μ σ s) (hb:swapsWithSole [t] v p.line env=pure false):WpS w h₀ Z K A (exec (.Assign [t] v p) env) env μ s σ' fl e':=by
  refine hid fun GG kk=>?_
  refine X.bindE he fun x σ1 h1 he=>?_
  obtain ⟨e1,h2,he⟩:=X.of_bind he
  refine kk ?_
  clear kk GG
  cases he
  intro Q E h
  rcases swapped_cases O.kr ht hsw with hw | ⟨ts,k,q,names,ps,rfl,rfl,hl,hw,hN,hd⟩
  · have ha:assignEach [t] env=[(false,assign t env)]:=by cases cTg_inv ht <;> rfl
    refine Assign_one (hE hx h1 gA O _ E fun μ1 s1 val st1 S1 r1=>?_) ha hb hw
    refine assign_sound B gA.1 ht h2 r1 (O.stp B st1 S1) fun s2 st2 O2=>h μ1 s2 _ ((st1.wide fun _ h=>nomatch h).trans st2) O2 .next
  · refine Assign_Tuple_swapped (hE hx h1 gA O _ E fun μ1 s1 val st1 S1 r1=>?_) hb hw
    exact swapped_sound B gA.1 hN hd h2 r1 (O.stp B st1 S1) fun s2 st2 O2=>h μ1 s2 _ ((st1.wide fun _ h=>nomatch h).trans st2) O2 .next
theorem S_comp {n:Nat} (hE:∀ m,m≤n→SndE w h₀ Z m) (hT:∀ m,m≤n→SndT w h₀ Z m) (B:Base w h₀ Z) {K e env μ σ s A} {t elt:Expr} {p q:Pos} {t':Tg} {c:CE} {fl:Fl} {e':EE} {σ':St} {g:Comprehension} {gs:List Comprehension} {g':Gen} {gs':List Gen} {scope:Scope} (ht:cTg K t=some t')
    (hk:scope.kind=.function) (hsc:scOk K scope=true) (hel:Ex (kinds scope) elt c) (hg:Ge (kinds scope) K g g') (hgs:Ges (kinds scope) gs gs')
    (he:stepS (fs n) e (.assign t' (.comp (frees scope) c (g'::gs'))) σ=some ((fl,e'),σ')) (gA:GoodA n A) (O:Ok w h₀ Z K e env μ σ s) (hb:swapsWithSole [t] (.ListComp elt (g::gs) scope q) p.line env=pure true):WpS w h₀ Z K A (exec (.Assign [t] (.ListComp elt (g::gs) scope q) p) env) env μ s σ' fl e':=by
  refine hid fun GG kk=>?_
  refine X.bindE he fun x σ1 h1 he=>?_
  obtain ⟨e1,h2,he⟩:=X.of_bind he
  refine kk ?_
  clear kk GG
  cases he
  intro Q E h
  cases n with
  | zero=>cases h1
  | succ n =>
    have ha:assignEach [t] env=[(false,assign t env)]:=by cases cTg_inv ht <;> rfl
    rw [PyProof.Rows.exec_Assign]
    refine wpAny_bind (wpAny_standAt ?_)
    rw [hb]
    refine wpAny_bind (wpAny_pure ?_)
    rw [if_pos rfl,ha]
    refine wpAny_bind ?_
    obtain ⟨gt,gi,gf,ga⟩:=g
    have hfa:firstAsync (⟨gt,gi,gf,ga⟩::gs)=false:=by
      cases hg with
      | mk ha=>unfold firstAsync; simp only; rw [beq_iff_eq.mp ha]; rfl
    rw [arm_evalThenUse_ListComp]
    show wpAny (model P w) A (comprehension (.ListComp elt (⟨gt,gi,gf,ga⟩::gs) scope q) scope env (firstIterPos (⟨gt,gi,gf,ga⟩::gs) q) (newList []) (firstAsync (⟨gt,gi,gf,ga⟩::gs)) (eval gi env) (some fun v=>assignAll v [assign t env]) >>= fun _=>pure ()) _ E s
    rw [hfa]
    refine wpAny_bind (comp_core (fun m hm=>hE m (Nat.le_succ_of_le hm)) (fun m hm=>hT m (Nat.le_succ_of_le hm)) B hk hsc hel hg hgs h1 gA.s O fun μ1 s1 val C m st1 S1 r1 hC hC0 hCμ hm=>?_)
    have O1:=O.stp B st1 S1
    show wpAny (model P w) A (assign t env val) _ E s1
    have farC:Far K env [C]:=Far.fresh O (by intro a ha; rw [List.mem_singleton.mp ha]; exact hC)
    refine assign_sound B gA.1 ht h2 r1 O1 fun s2 st2 O2=>?_
    have hm2:s2.heap.Ns C m:=by
      refine exE hm fun o zz=>exE zz fun es zz=>exA zz fun ep ho r=>?_
      refine ⟨o,es,ep,st2.keep C o ho hCμ (farC.xof C (by simp)) (fun q=>?_),r⟩
      refine exE (B.b376) fun o1 e1=>?_
      rw [← q,hC0] at e1; cases e1
    refine ⟨m,hm2,fun h' hs=>wpAny_pure (wpAny_pure ?_)⟩
    have st3:=Stp.dictC (μ:=μ1) B hm2 hC0 hs s2.toks
    have S3:Sim Z h₀ μ1 σ' h':=O2.now.sim.stp st3 rfl fun a ha o e=>(hs.2 a fun q=>hCμ (q ▸ ha)).trans e
    have O3:=O2.stpX B st3 farC.loc farC.cel S3
    have st12:Stp h₀ (Xof K env) μ s μ1 s2:=(st1.wide fun _ h=>nomatch h).trans st2
    exact h μ1 _ _ (st12.drop st3 fun a ha=>.inr (by rw [List.mem_singleton.mp ha]; exact hC)) O3 .next
inductive ExC (K:Str→Option NameKind):Expr→CE→Prop
  | no {v c}:compScope v=none→ExC K v c
  | mk {scope elt c g gs g' gs' q}:scope.kind=.function→scOk K scope=true→Ex (kinds scope) elt c→Ge (kinds scope) K g g'→Ges (kinds scope) gs gs'→ExC K (.ListComp elt (g::gs) scope q) (.comp (frees scope) c (g'::gs'))
theorem ex_compS {K v c} (hx:Ex K v c):ExC K v c:=by
  induction hx.inv with
  | comp h1 h2 h3 h4 h5=>exact .mk h1 h2 h3 h4 h5
  | _=>exact .no rfl
theorem S_assign {n:Nat} (hE:∀ m,m≤n→SndE w h₀ Z m) (hT:∀ m,m≤n→SndT w h₀ Z m) (B:Base w h₀ Z) {K e env μ σ s A} {t v:Expr} {p:Pos} {t':Tg} {c:CE} {fl:Fl} {e':EE} {σ':St} (ht:cTg K t=some t') (hsw:swOk t v=true) (hx:Ex K v c)
    (he:stepS (fs n) e (.assign t' c) σ=some ((fl,e'),σ')) (gA:GoodA n A) (O:Ok w h₀ Z K e env μ σ s):WpS w h₀ Z K A (exec (.Assign [t] v p) env) env μ s σ' fl e':=by
  cases ex_compS hx with
  | no h=>exact S_plain (hE n (Nat.le_refl _)) B ht hsw hx he gA O (sw_none h)
  | mk hk hsc hel hg hgs =>
    obtain ⟨b,hb⟩:=sw_pure t (.ListComp _ (_::_) _ _) p.line env
    induction b with
    | false=>exact S_plain (hE n (Nat.le_refl _)) B ht hsw hx he gA O hb
    | true=>exact S_comp hE hT B ht hk hsc hel hg hgs he gA O hb
end
section
variable {w:World} {h₀:Heap} {Z:Scr}
theorem S_for {n:Nat} (hE:SndE w h₀ Z n) (hS:∀ m,m≤n→SndS w h₀ Z m) (B:Base w h₀ Z) {K e env μ σ s A} {t it:Expr} {body:List Stmt} {p:Pos} {t':Tg} {it':It} {b:List CS} {fl:Fl} {e':EE} {σ':St} (ht:cTg K t=some t') (hit:It_ K it it') (hb:Sxs K body b∨∃ c,it'=.items c)
    (he:stepS (fs n) e (.for t' it' b) σ=some ((fl,e'),σ')) (gA:GoodA n A) (O:Ok w h₀ Z K e env μ σ s):WpS w h₀ Z K A (exec (.For t it body [] p) env) env μ s σ' fl e':=by
  refine X.bindE he fun src σ1 h1 he=>fun Q E h=>?_
  refine wpAny_For (evIt_sound hE B gA hit h1 O fun μ1 s1 I fp st1 S1 hs1 hf1 hfr1=>?_) (folded_of hit env)
  have O1:=O.stp B st1 S1
  have far:Far K env fp:=Far.fresh O hfr1
  have fin:∀ μ' s' f,Stp h₀ (Xof K env++fp) μ1 s1 μ' s'→Ok w h₀ Z K e' env μ' σ' s'→FlR Z μ' s'.heap fl f→Q f s':=fun μ' s' f st O' r =>
    h μ' s' f ((stp_nil st1).drop st fun a ha=>(List.mem_append.mp ha).imp id (hfr1 a)) O' r
  refine hb.elim (fun hb=>L_sound hS B gA ht hb he O1 hs1 hf1 far fin) fun hc=>exE hc fun c hc=>?_
  subst hc
  have hn:src=.nil:=X.bindE h1 fun v σ2 h2 h1=>of_bindE (o:=kw? v) h1 fun k _ h1=>of_bindE (o:=kwC σ2[k]?) h1 fun _ _ h1=>(Prod.mk.inj (Option.some.inj h1)).1.symm
  subst hn
  cases n with
  | zero=>exact nS he
  | succ n =>
    refine X.guardE (b:=tgOk t' .nil) he fun hok he=>?_
    have x:=pure2E (C:=fun fl e' σ'=>(∀ μ' s' f,Stp h₀ (Xof K env++fp) μ1 s1 μ' s'→Ok w h₀ Z K e' env μ' σ' s'→FlR Z μ' s'.heap fl f→Q f s')→∀ s2,Stp h₀ (Xof K env++fp) μ1 s1 μ1 s2→Ok w h₀ Z K e env μ1 σ1 s2→Q .next s2) (a:=.next) (b:=e) he (fun h s2 st O=>h _ _ _ st O .next) fin
    refine forLoop' (fun m s2=>s2=s1) (fun m s2 q=>?_) 0 rfl
    subst q
    exact next_sound B gA.1 O1.now hs1 hf1 (r:=none) rfl ht hok (fun _ s2 st2 S2=>wpAny_execs_nil (x s2 (st2.wide fun a ha=>List.mem_append_right _ ha) (O1.stpX B st2 far.loc far.cel S2))) fun _ _ q=>nomatch q
theorem cPl_of {K:Str→Option NameKind} {x:Str} {i:Nat} (hp:cPt K x=some (.loc i)):cPl K x=some (.loc i):=obind hp fun k q hp=>obind hp fun j h5 hp=>by
  unfold cPl
  rw [q,Option.bind_some,h5]
  induction k with
  | «local»=>exact hp
  | cell=>exact hp
  | _=>exact nS hp
theorem augE {x y r:V} {σ σ':St} {G:Prop} (h:augV x y σ=some (r,σ')) (k:∀ a b,x=.int a→y=.int b→.int (a+b)=r→σ=σ'→G):G :=
  exA (onI_inv h) fun a e1 h=>exA (onI_inv h) fun b e2 h=>k a b e1 e2 (Prod.mk.inj (Option.some.inj h)).1 (Prod.mk.inj (Option.some.inj h)).2
section
variable {n:Nat} (hE:SndE w h₀ Z n) (hT:SndT w h₀ Z n) (hS:SndS w h₀ Z n) (B:Base w h₀ Z) {K:Str→Option NameKind} {e e':EE} {env:Env} {μ:List Addr} {σ σ':St} {s:Shared} {A:Around} {fl:Fl} (gA:GoodA n A) (O:Ok w h₀ Z K e env μ σ s)
include hE B gA O
theorem S_aug {x:Str} {q p:Pos} {v:Expr} {i:Nat} {c:CE} (hp:cPt K x=some (.loc i)) (hx:Ex K v c) (he:stepS (fs n) e (.aug i c) σ=some ((fl,e'),σ')):WpS w h₀ Z K A (exec (.AugAssign (.Name x q) .Add v p) env) env μ s σ' fl e':=by
  refine of_bindE he fun old h1 he=>X.bindE he fun y σ1 h2 he=>X.bindE he fun r σ2 h3 he=>fun Q E h=>?_
  refine exA (var_sound (A:=A) O (cPl_of hp) h1) fun val rv hl=>wpAny_AugAssign_Name (hl _ E (hE hx h2 gA O _ E fun μ1 s1 val1 st1 S1 r1=>?_))
  refine augE h3 fun a b e1 e2 e3 e4=>?_
  subst e1 e2 e3 e4
  refine exE (st1.vr rv).int_inv fun t et=>exE r1.int_inv fun t' et'=>?_
  subst et et'
  have st2:Stp h₀ [] μ1 s1 μ1 { s1 with toks:=s1.toks+1 }:=Stp.toks _
  exact _root_.PySem.P.iadd_int (store_sound B ((O.stp B st1 S1).stp B st2 S1) hp (.int _ _) fun s3 st3 O3=>retS he h ((stp_nil (st1.trans st2)).trans st3) O3 .next)
theorem S_expr {x0:Expr} {p:Pos} {c:CE} (hv:isCall x0=true) (hx:Ex K x0 c) (he:stepS (fs n) e (.expr c) σ=some ((fl,e'),σ')):WpS w h₀ Z K A (exec (.Expr x0 p) env) env μ s σ' fl e':=by
  refine X.bindE he fun v σ1 h1 he=>fun Q E h=>?_
  refine wpAny_Expr (hE hx h1 gA O _ E fun μ1 s1 val st1 S1 r1=>?_) (by unfold interactive; rw [O.er.kind]; rfl) (by cases x0 <;> first | rfl | exact nomatch hv)
  cases r1 with
  | none=>exact retS he h (stp_nil st1) (O.stp B st1 S1) .next
  | _=>exact nS he
theorem S_ret {v:Expr} {p:Pos} {c:CE} (hx:Ex K v c) (he:stepS (fs n) e (.ret c) σ=some ((fl,e'),σ')):WpS w h₀ Z K A (exec (.Return (some v) p) env) env μ s σ' fl e' :=
  X.bindE he fun v σ1 h1 he=>fun Q E h=>wpAny_Return_some (hE hx h1 gA O _ E fun μ1 s1 val st1 S1 r1=>retS he h (stp_nil st1) (O.stp B st1 S1) (.ret r1))
omit hE
include hT
theorem S_ifs {t:Expr} {a b:List Stmt} {p:Pos} {t':CE} {a' b':List CS} (hS:SndS w h₀ Z n) (hx:Ex K t t') (ha:Sxs K a a') (hb:Sxs K b b') (he:stepS (fs n) e (.ifs t' a' b') σ=some ((fl,e'),σ')):WpS w h₀ Z K A (exec (.If t a b p) env) env μ s σ' fl e':=by
  refine X.bindE he fun c σ1 h1 he=>fun Q E h=>wpAny_If (hT hx h1 gA O _ E fun μ1 s1 st1 S1=>?_)
  induction c with
  | true=>exact execs_sound hS gA ha he (O.stp B st1 S1) Q E fun μ2 s2 f st2 O2 r2=>h μ2 s2 f ((stp_nil st1).trans st2) O2 r2
  | false=>exact execs_sound hS gA hb he (O.stp B st1 S1) Q E fun μ2 s2 f st2 O2 r2=>h μ2 s2 f ((stp_nil st1).trans st2) O2 r2
theorem S_assert {t:Expr} {m:Option Expr} {p:Pos} {t':CE} (hx:Ex K t t') (he:stepS (fs n) e (.assert t') σ=some ((fl,e'),σ')):WpS w h₀ Z K A (exec (.Assert t m p) env) env μ s σ' fl e' :=
  X.bindE he fun c σ1 h1 he=>X.guardE he fun hc he=>fun Q E h=>wpAny_Assert_holds (hT hx h1 gA O _ E fun μ1 s1 st1 S1=>⟨hc,retS he h (stp_nil st1) (O.stp B st1 S1) .next⟩)
end
theorem SndS_step {n:Nat} (hE:∀ m,m≤n→SndE w h₀ Z m) (hT:∀ m,m≤n→SndT w h₀ Z m) (hS:∀ m,m≤n→SndS w h₀ Z m) (B:Base w h₀ Z):SndS w h₀ Z (n+1):=by
  intro K e env μ σ s A st c fl e' σ' hx he g O
  have gA:=g.s
  replace hx:=hx.inv
  induction hx with
  | assign ht hsw hx=>exact S_assign hE hT B ht hsw hx he gA O
  | aug hp hx=>exact S_aug (hE n (Nat.le_refl _)) B gA O hp hx he
  | expr hv hx=>exact S_expr (hE n (Nat.le_refl _)) B gA O hv hx he
  | ret hx=>exact S_ret (hE n (Nat.le_refl _)) B gA O hx he
  | ifs hx ha hb=>exact S_ifs (hT n (Nat.le_refl _)) B gA O (hS n (Nat.le_refl _)) hx ha hb he
  | whil hx hb=>exact fun Q E h=>wpAny_While (W_sound hS hT B gA hx hb he O h)
  | «for» ht hit hb=>exact S_for (hE n (Nat.le_refl _)) hS B ht hit (.inl hb) he gA O
  | forI ht hit=>exact S_for (hE n (Nat.le_refl _)) hS B ht hit (.inr ⟨_,rfl⟩) he gA O
  | assert hx=>exact S_assert (hT n (Nat.le_refl _)) B gA O hx he
  | raise=>exact nS he
end
section
variable {w:World} {h₀:Heap} {Z:Scr}
theorem at1_key {α:Type} {a:Nat} {v:α} {l:List (Nat × α)}:at1 a l=some v→a∈l.map (·.1):=by
  induction l with
  | nil=>exact nS
  | cons x l ih =>
    show Bool.casesOn (motive:=fun _=>Option α) (Nat.beq x.1 a) (at1 a l) (some x.2)=some v→_
    cases e:Nat.beq x.1 a with
    | true=>exact fun _=>Nat.eq_of_beq_eq_true e ▸ .head _
    | false=>exact fun h=>.tail _ (ih h)
noncomputable def IsFn (w:World) (a:Nat):Prop:=∃ fd:FuncData,(a,some ({ cls:=.type "function",data:=.func fd }:Obj))∈lookAts.zip (lookObjs w)
theorem fn_objs (w:World):∀ a∈fnTab.map (·.1),IsFn w a:=by
  iterate 26 refine List.forall_mem_cons.mpr ⟨by first | exact ⟨_,mem_pick (i:=0) rfl⟩ | exact ⟨_,mem_pick (i:=2) rfl⟩ | exact ⟨_,mem_pick (i:=4) rfl⟩ | exact ⟨_,mem_pick (i:=6) rfl⟩ | exact ⟨_,mem_pick (i:=8) rfl⟩ | exact ⟨_,mem_pick (i:=10) rfl⟩ | exact ⟨_,mem_pick (i:=12) rfl⟩ | exact ⟨_,mem_pick (i:=18) rfl⟩ | exact ⟨_,mem_pick (i:=20) rfl⟩ | exact ⟨_,mem_pick (i:=22) rfl⟩ | exact ⟨_,mem_pick (i:=24) rfl⟩ | exact ⟨_,mem_pick (i:=26) rfl⟩ | exact ⟨_,mem_pick (i:=28) rfl⟩ | exact ⟨_,mem_pick (i:=30) rfl⟩ | exact ⟨_,mem_pick (i:=32) rfl⟩ | exact ⟨_,mem_pick (i:=34) rfl⟩ | exact ⟨_,mem_pick (i:=36) rfl⟩ | exact ⟨_,mem_pick (i:=38) rfl⟩ | exact ⟨_,mem_pick (i:=40) rfl⟩ | exact ⟨_,mem_pick (i:=42) rfl⟩ | exact ⟨_,mem_pick (i:=44) rfl⟩ | exact ⟨_,mem_pick (i:=46) rfl⟩ | exact ⟨_,mem_pick (i:=48) rfl⟩ | exact ⟨_,mem_pick (i:=50) rfl⟩ | exact ⟨_,mem_pick (i:=52) rfl⟩ | exact ⟨_,mem_pick (i:=54) rfl⟩,?_⟩
  exact fun _ h=>nomatch h
theorem fn_obj {a:Addr} {fn:Fn} (h:fnAt a=some fn):IsFn w a:=fn_objs w a (at1_key h)
theorem C_fn {n:Nat} {a args kw σ r} (h:(fs n).C a args kw σ=some r):∃ fn,fnAt a=some fn:=by
  induction n with
  | zero=>exact nS h
  | succ n =>
    have h:stepC (fs n) a args kw σ=some r:=h
    refine of_bindE h fun fn h1 _=>?_
    exact ⟨fn,h1⟩
theorem kept_obj {h:Heap} (B:Base w h₀ Z) (i:Inv h₀ h) {a:Addr} {o:Obj} (hm:(a,some o)∈lookAts.zip (lookObjs w)) (ha:a≠376):h.get? a=some o:=i.keep _ _ (B.wf.objs _ _ hm) ha
theorem ks_nil {K kw ks} {E:CE→X V} {σ:St} {r} (hk:Ks K kw ks) (h:evKw E ks σ=some ([],r)):kw=[]∧r=σ:=by
  induction hk with
  | nil=>exact ⟨rfl,(Prod.mk.inj (Option.some.inj h)).2.symm⟩
  | cons h1 h2 =>
    cases h1
    obtain ⟨v,σ1,_,h⟩:=X.bind_inv h
    refine X.bindE h fun vs σ2 _ h=>?_
    exact nomatch (Prod.mk.inj (Option.some.inj h)).1
theorem argsKw_sound {n:Nat} (hE:SndE w h₀ Z n) (B:Base w h₀ Z) {K e env A pos} (g:GoodA n A) {xs:List Expr} {es:List CE} {kw:List Keyword} {ks:List (Nat × CE)} {μ σ s vs σ1 kvs σ'} {f:Value} (hx:Exs K xs es) (he:evs ((fs n).E e) es σ=some (vs,σ1)) (hk:Ks K kw ks) (he2:evKw ((fs n).E e) ks σ1=some (kvs,σ')) (O:Ok w h₀ Z K e env μ σ s)
    {Q:Args→Shared→Prop} {E:Value→Shared→Prop} (h:∀ μ' s' vals kvals,Stp h₀ [] μ s μ' s'→Sim Z h₀ μ' σ' s'.heap→VRs Z μ' s'.heap vs vals→KwR Z μ' s'.heap kvs kvals→Q ⟨vals,kvals⟩ s'):wpAny (model P w) A (evalArgs f true (backTo pos (starEach xs env)) (backToKw pos (keywordEach kw env))) Q E s:=by
  induction hx with
  | nil =>
    cases he
    exact evalArgs_kw_nil (ks_some hk) (evKw_sound (pos:=pos) hE B g hk he2 O _ E fun μ' s' vals st S r=>h μ' s' [] _ st S .nil r)
  | cons hx1 hx2 =>
    have hs:=fun Q=>evs_sound (pos:=pos) hE B g (.cons hx1 hx2) he O Q E
    have h1:=ks_some (pos:=pos) (env:=env) hk
    rw [starEach_of hx1] at hs ⊢
    refine evalArgs_kw h1 (hs _ fun μ1 s1 vals st1 S1 r1=>?_)
    have O1:=O.stp B st1 S1
    exact evKw_sound (pos:=pos) hE B g hk he2 O1 _ E fun μ' s' kvals st S r=>h μ' s' vals _ (st1.trans st) S (st.vrs r1) r
theorem E_call {n:Nat} (hE:SndE w h₀ Z n) (hC:SndC w h₀ Z n) (B:Base w h₀ Z) {K e env μ σ s A} {x:Str} {p pos:Pos} {args:List Expr} {kw:List Keyword} {f:CE} {as:List CE} {ks:List (Nat × CE)} {v:V} {σ':St} (hf:cName K x=some f) (ha:Exs K args as) (hk:Ks K kw ks)
    (he:stepE (fs n) e (.call f as ks) σ=some (v,σ')) (hx:Ex K (.Name x p) f) (gA:GoodA n A) (O:Ok w h₀ Z K e env μ σ s):Wp w h₀ Z A (eval (.Call (.Name x p) args kw pos) env) μ s σ' v:=by
  refine hid fun GG kk=>?_
  refine X.bindE he fun fv σ1 h1 he=>?_
  obtain ⟨vs,σ2,h2,he⟩:=X.bind_inv he
  refine X.bindE he fun kvs σ3 h3 he=>?_
  refine kk ?_
  clear kk GG
  intro Q E h
  refine wpAny_Call_Name_kw (hE hx h1 gA O _ E fun μ1 s1 fval st1 S1 r1=>?_)
  have O1:=O.stp B st1 S1
  cases r1 with
  | glob a =>
    have he:(fs n).C a vs kvs σ3=some (v,σ'):=he
    obtain ⟨fn,hfn⟩:=C_fn he
    obtain ⟨fd,hm⟩:=fn_obj (w:=w) hfn
    refine callWith_function_kw (o:={ cls:=.type "function",data:=.func fd }) (fd:=fd) (argsKw_sound hE B gA ha h2 hk h3 O1 fun μ2 s2 vals kvals st2 S2 r2 k2=>?_)
    have N2:=O1.now.stp st2 S2
    have hne:a≠376:=by rintro rfl; exact nS hfn
    exact ⟨⟨kept_obj B N2.inv hm hne,rfl⟩,hC he gA N2 r2 k2 Q E fun μ3 s3 val st3 S3 r3=>h μ3 s3 val ((st1.trans st2).trans st3) S3 r3⟩
  | bi b =>
    cases kvs with
    | cons _ _=>exact nS he
    | nil =>
    have hb:callB b vs σ3=some (v,σ'):=he
    obtain ⟨rfl,rfl⟩:=ks_nil hk h3
    exact Calls.callWith_builtin (plain_args ha) (args_sound hE B gA ha h2 O1 fun μ2 s2 vals st2 S2 r2=>callB_g (c:=cx B gA (O1.now.stp st2 S2)) r2 hb Q E fun μ3 s3 val st3 S3 r3=>h μ3 s3 val ((st1.trans st2).trans st3) S3 r3)
  | ty t =>
    cases kvs with
    | cons _ _=>exact nS he
    | nil =>
    have hb:callT t vs σ3=some (v,σ'):=he
    obtain ⟨rfl,rfl⟩:=ks_nil hk h3
    exact PyProof.Rows.callWith_type (plain_args ha) (args_sound hE B gA ha h2 O1 fun μ2 s2 vals st2 S2 r2=>callT_g (c:=cx B gA (O1.now.stp st2 S2)) r2 hb Q E fun μ3 s3 val st3 S3 r3=>h μ3 s3 val ((st1.trans st2).trans st3) S3 r3)
  | _=>exact nS he
end
noncomputable def AllV:Nat→(List Value→Prop)→Prop
  | 0,P=>P []
  | n+1,P=>∀ v,AllV n fun l=>P (v::l)
theorem AllV.get {n:Nat}:∀ {P:List Value→Prop},AllV n P→∀ {l},l.length=n→P l:=by
  induction n with
  | zero=>exact fun h l e=>List.eq_nil_of_length_eq_zero e ▸ h
  | succ n ih=>exact fun h l=>List.casesOn (motive:=fun l=>l.length=n+1→_) l (fun e=>absurd e (Nat.succ_ne_zero n).symm) fun v l e=>ih (h v) (Nat.succ.inj e)
@[elab_as_elim] theorem vec2 {P:List Value→Prop} {l:List Value} (e:l.length=2) (h:∀ a b,P [a,b]):P l:=AllV.get (n:=2) h e
@[elab_as_elim] theorem vec3 {P:List Value→Prop} {l:List Value} (e:l.length=3) (h:∀ a b c,P [a,b,c]):P l:=AllV.get (n:=3) h e
section
variable {M:Model} {A:Around} {E:Value→Shared→Prop} {s:Shared} {Q:List (Str × Value)→Shared→Prop}
variable {fd:FuncData} {a x l r lo hi key k:Value} {T D:Addr} {n:Nat} {m:Str→Option Value}
noncomputable def kfd (q:FuncData) (T D:Addr):FuncData:={ q with params:=parsAt (stAt 2),defaults:=.ref T,kwdefaults:=.ref D }
noncomputable def kbs (a x lo hi key:Value):List (Str × Value):=[("a",a),("x",x),("lo",lo),("hi",hi),("key",key)]
theorem bind_key2 (ho:s.heap.get? T=some { cls:=.type "tuple",data:=.seq #[lo,hi] n }) (hm:s.heap.Ns D m) (hv:m "key"=some key) (h:Q (kbs a x lo hi key) s):wpAny M A (bindArgs (kfd fd T D) ⟨[a,x],[]⟩) Q E s:=by
  show wpAny M A (seqItems? (.ref T) >>= _) Q E s
  refine wpAny_bind (wpAny_seqItems ho rfl ?_)
  show wpAny M A (((nsGet D "key" >>= _) >>= _) >>= _) Q E s
  refine wpAny_bind (wpAny_bind (wpAny_bind (wpAny_nsGet hm ?_)))
  rw [hv]
  exact wpAny_pure (wpAny_pure (wpAny_pure h))
theorem bind_key4 (ho:s.heap.get? T=some { cls:=.type "tuple",data:=.seq #[lo,hi] n }) (hm:s.heap.Ns D m) (hv:m "key"=some key) (h:Q (kbs a x l r key) s):wpAny M A (bindArgs (kfd fd T D) ⟨[a,x,l,r],[]⟩) Q E s:=by
  show wpAny M A (seqItems? (.ref T) >>= _) Q E s
  refine wpAny_bind (wpAny_seqItems ho rfl ?_)
  show wpAny M A (((nsGet D "key" >>= _) >>= _) >>= _) Q E s
  refine wpAny_bind (wpAny_bind (wpAny_bind (wpAny_nsGet hm ?_)))
  rw [hv]
  exact wpAny_pure (wpAny_pure (wpAny_pure h))
theorem bind_key2k (ho:s.heap.get? T=some { cls:=.type "tuple",data:=.seq #[lo,hi] n }) (h:Q (kbs a x lo hi k) s):wpAny M A (bindArgs (kfd fd T D) ⟨[a,x],[("key",k)]⟩) Q E s:=by
  show wpAny M A (seqItems? (.ref T) >>= _) Q E s
  exact wpAny_bind (wpAny_seqItems ho rfl (wpAny_pure h:wpAny M A (pure (kbs a x lo hi k)) Q E s))
theorem bind_key4k (ho:s.heap.get? T=some { cls:=.type "tuple",data:=.seq #[lo,hi] n }) (h:Q (kbs a x l r k) s):wpAny M A (bindArgs (kfd fd T D) ⟨[a,x,l,r],[("key",k)]⟩) Q E s:=by
  show wpAny M A (seqItems? (.ref T) >>= _) Q E s
  exact wpAny_bind (wpAny_seqItems ho rfl (wpAny_pure h:wpAny M A (pure (kbs a x l r k)) Q E s))
end
noncomputable def scChk (st:Option Stmt):Bool:=decide ((scopeAt st).kind=.function) && (uniqN (scopeAt st) && (((scopeAt st).names.all fun y=>decide (y.2≠.free)) && (!(scopeAt st).isCoroutine && !(scopeAt st).isGenerator)))
structure ScOk (st:Option Stmt):Prop where
  kind:(scopeAt st).kind=.function
  uniq:uniqN (scopeAt st)=true
  nofree:∀ x,(scopeAt st).names.lookup x≠some .free
  co:(scopeAt st).isCoroutine=false
  gen:(scopeAt st).isGenerator=false
theorem scOk_of {st:Option Stmt} (h:scChk st=true):ScOk st:=by
  obtain ⟨h2,h⟩:=and_t h
  refine anE (and_t h) fun h3 h=>?_
  refine anE (and_t h) fun h4 h=>?_
  exact ⟨of_decide_eq_true h2,h3,fun x hx=>of_decide_eq_true (List.all_eq_true.mp h4 _ (mem_of_lookup hx)) rfl,not_t (and_t h).1,not_t (and_t h).2⟩
noncomputable def stChk (st:Option Stmt):Bool:=(cL (cpS 20 (kinds (scopeAt st))) (bodyAt st)).isSome && scChk st
structure StOk (st:Option Stmt):Prop extends ScOk st where
  code:Sxs (kinds (scopeAt st)) (bodyAt st) (code st)
theorem some_getD {α:Type} {o:Option α} (h:o.isSome=true) (d:α):o=some (o.getD d):=by
  induction o with
  | none=>cases h
  | some=>rfl
theorem stOk_of {st:Option Stmt} (h:stChk st=true):StOk st :=
  ⟨scOk_of (and_t h).2,cL_l2 (R:=Sx (kinds (scopeAt st))) (fun h=>⟨20,h⟩) (some_getD (and_t h).1 [])⟩
theorem setPs_fn (l:List (Pl × V)):∀ (e:EE) (a:Nat),({ EE.setPs e l with fn:=a }:EE)=EE.setPs { e with fn:=a } l:=by
  induction l with
  | nil=>exact fun _ _=>rfl
  | cons x l ih =>
    intro e a
    obtain ⟨p,v⟩:=x
    exact (ih (e.set v p) a).trans (by cases p <;> rfl)
section
variable {w:World} {h₀:Heap} {Z:Scr}
noncomputable def Binds (w:World) (h₀:Heap) (Z:Scr) (fd:FuncData) (K:Str→Option NameKind) (fn:Fn):Prop:=∀ {μ σ s args kw vals kvs e0 σ1 A},Now h₀ Z μ σ s→fn.bind args kw σ=some (e0,σ1)→VRs Z μ s.heap args vals→KwR Z μ s.heap kw kvs→∀ {Q:List (Str × Value)→Shared→Prop} {E:Value→Shared→Prop},
  (∀ μ' s' binds l,Stp h₀ [] μ s μ' s'→Sim Z h₀ μ' σ1 s'.heap→BindR Z K μ' s'.heap l binds→e0=EE.setPs ⟨[],[],0⟩ l→Q binds s')→wpAny (model P w) A (bindArgs fd ⟨vals,kvs⟩) Q E s
inductive FnRun (w:World) (h₀:Heap) (Z:Scr) (a:Addr) (fn:Fn):Prop
  | mk (st:Option Stmt) (qual:Str) (dfl kwd mod:Value) (c:Addr) (vs:Array Value) (t:Tok) (m1:(a,some ({ cls:=.type "function",data:=.func (fnData st qual dfl kwd mod c) }:Obj))∈lookAts.zip (lookObjs w))
    (m2:(c,some ({ cls:=.type "code",data:=.fields vs }:Obj))∈lookAts.zip (lookObjs w)) (hq:vs[1]?=some (.str qual t)) (hc:c≠376) (hdue:a=379→c=378∧qual="_law_due") (ok:StOk st) (hb:fn.body=code st) (bs:Binds w h₀ Z (fnData st qual dfl kwd mod c) (kinds (scopeAt st)) fn)
theorem SndC_of {n:Nat} (hS:SndS w h₀ Z n) (B:Base w h₀ Z) (hR:∀ a fn,fnAt a=some fn→FnRun w h₀ Z a fn):SndC w h₀ Z (n+1):=by
  intro μ σ s A a args kw v σ' vals kvs he g N hr hk
  have he:stepC (fs n) a args kw σ=some (v,σ'):=he
  refine hid fun GG kk=>?_
  refine of_bindE he fun fn hfn he=>?_
  refine X.bindE he fun e0 σ1 hb he=>?_
  refine X.bind2E he fun fl e1 σ2 hx he=>?_
  obtain ⟨st,qual,dfl,kwd,mod,c,vs,t,m1,m2,hq,hc,hdue0,SO,hbody,hB⟩:=hR a fn hfn
  refine kk ?_
  clear kk GG
  have hdue:a=379→(none:Option Env)=none∧Value.ref c=.ref 378∧(qual++".<locals>.":Str)="_law_due.<locals>.":=fun q=>by
    obtain ⟨rfl,rfl⟩:=hdue0 q
    exact ⟨rfl,rfl,by decide +kernel⟩
  have hne:a≠376:=by rintro rfl; exact nS hfn
  intro Q E h
  refine wpAny_call ?_
  refine codeAny_call_function (fd:=fnData st qual dfl kwd mod c) (body:=bodyAt st) g.room (kept_obj B N.inv m1 hne) rfl SO.co SO.gen rfl ⟨c,_,vs,t,rfl,kept_obj B N.inv m2 hc,rfl,hq⟩ ?_
  refine hB (A:=A.in1) N hb hr hk fun μ1 s1 binds l st1 S1 bR hl=>?_
  have N1:=N.stp st1 S1
  refine newEnv_sound (fnA:=a) (closure:=[]) (cel:=[]) (l:=l) B N1 SO.kind SO.uniq (fun _ _ h=>nomatch h) List.Pairwise.nil (fun x hx=>absurd hx (SO.nofree x)) (fun i v h=>nS h) rfl bR (fun q=>hdue q) fun env s2 henv st2 hX O2=>?_
  refine ⟨?_,codeAny_func ?_⟩
  · refine exE (B.wf.lim) fun mc zz=>anE zz fun hm zz=>anE zz fun h1 _=>?_
    exact ⟨mc,Ns.ofInv hm O2.now.inv (by decide),h1⟩
  · have gA:GoodA n (A.deeper env):=⟨g.1,by show A.depth+1+2 * n < 990; have:=g.2.1; omega,by show A.units+3+16 * n+200 < cLine; have:=g.2.2; omega⟩
    rw [hbody] at hx
    have hl2:({ e0 with fn:=a }:EE)=EE.setPs ⟨[],[],a⟩ l:=by rw [hl]; exact setPs_fn l ⟨[],[],0⟩ a
    rw [← hl2] at O2
    refine execs_sound hS gA SO.code hx O2 _ _ fun μ3 s3 f st3 O3 r3=>?_
    have stA:Stp h₀ [] μ s μ3 s3:=(st1.trans st2).drop st3 fun a ha=>.inr (st1.dead (hX a ha))
    induction r3 with
    | next=>cases he; exact h μ3 s3 .none stA O3.now.sim .none
    | ret r=>cases he; exact h μ3 s3 _ stA O3.now.sim r
end
section
variable {w:World} {h₀:Heap} {Z:Scr}
theorem wpAny_eq {α:Type} {M:Model} {A:Around} {Q:α→Shared→Prop} {E:Value→Shared→Prop} {s:Shared} {t u:Sem α} (e:t=u) (h:wpAny M A u Q E s):wpAny M A t Q E s:=e ▸ h
theorem kw_nil {μ h kvs} (r:KwR Z μ h [] kvs):kvs=[]:=by cases r; rfl
theorem binds_of {fn:Fn} {args kw σ e0 σ1} {C:Prop} (h:fn.bind args kw σ=some (e0,σ1)) (k:isIn args.length fn.ars=true→∀ l1 l2,bindPos fn.pos args=some l1→bindKw fn.kwo kw=some l2→endB (l1++l2) fn.kwarg σ=some (e0,σ1)→C):C :=
  let ⟨q,h⟩:=X.guard_some h
  of_bindE h fun l1 h1 h=>of_bindE h fun l2 h2 h=>k q l1 l2 h1 h2 h
theorem BindR.app {K} {μ:List Addr} {h:Heap} {l l' m m'} (r:BindR Z K μ h l l') (q:BindR Z K μ h m m'):BindR Z K μ h (l++m) (l'++m'):=by
  induction r with
  | nil=>exact q
  | cons a b _ ih=>exact .cons a b ih
theorem kw_no {kw:List (Nat × V)} {l:List (Pl × V)} (h:bindKw [] kw=some l):kw=[]∧l=[]:=by
  induction kw with
  | nil=>exact ⟨rfl,(Option.some.inj h).symm⟩
  | cons=>exact nS h
theorem bindPos_plain {K:Str→Option NameKind} {μ:List Addr} {h:Heap} {ps:List Pl}:∀ {ns:List Str} {vs:List V} {vals:List Value} {l:List (Pl × V)},bindPos (ps.map fun p=>⟨p,none⟩) vs=some l→VRs Z μ h vs vals→ns.map (cPt K)=ps.map some→BindR Z K μ h l (ns.zip vals)∧vals.length=ps.length:=by
  induction ps with
  | nil =>
    intro ns vs vals l e r hn
    cases r with
    | nil=>induction ns with
      | nil=>exact Option.some.inj e ▸ ⟨.nil,rfl⟩
      | cons=>exact nomatch hn
    | cons=>exact nS e
  | cons p ps ih =>
    intro ns vs vals l e r hn
    cases r with
    | nil=>exact nS e
    | cons r1 r2=>induction ns with
      | nil=>exact nomatch hn
      | cons x ns =>
        obtain ⟨h1,h2⟩:=List.cons.inj hn
        exact omap e fun l' e=>let ⟨b1,b2⟩:=ih e r2 h2; ⟨.cons h1 r1 b1,congrArg (·+1) b2⟩
theorem binds_plain {ps:List Pl} {st:Option Stmt} {K:Str→Option NameKind} {fd:FuncData} (hb:AllV ps.length fun vals=>bindArgs fd ⟨vals,[]⟩=pure (((parsAt st).args.map (·.arg)).zip vals)) (hc:((parsAt st).args.map (·.arg)).map (cPt K)=ps.map some):Binds w h₀ Z fd K (plainFn ps st):=by
  intro μ σ s args kw vals kvs e0 σ1 A N h hr hk Q E k
  refine binds_of h fun _ l1 l2 h1 h2 h=>?_
  obtain ⟨rfl,rfl⟩:=kw_no h2
  cases kw_nil hk
  cases h
  obtain ⟨b1,b2⟩:=bindPos_plain h1 hr hc
  exact wpAny_of_eq (hb.get b2) (k μ s _ l1 (.refl _ _ _ _) N.sim b1 (congrArg _ (List.append_nil l1)))
theorem len_two {args:List V} {C:List V→Prop} (h:isIn args.length [2,4]=true) (k2:∀ a x,C [a,x]) (k4:∀ a x l r,C [a,x,l,r]):C args:=by
  cases args with
  | nil=>cases h
  | cons a args=>cases args with
    | nil=>cases h
    | cons x args=>cases args with
      | nil=>exact k2 a x
      | cons l args=>cases args with
        | nil=>cases h
        | cons r args=>induction args with
          | nil=>exact k4 a x l r
          | cons=>cases h
theorem kw_opt {μ h} {i:Nat} {x:Str} {p:Pl} {d:Option V} {kw:List (Nat × V)} {l:List (Pl × V)} {kvs} {C:List (Pl × V)→List (Str × Value)→Prop} (hx:nm i=some x) (e:bindKw [(i,⟨p,d⟩)] kw=some l) (r:KwR Z μ h kw kvs) (k0:∀ v,d=some v→C [(p,v)] []) (k1:∀ v val,VR Z μ h v val→C [(p,v)] [(x,val)]):C l kvs:=by
  induction r with
  | nil=>exact omap e k0
  | cons a b c =>
    induction c with
    | nil =>
      refine gdE e fun q e=>?_
      cases Nat.eq_of_beq_eq_true q
      cases Option.some.inj (hx.symm.trans a)
      exact Option.some.inj e ▸ k1 _ _ b
    | cons=>exact nS e
theorem nss_key {D:Addr} (B:Base w h₀ Z) {s:Shared} (i:Inv h₀ s.heap) (hD:(D,true)∈[((40:Nat),true),(49,true),(58,true),(67,true),(288,true)]) (hDk:((D,("key":Str)),some Value.none)∈lookNs.zip lookNsVals) (hD6:D≠376):∃ m,s.heap.Ns D m∧m "key"=some .none :=
  let ⟨m,h0,h1⟩:=B.wf.nss D hD
  ⟨m,Ns.ofInv h0 i hD6,h1 _ _ hDk⟩
theorem binds_key {st:Option Stmt} {K:Str→Option NameKind} {fd:FuncData} {T D:Addr} {tk:Tok} {n:Nat} (B:Base w h₀ Z) (hT:(T,some ({ cls:=.type "tuple",data:=.seq #[.int 0 tk,.none] n }:Obj))∈lookAts.zip (lookObjs w)) (hT6:T≠376)
    (hD:(D,true)∈[((40:Nat),true),(49,true),(58,true),(67,true),(288,true)]) (hDk:((D,("key":Str)),some Value.none)∈lookNs.zip lookNsVals) (hD6:D≠376)
    (f2:∀ a x,bindArgs fd ⟨[a,x],[]⟩=bindArgs (kfd fd T D) ⟨[a,x],[]⟩) (f2k:∀ a x k,bindArgs fd ⟨[a,x],[("key",k)]⟩=bindArgs (kfd fd T D) ⟨[a,x],[("key",k)]⟩)
    (f4:∀ a x l r,bindArgs fd ⟨[a,x,l,r],[]⟩=bindArgs (kfd fd T D) ⟨[a,x,l,r],[]⟩) (f4k:∀ a x l r k,bindArgs fd ⟨[a,x,l,r],[("key",k)]⟩=bindArgs (kfd fd T D) ⟨[a,x,l,r],[("key",k)]⟩)
    (hc:(["a","x","lo","hi","key"]:List Str).map (cPt K)=[.loc 0,.loc 1,.loc 2,.loc 3,.loc 4].map some):Binds w h₀ Z fd K (keyFn st):=by
  intro μ σ s args kw vals kvs e0 σ1 A N h hr hk Q E k
  have ho:=kept_obj B N.inv hT hT6
  refine hid fun GG kk=>?_
  refine exA (nss_key B N.inv hD hDk hD6) fun m hm hv=>?_
  obtain ⟨ca,hc⟩:=List.cons.inj hc
  obtain ⟨cx,hc⟩:=List.cons.inj hc
  obtain ⟨cl,hc⟩:=List.cons.inj hc
  obtain ⟨ch,hc⟩:=List.cons.inj hc
  refine kk ?_
  clear kk GG
  have ck:=(List.cons.inj hc).1
  have fin:∀ {a x l r key va vx vl vr vk},VR Z μ s.heap a va→VR Z μ s.heap x vx→VR Z μ s.heap l vl→VR Z μ s.heap r vr→VR Z μ s.heap key vk→BindR Z K μ s.heap [(.loc 0,a),(.loc 1,x),(.loc 2,l),(.loc 3,r),(.loc 4,key)] (kbs va vx vl vr vk):=fun a b c d e=>.cons ca a (.cons cx b (.cons cl c (.cons ch d (.cons ck e .nil))))
  refine binds_of h fun q l1 l2 h1 h2 h=>?_
  cases h
  have k':∀ {l binds},BindR Z K μ s.heap l binds→l1++l2=l→Q binds s:=fun b e=>k μ s _ _ (.refl _ _ _ _) N.sim b (e ▸ rfl)
  clear k
  revert hr h1
  refine len_two (C:=fun args=>VRs Z μ s.heap args vals→bindPos _ args=some l1→_) q (fun a x hr h1=>?_) fun a x l r hr h1=>?_
  · obtain ⟨va,vx,rfl,ra,rx⟩:=hr.two
    cases h1
    refine kw_opt (i:=4) (C:=fun l2 kvs=>(∀ {l binds},BindR Z K μ s.heap l binds→_++l2=l→Q binds s)→wpAny (model P w) A (bindArgs fd ⟨[va,vx],kvs⟩) Q E s) rfl h2 hk (fun v e k'=>?_) (fun v val rv k'=>?_) k'
    · cases e
      exact wpAny_eq (f2 va vx) (bind_key2 ho hm hv (k' (fin ra rx (.int 0 tk) .none .none) rfl))
    · exact wpAny_eq (f2k va vx val) (bind_key2k ho (k' (fin ra rx (.int 0 tk) .none rv) rfl))
  · obtain ⟨va,_,rfl,ra,hr⟩:=hr.cons_inv
    obtain ⟨vx,_,rfl,rx,hr⟩:=hr.cons_inv
    obtain ⟨vl,vh,rfl,rl,rh⟩:=hr.two
    cases h1
    refine kw_opt (i:=4) (C:=fun l2 kvs=>(∀ {l binds},BindR Z K μ s.heap l binds→_++l2=l→Q binds s)→wpAny (model P w) A (bindArgs fd ⟨[va,vx,vl,vh],kvs⟩) Q E s) rfl h2 hk (fun v e k'=>?_) (fun v val rv k'=>?_) k'
    · cases e
      exact wpAny_eq (f4 va vx vl vh) (bind_key4 ho hm hv (k' (fin ra rx rl rh .none) rfl))
    · exact wpAny_eq (f4k va vx vl vh val) (bind_key4k ho (k' (fin ra rx rl rh rv) rfl))
end
section
variable {w:World} {h₀:Heap} {Z:Scr}
theorem binds_conv {qual:Str} {mod:Value} {c:Addr}:Binds w h₀ Z (fnData (methAt 1) qual .none .none mod c) (kinds (scopeAt (methAt 1))) convFn:=by
  intro μ σ s args kw vals kvs e0 σ1 A N h hr hk Q E k
  refine binds_of h fun _ l1 l2 h1 h2 h=>?_
  cases h
  obtain ⟨b1,b2⟩:=bindPos_plain (K:=kinds (scopeAt (methAt 1))) (ps:=[.loc 14,.loc 18]) (ns:=["self","value"]) h1 hr (by kernel_rfl)
  revert k
  refine kw_opt (i:=19) (C:=fun l2 kvs=>(∀ μ' s' binds l,Stp h₀ [] μ s μ' s'→Sim Z h₀ μ' σ s'.heap→BindR Z _ μ' s'.heap l binds→EE.setPs ⟨[],[],0⟩ (l1++l2)=EE.setPs ⟨[],[],0⟩ l→Q binds s')→wpAny (model P w) A (bindArgs (fnData (methAt 1) qual .none .none mod c) ⟨vals,kvs⟩) Q E s) (x:="name") rfl h2 hk (fun v e=>nS e) fun v val rv k=>?_
  revert b1
  exact vec2 b2 fun a x b1=>wpAny_of_eq (show bindArgs (fnData (methAt 1) qual .none .none mod c) ⟨[a,x],[("name",val)]⟩=pure (([("self",a),("value",x)]:List (Str × Value))++([("name",val)]:List (Str × Value))) from rfl) (k μ s _ _ (.refl _ _ _ _) N.sim (b1.app (.cons (by kernel_rfl) rv .nil)) rfl)
theorem binds_add {qual:Str} {mod:Value} {c:Addr} (B:Base w h₀ Z):Binds w h₀ Z (fnData (methAt 16) qual .none .none mod c) (kinds (scopeAt (methAt 16))) addFn:=by
  intro μ σ s args kw vals kvs e0 σ1 A N h hr hk Q E k
  refine binds_of h fun _ l1 l2 h1 h2 h=>?_
  obtain ⟨rfl,rfl⟩:=kw_no h2
  cases kw_nil hk
  cases h
  obtain ⟨b1,b2⟩:=bindPos_plain (K:=kinds (scopeAt (methAt 16))) (ps:=[.loc 14,.loc 21,.loc 22]) (ns:=["self","_name","_value"]) h1 hr (by kernel_rfl)
  have hk1:∀ b o,s.heap.get? b=some o→(s.heap.push { cls:=.type "dict",data:=.dict #[] }).get? b=some o:=fun b o e=>Heap.get?_push_of_some _ e
  have S1:Sim Z h₀ (μ++[s.heap.objs.size]) (σ++[Cl.kw]) (s.heap.push { cls:=.type "dict",data:=.dict #[] }) :=
    N.sim.snoc hk1 (get?_size _) (N.inv.fresh (get?_size _)) (c:=.kw) ⟨0,Heap.get?_push_size _ rfl,Heap.lt_size (kept_obj B N.inv (law_obj w) (by decide))⟩
  have st:Stp h₀ [] μ s (μ++[s.heap.objs.size]) { s with heap:=s.heap.push { cls:=.type "dict",data:=.dict #[] } }:=Stp.grow (get?_size _) hk1 rfl rfl
  have hD:(μ++[s.heap.objs.size])[σ.length]?=some s.heap.objs.size:=N.sim.len ▸ List.getElem?_concat_length
  revert b1
  refine vec3 b2 fun a x l b1=>?_
  · show wpAny _ _ (alloc { cls:=.type "dict",data:=.dict #[] } >>= _) _ _ _
    exact wpAny_bind (wpAny_alloc (wpAny_pure (k _ _ _ (l1++[_]) st S1 ((b1.mono st.Pre st.fro).app (.cons (by kernel_rfl) (.kw0 hD) .nil)) (congrArg (fun l=>EE.setPs ⟨[],[],0⟩ (l++[_])) (List.append_nil l1)))))
end
section
variable {w:World} {h₀:Heap} {Z:Scr} (B:Base w h₀ Z)
include B in
theorem run_47:FnRun w h₀ Z 47 (fnTab[0]).2:=⟨(stAt 2),"insort_right",.ref 39,.ref 40,.str "cpy313.bisect" 289,46,co46,294,mem_pick (i:=0) rfl,mem_pick (i:=1) rfl,rfl,by decide,(fun h=>nomatch h),stOk_of (by kernel_rfl),rfl,(binds_key B (mem_pick (i:=56) rfl) (by decide) (mem_pick (i:=0) rfl) (mem_pick (i:=0) rfl) (by decide) (fun _ _=>rfl) (fun _ _ _=>rfl) (fun _ _ _ _=>rfl) (fun _ _ _ _ _=>rfl) (by kernel_rfl))⟩
include B in
theorem run_56:FnRun w h₀ Z 56 (fnTab[1]).2:=⟨(stAt 3),"bisect_right",.ref 48,.ref 49,.str "cpy313.bisect" 289,55,co55,307,mem_pick (i:=2) rfl,mem_pick (i:=3) rfl,rfl,by decide,(fun h=>nomatch h),stOk_of (by kernel_rfl),rfl,(binds_key B (mem_pick (i:=57) rfl) (by decide) (mem_pick (i:=1) rfl) (mem_pick (i:=1) rfl) (by decide) (fun _ _=>rfl) (fun _ _ _=>rfl) (fun _ _ _ _=>rfl) (fun _ _ _ _ _=>rfl) (by kernel_rfl))⟩
include B in
theorem run_65:FnRun w h₀ Z 65 (fnTab[2]).2:=⟨(stAt 4),"insort_left",.ref 57,.ref 58,.str "cpy313.bisect" 289,64,co64,321,mem_pick (i:=4) rfl,mem_pick (i:=5) rfl,rfl,by decide,(fun h=>nomatch h),stOk_of (by kernel_rfl),rfl,(binds_key B (mem_pick (i:=58) rfl) (by decide) (mem_pick (i:=2) rfl) (mem_pick (i:=2) rfl) (by decide) (fun _ _=>rfl) (fun _ _ _=>rfl) (fun _ _ _ _=>rfl) (fun _ _ _ _ _=>rfl) (by kernel_rfl))⟩
include B in
theorem run_74:FnRun w h₀ Z 74 (fnTab[3]).2:=⟨(stAt 5),"bisect_left",.ref 66,.ref 67,.str "cpy313.bisect" 289,73,co73,334,mem_pick (i:=6) rfl,mem_pick (i:=7) rfl,rfl,by decide,(fun h=>nomatch h),stOk_of (by kernel_rfl),rfl,(binds_key B (mem_pick (i:=59) rfl) (by decide) (mem_pick (i:=3) rfl) (mem_pick (i:=3) rfl) (by decide) (fun _ _=>rfl) (fun _ _ _=>rfl) (fun _ _ _ _=>rfl) (fun _ _ _ _ _=>rfl) (by kernel_rfl))⟩
theorem run_81:FnRun w h₀ Z 81 (fnTab[4]).2:=⟨(stAt 8),"_ellipsis_match",.none,.none,.str "cpy313.doctest" 345,80,co80,350,mem_pick (i:=8) rfl,mem_pick (i:=9) rfl,rfl,by decide,(fun h=>nomatch h),stOk_of (by kernel_rfl),rfl,(binds_plain (ps:=[.loc 6,.loc 7]) (st:=(stAt 8)) (fd:=fnData (stAt 8) "_ellipsis_match" .none .none (.str "cpy313.doctest" 345) 80) (fun _ _=>rfl) (by kernel_rfl))⟩
theorem run_99:FnRun w h₀ Z 99 (fnTab[5]).2:=⟨(stAt 11),"in_table_b1",.none,.none,.str "cpy313.stringprep" 361,98,co98,424,mem_pick (i:=10) rfl,mem_pick (i:=11) rfl,rfl,by decide,(fun h=>nomatch h),stOk_of (by kernel_rfl),rfl,(binds_plain (ps:=[.loc 12]) (st:=(stAt 11)) (fd:=fnData (stAt 11) "in_table_b1" .none .none (.str "cpy313.stringprep" 361) 98) (fun _=>rfl) (by kernel_rfl))⟩
theorem run_145:FnRun w h₀ Z 145 (fnTab[6]).2:=⟨(stAt 13),"map_table_b3",.none,.none,.str "cpy313.stringprep" 361,144,co144,2382,mem_pick (i:=12) rfl,mem_pick (i:=13) rfl,rfl,by decide,(fun h=>nomatch h),stOk_of (by kernel_rfl),rfl,(binds_plain (ps:=[.loc 12]) (st:=(stAt 13)) (fd:=fnData (stAt 13) "map_table_b3" .none .none (.str "cpy313.stringprep" 361) 144) (fun _=>rfl) (by kernel_rfl))⟩
theorem run_190:FnRun w h₀ Z 190 (fnTab[7]).2:=⟨(methAt 1),"Headers._convert_string_type",.none,.none,.str "cpy313.wsgiref.headers" 2389,189,co189,2518,mem_pick (i:=18) rfl,mem_pick (i:=19) rfl,rfl,by decide,(fun h=>nomatch h),stOk_of (by kernel_rfl),rfl,binds_conv⟩
theorem run_228:FnRun w h₀ Z 228 (fnTab[8]).2:=⟨(methAt 7),"Headers.get_all",.none,.none,.str "cpy313.wsgiref.headers" 2389,227,co227,2566,mem_pick (i:=20) rfl,mem_pick (i:=21) rfl,rfl,by decide,(fun h=>nomatch h),stOk_of (by kernel_rfl),rfl,(binds_plain (ps:=[.loc 14,.cel 19]) (st:=(methAt 7)) (fd:=fnData (methAt 7) "Headers.get_all" .none .none (.str "cpy313.wsgiref.headers" 2389) 227) (fun _ _=>rfl) (by kernel_rfl))⟩
include B in
theorem run_286:FnRun w h₀ Z 286 (fnTab[9]).2:=⟨(methAt 16),"Headers.add_header",.none,.none,.str "cpy313.wsgiref.headers" 2389,285,co285,2631,mem_pick (i:=22) rfl,mem_pick (i:=23) rfl,rfl,by decide,(fun h=>nomatch h),stOk_of (by kernel_rfl),rfl,(binds_add B)⟩
theorem run_300:FnRun w h₀ Z 300 (fnTab[10]).2:=⟨(stAt 21),"_law_words",.none,.none,.str "law_uk0031_01" 2652,299,co299,2655,mem_pick (i:=24) rfl,mem_pick (i:=25) rfl,rfl,by decide,(fun h=>nomatch h),stOk_of (by kernel_rfl),rfl,(binds_plain (ps:=[]) (st:=(stAt 21)) (fd:=fnData (stAt 21) "_law_words" .none .none (.str "law_uk0031_01" 2652) 299) rfl (by kernel_rfl))⟩
theorem run_307:FnRun w h₀ Z 307 (fnTab[11]).2:=⟨(stAt 22),"_law_unseen",.none,.none,.str "law_uk0031_01" 2652,306,co306,2661,mem_pick (i:=26) rfl,mem_pick (i:=27) rfl,rfl,by decide,(fun h=>nomatch h),stOk_of (by kernel_rfl),rfl,(binds_plain (ps:=[.loc 16]) (st:=(stAt 22)) (fd:=fnData (stAt 22) "_law_unseen" .none .none (.str "law_uk0031_01" 2652) 306) (fun _=>rfl) (by kernel_rfl))⟩
theorem run_314:FnRun w h₀ Z 314 (fnTab[12]).2:=⟨(stAt 23),"_law_beside",.none,.none,.str "law_uk0031_01" 2652,313,co313,2668,mem_pick (i:=28) rfl,mem_pick (i:=29) rfl,rfl,by decide,(fun h=>nomatch h),stOk_of (by kernel_rfl),rfl,(binds_plain (ps:=[.loc 16]) (st:=(stAt 23)) (fd:=fnData (stAt 23) "_law_beside" .none .none (.str "law_uk0031_01" 2652) 313) (fun _=>rfl) (by kernel_rfl))⟩
theorem run_321:FnRun w h₀ Z 321 (fnTab[13]).2:=⟨(stAt 24),"_law_letter",.none,.none,.str "law_uk0031_01" 2652,320,co320,2675,mem_pick (i:=30) rfl,mem_pick (i:=31) rfl,rfl,by decide,(fun h=>nomatch h),stOk_of (by kernel_rfl),rfl,(binds_plain (ps:=[.loc 26,.loc 16]) (st:=(stAt 24)) (fd:=fnData (stAt 24) "_law_letter" .none .none (.str "law_uk0031_01" 2652) 320) (fun _ _=>rfl) (by kernel_rfl))⟩
theorem run_326:FnRun w h₀ Z 326 (fnTab[14]).2:=⟨(stAt 25),"_law_typed",.none,.none,.str "law_uk0031_01" 2652,325,co325,2683,mem_pick (i:=32) rfl,mem_pick (i:=33) rfl,rfl,by decide,(fun h=>nomatch h),stOk_of (by kernel_rfl),rfl,(binds_plain (ps:=[.cel 27,.loc 28]) (st:=(stAt 25)) (fd:=fnData (stAt 25) "_law_typed" .none .none (.str "law_uk0031_01" 2652) 325) (fun _ _=>rfl) (by kernel_rfl))⟩
theorem run_331:FnRun w h₀ Z 331 (fnTab[15]).2:=⟨(stAt 26),"_law_prepared",.none,.none,.str "law_uk0031_01" 2652,330,co330,2689,mem_pick (i:=34) rfl,mem_pick (i:=35) rfl,rfl,by decide,(fun h=>nomatch h),stOk_of (by kernel_rfl),rfl,(binds_plain (ps:=[.loc 30]) (st:=(stAt 26)) (fd:=fnData (stAt 26) "_law_prepared" .none .none (.str "law_uk0031_01" 2652) 330) (fun _=>rfl) (by kernel_rfl))⟩
theorem run_338:FnRun w h₀ Z 338 (fnTab[16]).2:=⟨(stAt 27),"_law_order",.none,.none,.str "law_uk0031_01" 2652,337,co337,2695,mem_pick (i:=36) rfl,mem_pick (i:=37) rfl,rfl,by decide,(fun h=>nomatch h),stOk_of (by kernel_rfl),rfl,(binds_plain (ps:=[.loc 28]) (st:=(stAt 27)) (fd:=fnData (stAt 27) "_law_order" .none .none (.str "law_uk0031_01" 2652) 337) (fun _=>rfl) (by kernel_rfl))⟩
theorem run_345:FnRun w h₀ Z 345 (fnTab[17]).2:=⟨(stAt 28),"_law_day",.none,.none,.str "law_uk0031_01" 2652,344,co344,2705,mem_pick (i:=38) rfl,mem_pick (i:=39) rfl,rfl,by decide,(fun h=>nomatch h),stOk_of (by kernel_rfl),rfl,(binds_plain (ps:=[.loc 37]) (st:=(stAt 28)) (fd:=fnData (stAt 28) "_law_day" .none .none (.str "law_uk0031_01" 2652) 344) (fun _=>rfl) (by kernel_rfl))⟩
theorem run_350:FnRun w h₀ Z 350 (fnTab[18]).2:=⟨(stAt 29),"_law_plans",.none,.none,.str "law_uk0031_01" 2652,349,co349,2712,mem_pick (i:=40) rfl,mem_pick (i:=41) rfl,rfl,by decide,(fun h=>nomatch h),stOk_of (by kernel_rfl),rfl,(binds_plain (ps:=[.loc 34,.cel 38,.loc 39,.cel 40]) (st:=(stAt 29)) (fd:=fnData (stAt 29) "_law_plans" .none .none (.str "law_uk0031_01" 2652) 349) (fun _ _ _ _=>rfl) (by kernel_rfl))⟩
theorem run_355:FnRun w h₀ Z 355 (fnTab[19]).2:=⟨(stAt 30),"_law_table",.none,.none,.str "law_uk0031_01" 2652,354,co354,2718,mem_pick (i:=42) rfl,mem_pick (i:=43) rfl,rfl,by decide,(fun h=>nomatch h),stOk_of (by kernel_rfl),rfl,(binds_plain (ps:=[.loc 34,.loc 38,.loc 39]) (st:=(stAt 30)) (fd:=fnData (stAt 30) "_law_table" .none .none (.str "law_uk0031_01" 2652) 354) (fun _ _ _=>rfl) (by kernel_rfl))⟩
theorem run_362:FnRun w h₀ Z 362 (fnTab[20]).2:=⟨(stAt 31),"_law_dotted",.none,.none,.str "law_uk0031_01" 2652,361,co361,2724,mem_pick (i:=44) rfl,mem_pick (i:=45) rfl,rfl,by decide,(fun h=>nomatch h),stOk_of (by kernel_rfl),rfl,(binds_plain (ps:=[.loc 27]) (st:=(stAt 31)) (fd:=fnData (stAt 31) "_law_dotted" .none .none (.str "law_uk0031_01" 2652) 361) (fun _=>rfl) (by kernel_rfl))⟩
theorem run_369:FnRun w h₀ Z 369 (fnTab[21]).2:=⟨(stAt 32),"_law_taken",.none,.none,.str "law_uk0031_01" 2652,368,co368,2731,mem_pick (i:=46) rfl,mem_pick (i:=47) rfl,rfl,by decide,(fun h=>nomatch h),stOk_of (by kernel_rfl),rfl,(binds_plain (ps:=[.loc 57,.loc 45]) (st:=(stAt 32)) (fd:=fnData (stAt 32) "_law_taken" .none .none (.str "law_uk0031_01" 2652) 368) (fun _ _=>rfl) (by kernel_rfl))⟩
theorem run_374:FnRun w h₀ Z 374 (fnTab[22]).2:=⟨(stAt 33),"_law_rising",.none,.none,.str "law_uk0031_01" 2652,373,co373,2741,mem_pick (i:=48) rfl,mem_pick (i:=49) rfl,rfl,by decide,(fun h=>nomatch h),stOk_of (by kernel_rfl),rfl,(binds_plain (ps:=[.cel 39]) (st:=(stAt 33)) (fd:=fnData (stAt 33) "_law_rising" .none .none (.str "law_uk0031_01" 2652) 373) (fun _=>rfl) (by kernel_rfl))⟩
theorem run_379:FnRun w h₀ Z 379 (fnTab[23]).2:=⟨(stAt 34),"_law_due",.none,.none,.str "law_uk0031_01" 2652,378,co378,2747,mem_pick (i:=50) rfl,mem_pick (i:=51) rfl,rfl,by decide,(fun _=>⟨rfl,rfl⟩),stOk_of (by kernel_rfl),rfl,(binds_plain (ps:=[.cel 45,.cel 34,.loc 61,.cel 62]) (st:=(stAt 34)) (fd:=fnData (stAt 34) "_law_due" .none .none (.str "law_uk0031_01" 2652) 378) (fun _ _ _ _=>rfl) (by kernel_rfl))⟩
theorem run_384:FnRun w h₀ Z 384 (fnTab[24]).2:=⟨(stAt 35),"_law_copies_agree",.none,.none,.str "law_uk0031_01" 2652,383,co383,2753,mem_pick (i:=52) rfl,mem_pick (i:=53) rfl,rfl,by decide,(fun h=>nomatch h),stOk_of (by kernel_rfl),rfl,(binds_plain (ps:=[.loc 45,.loc 66,.loc 64,.cel 67]) (st:=(stAt 35)) (fd:=fnData (stAt 35) "_law_copies_agree" .none .none (.str "law_uk0031_01" 2652) 383) (fun _ _ _ _=>rfl) (by kernel_rfl))⟩
theorem run_389:FnRun w h₀ Z 389 (fnTab[25]).2:=⟨(stAt 36),"law",.none,.none,.str "law_uk0031_01" 2652,388,co388,2759,mem_pick (i:=54) rfl,mem_pick (i:=55) rfl,rfl,by decide,(fun h=>nomatch h),stOk_of (by kernel_rfl),rfl,(binds_plain (ps:=[.loc 69]) (st:=(stAt 36)) (fd:=fnData (stAt 36) "law" .none .none (.str "law_uk0031_01" 2652) 388) (fun _=>rfl) (by kernel_rfl))⟩
end
theorem at1_mem {α:Type} {a:Nat} {v:α} {l:List (Nat × α)}:at1 a l=some v→(a,v)∈l:=by
  induction l with
  | nil=>exact nS
  | cons x l ih =>
    show Bool.casesOn (motive:=fun _=>Option α) (Nat.beq x.1 a) (at1 a l) (some x.2)=some v→_
    cases e:Nat.beq x.1 a with
    | true=>exact fun h=>Nat.eq_of_beq_eq_true e ▸ Option.some.inj h ▸ .head _
    | false=>exact fun h=>.tail _ (ih h)
theorem runs {w:World} {h₀:Heap} {Z:Scr} (B:Base w h₀ Z):∀ a fn,fnAt a=some fn→FnRun w h₀ Z a fn:=by
  have all:∀ p∈fnTab,FnRun w h₀ Z p.1 p.2:=by
    refine List.forall_mem_cons.mpr ⟨run_47 B,?_⟩
    refine List.forall_mem_cons.mpr ⟨run_56 B,?_⟩
    refine List.forall_mem_cons.mpr ⟨run_65 B,?_⟩
    refine List.forall_mem_cons.mpr ⟨run_74 B,?_⟩
    refine List.forall_mem_cons.mpr ⟨run_81,?_⟩
    refine List.forall_mem_cons.mpr ⟨run_99,?_⟩
    refine List.forall_mem_cons.mpr ⟨run_145,?_⟩
    refine List.forall_mem_cons.mpr ⟨run_190,?_⟩
    refine List.forall_mem_cons.mpr ⟨run_228,?_⟩
    refine List.forall_mem_cons.mpr ⟨run_286 B,?_⟩
    refine List.forall_mem_cons.mpr ⟨run_300,?_⟩
    refine List.forall_mem_cons.mpr ⟨run_307,?_⟩
    refine List.forall_mem_cons.mpr ⟨run_314,?_⟩
    refine List.forall_mem_cons.mpr ⟨run_321,?_⟩
    refine List.forall_mem_cons.mpr ⟨run_326,?_⟩
    refine List.forall_mem_cons.mpr ⟨run_331,?_⟩
    refine List.forall_mem_cons.mpr ⟨run_338,?_⟩
    refine List.forall_mem_cons.mpr ⟨run_345,?_⟩
    refine List.forall_mem_cons.mpr ⟨run_350,?_⟩
    refine List.forall_mem_cons.mpr ⟨run_355,?_⟩
    refine List.forall_mem_cons.mpr ⟨run_362,?_⟩
    refine List.forall_mem_cons.mpr ⟨run_369,?_⟩
    refine List.forall_mem_cons.mpr ⟨run_374,?_⟩
    refine List.forall_mem_cons.mpr ⟨run_379,?_⟩
    refine List.forall_mem_cons.mpr ⟨run_384,?_⟩
    refine List.forall_mem_cons.mpr ⟨run_389,?_⟩
    exact fun _ h=>nomatch h
  exact fun a fn h=>all _ (at1_mem h)
theorem lkO_headers:typeLookup (.type "object") "_headers"=pure none:=by rw [typeLookup_type,builtinLookup_eq_fast]; kernel_rfl
theorem lkO_get_all:typeLookup (.type "object") "get_all"=pure none:=by rw [typeLookup_type,builtinLookup_eq_fast]; kernel_rfl
theorem lkO_add_header:typeLookup (.type "object") "add_header"=pure none:=by rw [typeLookup_type,builtinLookup_eq_fast]; kernel_rfl
theorem lkO_conv:typeLookup (.type "object") "_convert_string_type"=pure none:=by rw [typeLookup_type,builtinLookup_eq_fast]; kernel_rfl
section
variable {w:World} {h₀:Heap} {Z:Scr}
noncomputable abbrev clsHead:Obj:=excClassObj "Headers" "Headers" 289 288 [.type "object"] [.type "object"] true [] [] false none none none none (some (.str "Headers" 2495)) (some (.str "Headers" 2503)) (some (.bool true)) "object.__new__"
theorem cls_obj {h:Heap} (B:Base w h₀ Z) (i:Inv h₀ h):h.get? 289=some clsHead :=
  kept_obj B i (o:=clsHead) (mem_pick (i:=67) rfl) (by decide)
theorem cls_ns {h:Heap} (B:Base w h₀ Z) (i:Inv h₀ h):∃ m,h.Ns 288 m∧∀ k v,((288,k),v)∈lookNs.zip lookNsVals→m k=v:=by
  refine exA (B.wf.nss 288 (by simp)) fun m h1 h2=>?_
  exact ⟨m,Ns.ofInv h1 i (by decide),h2⟩
theorem ins_inst {μ:List Addr} {σ:St} {h:Heap} {k:Nat} {x:Addr} {v:V} (S:Sim Z h₀ μ σ h) (e:σ[k]?=some (Cl.ins v)) (r:VR Z μ h (.ins k) (.ref x)):∃ mA val,h.Inst x 289 mA∧mA "_headers"=some val∧(∀ y:Str,y≠("_headers":Str)→mA y=none)∧VR Z μ h v val:=by
  cases r with
  | ins ho hc hd hdd hμ =>
    refine hid fun GG kk=>?_
    obtain ⟨d',m,val,h1,h2,h3,h4,h5⟩:=S.ins k v e
    refine kk ?_
    clear kk GG
    obtain rfl:=Option.some.inj (hμ.symm.trans h1)
    refine ⟨m,val,⟨_,ho,hc,fun c q=>(by rw [hd] at q; cases q),.inr ⟨_,hdd,fun q=>?_,h2⟩⟩,h3,h4,h5⟩
    obtain ⟨o',es,ep,e1,e2,_⟩:=h2
    rw [q,ho] at e1
    cases e1
    rw [hd] at e2; cases e2
theorem VR.handed {μ:List Addr} {h:Heap} {v:V} {val:Value} (r:VR Z μ h v val):handedOut val=pure val:=by
  cases r with
  | bi b=>cases b <;> rfl
  | ty t=>cases t <;> rfl
  | _=>rfl
theorem E_attr {n:Nat} (hE:SndE w h₀ Z n) (B:Base w h₀ Z) {K e env μ σ s A} {o:Expr} {p:Pos} {c:CE} {v:V} {σ':St} (hx:Ex K o c) (he:stepE (fs n) e (.attr c) σ=some (v,σ')) (gA:GoodA n A) (O:Ok w h₀ Z K e env μ σ s) :
    Wp w h₀ Z A (eval (.Attribute o "_headers" p) env) μ s σ' v:=by
  refine X.bindE he fun ov σ1 h1 he=>?_
  intro Q E h
  rw [arm_eval_Attribute,base_of hx]
  refine wpAny_bind (hE hx h1 gA O _ E fun μ1 s1 oval st1 S1 r1=>wpAny_bind (wpAny_standAt ?_))
  have N1:=O.now.stp st1 S1
  cases r1 with
  | ins ho hc hd hdd hμ =>
    obtain ⟨hk,rfl⟩:=getIns_some he
    refine hid fun GG kk=>?_
    obtain ⟨mA,val,I,hv,_,rv⟩:=ins_inst S1 hk (.ins ho hc hd hdd hμ)
    refine exA (cls_ns B N1.inv) fun m hm hn=>?_
    obtain ⟨hh,g,d,t,os⟩:=s1
    refine kk ?_
    clear kk GG
    exact wpAny_bind (wpAny_holding (load_attr (cls_obj B N1.inv) hm (hn _ _ (mem_pick (i:=27) rfl)) (hn _ _ (mem_pick (i:=30) rfl)) lkO_headers I hv rv.handed (wpAny_bind (wpAny_letTemporaryGo (wpAny_pure (h μ1 _ val (st1.trans (Stp.toks (t+1))) S1 rv))))))
  | _=>exact nS he
noncomputable def Bi.T (b:Bi):String:=Bi.casesOn (motive:=fun _=>String) b "" "" "" "" "" "" "" "str" "str" "str" "str" "str" "str" "list" "list" "list" "dict" "re.Pattern"
noncomputable def RecvT (s:Shared) (T:String) (x:Value):Prop:=s.TypeIs x T∧∀ a,x=.ref a→∃ ob,s.heap.get? a=some ob∧ob.dict=none
theorem rcvB_g {c:Cx w h₀ Z} {b:Bi} {v:V} {x:Value} (r:c.R v x):c.G (rcvB b v) fun _ σ'=>c.σ=σ'∧RecvT c.s b.T x:=by
  have str:c.G (rS v) fun _ σ'=>c.σ=σ'∧RecvT c.s "str" x:=G.onS (D:=fun x _ σ'=>c.σ=σ'∧RecvT c.s "str" x) r fun y t=>G.pure ⟨rfl,typeIs_str _ _ _,fun a q=>nomatch q⟩
  have lst:c.G (rL v) fun _ σ'=>c.σ=σ'∧RecvT c.s "list" x:=G.onL (D:=fun x _ σ'=>c.σ=σ'∧RecvT c.s "list" x) r fun k a xs items L=>G.pure ⟨rfl,let ⟨_,l1⟩:=L.l; ⟨⟨_,l1,rfl⟩,fun a' q=>Value.ref.inj q ▸ ⟨_,l1,rfl⟩⟩⟩
  have obj:∀ {a:Addr} {ob:Obj} {T:String},c.s.heap.get? a=some ob→ob.cls=.type T→ob.dict=none→RecvT c.s T (.ref a):=fun h1 h2 h3=>⟨⟨_,h1,h2⟩,fun a' q=>Value.ref.inj q ▸ ⟨_,h1,h3⟩⟩
  induction b with
  | split=>exact str
  | find=>exact str
  | lower=>exact str
  | upper=>exact str
  | join=>exact str
  | index=>exact str
  | append=>exact lst
  | insert=>exact lst
  | extend=>exact lst
  | dget =>
    refine G.onG (D:=fun x _ σ'=>c.σ=σ'∧RecvT c.s "dict" x) r fun a=>G.guard fun q=>G.pure ⟨rfl,?_⟩
    cases Nat.eq_of_beq_eq_true q
    refine hid fun GG kk=>?_
    obtain ⟨VV,hT,o,es,ep,ho,hd⟩:=c.B.wf.b3
    refine kk ?_
    clear kk GG
    exact obj (c.N.inv.keep _ _ ho (by decide)) hd.1.1 hd.1.2.1
  | search =>
    refine G.onG (D:=fun x _ σ'=>c.σ=σ'∧RecvT c.s "re.Pattern" x) r fun a=>G.guard fun q=>G.pure ⟨rfl,?_⟩
    rcases Bool.or_eq_true_iff.mp q with q | q <;> cases Nat.eq_of_beq_eq_true q
    · exact obj (kept_obj c.B c.N.inv (a:=155) (mem_pick (i:=63) rfl) (by decide)) rfl rfl
    · exact obj (kept_obj c.B c.N.inv (a:=160) (mem_pick (i:=64) rfl) (by decide)) rfl rfl
  | _=>exact G.fail
theorem L2.len {α β:Type} {R:α→β→Prop} {l m} (h:L2 R l m):l.length=m.length:=by
  induction h with
  | nil=>rfl
  | cons _ _ ih=>exact congrArg (·+1) ih
theorem plain_all {K} {env:Env} {pos:Pos} {xs:List Expr} {es:List CE} (h:Exs K xs es):(backTo pos (starEach xs env)).all (fun x=>!x.1)=true:=by
  induction h with
  | nil=>rfl
  | cons h _ ih =>
    rw [starEach_of h]
    exact ih
structure BltOk (m:Str) (b:Bi):Prop where
  pa:PlainAttrs b.T
  slot:Slot b.T m b.id
  ty:typeOf (.builtin b.id)=pure (.type "method_descriptor")
structure InsOk (m:Str) (a:Addr):Prop where
  hm:((288,m),some (Value.ref a))∈lookNs.zip lookNsVals
  hO:typeLookup (.type "object") m=pure none
  ne:m≠("_headers":Str)
noncomputable def MthOk (m:Str) (mm:Mth):Prop:=Mth.casesOn (motive:=fun _=>Prop) mm (BltOk m) (InsOk m 228) (InsOk m 286) (InsOk m 190) True
theorem meths_ok:∀ p∈meths,MthOk p.1 p.2:=by
  refine List.forall_mem_cons.mpr ⟨⟨F.plainAttrs_str,F.slot_str_split,F.type_str_split⟩,?_⟩
  refine List.forall_mem_cons.mpr ⟨⟨F.plainAttrs_str,F.slot_str_find,F.type_str_find⟩,?_⟩
  refine List.forall_mem_cons.mpr ⟨⟨F.plainAttrs_str,F.slot_str_lower,F.type_str_lower⟩,?_⟩
  refine List.forall_mem_cons.mpr ⟨⟨F.plainAttrs_str,F.slot_str_upper,F.type_str_upper⟩,?_⟩
  refine List.forall_mem_cons.mpr ⟨⟨F.plainAttrs_str,F.slot_str_join,F.type_str_join⟩,?_⟩
  refine List.forall_mem_cons.mpr ⟨⟨F.plainAttrs_str,F.slot_str_index,F.type_str_index⟩,?_⟩
  refine List.forall_mem_cons.mpr ⟨⟨F.plainAttrs_list,F.slot_list_append,F.type_list_append⟩,?_⟩
  refine List.forall_mem_cons.mpr ⟨⟨F.plainAttrs_list,F.slot_list_insert,F.type_list_insert⟩,?_⟩
  refine List.forall_mem_cons.mpr ⟨⟨F.plainAttrs_list,F.slot_list_extend,F.type_list_extend⟩,?_⟩
  refine List.forall_mem_cons.mpr ⟨⟨F.plainAttrs_dict,F.slot_dict_get,F.type_dict_get⟩,?_⟩
  refine List.forall_mem_cons.mpr ⟨⟨plainAttrs_re,slot_search,type_search⟩,?_⟩
  refine List.forall_mem_cons.mpr ⟨⟨mem_pick (i:=13) rfl,lkO_get_all,by decide +kernel⟩,?_⟩
  refine List.forall_mem_cons.mpr ⟨⟨mem_pick (i:=22) rfl,lkO_add_header,by decide +kernel⟩,?_⟩
  exact List.forall_mem_cons.mpr ⟨⟨mem_pick (i:=7) rfl,lkO_conv,by decide +kernel⟩,fun _ h=>nomatch h⟩
theorem meth_blt {n:Nat} (hE:SndE w h₀ Z n) (B:Base w h₀ Z) {K e env μ σ s A} {o:Expr} {m:Str} {b:Bi} {apos pos:Pos} {args:List Expr} {c:CE} {as:List CE} {v ov:V} {vs:List V} {σ1 σ1' σ2 σ':St} {u:Unit}
    (F:BltOk m b) (hl:(apos.endLine == pos.line)=true) (hx:Ex K o c) (ha:Exs K args as) (h1:(fs n).E e c σ=some (ov,σ1)) (hr:rcvB b ov σ1=some (u,σ1')) (h2:evs ((fs n).E e) as σ1'=some (vs,σ2)) (hb:callB b (ov::vs) σ2=some (v,σ')) (hn:as.length < 20) (gA:GoodA n A) (O:Ok w h₀ Z K e env μ σ s) :
    Wp w h₀ Z A (eval (.Call (.Attribute o m apos) args [] pos) env) μ s σ' v:=fun Q E h =>
  wpAny_Call_method (base_of hx m env) (by rw [plain_all ha]; exact decide_eq_true (Nat.lt_trans (ha.len ▸ hn:args.length < 20) (by decide))) hl F.pa F.slot F.ty (hE hx h1 gA O _ E fun μ1 s1 oval st1 S1 r1=>by
    obtain ⟨rfl,T⟩:=rcvB_g (c:=cx B gA (O.now.stp st1 S1)) r1 hr
    have O1:=O.stp B st1 S1
    exact ⟨T.1,T.2,Calls.callWith_builtin (plain_args ha) (args_sound hE B gA ha h2 O1 fun μ2 s2 vals st2 S2 r2=>callB_g (c:=cx B gA (O1.now.stp st2 S2)) (.cons (st2.vr r1) r2) hb Q E fun μ3 s3 val st3 S3 r3=>h μ3 s3 val ((st1.trans st2).trans st3) S3 r3)⟩)
theorem meth_ins {n:Nat} (hE:SndE w h₀ Z n) (hC:SndC w h₀ Z n) (B:Base w h₀ Z) {K e env μ σ s A} {o:Expr} {m:Str} {a:Addr} {apos pos:Pos} {args:List Expr} {kw:List Keyword} {c:CE} {as:List CE} {ks:List (Nat × CE)} {v ov:V} {vs:List V} {kvs:List (Nat × V)} {σ1 σ1' σ2 σ3 σ':St} {u:Unit}
    (F:InsOk m a) (hl:(apos.endLine == pos.line)=true) (hx:Ex K o c) (ha:Exs K args as) (hk:Ks K kw ks)
    (h1:(fs n).E e c σ=some (ov,σ1)) (hr:insR ov σ1=some (u,σ1')) (h2:evs ((fs n).E e) as σ1'=some (vs,σ2)) (h3:evKw ((fs n).E e) ks σ2=some (kvs,σ3)) (hb:insM (fs n) a ov vs kvs σ3=some (v,σ')) (hfew:as.length+ks.length < 20) (gA:GoodA n A) (O:Ok w h₀ Z K e env μ σ s) :
    Wp w h₀ Z A (eval (.Call (.Attribute o m apos) args kw pos) env) μ s σ' v:=by
  intro Q E h
  rw [arm_eval_Call,base_of hx]
  refine wpAny_bind (hE hx h1 gA O _ E fun μ1 s1 oval st1 S1 r1=>wpAny_bind (wpAny_standAt ?_))
  have O1:=O.stp B st1 S1
  have N1:=O1.now
  obtain ⟨k,rfl⟩:∃ k,ov=.ins k:=by
    cases ov with
    | ins k=>exact ⟨k,rfl⟩
    | _=>exact nS hr
  have hb:(fs n).C a (.ins k::vs) kvs σ3=some (v,σ'):=hb
  obtain ⟨iv,σ9,h9,hr⟩:=X.bind_inv (f:=fun _=>X.pure ()) hr
  cases hr
  obtain ⟨hiv,rfl⟩:=getIns_some h9
  obtain ⟨fn,hfn⟩:=C_fn hb
  refine exE (fn_obj (w:=w) hfn) fun fd hmo=>?_
  have hne6:a≠376:=by rintro rfl; exact nS hfn
  have hform:methodCallForm (args.length+kw.length) (backTo pos (starEach args env)) (backToKw pos (keywordEach kw env))=true:=by
    unfold methodCallForm
    rw [plain_all ha,ks_some hk,ha.len,hk.len]
    exact decide_eq_true (Nat.lt_of_lt_of_le (Nat.add_lt_add_of_lt_of_le hfew (show (if _ then 0 else 1)≤1 by split <;> decide)) (by decide))
  have hpos:methodCallPos true o env apos pos=pure pos:=by unfold methodCallPos; simp [hl]
  unfold methodCall
  rw [hform]
  obtain ⟨x,rfl⟩:∃ x,oval=.ref x:=by cases r1; exact ⟨_,rfl⟩
  refine hid fun GG kk=>?_
  obtain ⟨mA,val,I,_,hno,_⟩:=ins_inst S1 hiv r1
  refine exA (cls_ns B N1.inv) fun mm hmm hn=>?_
  obtain ⟨hh,g,d,t,os⟩:=s1
  refine kk ?_
  clear kk GG
  refine wpAny_bind (wpAny_holding (method_of (cls_obj B N1.inv) hmm (hn _ _ (mem_pick (i:=27) rfl)) (hn _ _ (mem_pick (i:=28) rfl)) (hn _ _ F.hm) (kept_obj B N1.inv hmo hne6) rfl F.hO I (hno _ F.ne) ?_))
  refine wpAny_bind (wpAny_of_eq hpos ?_)
  refine callWith_function_kw (o:={ cls:=.type "function",data:=.func fd }) (fd:=fd) (argsKw_sound hE B gA ha h2 hk h3 O1 fun μ2 s2 vals kvals st2 S2 r2 k2=>?_)
  have N2:=O1.now.stp st2 S2
  refine ⟨⟨kept_obj B N2.inv hmo hne6,rfl⟩,?_⟩
  exact hC hb gA N2 (.cons (st2.vr r1) r2) k2 Q E fun μ3 s3 val st3 S3 r3=>h μ3 s3 val ((st1.trans st2).trans st3) S3 r3
theorem E_meth {n:Nat} (hE:SndE w h₀ Z n) (hC:SndC w h₀ Z n) (B:Base w h₀ Z) {K e env μ σ s A} {o:Expr} {m:Str} {mm:Mth} {apos pos:Pos} {args:List Expr} {kw:List Keyword} {c:CE} {as:List CE} {ks:List (Nat × CE)} {v:V} {σ':St}
    (hm:pick m meths=some mm) (hl:(apos.endLine == pos.line)=true) (hx:Ex K o c) (ha:Exs K args as) (hk:Ks K kw ks) (he:stepE (fs n) e (.meth c mm as ks) σ=some (v,σ')) (gA:GoodA n A) (O:Ok w h₀ Z K e env μ σ s) :
    Wp w h₀ Z A (eval (.Call (.Attribute o m apos) args kw pos) env) μ s σ' v:=by
  refine hid fun GG kk=>?_
  obtain ⟨hn,he⟩:=X.guard_some (b:=decide (as.length+ks.length < 20)) he
  have hn:=of_decide_eq_true hn
  refine X.bindE he fun ov σ1 h1 he=>?_
  refine X.bindE he fun u σ1' hr he=>?_
  refine X.bindE he fun vs σ2 h2 he=>?_
  refine X.bindE he fun kvs σ3 h3 he=>?_
  refine kk ?_
  clear kk GG
  have F:=meths_ok _ (pick_mem hm)
  induction mm with
  | bi b =>
    induction kvs with
    | cons _ _=>exact nS he
    | nil =>
      have hb:callB b (ov::vs) σ3=some (v,σ'):=he
      obtain ⟨rfl,rfl⟩:=ks_nil hk h3
      exact meth_blt hE B F hl hx ha h1 hr h2 hb (Nat.lt_of_le_of_lt (Nat.le_add_right _ _) hn) gA O
  | get_all=>exact meth_ins hE hC B F hl hx ha hk h1 hr h2 h3 he hn gA O
  | add_header=>exact meth_ins hE hC B F hl hx ha hk h1 hr h2 h3 he hn gA O
  | conv=>exact meth_ins hE hC B F hl hx ha hk h1 hr h2 h3 he hn gA O
  | items=>exact nS he
end
open Builtin in
theorem made_ins {w:World} {A:Around} {E:Value→Shared→Prop} {s:Shared} {m:Str→Option Value} {f:Addr} {oI:Obj} {Q:Value→Shared→Prop} (hC:s.heap.get? 289=some clsHead) (hn:s.heap.Ns 288 m) (hi:m "__init__"=some (.ref f)) (hf:s.heap.get? f=some oI) (hfc:oI.cls=.type "function")
    (hq:wpAny (model P w) (A.under (.builtin "type.__call__" ⟨[.ref 289],[]⟩)) (call (.ref f) [.ref (s.heap.objs.size+1)]) (fun r s'=>r=.none∧Q (.ref (s.heap.objs.size+1)) s') E
      { s with heap:=(s.heap.push { cls:=.type "dict",data:=.dict #[] }).push { cls:=.ref 289,dict:=some s.heap.objs.size,data:=.plain } }) :
    wpAny (model P w) A (call (.ref 289) []) Q E s:=by
  obtain ⟨h,g,d,t,os⟩:=s
  simp only at hC hn hf hq
  have tcl:=tc_lookup
  have tcb:=tc_bind (.ref 289)
  have hty:(⟨h,g,d,t,os⟩:Shared).TypeIs (.ref 289) "type":=⟨_,hC,rfl⟩
  have mro1:mroOf (.type "object")=pure [.type "object"]:=by kernel_rfl
  have look1:typeLookup (.type "object") "__init__"=pure (some (.builtin "object.__init__")):=by rw [typeLookup_type,builtinLookup_eq_fast]; kernel_rfl
  have keep:∀ {b o},h.get? b=some o→((h.push { cls:=.type "dict",data:=.dict #[] }).push { cls:=.ref 289,dict:=some h.objs.size,data:=.plain }).get? b=some o:=fun e=>Heap.get?_push_of_some _ (Heap.get?_push_of_some _ e)
  have hx:((h.push { cls:=.type "dict",data:=.dict #[] }).push { cls:=.ref 289,dict:=some h.objs.size,data:=.plain }).get? (h.objs.size+1)=some { cls:=.ref 289,dict:=some h.objs.size,data:=.plain }:=by heap_get
  have sub:(Value.ref 289::[Value.type "object"]).contains (.ref 289)=true:=by simp
  refine wpAny_call (codeAny_of_tree ?_)
  show wpAny _ _ (callAny (.ref 289) _) _ _ _
  repeat (any_goals (first | assumption | with_reducible refine wpAny_loadPart_at hC ?_ | wp_step))
  refine ⟨rfl,?_⟩
  refine codeAny_call_builtin_at (Code.quiet_builtin _ (by decide +kernel)) entry_typeCall (wpAny_check_type_call_sub hC ?_)
  repeat (first | with_reducible refine wpAny_loadPart_at hC ?_ | with_reducible refine wpAny_madeBy_exc hC ?_ | wp_step)
  refine codeAny_call_builtin_code (Code.quiet_builtin _ PySem.F.objNew.quiet) (wpAny_check_obj_new PySem.F.objNew hC ?_)
  refine codeAny_obj_new PySem.F.objNew hC hn hi ?_
  show wpAny _ _ _ _ _ _
  unfold isInstance
  repeat (first | with_reducible refine wpAny_loadPart_at hx ?_ | (with_reducible refine wpAny_isSubtype_exc (keep hC) ?_; rw [sub]) | wp_step)
  show wpAny _ _ (typeLookup (.ref 289) _) _ _ _
  refine wpAny_typeLookup_exc (keep hC) (Ns.ext hn fun o e=>keep e) mro1 look1 ?_
  rw [hi]
  refine wpAny_holding (wpAny_bind ?_)
  unfold bindSpecial
  refine wpAny_bind (wpAny_typeOf (T:="function") ⟨_,keep hf,hfc⟩ ?_)
  rw [if_pos (by decide)]
  refine wpAny_pure (wpAny_bind (wpAny_mono hq (fun r s' hr=>?_) fun _ _ x=>x))
  obtain ⟨rfl,hQ⟩:=hr
  wp_walk
  exact hQ
inductive InitB (b:List Stmt):Prop
  | mk (q1 p1:Pos) (b1:List Stmt) (p2 qs qa qh p3:Pos) (k:Nat) (q p4:Pos) (h:b=[.Assign [.Name "headers" q1] (svE (initSt 0)) p1,.If (svE (initSt 1)) b1 [] p2,.Assign [.Attribute (.Name "self" qs) "_headers" qa] (.Name "headers" qh) p3,.If (.Constant (.bool true) k q) [initF] [] p4])
theorem init_body:InitB (bodyAt (methAt 0)):=⟨_,_,_,_,_,_,_,_,_,_,_,rfl⟩
theorem init_sc:ScOk (methAt 0):=scOk_of (by kernel_rfl)
theorem init_self:cPt initK "self"=some (.loc 14)∧cName initK "self"=some (.var (.loc 14)):=⟨by kernel_rfl,by kernel_rfl⟩
theorem init_hdr:cPt initK "headers"=some (.loc 15)∧cName initK "headers"=some (.var (.loc 15)):=⟨by kernel_rfl,by kernel_rfl⟩
theorem init_E:Ex initK (svE (initSt 0)) initE:=⟨40,some_getD (by kernel_rfl) _⟩
theorem init_T:Ex initK (svE (initSt 1)) initT:=⟨40,some_getD (by kernel_rfl) _⟩
theorem init_L:Sx initK initF initL:=⟨20,some_getD (by kernel_rfl) _⟩
section
variable {w:World} {h₀:Heap} {Z:Scr}
theorem bind_init {M:Model} {A:Around} {E:Value→Shared→Prop} {s:Shared} {Q:List (Str × Value)→Shared→Prop} {x v:Value} {n:Nat} (ho:s.heap.get? 176=some { cls:=.type "tuple",data:=.seq #[v] n }) (h:Q [("self",x),("headers",v)] s):wpAny M A (bindArgs fd183 ⟨[x],[]⟩) Q E s:=by
  show wpAny M A (seqItems? (.ref 176) >>= _) Q E s
  exact wpAny_bind (wpAny_seqItems ho rfl (wpAny_pure h:wpAny M A (pure ([("self",x),("headers",v)]:List (Str × Value))) Q E s))
theorem Stp.insC {μ:List Addr} {s:Shared} {h':Heap} {C:Addr} (B:Base w h₀ Z) (hC:∃ o es ep,s.heap.get? C=some o∧o.data=.dict es ep) (h0:h₀.get? C=none) (hk:∀ b o,b≠C→s.heap.get? b=some o→h'.get? b=some o) (tk:Nat):Stp h₀ [C] μ s μ { s with heap:=h',toks:=tk }:=by
  obtain ⟨oC,es,ep,hoC,hdC⟩:=hC
  refine ⟨⟨[],by simp,by simp⟩,fun b o e _ h _=>hk b o (by simpa using h) e,fun b o e q=>hk b o (fun hb=>?_) e,fun b o h e=>⟨o,hk b o (by simpa using h) e⟩,rfl,rfl,fun i=>⟨fun b o e n=>?_,?_⟩⟩
  · subst hb
    obtain rfl:=Option.some.inj (hoC.symm.trans e)
    rcases q with ⟨_,vs,n,q⟩ | q
    · rw [hdC] at q; cases q
    · rw [hdC] at q; cases q
  · refine hk b o (fun hb=>?_) (i.keep b o e n)
    rw [hb,h0] at e; cases e
  · refine i.tab.keepsAt fun b o hb e=>hk b o (fun q=>?_) e
    subst q
    rcases hb with rfl | rfl | ⟨_,vs,hb⟩
    · obtain ⟨o1,e1⟩:=B.b378; rw [h0] at e1; cases e1
    · obtain ⟨o1,e1⟩:=B.b376; rw [h0] at e1; cases e1
    · obtain rfl:=Option.some.inj (hoC.symm.trans e)
      rw [hdC] at hb; cases hb
theorem Stp.addμ {Xs μ μ':List Addr} {s s':Shared} (x:Stp h₀ Xs μ s μ' s') {a:Addr} (ha:s.heap.get? a=none):Stp h₀ Xs μ s (μ'++[a]) s':=by
  obtain ⟨n,rfl,hn⟩:=x.pre
  exact { x with pre:=⟨n++[a],by simp,fun b hb=>by
    rcases List.mem_append.mp hb with hb | hb
    · exact hn b hb
    · rw [List.mem_singleton.mp hb]; exact .inl ha⟩ }
theorem lk_one {i j:Nat} {a v:V} {l:List (Nat × V)} (h:lk [(i,a)] j=some v):lk ((i,a)::l) j=some v:=by
  have e:∀ l,lk ((i,a)::l) j=Bool.casesOn (motive:=fun _=>Option V) (Nat.beq i j) (lk l j) (some a):=fun l=>by
    show (match Nat.beq i j with | true=>some a | false=>lk l j)=_
    cases Nat.beq i j <;> rfl
  rw [e] at h ⊢
  cases q:Nat.beq i j with
  | true=>rw [q] at h; exact h
  | false=>rw [q] at h; cases h
theorem VR.glob_inv {μ:List Addr} {h:Heap} {a:Addr} {x:Value} (r:VR Z μ h (.glob a) x):.ref a=x:=by
  cases r; rfl
theorem newH_body {n:Nat} (hE:SndE w h₀ Z n) (hT:SndT w h₀ Z n) (hS:SndS w h₀ Z n) (B:Base w h₀ Z) {A2:Around} (g2:GoodA n A2) {hv:V} {e4:EE} {σ σ1 σ2 σ4:St} (h1:(fs n).E ⟨[(15,.none)],[],0⟩ initE σ=some (hv,σ1)) (h2:(fs n).T ⟨[(15,hv)],[],0⟩ initT σ1=some (false,σ2)) (h4:(fs n).S ⟨[(15,hv)],[],0⟩ initL σ2=some ((.next,e4),σ4))
    {μ:List Addr} {s s2:Shared} {H:Heap} {xA dA:Addr} {env2:Env} (N0:Now h₀ Z μ σ s) (st1:Stp h₀ [] μ s μ { s with heap:=H }) (st2:Stp h₀ [] μ { s with heap:=H } μ s2) (hX2:∀ a∈Xof initK env2,H.get? a=none) (O2:Ok w h₀ Z initK (EE.setPs ⟨[],[],183⟩ [(.loc 14,.glob xA),(.loc 15,.none)]) env2 μ σ s2)
    (hx:H.get? xA=some { cls:=.ref 289,dict:=some dA,data:=.plain }) (hd:H.get? dA=some { cls:=.type "dict",data:=.dict #[] }) (nd1:H.Ns1 dA fun _=>none) (deadD:s.heap.get? dA=none) (deadX:s.heap.get? xA=none) (neXD:dA≠xA)
    {q1 p1:Pos} {b1:List Stmt} {p2 qs qa qh p3:Pos} {k9:Nat} {q9 p4:Pos} {Q0:Flow→Shared→Prop} {E0:Value→Shared→Prop} (k0:∀ μ7 s7,Stp h₀ [] μ s (μ7++[dA]) s7→Sim Z h₀ (μ7++[dA]) (σ4++[.ins hv]) s7.heap→VR Z (μ7++[dA]) s7.heap (.ins σ4.length) (.ref xA)→Q0 .next s7) :
    wpAny (model P w) A2 (execs [.Assign [.Name "headers" q1] (svE (initSt 0)) p1,.If (svE (initSt 1)) b1 [] p2,.Assign [.Attribute (.Name "self" qs) "_headers" qa] (.Name "headers" qh) p3,.If (.Constant (.bool true) k9 q9) [initF] [] p4] env2) Q0 E0 s2:=by
  have liveμ:∀ {b:Addr},s.heap.get? b=none→b ∉ μ:=fun {b} e q=>by obtain ⟨o,e'⟩:=N0.sim.fresh b q; rw [e] at e'; cases e'
  have xμ:=liveμ deadX
  have dμ:=liveμ deadD
  have x0:h₀.get? xA=none:=N0.inv.fresh deadX
  have d0:h₀.get? dA=none:=N0.inv.fresh deadD
  have ne6:∀ {b:Addr},h₀.get? b=none→b≠376:=fun {b} e q=>by obtain ⟨o,e'⟩:=B.b376; rw [← q,e] at e'; cases e'
  refine wpAny_execs_cons (Assign_one ?_ rfl rfl rfl)
  have O2w:Ok w h₀ Z initK ⟨[(15,.none)],[],0⟩ env2 μ σ s2:=O2.congr (fun i v hv=>lk_one hv) rfl (fun q=>nomatch q)
  refine hE init_E h1 g2 O2w _ _ fun μ3 s3 val st3 S3 r3=>?_
  have O3:=O2.stp B st3 S3
  refine assign_sound (t':=.nm (.loc 15)) B g2.1 (by kernel_rfl) (e':=EE.set _ hv (.loc 15)) rfl r3 O3 fun s4 st4 O4=>?_
  show wpAny _ _ (execs _ env2) _ _ s4
  have O4w:Ok w h₀ Z initK ⟨[(15,hv)],[],0⟩ env2 μ3 σ1 s4:=O4.congr (fun i v hv'=>lk_one hv') rfl (fun q=>nomatch q)
  refine wpAny_execs_cons (wpAny_If (hT init_T h2 g2 O4w _ _ fun μ5 s5 st5 S5=>?_))
  rw [if_neg (by decide)]
  refine wpAny_execs_nil ?_
  show wpAny _ _ (execs _ env2) _ _ s5
  have O5:=O4.stp B st5 S5
  have N5:=O5.now
  have stA:Stp h₀ [] μ { s with heap:=H } μ5 s5:=((st2.trans st3).drop st4 fun a ha=>.inr (hX2 a ha)).trans st5
  refine wpAny_execs_cons (plainObj_wpAny_Assign_Attribute ?_ rfl)
  refine exA (name_sound (f:=fs 0) (v:=hv) (σ':=σ2) B O5 init_hdr.2 rfl).2 fun val1 r5 e5=>e5 _ _ ?_
  refine exA (name_sound (f:=fs 0) (v:=.glob xA) (σ':=σ2) B O5 init_self.2 rfl).2 fun val2 r6 e6=>e6 _ _ ?_
  rw [← r6.glob_inv]
  have hx5:s5.heap.get? xA=some { cls:=.ref 289,dict:=some dA,data:=.plain }:=stA.keep _ _ hx xμ (by simp) (ne6 x0)
  have hd5:s5.heap.get? dA=some { cls:=.type "dict",data:=.dict #[] }:=stA.keep _ _ hd dμ (by simp) (ne6 d0)
  have nd5:s5.heap.Ns1 dA fun _=>none:=Ns1.ext nd1 fun o e=>stA.keep _ _ e dμ (by simp) (ne6 d0)
  have dμ5:dA ∉ μ5:=stA.mem hd dμ (by simp)
  have xμ5:xA ∉ μ5:=stA.mem hx xμ (by simp)
  obtain ⟨m5,hm5,hn5⟩:=cls_ns B N5.inv
  have neC:xA≠289:=fun q=>by
    have:=cls_obj B N0.inv
    rw [← q,deadX] at this; cases this
  have hlocX:env2.locals∈Xof (kinds (scopeAt (methAt 0))) env2:=by unfold Xof; exact List.mem_cons_self
  have hL5:env2.locals≠dA:=fun q=>by
    have:=hX2 _ hlocX
    rw [q,hd] at this; cases this
  have hC5:∀ y c,(y,c)∈env2.cells→c≠dA:=fun y c hc q=>by
    obtain ⟨⟨ov,o,e1,e2⟩,_⟩:=O5.er.cellsOk y c hc
    rw [q,hd5] at e1; cases e1; cases e2
  obtain ⟨hh5,g5,d5,tk5,os5⟩:=s5
  refine store_attr (ns:=[]) PySem.F.store_object (cls_obj B N5.inv) hm5 (hn5 _ _ (mem_pick (i:=29) rfl)) (hn5 _ _ (mem_pick (i:=30) rfl)) lkO_headers neC ⟨_,hx5,rfl,fun c=>by simp,.inr ⟨dA,rfl,neXD,nd5⟩⟩ (fun h' tk' I' hk' hsame=>?_) (fun y hy=>absurd rfl hy) (Nat.zero_le _)
  have keepD:∀ b o,b≠dA→hh5.get? b=some o→h'.get? b=some o:=by
    intro b o hb e
    by_cases hbx:b=xA
    · subst hbx
      obtain ⟨o1,e1,c1,c2,c3,c4⟩:=hsame _ hx5
      obtain rfl:=Option.some.inj (hx5.symm.trans e)
      obtain ⟨oc,od,odt,osl⟩:=o1
      simp only at c1 c2 c3
      have:=c4 dA rfl
      simp only at this
      rw [e1,c1,c2,c3,this]
    · exact hk' b o hbx (fun o0 dx e0 ed=>by obtain rfl:=Option.some.inj (hx5.symm.trans e0); cases ed; exact hb) e
  have st6:Stp h₀ [dA] μ5 ⟨hh5,g5,d5,tk5,os5⟩ μ5 ⟨h',g5,d5,tk',os5⟩:=Stp.insC (s:=⟨hh5,g5,d5,tk5,os5⟩) B ⟨_,_,_,hd5,rfl⟩ d0 keepD tk'
  have S6:Sim Z h₀ μ5 σ2 h':=O5.now.sim.stp st6 rfl fun a ha o e=>keepD a o (fun q=>dμ5 (q ▸ ha)) e
  have O6:=O5.stpX B st6 (by simpa using hL5) (fun y c hc=>by simpa using hC5 y c hc) S6
  have hx6:h'.get? xA=some { cls:=.ref 289,dict:=some dA,data:=.plain }:=keepD _ _ (Ne.symm neXD) hx5
  have nd6:h'.Ns1 dA (fun y=>if y="_headers" then some val1 else none):=by
    obtain ⟨o,e1,_,_,r⟩:=I'
    obtain rfl:=Option.some.inj (hx6.symm.trans e1)
    rcases r with ⟨q,_⟩ | ⟨d',q1,_,q2⟩
    · cases q
    · cases q1; exact q2
  refine wpAny_execs_cons (wpAny_If (isTrue_plain ?_))
  refine wpAny_Constant_bool (wpAny_truthy_bool ?_)
  rw [if_pos rfl]
  have O6w:Ok w h₀ Z initK ⟨[(15,hv)],[],0⟩ env2 μ5 σ2 ⟨h',g5,d5,tk',os5⟩:=O6.congr (fun i v hv'=>lk_one hv') rfl (fun q=>nomatch q)
  refine wpAny_execs_cons (hS init_L h4 g2 O6w _ _ fun μ7 s7 fl7 st7 O7 r7=>?_)
  cases r7
  refine wpAny_execs_nil (wpAny_execs_nil ?_)
  have stB:Stp h₀ [] μ s μ7 s7:=((st1.trans stA).drop st6 fun a ha=>.inr (by rw [List.mem_singleton.mp ha]; exact deadD)).drop st7 fun a ha=>.inr (st1.dead (hX2 a ha))
  have dX7:dA ∉ Xof initK env2:=fun q=>by
    have:=hX2 _ q
    rw [hd] at this; cases this
  have xX7:xA ∉ Xof initK env2:=fun q=>by
    have:=hX2 _ q
    rw [hx] at this; cases this
  have hx7:=st7.keep _ _ hx6 xμ5 xX7 (ne6 x0)
  have nd7:s7.heap.Ns1 dA (fun y=>if y="_headers" then some val1 else none):=Ns1.ext nd6 fun o e=>st7.keep _ _ e dμ5 dX7 (ne6 d0)
  have dμ7:dA ∉ μ7:=by
    obtain ⟨o,_,_,e,_⟩:=nd6
    exact st7.mem e dμ5 dX7
  have r7:VR Z μ7 s7.heap hv val1:=st7.vr (st6.vr r5)
  have S7:Sim Z h₀ (μ7++[dA]) (σ4++[.ins hv]) s7.heap:=O7.now.sim.snocN (fun _ _ e=>e) dμ7 d0 (c:=.ins hv) ⟨_,val1,nd7,by simp,fun y hy=>by simp [hy],r7.more⟩
  refine k0 μ7 s7 (stB.addμ deadD) S7 (.ins hx7 rfl rfl rfl ?_)
  rw [← O7.now.sim.len]; simp
theorem E_newH {n:Nat} (hE:SndE w h₀ Z n) (hT:SndT w h₀ Z n) (hS:SndS w h₀ Z n) (B:Base w h₀ Z) {K e env μ σ s A} {p pos:Pos} {v:V} {σ':St} (hk:K "Headers"=some .globalImplicit) (he:stepE (fs n) e .newHeaders σ=some (v,σ')) (gA:GoodA (n+1) A) (O:Ok w h₀ Z K e env μ σ s) :
    Wp w h₀ Z A (eval (.Call (.Name "Headers" p) [] [] pos) env) μ s σ' v:=by
  refine X.bindE he fun hv σ1 h1 he=>X.bindE he fun t σ2 h2 he=>?_
  induction t with
  | true=>exact nS he
  | false =>
  refine X.bind2E he fun fl e4 σ4 h4 he=>?_
  induction fl with
  | ret=>exact nS he
  | next =>
  refine pureE he (fun Q E h=>?_)
  induction init_body with
  | mk q1 p1 b1 p2 qs qa qh p3 k9 q9 p4 hbody =>
  refine wpAny_Call_Name_kw (glob_name B O hk (v:=.ref 289) (mem_pick (i:=30) rfl) (by decide +kernel) ?_)
  have N0:=O.now
  obtain ⟨m,hm,hn⟩:=cls_ns B N0.inv
  refine callWith_cls0 (h₀:=s.heap) (C:=289) (N:=288) ⟨⟨_,_,_,_,_,_,_,_,_,_,_,_,cls_obj B N0.inv⟩,hm⟩ (fun _ _ e=>e) ?_
  refine made_ins (cls_obj B N0.inv) hm (hn _ _ (mem_pick (i:=6) rfl)) (kept_obj B N0.inv (a:=183) (mem_pick (i:=16) rfl) (by decide)) rfl ?_
  refine genE (s.heap.objs.size+1) fun xA hX=>?_
  refine genE ((s.heap.push { cls:=.type "dict",data:=.dict #[] }).push { cls:=.ref 289,dict:=some s.heap.objs.size,data:=.plain }) fun H hH=>?_
  have keep:∀ b o,s.heap.get? b=some o→H.get? b=some o:=fun b o e=>hH ▸ Heap.get?_push_of_some _ (Heap.get?_push_of_some _ e)
  have hx:H.get? xA=some { cls:=.ref 289,dict:=some s.heap.objs.size,data:=.plain }:=by subst hX hH; heap_get
  have hd:H.get? s.heap.objs.size=some { cls:=.type "dict",data:=.dict #[] }:=by subst hH; exact Heap.get?_push_of_some _ (Heap.get?_push_at rfl rfl)
  have nd1:H.Ns1 s.heap.objs.size fun _=>none:=Heap.Ns1.of_empty ⟨_,#[],_,hd,rfl,fun e he=>absurd he (by simp),fun _=>rfl⟩
  have deadD:s.heap.get? s.heap.objs.size=none:=get?_size _
  have deadX:s.heap.get? xA=none:=by subst hX; exact Heap.get?_none_of_le (Nat.le_succ _)
  have neXD:s.heap.objs.size≠xA:=by subst hX; exact Nat.ne_of_lt (Nat.lt_succ_self _)
  have st1:Stp h₀ [] μ s μ { s with heap:=H }:=Stp.ext keep rfl rfl
  have S1:Sim Z h₀ μ σ H:=N0.sim.ext keep
  have N1:Now h₀ Z μ σ { s with heap:=H }:=N0.stp st1 S1
  have gU:(A.under (.builtin "type.__call__" ⟨[.ref 289],[]⟩)).depth=A.depth+1:=rfl
  have gV:(A.under (.builtin "type.__call__" ⟨[.ref 289],[]⟩)).units=A.units+1:=rfl
  have gH:(A.under (.builtin "type.__call__" ⟨[.ref 289],[]⟩)).handled=A.handled:=rfl
  generalize A.under (.builtin "type.__call__" ⟨[.ref 289],[]⟩)=A1 at gU gV gH ⊢
  have room:A1.depth < recursionLimit:=by have:=gA.2.1; unfold recursionLimit; omega
  refine wpAny_call (codeAny_call_function (fd:=fd183) (body:=bodyAt (methAt 0)) room (kept_obj B N1.inv (a:=183) (mem_pick (i:=16) rfl) (by decide)) rfl init_sc.co init_sc.gen rfl ⟨182,_,co182,2508,rfl,kept_obj B N1.inv (a:=182) (mem_pick (i:=17) rfl) (by decide),rfl,rfl⟩ ?_)
  refine bind_init (kept_obj B N1.inv (a:=176) (mem_pick (i:=60) rfl) (by decide)) ?_
  have bR:BindR Z initK μ H [(.loc 14,.glob xA),(.loc 15,.none)] [("self",.ref xA),("headers",.none)]:=.cons init_self.1 (.glob _) (.cons init_hdr.1 .none .nil)
  refine newEnv_sound (fnA:=183) (closure:=[]) (cel:=[]) (l:=[(.loc 14,.glob xA),(.loc 15,.none)]) B N1 init_sc.kind init_sc.uniq (fun _ _ h=>nomatch h) List.Pairwise.nil (fun x hx=>absurd hx (init_sc.nofree x)) (fun i v h=>nS h) rfl bR (fun q=>nomatch q) fun env2 s2 henv st2 hX2 O2=>?_
  refine ⟨?_,codeAny_func ?_⟩
  · obtain ⟨mc,hm,h1,_⟩:=B.wf.lim
    exact ⟨mc,Ns.ofInv hm O2.now.inv (by decide),h1⟩
  have g2:GoodA n (A1.deeper env2):=⟨by show A1.handled=none; rw [gH]; exact gA.1,by show A1.depth+1+2 * n < 990; have:=gA.2.1; omega,by show A1.units+3+16 * n+200 < cLine; have:=gA.2.2; omega⟩
  rw [hbody]
  exact newH_body hE hT hS B g2 h1 h2 h4 N0 st1 st2 hX2 O2 hx hd nd1 deadD deadX neXD fun μ7 s7 a b c=>⟨rfl,h _ s7 _ a b c⟩
end
noncomputable def dedupTo (σ:List Str) (v:Str):List Str:=match σ.any (· == v) with
  | true=>σ
  | false=>σ++[v]
theorem dedupS_eq (ys:List Str):dedupS ys=ys.foldl dedupTo []:=rfl
theorem dedupTo_any (σ:List Str) (v k:Str):(dedupTo σ v).any (· == k)=(σ.any (· == k) || decide (k=v)):=by
  unfold dedupTo
  cases h:σ.any (· == v) with
  | true =>
    by_cases e:k=v
    · subst e; simp [h]
    · simp [e]
  | false =>
    rw [List.any_append]
    by_cases e:k=v
    · subst e; simp
    · have:(v == k)=false:=beq_ne (Ne.symm e)
      simp [this,e]
theorem dedupTo_length (σ:List Str) (v:Str):(dedupTo σ v).length=if σ.any (· == v) then σ.length else σ.length+1:=by
  unfold dedupTo
  cases σ.any (· == v) <;> simp
noncomputable def metS (ys:List Str) (i:Nat):List Str:=dedupS (ys.take i)
theorem metS_succ {ys:List Str} {i:Nat} {y:Str} (h:ys[i]?=some y):metS ys (i+1)=dedupTo (metS ys i) y:=by
  unfold metS
  rw [List.take_add_one,h]
  simp only [dedupS_eq,Option.toList_some,List.foldl_append,List.foldl_cons,List.foldl_nil]
theorem metS_le (ys:List Str):∀ i,(metS ys i).length≤i
  | 0=>by simp [metS,dedupS_eq]
  | i+1=>by
    have ih:=metS_le ys i
    cases h:ys[i]? with
    | none =>
      have:metS ys (i+1)=metS ys i:=by
        unfold metS
        have:=List.getElem?_eq_none_iff.mp h
        rw [List.take_of_length_le this,List.take_of_length_le (by omega)]
      rw [this]; omega
    | some y =>
      rw [metS_succ h,dedupTo_length]
      split <;> omega
section
variable {prog:Program} {w:World} {A:Around} {E:Value→Shared→Prop}
theorem set_loop {R:Result→Shared→Prop} {I l S:Addr} {items:Array Value} {ys:List Str} (hh:A.in1.handled=none) (hne:l≠I) (hSI:S≠I) (hSl:S≠l) (hy:∀ (i:Nat) (v:Value),items[i]?=some v→∃ y t,ys[i]?=some y∧v=.str y t) (hb:items.size+1 < scanBound) :
    ∀ (k i:Nat) (s:Shared),items.size - i=k→i≤items.size→s.heap.IsListIter I l i→s.heap.IsList l items →
      s.heap.SetOf (PySem.strKind prog w) S (fun x=>(metS ys i).any (· == x)) (metS ys i).length →
      (∀ s',Moved [S,I] (fun a b=>b=a) s s'→s'.heap.SetOf (PySem.strKind prog w) S (fun x=>(metS ys items.size).any (· == x)) (metS ys items.size).length→R (.ok (.ret .none)) s') →
      codeAny (model prog w) A (.builtin "set.update.loop" ⟨[.ref S,.ref I],[]⟩) R s:=by
  have W:=(Walks.list (prog:=prog) (w:=w) (A:=A.in1) hh I l hne items).toS
  have hsub:∀ b∈[I],b∈[S,I]:=fun b hb=>List.mem_cons_of_mem _ hb
  have hSw:S ∉ [I]:=by simpa using hSI
  intro k
  induction k with
  | zero =>
    intro i s hk hi h1 h2 hS hR
    obtain rfl:i=items.size:=by omega
    refine codeAny_builtin F.entry_set_update_loop ?_
    rw [Around.under_plainId F.plain_set_update_loop _]
    show wpAny _ A.in1 (pyNext (.ref I) >>= _) _ _ s
    refine wpAny_bind (W.done s _ _ ⟨h1,h2⟩ fun s' hm=>?_)
    show wpAny _ A.in1 (ret Value.none) _ _ s'
    refine hid fun GG kk=>?_
    obtain ⟨o,es,ep,t,ho,r⟩:=hS
    refine kk ?_
    clear kk GG
    exact wpAny_pure (hR s' (hm.mono hsub) ⟨o,es,ep,t,hm.heap S _ hSw ho,r⟩)
  | succ k ih =>
    intro i s hk hi h1 h2 hS hR
    have hlt:i < items.size:=by omega
    refine codeAny_builtin F.entry_set_update_loop ?_
    rw [Around.under_plainId F.plain_set_update_loop _]
    show wpAny _ A.in1 (pyNext (.ref I) >>= _) _ _ s
    refine wpAny_bind (W.item i s _ _ hlt ⟨h1,h2⟩ fun v s' hP hst' hm=>?_)
    obtain ⟨y,t,hy1,rfl⟩:=hy i v hP
    have hS':s'.heap.SetOf (PySem.strKind prog w) S (fun x=>(metS ys i).any (· == x)) (metS ys i).length:=by
      refine hid fun GG kk=>?_
      obtain ⟨o,es,ep,tb,ho,r⟩:=hS
      refine kk ?_
      clear kk GG
      exact ⟨o,es,ep,tb,hm.heap S _ hSw ho,r⟩
    show wpAny _ A.in1 (holding [Value.str y t] (setAdd S (.str y t)) >>= _) _ _ s'
    refine wpAny_bind (wpAny_holding ?_)
    unfold setAdd
    refine wpAny_holding (wpAny_bind ((PySem.strKind prog w).pyHash (k:=y) (strKind_is _ _ _ _) ?_))
    have hroom:(metS ys i).length+1 < scanBound:=by have:=metS_le ys i; omega
    refine wpAny_setAddHashed_of (knd:=PySem.strKind prog w) (s:={ s' with toks:=s'.toks+1 }) (strKind_is _ _ _ _) rfl hS' hroom fun h' hsb hS2=>?_
    have hSi:h'.SetOf (PySem.strKind prog w) S (fun x=>(metS ys (i+1)).any (· == x)) (metS ys (i+1)).length :=
      SetOf_congr hS2 (fun x=>by rw [metS_succ hy1,dedupTo_any]) (by rw [metS_succ hy1,dedupTo_length])
    have keep:∀ b,b≠S→∀ o,s'.heap.get? b=some o→h'.get? b=some o:=fun b hb o e=>(hsb.2 b hb).trans e
    refine wpAny_pure ⟨plainId_quiet F.plain_set_update_loop _,ih (i+1) _ (by omega) hlt (hst'.1.at fun o e=>keep I hSI.symm o e) (hst'.2.at fun o e=>keep l hSl.symm o e) hSi fun s'' hm'' hS''=>?_⟩
    refine hR s'' (Moved.trans W.gtrans ((hm.mono hsub).then_heap (Nat.le_succ _) fun b o hb e=>?_) hm'') hS''
    exact keep b (fun q=>hb (by rw [q]; exact List.mem_cons_self)) o e
theorem shared_eq {s s':Shared} (hg:s'.gens=s.gens) (hd:s'.drawn=s.drawn) (ho:s'.os=s.os):s'={ s with heap:=s'.heap,toks:=s'.toks }:=by
  show (⟨s'.heap,s'.gens,s'.drawn,s'.toks,s'.os⟩:Shared)=_
  rw [hg,hd,ho]
set_option maxHeartbeats 4000000 in
theorem call_set_strs {s:Shared} {l:Addr} {items:Array Value} {ys:List Str} {Q:Value→Shared→Prop} (hh:A.handled=none) (hl:s.heap.IsList l items) (hy:∀ (i:Nat) (v:Value),items[i]?=some v→∃ y t,ys[i]?=some y∧v=.str y t) (hb:items.size+1 < scanBound)
    (h:∀ (h':Heap) (tk:Nat),h'.SetOf (PySem.strKind prog w) s.heap.objs.size (fun x=>(metS ys items.size).any (· == x)) (metS ys items.size).length →
      (∀ b o,s.heap.get? b=some o→h'.get? b=some o)→Q (.ref s.heap.objs.size) { s with heap:=h',toks:=tk }) :
    wpAny (model prog w) A (call (.type "set") [.ref l]) Q E s:=by
  obtain ⟨c,tl,hmro⟩:=F.called_set.mro
  have hmade:=F.called_set.made
  have hsub:=F.called_set.sub
  have k1:=F.called_set.notType
  have k2:=F.called_set.canCreate
  have k3:=F.typeCall_set_1 (.ref l)
  refine wpAny_call (codeAny_of_tree ?_)
  show wpAny _ _ (callAny (.type "set") _) _ _ _
  refine wpAny_pure ⟨Code.quiet_builtin _ (by decide +kernel),codeAny_builtin F.entry_type_call ?_⟩
  rw [Around.under_plain (weight_type_call_type "set" [.ref l] []) rfl]
  repeat (any_goals (first | assumption | wp_step))
  refine codeAny_mono (code_set_new_1 (.ref l) (E:=E) (Q₁:=fun obj s₁=>∃ led:Bool,obj=.ref s.heap.objs.size∧s₁={ s with heap:=s.heap.push { cls:=.type "set",dict:=none,data:=.set #[] 0 (.fresh 0 0 led) } }) fun led=>⟨led,rfl,rfl⟩) fun r s₁ hr=>?_
  cases r with
  | error e=>exact hr
  | ok fl =>
    cases fl with
    | ret obj =>
      refine exE hr fun led hr=>anE hr fun ho hs1=>?_
      subst ho
      have hS:s₁.heap.get? s.heap.objs.size=some ({ cls:=.type "set",dict:=none,data:=.set #[] 0 (.fresh 0 0 led) }:Obj):=by rw [hs1]; exact Heap.get?_push_size _ rfl
      have kp:∀ b o,s.heap.get? b=some o→s₁.heap.get? b=some o:=fun b o e=>by rw [hs1]; exact Heap.get?_push_of_some _ e
      have hz:s₁.heap.objs.size=s.heap.objs.size+1:=by rw [hs1]; exact Heap.size_push ..
      have eR:s₁.gens=s.gens∧s₁.drawn=s.drawn∧s₁.os=s.os:=by rw [hs1]; exact ⟨rfl,rfl,rfl⟩
      clear hs1
      have hT:Shared.TypeIs s₁ (.ref s.heap.objs.size) "set":=⟨_,hS,rfl⟩
      have hli:=F.called_set.init.lookup
      have hbi:=F.called_set.init.bind (.ref s.heap.objs.size)
      repeat (any_goals (first | assumption | wp_step))
      refine codeAny_mono (codeAny_call_builtin (R:=wants (fun r s₂=>r=.none∧∃ h' tk,s₂={ s with heap:=h',toks:=tk } ∧
          h'.SetOf (PySem.strKind prog w) s.heap.objs.size (fun x=>(metS ys items.size).any (· == x)) (metS ys items.size).length∧(∀ b o,s.heap.get? b=some o→h'.get? b=some o)) E) F.called_set.init.plain F.entry_set_init (check_set_init_1 hT ?_)) fun r₂ s₂ hr₂=>?_
      · refine hidQ fun Q0 E0 k0=>?_
        obtain ⟨ol,hol,hcl,nl,hdl⟩:=hl
        refine hid fun GG kk=>?_
        obtain ⟨ocls,odict,odata,oslots⟩:=ol
        refine kk ?_
        clear kk GG
        simp only at hcl hdl
        subst hcl; subst hdl
        have hol':s₁.heap.get? l=some { cls:=.type "list",dict:=odict,data:=.seq items nl,slots:=oslots }:=kp _ _ hol
        have hsls:=F.sub_list_set
        have hslf:=F.sub_list_frozenset
        have hne:(Value.type "list" == Value.type "dict")=false:=by decide
        have hl1:s₁.heap.IsList l items:=⟨_,hol',rfl,nl,rfl⟩
        unfold Builtin.«set.__init__» noKeywords Builtin.Frozenset.updateFrom
        generalize hPI:pyIter=PI
        wp_walk
        subst hPI
        refine wpAny_pyIter_list hl1 ?_
        refine wpAny_bind (wpAny_runValue ?_)
        have hlS:l < s.heap.objs.size:=Heap.lt_size hol
        refine set_loop (by simp [hh]) (by rw [hz]; exact Nat.ne_of_lt (Nat.lt_succ_of_lt hlS)) (by rw [hz]; exact Nat.ne_of_lt (Nat.lt_succ_self _)) (Nat.ne_of_gt hlS) hy hb (items.size - 0) 0 _ (by omega) (Nat.zero_le _)
          ⟨_,Heap.get?_push_size _ rfl,rfl,rfl⟩ (hl1.push _) ?_ fun s' hm hS'=>?_
        · have hget:(s₁.heap.push { cls:=.type "list_iterator",data:=.fields #[.ref l,.int 0 0] }).get? s.heap.objs.size=some ({ cls:=.type "set",dict:=none,data:=.set #[] 0 (.fresh 0 0 led) }:Obj):=Heap.get?_push_of_some _ hS
          exact SetOf_congr ((setObjOf_fresh (knd:=PySem.strKind prog w) led).setOf hget (by unfold scanBound; omega)) (fun _=>rfl) rfl
        · refine wpAny_pure ?_
          show wpAny _ _ (ret Value.none) _ _ _
          refine wpAny_pure (k0 _ _ ⟨rfl,s'.heap,s'.toks,shared_eq (Eq.trans hm.gens eR.1) (Eq.trans hm.drawn eR.2.1) (Eq.trans hm.os eR.2.2),hS',fun b o e=>?_⟩)
          have hb1:b≠s.heap.objs.size:=Nat.ne_of_lt (Heap.lt_size e)
          have hb2:b≠s₁.heap.objs.size:=by rw [hz]; exact Nat.ne_of_lt (Nat.lt_succ_of_lt (Heap.lt_size e))
          exact hm.heap b o (by simp only [List.mem_cons,List.not_mem_nil,or_false,not_or]; exact ⟨hb1,hb2⟩) (Heap.get?_push_of_some _ (kp _ _ e))
      · cases r₂ with
        | error e=>exact hr₂
        | ok fl₂ =>
          cases fl₂ with
          | ret r =>
            obtain ⟨rfl,h',tk,rfl,hS',hk'⟩:=hr₂
            repeat (any_goals (first | assumption | wp_step))
            exact h _ _ hS' hk'
          | _=>exact hr₂.elim
    | _=>exact hr.elim
end
section
variable {w:World} {h₀:Heap} {Z:Scr}
theorem VRs.str_at {μ:List Addr} {h:Heap} {xs:List V} {vs:List Value} {ys:List Str} (r:VRs Z μ h xs vs) (e:vStrs xs=some ys):ys.length=vs.length∧∀ (i:Nat) (v:Value),vs[i]?=some v→∃ y t,ys[i]?=some y∧v=.str y t:=by
  obtain ⟨l,rfl,rfl⟩:=r.strs e
  refine ⟨(List.length_map ..).trans (List.length_map ..).symm,fun i v hv=>?_⟩
  obtain ⟨p,hp,rfl⟩:=Option.map_eq_some_iff.mp ((List.getElem?_map ..).symm.trans hv)
  exact ⟨p.1,p.2,(List.getElem?_map ..).trans (congrArg _ hp),rfl⟩
theorem E_lenSet {n:Nat} (hE:SndE w h₀ Z n) (B:Base w h₀ Z) {K e env μ σ s A} {e':Expr} {p q pos pos':Pos} {c:CE} {v:V} {σ':St} (hk1:K "len"=some .globalImplicit) (hk2:K "set"=some .globalImplicit) (hx:Ex K e' c) (he:stepE (fs n) e (.lenSet c) σ=some (v,σ')) (gA:GoodA n A) (O:Ok w h₀ Z K e env μ σ s) :
    Wp w h₀ Z A (eval (.Call (.Name "len" p) [.Call (.Name "set" q) [e'] [] pos'] [] pos) env) μ s σ' v:=by
  refine hid fun GG kk=>?_
  obtain ⟨lv,σ1,h1,he⟩:=X.bind_inv he
  refine kk ?_
  clear kk GG
  · obtain ⟨k,xs,rfl,hxs,he⟩:=onL_inv he
    refine hid fun GG kk=>?_
    obtain ⟨ys,hys,he⟩:=X.of_bind he
    obtain ⟨hlen,he⟩:=X.guard_some he
    refine kk ?_
    clear kk GG
    cases he
    intro Q E h
    refine wpAny_Call_Name_kw (blt_name B O hk1 (v:=.builtin "len") (by decide +kernel) (by decide +kernel) ?_)
    refine Calls.callWith_builtin (by rfl) (Calls.evalArgs_plain (Calls.spliced_cons ?_))
    refine wpAny_Call_Name_kw (blt_name B O hk2 (v:=.type "set") (by decide +kernel) (by decide +kernel) ?_)
    refine PyProof.Rows.callWith_type (plain_args (.cons hx .nil)) ?_
    rw [starEach_of hx]
    refine Calls.evalArgs_plain (Calls.spliced_cons (hE hx h1 gA O _ E fun μ1 s1 val st1 S1 r1=>Calls.spliced_nil ?_))
    obtain ⟨a,rfl,ha⟩:=r1.lst_inv
    refine hid fun GG kk=>?_
    obtain ⟨items,l1,r2⟩:=S1.list hxs (.lst ha)
    obtain ⟨z1,z2⟩:=VRs.str_at r2 hys
    refine kk ?_
    clear kk GG
    have hz:ys.length=items.size:=by simpa using z1
    have hb:ys.length < 4000:=of_decide_eq_true hlen
    refine call_set_strs (ys:=ys) gA.1 l1.isList (fun i v hv=>z2 i v (by simpa using hv)) (by rw [← hz]; unfold scanBound; omega) fun h' tk hS hk=>?_
    refine Calls.spliced_nil ?_
    refine hid fun GG kk=>?_
    obtain ⟨o,es,ep,t,ho,hex,hd,_,_,_,hf,hn⟩:=hS
    refine kk ?_
    clear kk GG
    have hm:metS ys items.size=dedupS ys:=by unfold metS; rw [← hz,List.take_length]
    rw [hm] at hn
    have hle:=metS_le ys items.size
    rw [hm] at hle
    refine call_len_set ho hex hd hf (by omega) ?_
    have st2:Stp h₀ [] μ1 s1 μ1 { s1 with heap:=h',toks:=tk+1+1 }:=Stp.ext hk rfl rfl
    rw [hn]
    exact h μ1 _ _ (st1.trans st2) (S1.ext hk) (.int _ _)
end
end Mine
end
section
open PySem PySem.W PyProof.Rows PySem.SeqAt
open AutoSeq1 (wpAny_loadPart')
open MeetsSeq MeetsSeq2 MeetsSeq3 SeqRoads2
set_option maxRecDepth 100000
namespace Mine
theorem lt_loop (l b:Addr) (items items2:Array Value) (n n2:Nat) (hsz:items.size=items2.size) (e k:Nat→Bool) (m:Nat) :
    ∀ i:Nat,items.size - i=m→Meets (Builtin.«list.__eq__.loop» ⟨[.ref l,.ref b,rawInt i,rawInt 0],[]⟩)
      (fun A R s=>s.heap.get? l=some { cls:=.type "list",data:=.seq items n }∧s.heap.get? b=some { cls:=.type "list",data:=.seq items2 n2 } ∧
        (∀ j (h1:j < items.size) (h2:j < items2.size),EqAt A.in1 s items[j] items2[j] (e j))∧(∀ j (h1:j < items.size) (h2:j < items2.size),e j=false→LtAt A.in1 s items[j] items2[j] (k j)) ∧
        R (.ok (.ret (.bool (lexR (((List.range items.size).drop i).map fun i=>(e i,k i)))))) s):=by
  induction m with
  | zero =>
    intro i hk prog w A R s h
    obtain ⟨hp,g,d,tk,os⟩:=s; obtain ⟨hl,hb,he,hlt,h⟩:=h
    wp_walk using wpAny_loadPart' hl,wpAny_loadPart' hb
    have hi1:items[((i:Nat):Int).toNat]?=none:=by simp; omega
    have hi2:items2[((i:Nat):Int).toNat]?=none:=by simp; omega
    have hd:(List.range items.size).drop i=[]:=by simp; omega
    rw [hd] at h
    rw [hi1,hi2]
    wp_walk using wpAny_loadPart' hl,wpAny_loadPart' hb
    show R (.ok (.ret (.bool (decide (items.size < items2.size))))) _
    rw [hsz]
    simpa [lexR] using h
  | succ m ih =>
    intro i hk prog w A R s h
    obtain ⟨hp,g,d,tk,os⟩:=s; obtain ⟨hl,hb,he,hlt,h⟩:=h
    wp_walk using wpAny_loadPart' hl,wpAny_loadPart' hb
    have h1:i < items.size:=by omega
    have h2:i < items2.size:=by omega
    have hi1:items[((i:Nat):Int).toNat]?=some items[i]:=by simp [h1]
    have hi2:items2[((i:Nat):Int).toNat]?=some items2[i]:=by simp [h2]
    have hd:(List.range items.size).drop i=i::(List.range items.size).drop (i+1):=by simp [List.drop_eq_getElem_cons,h1]
    have hc:((i:Int)+1)=((i+1:Nat):Int):=by push_cast; rfl
    rw [hd,List.map_cons] at h
    rw [hi1,hi2]
    refine wpAny_bind (he i h1 h2 prog w _ _ ?_)
    cases hb':e i with
    | true =>
      rw [hb'] at h
      wp_walk
      rw [hc]
      exact ⟨plainId_quiet plain_eq_loop _,codeAny_builtin entry_eq_loop (by
        rw [Around.under_plainId plain_eq_loop _]
        exact ih (i+1) (by omega) prog w A R _ ⟨hl,hb,he,hlt,by simpa [lexR] using h⟩)⟩
    | false =>
      rw [hb'] at h
      wp_walk using wpAny_loadPart' hl,wpAny_loadPart' hb
      rw [hi1,hi2]
      have h:R (.ok (.ret (.bool (k i)))) ⟨hp,g,d,tk,os⟩:=by simpa [lexR] using h
      have hk':∀ {E:Value→Shared→Prop} {Q:Value→Shared→Prop},Q (.bool (k i)) ⟨hp,g,d,tk,os⟩→wpAny (model prog w) A.in1 (richCompare .Lt items[i] items2[i]) Q E ⟨hp,g,d,tk,os⟩:=fun h=>hlt i h1 h2 hb' prog w _ _ h
      wp_walk using hk'
      exact h
theorem list_lt (l b:Addr) (items items2:Array Value) (n n2:Nat) (hsz:items.size=items2.size) (e k:Nat→Bool) :
    Meets (Builtin.«list.__lt__» ⟨[.ref l,.ref b],[]⟩)
      (fun A R s=>s.heap.get? l=some { cls:=.type "list",data:=.seq items n }∧s.heap.get? b=some { cls:=.type "list",data:=.seq items2 n2 } ∧
        (∀ j (h1:j < items.size) (h2:j < items2.size),EqAt A.in1 s items[j] items2[j] (e j))∧(∀ j (h1:j < items.size) (h2:j < items2.size),e j=false→LtAt A.in1 s items[j] items2[j] (k j)) ∧
        R (.ok (.ret (.bool (lexR ((List.range items.size).map fun i=>(e i,k i)))))) s):=by
  intro prog w A R s h
  obtain ⟨hp,g,d,tk,os⟩:=s; obtain ⟨hl,hb,he,hlt,h⟩:=h
  have f3:=AutoSeq1.sub_list_list
  wp_walk using wpAny_loadPart' hl,wpAny_loadPart' hb
  exact ⟨plainId_quiet plain_eq_loop _,codeAny_builtin entry_eq_loop (by
    rw [Around.under_plainId plain_eq_loop _]
    exact lt_loop l b items items2 n n2 hsz e k _ 0 rfl prog w A R _ ⟨hl,hb,he,hlt,by simpa using h⟩)⟩
noncomputable def strAt (ys:List Str) (i:Nat):Str:=(ys[i]?).getD Str.empty
theorem lex_keys:∀ (xs ys:List Str),xs.length=ys.length→lexR ((List.range xs.length).map fun i=>(strAt xs i == strAt ys i,decide ((strAt xs i).cps.toList < (strAt ys i).cps.toList)))=ltKeys xs ys
  | [],[],_=>rfl
  | [],_::_,h=>by cases h
  | _::_,[],h=>by cases h
  | x::xs,y::ys,h=>by
    have h':xs.length=ys.length:=by simpa using h
    rw [List.length_cons,List.range_succ_eq_map,List.map_cons,List.map_map]
    show lexR ((x == y,decide (x.cps.toList < y.cps.toList))::(List.range xs.length).map fun i=>(strAt xs i == strAt ys i,decide ((strAt xs i).cps.toList < (strAt ys i).cps.toList)))=_
    unfold lexR ltKeys
    rw [lex_keys xs ys h']
    by_cases e:x=y
    · subst e; simp
    · rw [if_neg e]; simp [e]
section
variable {w:World} {A:Around} {E:Value→Shared→Prop} {s:Shared}
theorem keys_lt {a b:Addr} {xs ys:List (Str × Tok)} {n n2:Nat} (ha:s.heap.get? a=some { cls:=.type "list",data:=.seq (strValues xs).toArray n }) (hb:s.heap.get? b=some { cls:=.type "list",data:=.seq (strValues ys).toArray n2 }) (hlen:xs.length=ys.length) (hu:A.units < cLine)
    {Q:Bool→Shared→Prop} (h:Q (ltKeys (xs.map (·.1)) (ys.map (·.1))) s):wpAny (model P w) A (oneLt' true (.ref a) (.ref b)) Q E s:=by
  rw [oneLt'_eq]
  simp only [if_true]
  refine wpAny_bind (wpAny_cRoomFor hu ?_)
  have hz1:(strValues xs).toArray.size=xs.length:=by simp [strValues]
  have hz2:(strValues ys).toArray.size=ys.length:=by simp [strValues]
  have at1:∀ (zs:List (Str × Tok)) j (h1:j < (strValues zs).toArray.size),∃ t,(strValues zs).toArray[j]=.str (strAt (zs.map (·.1)) j) t:=by
    intro zs j h1
    have h1':j < zs.length:=by simpa [strValues] using h1
    refine ⟨(zs[j]).2,?_⟩
    simp [strValues,strAt,h1']
  refine wpAny_bind (wpAny_callSpecialIfBound?_slot ⟨_,ha,rfl⟩ F.slot_list_lt ?_)
  refine call_meets F.slot_list_lt ⟨_,ha,rfl⟩ F.entry_list_lt (F.args_list_lt_2 _ _) (list_lt a b _ _ n n2 (by rw [hz1,hz2,hlen]) (fun i=>strAt (xs.map (·.1)) i == strAt (ys.map (·.1)) i) (fun i=>decide ((strAt (xs.map (·.1)) i).cps.toList < (strAt (ys.map (·.1)) i).cps.toList))) ⟨ha,hb,fun j h1 h2=>?_,fun j h1 h2 _=>?_,?_⟩
  · refine exE (at1 xs j h1) fun t e1=>?_
    obtain ⟨u,e2⟩:=at1 ys j h2
    rw [e1,e2]
    exact (eqGives_str _ _ _ _).at _ _
  · refine exE (at1 xs j h1) fun t e1=>?_
    obtain ⟨u,e2⟩:=at1 ys j h2
    rw [e1,e2]
    exact fun prog w E Q hq=>PyProof.Rows.lt_str (prog:=prog) (w:=w) hq
  · rw [hz1]
    have:=lex_keys (xs.map (·.1)) (ys.map (·.1)) (by simpa using hlen)
    rw [List.length_map] at this
    rw [this]
    exact wpAny_truthy_bool h
end
end Mine
end
section
open PySem PySem.W PyProof.Rows PySem.SeqAt
set_option maxRecDepth 100000
namespace Mine
section
variable {w:World} {h₀:Heap} {Z:Scr}
noncomputable def lamArgs (p:Str) (kp:Pos):Arguments:=⟨[],[⟨p,none,kp⟩],none,[],[],none,[]⟩
structure LamAt (h:Heap) (f:Addr) (p:Str) (kp:Pos) (b:Expr) (scope:Scope) (cl:List (Str × Addr)):Prop where
  obj:∃ pm cdv ct,h.get? f=some { cls:=.type "function",data:=.func (kla_fn "<lambda>" lamQual (lamArgs p kp) b scope cl pm cdv ct) }∧h.CodeRec cdv lamQual
theorem lam_stp {μ:List Addr} {σ:St} {s s':Shared} (B:Base w h₀ Z) (N:Now h₀ Z μ σ s) (keep:∀ b o,b≠376→s.heap.get? b=some o→s'.heap.get? b=some o) (ho:s'.os=s.os) (hg:s'.gens=s.gens) (h6:∃ o,s'.heap.get? 376=some o) (tab:Tab h₀ s'.heap):Stp h₀ [] μ s μ s'∧Sim Z h₀ μ σ s'.heap:=by
  have st:Stp h₀ [] μ s μ s':=by
    refine ⟨⟨[],by simp,by simp⟩,fun b o e _ _ n=>keep b o n e,fun b o e q=>?_,fun b o _ e=>?_,ho,hg,fun i=>⟨fun b o e n=>keep b o n (i.keep b o e n),tab⟩⟩
    · refine keep b o (fun hb=>?_) e
      subst hb
      refine hid fun GG kk=>?_
      obtain ⟨ps,_,⟨_,e'⟩,_⟩:=N.inv.tab
      refine kk ?_
      clear kk GG
      obtain rfl:=Option.some.inj (e'.symm.trans e)
      rcases q with ⟨q,_⟩ | q <;> cases q
    · by_cases hb:b=376
      · subst hb; exact h6
      · exact ⟨o,keep b o hb e⟩
  refine ⟨st,N.sim.stp st rfl fun a ha o e=>keep a o (fun q=>?_) e⟩
  obtain ⟨o1,e1⟩:=B.b376
  have:=N.sim.low a ha
  rw [q,e1] at this; cases this
theorem lam_qual:("_law_due.<locals>."++"<lambda>":Str)=lamQual:=by decide +kernel
theorem lam_fin {μ:List Addr} {σ:St} {s:Shared} {p:Str} {kp q:Pos} {b:Expr} {scope:Scope} (B:Base w h₀ Z) (N:Now h₀ Z μ σ s) (hq1:q.line=lamPos.line) (hq2:q.col=lamPos.col) {clos:List (Str × Addr)} {nm:Value}
    {Q:Value→Shared→Prop} (h:∀ f s',Stp h₀ [] μ s μ s'→Sim Z h₀ μ σ s'.heap→LamAt s'.heap f p kp b scope clos→s.heap.get? f=none→Q (.ref f) s') {s1:Shared} (k1:∀ b o,s.heap.get? b=some o→s1.heap.get? b=some o) (o1:s1.os=s.os) (g1:s1.gens=s.gens) {c':Addr} {h':Heap} {tk:Nat} {ctv:Value} (hx:Heap.ExtBut 376 s1.heap h')
    (hdead:s.heap.get? c'=none) (i1:h'.IsCode 378 376 (#[]++#[rawInt q.line,rawInt q.col,.ref c'])) (i2:h'.CodeRec (.ref c') lamQual) (i3:h'.TableAt 378 376 (#[]++#[rawInt q.line,rawInt q.col,.ref c'])) (i4:∃ P',h'.TableAt c' P' #[]) (hle:s.heap.objs.size≤h'.objs.size) :
    Q (.ref h'.objs.size) { s1 with heap:=h'.push (kla_obj "<lambda>" lamQual (lamArgs p kp) b scope clos nm c' ctv),toks:=tk }:=by
  have keep:∀ b' o,b'≠376→s.heap.get? b'=some o→(h'.push (kla_obj "<lambda>" lamQual (lamArgs p kp) b scope clos nm c' ctv)).get? b'=some o:=fun b' o hb e=>Heap.get?_push_of_some _ (hx b' o hb (k1 b' o e))
  have hps:(#[]++#[rawInt q.line,rawInt q.col,.ref c']:Array Value)=#[rawInt lamPos.line,rawInt lamPos.col,.ref c']:=by rw [hq1,hq2]; rfl
  rw [hps] at i1 i3
  have lam:LamCode (h'.push (kla_obj "<lambda>" lamQual (lamArgs p kp) b scope clos nm c' ctv)) c':=by
    refine hid fun GG kk=>?_
    obtain ⟨c,o,vs,t,e0,e1,e2,e3⟩:=i2
    refine kk ?_
    clear kk GG
    cases e0
    refine hid fun GG kk=>?_
    obtain ⟨P',⟨o',vs',f1,f2,f3,_⟩,_⟩:=i4
    refine kk ?_
    clear kk GG
    obtain rfl:=Option.some.inj (e1.symm.trans f1)
    exact ⟨o,vs,t,Heap.get?_push_of_some _ e1,f2,e2,e3⟩
  obtain ⟨st,S⟩:=lam_stp (s':={ s1 with heap:=h'.push (kla_obj "<lambda>" lamQual (lamArgs p kp) b scope clos nm c' ctv),toks:=tk }) B N keep o1 g1 ⟨_,(i3.push _).2⟩ ⟨_,i1.push _,i3.push _,.inr ⟨c',rfl,N.inv.fresh hdead,lam⟩⟩
  exact h _ _ st S ⟨_,.ref c',ctv,Heap.get?_push_size _ rfl,i2.keeps fun b o e=>Heap.get?_push_of_some _ e⟩ (Heap.get?_none_of_le hle)
theorem lam_made {K e env} {μ:List Addr} {σ:St} {s:Shared} {A:Around} {p:Str} {kp q:Pos} {b:Expr} {scope:Scope} (B:Base w h₀ Z) (O:Ok w h₀ Z K e env μ σ s) (hfn:e.fn=379) (hsc:scOk K scope=true) (hq1:q.line=lamPos.line) (hq2:q.col=lamPos.col)
    {Q:Value→Shared→Prop} {E:Value→Shared→Prop} (h:∀ f s',Stp h₀ [] μ s μ s'→Sim Z h₀ μ σ s'.heap→LamAt s'.heap f p kp b scope (clOf env scope.names [])→s.heap.get? f=none→Q (.ref f) s') :
    wpAny (model P w) A (eval (.Lambda (lamArgs p kp) b scope q) env) Q E s:=by
  refine hid fun GG kk=>?_
  obtain ⟨hcode,hqual⟩:=O.er.code hfn
  have N:=O.now
  obtain ⟨ps,hIs,hTab,hps⟩:=N.inv.tab
  refine kk ?_
  clear kk GG
  have C:=CodeHd.of hIs hTab
  have ht:TriplesOk ps.toList:=by
    refine hid fun GG kk=>?_
    obtain ⟨_,_,_,_,_,_,_,_,_,op,_,_,_,_,_,_,_,e1,e2,ht,_⟩:=hIs
    refine kk ?_
    clear kk GG
    exact ht
  refine hid fun GG kk=>?_
  obtain ⟨mg,hg0,bm,ob,b1,b2,b3,b4,b5,b6,b7,b8⟩:=B.wf.bmod
  refine kk ?_
  clear kk GG
  have hg:s.heap.Ns mainGlobals mg:=Ns.ofInv hg0 N.inv (by decide)
  have hb5:s.heap.get? bm=some ob:=N.inv.keep _ _ b5 b4
  have hcl:=(under_env (scope:=scope) B O hsc).1
  have hql:env.qual++"<lambda>"=lamQual:=by rw [hqual]; exact lam_qual
  refine kla_eval rfl ?_
  rw [hql]
  generalize clOf env scope.names []=clos at *
  rcases hps with rfl | ⟨c',rfl,hc0,hLam⟩
  · rw [makeFunction_eq]
    simp only [lamArgs,List.zip_nil_right,List.filterMap_nil,List.isEmpty_nil,if_true,pure_bind]
    unfold makeTail
    rw [hcl,O.er.glob]
    refine wpAny_bind (wpAny_pure ?_)
    induction clos with
    | nil =>
      simp only [List.isEmpty_nil,if_true]
      refine wpAny_bind (wpAny_pure ?_)
      refine wpAny_bind (wpAny_functionCodeX hcode hIs hTab rfl fun c' h' tk hx hge hlt hI hrec htb hP'=>?_)
      have hg':=hg.extBut hx (by decide)
      refine wpAny_bind (wpAny_builtinsFor hg' b1 b2 (hx _ _ b4 hb5) b6 b7 b8 ?_)
      refine wpAny_bind (wpAny_nsGet hg' ?_)
      obtain ⟨P',_,_,hP'⟩:=hP'
      exact wpAny_bind (wpAny_pure (wpAny_newObj_type (lam_fin B N hq1 hq2 h (fun _ _ e=>e) rfl rfl hx (Heap.get?_none_of_le hge) hI hrec htb ⟨P',hP'⟩ (Nat.le_of_lt (Nat.lt_of_le_of_lt hge hlt))) (by size_fits)))
    | cons y r =>
      simp only [List.isEmpty_cons,Bool.false_eq_true,if_false]
      refine wpAny_bind (wpAny_newTextTuple ?_)
      refine wpAny_bind (wpAny_functionCodeX hcode (hIs.push _) (hTab.push _) rfl fun c' h' tk hx hge hlt hI hrec htb hP'=>?_)
      have hg':=(hg.push _).extBut hx (by decide)
      refine wpAny_bind (wpAny_builtinsFor hg' b1 b2 (hx _ _ b4 (Heap.get?_push_of_some _ hb5)) b6 b7 b8 ?_)
      refine wpAny_bind (wpAny_nsGet hg' ?_)
      refine hid fun GG kk=>?_
      obtain ⟨P',_,_,hP'⟩:=hP'
      refine kk ?_
      clear kk GG
      have hge':s.heap.objs.size≤c':=Nat.le_trans (by simp only [Heap.size_push]; omega) hge
      exact wpAny_bind (wpAny_pure (wpAny_newObj_type (lam_fin (s1:={ s with heap:=s.heap.push _ }) B N hq1 hq2 h (fun _ _ e=>Heap.get?_push_of_some _ e) rfl rfl hx (Heap.get?_none_of_le hge') hI hrec htb ⟨P',hP'⟩ (Nat.le_of_lt (Nat.lt_of_le_of_lt hge' hlt))) (by size_fits)))
  · have hf:codeAmong q (#[rawInt lamPos.line,rawInt lamPos.col,.ref c']:Array Value).toList=some (.ref c'):=by
      show (if (((lamPos.line:Int) == (q.line:Int)) && ((lamPos.col:Int) == (q.col:Int)))=true then some (Value.ref c') else _)=_
      rw [hq1,hq2]; simp
    refine kla_makeFunctionHit hcl O.er.glob hg hcode C hTab.2 ht hf ⟨bm,ob,b1,b2,b3,b4,hb5,b6,b7,b8⟩ fun ctv h' tk hk hsz=>?_
    have keep:∀ b' o,s.heap.get? b'=some o→(h'.push { cls:=.type "function",data:=.func (kla_fn "<lambda>" lamQual (lamArgs p kp) b scope clos ((mg "__name__").getD .none) (.ref c') ctv) }).get? b'=some o:=fun b' o e=>Heap.get?_push_of_some _ (hk b' o e)
    refine hid fun GG kk=>?_
    obtain ⟨o,vs,t,e1,e2,e3,e4⟩:=hLam
    refine kk ?_
    clear kk GG
    exact h _ _ (Stp.ext keep rfl rfl) (N.sim.ext keep) ⟨_,.ref c',ctv,Heap.get?_push_size _ rfl,⟨c',o,vs,t,rfl,keep _ _ e1,e3,e4⟩⟩ (Heap.get?_none_of_le hsz)
end
section
variable {w:World} {h₀:Heap} {Z:Scr}
theorem Sim.kinds {N:Heap} {μ:List Addr} {σ:St} {h:Heap} (S:Sim Z N μ σ h) {a:Addr} (ha:a∈μ):∃ o,h.get? a=some o∧((∃ vs n,o.data=.seq vs n)∨∃ es n,o.data=.dict es n):=by
  obtain ⟨k,hk,rfl⟩:=List.getElem_of_mem ha
  have hk':k < σ.length:=by rw [← S.len]; exact hk
  have e:σ[k]?=some σ[k]:=List.getElem?_eq_getElem hk'
  have em:μ[k]?=some μ[k]:=List.getElem?_eq_getElem hk
  cases hc:σ[k] with
  | lst xs =>
    rw [hc] at e
    refine hid fun GG kk=>?_
    obtain ⟨a,items,h1,⟨n,ho⟩,_⟩:=S.lst k xs e
    refine kk ?_
    clear kk GG
    rw [Option.some.inj (em.symm.trans h1)]; exact ⟨_,ho,.inl ⟨_,_,rfl⟩⟩
  | ins v =>
    rw [hc] at e
    refine hid fun GG kk=>?_
    obtain ⟨a,m,val,h1,⟨o,es,ep,ho,hd,_⟩,_⟩:=S.ins k v e
    refine kk ?_
    clear kk GG
    rw [Option.some.inj (em.symm.trans h1)]; exact ⟨_,ho,.inr ⟨_,_,hd⟩⟩
  | kw =>
    rw [hc] at e
    refine hid fun GG kk=>?_
    refine exE (S.kw k e) fun a zz=>exE zz fun n zz=>anE zz fun h1 zz=>anE zz fun ho _=>?_
    refine kk ?_
    clear kk GG
    rw [Option.some.inj (em.symm.trans h1)]; exact ⟨_,ho,.inr ⟨_,_,rfl⟩⟩
theorem LamAt.keep {h h':Heap} {f p kp b scope cl} (L:LamAt h f p kp b scope cl) (hk:∀ a o,h.get? a=some o→((∃ fd,o.data=.func fd)∨∃ vs t,o.data=.fields vs∧vs[1]?=some (.str lamQual t))→h'.get? a=some o):LamAt h' f p kp b scope cl:=by
  refine hid fun GG kk=>?_
  obtain ⟨pm,cdv,ct,ho,c,o,vs,t,e0,e1,e2,e3⟩:=L.obj
  refine kk ?_
  clear kk GG
  exact ⟨pm,cdv,ct,hk _ _ ho (.inl ⟨_,rfl⟩),c,o,vs,t,e0,hk _ _ e1 (.inr ⟨vs,t,e2,e3⟩),e2,e3⟩
theorem LamAt.stp {Xs μ μ':List Addr} {σ:St} {s s':Shared} {f p kp b scope cl} (L:LamAt s.heap f p kp b scope cl) (N:Now h₀ Z μ σ s) (st:Stp h₀ Xs μ s μ' s') (hX:∀ a∈Xs,∃ o vs n,s.heap.get? a=some o∧o.data=.seq vs n):LamAt s'.heap f p kp b scope cl:=by
  refine L.keep fun a o e hd=>st.keep a o e (fun q=>?_) (fun q=>?_) fun q=>?_
  · refine exA (N.sim.kinds q) fun o' e' h'=>?_
    obtain rfl:=Option.some.inj (e.symm.trans e')
    rcases hd with ⟨_,hd⟩ | ⟨_,_,hd,_⟩ <;> rcases h' with ⟨_,_,h'⟩ | ⟨_,_,h'⟩ <;> rw [hd] at h' <;> cases h'
  · obtain ⟨o',vs,n,e',h'⟩:=hX a q
    obtain rfl:=Option.some.inj (e.symm.trans e')
    rcases hd with ⟨_,hd⟩ | ⟨_,_,hd,_⟩ <;> rw [hd] at h' <;> cases h'
  · subst q
    refine hid fun GG kk=>?_
    obtain ⟨ps,_,⟨_,e'⟩,hps⟩:=N.inv.tab
    refine kk ?_
    clear kk GG
    obtain rfl:=Option.some.inj (e'.symm.trans e)
    rcases hd with ⟨_,hd⟩ | ⟨_,_,hd,h1⟩
    · cases hd
    · cases hd
      rcases hps with rfl | ⟨c',rfl,_⟩
      · cases h1
      · cases h1
noncomputable def GoodB (n:Nat) (A:Around):Prop:=A.handled=none∧A.depth+2 * n+1 < 990∧A.units+16 * n+203 < cLine
theorem lam_call {n:Nat} (hE:SndE w h₀ Z n) (B:Base w h₀ Z) {K e env μ σ s A} {p:Str} {kp:Pos} {b:Expr} {scope:Scope} {pl:Pl} {key:CE} {v kv:V} {val:Value} {f:Addr} {σ':St} (hk:scope.kind=.function) (hsc:scOk K scope=true) (hco:scope.isCoroutine=false) (hgen:scope.isGenerator=false) (hpn:p="text") (hp:cPt (kinds scope) p=some pl) (hel:Ex (kinds scope) b key)
    (he:(fs n).E (EE.set ⟨[],only (frees scope) e.cel,0⟩ v pl) key σ=some (kv,σ')) (gA:GoodB n A) (O:Ok w h₀ Z K e env μ σ s) (L:LamAt s.heap f p kp b scope (clOf env scope.names [])) (r:VR Z μ s.heap v val):Wp w h₀ Z A (call (.ref f) [val]) μ s σ' kv:=by
  refine hid fun GG kk=>?_
  obtain ⟨pm,cdv,ct,ho,hcd⟩:=L.obj
  refine anE (sc_parts hsc) fun hnd zz=>anE zz fun hu hfree=>?_
  refine kk ?_
  clear kk GG
  intro Q E h
  have room:A.depth < recursionLimit:=by have:=gA.2.1; unfold recursionLimit; omega
  refine wpAny_call (kla_callFunE (body:=b) room ho rfl hco hgen rfl hcd ?_)
  subst hpn
  refine wpAny_of_eq (show bindArgs (kla_fn "<lambda>" lamQual (lamArgs "text" kp) b scope (clOf env scope.names []) pm cdv ct) ⟨[val],[]⟩=pure ([("text",val)]:List (Str × Value)) from rfl) ?_
  refine hid fun GG kk=>?_
  obtain ⟨_,u2,u3,u4,u5⟩:=under_env (scope:=scope) B O hsc
  refine kk ?_
  clear kk GG
  refine newEnv_sound (fnA:=0) (cel:=only (frees scope) e.cel) (l:=[(pl,v)]) (closure:=clOf env scope.names []) B O.now hk hu u2 u3 u4 u5 rfl (.cons hp r .nil) (fun q=>nomatch q) fun env2 s2 henv st2 hX2 O2=>?_
  refine ⟨?_,kla_codeExpr ?_⟩
  · refine exE (B.wf.lim) fun mc zz=>anE zz fun hm zz=>anE zz fun h1 _=>?_
    exact ⟨mc,Ns.ofInv hm O2.now.inv (by decide),h1⟩
  have g2:GoodA n (A.deeper env2):=⟨gA.1,by show A.depth+1+2 * n < 990; have:=gA.2.1; omega,by show A.units+3+16 * n+200 < cLine; have:=gA.2.2; omega⟩
  refine hE hel he g2 O2 _ _ fun μ3 s3 kval st3 S3 r3=>?_
  exact h μ3 s3 kval (st2.trans st3) S3 r3
theorem frozen_list {h h':Heap} {a:Addr} {c:String} {xs:Array Value} {n:Nat} (hs:Heap.SameBut a h h') (ho:h.get? a=some (seqObj "list" xs n)):Frozen h h':=by
  intro b o e q
  by_cases hb:b=a
  · subst hb
    obtain rfl:=Option.some.inj (ho.symm.trans e)
    rcases q with ⟨q,_⟩ | q
    · exact absurd q (by simp)
    · cases q
  · exact (hs.2 b hb).trans e
theorem Stp.seqC {μ:List Addr} {s:Shared} {a:Addr} {xs:Array Value} {n:Nat} (B:Base w h₀ Z) (ho:s.heap.get? a=some (seqObj "list" xs n)) (h0:h₀.get? a=none) (g:Array Value→Array Value) (t:Nat):Stp h₀ [a] μ s μ { s with heap:=s.heap.update a (Obj.mapSeq g),toks:=t }:=by
  have hs:=Heap.SameBut.update s.heap a (Obj.mapSeq g)
  refine Stp.write h0 hs (get?_update_seq ho g) B.b378 B.b376 (frozen_list (c:="list") hs ho) (fun o vs e q=>?_) (.inr (by simp)) t
  obtain rfl:=Option.some.inj (ho.symm.trans e)
  cases q
theorem Ok.seqC {K e env} {μ:List Addr} {σ:St} {s:Shared} {a:Addr} {xs:Array Value} {n:Nat} (B:Base w h₀ Z) (O:Ok w h₀ Z K e env μ σ s) (ho:s.heap.get? a=some (seqObj "list" xs n)) (h0:h₀.get? a=none) (hμ:a ∉ μ) (g:Array Value→Array Value) (t:Nat):Ok w h₀ Z K e env μ σ { s with heap:=s.heap.update a (Obj.mapSeq g),toks:=t }:=by
  have st:=Stp.seqC (μ:=μ) B ho h0 g t
  have hs:=Heap.SameBut.update s.heap a (Obj.mapSeq g)
  refine O.stpX B st (fun q=>?_) (fun y c hc q=>?_) (O.now.sim.stp st rfl fun b hb o e=>(hs.2 b fun q=>hμ (q ▸ hb)).trans e)
  · obtain ⟨m,⟨o,es,ep,e1,e2,_⟩,_⟩:=O.er.ns
    rw [List.mem_singleton.mp q,ho] at e1; cases e1; cases e2
  · obtain ⟨⟨ov,o,e1,e2⟩,_⟩:=O.er.cellsOk y c hc
    rw [List.mem_singleton.mp q,ho] at e1; cases e1; cases e2
theorem keys_loop {n:Nat} (hE:SndE w h₀ Z n) (B:Base w h₀ Z) {K e env A} {p:Str} {kp:Pos} {b:Expr} {scope:Scope} {pl:Pl} {key:CE} {f kS D:Addr} {body:Value→PUnit→Sem (ForInStep PUnit)} {oD:Obj} (hk:scope.kind=.function) (hsc:scOk K scope=true) (hco:scope.isCoroutine=false) (hgen:scope.isGenerator=false) (hpn:p="text") (hp:cPt (kinds scope) p=some pl) (hel:Ex (kinds scope) b key)
    (gA:GoodB n A) (h0:h₀.get? kS=none) (d0:h₀.get? D=none) (hne:D≠kS)
    (hb:∀ (x:Value) (s:Shared) (R:ForInStep PUnit→Shared→Prop) (E:Value→Shared→Prop),wpAny (model P w) A (call (.ref f) [x]) (fun k s1=>∃ kA ep,s1.heap.get? kS=some (seqObj "list" kA ep)∧kA.size < 64∧R (.yield ⟨⟩) { s1 with heap:=s1.heap.update kS (Obj.mapSeq (·.push k)) }) (fun _ _=>False) s→wpAny (model P w) A (body x ⟨⟩) R E s) :
    ∀ {xs:List V} {vals:List Value} {kds:List V} {kA:List Value} {μ σ s ep kvs σ'},keysV (fun x=>(fs n).E (EE.set ⟨[],only (frees scope) e.cel,0⟩ x pl) key) xs σ=some (kvs,σ')→Ok w h₀ Z K e env μ σ s→VRs Z μ s.heap xs vals→VRs Z μ s.heap kds kA→kds.length+xs.length < 64 →
      s.heap.get? kS=some (seqObj "list" kA.toArray ep)→kS ∉ μ→s.heap.get? D=some oD→D ∉ μ→LamAt s.heap f p kp b scope (clOf env scope.names [])→∀ {Q:PUnit→Shared→Prop} {E:Value→Shared→Prop},
      (∀ μ' s' kA' ep',Stp h₀ [kS] μ s μ' s'→Ok w h₀ Z K e env μ' σ' s'→VRs Z μ' s'.heap (kds++kvs) kA'→s'.heap.get? kS=some (seqObj "list" kA'.toArray ep')→kS ∉ μ'→s'.heap.get? D=some oD→D ∉ μ'→Q ⟨⟩ s') →
      wpAny (model P w) A (forIn vals PUnit.unit body) Q E s:=by
  intro xs
  induction xs with
  | nil =>
    intro vals kds kA μ σ s ep kvs σ' he O rv rk hl hS hSμ hD hDμ L Q E h
    cases he
    cases rv.nil_inv
    rw [List.forIn_nil]
    exact wpAny_pure (h μ s kA ep (.refl _ _ _ _) O (by simpa using rk) hS hSμ hD hDμ)
  | cons v xs ih =>
    intro vals kds kA μ σ s ep kvs σ' he O rv rk hl hS hSμ hD hDμ L Q E h
    refine hid fun GG kk=>?_
    refine X.bindE he fun kv σ1 k1 he=>?_
    refine X.bindE he fun kvs1 σ2 k2 he=>?_
    refine kk ?_
    clear kk GG
    cases he
    obtain ⟨val,vals,rfl,r1,r2⟩:=rv.cons_inv
    have ne6:∀ {b:Addr},h₀.get? b=none→b≠376:=fun {b} e q=>by obtain ⟨o,e'⟩:=B.b376; rw [← q,e] at e'; cases e'
    rw [List.forIn_cons]
    refine wpAny_bind (hb val s _ _ (lam_call hE B hk hsc hco hgen hpn hp hel k1 gA O L r1 _ _ fun μ1 s1 kval st1 S1 rk1=>?_))
    have O1:=O.stp B st1 S1
    have hS1:=st1.keep _ _ hS hSμ (by simp) (ne6 h0)
    have hD1:=st1.keep _ _ hD hDμ (by simp) (ne6 d0)
    have hSμ1:kS ∉ μ1:=st1.mem hS hSμ (by simp)
    have hDμ1:D ∉ μ1:=st1.mem hD hDμ (by simp)
    have hkl:=rk.length
    refine ⟨kA.toArray,ep,hS1,by simp only [List.size_toArray]; simp only [List.length_cons] at hl; omega,?_⟩
    have st2:Stp h₀ [kS] μ1 s1 μ1 { s1 with heap:=s1.heap.update kS (Obj.mapSeq (·.push kval)) }:=Stp.seqC B hS1 h0 _ s1.toks
    have O2:Ok w h₀ Z K e env μ1 σ1 { s1 with heap:=s1.heap.update kS (Obj.mapSeq (·.push kval)) }:=O1.seqC B hS1 h0 hSμ1 _ s1.toks
    obtain ⟨ep2,hS2⟩:∃ ep2,(s1.heap.update kS (Obj.mapSeq (·.push kval))).get? kS=some (seqObj "list" (kA++[kval]).toArray ep2):=by
      have e3:(kA++[kval]).toArray=kA.toArray.push kval:=by simp
      rw [e3]
      exact ⟨_,get?_update_seq hS1 (·.push kval)⟩
    have hD2:(s1.heap.update kS (Obj.mapSeq (·.push kval))).get? D=some oD:=((Heap.SameBut.update s1.heap kS (Obj.mapSeq (·.push kval))).2 D hne).trans hD1
    have L2:=(L.stp O.now st1 (by simp)).stp O1.now st2 fun a ha=>by rw [List.mem_singleton.mp ha]; exact ⟨_,_,_,hS1,rfl⟩
    show wpAny (model P w) A (forIn vals PUnit.unit body) Q E _
    refine ih (kds:=kds++[kv]) (kA:=kA++[kval]) k2 O2 (st2.vrs (st1.vrs r2)) ((st2.vrs (st1.vrs rk)).app (.cons (st2.vr rk1) .nil)) (by simp only [List.length_append,List.length_cons,List.length_nil] at hl ⊢; omega) hS2 hSμ1 hD2 hDμ1 L2 fun μ' s' kA' ep' st' O' r' a1 a2 a3 a4=>?_
    refine h μ' s' kA' ep' (((st1.wide (by simp)).trans st2).trans st') O' (by simpa using r') a1 a2 a3 a4
end
theorem kev_wp {α:Type} {cmp:Nat→Nat→(Bool→Shared→Prop)→Shared→Prop} {n:Nat} {lt:Nat→Nat→Bool} {s:Shared} (hc:∀ (i j:Nat) (C:Bool→Shared→Prop),i < n→j < n→C (lt i j) s→cmp i j C s) :
    ∀ (t:KasT α) {a:α} {Q:α→Shared→Prop},kev n lt t=some a→Q a s→t.kasWp cmp Q s
  | .ret a,_,_,e,h=>by cases e; exact h
  | .ask i j k,a,Q,e,h=>by
    unfold kev at e
    cases hb:decide (i < n) && decide (j < n) with
    | true =>
      rw [hb] at e
      simp only [Bool.and_eq_true,decide_eq_true_eq] at hb
      exact hc i j _ hb.1 hb.2 (kev_wp hc (k (lt i j)) e h)
    | false=>rw [hb] at e; cases e
section
variable {w:World} {h₀:Heap} {Z:Scr}
theorem VRs.pickO {μ:List Addr} {h:Heap} {xs:List V} {vals:List Value} (r:VRs Z μ h xs vals) {l:List Nat}:∀ {ys:List V},mapO (fun i=>xs[i]?) l=some ys→VRs Z μ h ys (l.map fun i=>vals.getD i Value.none):=by
  induction l with
  | nil=>exact fun e=>Option.some.inj e ▸ .nil
  | cons i l ih =>
    intro ys e
    refine mapO_cons e fun x zs e1 e2=>?_
    refine exA (r.get e1) fun val e3 rv=>?_
    have q:vals.getD i Value.none=val:=(List.getD_eq_getElem?_getD ..).trans (congrArg (Option.getD · Value.none) e3)
    exact .cons (q.symm ▸ rv:VR Z μ h x (vals.getD i Value.none)) (ih e2)
theorem readKeys_inv {μ:List Addr} {σ:St} {h:Heap} (S:Sim Z h₀ μ σ h) {kvs:List V}:∀ {kA:List Value} {ks:List (List Str)} {σ':St},readKeys kvs σ=some (ks,σ')→VRs Z μ h kvs kA →
    ks.length=kA.length∧∀ (i:Nat) (y:Value),kA[i]?=some y→∃ (a:Addr) (l:List (Str × Tok)) (n:Nat),y=.ref a∧h.get? a=some { cls:=.type "list",data:=.seq (strValues l).toArray n }∧ks[i]?=some (l.map (·.1)):=by
  induction kvs with
  | nil =>
    intro kA ks σ' e r
    cases e
    cases r
    exact ⟨rfl,fun i y q=>nomatch q⟩
  | cons v kvs ih =>
    intro kA ks σ' e r
    obtain ⟨j,xs,rfl,hx,e⟩:=onL_inv e
    refine hid fun GG kk=>?_
    refine of_bindE e fun ys hy e=>?_
    refine X.bindE e fun t σ1 e1 e=>?_
    refine kk ?_
    clear kk GG
    cases e
    cases r with
    | cons r1 r2 =>
    obtain ⟨hl,ih⟩:=ih e1 r2
    obtain ⟨a,rfl,ha⟩:=r1.lst_inv
    refine hid fun GG kk=>?_
    obtain ⟨items,⟨n,ho⟩,rv⟩:=S.list hx r1
    refine kk ?_
    clear kk GG
    obtain ⟨l,hl1,rfl⟩:=rv.strs hy
    cases Array.ext' (ys:=(strValues l).toArray) hl1
    refine ⟨congrArg (·+1) hl,fun i y q=>?_⟩
    induction i with
    | zero=>exact ⟨a,l,n,(Option.some.inj q).symm,ho,rfl⟩
    | succ i=>exact ih i y q
theorem tail_run {K e env} {μ:List Addr} {σ:St} {s:Shared} {A:Around} {D kS:Addr} {keys:Array Value} {e0 e1:Nat} {st:SortSt} {out:Array Value} {Pp:PySem.Fin→Shared→Prop} {E:Value→Shared→Prop} (B:Base w h₀ Z) (O:Ok w h₀ Z K e env μ σ s)
    (hS:s.heap.get? kS=some (seqObj "list" keys e0)) (hD:s.heap.get? D=some (seqObj "list" #[] e1)) (hne:D≠kS) (hSμ:kS ∉ μ) (hDμ:D ∉ μ) (s0:h₀.get? kS=none) (d0:h₀.get? D=none)
    (hz:keys.size < 64) (hout:(arrOf st).map (·.2)=out) (hz2:out.size < 64) (hf:failedOf st=none)
    (h:∀ s' ep',Stp h₀ [D,kS] μ s μ s'→Sim Z h₀ μ σ s'.heap→s'.heap.get? D=some (seqObj "list" out ep')→Pp (.done (.ret .none)) s') :
    wpAny (model P w) A (ksk_tail D false e1 (.ref kS) st) Pp E s:=by
  have O1:=O.seqC B hS s0 hSμ (fun _=>#[]) s.toks
  have st1:Stp h₀ [kS] μ s μ _:=Stp.seqC B hS s0 (fun _=>#[]) s.toks
  have hD1:(s.heap.update kS (Obj.mapSeq fun _=>(#[]:Array Value))).get? D=some (seqObj "list" #[] e1):=((Heap.SameBut.update s.heap kS (Obj.mapSeq fun _=>(#[]:Array Value))).2 D hne).trans hD
  have O2:=O1.seqC B hD1 d0 hDμ (fun _=>out) s.toks
  have st2:Stp h₀ [D] μ _ μ _:=Stp.seqC (s:={ s with heap:=s.heap.update kS (Obj.mapSeq fun _=>(#[]:Array Value)),toks:=s.toks }) B hD1 d0 (fun _=>out) s.toks
  obtain ⟨c2,hc2⟩:∃ c2,((s.heap.update kS (Obj.mapSeq fun _=>(#[]:Array Value))).update D (Obj.mapSeq fun _=>out)).get? D=some (seqObj "list" out c2):=⟨_,get?_update_seq hD1 fun _=>out⟩
  unfold ksk_tail
  try dsimp only
  refine wpAny_bind (listUpdate_at hS rfl ?_ (by rw [sizeLine_eq]; omega) (Nat.zero_le _))
  refine wpAny_bind (wpAny_letGo ?_)
  refine wpAny_bind (seqEpoch_at hD1 rfl ?_)
  rw [hout]
  simp only [Bool.false_eq_true,if_false]
  refine wpAny_bind (listUpdate_at hD1 rfl ?_ (Nat.zero_le _) (by show out.size≤_; rw [sizeLine_eq]; omega))
  rw [hf]
  simp only [bne_self_eq_false,Bool.false_eq_true,if_false]
  exact wpAny_pure (h _ c2 ((st1.wide (by simp)).trans (st2.wide (by simp))) O2.now.sim hc2)
theorem item_eq {keys items:Array Value} {n:Nat} (h1:keys.size=n) (h2:items.size=n) (i:Nat):kas_item (keys.zip items) i=(keys.getD i Value.none,items.getD i Value.none):=by
  unfold kas_item
  by_cases h:i < n
  · have a1:i < keys.size:=by omega
    have a2:i < items.size:=by omega
    have a3:i < (keys.zip items).size:=by rw [Array.size_zip]; omega
    have a4:i < min keys.size items.size:=by omega
    simp [Array.getD,a1,a2,a4]
  · have a1:¬ i < keys.size:=by omega
    have a2:¬ i < items.size:=by omega
    have a3:¬ i < (keys.zip items).size:=by rw [Array.size_zip]; omega
    have a4:¬ i < min keys.size items.size:=by omega
    simp [Array.getD,a1,a2,a4]
theorem sort_tree {n:Nat} (hE:SndE w h₀ Z n) (B:Base w h₀ Z) {K e env A} {p:Str} {kp:Pos} {b:Expr} {scope:Scope} {pl:Pl} {key:CE} {f D:Addr} {xs:List V} {vals:List Value} {kvs ys:List V} {ks:List (List Str)} {μ:List Addr} {σ σ1:St} {s:Shared} {ep:Nat} {Pp:PySem.Fin→Shared→Prop} {E:Value→Shared→Prop}
    (hk:scope.kind=.function) (hsc:scOk K scope=true) (hco:scope.isCoroutine=false) (hgen:scope.isGenerator=false) (hpn:p="text") (hp:cPt (kinds scope) p=some pl) (hel:Ex (kinds scope) b key) (gA:GoodB n A)
    (hkv:keysV (fun x=>(fs n).E (EE.set ⟨[],only (frees scope) e.cel,0⟩ x pl) key) xs σ=some (kvs,σ1)) (hr:readKeys kvs σ1=some (ks,σ1)) (h4:(ks.all fun y=>Nat.beq y.length 4)=true) (ho:sortK ks xs=some ys)
    (O:Ok w h₀ Z K e env μ σ s) (L:LamAt s.heap f p kp b scope (clOf env scope.names [])) (rv:VRs Z μ s.heap xs vals) (h64:xs.length < 64) (hD:s.heap.get? D=some (seqObj "list" vals.toArray ep)) (hDμ:D ∉ μ) (d0:h₀.get? D=none)
    (h:∀ μ' s' out ep',Stp h₀ [D] μ s μ' s'→Sim Z h₀ μ' σ1 s'.heap→VRs Z μ' s'.heap ys out→s'.heap.get? D=some (seqObj "list" out.toArray ep')→D ∉ μ'→Pp (.done (.ret .none)) s') :
    wpAny (model P w) A (ksk_tree D (.ref f) false) Pp E s:=by
  have hvl:vals.length < 64:=by rw [← rv.length]; exact h64
  have hDlt:D < s.heap.objs.size:=Heap.lt_size hD
  obtain ⟨e1,hD1⟩:∃ e1,(s.heap.update D (Obj.mapSeq fun _=>(#[]:Array Value))).get? D=some (seqObj "list" #[] e1):=⟨_,get?_update_seq hD fun _=>#[]⟩
  have O1:=O.seqC B hD d0 hDμ (fun _=>#[]) s.toks
  have st1:Stp h₀ [D] μ s μ { s with heap:=s.heap.update D (Obj.mapSeq fun _=>(#[]:Array Value)),toks:=s.toks }:=Stp.seqC B hD d0 (fun _=>#[]) s.toks
  have hsz:((s.heap.update D (Obj.mapSeq fun _=>(#[]:Array Value))).push (seqObj "tuple" vals.toArray 0)).objs.size=s.heap.objs.size+1:=by rw [size_push',Heap.size_update]
  have kp2:∀ b o,(s.heap.update D (Obj.mapSeq fun _=>(#[]:Array Value))).get? b=some o→(((s.heap.update D (Obj.mapSeq fun _=>(#[]:Array Value))).push (seqObj "tuple" vals.toArray 0)).push (seqObj "list" #[] 0)).get? b=some o:=fun b o q=>Heap.get?_push_of_some _ (Heap.get?_push_of_some _ q)
  have st2:Stp h₀ [] μ { s with heap:=s.heap.update D (Obj.mapSeq fun _=>(#[]:Array Value)),toks:=s.toks } μ { s with heap:=((s.heap.update D (Obj.mapSeq fun _=>(#[]:Array Value))).push (seqObj "tuple" vals.toArray 0)).push (seqObj "list" #[] 0) }:=Stp.ext kp2 rfl rfl
  have O2:=O1.stp B st2 (O1.now.sim.ext kp2)
  have dead:s.heap.get? (s.heap.objs.size+1)=none:=Heap.get?_none_of_le (Nat.le_succ _)
  have s0:h₀.get? (s.heap.objs.size+1)=none:=by
    cases q:h₀.get? (s.heap.objs.size+1) with
    | none=>rfl
    | some o =>
      by_cases h6:s.heap.objs.size+1=376
      · obtain ⟨ps,_,⟨_,e'⟩,_⟩:=O.now.inv.tab
        rw [← h6,dead] at e'; cases e'
      · have:=O.now.inv.keep _ _ q h6
        rw [dead] at this; cases this
  have hSμ:s.heap.objs.size+1 ∉ μ:=fun q=>by obtain ⟨o,e'⟩:=O.now.sim.fresh _ q; rw [dead] at e'; cases e'
  have hS2:(((s.heap.update D (Obj.mapSeq fun _=>(#[]:Array Value))).push (seqObj "tuple" vals.toArray 0)).push (seqObj "list" #[] 0)).get? (s.heap.objs.size+1)=some (seqObj "list" ([]:List Value).toArray 0):=by
    rw [← hsz]; exact Heap.get?_push_size _ rfl
  have L2:=(L.stp O.now st1 fun a ha=>by rw [List.mem_singleton.mp ha]; exact ⟨_,_,_,hD,rfl⟩).stp O1.now st2 (by simp)
  have rv2:=st2.vrs (st1.vrs rv)
  unfold ksk_tree
  refine wpAny_bind (listItems_at hD rfl ?_)
  refine wpAny_bind (listUpdate_at hD rfl ?_ (by rw [List.size_toArray,sizeLine_eq]; omega) (Nat.zero_le _))
  refine wpAny_bind (seqEpoch_at hD1 rfl ?_)
  refine wpAny_bind (wpAny_newTuple ?_ (by show vals.length≤_; rw [sizeLine_eq]; omega))
  refine wpAny_bind (wpAny_newList ?_ (Nat.zero_le _))
  refine wpAny_holding ?_
  rw [hsz]
  unfold ksk_rest
  refine wpAny_bind (wpAny_rule ?_)
  rw [List.forIn_toArray]
  refine wpAny_bind (keys_loop hE B (xs:=xs) (kS:=s.heap.objs.size+1) (D:=D) (kds:=[]) (kA:=[]) hk hsc hco hgen hpn hp hel gA s0 d0 (Nat.ne_of_lt (Nat.lt_succ_of_lt hDlt)) ?hb hkv O2 rv2 .nil (by simpa using h64) hS2 hSμ (kp2 _ _ hD1) hDμ L2 ?fin)
  case hb =>
    intro x s3 R E3 hx
    refine wpAny_bind (wpAny_attempt (wpAny_mono hx (fun k s4 hk4=>?_) fun _ _ hF=>hF.elim))
    refine hid fun GG kk=>?_
    obtain ⟨kA4,ep4,hk5,hsz4,hR⟩:=hk4
    refine kk ?_
    clear kk GG
    exact wpAny_bind (listUpdate_at hk5 rfl (wpAny_pure hR) (by rw [sizeLine_eq]; omega) (Nat.le_trans (Nat.le_of_eq (Array.size_push ..)) (by rw [sizeLine_eq]; omega)))
  case fin =>
    intro μ3 s3 kA ep3 st3 O3 rk hS3 hSμ3 hD3 hDμ3
    rw [List.nil_append] at rk
    refine wpAny_bind (listItems_at hS3 rfl ?_)
    obtain ⟨hkl,hkeys⟩:=readKeys_inv O3.now.sim hr rk
    have hkvl:kA.length=xs.length:=by
      have:∀ (xs:List V) {σ kvs σ'},keysV (fun x=>(fs n).E (EE.set ⟨[],only (frees scope) e.cel,0⟩ x pl) key) xs σ=some (kvs,σ')→kvs.length=xs.length:=by
        intro xs
        induction xs with
        | nil=>intro σ kvs σ' q; cases q; rfl
        | cons v xs ih =>
          intro σ kvs σ' q
          refine hid fun GG kk=>?_
          refine X.bindE q fun kv σ1 k1 q=>?_
          refine X.bindE q fun kvs1 σ2 k2 q=>?_
          refine kk ?_
          clear kk GG
          cases q
          exact congrArg (·+1) (ih k2)
      rw [← this xs hkv,rk.length]
    have hvk:vals.length=xs.length:=rv.length.symm
    have stA:Stp h₀ [D] μ s μ3 s3:=Stp.drop (st1.trans (st2.wide (by simp))) st3 fun a ha=>by rw [List.mem_singleton.mp ha]; exact .inr dead
    have last:∀ {s':Shared} {out:List Value} {ep'},VRs Z μ3 s3.heap ys out→Stp h₀ [D,s.heap.objs.size+1] μ3 s3 μ3 s'→Sim Z h₀ μ3 σ1 s'.heap→s'.heap.get? D=some (seqObj "list" out.toArray ep')→Pp (.done (.ret .none)) s':=fun {s' out ep'} ro q1 q2 q3 =>
      h μ3 s' out ep' (Stp.drop stA q1 fun a ha=>by
        rcases List.mem_cons.mp ha with rfl | ha
        · exact .inl (by simp)
        · rw [List.mem_singleton.mp ha]; exact .inr dead) q2 (q1.vrs ro) q3 hDμ3
    have rv3:=st3.vrs rv2
    unfold ksk_end
    try dsimp only
    simp only [Bool.false_eq_true,if_false]
    by_cases h2:vals.toArray.size < 2
    · rw [if_pos h2,if_pos h2]
      rw [List.size_toArray] at h2
      refine wpAny_bind (wpAny_pure ?_)
      rw [StateT.run_pure]
      refine wpAny_bind (wpAny_pure ?_)
      try dsimp only
      have hys:ys=xs:=by
        unfold sortK at ho
        rw [decide_eq_true (by omega)] at ho
        exact (Option.some.inj ho).symm
      refine tail_run (st:=SortSt.mk' general' (kA.toArray.zip vals.toArray) #[] 7 none) (out:=vals.toArray) B O3 hS3 hD3 (Nat.ne_of_lt (Nat.lt_succ_of_lt hDlt)) hSμ3 hDμ3 s0 d0 (by rw [List.size_toArray]; omega) ?_ (by rw [List.size_toArray]; omega) rfl fun s' ep' q1 q2 q3=>last (hys ▸ rv3) q1 q2 q3
      show (kA.toArray.zip vals.toArray).map (·.2)=_
      apply Array.toList_inj.mp
      rw [Array.toList_map,ksk_zip]
      rw [← List.unzip_snd,List.unzip_zip (by simp; omega)]
    · rw [if_neg h2,if_neg h2]
      rw [List.size_toArray] at h2
      unfold sortK at ho
      rw [decide_eq_false (by omega)] at ho
      refine exA (Option.bind_eq_some_iff.mp ho) fun pp ho1 ho2=>?_
      refine wpAny_bind (kas_kind (T:=Value.type "list") (by omega) (fun v hv=>?_) rfl rfl ?_)
      · obtain ⟨i,hi,rfl⟩:=List.getElem_of_mem hv
        refine hid fun GG kk=>?_
        obtain ⟨a,l,m,e',ho',_⟩:=hkeys i _ (List.getElem?_eq_getElem hi)
        refine kk ?_
        clear kk GG
        rw [e']
        exact fun A Q E s k q=>wpAny_typeOf_ref (k _ _ ho') q
      have z1:kA.toArray.size=xs.length:=by rw [List.size_toArray]; exact hkvl
      have z2:vals.toArray.size=xs.length:=by rw [List.size_toArray]; exact hvk
      have z3:(kA.toArray.zip vals.toArray).size=xs.length:=by rw [Array.size_zip,z1,z2,Nat.min_self]
      have est:SortSt.mk' oneType' (kA.toArray.zip vals.toArray) #[] 7 none=kas_st oneType' (kA.toArray.zip vals.toArray) (List.toArray (List.range xs.length)):=by
        have q:=kas_range (kA.toArray.zip vals.toArray)
        rw [z3] at q
        show SortSt.mk' oneType' (kA.toArray.zip vals.toArray) #[] 7 none=SortSt.mk' oneType' ((List.toArray (List.range xs.length)).map (kas_item (kA.toArray.zip vals.toArray))) #[] 7 none
        rw [q]
      have hu:A.units < cLine:=by have:=gA.2.2; omega
      have ask:(kas_sort xs.length).kasWp (kas_cmp P w A oneType' (kA.toArray.zip vals.toArray)) (fun q s'=>q=pp∧s'=s3) s3:=by
        refine kev_wp (lt:=fun i j=>ltKeys (keyAt ks i) (keyAt ks j)) (n:=xs.length) (fun i j C hi hj hC=>?_) _ ho1 ⟨rfl,rfl⟩
        unfold kas_cmp
        rw [item_eq z1 z2,item_eq z1 z2]
        have at1:∀ {i:Nat},i < xs.length→∃ (a:Addr) (l:List (Str × Tok)) (m:Nat),kA.toArray.getD i Value.none=.ref a∧s3.heap.get? a=some { cls:=.type "list",data:=.seq (strValues l).toArray m }∧keyAt ks i=l.map (·.1)∧l.length=4:=by
          intro i hi
          have hi':i < kA.length:=by omega
          refine hid fun GG kk=>?_
          obtain ⟨a,l,m,e',ho',hks⟩:=hkeys i _ (List.getElem?_eq_getElem hi')
          refine kk ?_
          clear kk GG
          refine ⟨a,l,m,?_,ho',by unfold keyAt; rw [hks],?_⟩
          · rw [← e']; simp [Array.getD,hi']
          · have:=List.all_eq_true.mp h4 _ (List.mem_of_getElem? hks)
            simpa using Nat.eq_of_beq_eq_true this
        refine hid fun GG kk=>?_
        obtain ⟨a,l,m,ea,oa,ka,la⟩:=at1 hi
        obtain ⟨a2,l2,m2,ea2,oa2,ka2,la2⟩:=at1 hj
        refine kk ?_
        clear kk GG
        rw [ea,ea2,keyLt'_oneType]
        refine keys_lt oa oa2 (by omega) hu ?_
        rw [← ka,← ka2]; exact hC
      have run:=kas_runs (E:=E) (Q:=fun _ st' s'=>∃ q:Array Nat,q.size=xs.length∧arrOf st'=q.map (kas_item (kA.toArray.zip vals.toArray))∧failedOf st'=none∧q=pp∧s'=s3) (by omega) h64 (fun p' st' s' a1 a2 a3 a4=>⟨p',a1,a2,a3,a4⟩) ask
      rw [← est] at run
      refine wpAny_bind (wpAny_mono run ?_ fun _ _ e=>e)
      rintro ⟨⟨⟩,st'⟩ s' ⟨q,hq,har,hf,rfl,rfl⟩
      dsimp only
      have hout:(arrOf st').map (·.2)=List.toArray (q.toList.map fun i=>vals.getD i Value.none):=by
        apply Array.toList_inj.mp
        rw [har,Array.map_map,Array.toList_map]
        refine List.map_congr_left fun i _=>?_
        show (kas_item (kA.toArray.zip vals.toArray) i).2=_
        rw [item_eq z1 z2]
        show vals.toArray.getD i Value.none=vals.getD i Value.none
        simp [Array.getD,List.getD_eq_getElem?_getD]
        by_cases hi:i < vals.length
        · simp [hi]
        · simp [hi,Nat.le_of_not_lt hi]
      refine tail_run B O3 hS3 hD3 (Nat.ne_of_lt (Nat.lt_succ_of_lt hDlt)) hSμ3 hDμ3 s0 d0 (by rw [z1]; exact h64) hout (by rw [List.size_toArray,List.length_map,Array.length_toList,hq]; exact h64) hf fun s'' ep' q1 q2 q3=>last (rv3.pickO ho2) q1 q2 q3
end
theorem readKeys_st {kvs:List V}:∀ {σ:St} {ks:List (List Str)} {σ':St},readKeys kvs σ=some (ks,σ')→σ'=σ:=by
  induction kvs with
  | nil=>exact fun e=>(Prod.mk.inj (Option.some.inj e)).2.symm
  | cons v kvs ih =>
    intro σ ks σ' e
    obtain ⟨j,xs,rfl,hx,e⟩:=onL_inv e
    refine of_bindE e fun ys hy e=>?_
    refine X.bindE e fun t σ1 e1 e=>?_
    cases e
    exact ih e1
section
variable {w:World} {h₀:Heap} {Z:Scr}
theorem E_sortBy {n:Nat} (hE:SndE w h₀ Z n) (B:Base w h₀ Z) {K e env μ σ s A} {e':Expr} {p:Str} {kp p0 q pos pos':Pos} {b:Expr} {scope:Scope} {c:CE} {pl:Pl} {key:CE} {v:V} {σ':St} (hk0:K "sorted"=some .globalImplicit) (hk:scope.kind=.function) (hsc:scOk K scope=true)
    (hlam:(q.line == lamPos.line && q.col == lamPos.col && !scope.isCoroutine && !scope.isGenerator)=true) (hx:Ex K e' c) (hpn:p="text") (hp:cPt (kinds scope) p=some pl) (hel:Ex (kinds scope) b key)
    (he:stepE (fs n) e (.sortBy (frees scope) c pl key) σ=some (v,σ')) (gA:GoodA (n+1) A) (O:Ok w h₀ Z K e env μ σ s) :
    Wp w h₀ Z A (eval (.Call (.Name "sorted" p0) [e'] [⟨some "key",.Lambda ⟨[],[⟨p,none,kp⟩],none,[],[],none,[]⟩ b scope q,pos⟩] pos') env) μ s σ' v:=by
  refine X.bindE he fun lv σ1 h1 he=>?_
  · obtain ⟨k,xs,rfl,hxs,he⟩:=onL_inv he
    refine hid fun GG kk=>?_
    refine X.guardE he fun hg he=>?_
    refine X.bindE he fun kvs σ2 h2 he=>?_
    refine X.bindE he fun ks σ3 h3 he=>?_
    refine X.guardE he fun h4 he=>?_
    refine of_bindE he fun ys h5 he=>?_
    refine kk ?_
    clear kk GG
    obtain ⟨rfl,rfl⟩:=newLst_some he
    obtain rfl:=readKeys_st h3
    simp only [Bool.and_eq_true,decide_eq_true_eq] at hg
    have hfn:e.fn=379:=Nat.eq_of_beq_eq_true hg.1
    simp only [Bool.and_eq_true,Bool.not_eq_true',beq_iff_eq] at hlam
    refine hid fun GG kk=>?_
    obtain ⟨⟨⟨hq1,hq2⟩,hco⟩,hgen⟩:=hlam
    refine kk ?_
    clear kk GG
    intro Q E h
    refine wpAny_Call_Name_kw (blt_name B O hk0 (v:=.builtin "sorted") (by decide +kernel) (by decide +kernel) ?_)
    refine PyProof.Rows.callWith_kw ?_ (by rw [starEach_of hx]; rfl) (by rw [starEach_of hx]; rfl)
    rw [starEach_of hx]
    refine Calls.spliced_cons (hE hx h1 gA.s O _ E fun μ1 s1 val st1 S1 r1=>Calls.spliced_nil ?_)
    have O1:=O.stp B st1 S1
    show wpAny _ _ (evalAll ((do let v ← eval _ env; standAt pos'; pure v)::[])) _ _ _
    refine wpAny_evalAll_cons (wpAny_bind ?_)
    refine lam_made B O1 hfn hsc hq1 hq2 fun f s2 st2 S2 L2 hf0=>?_
    refine wpAny_bind (wpAny_standAt (wpAny_pure ?_))
    refine wpAny_evalAll_nil ?_
    have O2:=O1.stp B st2 S2
    obtain ⟨a,rfl,ha⟩:=r1.lst_inv
    refine exA (S2.list hxs (.lst ha)) fun items l1 r2=>?_
    have hil:items.toList.length < 64:=by rw [← r2.length]; exact hg.2
    have hl:s2.heap.IsList a items.toList.toArray:=by rw [Array.toArray_toList]; exact l1.isList
    show wpAny (model P w) A (call (.builtin "sorted") [.ref a] [(Str.ofString "key",.ref f)]) Q E s2
    refine call_function_entry_kw kind_sorted plain_sorted entry_sorted (ksk_s1 _ _) ?_
    unfold Builtin.«sorted»
    refine wpAny_bind (m:=checkCount "sorted" 1 1 _) (wpAny_pure ?_)
    refine wpAny_bind (collect_list hl ?_ (by rw [sizeLine_eq]; omega))
    refine wpAny_bind (wpAny_newList ?_ (by rw [sizeLine_eq]; omega))
    have hsz:((s2.heap.push (seqObj "list" #[] 0)).update s2.heap.objs.size (Obj.mapSeq (·++items.toList.toArray))).objs.size=s2.heap.objs.size+1:=by
      rw [Heap.size_update,size_push']
    have hoL:(((s2.heap.push (seqObj "list" #[] 0)).update s2.heap.objs.size (Obj.mapSeq (·++items.toList.toArray))).push (seqObj "list" items.toList.toArray 0)).get? (s2.heap.objs.size+1)=some (seqObj "list" items.toList.toArray 0):=by
      rw [← hsz]; exact Heap.get?_push_size _ rfl
    have keep:∀ b o,s2.heap.get? b=some o→(((s2.heap.push (seqObj "list" #[] 0)).update s2.heap.objs.size (Obj.mapSeq (·++items.toList.toArray))).push (seqObj "list" items.toList.toArray 0)).get? b=some o:=fun b o q=>by
      have hlt:b < s2.heap.objs.size:=Heap.lt_size q
      rw [Heap.get?_push_ne _ _ _ (by rw [hsz]; exact Nat.ne_of_lt (Nat.lt_succ_of_lt hlt)),Heap.get?_update_ne _ _ _ _ (Nat.ne_of_lt hlt),Heap.get?_push_ne _ _ _ (Nat.ne_of_lt hlt)]
      exact q
    show wpAny _ _ _ _ _ { s2 with heap:=((s2.heap.push (seqObj "list" #[] 0)).update s2.heap.objs.size (Obj.mapSeq (·++items.toList.toArray))).push (seqObj "list" items.toList.toArray 0) }
    rw [hsz]
    refine wpAny_bind (wpAny_holding (wpAny_call_entry_kw slot_list_sort ⟨_,hoL,rfl⟩ entry_list_sort ?body (ksk_l1 _ _)))
    case body =>
      have dead:s2.heap.get? (s2.heap.objs.size+1)=none:=Heap.get?_none_of_le (Nat.le_succ _)
      have st3:Stp h₀ [] μ1 s2 μ1 { s2 with heap:=((s2.heap.push (seqObj "list" #[] 0)).update s2.heap.objs.size (Obj.mapSeq (·++items.toList.toArray))).push (seqObj "list" items.toList.toArray 0) }:=Stp.ext keep rfl rfl
      have O3:=O2.stp B st3 (S2.ext keep)
      show wpAny (model P w) A.in1.in1 (Builtin.«list.sort» ⟨[.ref (s2.heap.objs.size+1)],[(Str.ofString "key",.ref f)]⟩) _ _ _
      rw [ksk_t1]
      have gB:GoodB n A.in1.in1:=⟨gA.1,by show A.depth+2 * n+1 < 990; have:=gA.2.1; omega,by show A.units+1+1+16 * n+203 < cLine; have:=gA.2.2; omega⟩
      refine sort_tree hE B hk hsc hco hgen hpn hp hel gB h2 h3 h4 h5 O3 (L2.stp O2.now st3 (by simp)) (st3.vrs r2) hg.2 hoL (fun q=>by obtain ⟨o,e'⟩:=O2.now.sim.fresh _ q; rw [dead] at e'; cases e') (O2.now.inv.fresh dead) fun μ' s' out ep' st' S' r' hD' hDμ'=>?_
      refine ⟨_,rfl,wpAny_pure ⟨_,rfl,?_⟩⟩
      have stA:Stp h₀ [] μ1 s2 μ' s':=Stp.drop st3 st' fun x hx=>by rw [List.mem_singleton.mp hx]; exact .inr dead
      have stB:=(st1.trans st2).trans stA
      have dead0:s.heap.get? (s2.heap.objs.size+1)=none:=(st1.trans st2).dead dead
      refine h (μ'++[s2.heap.objs.size+1]) s' _ (stB.addμ dead0) (S'.snocN (fun _ _ e=>e) hDμ' (O2.now.inv.fresh dead) (c:=.lst ys) ⟨out.toArray,⟨ep',hD'⟩,by simpa using r'.more⟩) (.lst ?_)
      rw [← S'.len]; simp
end
section
variable {w:World} {h₀:Heap} {Z:Scr}
theorem name_cp {K:Str→Option NameKind} {x:Str} {p:Pos} {c:CE} (h:cName K x=some c):cpE 1 K (.Name x p)=some c:=by
  show Bool.casesOn (motive:=fun _=>Option CE) (!(x == ("__debug__":Str))) none (cName K x)=some c
  rw [beq_ne (cName_ne h (by decide +kernel) (by decide +kernel))]
  exact h
theorem SndE_step {n:Nat} (hE:∀ m,m≤n→SndE w h₀ Z m) (hT:∀ m,m≤n→SndT w h₀ Z m) (hS:SndS w h₀ Z n) (hC:SndC w h₀ Z n) (B:Base w h₀ Z):SndE w h₀ Z (n+1):=by
  intro K e env μ σ s A x c v σ' hx he g O
  have he:stepE (fs n) e c σ=some (v,σ'):=he
  have g':=g.s
  have hE0:SndE w h₀ Z n:=hE n (Nat.le_refl _)
  have hT0:SndT w h₀ Z n:=hT n (Nat.le_refl _)
  replace hx:=hx.inv
  induction hx with
  | none=>exact E_const B O he fun Q E h=>wpAny_Constant_none (h .none s.toks .none)
  | bool=>exact E_const B O he fun Q E h=>wpAny_Constant_bool (h _ s.toks (.bool _))
  | int=>exact E_const B O he fun Q E h=>wpAny_Constant_int (h _ (s.toks+1) (.int _ _))
  | str=>exact E_const B O he fun Q E h=>wpAny_Constant_str (h _ (s.toks+1) (.str _ _))
  | name hc=>exact E_name B hc he O
  | list hx=>exact E_list hE0 B hx he g' O
  | tuple hx=>exact E_tuple hE0 B hx he g' O
  | bin ho hl hr=>exact E_bin hE0 B ho hl hr he g' O
  | neg hx=>exact E_neg hE0 B hx he g' O
  | not=>exact nS he
  | cmp hm ho hl hr=>exact E_cmp hE0 B hm ho hl hr he g' O
  | and=>exact nS he
  | or hx hy=>exact E_or hE0 B hx hy he g' O
  | ite ht hx hy=>exact E_ite hE0 hT0 B ht hx hy he g' O
  | attr hx=>exact E_attr hE0 B hx he g' O
  | rev hx=>exact E_rev hE0 B hx he g' O
  | slice ho hl hh=>exact E_slice hE0 B ho hl hh he g' O
  | item ho hi=>exact E_item hE0 B ho hi he g' O
  | comp hk hsc hel hg hgs=>exact E_comp hE hT B hk hsc hel hg hgs he g' O
  | meth hm hl hx ha hk=>exact E_meth hE0 hC B hm hl hx ha hk he g' O
  | newH hk=>exact E_newH hE0 hT0 hS B hk he g O
  | sortBy hk0 hk hsc hl hx hpn hp hel=>exact E_sortBy hE0 B hk0 hk hsc hl hx hpn hp hel he g O
  | lenSet hk1 hk2 hx=>exact E_lenSet hE0 B hk1 hk2 hx he g' O
  | call hf ha hk=>exact E_call hE0 hC B hf ha hk he ⟨1,name_cp hf⟩ g' O
theorem snd0:SndE w h₀ Z 0∧SndT w h₀ Z 0∧SndS w h₀ Z 0∧SndC w h₀ Z 0:=by
  refine ⟨?_,?_,?_,?_⟩
  · intro K e env μ σ s A x c v σ' hx he; exact nS he
  · intro K e env μ σ s A x c v σ' hx he; exact nS he
  · intro K e env μ σ s A x c v e' σ' hx he; exact nS he
  · intro μ σ s A a args kw v σ' vals kvs he; exact nS he
theorem snds (B:Base w h₀ Z):∀ n m:Nat,m≤n→SndE w h₀ Z m∧SndT w h₀ Z m∧SndS w h₀ Z m∧SndC w h₀ Z m
  | 0,m,hm=>by obtain rfl:=Nat.le_zero.mp hm; exact snd0
  | n+1,m,hm=>by
    have ih:=snds B n
    rcases Nat.lt_or_ge m (n+1) with q | q
    · exact ih m (Nat.le_of_lt_succ q)
    · obtain rfl:=Nat.le_antisymm hm q
      have hE:∀ m,m≤n→SndE w h₀ Z m:=fun m hm=>(ih m hm).1
      have hT:∀ m,m≤n→SndT w h₀ Z m:=fun m hm=>(ih m hm).2.1
      have hS:∀ m,m≤n→SndS w h₀ Z m:=fun m hm=>(ih m hm).2.2.1
      have hC:SndC w h₀ Z n:=(ih n (Nat.le_refl _)).2.2.2
      exact ⟨SndE_step hE hT (hS n (Nat.le_refl _)) hC B,SndT_step (hE n (Nat.le_refl _)) (hT n (Nat.le_refl _)) B,SndS_step hE hT hS B,SndC_of (hS n (Nat.le_refl _)) B (runs B)⟩
end
theorem WF.code0 {w:World} {h:Heap} (W:WF w h):h.get? 378=some { cls:=.type "code",data:=.fields co378 }∧h.get? 376=some { cls:=.none,data:=.fields #[] } :=
  ⟨W.objs _ _ (mem_pick (i:=51) rfl),W.objs _ _ (mem_pick (i:=65) rfl)⟩
theorem WF.tab0 {w:World} {h:Heap} (W:WF w h):h.IsCode 378 376 #[]∧h.TableAt 378 376 #[]:=by
  obtain ⟨a,b⟩:=W.code0
  exact ⟨⟨_,_,_,_,_,_,_,_,_,_,a,rfl,rfl,rfl,rfl,rfl,rfl,b,rfl,trivial,by decide⟩,⟨_,_,a,rfl,rfl,rfl⟩,b⟩
theorem lawRuns_of (N:Nat) (hN:N≤340) (H:∀ xs:List Int,xs.length≤63→∃ σ,(fs N).C 389 [.scr xs] [] []=some (.bool true,σ)):LawRuns:=by
  intro w s l vs xs W hg hl hi hlen hlow
  refine hid fun GG kk=>?_
  obtain ⟨σ,he⟩:=H xs hlen
  obtain ⟨hc,ht⟩:=W.tab0
  obtain ⟨c0,t0⟩:=W.code0
  refine kk ?_
  clear kk GG
  have hi':IntsAre vs.toArray.toList xs:=by simpa using hi
  have B:Base w s.heap ⟨l,xs⟩:=⟨W,⟨_,t0⟩,⟨_,c0⟩,⟨_,hl,hi'⟩,hlow,hlen⟩
  have gA:GoodA N callerA:=⟨rfl,by show 301+2 * N < 990; omega,by show 4+16 * N+200 < 9900; omega⟩
  have S:Sim ⟨l,xs⟩ s.heap [] [] s.heap:=⟨rfl,List.nodup_nil,fun a h=>by simp at h,fun k xs h=>by simp at h,fun k v h=>by simp at h,fun k h=>by simp at h⟩
  have I:Inv s.heap s.heap:=⟨fun b o e _=>e,#[],hc,ht,.inl rfl⟩
  refine (snds B N N (Nat.le_refl _)).2.2.2 he gA ⟨S,I⟩ (.cons .scr .nil) .nil _ _ fun μ' s' val st S' r=>?_
  refine ⟨by cases r; rfl,⟨fun b o e=>?_,fun b o e=>st.live b o (by simp) e⟩,st.os,st.gens.trans hg⟩
  by_cases hb:b=376
  · subst hb
    obtain rfl:=Option.some.inj (t0.symm.trans e)
    obtain ⟨ps,_,hT,_⟩:=(st.inv I).tab
    exact .inr (.inl ⟨ht.isCodeTable,rfl,#[],ps,rfl,by simpa using hT.2⟩)
  · exact .inl (st.keep b o e (by simp) (by simp) hb)
noncomputable def Ext (σ σ':St):Prop:=∃ τ,σ'=σ++τ
theorem Ext.refl (σ:St):Ext σ σ:=⟨[],by simp⟩
theorem Ext.trans {a b c:St} (x:Ext a b) (y:Ext b c):Ext a c:=by
  obtain ⟨s,rfl⟩:=x; obtain ⟨t,rfl⟩:=y; exact ⟨s++t,by simp⟩
theorem Ext.snoc {a b:St} (x:Ext a b) (l:St):Ext a (b++l):=x.trans ⟨l,rfl⟩
theorem Ext.at {a b:St} (x:Ext a b) {k:Nat} {c:Cl} (h:a[k]?=some c):b[k]?=some c:=by
  obtain ⟨t,rfl⟩:=x
  have:=(List.getElem?_eq_some_iff.mp h).1
  rw [List.getElem?_append_left this]; exact h
theorem Ext.le {a b:St} (x:Ext a b):a.length≤b.length:=by
  obtain ⟨t,rfl⟩:=x; simp
theorem Ext.set {a b:St} (x:Ext a b) {k:Nat} (h:a.length≤k) (c:Cl):Ext a (b.set k c):=by
  obtain ⟨t,rfl⟩:=x
  exact ⟨t.set (k - a.length) c,by rw [List.set_append,if_neg (by omega)]⟩
theorem getLst_at {σ:St} {k:Nat} {xs:List V} (h:σ[k]?=some (.lst xs)):getLst k σ=some (xs,σ):=congrArg (fun o=>(clL o).map fun xs=>(xs,σ)) h
theorem getIns_at {σ:St} {k:Nat} {v:V} (h:σ[k]?=some (.ins v)):getIns k σ=some (v,σ):=congrArg (fun o=>(clI o).map fun xs=>(xs,σ)) h
theorem setLst_at {σ:St} {k:Nat} {xs ys:List V} (h:σ[k]?=some (.lst ys)):setLst k xs σ=some ((),σ.set k (.lst xs)):=congrArg (fun o=>(clL o).map fun _=>((),σ.set k (.lst xs))) h
section
variable {α β:Type} {σ σ1 σ2 σ3 σ4:St}
theorem bnd {m:X α} {f:α→X β} {a:α} {r:Option (β × St)} (h:m σ=some (a,σ1)) (k:f a σ1=r):X.bind m f σ=r:=by
  unfold X.bind
  rw [h]; exact k
theorem grd {b:Bool} {m:X α} {r:Option (α × St)} (h:b=true) (k:m σ=r):X.guard b m σ=r:=by rw [h]; exact k
theorem ofB {o:Option α} {f:α→X β} {a:α} {r:Option (β × St)} (h:o=some a) (k:f a σ=r):X.bind (X.of o) f σ=r:=by rw [h]; exact k
variable {n:Nat} {e e1:EE} {l c:List (Nat × V)} {f x y:Nat} {v u v1 v2:V} {a b d:CE} {r:Option (V × St)} {t:Option (Bool × St)} {q:Option ((Fl × EE) × St)} {p:Pl} {vs ws:List V} {cs ds:List CE} {ks:List (Nat × CE)} {kw:List (Nat × V)} {bb:Bool}
theorem big_of {n:Nat} (h:n≤4096):big n=true:=decide_eq_true h
theorem lk_hit {r:List (Nat × V)}:lk ((x,v)::r) x=some v:=lk_cons_self x v r
theorem lk_miss {r:List (Nat × V)} {o:Option V} (h:Nat.beq y x=false) (k:lk r x=o):lk ((y,v)::r) x=o:=by
  unfold lk
  rw [h]; exact k
theorem rLit:(fs (n+1)).E e (.lit v) σ=some (v,σ):=rfl
theorem rLoc (h:lk e.loc x=some v):(fs (n+1)).E e (.var (.loc x)) σ=some (v,σ):=congrArg (fun o=>X.of o σ) h
theorem rCel (h:lk e.cel x=some v):(fs (n+1)).E e (.var (.cel x)) σ=some (v,σ):=congrArg (fun o=>X.of o σ) h
theorem rLst (h:evs ((fs n).E e) cs σ=some (vs,σ1)) (k:vs.length≤4096):(fs (n+1)).E e (.lst cs) σ=some (.lst σ1.length,σ1++[.lst vs]):=bnd h (grd (big_of k) rfl)
theorem rTup (h:evs ((fs n).E e) cs σ=some (vs,σ1)) (k:vs.length≤4096):(fs (n+1)).E e (.tup cs) σ=some (.tup vs,σ1):=bnd h (grd (big_of k) rfl)
theorem rBin {op:BOp} (h1:(fs n).E e a σ=some (v,σ1)) (h2:(fs n).E e b σ1=some (u,σ2)) (k:binV op v u σ2=r):(fs (n+1)).E e (.bin op a b) σ=r:=bnd h1 (bnd h2 k)
theorem rNeg {i:Int} (h1:(fs n).E e a σ=some (.int i,σ1)):(fs (n+1)).E e (.neg a) σ=some (.int (-i),σ1):=bnd h1 rfl
theorem rCmp {op:COp} (h1:(fs n).E e a σ=some (v,σ1)) (h2:(fs n).E e b σ1=some (u,σ2)) (k:cmpV op v u σ2=r):(fs (n+1)).E e (.cmp op a b) σ=r:=bnd h1 (bnd h2 k)
theorem tfT {m m':X α} {r:Option (α × St)} (k:m σ=r):tf m m' true σ=r:=k
theorem tfF {m m':X α} {r:Option (α × St)} (k:m' σ=r):tf m m' false σ=r:=k
theorem tfT' {m m':X α} {b:Bool} {r:Option (α × St)} (h:b=true) (k:m σ=r):tf m m' b σ=r:=by rw [h]; exact k
theorem tfF' {m m':X α} {b:Bool} {r:Option (α × St)} (h:b=false) (k:m' σ=r):tf m m' b σ=r:=by rw [h]; exact k
theorem rOr (h1:(fs n).E e a σ=some (v,σ1)) (h2:truth v σ1=some (bb,σ2)) (k:tf (X.pure v) ((fs n).E e b) bb σ2=r):(fs (n+1)).E e (.or a b) σ=r:=bnd h1 (bnd h2 k)
theorem rIte (h1:(fs n).T e a σ=some (bb,σ1)) (k:tf ((fs n).E e b) ((fs n).E e d) bb σ1=r):(fs (n+1)).E e (.ite a b d) σ=r:=bnd h1 k
theorem rCall (h1:(fs n).E e a σ=some (v,σ1)) (h2:evs ((fs n).E e) cs σ1=some (vs,σ2)) (h3:evKw ((fs n).E e) ks σ2=some (kw,σ3)) (k:callV (fs n) v vs kw σ3=r):(fs (n+1)).E e (.call a cs ks) σ=r:=bnd h1 (bnd h2 (bnd h3 k))
theorem rMeth {m:Mth} (h0:decide (cs.length+ks.length < 20)=true) (h1:(fs n).E e a σ=some (v,σ1)) (h4:rcv m v σ1=some ((),σ1)) (h2:evs ((fs n).E e) cs σ1=some (vs,σ2)) (h3:evKw ((fs n).E e) ks σ2=some (kw,σ3)) (k:methV (fs n) m v vs kw σ3=r):(fs (n+1)).E e (.meth a m cs ks) σ=r:=grd h0 (bnd h1 (bnd h4 (bnd h2 (bnd h3 k))))
theorem rAttr {i:Nat} (h1:(fs n).E e a σ=some (.ins i,σ1)) (h2:σ1[i]?=some (.ins v)):(fs (n+1)).E e (.attr a) σ=some (v,σ1):=bnd h1 (getIns_at h2)
theorem rItem (h1:(fs n).E e a σ=some (v,σ1)) (h2:(fs n).E e b σ1=some (u,σ2)) (k:itemV v u σ2=r):(fs (n+1)).E e (.item a b) σ=r:=bnd h1 (bnd h2 k)
theorem rSlice {lo hi:Option CE} {vl vh:Option V} (h1:(fs n).E e a σ=some (v,σ1)) (h2:evO ((fs n).E e) lo σ1=some (vl,σ2)) (h3:evO ((fs n).E e) hi σ2=some (vh,σ3)) (k:sliceV v vl vh σ3=r):(fs (n+1)).E e (.slice a lo hi) σ=r:=bnd h1 (bnd h2 (bnd h3 k))
theorem rRev (h1:(fs n).E e a σ=some (v,σ1)) (k:revV v σ1=r):(fs (n+1)).E e (.rev a) σ=r:=bnd h1 k
theorem oNone {E:CE→X V}:evO E none σ=some (none,σ):=rfl
theorem oSome {E:CE→X V} (h:E a σ=some (v,σ1)):evO E (some a) σ=some (some v,σ1):=bnd h rfl
theorem eNil {E:CE→X V}:evs E [] σ=some ([],σ):=rfl
theorem eCons {E:CE→X V} (h:E a σ=some (v,σ1)) (k:evs E cs σ1=some (vs,σ2)):evs E (a::cs) σ=some (v::vs,σ2):=bnd h (bnd k rfl)
theorem kNil {E:CE→X V}:evKw E [] σ=some ([],σ):=rfl
theorem kCons {E:CE→X V} (h:E a σ=some (v,σ1)) (k:evKw E ks σ1=some (kw,σ2)):evKw E ((x,a)::ks) σ=some ((x,v)::kw,σ2):=bnd h (bnd k rfl)
theorem cGlob {g:Fs} {i:Addr} (k:g.C i vs kw σ=r):callV g (.glob i) vs kw σ=r:=k
theorem cBi {g:Fs} {i:Bi} (k:callB i vs σ=r):callV g (.bi i) vs [] σ=r:=k
theorem cTy {g:Fs} {i:Ty} (k:callT i vs σ=r):callV g (.ty i) vs [] σ=r:=k
theorem mBi {g:Fs} {i:Bi} (k:callB i (v::vs) σ=r):methV g (.bi i) v vs [] σ=r:=k
theorem mGet {g:Fs} {i:Nat} (k:g.C 228 (.ins i::vs) kw σ=r):methV g .get_all (.ins i) vs kw σ=r:=k
theorem mAdd {g:Fs} {i:Nat} (k:g.C 286 (.ins i::vs) kw σ=r):methV g .add_header (.ins i) vs kw σ=r:=k
theorem mConv {g:Fs} {i:Nat} (k:g.C 190 (.ins i::vs) kw σ=r):methV g .conv (.ins i) vs kw σ=r:=k
theorem rcvL {i:Nat} (h:σ[i]?=some (.lst vs)):rL (.lst i) σ=some ((),σ):=bnd (getLst_at h) rfl
theorem rcvI {i:Nat} (h:σ[i]?=some (.ins v)):insR (.ins i) σ=some ((),σ):=bnd (getIns_at h) rfl
theorem truth_b:truth (.bool bb) σ=some (bb,σ):=rfl
theorem truth_n:truth .none σ=some (false,σ):=rfl
theorem tCmp {op:COp} (h:(fs n).E e (.cmp op a b) σ=some (v,σ1)) (k:truth v σ1=t):(fs (n+1)).T e (.cmp op a b) σ=t:=bnd h k
theorem tVar (h:(fs n).E e (.var p) σ=some (v,σ1)) (k:truth v σ1=t):(fs (n+1)).T e (.var p) σ=t:=bnd h k
theorem tCall (h:(fs n).E e (.call a cs ks) σ=some (v,σ1)) (k:truth v σ1=t):(fs (n+1)).T e (.call a cs ks) σ=t:=bnd h k
theorem tMeth {m:Mth} (h:(fs n).E e (.meth a m cs ks) σ=some (v,σ1)) (k:truth v σ1=t):(fs (n+1)).T e (.meth a m cs ks) σ=t:=bnd h k
theorem tNot (h:(fs n).T e a σ=some (bb,σ1)):(fs (n+1)).T e (.not a) σ=some (!bb,σ1):=bnd h rfl
theorem tAnd2 {b2:Bool} (h:(fs n).T e a σ=some (bb,σ1)) (k:tf ((fs n).T e b) (X.pure false) bb σ1=some (b2,σ2)):(fs (n+1)).T e (.and (some a) (some b) none) σ=some (b2,σ2):=bnd h (by
  induction bb with
  | false=>exact k
  | true=>exact bnd (m:=(fs n).T e b) k (by cases b2 <;> rfl))
theorem tAnd3 {b2:Bool} (h:(fs n).T e a σ=some (bb,σ1)) (k:tf ((fs n).T e b) (X.pure false) bb σ1=some (b2,σ2)) (k3:tf ((fs n).T e d) (X.pure false) b2 σ2=t):(fs (n+1)).T e (.and (some a) (some b) (some d)) σ=t:=bnd h (by
  induction bb with
  | false=>cases k; exact k3
  | true=>exact bnd (m:=(fs n).T e b) k k3)
theorem aNil {T:CE→X Bool}:allT T [] σ=some (true,σ):=rfl
theorem aCons {T:CE→X Bool} (h:T a σ=some (bb,σ1)) (k:tf (allT T cs) (X.pure false) bb σ1=t):allT T (a::cs) σ=t:=bnd h (by cases bb <;> exact k)
theorem aOne {T:CE→X Bool} (h:T a σ=some (bb,σ1)):allT T [a] σ=some (bb,σ1):=bnd h (by cases bb <;> rfl)
theorem sAsgL (h:(fs n).E ⟨l,c,f⟩ a σ=some (v,σ1)):(fs (n+1)).S ⟨l,c,f⟩ (.assign (.nm (.loc x)) a) σ=some ((.next,⟨(x,v)::l,c,f⟩),σ1):=bnd h rfl
theorem sAsgC (h:(fs n).E ⟨l,c,f⟩ a σ=some (v,σ1)):(fs (n+1)).S ⟨l,c,f⟩ (.assign (.nm (.cel x)) a) σ=some ((.next,⟨l,(x,v)::c,f⟩),σ1):=bnd h rfl
theorem sAsgT {ps:List Pl} (h:(fs n).E e a σ=some (.tup vs,σ1)) (k:EE.setAll e ps vs=some e1):(fs (n+1)).S e (.assign (.tup ps) a) σ=some ((.next,e1),σ1):=bnd h (ofB (o:=assignT e (.tup ps) (.tup vs)) k rfl)
theorem sAsgLL (h:(fs n).E ⟨l,c,f⟩ a σ=some (.tup [v,u],σ1)):(fs (n+1)).S ⟨l,c,f⟩ (.assign (.tup [.loc x,.loc y]) a) σ=some ((.next,⟨(y,u)::(x,v)::l,c,f⟩),σ1):=sAsgT h rfl
theorem sAsgCL (h:(fs n).E ⟨l,c,f⟩ a σ=some (.tup [v,u],σ1)):(fs (n+1)).S ⟨l,c,f⟩ (.assign (.tup [.cel x,.loc y]) a) σ=some ((.next,⟨(y,u)::l,(x,v)::c,f⟩),σ1):=sAsgT h rfl
theorem sAsgLC (h:(fs n).E ⟨l,c,f⟩ a σ=some (.tup [v,u],σ1)):(fs (n+1)).S ⟨l,c,f⟩ (.assign (.tup [.loc x,.cel y]) a) σ=some ((.next,⟨(x,v)::l,(y,u)::c,f⟩),σ1):=sAsgT h rfl
theorem sAsgLLL {z:Nat} {w:V} (h:(fs n).E ⟨l,c,f⟩ a σ=some (.tup [v,u,w],σ1)):(fs (n+1)).S ⟨l,c,f⟩ (.assign (.tup [.loc x,.loc y,.loc z]) a) σ=some ((.next,⟨(z,w)::(y,u)::(x,v)::l,c,f⟩),σ1):=sAsgT h rfl
theorem sAug {i j:Int} (h0:lk l x=some (.int i)) (h:(fs n).E ⟨l,c,f⟩ a σ=some (.int j,σ1)):(fs (n+1)).S ⟨l,c,f⟩ (.aug x a) σ=some ((.next,⟨(x,.int (i+j))::l,c,f⟩),σ1):=ofB (o:=lk l x) h0 (bnd h rfl)
theorem sExpr (h:(fs n).E e a σ=some (.none,σ1)):(fs (n+1)).S e (.expr a) σ=some ((.next,e),σ1):=bnd h rfl
theorem sRet (h:(fs n).E e a σ=some (v,σ1)):(fs (n+1)).S e (.ret a) σ=some ((.ret v,e),σ1):=bnd h rfl
variable {ss ss':List CS} {s:CS} {fl:Fl} {e2:EE}
theorem sIfs (h:(fs n).T e a σ=some (bb,σ1)) (k:tf (execsV (fs n).S e ss) (execsV (fs n).S e ss') bb σ1=q):(fs (n+1)).S e (.ifs a ss ss') σ=q:=bnd h k
theorem sWhil (k:(fs n).W e a ss σ=q):(fs (n+1)).S e (.whil a ss) σ=q:=k
theorem sFor {tg:Tg} {it:It} {src:Src} (h:evIt ((fs n).E e) it σ=some (src,σ1)) (k:(fs n).L e tg src ss σ1=q):(fs (n+1)).S e (.for tg it ss) σ=q:=bnd h k
theorem sAssert (h:(fs n).T e a σ=some (true,σ1)):(fs (n+1)).S e (.assert a) σ=some ((.next,e),σ1):=bnd h rfl
theorem xNil {S:EE→CS→X (Fl × EE)}:execsV S e [] σ=some ((.next,e),σ):=rfl
theorem xCons {S:EE→CS→X (Fl × EE)} (h:S e s σ=some ((fl,e1),σ1)) (k:fl.el (execsV S e1 ss) (fun v=>X.pure (.ret v,e1)) σ1=q):execsV S e (s::ss) σ=q:=bnd h k
theorem elN {m:X β} {g:V→X β} {r:Option (β × St)} (k:m σ=r):Fl.next.el m g σ=r:=k
theorem elR {m:X β} {g:V→X β} {r:Option (β × St)} (k:g v σ=r):(Fl.ret v).el m g σ=r:=k
theorem pur {v:β}:(X.pure v:X β) σ=some (v,σ):=rfl
theorem cRun {i:Addr} {fn:Fn} {l c:List (Nat × V)} (hf:fnAt i=some fn) (hb:fn.bind vs kw σ=some (⟨l,c,0⟩,σ1)) (h:execsV (fs n).S ⟨l,c,i⟩ fn.body σ1=some ((fl,e1),σ2)) (k:fl.el (X.pure .none) X.pure σ2=r):(fs (n+1)).C i vs kw σ=r:=ofB hf (bnd hb (bnd h k))
theorem wStep (h:(fs n).T e a σ=some (bb,σ1)) (k:tf (X.bind (execsV (fs n).S e ss) fun x=>x.1.el ((fs n).W x.2 a ss) fun v=>X.pure (.ret v,x.2)) (X.pure (.next,e)) bb σ1=q):(fs (n+1)).W e a ss σ=q:=bnd h k
theorem wBody (h:execsV (fs n).S e ss σ=some ((fl,e1),σ1)) (k:fl.el ((fs n).W e1 a ss) (fun v=>X.pure (.ret v,e1)) σ1=q):X.bind (execsV (fs n).S e ss) (fun x=>x.1.el ((fs n).W x.2 a ss) fun v=>X.pure (.ret v,x.2)) σ=q:=bnd h k
variable {E:CE→X V}
theorem iLst {i:Nat} {xs:List V} (h:E a σ=some (.lst i,σ1)) (g:σ1[i]?=some (.lst xs)):evIt E (.of a) σ=some (.lst i 0,σ1):=bnd h (bnd (getLst_at g) rfl)
theorem iStr {w:Str} (h:E a σ=some (.str w,σ1)):evIt E (.of a) σ=some (.str w.cps.toList,σ1):=bnd h rfl
theorem iRng {src:Src} (h:evs E cs σ=some (vs,σ1)) (k:rngF vs σ1=some (src,σ2)):evIt E (.range cs) σ=some (src,σ2):=bnd h k
theorem iEnum {i:Nat} {xs:List V} (h:E a σ=some (.lst i,σ1)) (g:σ1[i]?=some (.lst xs)):evIt E (.enum a) σ=some (.enumL 0 i,σ1):=bnd h (bnd (getLst_at g) rfl)
theorem rng1 {i:Int} {ns:List Int} (h:rangeOf 0 i 1=some ns):rngF [.int i] σ=some (.rng ns,σ):=ofB h rfl
theorem rng2 {i j:Int} {ns:List Int} (h:rangeOf i j 1=some ns):rngF [.int i,.int j] σ=some (.rng ns,σ):=ofB h rfl
theorem rng3' {i j k:Int} {ns:List Int} (h:rangeOf i j k=some ns):rngF [.int i,.int j,.int k] σ=some (.rng ns,σ):=ofB h rfl
variable {i j:Int} {w z:Str}
theorem add_int:binV .add (.int i) (.int j) σ=some (.int (i+j),σ):=rfl
theorem sub_int:binV .sub (.int i) (.int j) σ=some (.int (i - j),σ):=rfl
theorem mul_ap (h0:i.natAbs≤4096) (h1:j.natAbs≤4096):binV .mul (.int i) (.int j) σ=some (.int (i * j),σ):=grd (by rw [decide_eq_true h0,decide_eq_true h1]; rfl) rfl
theorem mod_int (h:0 < j):binV .mod (.int i) (.int j) σ=some (.int (i.fmod j),σ):=grd (decide_eq_true h) rfl
theorem fdiv_int (h:0 < j) (h1:j≤4096):binV .fdiv (.int i) (.int j) σ=some (.int (i.fdiv j),σ):=grd (by rw [decide_eq_true h,decide_eq_true h1]; rfl) rfl
theorem add_str (h:w.length+z.length≤4096):binV .add (.str w) (.str z) σ=some (.str (w++z),σ):=grd (big_of h) rfl
theorem lt_int:cmpV .lt (.int i) (.int j) σ=some (.bool (decide (i < j)),σ):=rfl
theorem gt_int:cmpV .gt (.int i) (.int j) σ=some (.bool (decide (j < i)),σ):=rfl
theorem ge_int:cmpV .ge (.int i) (.int j) σ=some (.bool (decide (j≤i)),σ):=rfl
theorem le_int:cmpV .le (.int i) (.int j) σ=some (.bool (decide (i≤j)),σ):=rfl
theorem is_ap {o:Bool} (h:isV v u=some o):cmpV .is v u σ=some (.bool o,σ):=congrArg (fun o=>boolV id (X.of o) σ) h
theorem isnot_ap {o:Bool} (h:isV v u=some o):cmpV .isnot v u σ=some (.bool !o,σ):=congrArg (fun o=>boolV not (X.of o) σ) h
end
@[reducible] noncomputable def F47:Fn:=⟨[2,4],[⟨(.loc 0),none⟩,⟨(.loc 1),none⟩,⟨(.loc 2),some (.int 0)⟩,⟨(.loc 3),some .none⟩],[(4,⟨(.loc 4),some .none⟩)],none,[
  .ifs (.cmp .is (.var (.loc 4)) (.lit .none))
   [
    .assign (.nm (.loc 2)) (.call (.lit (.glob 56)) [(.var (.loc 0)),(.var (.loc 1)),(.var (.loc 2)),(.var (.loc 3))] [])]
   [
    .assign (.nm (.loc 2)) (.call (.lit (.glob 56)) [(.var (.loc 0)),(.call (.var (.loc 4)) [(.var (.loc 1))] []),(.var (.loc 2)),(.var (.loc 3))] [(4,(.var (.loc 4)))])],
  .expr (.meth (.var (.loc 0)) (.bi .insert) [(.var (.loc 2)),(.var (.loc 1))] [])]⟩
@[reducible] noncomputable def L56_0 : List CS := [
      .assign (.nm (.loc 5)) (.bin .fdiv (.bin .add (.var (.loc 2)) (.var (.loc 3))) (.lit (.int 2))),
      .ifs (.cmp .lt (.var (.loc 1)) (.call (.var (.loc 4)) [(.item (.var (.loc 0)) (.var (.loc 5)))] []))
       [
        .assign (.nm (.loc 3)) (.var (.loc 5))]
       [
        .assign (.nm (.loc 2)) (.bin .add (.var (.loc 5)) (.lit (.int 1)))]]
@[reducible] noncomputable def L56_1 : List CS := [
      .assign (.nm (.loc 5)) (.bin .fdiv (.bin .add (.var (.loc 2)) (.var (.loc 3))) (.lit (.int 2))),
      .ifs (.cmp .lt (.var (.loc 1)) (.item (.var (.loc 0)) (.var (.loc 5))))
       [
        .assign (.nm (.loc 3)) (.var (.loc 5))]
       [
        .assign (.nm (.loc 2)) (.bin .add (.var (.loc 5)) (.lit (.int 1)))]]
@[reducible] noncomputable def F56:Fn:=⟨[2,4],[⟨(.loc 0),none⟩,⟨(.loc 1),none⟩,⟨(.loc 2),some (.int 0)⟩,⟨(.loc 3),some .none⟩],[(4,⟨(.loc 4),some .none⟩)],none,[
  .ifs (.cmp .lt (.var (.loc 2)) (.lit (.int 0)))
   [
    .raise]
   [],
  .ifs (.cmp .is (.var (.loc 3)) (.lit .none))
   [
    .assign (.nm (.loc 3)) (.call (.lit (.bi .len)) [(.var (.loc 0))] [])]
   [],
  .ifs (.cmp .is (.var (.loc 4)) (.lit .none))
   [
    .whil (.cmp .lt (.var (.loc 2)) (.var (.loc 3))) L56_1]
   [
    .whil (.cmp .lt (.var (.loc 2)) (.var (.loc 3))) L56_0],
  .ret (.var (.loc 2))]⟩
@[reducible] noncomputable def F65:Fn:=⟨[2,4],[⟨(.loc 0),none⟩,⟨(.loc 1),none⟩,⟨(.loc 2),some (.int 0)⟩,⟨(.loc 3),some .none⟩],[(4,⟨(.loc 4),some .none⟩)],none,[
  .ifs (.cmp .is (.var (.loc 4)) (.lit .none))
   [
    .assign (.nm (.loc 2)) (.call (.lit (.glob 74)) [(.var (.loc 0)),(.var (.loc 1)),(.var (.loc 2)),(.var (.loc 3))] [])]
   [
    .assign (.nm (.loc 2)) (.call (.lit (.glob 74)) [(.var (.loc 0)),(.call (.var (.loc 4)) [(.var (.loc 1))] []),(.var (.loc 2)),(.var (.loc 3))] [(4,(.var (.loc 4)))])],
  .expr (.meth (.var (.loc 0)) (.bi .insert) [(.var (.loc 2)),(.var (.loc 1))] [])]⟩
@[reducible] noncomputable def L74_0 : List CS := [
      .assign (.nm (.loc 5)) (.bin .fdiv (.bin .add (.var (.loc 2)) (.var (.loc 3))) (.lit (.int 2))),
      .ifs (.cmp .lt (.call (.var (.loc 4)) [(.item (.var (.loc 0)) (.var (.loc 5)))] []) (.var (.loc 1)))
       [
        .assign (.nm (.loc 2)) (.bin .add (.var (.loc 5)) (.lit (.int 1)))]
       [
        .assign (.nm (.loc 3)) (.var (.loc 5))]]
@[reducible] noncomputable def L74_1 : List CS := [
      .assign (.nm (.loc 5)) (.bin .fdiv (.bin .add (.var (.loc 2)) (.var (.loc 3))) (.lit (.int 2))),
      .ifs (.cmp .lt (.item (.var (.loc 0)) (.var (.loc 5))) (.var (.loc 1)))
       [
        .assign (.nm (.loc 2)) (.bin .add (.var (.loc 5)) (.lit (.int 1)))]
       [
        .assign (.nm (.loc 3)) (.var (.loc 5))]]
@[reducible] noncomputable def F74:Fn:=⟨[2,4],[⟨(.loc 0),none⟩,⟨(.loc 1),none⟩,⟨(.loc 2),some (.int 0)⟩,⟨(.loc 3),some .none⟩],[(4,⟨(.loc 4),some .none⟩)],none,[
  .ifs (.cmp .lt (.var (.loc 2)) (.lit (.int 0)))
   [
    .raise]
   [],
  .ifs (.cmp .is (.var (.loc 3)) (.lit .none))
   [
    .assign (.nm (.loc 3)) (.call (.lit (.bi .len)) [(.var (.loc 0))] [])]
   [],
  .ifs (.cmp .is (.var (.loc 4)) (.lit .none))
   [
    .whil (.cmp .lt (.var (.loc 2)) (.var (.loc 3))) L74_1]
   [
    .whil (.cmp .lt (.var (.loc 2)) (.var (.loc 3))) L74_0],
  .ret (.var (.loc 2))]⟩
@[reducible] noncomputable def L81_0:List CS:=[
    .assign (.nm (.loc 9)) (.meth (.var (.loc 7)) (.bi .find) [(.var (.loc 11)),(.var (.loc 9)),(.var (.loc 10))] []),
    .ifs (.cmp .lt (.var (.loc 9)) (.lit (.int 0)))
     [
      .ret (.lit (.bool false))]
     [],
    .aug 9 (.call (.lit (.bi .len)) [(.var (.loc 11))] [])]
@[reducible] noncomputable def F81:Fn:=⟨[2],[⟨(.loc 6),none⟩,⟨(.loc 7),none⟩],[],none,[
  .ifs (.cmp .notin (.lit (.str "...")) (.var (.loc 6)))
   [
    .ret (.cmp .eq (.var (.loc 6)) (.var (.loc 7)))]
   [],
  .assign (.nm (.loc 8)) (.meth (.var (.loc 6)) (.bi .split) [(.lit (.str "..."))] []),
  .assert (.cmp .ge (.call (.lit (.bi .len)) [(.var (.loc 8))] []) (.lit (.int 2))),
  .assign (.tup [(.loc 9),(.loc 10)]) (.tup [(.lit (.int 0)),(.call (.lit (.bi .len)) [(.var (.loc 7))] [])]),
  .assign (.nm (.loc 11)) (.item (.var (.loc 8)) (.lit (.int 0))),
  .ifs (.var (.loc 11))
   [
    .raise]
   [],
  .assign (.nm (.loc 11)) (.item (.var (.loc 8)) (.neg (.lit (.int 1)))),
  .ifs (.var (.loc 11))
   [
    .raise]
   [],
  .ifs (.cmp .gt (.var (.loc 9)) (.var (.loc 10)))
   [
    .ret (.lit (.bool false))]
   [],
  .for (.nm (.loc 11)) (.of (.var (.loc 8))) L81_0,
  .ret (.lit (.bool true))]⟩
@[reducible] noncomputable def F99:Fn:=⟨[1],[⟨(.loc 12),none⟩],[],none,[
  .ret (.cmp .isin (.call (.lit (.bi .ord)) [(.var (.loc 12))] []) (.lit (.glob 89)))]⟩
@[reducible] noncomputable def F145:Fn:=⟨[1],[⟨(.loc 12),none⟩],[],none,[
  .assign (.nm (.loc 13)) (.meth (.lit (.glob 100)) (.bi .dget) [(.call (.lit (.bi .ord)) [(.var (.loc 12))] [])] []),
  .ifs (.cmp .isnot (.var (.loc 13)) (.lit .none))
   [
    .ret (.var (.loc 13))]
   [],
  .ret (.meth (.var (.loc 12)) (.bi .lower) [] [])]⟩
@[reducible] noncomputable def F190:Fn:=⟨[2],[⟨(.loc 14),none⟩,⟨(.loc 18),none⟩],[(19,⟨(.loc 19),none⟩)],none,[
  .ifs (.cmp .is (.call (.lit (.ty .typ)) [(.var (.loc 18))] []) (.lit (.ty .str)))
   [
    .assign (.nm (.loc 20)) (.ite (.var (.loc 19)) (.lit (.glob 155)) (.lit (.glob 160))),
    .ifs (.meth (.var (.loc 20)) (.bi .search) [(.var (.loc 18))] [])
     [
      .raise]
     [],
    .ret (.var (.loc 18))]
   [],
  .raise]⟩
@[reducible] noncomputable def K228_0:CE:=(.comp [19] (.item (.var (.loc 25)) (.lit (.int 1))) [(.mk (.nm (.loc 25)) (.of (.attr (.var (.loc 14)))) [(.cmp .eq (.meth (.item (.var (.loc 25)) (.lit (.int 0))) (.bi .lower) [] []) (.var (.cel 19)))])])
@[reducible] noncomputable def F228:Fn:=⟨[2],[⟨(.loc 14),none⟩,⟨(.cel 19),none⟩],[],none,[
  .assign (.nm (.cel 19)) (.meth (.var (.loc 14)) .conv [(.meth (.var (.cel 19)) (.bi .lower) [] [])] [(19,(.lit (.bool true)))]),
  .ret K228_0]⟩
@[reducible] noncomputable def F286:Fn:=⟨[3],[⟨(.loc 14),none⟩,⟨(.loc 21),none⟩,⟨(.loc 22),none⟩],[],some (.loc 23),[
  .assign (.nm (.loc 24)) (.lst []),
  .ifs (.cmp .isnot (.var (.loc 22)) (.lit .none))
   [
    .assign (.nm (.loc 22)) (.meth (.var (.loc 14)) .conv [(.var (.loc 22))] [(19,(.lit (.bool false)))]),
    .expr (.meth (.var (.loc 24)) (.bi .append) [(.var (.loc 22))] [])]
   [],
  .for (.tup [(.loc 16),(.loc 17)]) (.items (.var (.loc 23))) [],
  .expr (.meth (.attr (.var (.loc 14))) (.bi .append) [(.tup [(.meth (.var (.loc 14)) .conv [(.var (.loc 21))] [(19,(.lit (.bool true)))]),(.meth (.lit (.str "; ")) (.bi .join) [(.var (.loc 24))] [])])] [])]⟩
@[reducible] noncomputable def F300:Fn:=⟨[0],[],[],none,[
  .ret (.lst [(.lit (.str "km")),(.lit (.str "kp")),(.lit (.str "ka")),(.lit (.str "mp")),(.lit (.str "ma")),(.lit (.str "pa")),(.lit (.str "kmp")),(.lit (.str "kma")),(.lit (.str "kpa")),(.lit (.str "mpa")),(.lit (.str "kmpa"))])]⟩
@[reducible] noncomputable def F307:Fn:=⟨[1],[⟨(.loc 16),none⟩],[],none,[
  .ifs (.cmp .lt (.var (.loc 16)) (.lit (.int 11)))
   [
    .ret (.call (.lit (.bi .chr)) [(.item (.lst [(.lit (.int 173)),(.lit (.int 847)),(.lit (.int 6150)),(.lit (.int 6155)),(.lit (.int 6156)),(.lit (.int 6157)),(.lit (.int 8203)),(.lit (.int 8204)),(.lit (.int 8205)),(.lit (.int 8288)),(.lit (.int 65279))]) (.var (.loc 16)))] [])]
   [],
  .ret (.call (.lit (.bi .chr)) [(.bin .add (.lit (.int 65013)) (.var (.loc 16)))] [])]⟩
@[reducible] noncomputable def F314:Fn:=⟨[1],[⟨(.loc 16),none⟩],[],none,[
  .ret (.call (.lit (.bi .chr)) [(.item (.lst [(.lit (.int 172)),(.lit (.int 174)),(.lit (.int 846)),(.lit (.int 848)),(.lit (.int 6149)),(.lit (.int 6151)),(.lit (.int 6154)),(.lit (.int 6158)),(.lit (.int 8202)),(.lit (.int 8206)),(.lit (.int 8287)),(.lit (.int 8289)),(.lit (.int 65278)),(.lit (.int 65280)),(.lit (.int 65023)),(.lit (.int 65040))]) (.var (.loc 16)))] [])]⟩
@[reducible] noncomputable def F321:Fn:=⟨[2],[⟨(.loc 26),none⟩,⟨(.loc 16),none⟩],[],none,[
  .ifs (.cmp .eq (.var (.loc 16)) (.lit (.int 0)))
   [
    .ret (.var (.loc 26))]
   [],
  .ifs (.cmp .eq (.var (.loc 16)) (.lit (.int 1)))
   [
    .ret (.call (.lit (.bi .chr)) [(.bin .sub (.call (.lit (.bi .ord)) [(.var (.loc 26))] []) (.lit (.int 32)))] [])]
   [],
  .ret (.call (.lit (.bi .chr)) [(.bin .add (.bin .add (.lit (.int 119711)) (.bin .mul (.lit (.int 52)) (.item (.lst [(.lit (.int 0)),(.lit (.int 1)),(.lit (.int 2)),(.lit (.int 4)),(.lit (.int 7)),(.lit (.int 8)),(.lit (.int 9)),(.lit (.int 10)),(.lit (.int 11)),(.lit (.int 12))]) (.bin .sub (.var (.loc 16)) (.lit (.int 2)))))) (.call (.lit (.bi .ord)) [(.var (.loc 26))] []))] [])]⟩
@[reducible] noncomputable def K326_0:CE:=(.comp [27] (.var (.loc 31)) [(.mk (.nm (.loc 31)) (.of (.var (.loc 29))) [(.cmp .eq (.slice (.var (.cel 27)) none (some (.call (.lit (.bi .len)) [(.item (.var (.loc 31)) (.lit (.int 0)))] []))) (.item (.var (.loc 31)) (.lit (.int 0))))])])
@[reducible] noncomputable def L326_0:List CS:=[
    .assign (.nm (.loc 32)) K326_0,
    .ifs (.and (some (.cmp .ne (.var (.loc 32)) (.lst []))) (some (.cmp .eq (.bin .mod (.var (.loc 28)) (.lit (.int 2))) (.lit (.int 0)))) none)
     [
      .assign (.nm (.loc 31)) (.item (.var (.loc 32)) (.bin .mod (.bin .fdiv (.var (.loc 28)) (.lit (.int 2))) (.call (.lit (.bi .len)) [(.var (.loc 32))] []))),
      .assign (.tup [(.loc 30),(.cel 27)]) (.tup [(.bin .add (.var (.loc 30)) (.call (.lit (.bi .chr)) [(.item (.var (.loc 31)) (.lit (.int 1)))] [])),(.slice (.var (.cel 27)) (some (.call (.lit (.bi .len)) [(.item (.var (.loc 31)) (.lit (.int 0)))] [])) none)])]
     [
      .assign (.tup [(.loc 30),(.cel 27)]) (.tup [(.bin .add (.var (.loc 30)) (.call (.lit (.glob 321)) [(.item (.var (.cel 27)) (.lit (.int 0))),(.bin .mod (.bin .fdiv (.var (.loc 28)) (.lit (.int 2))) (.lit (.int 12)))] [])),(.slice (.var (.cel 27)) (some (.lit (.int 1))) none)])],
    .assign (.nm (.loc 28)) (.bin .fdiv (.var (.loc 28)) (.lit (.int 24)))]
@[reducible] noncomputable def F326:Fn:=⟨[2],[⟨(.cel 27),none⟩,⟨(.loc 28),none⟩],[],none,[
  .assign (.nm (.loc 29)) (.lst [(.tup [(.lit (.str "kpa")),(.lit (.int 13226))]),(.tup [(.lit (.str "mpa")),(.lit (.int 13227))]),(.tup [(.lit (.str "km")),(.lit (.int 13262))]),(.tup [(.lit (.str "ka")),(.lit (.int 13188))]),(.tup [(.lit (.str "ma")),(.lit (.int 13187))]),(.tup [(.lit (.str "pa")),(.lit (.int 13184))]),(.tup [(.lit (.str "pa")),(.lit (.int 13225))])]),
  .assign (.tup [(.loc 30),(.loc 28)]) (.tup [(.call (.lit (.glob 307)) [(.bin .mod (.var (.loc 28)) (.lit (.int 27)))] []),(.bin .fdiv (.var (.loc 28)) (.lit (.int 27)))]),
  .whil (.cmp .ne (.var (.cel 27)) (.lit (.str ""))) L326_0,
  .ret (.var (.loc 30))]⟩
@[reducible] noncomputable def K331_0:CE:=(.comp [] (.call (.lit (.glob 145)) [(.var (.loc 33))] []) [(.mk (.nm (.loc 33)) (.of (.var (.loc 30))) [(.cmp .is (.call (.lit (.glob 99)) [(.var (.loc 33))] []) (.lit (.bool false)))])])
@[reducible] noncomputable def F331:Fn:=⟨[1],[⟨(.loc 30),none⟩],[],none,[
  .ret (.meth (.lit (.str "")) (.bi .join) [K331_0] [])]⟩
@[reducible] noncomputable def L338_0:List CS:=[
    .assign (.tup [(.loc 34),(.loc 35),(.loc 28)]) (.tup [(.bin .add (.var (.loc 34)) (.item (.var (.loc 35)) (.bin .mod (.var (.loc 28)) (.var (.loc 36))))),(.bin .add (.slice (.var (.loc 35)) none (some (.bin .mod (.var (.loc 28)) (.var (.loc 36))))) (.slice (.var (.loc 35)) (some (.bin .add (.bin .mod (.var (.loc 28)) (.var (.loc 36))) (.lit (.int 1)))) none)),(.bin .fdiv (.var (.loc 28)) (.var (.loc 36)))])]
@[reducible] noncomputable def F338:Fn:=⟨[1],[⟨(.loc 28),none⟩],[],none,[
  .assign (.tup [(.loc 34),(.loc 35)]) (.tup [(.lit (.str "")),(.lit (.str "kmpa"))]),
  .for (.nm (.loc 36)) (.range [(.lit (.int 4)),(.lit (.int 0)),(.neg (.lit (.int 1)))]) L338_0,
  .ret (.var (.loc 34))]⟩
@[reducible] noncomputable def F345:Fn:=⟨[1],[⟨(.loc 37),none⟩],[],none,[
  .ret (.item (.var (.loc 37)) (.lit (.int 0)))]⟩
@[reducible] noncomputable def K350_0:CE:=(.comp [40,43,38] (.bin .add (.var (.loc 46)) (.var (.cel 40))) [(.mk (.tup [(.loc 46),(.loc 53),(.loc 54)]) (.of (.var (.loc 45))) [(.cmp .isin (.bin .add (.var (.cel 43)) (.var (.loc 54))) (.var (.cel 38)))])])
@[reducible] noncomputable def K350_1:CE:=(.comp [40,43,38] (.bin .add (.var (.loc 46)) (.var (.cel 40))) [(.mk (.tup [(.loc 46),(.loc 53),(.loc 54)]) (.of (.var (.loc 45))) [(.cmp .isin (.bin .add (.var (.loc 54)) (.var (.cel 43))) (.var (.cel 38)))])])
@[reducible] noncomputable def L350_0 : List CS := [
        .assign (.tup [(.loc 49),(.loc 50)]) (.tup [(.call (.lit (.ty .list)) [(.var (.loc 45))] []),(.call (.lit (.ty .list)) [(.var (.loc 45))] [])]),
        .ifs (.cmp .eq (.var (.cel 40)) (.lit (.int 0)))
         [
          .assign (.nm (.loc 51)) (.call (.lit (.glob 47)) [(.var (.loc 49)),(.tup [(.var (.loc 46)),(.var (.loc 42)),(.var (.cel 43))])] [(4,(.lit (.glob 345)))]),
          .assign (.nm (.loc 52)) (.call (.lit (.glob 65)) [(.var (.loc 50)),(.tup [(.var (.loc 46)),(.var (.loc 42)),(.var (.cel 43))])] [])]
         [
          .assign (.nm (.loc 51)) (.call (.lit (.glob 65)) [(.var (.loc 49)),(.tup [(.var (.loc 46)),(.neg (.var (.loc 42))),(.var (.cel 43))])] [(4,(.lit (.glob 345)))]),
          .assign (.nm (.loc 52)) (.call (.lit (.glob 47)) [(.var (.loc 50)),(.tup [(.var (.loc 46)),(.neg (.var (.loc 42))),(.var (.cel 43))])] [])],
        .ifs (.and (some (.cmp .is (.var (.loc 51)) (.lit .none))) (some (.cmp .is (.var (.loc 52)) (.lit .none))) (some (.cmp .eq (.var (.loc 49)) (.var (.loc 50)))))
         [
          .expr (.meth (.var (.loc 44)) (.bi .append) [(.var (.loc 49))] [])]
         []]
@[reducible] noncomputable def L350_1 : List CS := [
      .assign (.nm (.loc 47)) (.call (.lit (.bi .max)) [(.bin .add K350_1 (.lst [(.lit (.int 0))]))] []),
      .assign (.nm (.loc 48)) (.call (.lit (.bi .min)) [(.bin .add K350_0 (.lst [(.var (.loc 39))]))] []),
      .for (.nm (.loc 46)) (.range [(.var (.loc 47)),(.var (.loc 48))]) L350_0]
@[reducible] noncomputable def L350_2:List CS:=[
    .assign (.nm (.loc 44)) (.lst []),
    .for (.nm (.loc 45)) (.of (.var (.loc 41))) L350_1,
    .assign (.nm (.loc 41)) (.var (.loc 44))]
@[reducible] noncomputable def F350:Fn:=⟨[4],[⟨(.loc 34),none⟩,⟨(.cel 38),none⟩,⟨(.loc 39),none⟩,⟨(.cel 40),none⟩],[],none,[
  .assign (.nm (.loc 41)) (.lst [(.lst [])]),
  .for (.tup [(.loc 42),(.cel 43)]) (.enum (.var (.loc 34))) L350_2,
  .ret (.var (.loc 41))]⟩
@[reducible] noncomputable def K355_0:CE:=(.comp [] (.call (.lit (.ty .str)) [(.item (.var (.loc 56)) (.lit (.int 0)))] []) [(.mk (.nm (.loc 56)) (.of (.var (.loc 45))) [])])
@[reducible] noncomputable def K355_1:CE:=(.comp [] (.item (.var (.loc 56)) (.lit (.int 2))) [(.mk (.nm (.loc 56)) (.of (.var (.loc 45))) [])])
@[reducible] noncomputable def L355_0 : List CS := [
      .assign (.tup [(.loc 19),(.loc 18)]) (.tup [(.meth (.lit (.str "")) (.bi .join) [K355_1] []),(.meth (.lit (.str "")) (.bi .join) [K355_0] [])]),
      .ifs (.cmp .isnot (.meth (.var (.loc 55)) .add_header [(.ite (.cmp .eq (.var (.loc 40)) (.lit (.int 0))) (.var (.loc 19)) (.meth (.var (.loc 19)) (.bi .upper) [] [])),(.var (.loc 18))] []) (.lit .none))
       [
        .ret .newHeaders]
       []]
@[reducible] noncomputable def L355_1:List CS:=[
    .for (.nm (.loc 45)) (.of (.call (.lit (.glob 350)) [(.var (.loc 34)),(.var (.loc 38)),(.var (.loc 39)),(.var (.loc 40))] [])) L355_0]
@[reducible] noncomputable def F355:Fn:=⟨[3],[⟨(.loc 34),none⟩,⟨(.loc 38),none⟩,⟨(.loc 39),none⟩],[],none,[
  .assign (.nm (.loc 55)) .newHeaders,
  .for (.nm (.loc 40)) (.of (.lst [(.lit (.int 0)),(.lit (.int 1))])) L355_1,
  .ret (.var (.loc 55))]⟩
@[reducible] noncomputable def F362:Fn:=⟨[1],[⟨(.loc 27),none⟩],[],none,[
  .ret (.bin .add (.bin .add (.lit (.str "...")) (.meth (.lit (.str "...")) (.bi .join) [(.var (.loc 27))] [])) (.lit (.str "...")))]⟩
@[reducible] noncomputable def L369_0:List CS:=[
    .assign (.nm (.loc 58)) (.call (.lit (.glob 81)) [(.var (.loc 6)),(.var (.loc 45))] []),
    .ifs (.cmp .isnot (.var (.loc 58)) (.lit (.bool true)))
     [
      .ret (.var (.loc 58))]
     []]
@[reducible] noncomputable def F369:Fn:=⟨[2],[⟨(.loc 57),none⟩,⟨(.loc 45),none⟩],[],none,[
  .for (.nm (.loc 6)) (.of (.var (.loc 57))) L369_0,
  .ret (.lit (.bool true))]⟩
@[reducible] noncomputable def K374_0:CE:=(.comp [39] (.bin .add (.var (.loc 60)) (.call (.lit (.ty .str)) [(.var (.loc 46))] [])) [(.mk (.nm (.loc 60)) (.of (.var (.loc 59))) []),(.mk (.nm (.loc 46)) (.range [(.var (.cel 39))]) [(.cmp .le (.slice (.var (.loc 60)) (some (.neg (.lit (.int 1)))) none) (.call (.lit (.ty .str)) [(.var (.loc 46))] []))])])
@[reducible] noncomputable def L374_0:List CS:=[
    .assign (.nm (.loc 59)) K374_0]
@[reducible] noncomputable def F374:Fn:=⟨[1],[⟨(.cel 39),none⟩],[],none,[
  .assign (.nm (.loc 59)) (.lst [(.lit (.str ""))]),
  .for (.nm (.loc 53)) (.range [(.lit (.int 4))]) L374_0,
  .ret (.var (.loc 59))]⟩
@[reducible] noncomputable def K379_0:CE:=(.comp [45,60] (.item (.var (.cel 60)) (.meth (.var (.cel 45)) (.bi .index) [(.var (.loc 43))] [])) [(.mk (.nm (.loc 43)) (.of (.var (.cel 34))) [])])
@[reducible] noncomputable def K379_1:CE:=(.comp [60] (.var (.loc 65)) [(.mk (.nm (.loc 65)) (.of (.var (.cel 63))) [(.cmp .eq (.item (.var (.cel 60)) (.var (.loc 65))) (.item (.var (.cel 60)) (.bin .add (.var (.loc 65)) (.lit (.int 1)))))])])
@[reducible] noncomputable def K379_2:CE:=(.comp [63] (.var (.cel 60)) [(.mk (.nm (.cel 60)) (.of (.var (.loc 61))) [(.cmp .eq K379_1 (.lst []))])])
@[reducible] noncomputable def K379_3:CE:=(.comp [34,45,62] (.var (.loc 65)) [(.mk (.nm (.loc 65)) (.range [(.lit (.int 3))]) [(.cmp .eq (.cmp .gt (.meth (.var (.cel 34)) (.bi .index) [(.item (.var (.cel 45)) (.var (.loc 65)))] []) (.meth (.var (.cel 34)) (.bi .index) [(.item (.var (.cel 45)) (.bin .add (.var (.loc 65)) (.lit (.int 1))))] [])) (.var (.cel 62)))])])
@[reducible] noncomputable def F379:Fn:=⟨[4],[⟨(.cel 45),none⟩,⟨(.cel 34),none⟩,⟨(.loc 61),none⟩,⟨(.cel 62),none⟩],[],none,[
  .assign (.nm (.cel 63)) K379_3,
  .assign (.nm (.loc 64)) K379_2,
  .ret (.sortBy [34,45] (.var (.loc 64)) (.cel 60) K379_0)]⟩
@[reducible] noncomputable def K384_0:CE:=(.comp [67] (.var (.loc 60)) [(.mk (.nm (.loc 60)) (.of (.var (.loc 64))) [(.cmp .ne (.item (.var (.loc 60)) (.lit (.int 3))) (.var (.cel 67)))])])
@[reducible] noncomputable def F384:Fn:=⟨[4],[⟨(.loc 45),none⟩,⟨(.loc 66),none⟩,⟨(.loc 64),none⟩,⟨(.cel 67),none⟩],[],none,[
  .ifs (.cmp .isnot (.call (.lit (.glob 81)) [(.call (.lit (.glob 362)) [(.var (.loc 45))] []),(.var (.loc 66))] []) (.cmp .ne (.var (.loc 64)) (.lst [])))
   [
    .ret (.lit (.bool false))]
   [],
  .assign (.nm (.loc 68)) K384_0,
  .ret (.or (.cmp .eq (.var (.loc 64)) (.lst [])) (.cmp .is (.call (.lit (.glob 81)) [(.call (.lit (.glob 362)) [(.bin .add (.var (.loc 45)) (.item (.var (.loc 45)) (.lit (.int 3))))] []),(.var (.loc 66))] []) (.cmp .ne (.var (.loc 68)) (.lst []))))]⟩
@[reducible] noncomputable def K389_0:CE:=(.comp [27] (.slice (.var (.cel 27)) (some (.var (.loc 65))) (some (.bin .add (.var (.loc 65)) (.lit (.int 2))))) [(.mk (.nm (.loc 65)) (.range [(.bin .sub (.call (.lit (.bi .len)) [(.var (.cel 27))] []) (.lit (.int 1)))]) [])])
@[reducible] noncomputable def L389_0 : List CS := [
        .assign (.nm (.loc 75)) (.call (.lit (.glob 379)) [(.var (.loc 45)),(.var (.loc 34)),(.var (.loc 61)),(.var (.loc 62))] []),
        .ifs (.not (.call (.lit (.glob 384)) [(.var (.loc 45)),(.bin .mul (.var (.loc 74)) (.var (.loc 39))),(.var (.loc 75)),(.call (.lit (.ty .str)) [(.bin .sub (.var (.loc 39)) (.lit (.int 1)))] [])] []))
         [
          .ret (.lit (.bool false))]
         [],
        .expr (.meth (.var (.loc 64)) (.bi .extend) [(.var (.loc 75))] [])]
@[reducible] noncomputable def L389_1:List CS:=[
    .assign (.nm (.loc 45)) (.call (.lit (.glob 338)) [(.var (.loc 28))] []),
    .assign (.tup [(.loc 58),(.loc 64)]) (.tup [(.call (.lit (.glob 369)) [(.var (.loc 57)),(.var (.loc 45))] []),(.lst [])]),
    .ifs (.cmp .is (.var (.loc 58)) (.lit (.bool true)))
     [
      .for (.tup [(.loc 74),(.loc 62)]) (.of (.lst [(.tup [(.var (.loc 34)),(.lit (.bool true))]),(.tup [(.rev (.var (.loc 34))),(.lit (.bool false))])])) L389_0]
     [
      .ifs (.cmp .isnot (.var (.loc 58)) (.lit (.bool false)))
       [
        .ret (.lit (.bool false))]
       []],
    .ifs (.cmp .ne (.meth (.var (.loc 55)) .get_all [(.bin .add (.meth (.item (.var (.loc 45)) (.lit (.int 0))) (.bi .upper) [] []) (.slice (.var (.loc 45)) (some (.lit (.int 1))) none))] []) (.var (.loc 64)))
     [
      .ret (.lit (.bool false))]
     []]
@[reducible] noncomputable def L389_2:List CS:=[
    .assign (.tup [(.cel 27),(.loc 72)]) (.tup [(.item (.call (.lit (.glob 300)) [] []) (.bin .mod (.var (.loc 1)) (.lit (.int 11)))),(.call (.lit (.glob 314)) [(.bin .mod (.bin .add (.var (.loc 70)) (.var (.loc 71))) (.lit (.int 16)))] [])]),
    .assign (.nm (.loc 73)) (.call (.lit (.glob 331)) [(.bin .add (.call (.lit (.glob 326)) [(.var (.cel 27)),(.bin .fdiv (.call (.lit (.bi .abs)) [(.var (.loc 1))] []) (.lit (.int 11)))] []) (.var (.loc 72)))] []),
    .ifs (.cmp .ne (.var (.loc 73)) (.bin .add (.var (.cel 27)) (.var (.loc 72))))
     [
      .ret (.lit (.bool false))]
     [],
    .ifs (.cmp .notin (.call (.lit (.glob 362)) [(.slice (.var (.loc 73)) none (some (.neg (.lit (.int 1)))))] []) (.var (.loc 57)))
     [
      .expr (.meth (.var (.loc 57)) (.bi .append) [(.call (.lit (.glob 362)) [(.slice (.var (.loc 73)) none (some (.neg (.lit (.int 1)))))] [])] [])]
     [],
    .expr (.meth (.var (.loc 38)) (.bi .extend) [K389_0] [])]
@[reducible] noncomputable def F389:Fn:=⟨[1],[⟨(.loc 69),none⟩],[],none,[
  .assign (.nm (.loc 70)) (.bin .add (.call (.lit (.bi .sum)) [(.var (.loc 69))] []) (.lit (.int 14))),
  .assign (.tup [(.loc 57),(.loc 38)]) (.tup [(.lst []),(.lst [])]),
  .for (.tup [(.loc 71),(.loc 1)]) (.enum (.bin .add (.slice (.var (.loc 69)) none (some (.lit (.int 4)))) (.slice (.lst [(.lit (.int 13)),(.lit (.int 1884)),(.lit (.int 257))]) (some (.call (.lit (.bi .len)) [(.slice (.var (.loc 69)) none (some (.lit (.int 4))))] [])) none))) L389_2,
  .assign (.tup [(.loc 34),(.loc 39)]) (.tup [(.call (.lit (.glob 338)) [(.var (.loc 70))] []),(.lit (.int 2))]),
  .ifs (.and (some (.cmp .eq (.bin .mod (.bin .fdiv (.var (.loc 70)) (.lit (.int 24))) (.lit (.int 2))) (.lit (.int 1)))) (some (.cmp .gt (.lenSet (.var (.loc 38))) (.lit (.int 3)))) none)
   [
    .assign (.nm (.loc 39)) (.lit (.int 3))]
   [],
  .assign (.tup [(.loc 55),(.loc 61)]) (.tup [(.call (.lit (.glob 355)) [(.var (.loc 34)),(.var (.loc 38)),(.var (.loc 39))] []),(.call (.lit (.glob 374)) [(.var (.loc 39))] [])]),
  .ifs (.cmp .ne (.meth (.var (.loc 55)) .get_all [(.lit (.str "kmp"))] []) (.lst []))
   [
    .ret (.lit (.bool false))]
   [],
  .for (.nm (.loc 28)) (.range [(.lit (.int 24))]) L389_1,
  .ret (.lit (.bool true))]⟩
theorem fn47:fnAt 47=some F47:=by kernel_rfl
theorem fn56:fnAt 56=some F56:=by kernel_rfl
theorem fn65:fnAt 65=some F65:=by kernel_rfl
theorem fn74:fnAt 74=some F74:=by kernel_rfl
theorem fn81:fnAt 81=some F81:=by kernel_rfl
theorem fn99:fnAt 99=some F99:=by kernel_rfl
theorem fn145:fnAt 145=some F145:=by kernel_rfl
theorem fn190:fnAt 190=some F190:=by kernel_rfl
theorem fn228:fnAt 228=some F228:=by kernel_rfl
theorem fn286:fnAt 286=some F286:=by kernel_rfl
theorem fn300:fnAt 300=some F300:=by kernel_rfl
theorem fn307:fnAt 307=some F307:=by kernel_rfl
theorem fn314:fnAt 314=some F314:=by kernel_rfl
theorem fn321:fnAt 321=some F321:=by kernel_rfl
theorem fn326:fnAt 326=some F326:=by kernel_rfl
theorem fn331:fnAt 331=some F331:=by kernel_rfl
theorem fn338:fnAt 338=some F338:=by kernel_rfl
theorem fn345:fnAt 345=some F345:=by kernel_rfl
theorem fn350:fnAt 350=some F350:=by kernel_rfl
theorem fn355:fnAt 355=some F355:=by kernel_rfl
theorem fn362:fnAt 362=some F362:=by kernel_rfl
theorem fn369:fnAt 369=some F369:=by kernel_rfl
theorem fn374:fnAt 374=some F374:=by kernel_rfl
theorem fn379:fnAt 379=some F379:=by kernel_rfl
theorem fn384:fnAt 384=some F384:=by kernel_rfl
theorem fn389:fnAt 389=some F389:=by kernel_rfl
@[reducible] noncomputable def L183_0:List CS:=[
  .expr (.meth (.var (.loc 14)) .conv [(.var (.loc 16))] [(19,(.lit (.bool true)))]),
  .expr (.meth (.var (.loc 14)) .conv [(.var (.loc 17))] [(19,(.lit (.bool false)))])]
theorem initE_eq:initE=(.ite (.cmp .isnot (.var (.loc 15)) (.lit .none)) (.var (.loc 15)) (.lst [])):=by kernel_rfl
theorem initT_eq:initT=(.cmp .isnot (.call (.lit (.ty .typ)) [(.var (.loc 15))] []) (.lit (.ty .list))):=by kernel_rfl
theorem initL_eq:initL=.for (.tup [(.loc 16),(.loc 17)]) (.of (.var (.loc 15)))  L183_0:=by kernel_rfl
theorem hdrI_eq:hdrI=15:=by kernel_rfl
section
variable {n:Nat} {v0 v1 v2 v3 k:V} {fl:Fl} {e1:EE} {σ σ2:St} {r:Option (V × St)}
theorem R47_2 (h:execsV (fs n).S ⟨[(4,.none),(3,.none),(2,.int 0),(1,v1),(0,v0)],[],47⟩ F47.body σ=some ((fl,e1),σ2)) (q:fl.el (X.pure .none) X.pure σ2=r):(fs (n+1)).C 47 [v0,v1] [] σ=r:=cRun fn47 rfl h q
theorem R47_2k (h:execsV (fs n).S ⟨[(4,k),(3,.none),(2,.int 0),(1,v1),(0,v0)],[],47⟩ F47.body σ=some ((fl,e1),σ2)) (q:fl.el (X.pure .none) X.pure σ2=r):(fs (n+1)).C 47 [v0,v1] [(4,k)] σ=r:=cRun fn47 rfl h q
theorem R56_4 (h:execsV (fs n).S ⟨[(4,.none),(3,v3),(2,v2),(1,v1),(0,v0)],[],56⟩ F56.body σ=some ((fl,e1),σ2)) (q:fl.el (X.pure .none) X.pure σ2=r):(fs (n+1)).C 56 [v0,v1,v2,v3] [] σ=r:=cRun fn56 rfl h q
theorem R56_4k (h:execsV (fs n).S ⟨[(4,k),(3,v3),(2,v2),(1,v1),(0,v0)],[],56⟩ F56.body σ=some ((fl,e1),σ2)) (q:fl.el (X.pure .none) X.pure σ2=r):(fs (n+1)).C 56 [v0,v1,v2,v3] [(4,k)] σ=r:=cRun fn56 rfl h q
theorem R65_2 (h:execsV (fs n).S ⟨[(4,.none),(3,.none),(2,.int 0),(1,v1),(0,v0)],[],65⟩ F65.body σ=some ((fl,e1),σ2)) (q:fl.el (X.pure .none) X.pure σ2=r):(fs (n+1)).C 65 [v0,v1] [] σ=r:=cRun fn65 rfl h q
theorem R65_2k (h:execsV (fs n).S ⟨[(4,k),(3,.none),(2,.int 0),(1,v1),(0,v0)],[],65⟩ F65.body σ=some ((fl,e1),σ2)) (q:fl.el (X.pure .none) X.pure σ2=r):(fs (n+1)).C 65 [v0,v1] [(4,k)] σ=r:=cRun fn65 rfl h q
theorem R74_4 (h:execsV (fs n).S ⟨[(4,.none),(3,v3),(2,v2),(1,v1),(0,v0)],[],74⟩ F74.body σ=some ((fl,e1),σ2)) (q:fl.el (X.pure .none) X.pure σ2=r):(fs (n+1)).C 74 [v0,v1,v2,v3] [] σ=r:=cRun fn74 rfl h q
theorem R74_4k (h:execsV (fs n).S ⟨[(4,k),(3,v3),(2,v2),(1,v1),(0,v0)],[],74⟩ F74.body σ=some ((fl,e1),σ2)) (q:fl.el (X.pure .none) X.pure σ2=r):(fs (n+1)).C 74 [v0,v1,v2,v3] [(4,k)] σ=r:=cRun fn74 rfl h q
theorem R81 (h:execsV (fs n).S ⟨[(7,v1),(6,v0)],[],81⟩ F81.body σ=some ((fl,e1),σ2)) (q:fl.el (X.pure .none) X.pure σ2=r):(fs (n+1)).C 81 [v0,v1] [] σ=r:=cRun fn81 rfl h q
theorem R99 (h:execsV (fs n).S ⟨[(12,v0)],[],99⟩ F99.body σ=some ((fl,e1),σ2)) (q:fl.el (X.pure .none) X.pure σ2=r):(fs (n+1)).C 99 [v0] [] σ=r:=cRun fn99 rfl h q
theorem R145 (h:execsV (fs n).S ⟨[(12,v0)],[],145⟩ F145.body σ=some ((fl,e1),σ2)) (q:fl.el (X.pure .none) X.pure σ2=r):(fs (n+1)).C 145 [v0] [] σ=r:=cRun fn145 rfl h q
theorem R190 (h:execsV (fs n).S ⟨[(19,k),(18,v1),(14,v0)],[],190⟩ F190.body σ=some ((fl,e1),σ2)) (q:fl.el (X.pure .none) X.pure σ2=r):(fs (n+1)).C 190 [v0,v1] [(19,k)] σ=r:=cRun fn190 rfl h q
theorem R228 (h:execsV (fs n).S ⟨[(14,v0)],[(19,v1)],228⟩ F228.body σ=some ((fl,e1),σ2)) (q:fl.el (X.pure .none) X.pure σ2=r):(fs (n+1)).C 228 [v0,v1] [] σ=r:=cRun fn228 rfl h q
theorem R286 (h:execsV (fs n).S ⟨[(23,.kw0 σ.length),(22,v2),(21,v1),(14,v0)],[],286⟩ F286.body (σ++[.kw])=some ((fl,e1),σ2)) (q:fl.el (X.pure .none) X.pure σ2=r):(fs (n+1)).C 286 [v0,v1,v2] [] σ=r:=cRun fn286 rfl h q
theorem R300 (h:execsV (fs n).S ⟨[],[],300⟩ F300.body σ=some ((fl,e1),σ2)) (q:fl.el (X.pure .none) X.pure σ2=r):(fs (n+1)).C 300 [] [] σ=r:=cRun fn300 rfl h q
theorem R307 (h:execsV (fs n).S ⟨[(16,v0)],[],307⟩ F307.body σ=some ((fl,e1),σ2)) (q:fl.el (X.pure .none) X.pure σ2=r):(fs (n+1)).C 307 [v0] [] σ=r:=cRun fn307 rfl h q
theorem R314 (h:execsV (fs n).S ⟨[(16,v0)],[],314⟩ F314.body σ=some ((fl,e1),σ2)) (q:fl.el (X.pure .none) X.pure σ2=r):(fs (n+1)).C 314 [v0] [] σ=r:=cRun fn314 rfl h q
theorem R321 (h:execsV (fs n).S ⟨[(16,v1),(26,v0)],[],321⟩ F321.body σ=some ((fl,e1),σ2)) (q:fl.el (X.pure .none) X.pure σ2=r):(fs (n+1)).C 321 [v0,v1] [] σ=r:=cRun fn321 rfl h q
theorem R326 (h:execsV (fs n).S ⟨[(28,v1)],[(27,v0)],326⟩ F326.body σ=some ((fl,e1),σ2)) (q:fl.el (X.pure .none) X.pure σ2=r):(fs (n+1)).C 326 [v0,v1] [] σ=r:=cRun fn326 rfl h q
theorem R331 (h:execsV (fs n).S ⟨[(30,v0)],[],331⟩ F331.body σ=some ((fl,e1),σ2)) (q:fl.el (X.pure .none) X.pure σ2=r):(fs (n+1)).C 331 [v0] [] σ=r:=cRun fn331 rfl h q
theorem R338 (h:execsV (fs n).S ⟨[(28,v0)],[],338⟩ F338.body σ=some ((fl,e1),σ2)) (q:fl.el (X.pure .none) X.pure σ2=r):(fs (n+1)).C 338 [v0] [] σ=r:=cRun fn338 rfl h q
theorem R345 (h:execsV (fs n).S ⟨[(37,v0)],[],345⟩ F345.body σ=some ((fl,e1),σ2)) (q:fl.el (X.pure .none) X.pure σ2=r):(fs (n+1)).C 345 [v0] [] σ=r:=cRun fn345 rfl h q
theorem R350 (h:execsV (fs n).S ⟨[(39,v2),(34,v0)],[(40,v3),(38,v1)],350⟩ F350.body σ=some ((fl,e1),σ2)) (q:fl.el (X.pure .none) X.pure σ2=r):(fs (n+1)).C 350 [v0,v1,v2,v3] [] σ=r:=cRun fn350 rfl h q
theorem R355 (h:execsV (fs n).S ⟨[(39,v2),(38,v1),(34,v0)],[],355⟩ F355.body σ=some ((fl,e1),σ2)) (q:fl.el (X.pure .none) X.pure σ2=r):(fs (n+1)).C 355 [v0,v1,v2] [] σ=r:=cRun fn355 rfl h q
theorem R362 (h:execsV (fs n).S ⟨[(27,v0)],[],362⟩ F362.body σ=some ((fl,e1),σ2)) (q:fl.el (X.pure .none) X.pure σ2=r):(fs (n+1)).C 362 [v0] [] σ=r:=cRun fn362 rfl h q
theorem R369 (h:execsV (fs n).S ⟨[(45,v1),(57,v0)],[],369⟩ F369.body σ=some ((fl,e1),σ2)) (q:fl.el (X.pure .none) X.pure σ2=r):(fs (n+1)).C 369 [v0,v1] [] σ=r:=cRun fn369 rfl h q
theorem R374 (h:execsV (fs n).S ⟨[],[(39,v0)],374⟩ F374.body σ=some ((fl,e1),σ2)) (q:fl.el (X.pure .none) X.pure σ2=r):(fs (n+1)).C 374 [v0] [] σ=r:=cRun fn374 rfl h q
theorem R379 (h:execsV (fs n).S ⟨[(61,v2)],[(62,v3),(34,v1),(45,v0)],379⟩ F379.body σ=some ((fl,e1),σ2)) (q:fl.el (X.pure .none) X.pure σ2=r):(fs (n+1)).C 379 [v0,v1,v2,v3] [] σ=r:=cRun fn379 rfl h q
theorem R384 (h:execsV (fs n).S ⟨[(64,v2),(66,v1),(45,v0)],[(67,v3)],384⟩ F384.body σ=some ((fl,e1),σ2)) (q:fl.el (X.pure .none) X.pure σ2=r):(fs (n+1)).C 384 [v0,v1,v2,v3] [] σ=r:=cRun fn384 rfl h q
theorem R389 (h:execsV (fs n).S ⟨[(69,v0)],[],389⟩ F389.body σ=some ((fl,e1),σ2)) (q:fl.el (X.pure .none) X.pure σ2=r):(fs (n+1)).C 389 [v0] [] σ=r:=cRun fn389 rfl h q
end
noncomputable def Gives (σ:St) (s:Src) (vs:List V):Prop:=Src.casesOn (motive:=fun _=>Prop) s (fun k i=>∃ xs,σ[k]?=some (.lst xs)∧xs.drop i=vs) (fun x=>vs=x.map fun c=>.str ⟨#[c]⟩) (fun ns=>vs=ns.map .int)
  (fun n k=>∃ xs,σ[k]?=some (.lst xs)∧vs=((xs.drop n).zipIdx n).map fun p=>.tup [.int (p.2:Nat),p.1]) (fun n x=>vs=(x.zipIdx n).map fun p=>.tup [.int (p.2:Nat),.str ⟨#[p.1]⟩]) False
theorem Gives.at {σ σ':St} {src:Src} {vs:List V} (h:Gives σ src vs) (x:Ext σ σ'):Gives σ' src vs:=by
  induction src with
  | lst k i=>exact let ⟨xs,h1,h2⟩:=h; ⟨xs,x.at h1,h2⟩
  | enumL n k=>exact let ⟨xs,h1,h2⟩:=h; ⟨xs,x.at h1,h2⟩
  | _=>exact h
theorem Gives.nil {σ:St} {src:Src} (h:Gives σ src []):srcNext src σ=some (none,σ):=by
  induction src with
  | lst k i =>
    refine exA h fun xs h1 h2=>?_
    exact bnd (getLst_at h1) (by rw [List.getElem?_eq_none_iff.mpr (List.drop_eq_nil_iff.mp h2)]; rfl)
  | str x=>induction x with
    | nil=>rfl
    | cons _ _=>cases h
  | rng x=>induction x with
    | nil=>rfl
    | cons _ _=>cases h
  | enumL n k =>
    refine exA h fun xs h1 h2=>?_
    cases h3:xs.drop n with
    | nil=>exact bnd (getLst_at h1) (by rw [List.getElem?_eq_none_iff.mpr (List.drop_eq_nil_iff.mp h3)]; rfl)
    | cons y r=>rw [h3] at h2; cases h2
  | enumS n x=>induction x with
    | nil=>rfl
    | cons _ _=>cases h
  | nil=>exact h.elim
theorem Gives.cons {σ:St} {src:Src} {v:V} {vs:List V} {t:Tg} (h:Gives σ src (v::vs)) (ht:tgOk t src=true) (hn:isNil src=false):∃ src',srcNext src σ=some (some (v,src'),σ)∧(∀ {σ'},Ext σ' σ→Gives σ' src (v::vs)→Gives σ' src' vs)∧tgOk t src'=true∧isNil src'=false:=by
  induction src with
  | lst k i =>
    refine exA h fun xs h1 h2=>?_
    have h3:=drop_head h2
    exact ⟨.lst k (i+1),bnd (getLst_at h1) (by rw [h3.1]; rfl),fun _ ⟨ys,g1,g2⟩=>⟨ys,g1,(drop_head g2).2⟩,by cases t <;> rfl,rfl⟩
  | str x=>cases x with
    | nil=>cases h
    | cons c r=>cases h; exact ⟨_,rfl,fun _ h=>(List.cons.inj h).2,by cases t <;> rfl,rfl⟩
  | rng x=>cases x with
    | nil=>cases h
    | cons c r=>cases h; exact ⟨_,rfl,fun _ h=>(List.cons.inj h).2,by cases t <;> rfl,rfl⟩
  | enumL n k =>
    refine exA h fun xs h1 h2=>?_
    cases h3:xs.drop n with
    | nil=>rw [h3] at h2; cases h2
    | cons y r =>
      have h4:=drop_head h3
      rw [h3] at h2
      obtain ⟨rfl,rfl⟩:=List.cons.inj h2
      exact ⟨.enumL (n+1) k,bnd (getLst_at h1) (by rw [h4.1]; rfl),fun x ⟨ys,g1,g2⟩=>⟨ys,g1,by
        cases Option.some.inj (h1.symm.trans (x.at g1))
        rw [h4.2]⟩,by cases t <;> first | exact ht | rfl,rfl⟩
  | enumS n x=>cases x with
    | nil=>cases h
    | cons c r=>cases h; exact ⟨_,rfl,fun _ h=>(List.cons.inj h).2,by cases t <;> first | exact ht | rfl,rfl⟩
  | nil=>exact h.elim
inductive GRes (m:X EE) (σ σ₀:St) (I:EE→Prop) (k:Nat) (out:List V):Prop
  | mk (e':EE) (σ':St) (h:m σ=some (e',σ')) (hI:I e') (x:Ext σ₀ σ') (g:σ'[k]?=some (.lst out)) (keep:∀ j cl,j≠k→σ[j]?=some cl→σ'[j]?=some cl)
theorem G_run {c : Nat} {elt : CE} {t : Tg} {ifs : List CE} {p : V → Bool} {g : V → V} {k : Nat} {σ₀ : St} (hk : σ₀.length ≤ k) (I : EE → Prop) {vals : List V} : ∀ (_ : ∀ v ∈ vals, ∀ (q : Nat) (e : EE) (σ : St), I e → Ext σ₀ σ →
      ∃ e1,assignT e t v=some e1∧I e1∧∃ σ1,allT ((fs (q+c)).T e1) ifs σ=some (p v,σ1)∧Ext σ σ1∧(p v=true→∃ σ2,(fs (q+c)).E e1 elt σ1=some (g v,σ2)∧Ext σ1 σ2))
      {N:Nat} {src:Src} {e:EE} {σ:St} {acc:List V},c+vals.length+1≤N→I e→Ext σ₀ σ→Gives σ₀ src vals→tgOk t src=true→isNil src=false→σ[k]?=some (.lst acc)→acc.length+vals.length≤4096 →
      GRes ((fs N).G e elt t src ifs [] k) σ σ₀ I k (acc++(vals.filter p).map g):=by
  induction vals with
  | nil =>
    intro _ N src e σ acc hN hI hx hs ht hn ha hl
    obtain ⟨M,rfl⟩:=Nat.exists_eq_succ_of_ne_zero (Nat.ne_of_gt (Nat.lt_of_lt_of_le (Nat.succ_pos _) hN))
    exact ⟨e,σ,grd (by rw [ht,hn]; rfl) (bnd (hs.at hx).nil rfl),hI,hx,(List.append_nil acc).symm ▸ ha,fun j cl _ h=>h⟩
  | cons v vals ih =>
    intro H N src e σ acc hN hI hx hs ht hn ha hl
    obtain ⟨M,rfl⟩:=Nat.exists_eq_succ_of_ne_zero (Nat.ne_of_gt (Nat.lt_of_lt_of_le (Nat.succ_pos _) hN))
    have hM:c+vals.length+1≤M:=Nat.le_of_succ_le_succ hN
    refine hid fun GG kk=>?_
    refine exE ((hs.at hx).cons ht hn) fun src' zz=>anE zz fun hnx zz=>anE zz fun hs' zz=>anE zz fun ht' hn'=>?_
    refine kk ?_
    clear kk GG
    replace hs':=hs' hx hs
    obtain ⟨q,rfl⟩:∃ q,M=q+c:=⟨M - c,(Nat.sub_add_cancel (Nat.le_trans (Nat.le_add_right c vals.length) (Nat.le_of_succ_le hM))).symm⟩
    refine hid fun GG kk=>?_
    obtain ⟨ee,h1,hI1,σ1,h2,x1,h3⟩:=H v (.head _) q e σ hI hx
    refine kk ?_
    clear kk GG
    have step:∀ {r},tf (pushE (fs (q+c)) ee elt k ((fs (q+c)).G ee elt t src' ifs [] k)) ((fs (q+c)).G ee elt t src' ifs [] k) (p v) σ1=r→(fs (q+c+1)).G e elt t src ifs [] k σ=r:=fun h=>grd (by rw [ht,hn]; rfl) (bnd hnx (ofB (o:=assignT e t v) h1 (bnd h2 h)))
    have hl':acc.length+1+vals.length≤4096:=Nat.le_trans (Nat.le_of_eq (Nat.add_right_comm ..)) hl
    cases hp:p v with
    | false =>
      rw [hp] at step
      obtain ⟨e',σ',r1,r2,r3,r4,r5⟩:=ih (fun v' hv'=>H v' (.tail _ hv')) hM hI1 (hx.trans x1) hs' ht' hn' (x1.at ha) (Nat.le_trans (Nat.add_le_add_right (Nat.le_succ _) _) hl')
      exact ⟨e',σ',step r1,r2,r3,(by rw [List.filter_cons_of_neg (by rw [hp]; exact Bool.noConfusion)]; exact r4),fun j cl hj h=>r5 j cl hj (x1.at h)⟩
    | true =>
      rw [hp] at step
      refine hid fun GG kk=>?_
      refine exA (h3 hp) fun σ2 h4 x2=>?_
      have ha2:=x2.at (x1.at ha)
      have hk2:k < σ2.length:=(List.getElem?_eq_some_iff.mp ha2).1
      obtain ⟨e',σ',r1,r2,r3,r4,r5⟩:=ih (fun v' hv'=>H v' (.tail _ hv')) (acc:=acc++[g v]) hM hI1 (((hx.trans x1).trans x2).set hk _) hs' ht' hn' (List.getElem?_set_self hk2) (by rw [List.length_append]; exact hl')
      refine kk ?_
      clear kk GG
      exact ⟨e',σ',step (bnd h4 (bnd (getLst_at ha2) (grd (big_of (Nat.le_trans (Nat.le_succ_of_le (Nat.le_refl _)) (Nat.le_trans (Nat.le_add_right _ _) hl'))) (bnd (setLst_at ha2) r1)))),r2,r3,
        (by rw [List.filter_cons_of_pos hp]; exact List.append_cons acc (g v) _ ▸ r4),fun j cl hj h=>r5 j cl hj ((List.getElem?_set_ne (Ne.symm hj)).trans (x2.at (x1.at h)))⟩
theorem comp_runN {c:Nat} {elt:CE} {t:Tg} {it:It} {ifs:List CE} {p:V→Bool} {g:V→V} {fr:List Nat} {e:EE} {σ σ1:St} {src:Src} (vals:List V) (I:EE→Prop)
    (hit:∀ q,evIt ((fs (q+c)).E e) it σ=some (src,σ1)) (x1:Ext σ σ1) (hs:Gives σ1 src vals) (ht:tgOk t src=true) (hn:isNil src=false) (hI:I ⟨[],only fr e.cel,0⟩)
    (H:∀ v∈vals,∀ (q:Nat) (e:EE) (σ:St),I e→Ext σ1 σ→∃ e1,assignT e t v=some e1∧I e1∧∃ σ1,allT ((fs (q+c)).T e1) ifs σ=some (p v,σ1)∧Ext σ σ1∧(p v=true→∃ σ2,(fs (q+c)).E e1 elt σ1=some (g v,σ2)∧Ext σ1 σ2)) (hl:vals.length≤4096) (N:Nat) (hN:c+vals.length+1≤N) :
    ∃ k σ',(fs (N+1)).E e (.comp fr elt [.mk t it ifs]) σ=some (.lst k,σ')∧Ext σ σ'∧σ'[k]?=some (.lst ((vals.filter p).map g))∧σ1.length≤k:=by
  obtain ⟨q,rfl⟩:∃ q,N=q+c:=⟨N - c,(Nat.sub_add_cancel (Nat.le_trans (Nat.le_add_right c vals.length) (Nat.le_of_succ_le hN))).symm⟩
  obtain ⟨e',σ',r1,r2,r3,r4,r5⟩:=G_run (elt:=elt) (Nat.le_refl _) I H (src:=src) (e:=⟨[],only fr e.cel,0⟩) (σ:=σ1++[.lst []]) (acc:=[]) hN hI ⟨_,rfl⟩ hs ht hn List.getElem?_concat_length ((Nat.zero_add _).symm ▸ hl)
  exact ⟨σ1.length,σ',bnd (hit q) (bnd r1 rfl),x1.trans r3,r4,Nat.le_refl _⟩
theorem L_run {c : Nat} {t : Tg} {b : List CS} {σ₀ : St} (I : Nat → EE → St → Prop) (R : V → St → Prop) (hx : ∀ i e σ, I i e σ → Ext σ₀ σ) {vals : List V} : ∀ {i : Nat} (_ : ∀ (j : Nat) (v : V), vals[j]? = some v → ∀ (q : Nat) (e : EE) (σ : St), I (i + j) e σ →
      ∃ e1,assignT e t v=some e1∧∃ r σ',execsV (fs (q+c)).S e1 b σ=some (r,σ')∧(r.1=.next∧I (i+j+1) r.2 σ'∨∃ u,r.1=.ret u∧R u σ')) {N:Nat} {src:Src} {e:EE} {σ:St},c+vals.length+1≤N→I i e σ→Gives σ₀ src vals→tgOk t src=true→isNil src=false →
      ∃ r σ',(fs N).L e t src b σ=some (r,σ')∧(r.1=.next∧I (i+vals.length) r.2 σ'∨∃ u,r.1=.ret u∧R u σ'):=by
  induction vals with
  | nil =>
    intro i _ N src e σ hN hI hs ht hn
    obtain ⟨M,rfl⟩:=Nat.exists_eq_succ_of_ne_zero (Nat.ne_of_gt (Nat.lt_of_lt_of_le (Nat.succ_pos _) hN))
    exact ⟨(.next,e),σ,grd ht (bnd (hs.at (hx _ _ _ hI)).nil rfl),.inl ⟨rfl,hI⟩⟩
  | cons v vals ih =>
    intro i H N src e σ hN hI hs ht hn
    obtain ⟨M,rfl⟩:=Nat.exists_eq_succ_of_ne_zero (Nat.ne_of_gt (Nat.lt_of_lt_of_le (Nat.succ_pos _) hN))
    have hM:c+vals.length+1≤M:=Nat.le_of_succ_le_succ hN
    have hX:=hx _ _ _ hI
    refine hid fun GG kk=>?_
    obtain ⟨src',hnx,hs',ht',hn'⟩:=(hs.at hX).cons ht hn
    refine kk ?_
    clear kk GG
    replace hs':=hs' hX hs
    obtain ⟨q,rfl⟩:∃ q,M=q+c:=⟨M - c,(Nat.sub_add_cancel (Nat.le_trans (Nat.le_add_right c vals.length) (Nat.le_of_succ_le hM))).symm⟩
    refine hid fun GG kk=>?_
    obtain ⟨ee,h1,⟨fl,e5⟩,σ1,h2,h3⟩:=H 0 v rfl q e σ hI
    refine kk ?_
    clear kk GG
    have step:∀ {r},fl.el ((fs (q+c)).L e5 t src' b) (fun v=>X.pure (.ret v,e5)) σ1=r→(fs (q+c+1)).L e t src b σ=r:=fun h=>grd ht (bnd hnx (ofB (o:=assignT e t v) h1 (bnd h2 h)))
    rcases h3 with ⟨rfl,hI'⟩ | ⟨u,rfl,hR⟩
    · obtain ⟨r',σ',r1,r2⟩:=ih (i:=i+1) (fun j v' hv' q e σ hI=>by
        have e':i+1+j=i+(j+1):=Nat.add_right_comm i 1 j
        rw [e'] at hI ⊢
        exact H (j+1) v' hv' q e σ hI) hM hI' hs' ht' hn'
      exact ⟨r',σ',step r1,(Nat.add_right_comm i 1 vals.length ▸ r2:r'.1=.next∧I (i+vals.length+1) r'.2 σ'∨_)⟩
    · exact ⟨_,_,step rfl,.inr ⟨u,rfl,hR⟩⟩
theorem L_runN {c:Nat} {t:Tg} {b:List CS} {σ₀:St} (I:Nat→EE→St→Prop) (R:V→St→Prop) (hx:∀ i e σ,I i e σ→Ext σ₀ σ) (vals:List V)
    (H:∀ (j:Nat) (v:V),vals[j]?=some v→∀ (q:Nat) (e:EE) (σ:St),I j e σ→∃ e1,assignT e t v=some e1∧∃ r σ',execsV (fs (q+c)).S e1 b σ=some (r,σ')∧(r.1=.next∧I (j+1) r.2 σ'∨∃ u,r.1=.ret u∧R u σ'))
    (src:Src) (e:EE) (σ:St) (hI:I 0 e σ) (hs:Gives σ₀ src vals) (ht:tgOk t src=true) (hn:isNil src=false) (N:Nat) (hN:c+vals.length+1≤N) :
    ∃ r σ',(fs N).L e t src b σ=some (r,σ')∧(r.1=.next∧I vals.length r.2 σ'∨∃ u,r.1=.ret u∧R u σ'):=by
  have:=L_run I R hx (i:=0) (fun j v hv q e σ hI=>by rw [Nat.zero_add] at hI ⊢; exact H j v hv q e σ hI) hN hI hs ht hn
  rw [Nat.zero_add] at this
  exact this
theorem at_last {σ:St} {c:Cl}:(σ++[c])[σ.length]?=some c:=List.getElem?_concat_length
theorem lRng {n:Nat} {l c:List (Nat × V)} {f x:Nat} {i:Int} {is:List Int} {ss:List CS} {σ σ1:St} {fl:Fl} {e1:EE} {q:Option ((Fl × EE) × St)} (h:execsV (fs n).S ⟨(x,.int i)::l,c,f⟩ ss σ=some ((fl,e1),σ1)) (k:fl.el ((fs n).L e1 (.nm (.loc x)) (.rng is) ss) (fun v=>X.pure (.ret v,e1)) σ1=q):(fs (n+1)).L ⟨l,c,f⟩ (.nm (.loc x)) (.rng (i::is)) ss σ=q :=
  have k2:nx (X.pure (.next,(⟨l,c,f⟩:EE))) (fun v src'=>X.bind (X.of (assignT ⟨l,c,f⟩ (.nm (.loc x)) v)) fun e1=>X.bind (execsV (fs n).S e1 ss) fun y=>y.1.el ((fs n).L y.2 (.nm (.loc x)) src' ss) fun v=>X.pure (.ret v,y.2)) (some (.int i,.rng is)) σ=q:=bnd h k
  grd (b:=true) rfl (bnd (m:=srcNext (.rng (i::is))) (a:=some (.int i,.rng is)) rfl k2)
theorem lRng0 {n x:Nat} {e:EE} {ss:List CS} {σ:St}:(fs (n+1)).L e (.nm (.loc x)) (.rng []) ss σ=some ((.next,e),σ):=rfl
theorem nd {p:Prop} [Decidable p] (h:p):(!decide p)=false:=congrArg not (decide_eq_true h)
theorem ndF {p:Prop} [Decidable p] (h:¬p):(!decide p)=true:=congrArg not (decide_eq_false h)
noncomputable def pickC (x:Str) (i:Int):Option Nat:=(seqIndex? i x.length).bind (x.cps[·]?)
section
variable {σ:St} {i j:Int} {v:V}
theorem iteL {k:Nat} {xs:List V} (hs:small i=true) (h:σ[k]?=some (.lst xs)) (hp:pickV xs i=some v):itemV (.lst k) (.int i) σ=some (v,σ):=grd hs (bnd (getLst_at h) (congrArg (fun o=>X.of o σ) hp))
theorem iteT {xs:List V} (hs:small i=true) (hp:pickV xs i=some v):itemV (.tup xs) (.int i) σ=some (v,σ):=grd hs (congrArg (fun o=>X.of o σ) hp)
theorem iteS {x:Str} {c:Nat} (hs:small i=true) (hp:pickC x i=some c):itemV (.str x) (.int i) σ=some (.str ⟨#[c]⟩,σ):=grd hs (ofB (o:=pickC x i) hp rfl)
theorem oi_none:optInt none=some none:=rfl
theorem oi_some (h:small i=true):optInt (some (.int i))=some (some i):=congrArg (fun b=>Bool.casesOn (motive:=fun _=>Option (Option Int)) b none (some (some i))) h
theorem slcS {x:Str} {lo hi:Option V} {a b:Option Int} (h1:optInt lo=some a) (h2:optInt hi=some b) (h:x.length≤4096):sliceV (.str x) lo hi σ=some (.str (Txt.slice x a b),σ):=ofB h1 (ofB h2 (grd (big_of h) rfl))
theorem slcL {k:Nat} {xs:List V} {lo hi:Option V} {a b:Option Int} (h1:optInt lo=some a) (h2:optInt hi=some b) (hk:σ[k]?=some (.lst xs)) (h:xs.length≤4096):sliceV (.lst k) lo hi σ=some (.lst σ.length,σ++[.lst (cut xs a b)]):=ofB h1 (ofB h2 (bnd (getLst_at hk) (grd (big_of h) rfl)))
theorem slcZ {xs:List Int} {lo hi:Option V} {a b:Option Int} (h1:optInt lo=some a) (h2:optInt hi=some b) (h:xs.length≤4096):sliceV (.scr xs) lo hi σ=some (.lst σ.length,σ++[.lst ((cut xs a b).map .int)]):=ofB h1 (ofB h2 (grd (big_of h) rfl))
theorem small_nat {n:Nat} (h:n≤1000000000):small (n:Int)=true:=decide_eq_true (Nat.lt_of_le_of_lt h (by decide))
theorem shaped_str {a:Str} (h:PyData.strOk a=true):shaped (.str a)=true:=by unfold shaped; rw [show PyData.canLay0 (.str a)=PyData.strOk a from rfl,h]; rfl
theorem eqV_ap {a b:V} {d d':PyData} (h1:toD 4 σ a=some d) (h2:toD 4 σ b=some d') (h3:shaped d=true) (h4:shaped d'=true):eqV a b σ=some (PyData.eqv d d',σ):=by
  unfold eqV
  rw [h1,h2]
  exact grd (by rw [h3,h4]; rfl) rfl
theorem eq_ap {a b:V} {d d':PyData} (h1:toD 4 σ a=some d) (h2:toD 4 σ b=some d') (h3:shaped d=true) (h4:shaped d'=true):cmpV .eq a b σ=some (.bool (PyData.eqv d d'),σ):=bnd (eqV_ap h1 h2 h3 h4) rfl
theorem ne_ap {a b:V} {d d':PyData} (h1:toD 4 σ a=some d) (h2:toD 4 σ b=some d') (h3:shaped d=true) (h4:shaped d'=true):cmpV .ne a b σ=some (.bool (!PyData.eqv d d'),σ):=bnd (eqV_ap h1 h2 h3 h4) rfl
theorem eqv_int:PyData.eqv (.int i) (.int j)=decide (i=j):=by simp [PyData.eqv]; rfl
theorem eqv_str {a b:Str}:PyData.eqv (.str a) (.str b)=decide (a=b):=by simp [PyData.eqv]; rfl
theorem eqv_bool {a b:Bool}:PyData.eqv (.bool a) (.bool b)=decide (a=b):=by simp [PyData.eqv]; rfl
theorem eq_int:cmpV .eq (.int i) (.int j) σ=some (.bool (decide (i=j)),σ):=eqv_int ▸ eq_ap rfl rfl rfl rfl
theorem ne_int:cmpV .ne (.int i) (.int j) σ=some (.bool (!decide (i=j)),σ):=eqv_int ▸ ne_ap rfl rfl rfl rfl
theorem eq_str {a b:Str} (ha:PyData.strOk a=true) (hb:PyData.strOk b=true):cmpV .eq (.str a) (.str b) σ=some (.bool (decide (a=b)),σ):=eqv_str ▸ eq_ap rfl rfl (shaped_str ha) (shaped_str hb)
theorem ne_str {a b:Str} (ha:PyData.strOk a=true) (hb:PyData.strOk b=true):cmpV .ne (.str a) (.str b) σ=some (.bool (!decide (a=b)),σ):=eqv_str ▸ ne_ap rfl rfl (shaped_str ha) (shaped_str hb)
theorem eq_bool {a b:Bool}:cmpV .eq (.bool a) (.bool b) σ=some (.bool (decide (a=b)),σ):=eqv_bool ▸ eq_ap rfl rfl rfl rfl
theorem chr_ap (h0:0≤i) (h1:i≤1114111):callB .chr [.int i] σ=some (.str ⟨#[i.toNat]⟩,σ):=grd (by rw [decide_eq_true h0]; exact decide_eq_true (by omega)) rfl
theorem ord_ap {c:Nat}:callB .ord [.str ⟨#[c]⟩] σ=some (.int c,σ):=rfl
theorem le4 {α:Type} {xs:List α} (h:Nat.ble xs.length 4096=true):xs.length≤4096:=Nat.le_of_ble_eq_true h
theorem dec20 {a b:Nat} (h:Nat.blt (a+b) 20=true):decide (a+b < 20)=true:=decide_eq_true (Nat.le_of_ble_eq_true h)
end
set_option hygiene false in
set_option compiler.extract_closed false in
local macro_rules | `(tactic| walk_at "p")=>`(tactic| first
  | with_reducible first
    | assumption | exact rLit | exact lk_hit | apply lk_miss rfl | apply rLoc | apply rCel | exact eNil | exact kNil
    | apply eCons | apply kCons | exact pur | exact xNil | apply xCons | apply elN | apply elR | apply tfT
    | apply tfF | refine tfT' (by with_reducible assumption) ?_ | refine tfF' (by with_reducible assumption) ?_ | apply sAsgL | apply sAsgC | apply sIfs | apply sRet | apply sAsgLL
    | apply sAsgCL | apply sAsgLC | apply sAsgLLL | apply sExpr | apply sAug | apply sAssert | apply sFor | apply sWhil
    | apply rCall | apply rMeth | apply rBin | apply rCmp | apply rItem | apply rSlice | apply rLst | apply rTup
    | apply rNeg | apply rOr | apply rIte | apply rAttr | apply rRev | apply cGlob | apply cBi | apply cTy
    | apply mBi | apply mGet | apply mAdd | apply mConv | apply tCmp | apply tVar | apply tCall | apply tMeth
    | apply tNot | apply tAnd2 | apply tAnd3 | exact truth_b | exact truth_n | exact aNil | apply aOne | apply aCons
    | exact oNone | apply oSome | exact add_int | exact sub_int | apply mul_ap | apply mod_int | apply fdiv_int | apply add_str
    | exact lt_int | exact gt_int | exact ge_int | exact le_int | exact eq_int | exact ne_int | exact at_last | apply iteL
    | apply iteT | apply iteS | apply chr_ap | exact ord_ap | apply slcS | apply slcL | apply slcZ | exact oi_none
    | apply oi_some | apply iLst | apply iStr | apply iEnum | apply iRng | apply rng1 | apply rng2 | apply rng3'
    | apply lRng | exact lRng0 | apply is_ap | apply isnot_ap | apply rcvL | apply rcvI
  | ((with_reducible apply le4); kernel_rfl) | ((with_reducible apply dec20); kernel_rfl) | ((with_reducible show small _=true); kernel_rfl) | ((with_reducible show (_:Int) < _); decide) | ((with_reducible show (_:Int)≤_); decide) | ((with_reducible show pickV _ _=some _); exact rfl) | ((with_reducible show isV _ _=some _); exact rfl) | ((with_reducible show rcv _ _ _=some _); exact rfl)
  | with_reducible refine tfT' (by decide) ?_ | with_reducible refine tfF' (by decide) ?_)
noncomputable def okI (o:Option V) (p:Int→Bool):Bool:=Option.casesOn (motive:=fun _=>Bool) (o.bind int?) false p
theorem okI_elim {o:Option V} {p:Int→Bool} (h:okI o p=true):∃ c,o=some (.int c)∧p c=true:=by
  induction o with
  | none=>cases h
  | some v=>cases v with
    | int c=>exact ⟨c,rfl,h⟩
    | _=>cases h
noncomputable def inC (c:Int) (p:Int→Bool):Bool:=decide (0≤c) && (decide (c≤1114111) && p c)
theorem inC_elim {c:Int} {p:Int→Bool} (h:inC c p=true):0≤c∧c≤1114111∧c.toNat < 1114112∧p c=true :=
  have h1:=and_t h; have h2:=and_t h1.2; have h3:=of_decide_eq_true h1.1; have h4:=of_decide_eq_true h2.1
  ⟨h3,h4,(Int.toNat_lt h3).mpr (Int.lt_add_one_of_le h4),h2.2⟩
theorem run_words (m:Nat) (σ:St):(fs (m+10)).C 300 [] [] σ=some (.lst σ.length,σ++[.lst [.str "km",.str "kp",.str "ka",.str "mp",.str "ma",.str "pa",.str "kmp",.str "kma",.str "kpa",.str "mpa",.str "kmpa"]]):=by
  apply R300
  repeat walk_at "p"
theorem run_unseen (j m:Nat) (hj:j < 27) (σ:St):∃ (c:Nat) (σ':St),(fs (m+10)).C 307 [.int j] [] σ=some (.str ⟨#[c]⟩,σ')∧Ext σ σ'∧isB1 c=true∧c < 0x110000:=by
  have hs:small (j:Int)=true:=small_nat (Nat.le_trans (Nat.le_of_lt hj) (by decide))
  by_cases h:j < 11
  · have h':decide ((j:Int) < 11)=true:=decide_eq_true (Int.ofNat_lt.mpr h)
    have k:∀ j < 11,okI (pickV [.int 173,.int 847,.int 6150,.int 6155,.int 6156,.int 6157,.int 8203,.int 8204,.int 8205,.int 8288,.int 65279] (j:Nat)) (fun c=>inC c fun c=>isB1 (c.toNat:Nat))=true:=by decide +kernel
    refine hid fun GG kk=>?_
    obtain ⟨c,h1,h2⟩:=okI_elim (k j h)
    obtain ⟨h3,h4,h5,h6⟩:=inC_elim h2
    refine kk ?_
    clear kk GG
    refine ⟨_,σ++[.lst [.int 173,.int 847,.int 6150,.int 6155,.int 6156,.int 6157,.int 8203,.int 8204,.int 8205,.int 8288,.int 65279]],?_,⟨_,rfl⟩,h6,h5⟩
    apply R307
    repeat walk_at "p"
  · have h':decide ((j:Int) < 11)=false:=decide_eq_false fun h'=>h (Int.ofNat_lt.mp h')
    have k:∀ j < (27:Nat),j < 11∨inC (65013+(j:Int)) (fun c=>isB1 (c.toNat:Nat))=true:=by decide +kernel
    refine hid fun GG kk=>?_
    obtain ⟨h3,h4,h5,h6⟩:=inC_elim ((k j hj).resolve_left h)
    refine kk ?_
    clear kk GG
    refine ⟨_,σ,?_,.refl _,h6,h5⟩
    apply R307
    repeat walk_at "p"
noncomputable def besideL:List Nat:=[172,174,846,848,6149,6151,6154,6158,8202,8206,8287,8289,65278,65280,65023,65040]
theorem run_beside (j m:Nat) (hj:j < 16) (σ:St):∃ (c:Nat) (σ':St),(fs (m+10)).C 314 [.int j] [] σ=some (.str ⟨#[c]⟩,σ')∧Ext σ σ'∧besideL[j]?=some c:=by
  have hs:small (j:Int)=true:=small_nat (Nat.le_trans (Nat.le_of_lt hj) (by decide))
  have k:∀ j < 16,okI (pickV [.int 172,.int 174,.int 846,.int 848,.int 6149,.int 6151,.int 6154,.int 6158,.int 8202,.int 8206,.int 8287,.int 8289,.int 65278,.int 65280,.int 65023,.int 65040] (j:Nat)) (fun c=>inC c fun c=>decide (besideL[j]?=some c.toNat))=true:=by decide +kernel
  obtain ⟨c,h1,h2⟩:=okI_elim (k j hj)
  obtain ⟨h3,h4,_,h5⟩:=inC_elim h2
  refine ⟨_,σ++[.lst [.int 172,.int 174,.int 846,.int 848,.int 6149,.int 6151,.int 6154,.int 6158,.int 8202,.int 8206,.int 8287,.int 8289,.int 65278,.int 65280,.int 65023,.int 65040]],?_,⟨_,rfl⟩,of_decide_eq_true h5⟩
  apply R314
  repeat walk_at "p"
noncomputable def mapC (c:Nat):Str:=(b3At c).getD (lowered ⟨#[c]⟩)
noncomputable def prepC (c:Nat):List Nat:=Bool.casesOn (motive:=fun _=>List Nat) (isB1 c) (mapC c).cps.toList []
noncomputable def letters:List Nat:=[107,109,112,97]
theorem run_letter (s j m:Nat) (hs:s∈letters) (hj:j < 12) (σ:St):∃ (c:Nat) (σ':St),(fs (m+12)).C 321 [.str ⟨#[s]⟩,.int j] [] σ=some (.str ⟨#[c]⟩,σ')∧Ext σ σ'∧prepC c=[s]∧c < 0x110000:=by
  by_cases h0:j=0
  · subst h0
    have e:decide ((0:Nat)=(0:Int))=true:=rfl
    have k:∀ s∈letters,prepC s=[s]∧s < 0x110000:=by decide +kernel
    refine ⟨_,_,?_,.refl _,k s hs⟩
    apply R321
    repeat walk_at "p"
  have e0:decide ((j:Int)=(0:Int))=false:=decide_eq_false fun h=>h0 (Int.ofNat.inj h)
  by_cases h1:j=1
  · subst h1
    have e:decide ((1:Nat)=(1:Int))=true:=rfl
    have k:∀ s∈letters,inC ((s:Int) - 32) (fun c=>decide (prepC c.toNat=[s]))=true:=by decide +kernel
    refine hid fun GG kk=>?_
    obtain ⟨k1,k2,k3,k4⟩:=inC_elim (k s hs)
    refine kk ?_
    clear kk GG
    refine ⟨_,σ,?_,.refl _,of_decide_eq_true k4,k3⟩
    apply R321
    repeat walk_at "p"
  have e1:decide ((j:Int)=(1:Int))=false:=decide_eq_false fun h=>h1 (Int.ofNat.inj h)
  have k:∀ s∈letters,∀ j < (12:Nat),j=0∨j=1∨(small ((j:Int) - 2) && okI (pickV [.int 0,.int 1,.int 2,.int 4,.int 7,.int 8,.int 9,.int 10,.int 11,.int 12] ((j:Int) - 2)) (fun c=>decide (c.natAbs≤4096) && inC (119711+52 * c+(s:Int)) fun c=>decide (prepC c.toNat=[s])))=true:=by decide +kernel
  refine hid fun GG kk=>?_
  obtain ⟨hj0,k⟩:=and_t (((k s hs j hj).resolve_left h0).resolve_left h1)
  obtain ⟨c,h2,h3⟩:=okI_elim k
  obtain ⟨h4,h5⟩:=and_t h3
  obtain ⟨k1,k2,k3,k4⟩:=inC_elim h5
  refine kk ?_
  clear kk GG
  have h4:=of_decide_eq_true h4
  have h8:(52:Int).natAbs≤4096:=by decide
  refine ⟨_,σ++[.lst [.int 0,.int 1,.int 2,.int 4,.int 7,.int 8,.int 9,.int 10,.int 11,.int 12]],?_,⟨_,rfl⟩,of_decide_eq_true k4,k3⟩
  apply R321
  repeat walk_at "p"
@[reducible] noncomputable def cut1 (r:Str) (i:Int):Str:=Txt.slice r none (some i)++Txt.slice r (some (i+1)) none
@[reducible] noncomputable def kmpa:Str:="kmpa"
noncomputable def cAt (r:Str) (i:Nat):Nat:=(pickC r i).getD 0
@[reducible] noncomputable def r1 (a:Nat):Str:=cut1 kmpa a
@[reducible] noncomputable def r2 (a b:Nat):Str:=cut1 (r1 a) b
@[reducible] noncomputable def r3 (a b c:Nat):Str:=cut1 (r2 a b) c
@[reducible] noncomputable def one (c:Nat):Str:=⟨#[c]⟩
noncomputable def ordS (q:Nat):Str:=""++one (cAt kmpa (q % 4))++one (cAt (r1 (q % 4)) (q / 4 % 3))++one (cAt (r2 (q % 4) (q / 4 % 3)) (q / 12 % 2))++one (cAt (r3 (q % 4) (q / 4 % 3) (q / 12 % 2)) 0)
noncomputable def okStep (o r:Str) (i:Nat):Bool:=decide (pickC r i=some (cAt r i)) && (decide (o.length+1≤4096) && (decide (r.length≤4096) && (decide ((Txt.slice r none (some (i:Int))).length+(Txt.slice r (some ((i:Int)+1)) none).length≤4096) && (small i && small ((i:Int)+1)))))
theorem order_step {o r:Str} {n z:Int} {i:Nat} {loc cel fn} {σ:St} {m:Nat} (g1:lk loc 28=some (.int n)) (g2:lk loc 35=some (.str r)) (g3:lk loc 34=some (.str o)) (hz:0 < z) (hz2:z≤4096) (hi:n.fmod z=i) (h:okStep o r i=true) :
    execsV (fs (m+8)).S ⟨(36,.int z)::loc,cel,fn⟩ L338_0 σ =
      some ((.next,⟨(28,.int (n.fdiv z))::(35,.str (cut1 r i))::(34,.str (o++one (cAt r i)))::(36,.int z)::loc,cel,fn⟩),σ):=by
  refine hid fun GG kk=>?_
  obtain ⟨h1,h⟩:=and_t h
  obtain ⟨h2,h⟩:=and_t h
  obtain ⟨h3,h⟩:=and_t h
  obtain ⟨h4,h⟩:=and_t h
  obtain ⟨h5,h6⟩:=and_t h
  refine kk ?_
  clear kk GG
  have h1:=of_decide_eq_true h1
  have h2:o.length+(one (cAt r i)).length≤4096:=of_decide_eq_true h2
  have h3:=of_decide_eq_true h3
  have h4:=of_decide_eq_true h4
  rw [← hi] at h1 h4 h5 h6 ⊢
  repeat walk_at "p"
theorem fm_add {q z k:Int}:(q+z * k).fmod z=q.fmod z:=Int.add_mul_fmod_self_left ..
theorem fd_add {q z k:Int} (h:z≠0):(q+z * k).fdiv z=q.fdiv z+k:=Int.add_mul_fdiv_left _ _ h
theorem ord_steps:∀ q < (24:Nat),((decide ((q:Int).fmod 4=(q % 4:Nat)) && (decide (((q:Int).fdiv 4).fmod 3=(q / 4 % 3:Nat)) && decide ((((q:Int).fdiv 4).fdiv 3).fmod 2=(q / 12 % 2:Nat)))) &&
    (okStep "" kmpa (q % 4) && (okStep (""++one (cAt kmpa (q % 4))) (r1 (q % 4)) (q / 4 % 3) && (okStep (""++one (cAt kmpa (q % 4))++one (cAt (r1 (q % 4)) (q / 4 % 3))) (r2 (q % 4) (q / 4 % 3)) (q / 12 % 2) && okStep (""++one (cAt kmpa (q % 4))++one (cAt (r1 (q % 4)) (q / 4 % 3))++one (cAt (r2 (q % 4) (q / 4 % 3)) (q / 12 % 2))) (r3 (q % 4) (q / 4 % 3) (q / 12 % 2)) 0))))=true:=by decide +kernel
theorem run_order {n:Int} {q:Nat} (hq:q < 24) (hn:n.fmod 24=q) (m:Nat) (σ:St):(fs (m+20)).C 338 [.int n] [] σ=some (.str (ordS q),σ):=by
  have e1:rangeOf 4 0 (-1)=some [4,3,2,1]:=rfl
  refine hid fun GG kk=>?_
  obtain ⟨K,K4⟩:=and_t (ord_steps q hq)
  obtain ⟨i1,K⟩:=and_t K
  obtain ⟨i2,i3⟩:=and_t K
  obtain ⟨K1,K4⟩:=and_t K4
  obtain ⟨K2,K4⟩:=and_t K4
  obtain ⟨K3,K4⟩:=and_t K4
  refine kk ?_
  clear kk GG
  have e:n=q+4 * (3 * (2 * n.fdiv 24)):=by rw [← Int.mul_assoc,← Int.mul_assoc,← hn]; exact (Int.fmod_add_mul_fdiv n 24).symm
  generalize n.fdiv 24=k at e
  have d1:n.fdiv 4=_:=(congrArg (Int.fdiv · 4) e).trans (fd_add (by decide))
  have d2:(n.fdiv 4).fdiv 3=_:=(congrArg (Int.fdiv · 3) d1).trans (fd_add (by decide))
  have j1:n.fmod 4=(q % 4:Nat):=(congrArg (Int.fmod · 4) e).trans (fm_add.trans (of_decide_eq_true i1))
  have j2:(n.fdiv 4).fmod 3=(q / 4 % 3:Nat):=(congrArg (Int.fmod · 3) d1).trans (fm_add.trans (of_decide_eq_true i2))
  have j3:((n.fdiv 4).fdiv 3).fmod 2=(q / 12 % 2:Nat):=(congrArg (Int.fmod · 2) d2).trans (fm_add.trans (of_decide_eq_true i3))
  have j4:(((n.fdiv 4).fdiv 3).fdiv 2).fmod 1=(0:Nat):=Int.fmod_one _
  clear e d1 d2
  apply R338
  repeat (first | with_reducible apply order_step | walk_at "p")
  exact rfl
theorem isin_b1 {i:Int} {σ:St}:cmpV .isin (.int i) (.glob 89) σ=some (.bool (isB1 i),σ):=rfl
theorem dget_ap {i:Int} {o:Option Str} (h:b3At i=o) {σ:St}:callB .dget [.glob 100,.int i] σ=some ((o.map V.str).getD .none,σ):=h ▸ rfl
theorem lower_ap {x:Str} {σ:St} (h:(lowered x).length≤4096):callB .lower [.str x] σ=some (.str (lowered x),σ):=grd (big_of h) rfl
theorem upper_ap {x:Str} {σ:St} (h:(uppered x).length≤4096):callB .upper [.str x] σ=some (.str (uppered x),σ):=grd (big_of h) rfl
theorem run_b1 {c m:Nat} {σ:St}:(fs (m+8)).C 99 [.str ⟨#[c]⟩] [] σ=some (.bool (isB1 c),σ):=by
  apply R99
  repeat (first | with_reducible exact isin_b1 | walk_at "p")
theorem run_b3 {c m:Nat} {σ:St} (h:(mapC c).length≤4096):(fs (m+10)).C 145 [.str ⟨#[c]⟩] [] σ=some (.str (mapC c),σ):=by
  unfold mapC at h ⊢
  cases hb:b3At c with
  | some y =>
    have d:∀ {σ:St},callB .dget [.glob 100,.int c] σ=some (.str y,σ):=dget_ap hb
    show _=some (V.str y,σ)
    apply R145
    repeat (first | with_reducible exact d | walk_at "p")
  | none =>
    rw [hb] at h
    have d:∀ {σ:St},callB .dget [.glob 100,.int c] σ=some (.none,σ):=dget_ap hb
    have h:(lowered ⟨#[c]⟩).length≤4096:=h
    show _=some (V.str (lowered ⟨#[c]⟩),σ)
    apply R145
    repeat (first | with_reducible exact d | with_reducible exact lower_ap h | walk_at "p")
noncomputable def headC (v:V):Nat:=((str? v).getD default).cps.toList.headD 0
theorem vStrs_map (l:List Str):vStrs (l.map .str)=some l:=by
  induction l with
  | nil=>rfl
  | cons a l ih=>exact congrArg (Option.map (a::·)) ih
theorem glued_empty (l:List Str):Builtin.Str.glued "" l=⟨(l.flatMap (·.cps.toList)).toArray⟩:=by
  have go:∀ (l:List Str) (a:Array Nat),(l.foldl (fun acc p=>acc++("":Str).cps++p.cps) a).toList=a.toList++l.flatMap (·.cps.toList):=by
    intro l
    induction l with
    | nil=>exact fun a=>(List.append_nil _).symm
    | cons x l ih=>exact fun a=>(ih _).trans (by rw [Array.toList_append,show a++("":Str).cps=a from Array.append_empty]; exact List.append_assoc ..)
  cases l with
  | nil=>rfl
  | cons x l=>exact congrArg Str.mk (Array.toList_inj.mp (go l x.cps))
theorem join_ap {x:Str} {k:Nat} {ys:List Str} {σ:St} (h:σ[k]?=some (.lst (ys.map .str))) (hl:(ys.map (·.length)).sum+ys.length * x.length≤4096):callB .join [.str x,.lst k] σ=some (.str (Builtin.Str.glued x ys),σ):=bnd (getLst_at h) (ofB (vStrs_map ys) (grd (big_of hl) rfl))
theorem flat_len {α β:Type} {f:α→List β} {b:Nat} {l:List α} (h:∀ a∈l,(f a).length≤b):(l.flatMap f).length≤b * l.length:=by
  induction l with
  | nil=>exact Nat.zero_le _
  | cons a l ih =>
    have h:=List.forall_mem_cons.mp h
    rw [List.flatMap_cons,List.length_append,Nat.add_comm]
    exact Nat.add_le_add (ih h.2) h.1
theorem flat_prep {l:List Nat}:(((l.filter fun c:Nat=>isB1 c == false).map mapC).flatMap (·.cps.toList))=l.flatMap prepC:=by
  induction l with
  | nil=>rfl
  | cons c l ih =>
    rw [List.flatMap_cons,← ih]
    unfold prepC
    cases hb:isB1 c with
    | true=>rw [List.filter_cons_of_neg (by rw [hb]; exact Bool.noConfusion)]; rfl
    | false=>rw [List.filter_cons_of_pos (by rw [hb]; rfl)]; rfl
theorem run_prepared (x:Str) (m:Nat) (σ:St) (hx:∀ c∈x.cps.toList,(prepC c).length≤10) (hl:x.length≤16):∃ σ',(fs (m+50)).C 331 [.str x] [] σ=some (.str ⟨(x.cps.toList.flatMap prepC).toArray⟩,σ')∧Ext σ σ':=by
  have hl:x.cps.toList.length≤16:=hl
  have hlm:(x.cps.toList.map fun c=>V.str ⟨#[c]⟩).length≤16:=by rw [List.length_map]; exact hl
  obtain ⟨k,σ',h1,h2,h3,_⟩:=comp_runN (c:=12) (elt:=.call (.lit (.glob 145)) [.var (.loc 33)] []) (t:=.nm (.loc 33)) (it:=.of (.var (.loc 30))) (ifs:=[.cmp .is (.call (.lit (.glob 99)) [.var (.loc 33)] []) (.lit (.bool false))]) (p:=fun v=>isB1 (headC v) == false) (g:=fun v=>.str (mapC (headC v))) (fr:=[])
    (e:=⟨[(30,.str x)],[],331⟩) (σ:=σ) (σ1:=σ) (src:=.str x.cps.toList) (x.cps.toList.map fun c=>.str ⟨#[c]⟩) (fun _=>True) (fun q=>iStr rfl) (.refl _) rfl rfl rfl trivial
    (fun v hv q e σ2 _ _=>by
      obtain ⟨c,hc,rfl⟩:=List.mem_map.mp hv
      refine ⟨⟨_::e.loc,e.cel,e.fn⟩,rfl,trivial,σ2,?_,.refl _,fun hp=>⟨σ2,?_,.refl _⟩⟩
      · show _=some (isB1 c == false,σ2)
        repeat (first | with_reducible exact run_b1 | walk_at "p")
      · have hb:isB1 c=false:=eq_of_beq hp
        have hm:=hx c hc
        unfold prepC at hm
        rw [hb] at hm
        have hm:(mapC c).length≤4096:=Nat.le_trans hm (by decide)
        show _=some (V.str (mapC c),σ2)
        repeat (first | with_reducible exact run_b3 hm | walk_at "p"))
    (Nat.le_trans hlm (by decide)) (m+46) (Nat.le_trans (Nat.succ_le_succ (Nat.add_le_add_left hlm 12)) (Nat.le_add_left 29 _))
  have e3:((x.cps.toList.map fun c=>V.str ⟨#[c]⟩).filter fun v=>isB1 (headC v) == false).map (fun v=>V.str (mapC (headC v)))=((x.cps.toList.filter fun c:Nat=>isB1 c == false).map mapC).map .str:=by
    rw [List.filter_map,List.map_map,List.map_map]
    rfl
  rw [e3] at h3
  refine ⟨σ',?_,h2⟩
  have hj:=join_ap (x:="") h3 (by
    have:=flat_len hx
    rw [← flat_prep,List.length_flatMap] at this
    exact Nat.le_trans this (Nat.le_trans (Nat.mul_le_mul_left 10 hl) (by decide)))
  rw [glued_empty,flat_prep] at hj
  apply R331
  repeat walk_at "p"
theorem seqI {i n:Nat} (h:i < n):seqIndex? (i:Int) n=some i:=by
  unfold seqIndex?
  rw [if_neg (Int.not_lt.mpr (Int.natCast_nonneg i))]
  show (if (decide ((0:Int)≤i) && decide ((i:Int) < n))=true then some i else none)=_
  rw [decide_eq_true (Int.natCast_nonneg i),decide_eq_true (Int.ofNat_lt.mpr h)]
  rfl
theorem pick_nat {l:List V} {i:Nat} {v:V} (h:l[i]?=some v):pickV l (i:Int)=some v:=(congrArg (Option.bind · (l[·]?)) (seqI (List.getElem?_eq_some_iff.mp h).1)).trans h
theorem len_str {x:Str} {σ:St} (h:x.length≤4096):callB .len [.str x] σ=some (.int x.length,σ):=grd (big_of h) rfl
theorem len_lst {k:Nat} {xs:List V} {σ:St} (h:σ[k]?=some (.lst xs)) (hl:xs.length≤4096):callB .len [.lst k] σ=some (.int xs.length,σ):=bnd (getLst_at h) (grd (big_of hl) rfl)
noncomputable def DOk (v:V) (d:PyData):Prop:=(∀ σ,toD 3 σ v=some d)∧d.canLay0=true∧d.depth≤8
theorem DOk.int (i:Int):DOk (.int i) (.int i):=⟨fun _=>rfl,rfl,Nat.zero_le 8⟩
theorem DOk.str {x:Str} (h:PyData.strOk x=true):DOk (.str x) (.str x):=⟨fun _=>rfl,h,Nat.zero_le 8⟩
noncomputable def DOks:List V→List PyData→Prop:=L2 DOk
theorem DOks.map {σ:St} {vs:List V} {ds:List PyData} (h:DOks vs ds):mapO (toD 3 σ) vs=some ds:=by
  induction h with
  | nil=>rfl
  | cons a b ih =>
    show (toD 3 σ _).bind (fun b=>(mapO (toD 3 σ) _).map (b::·))=_
    rw [a.1 σ,ih]; rfl
theorem DOks.laid {vs:List V} {ds:List PyData} (h:DOks vs ds):PyData.canLayAll0 ds=true∧PyData.depthAll ds≤8:=by
  induction h with
  | nil=>exact ⟨rfl,Nat.zero_le 8⟩
  | cons a b ih =>
    refine ⟨?_,Nat.max_le.mpr ⟨a.2.2,ih.2⟩⟩
    show (PyData.canLay0 _ && PyData.canLayAll0 _)=true
    rw [a.2.1,ih.1]; rfl
theorem toD_lst {σ:St} {k:Nat} {xs:List V} {ds:List PyData} (h:σ[k]?=some (.lst xs)) (hd:DOks xs ds):toD 4 σ (.lst k)=some (.list ds):=(congrArg (fun o=>(clL o).bind fun xs=>(mapO (toD 3 σ) xs).map PyData.list) h).trans (congrArg (Option.map PyData.list) hd.map)
theorem shaped_list {xs:List V} {ds:List PyData} (hd:DOks xs ds):shaped (.list ds)=true:=by
  show (PyData.canLayAll0 ds && decide (PyData.depthAll ds+1≤64))=true
  rw [hd.laid.1,decide_eq_true (Nat.le_trans (Nat.succ_le_succ hd.laid.2) (by decide))]; rfl
theorem eq_lst {σ:St} {k l:Nat} {xs ys:List V} {ds es:List PyData} (h:σ[k]?=some (.lst xs)) (h':σ[l]?=some (.lst ys)) (hd:DOks xs ds) (he:DOks ys es):cmpV .eq (.lst k) (.lst l) σ=some (.bool (PyData.eqvAll ds es),σ):=eq_ap (toD_lst h hd) (toD_lst h' he) (shaped_list hd) (shaped_list he)
theorem ne_lst {σ:St} {k l:Nat} {xs ys:List V} {ds es:List PyData} (h:σ[k]?=some (.lst xs)) (h':σ[l]?=some (.lst ys)) (hd:DOks xs ds) (he:DOks ys es):cmpV .ne (.lst k) (.lst l) σ=some (.bool (!PyData.eqvAll ds es),σ):=ne_ap (toD_lst h hd) (toD_lst h' he) (shaped_list hd) (shaped_list he)
theorem snoc_get {σ:St} {k:Nat} {c d:Cl} (h:σ[k]?=some c):(σ++[d])[k]?=some c:=Ext.at ⟨_,rfl⟩ h
theorem snoc_last {σ:St} {d:Cl}:(σ++[d])[σ.length]?=some d:=at_last
theorem eqvAll_nil {xs:List V} {ds:List PyData} (h:DOks xs ds):PyData.eqvAll ds []=xs.isEmpty:=by
  induction h with
  | nil=>rfl
  | cons a b=>rfl
theorem ne_new {σ:St} {k:Nat} {xs:List V} {ds:List PyData} (h:σ[k]?=some (.lst xs)) (hd:DOks xs ds):cmpV .ne (.lst k) (.lst σ.length) (σ++[.lst []])=some (.bool (!xs.isEmpty),σ++[.lst []]):=eqvAll_nil hd ▸ ne_lst (snoc_get h) snoc_last hd .nil
theorem eq_new {σ:St} {k:Nat} {xs:List V} {ds:List PyData} (h:σ[k]?=some (.lst xs)) (hd:DOks xs ds):cmpV .eq (.lst k) (.lst σ.length) (σ++[.lst []])=some (.bool xs.isEmpty,σ++[.lst []]):=eqvAll_nil hd ▸ eq_lst (snoc_get h) snoc_last hd .nil
theorem DOks.strs {l:List Str} (h:∀ x∈l,PyData.strOk x=true):DOks (l.map .str) (l.map .str):=by
  induction l with
  | nil=>exact .nil
  | cons x l ih=>exact have h:=List.forall_mem_cons.mp h; .cons (.str h.1) (ih h.2)
theorem DOks.ints {l:List Int}:DOks (l.map .int) (l.map .int):=by
  induction l with
  | nil=>exact .nil
  | cons x l ih=>exact .cons (.int x) ih
theorem eqvAll_strs (l:List Str):∀ l':List Str,PyData.eqvAll (l.map .str) (l'.map .str)=decide (l=l'):=by
  induction l with
  | nil=>exact fun l'=>by cases l' <;> rfl
  | cons x l ih =>
    intro l'
    induction l' with
    | nil=>rfl
    | cons y l' =>
      show (x == y && PyData.eqvAll (l.map .str) (l'.map .str))=_
      rw [ih l',Bool.eq_iff_iff,Bool.and_eq_true_iff,decide_eq_true_iff,decide_eq_true_iff,beq_iff_eq,List.cons.injEq]
noncomputable def tupL (v:V):List V:=V.casesOn (motive_1:=fun _=>List V) v [] (fun _=>[]) (fun _=>[]) (fun _=>[]) id (fun _=>[]) (fun _=>[]) (fun _=>[]) (fun _=>[]) (fun _=>[]) (fun _=>[]) (fun _=>[])
noncomputable def nth (i:Nat) (v:V):V:=((tupL v)[i]?).getD .none
noncomputable def strV (v:V):Str:=(str? v).getD ""
noncomputable def intV (v:V):Int:=(int? v).getD 0
noncomputable def shapesL:List (Str × Int):=[("kpa",13226),("mpa",13227),("km",13262),("ka",13188),("ma",13187),("pa",13184),("pa",13225)]
@[reducible] noncomputable def shV (p:Str × Int):V:=.tup [.str p.1,.int p.2]
noncomputable def sufL:List Str:=["km","m","kp","p","ka","a","mp","ma","pa","kmp","kma","kpa","mpa","kmpa"]
noncomputable def hasP (w s:Str):Bool:=decide (Txt.slice w none (some (s.length:Int))=s)
noncomputable def fits (w:Str):List (Str × Int):=shapesL.filter fun p=>hasP w p.1
theorem fits_map (w:Str):((shapesL.map shV).filter fun v=>hasP w (strV (nth 0 v))).map id=(fits w).map shV:=by
  rw [List.map_id,List.filter_map]
  rfl
noncomputable def tlOk (w x:Str):Bool:=decide (x.length < w.length) && (decide (x="") || sufL.contains x)
noncomputable def wordF (w:Str):Bool:=decide (w.length≤10) && (decide (w.length≠0) && (PyData.strOk w && ((shapesL.all fun p=>PyData.strOk (Txt.slice w none (some (p.1.length:Int))) && (PyData.strOk p.1 && decide (p.1.length≤10))) &&
  (((fits w).all fun p=>inC p.2 fun c=>decide (prepC c.toNat++(Txt.slice w (some (p.1.length:Int)) none).cps.toList=w.cps.toList) && tlOk w (Txt.slice w (some (p.1.length:Int)) none)) &&
  (((pickC w 0).any fun c=>letters.contains c && decide (c::(Txt.slice w (some 1) none).cps.toList=w.cps.toList)) && tlOk w (Txt.slice w (some 1) none))))))
theorem wordF_ok:sufL.all wordF=true:=by decide +kernel
theorem only_lk {fr:List Nat} {i:Nat} (h:isIn i fr=true) {l:List (Nat × V)}:lk (only fr l) i=lk l i:=by
  induction l with
  | nil=>rfl
  | cons x r ih =>
    obtain ⟨j,v⟩:=x
    unfold only
    cases hb:Nat.beq j i with
    | true =>
      cases Nat.eq_of_beq_eq_true hb
      rw [h]
      exact lk_hit.trans lk_hit.symm
    | false =>
      refine Eq.trans ?_ ((lk_miss hb rfl).symm:lk r i=lk ((j,v)::r) i)
      cases isIn j fr with
      | true=>exact lk_miss hb ih
      | false=>exact ih
theorem tlOk_of {w x:Str} (h:tlOk w x=true):x.length < w.length∧(x=""∨x∈sufL) :=
  have h:=and_t h; ⟨of_decide_eq_true h.1,(Bool.or_eq_true_iff.mp h.2).imp of_decide_eq_true List.contains_iff_mem.mp⟩
structure WordF (w:Str):Prop where
  len:w.length≤10
  ne:w.length≠0
  ok:PyData.strOk w=true
  sh:∀ p∈shapesL,PyData.strOk (Txt.slice w none (some (p.1.length:Int)))=true∧PyData.strOk p.1=true∧p.1.length≤10
  fit:∀ p∈fits w,0≤p.2∧p.2≤1114111∧prepC p.2.toNat++(Txt.slice w (some (p.1.length:Int)) none).cps.toList=w.cps.toList∧(Txt.slice w (some (p.1.length:Int)) none).length < w.length∧(Txt.slice w (some (p.1.length:Int)) none=""∨Txt.slice w (some (p.1.length:Int)) none∈sufL)
  hd:∃ c,pickC w 0=some c∧c∈letters∧c::(Txt.slice w (some 1) none).cps.toList=w.cps.toList
  tl:(Txt.slice w (some 1) none).length < w.length∧(Txt.slice w (some 1) none=""∨Txt.slice w (some 1) none∈sufL)
theorem wordF_of {w:Str} (h:w∈sufL):WordF w:=by
  obtain ⟨h1,h⟩:=and_t (List.all_eq_true.mp wordF_ok w h)
  obtain ⟨h2,h⟩:=and_t h
  obtain ⟨h3,h⟩:=and_t h
  refine anE (and_t h) fun h4 h=>?_
  refine anE (and_t h) fun h5 h=>?_
  refine anE (and_t h) fun h6 h7=>?_
  refine ⟨of_decide_eq_true h1,of_decide_eq_true h2,h3,fun p hp=>?_,fun p hp=>?_,?_,tlOk_of h7⟩
  · exact have h:=and_t (List.all_eq_true.mp h4 p hp); have g:=and_t h.2; ⟨h.1,g.1,of_decide_eq_true g.2⟩
  · exact have h:=inC_elim (List.all_eq_true.mp h5 p hp); have g:=and_t h.2.2.2; ⟨h.1,h.2.1,of_decide_eq_true g.1,tlOk_of g.2⟩
  · cases hc:pickC w 0 with
    | none=>rw [hc] at h6; cases h6
    | some c =>
      rw [hc] at h6
      exact have h:=and_t h6; ⟨c,rfl,List.contains_iff_mem.mp h.1,of_decide_eq_true h.2⟩
theorem fits_run {w:Str} (F:WordF w) {e:EE} {σ:St} {ks:Nat} (h27:lk e.cel 27=some (.str w)) (h29:lk e.loc 29=some (.lst ks)) (hs:σ[ks]?=some (.lst (shapesL.map shV))) (N:Nat) (hN:18≤N) :
    ∃ k σ',(fs (N+1)).E e K326_0 σ=some (.lst k,σ')∧Ext σ σ'∧σ'[k]?=some (.lst ((fits w).map shV)):=by
  obtain ⟨k,σ',h1,h2,h3,_⟩:=comp_runN (c:=10) (elt:=.var (.loc 31)) (t:=.nm (.loc 31)) (it:=.of (.var (.loc 29))) (ifs:=[.cmp .eq (.slice (.var (.cel 27)) none (some (.call (.lit (.bi .len)) [.item (.var (.loc 31)) (.lit (.int 0))] []))) (.item (.var (.loc 31)) (.lit (.int 0)))]) (p:=fun v=>hasP w (strV (nth 0 v))) (g:=id) (fr:=[27])
    (e:=e) (σ:=σ) (σ1:=σ) (src:=.lst ks 0) (shapesL.map shV) (fun e=>lk e.cel 27=some (.str w)) (fun q=>iLst (rLoc h29) hs) (.refl _) ⟨_,hs,rfl⟩ rfl rfl ((only_lk rfl).trans h27)
    (fun v hv q e σ2 he _=>by
      obtain ⟨⟨s,i⟩,hp,rfl⟩:=List.mem_map.mp hv
      obtain ⟨a1,a2,a3⟩:=F.sh _ hp
      have l1:s.length≤4096:=Nat.le_trans a3 (by decide)
      have l2:small (s.length:Int)=true:=small_nat (Nat.le_trans a3 (by decide))
      have l3:w.length≤4096:=Nat.le_trans F.len (by decide)
      refine ⟨⟨_::e.loc,e.cel,e.fn⟩,rfl,he,σ2,?_,.refl _,fun _=>⟨σ2,rLoc lk_hit,.refl _⟩⟩
      show allT _ _ σ2=some (decide (Txt.slice w none (some (s.length:Int))=s),σ2)
      repeat (first | with_reducible exact len_str l1 | with_reducible exact eq_str a1 a2 | walk_at "p"))
    (by decide) N hN
  rw [fits_map] at h3
  exact ⟨k,σ',h1,h2,h3⟩
theorem shV_ok {l:List (Str × Int)} (h:∀ p∈l,PyData.strOk p.1=true):∃ ds,DOks (l.map shV) ds:=by
  induction l with
  | nil=>exact ⟨_,.nil⟩
  | cons p l ih =>
    have h:=List.forall_mem_cons.mp h
    obtain ⟨ds,hd⟩:=ih h.2
    refine ⟨.tuple [.str p.1,.int p.2]::ds,.cons ⟨fun _=>rfl,?_,?_⟩ hd⟩
    · show (PyData.strOk p.1 && (true && true))=true
      rw [h.1]; rfl
    · show max 0 (max 0 0)+1≤8
      decide
theorem one_cps (c:Nat):(one c).cps.toList=[c]:=rfl
theorem app_len (a b:Str):(a++b).length=a.length+b.length:=Array.size_append
theorem app_cps (a b:Str):(a++b).cps.toList=a.cps.toList++b.cps.toList:=Array.toList_append
theorem fmod_nat {b:Int} (a:Int) (h:0 < b):∃ j:Nat,a.fmod b=j∧(j:Int) < b :=
  have e:=Int.toNat_of_nonneg (Int.fmod_nonneg_of_pos a h)
  ⟨(a.fmod b).toNat,e.symm,e.symm ▸ Int.fmod_lt_of_pos a h⟩
theorem nil_or {α:Type} (l:List α):l=[]∨l.isEmpty=false∧0 < l.length:=by
  cases l with
  | nil=>exact .inl rfl
  | cons a l=>exact .inr ⟨rfl,Nat.succ_pos _⟩
theorem typed_body {w t:Str} (F:WordF w) {n:Int} {loc cel fn} {σ:St} {ks:Nat} (h27:lk cel 27=some (.str w)) (h28:lk loc 28=some (.int n)) (h29:lk loc 29=some (.lst ks)) (h30:lk loc 30=some (.str t)) (hs:σ[ks]?=some (.lst (shapesL.map shV))) (ht:t.length≤100) (m:Nat) :
    ∃ loc' cel' σ' c w',execsV (fs (m+40)).S ⟨loc,cel,fn⟩ L326_0 σ=some ((.next,⟨loc',cel',fn⟩),σ')∧Ext σ σ'∧lk cel' 27=some (.str w')∧lk loc' 28=some (.int (n.fdiv 24))∧lk loc' 29=some (.lst ks)∧lk loc' 30=some (.str (t++one c)) ∧
      c < 0x110000∧prepC c++w'.cps.toList=w.cps.toList∧w'.length < w.length∧(w'=""∨w'∈sufL):=by
  refine hid fun GG kk=>?_
  refine exE (fits_run F (e:=⟨loc,cel,fn⟩) h27 h29 hs (m+38) (Nat.le_add_left ..)) fun k zz=>exE zz fun σ1 zz=>anE zz fun h1 zz=>anE zz fun x1 hk=>?_
  have hfl:(fits w).length≤7:=List.length_filter_le ..
  have hsh:∀ p∈fits w,p∈shapesL:=fun p hp=>(List.mem_filter.mp hp).1
  refine exE (shV_ok fun p hp=>(F.sh p (hsh p hp)).2.1) fun ds hd=>?_
  refine kk ?_
  clear kk GG
  have hml:((fits w).map shV).length=(fits w).length:=List.length_map ..
  have hlen:((fits w).map shV).length≤4096:=hml ▸ Nat.le_trans hfl (by decide)
  have lt1:∀ c,t.length+(one c).length≤4096:=fun _=>Nat.le_trans (Nat.succ_le_succ ht) (by decide)
  have lw:w.length≤4096:=Nat.le_trans F.len (by decide)
  have hk2:(σ1++[.lst []])[k]?=some (.lst ((fits w).map shV)):=snoc_get hk
  have N:=ne_new hk hd
  have g29:∀ {a b c:V},lk ((28,a)::(30,b)::(32,c)::loc) 29=some (.lst ks):=h29
  have fin:((fits w).map shV).isEmpty=true∨((fits w).map shV).isEmpty=false∧decide (n.fmod 2=0)=false→∃ loc' cel' σ' c w',execsV (fs (m+40)).S ⟨loc,cel,fn⟩ L326_0 σ=some ((.next,⟨loc',cel',fn⟩),σ')∧Ext σ σ'∧lk cel' 27=some (.str w')∧lk loc' 28=some (.int (n.fdiv 24))∧lk loc' 29=some (.lst ks)∧lk loc' 30=some (.str (t++one c)) ∧
      c < 0x110000∧prepC c++w'.cps.toList=w.cps.toList∧w'.length < w.length∧(w'=""∨w'∈sufL):=by
    intro hc
    refine hid fun GG kk=>?_
    refine exE (F.hd) fun ch zz=>anE zz fun c1 zz=>anE zz fun c2 c3=>?_
    refine anE (F.tl) fun t1 t2=>?_
    refine exA (fmod_nat (n.fdiv 2) (b:=12) (by decide)) fun j hj hjl=>?_
    obtain ⟨c,σ3,r1,r2,r3,r4⟩:=run_letter ch j (m+23) c2 (Int.ofNat_lt.mp hjl) (σ1++[.lst []])
    refine kk ?_
    clear kk GG
    rw [← hj] at r1
    have l4:=lt1 c
    refine ⟨(28,.int (n.fdiv 24))::(30,.str (t++one c))::(32,.lst k)::loc,(27,.str (Txt.slice w (some 1) none))::cel,σ3,c,Txt.slice w (some 1) none,?_,(x1.snoc [.lst []]).trans r2,rfl,rfl,g29,rfl,r4,by rw [r3]; exact c3,t1,t2⟩
    rcases hc with e1 | ⟨e1,e2⟩
    · have e1:(!_)=false:=congrArg not e1
      repeat (first | with_reducible exact N | with_reducible exact h1 | walk_at "p")
    · have e1:(!_)=true:=congrArg not e1
      repeat (first | with_reducible exact N | with_reducible exact h1 | walk_at "p")
  rcases nil_or ((fits w).map shV) with e1 | ⟨e1,hpos⟩
  · exact fin (.inl (congrArg List.isEmpty e1))
  cases hd2:decide (n.fmod 2=0) with
  | false=>exact fin (.inr ⟨e1,hd2⟩)
  | true =>
    have e1:(!_)=true:=congrArg not e1
    have hpos':(0:Int) < ((fits w).map shV).length:=Int.ofNat_lt.mpr hpos
    refine exA (fmod_nat (n.fdiv 2) hpos') fun j hj hjl=>?_
    have hjl:j < (fits w).length:=hml ▸ Int.ofNat_lt.mp hjl
    have l3:small ((n.fdiv 2).fmod ((fits w).map shV).length)=true:=hj ▸ small_nat (Nat.le_trans (Nat.le_of_lt hjl) (Nat.le_trans hfl (by decide)))
    have hmem:(fits w)[j]∈fits w:=List.getElem_mem _
    have hg:(fits w)[j]?=some (fits w)[j]:=List.getElem?_eq_getElem hjl
    generalize (fits w)[j]=p at hg hmem
    refine hid fun GG kk=>?_
    obtain ⟨s,u⟩:=p
    have hp:pickV ((fits w).map shV) ((n.fdiv 2).fmod ((fits w).map shV).length)=some (.tup [.str s,.int u]):=hj ▸ pick_nat (List.getElem?_map ▸ congrArg (Option.map shV) hg)
    obtain ⟨u0,u1,u2,u3,u4⟩:=F.fit _ hmem
    refine kk ?_
    clear kk GG
    have s3:=(F.sh _ (hsh _ hmem)).2.2
    have l1:s.length≤4096:=Nat.le_trans s3 (by decide)
    have l2:small (s.length:Int)=true:=small_nat (Nat.le_trans s3 (by decide))
    have l4:=lt1 u.toNat
    refine ⟨(28,.int (n.fdiv 24))::(30,.str (t++one u.toNat))::(31,shV (s,u))::(32,.lst k)::loc,(27,.str (Txt.slice w (some (s.length:Int)) none))::cel,σ1++[.lst []],u.toNat,Txt.slice w (some (s.length:Int)) none,?_,x1.snoc [.lst []],rfl,rfl,h29,rfl,(Int.toNat_lt u0).mpr (Int.lt_add_one_of_le u1),u2,u3,u4⟩
    have u0:0≤u:=u0
    have u1:u≤1114111:=u1
    have L:callB .len [.lst k] (σ1++[.lst []])=_:=len_lst hk2 hlen
    have L2:callB .len [.str s] (σ1++[.lst []])=_:=len_str l1
    repeat (first | with_reducible exact N | with_reducible exact h1 | with_reducible exact L | with_reducible exact L2 | walk_at "p")
theorem empty_len {w:Str} (h:w.length=0):w="":=congrArg Str.mk (Array.eq_empty_of_size_eq_zero h)
theorem app_nil (t:Str):t++""=t:=congrArg Str.mk Array.append_empty
theorem app_app (a b c:Str):a++b++c=a++(b++c):=congrArg Str.mk Array.append_assoc
@[reducible] noncomputable def T326:CE:=.cmp .ne (.var (.cel 27)) (.lit (.str ""))
theorem oke:PyData.strOk (Str.ofString "")=true:=by decide +kernel
theorem typed_test {w:Str} (hw:w=""∨w∈sufL) {e:EE} {σ:St} (h27:lk e.cel 27=some (.str w)) (m:Nat):(fs (m+3)).T e T326 σ=some (!decide (w=""),σ):=by
  have ok:PyData.strOk w=true:=hw.elim (fun h=>h ▸ oke) fun h=>(wordF_of h).ok
  repeat (first | with_reducible exact ne_str ok oke | walk_at "p")
theorem typed_loop (len:Nat):∀ {w t:Str} {n:Int} {loc cel fn} {σ:St} {ks:Nat} (m:Nat),w.length≤len→(w=""∨w∈sufL)→lk cel 27=some (.str w)→lk loc 28=some (.int n)→lk loc 29=some (.lst ks)→lk loc 30=some (.str t)→σ[ks]?=some (.lst (shapesL.map shV))→t.length+len≤100 →
    ∃ e' σ' t',(fs (m+len+41)).W ⟨loc,cel,fn⟩ T326 L326_0 σ=some ((.next,e'),σ')∧Ext σ σ'∧lk e'.loc 30=some (.str (t++t'))∧t'.cps.toList.flatMap prepC=w.cps.toList∧t'.length≤len∧∀ c∈t'.cps.toList,c < 0x110000:=by
  have emp:∀ {t:Str} {loc cel fn} {σ:St} {len:Nat} (m:Nat),lk cel 27=some (.str "")→lk loc 30=some (.str t)→∃ e' σ' t',(fs (m+41)).W ⟨loc,cel,fn⟩ T326 L326_0 σ=some ((.next,e'),σ')∧Ext σ σ'∧lk e'.loc 30=some (.str (t++t'))∧t'.cps.toList.flatMap prepC=("":Str).cps.toList∧t'.length≤len∧∀ c∈t'.cps.toList,c < 0x110000:=by
    intro t loc cel fn σ len m h27 h30
    exact ⟨_,σ,"",wStep (typed_test (.inl rfl) h27 (m+37)) (tfF rfl),.refl _,(app_nil t).symm ▸ h30,rfl,Nat.zero_le _,fun c hc=>nomatch hc⟩
  induction len with
  | zero =>
    intro w t n loc cel fn σ ks m hl hw h27 h28 h29 h30 hs ht
    cases empty_len (Nat.le_zero.mp hl)
    exact emp m h27 h30
  | succ len ih =>
    intro w t n loc cel fn σ ks m hl hw h27 h28 h29 h30 hs ht
    by_cases hw0:w=""
    · subst hw0
      exact emp (m+(len+1)) h27 h30
    refine hid fun GG kk=>?_
    obtain ⟨l1,c1,σ1,c,w',b1,b2,b3,b4,b5,b6,b7,b8,b9,b10⟩:=typed_body (wordF_of (hw.resolve_left hw0)) (fn:=fn) h27 h28 h29 h30 hs (Nat.le_trans (Nat.le_add_right _ _) ht) (m+len+1)
    have htl:(t++one c).length+len≤100:=by rw [app_len,Nat.add_assoc,show (one c).length+len=len+1 from Nat.add_comm 1 len]; exact ht
    obtain ⟨e2,σ2,t',c1,c2,c3,c4,c5,c6⟩:=ih (fn:=fn) m (Nat.le_of_lt_succ (Nat.lt_of_lt_of_le b9 hl)) b10 b3 b4 b5 b6 (b2.at hs) htl
    refine kk ?_
    clear kk GG
    refine ⟨e2,σ2,one c++t',wStep (typed_test hw h27 (m+len+38)) (tfT' (ndF hw0) (wBody b1 (elN c1))),b2.trans c2,(app_app t _ t') ▸ c3,?_,?_,fun x hx=>?_⟩
    · rw [app_cps,List.flatMap_append,c4,← b8]
      exact congrArg (·++_) (List.append_nil _)
    · rw [app_len,Nat.add_comm]
      exact Nat.succ_le_succ c5
    · rw [app_cps] at hx
      exact (List.mem_append.mp hx).elim (fun h=>List.mem_singleton.mp h ▸ b7) (c6 x)
theorem run_typed {w:Str} (hw:w∈sufL) {n:Int} (m:Nat) (σ:St):∃ x σ',(fs (m+70)).C 326 [.str w,.int n] [] σ=some (.str x,σ')∧Ext σ σ'∧x.cps.toList.flatMap prepC=w.cps.toList∧x.length≤11∧∀ c∈x.cps.toList,c < 0x110000:=by
  have F:=wordF_of hw
  refine hid fun GG kk=>?_
  refine exA (fmod_nat n (b:=27) (by decide)) fun j hj hjl=>?_
  obtain ⟨c,σ1,u1,u2,u3,u4⟩:=run_unseen j (m+56) (Int.ofNat_lt.mp hjl) (σ++[.lst (shapesL.map shV)])
  refine kk ?_
  clear kk GG
  rw [← hj] at u1
  have u1:(fs (m+66)).C 307 [.int (n.fmod 27)] [] (σ++[.lst [.tup [.str "kpa",.int 13226],.tup [.str "mpa",.int 13227],.tup [.str "km",.int 13262],.tup [.str "ka",.int 13188],.tup [.str "ma",.int 13187],.tup [.str "pa",.int 13184],.tup [.str "pa",.int 13225]]])=_:=u1
  refine hid fun GG kk=>?_
  obtain ⟨e2,σ2,t',c1,c2,c3,c4,c5,c6⟩:=typed_loop 10 (w:=w) (t:=one c) (n:=n.fdiv 27) (loc:=(28,.int (n.fdiv 27))::(30,.str (one c))::(29,.lst σ.length)::[(28,.int n)]) (cel:=[(27,.str w)]) (fn:=326) (σ:=σ1) (ks:=σ.length) (m+17) F.len (.inr hw) rfl rfl rfl rfl (u2.at snoc_last) (by show 1+10≤100; decide)
  refine kk ?_
  clear kk GG
  refine ⟨one c++t',σ2,?_,((Ext.refl σ).snoc _).trans (u2.trans c2),?_,?_,fun x hx=>?_⟩
  · apply R326
    repeat walk_at "p"
  · rw [app_cps,List.flatMap_append,c4]
    show prepC c++[]++_=_
    unfold prepC
    rw [u3]; rfl
  · rw [app_len,Nat.add_comm]
    exact Nat.succ_le_succ c5
  · rw [app_cps] at hx
    exact (List.mem_append.mp hx).elim (fun h=>List.mem_singleton.mp h ▸ u4) (c6 x)
@[reducible] noncomputable def dots:Str:="..."
noncomputable def dotted (w:Str):Str:=dots++Builtin.Str.glued dots (PyProof.Rows.signs w)++dots
noncomputable def dotOk (w:Str):Bool:=decide ((((PyProof.Rows.signs w).map (·.length)).sum+(PyProof.Rows.signs w).length * dots.length≤4096)) && (decide (dots.length+(Builtin.Str.glued dots (PyProof.Rows.signs w)).length≤4096) && decide ((dots++Builtin.Str.glued dots (PyProof.Rows.signs w)).length+dots.length≤4096))
theorem joinS_ap {x y:Str} {σ:St} (hl:((PyProof.Rows.signs y).map (·.length)).sum+(PyProof.Rows.signs y).length * x.length≤4096):callB .join [.str x,.str y] σ=some (.str (Builtin.Str.glued x (PyProof.Rows.signs y)),σ):=grd (big_of hl) rfl
theorem run_dotted {w:Str} (h:dotOk w=true) {m:Nat} {σ:St}:(fs (m+8)).C 362 [.str w] [] σ=some (.str (dotted w),σ):=by
  refine anE (and_t h) fun h1 h=>?_
  refine anE (and_t h) fun h2 h3=>?_
  have h2:=of_decide_eq_true h2
  have h3:=of_decide_eq_true h3
  show _=some (V.str (dots++Builtin.Str.glued dots (PyProof.Rows.signs w)++dots),σ)
  apply R362
  repeat (first | with_reducible exact joinS_ap (of_decide_eq_true h1) | walk_at "p")
theorem L_runL {c:Nat} {t:Tg} {b:List CS} {σ₀:St} (I:List V→EE→St→Prop) (R:V→St→Prop) (hx:∀ l e σ,I l e σ→Ext σ₀ σ) (vals:List V)
    (H:∀ (v:V) (l:List V) (q:Nat) (e:EE) (σ:St),I (v::l) e σ→∃ e1,assignT e t v=some e1∧∃ r σ',execsV (fs (q+c)).S e1 b σ=some (r,σ')∧(r.1=.next∧I l r.2 σ'∨∃ u,r.1=.ret u∧R u σ'))
    (src:Src) (e:EE) (σ:St) (hI:I vals e σ) (hs:Gives σ₀ src vals) (ht:tgOk t src=true) (hn:isNil src=false) (N:Nat) (hN:c+vals.length+1≤N) :
    ∃ fl e' σ',(fs N).L e t src b σ=some ((fl,e'),σ')∧(fl=.next∧I [] e' σ'∨∃ u,fl=.ret u∧R u σ'):=by
  obtain ⟨⟨fl,e'⟩,σ',h1,h2⟩:=L_runN (fun j=>I (vals.drop j)) R (fun j=>hx _) vals (fun j v hv q e σ hI=>H v _ q e σ (by
    obtain ⟨hj,rfl⟩:=List.getElem?_eq_some_iff.mp hv
    exact List.drop_eq_getElem_cons hj ▸ hI)) src e σ hI hs ht hn N hN
  rw [List.drop_length] at h2
  exact ⟨fl,e',σ',h1,h2⟩
theorem caT {α:Type} {b:Bool} {o:Option α} {r:α} (h:Bool.casesOn (motive:=fun _=>Option α) b none o=some r):b=true∧o=some r:=by
  induction b with
  | false=>cases h
  | true=>exact ⟨rfl,h⟩
noncomputable def em (got:Str) (l:List Str):Int→Option Bool:=@List.rec Str (fun _=>Int→Option Bool) (fun _=>some true) (fun w _ ih sp=>Bool.casesOn (motive:=fun _=>Option Bool) (small sp && decide (w.length≤1000)) none (Bool.casesOn (motive:=fun _=>Option Bool) (decide (findIn got w sp got.length < 0)) (ih (findIn got w sp got.length+w.length)) (some false))) l
noncomputable def ematch (want got:Str):Option Bool:=Bool.casesOn (motive:=fun _=>Option Bool) (strIn dots want && (splitOk want dots && (decide ((splitOf want dots).length≤100) && (decide (2≤(splitOf want dots).length) && (decide ((splitOf want dots)[0]?=some ("":Str)) && (decide ((splitOf want dots)[(splitOf want dots).length - 1]?=some ("":Str)) && decide (got.length≤1000))))))) none (em got (splitOf want dots) 0)
theorem notin_str {x y:Str} {σ:St}:cmpV .notin (.str x) (.str y) σ=some (.bool !(strIn x y),σ):=rfl
theorem split_ap {x y:Str} {σ:St} (h1:splitOk x y=true) (h2:(splitOf x y).length≤4096):callB .split [.str x,.str y] σ=some (.lst σ.length,σ++[.lst ((splitOf x y).map .str)]):=grd (by rw [h1,big_of h2]; rfl) rfl
theorem find_ap {x y:Str} {i j:Int} {σ:St} (h1:small i=true) (h2:small j=true):callB .find [.str x,.str y,.int i,.int j] σ=some (.int (findIn x y i j),σ):=grd (by rw [h1,h2]; rfl) rfl
theorem pick_m1 {l:List V} {v:V} (h:l[l.length - 1]?=some v):pickV l (-1)=some v:=by
  have hi:0 < l.length:=Nat.lt_of_le_of_lt (Nat.zero_le _) (List.getElem?_eq_some_iff.mp h).1
  have e:((l.length - 1:Nat):Int)=-1+l.length:=by rw [Int.ofNat_sub hi,Int.add_comm]; rfl
  refine Eq.trans ?_ (pick_nat h)
  show (seqIndex? (-1) l.length).bind _=(seqIndex? _ l.length).bind _
  rw [seqI (Nat.sub_lt hi Nat.zero_lt_one)]
  have e2:(if (-1:Int) < 0 then -1+(l.length:Int) else -1)=((l.length - 1:Nat):Int):=(if_pos (by decide)).trans e.symm
  unfold seqIndex?
  rw [e2]
  dsimp only
  rw [decide_eq_true (Int.natCast_nonneg _),decide_eq_true (Int.ofNat_lt.mpr (Nat.sub_lt hi Nat.zero_lt_one))]
  rfl
theorem truthT {bb:Bool} {σ:St} (h:bb=true):truth (.bool bb) σ=some (true,σ):=by rw [h]; rfl
theorem em_loop {got:Str} (hg:got.length≤1000) {b:Bool} {parts:List Str} {σ₀:St} {ws:Nat} (hs:σ₀[ws]?=some (.lst (parts.map .str))) {e:EE} (hb:em got parts 0=some b) (h9:lk e.loc 9=some (.int 0)) (h7:lk e.loc 7=some (.str got)) (h10:lk e.loc 10=some (.int got.length)) (N:Nat) (hN:12+parts.length+1≤N) :
    ∃ fl e' σ',(fs N).L e (.nm (.loc 11)) (.lst ws 0) L81_0 σ₀=some ((fl,e'),σ')∧Ext σ₀ σ'∧(fl=.next∧b=true∨fl=.ret (.bool false)∧b=false):=by
  have lg:small (got.length:Int)=true:=small_nat (Nat.le_trans hg (by decide))
  obtain ⟨fl,e',σ',h1,h2⟩:=L_runL (c:=12) (t:=.nm (.loc 11)) (b:=L81_0) (σ₀:=σ₀) (fun l e σ=>Ext σ₀ σ∧∃ ws sp,l=ws.map .str∧lk e.loc 9=some (.int sp)∧lk e.loc 7=some (.str got)∧lk e.loc 10=some (.int got.length)∧em got ws sp=some b) (fun v σ=>Ext σ₀ σ∧v=.bool false∧b=false) (fun _ _ _ h=>h.1) (parts.map .str)
    (fun v l q e σ ⟨x,ws,sp,hl,g9,g7,g10,hem⟩=>by
      obtain ⟨loc,cel,fn⟩:=e
      cases ws with
      | nil=>cases hl
      | cons w ws =>
        obtain ⟨rfl,rfl⟩:=List.cons.inj hl
        obtain ⟨hc,hem⟩:=caT (b:=small sp && decide (w.length≤1000)) hem
        refine anE (and_t hc) fun hc1 hc2=>?_
        have lw:w.length≤4096:=Nat.le_trans (of_decide_eq_true hc2) (by decide)
        refine ⟨⟨(11,.str w)::loc,cel,fn⟩,rfl,?_⟩
        cases hq:decide (findIn got w sp got.length < 0) with
        | true =>
          rw [hq] at hem
          refine ⟨(.ret (.bool false),⟨(9,.int (findIn got w sp got.length))::(11,.str w)::loc,cel,fn⟩),σ,?_,.inr ⟨_,rfl,x,rfl,(Option.some.inj hem).symm⟩⟩
          repeat (first | with_reducible exact find_ap hc1 lg | walk_at "p")
        | false =>
          rw [hq] at hem
          refine ⟨(.next,⟨(9,.int (findIn got w sp got.length+w.length))::(9,.int (findIn got w sp got.length))::(11,.str w)::loc,cel,fn⟩),σ,?_,.inl ⟨rfl,x,ws,_,rfl,rfl,g7,g10,hem⟩⟩
          repeat (first | with_reducible exact find_ap hc1 lg | with_reducible exact len_str lw | walk_at "p"))
    (.lst ws 0) e σ₀ ⟨.refl _,parts,0,rfl,h9,h7,h10,hb⟩ ⟨_,hs,rfl⟩ rfl rfl N (by rw [List.length_map]; exact hN)
  refine ⟨fl,e',σ',h1,?_⟩
  rcases h2 with ⟨h2,x,ws,sp,h3,_,_,_,h4⟩ | ⟨u,h2,x,rfl,h3⟩
  · induction ws with
    | nil=>exact ⟨x,.inl ⟨h2,(Option.some.inj h4).symm⟩⟩
    | cons=>cases h3
  · exact ⟨x,.inr ⟨h2,h3⟩⟩
theorem run_ematch {want got:Str} {b:Bool} (h:ematch want got=some b) (m:Nat) (σ:St):∃ σ',(fs (m+130)).C 81 [.str want,.str got] [] σ=some (.bool b,σ')∧Ext σ σ':=by
  refine hid fun GG kk=>?_
  refine anE (caT h) fun h hem=>?_
  refine anE (and_t h) fun c1 h=>?_
  refine anE (and_t h) fun c2 h=>?_
  refine anE (and_t h) fun c3 h=>?_
  refine anE (and_t h) fun c4 h=>?_
  refine anE (and_t h) fun c5 h=>?_
  refine anE (and_t h) fun c6 c7=>?_
  refine kk ?_
  clear kk GG
  have c3:=of_decide_eq_true c3
  have c7:=of_decide_eq_true c7
  have c5:=of_decide_eq_true c5
  have c6:=of_decide_eq_true c6
  have hS:=split_ap (σ:=σ) c2 (Nat.le_trans c3 (by decide))
  have c1:(!_)=false:=congrArg not c1
  generalize splitOf want dots=parts at *
  have eL:(parts.map V.str).length=parts.length:=List.length_map ..
  have l2:(parts.map V.str).length≤4096:=eL ▸ Nat.le_trans c3 (by decide)
  have l3:decide ((2:Int)≤((parts.map V.str).length:Nat))=true:=decide_eq_true (Int.ofNat_le.mpr (eL ▸ of_decide_eq_true c4))
  have l4:got.length≤4096:=Nat.le_trans c7 (by decide)
  have p0:pickV (parts.map .str) 0=some (.str ""):=pick_nat (i:=0) (by rw [List.getElem?_map,c5]; rfl)
  have p1:pickV (parts.map .str) (-1)=some (.str ""):=pick_m1 (by rw [eL,List.getElem?_map,c6]; rfl)
  have hk:(σ++[.lst (parts.map .str)])[σ.length]?=some (.lst (parts.map .str)):=snoc_last
  have hL:=len_lst hk l2
  have nlt:decide ((got.length:Int) < 0)=false:=decide_eq_false (Int.not_lt.mpr (Int.natCast_nonneg _))
  have tE:∀ {σ},truth (.str "") σ=some (false,σ):=rfl
  refine hid fun GG kk=>?_
  obtain ⟨fl,e2,σ',r1,r2,r3⟩:=em_loop c7 (σ₀:=σ++[.lst (parts.map .str)]) (ws:=σ.length) (e:=⟨[(11,.str ""),(11,.str ""),(10,.int got.length),(9,.int 0),(8,.lst σ.length),(7,.str got),(6,.str want)],[],81⟩) hk hem rfl rfl rfl (m+128) (Nat.le_trans (Nat.succ_le_succ (Nat.add_le_add_left c3 12)) (Nat.le_add_left 113 _))
  refine kk ?_
  clear kk GG
  refine ⟨σ',?_,((Ext.refl σ).snoc _).trans r2⟩
  rcases r3 with ⟨rfl,rfl⟩ | ⟨rfl,rfl⟩
  · apply R81
    repeat (first | with_reducible exact notin_str | with_reducible exact hS | with_reducible exact hL | with_reducible exact len_str l4 | with_reducible exact tE | with_reducible refine truthT (by with_reducible assumption) | walk_at "p")
  · apply R81
    repeat (first | with_reducible exact notin_str | with_reducible exact hS | with_reducible exact hL | with_reducible exact len_str l4 | with_reducible exact tE | with_reducible refine truthT (by with_reducible assumption) | walk_at "p")
theorem run_taken {wants:List Str} {row:Str} {f:Str→Bool} (h:∀ w∈wants,ematch w row=some (f w)) {σ:St} {k:Nat} (hk:σ[k]?=some (.lst (wants.map .str))) (hl:wants.length≤10) (m:Nat) :
    ∃ σ',(fs (m+160)).C 369 [.lst k,.str row] [] σ=some (.bool (wants.all f),σ')∧Ext σ σ':=by
  obtain ⟨fl,e2,σ',r1,r2⟩:=L_runL (c:=137) (t:=.nm (.loc 6)) (b:=L369_0) (σ₀:=σ) (fun l e σ'=>Ext σ σ'∧∃ ws:List Str,l=ws.map .str∧lk e.loc 45=some (.str row)∧(∀ w∈ws,ematch w row=some (f w))∧wants.all f=ws.all f) (fun v σ'=>Ext σ σ'∧v=.bool false∧wants.all f=false) (fun _ _ _ h=>h.1) (wants.map .str)
    (fun v l q e σ1 ⟨x,ws,hl,g45,h,hall⟩=>by
      obtain ⟨loc,cel,fn⟩:=e
      cases ws with
      | nil=>cases hl
      | cons w ws =>
        obtain ⟨rfl,rfl⟩:=List.cons.inj hl
        have h:=List.forall_mem_cons.mp h
        refine exA (run_ematch h.1 (q+5) σ1) fun σ2 c1 c2=>?_
        refine ⟨⟨(6,.str w)::loc,cel,fn⟩,rfl,?_⟩
        have i:isV (.bool (f w)) (.bool true)=some (f w == true):=rfl
        cases hf:f w with
        | true =>
          rw [hf] at c1
          refine ⟨(.next,⟨(58,.bool true)::(6,.str w)::loc,cel,fn⟩),σ2,?_,.inl ⟨rfl,x.trans c2,ws,rfl,g45,h.2,hall.trans (congrArg (· && ws.all f) hf)⟩⟩
          repeat walk_at "p"
        | false =>
          rw [hf] at c1
          refine ⟨(.ret (.bool false),⟨(58,.bool false)::(6,.str w)::loc,cel,fn⟩),σ2,?_,.inr ⟨_,rfl,x.trans c2,rfl,hall.trans (congrArg (· && ws.all f) hf)⟩⟩
          repeat walk_at "p")
    (.lst k 0) ⟨[(45,.str row),(57,.lst k)],[],369⟩ σ ⟨.refl _,wants,rfl,rfl,h,rfl⟩ ⟨_,hk,rfl⟩ rfl rfl (m+158) (by rw [List.length_map]; exact Nat.le_trans (Nat.succ_le_succ (Nat.add_le_add_left hl 137)) (Nat.le_add_left 148 (m+10)))
  rcases r2 with ⟨rfl,x,ws,h3,_,_,h4⟩ | ⟨u,rfl,x,rfl,h3⟩
  · induction ws with
    | cons=>cases h3
    | nil =>
      refine ⟨σ',?_,x⟩
      rw [h4]
      apply R369
      repeat walk_at "p"
      exact rfl
  · refine ⟨σ',?_,x⟩
    rw [h3]
    apply R369
    repeat walk_at "p"
theorem G2_run {c mx : Nat} {elt : CE} {t t2 : Tg} {it2 : It} {ifs2 : List CE} {p : V → V → Bool} {g : V → V → V} {inner : V → List V} {k : Nat} {σ₀ : St} (hk : σ₀.length ≤ k) (I : EE → Prop) (J : V → EE → Prop) (hJI : ∀ v e, J v e → I e) {vals : List V} :
      ∀ (_:∀ v∈vals,(inner v).length≤mx∧∀ (q:Nat) (e:EE),I e→∃ e1,assignT e t v=some e1∧J v e1∧∃ src2,(∀ σ,Ext σ₀ σ→evIt ((fs (q+c)).E e1) it2 σ=some (src2,σ))∧Gives σ₀ src2 (inner v)∧tgOk t2 src2=true∧isNil src2=false)
      (_:∀ v∈vals,∀ u∈inner v,∀ (q:Nat) (e:EE) (σ:St),J v e→Ext σ₀ σ→∃ e1,assignT e t2 u=some e1∧J v e1∧∃ σ1,allT ((fs (q+c)).T e1) ifs2 σ=some (p v u,σ1)∧Ext σ σ1∧(p v u=true→∃ σ2,(fs (q+c)).E e1 elt σ1=some (g v u,σ2)∧Ext σ1 σ2))
      {N:Nat} {src:Src} {e:EE} {σ:St} {acc:List V},c+mx+vals.length+2≤N→I e→Ext σ₀ σ→Gives σ₀ src vals→tgOk t src=true→isNil src=false→σ[k]?=some (.lst acc)→acc.length+mx * vals.length≤4096 →
      ∃ e' σ',(fs N).G e elt t src [] [.mk t2 it2 ifs2] k σ=some (e',σ')∧Ext σ₀ σ'∧σ'[k]?=some (.lst (acc++vals.flatMap fun v=>((inner v).filter (p v)).map (g v))):=by
  induction vals with
  | nil =>
    intro _ _ N src e σ acc hN hI hx hs ht hn ha hl
    obtain ⟨M,rfl⟩:=Nat.exists_eq_succ_of_ne_zero (Nat.ne_of_gt (Nat.lt_of_lt_of_le (Nat.succ_pos _) hN))
    exact ⟨e,σ,grd (by rw [ht,hn]; rfl) (bnd (hs.at hx).nil rfl),hx,(List.append_nil acc).symm ▸ ha⟩
  | cons v vals ih =>
    intro H1 H2 N src e σ acc hN hI hx hs ht hn ha hl
    obtain ⟨M,rfl⟩:=Nat.exists_eq_succ_of_ne_zero (Nat.ne_of_gt (Nat.lt_of_lt_of_le (Nat.succ_pos _) hN))
    have hM:c+mx+vals.length+2≤M:=Nat.le_of_succ_le_succ hN
    have hl:acc.length+(mx * vals.length+mx)≤4096:=hl
    refine hid fun GG kk=>?_
    obtain ⟨src',hnx,hs',ht',hn'⟩:=(hs.at hx).cons ht hn
    refine kk ?_
    clear kk GG
    replace hs':=hs' hx hs
    obtain ⟨hmx,H1v⟩:=H1 v (.head _)
    have hcm:c+mx+1≤M:=Nat.le_trans (Nat.succ_le_succ (Nat.le_trans (Nat.le_add_right _ _) (Nat.le_succ _))) hM
    obtain ⟨q,rfl⟩:∃ q,M=q+c:=⟨M - c,(Nat.sub_add_cancel (Nat.le_trans (Nat.le_add_right c mx) (Nat.le_of_succ_le hcm))).symm⟩
    refine hid fun GG kk=>?_
    obtain ⟨e1,h1,hJ1,src2,h2,h3,h4,h5⟩:=H1v q e hI
    refine kk ?_
    clear kk GG
    have hin:mx+(acc.length+mx * vals.length)≤4096:=by rw [Nat.add_comm,Nat.add_assoc]; exact hl
    obtain ⟨e2,σ2,g1,g2,g3,g4,g5⟩:=G_run (elt:=elt) (t:=t2) (ifs:=ifs2) hk (J v) (fun u hu q e σ=>H2 v (.head _) u hu q e σ) (N:=q+c) (src:=src2) (e:=e1) (σ:=σ) (acc:=acc) (Nat.le_trans (Nat.succ_le_succ (Nat.add_le_add_left hmx c)) hcm) hJ1 hx h3 h4 h5 ha
      (Nat.le_trans (Nat.add_le_add_left (Nat.le_trans hmx (Nat.le_add_left mx _)) _) hl)
    obtain ⟨e3,σ3,r1,r3,r4⟩:=ih (fun v hv=>H1 v (.tail _ hv)) (fun v hv=>H2 v (.tail _ hv)) hM (hJI _ _ g2) g3 hs' ht' hn' g4 (by
      rw [List.length_append,List.length_map,Nat.add_assoc,Nat.add_left_comm]
      exact Nat.le_trans (Nat.add_le_add_right (Nat.le_trans (List.length_filter_le ..) hmx) _) hin)
    exact ⟨e3,σ3,grd (by rw [ht,hn]; rfl) (bnd hnx (ofB (o:=assignT e t v) h1 (bnd aNil (tfT (bnd (h2 σ hx) (bnd g1 r1)))))),r3,List.append_assoc .. ▸ r4⟩
noncomputable def natV (v:V):Nat:=(intV v).toNat
noncomputable def sdig (d:Nat):Str:=toString (d:Int)
@[reducible] noncomputable def lastS (t:Str):Str:=Txt.slice t (some (-1)) none
noncomputable def risStep (days:Nat) (ts:List Str):List Str:=ts.flatMap fun t=>((List.range days).filter fun d=>!decide ((sdig d).cps.toList < (lastS t).cps.toList)).map fun d=>t++sdig d
noncomputable def risP (days j:Nat):List Str:=@Nat.rec (fun _=>List Str) [""] (fun _=>risStep days) j
noncomputable def risOk (days:Nat) (j:Nat):Bool:=decide ((risP days j).length≤20) && (risP days j).all fun t=>decide (t.length≤10) && PyData.strOk t
theorem risOk_ok:∀ days∈[2,3],∀ j < 5,risOk days j=true:=by decide +kernel
theorem sdig_len:∀ d < 3,(sdig d).length=1:=by decide +kernel
theorem str_ap {d:Nat} (h:d < 1000) {σ:St}:callT .str [.int d] σ=some (.str (sdig d),σ):=grd (decide_eq_true (Nat.lt_trans h (by decide):d < 1000000)) rfl
theorem le_str {x y:Str} {σ:St}:cmpV .le (.str x) (.str y) σ=some (.bool (!decide (y.cps.toList < x.cps.toList)),σ):=rfl
theorem up_range (n:Nat):∀ s:Nat,upFrom n s 1=(List.range' s n).map fun (i:Nat)=>(i:Int):=by
  induction n with
  | zero=>exact fun _=>rfl
  | succ n ih=>exact fun s=>congrArg ((s:Int)::·) (ih (s+1))
theorem range_ap {b:Nat} (h:b≤4096):rangeOf 0 b 1=some ((List.range b).map fun (i:Nat)=>(i:Int)):=by
  show gd (small 0 && small b && big b) (some (upFrom b (0:Nat) 1))=_
  rw [small_nat (Nat.le_trans h (by decide)),big_of h,up_range,List.range_eq_range']
  rfl
theorem days_lt {days:Nat} (hd:days∈[2,3]):days≤3:=(show ∀ d∈[2,3],d≤3 by decide) days hd
theorem ris_comp {days j:Nat} (hd:days∈[2,3]) (hj:j < 4) {e:EE} {σ:St} {ks:Nat} (h39:lk e.cel 39=some (.int days)) (h59:lk e.loc 59=some (.lst ks)) (hs:σ[ks]?=some (.lst ((risP days j).map .str))) (N:Nat) (hN:60≤N) :
    ∃ k σ',(fs (N+1)).E e K374_0 σ=some (.lst k,σ')∧Ext σ σ'∧σ'[k]?=some (.lst ((risP days (j+1)).map .str)):=by
  have hd3:=days_lt hd
  obtain ⟨K1,K2⟩:=and_t (risOk_ok days hd j (Nat.lt_succ_of_lt hj))
  have K1:=of_decide_eq_true K1
  have K2:=List.all_eq_true.mp K2
  have hlen:((risP days j).map V.str).length≤20:=by rw [List.length_map]; exact K1
  obtain ⟨e',σ',r1,r3,r4⟩:=G2_run (c:=14) (mx:=3) (elt:=.bin .add (.var (.loc 60)) (.call (.lit (.ty .str)) [.var (.loc 46)] [])) (t:=.nm (.loc 60)) (t2:=.nm (.loc 46)) (it2:=.range [.var (.cel 39)]) (ifs2:=[.cmp .le (.slice (.var (.loc 60)) (some (.neg (.lit (.int 1)))) none) (.call (.lit (.ty .str)) [.var (.loc 46)] [])])
    (p:=fun v u=>!decide ((sdig (natV u)).cps.toList < (lastS (strV v)).cps.toList)) (g:=fun v u=>.str (strV v++sdig (natV u))) (inner:=fun _=>(List.range days).map fun (i:Nat)=>.int i) (k:=σ.length) (σ₀:=σ) (Nat.le_refl _) (fun e=>lk e.cel 39=some (.int days)) (fun v e=>lk e.cel 39=some (.int days)∧lk e.loc 60=some v) (fun v e h=>h.1)
    (vals:=(risP days j).map .str)
    (fun v hv=>by
      refine ⟨by rw [List.length_map,List.length_range]; exact hd3,fun q e he=>⟨⟨(60,v)::e.loc,e.cel,e.fn⟩,rfl,⟨he,lk_hit⟩,.rng ((List.range days).map fun (i:Nat)=>(i:Int)),fun σ2 _=>?_,by show _=_; rw [List.map_map]; rfl,rfl,rfl⟩⟩
      have hr:=range_ap (Nat.le_trans hd3 (by decide))
      repeat walk_at "p")
    (fun v hv u hu q e σ2 ⟨he1,he2⟩ x=>by
      obtain ⟨t,ht,rfl⟩:=List.mem_map.mp hv
      obtain ⟨d,hd',rfl⟩:=List.mem_map.mp hu
      have hd3:d < 3:=Nat.lt_of_lt_of_le (List.mem_range.mp hd') hd3
      have lt:=of_decide_eq_true (and_t (K2 t ht)).1
      have l1:t.length≤4096:=Nat.le_trans lt (by decide)
      have l2:t.length+(sdig d).length≤4096:=by rw [sdig_len d hd3]; exact Nat.le_trans (Nat.succ_le_succ lt) (by decide)
      have S:=fun {σ}=>str_ap (Nat.lt_trans hd3 (by decide)) (σ:=σ)
      have he2:lk ((46,.int d)::e.loc) 60=some (.str t):=he2
      refine ⟨⟨(46,.int d)::e.loc,e.cel,e.fn⟩,rfl,⟨he1,he2⟩,σ2,?_,.refl _,fun _=>⟨σ2,?_,.refl _⟩⟩
      · show allT _ _ σ2=some (!decide ((sdig d).cps.toList < (lastS t).cps.toList),σ2)
        repeat (first | with_reducible exact S | with_reducible exact le_str | walk_at "p")
      · show _=some (V.str (t++sdig d),σ2)
        repeat (first | with_reducible exact S | walk_at "p"))
    (N:=N) (src:=.lst ks 0) (e:=⟨[],only [39] e.cel,0⟩) (σ:=σ++[.lst []]) (acc:=[]) (Nat.le_trans (Nat.add_le_add_right (Nat.add_le_add_left hlen 17) 2) (Nat.le_trans (by decide) hN)) ((only_lk rfl).trans h39) ⟨_,rfl⟩ ⟨_,hs,rfl⟩ rfl rfl snoc_last (by
      show 0+_≤_
      rw [Nat.zero_add]
      exact Nat.le_trans (Nat.mul_le_mul_left 3 hlen) (by decide))
  have e1:(((risP days j).map V.str).flatMap fun v=>(((List.range days).map fun (i:Nat)=>V.int i).filter fun u=>!decide ((sdig (natV u)).cps.toList < (lastS (strV v)).cps.toList)).map fun u=>V.str (strV v++sdig (natV u)))=(risP days (j+1)).map V.str:=by
    show _=(risStep days (risP days j)).map V.str
    unfold risStep
    rw [List.flatMap_map,List.map_flatMap]
    refine congrArg (fun f=>List.flatMap f (risP days j)) (funext fun t=>?_)
    rw [List.filter_map,List.map_map,List.map_map]
    rfl
  rw [e1,List.nil_append] at r4
  obtain ⟨M,rfl⟩:=Nat.exists_eq_succ_of_ne_zero (Nat.ne_of_gt (Nat.lt_of_lt_of_le (by decide) hN))
  exact ⟨σ.length,σ',bnd (iLst (rLoc h59) hs) (bnd r1 rfl),r3,r4⟩
theorem run_rising {days:Nat} (hd:days∈[2,3]) (m:Nat) (σ:St):∃ k σ',(fs (m+80)).C 374 [.int days] [] σ=some (.lst k,σ')∧Ext σ σ'∧σ'[k]?=some (.lst ((risP days 4).map .str)):=by
  obtain ⟨⟨fl,e2⟩,σ',r1,r2⟩:=L_runN (c:=64) (t:=.nm (.loc 53)) (b:=L374_0) (σ₀:=σ++[.lst [.str ""]]) (fun i e σ'=>Ext (σ++[.lst [.str ""]]) σ'∧lk e.cel 39=some (.int days)∧∃ k,lk e.loc 59=some (.lst k)∧σ'[k]?=some (.lst ((risP days i).map .str))) (fun v σ'=>False) (fun _ _ _ h=>h.1) ([0,1,2,3].map .int)
    (fun j v hv q e σ1 ⟨x1,g39,k,g59,gk⟩=>by
      refine hid fun GG kk=>?_
      refine exE (ris_comp hd (List.getElem?_eq_some_iff.mp hv).1 (e:=⟨(53,v)::e.loc,e.cel,e.fn⟩) g39 g59 gk (q+62) (Nat.le_add_left 60 (q+2))) fun k' zz=>exE zz fun σ2 zz=>anE zz fun c1 zz=>anE zz fun c2 c3=>?_
      refine kk ?_
      clear kk GG
      refine ⟨⟨(53,v)::e.loc,e.cel,e.fn⟩,rfl,(.next,⟨(59,.lst k')::(53,v)::e.loc,e.cel,e.fn⟩),σ2,?_,.inl ⟨rfl,x1.trans c2,g39,k',lk_hit,c3⟩⟩
      repeat (first | with_reducible exact c1 | walk_at "p"))
    (.rng [0,1,2,3]) ⟨[(59,.lst σ.length)],[(39,.int days)],374⟩ (σ++[.lst [.str ""]]) ⟨.refl _,rfl,σ.length,rfl,snoc_last⟩ rfl rfl rfl (m+78) (Nat.le_add_left 69 (m+9))
  rcases r2 with ⟨h1,x,g,k,g59,gk⟩ | ⟨_,_,h⟩
  · refine ⟨k,σ',?_,((Ext.refl σ).snoc _).trans x,gk⟩
    cases h1
    have hr:rangeOf 0 4 1=some [0,1,2,3]:=rfl
    apply R374
    repeat walk_at "p"
  · exact h.elim
noncomputable def rowsL:List Str:=(List.range 24).map ordS
noncomputable def ix (x:Str) (c:Nat):Nat:=(Builtin.Str.occurrences x (one c) 0 x.length 1).headD 99
noncomputable def rowF (x:Str):Bool:=decide (x.length=4) && (PyData.strOk x && (((List.range 4).all fun i=>decide (pickC x i=some (cAt x i)) && letters.contains (cAt x i)) && letters.all fun c=>decide (Builtin.Str.occurrences x (one c) 0 x.length 1=[ix x c]) && decide (ix x c < 4)))
theorem rowF_ok:rowsL.all rowF=true:=by decide +kernel
structure RowF (x:Str):Prop where
  len:x.length=4
  ok:PyData.strOk x=true
  at_:∀ i < 4,pickC x (i:Nat)=some (cAt x i)∧cAt x i∈letters
  ix_:∀ c∈letters,Builtin.Str.occurrences x (one c) 0 x.length 1=[ix x c]∧ix x c < 4
theorem rowF_of {x:Str} (h:x∈rowsL):RowF x:=by
  obtain ⟨h1,h⟩:=and_t (List.all_eq_true.mp rowF_ok x h)
  obtain ⟨h2,h⟩:=and_t h
  obtain ⟨h3,h4⟩:=and_t h
  exact ⟨of_decide_eq_true h1,h2,fun i hi=>have h:=and_t (List.all_eq_true.mp h3 i (List.mem_range.mpr hi)); ⟨of_decide_eq_true h.1,List.contains_iff_mem.mp h.2⟩,fun c hc=>have h:=and_t (List.all_eq_true.mp h4 c hc); ⟨of_decide_eq_true h.1,of_decide_eq_true h.2⟩⟩
noncomputable def textF (t:Str):Bool:=decide (t.length=4) && (PyData.strOk t && (List.range 4).all fun i=>decide (pickC t i=some (cAt t i)) && decide (cAt t i < 0x110000))
structure TextF (x:Str):Prop where
  len:x.length=4
  ok:PyData.strOk x=true
  at_:∀ i < 4,pickC x (i:Nat)=some (cAt x i)∧cAt x i < 0x110000
theorem textF_ok:∀ days∈[2,3],(risP days 4).all textF=true:=by decide +kernel
theorem textF_of {days:Nat} (hd:days∈[2,3]) {x:Str} (h:x∈risP days 4):TextF x:=by
  obtain ⟨h1,h⟩:=and_t (List.all_eq_true.mp (textF_ok days hd) x h)
  obtain ⟨h2,h3⟩:=and_t h
  exact ⟨of_decide_eq_true h1,h2,fun i hi=>have h:=and_t (List.all_eq_true.mp h3 i (List.mem_range.mpr hi)); ⟨of_decide_eq_true h.1,of_decide_eq_true h.2⟩⟩
theorem one_ok {c:Nat} (h:c < 0x110000):PyData.strOk (one c)=true:=by
  show (#[c]:Array Nat).all (· < 0x110000)=true
  rw [← Array.all_toList]
  exact congrArg (· && true) (decide_eq_true h)
theorem one_inj {a b:Nat}:one a=one b↔a=b:=⟨fun h=>(List.cons.inj (congrArg (fun x:Str=>x.cps.toList) h)).1,fun h=>h ▸ rfl⟩
theorem index_ap {x y:Str} {i:Nat} {σ:St} (h:Builtin.Str.occurrences x y 0 x.length 1=[i]):callB .index [.str x,.str y] σ=some (.int i,σ):=ofB (o:=(Builtin.Str.occurrences x y 0 x.length 1).head?) (congrArg List.head? h) rfl
noncomputable def bndP (row order:Str) (steep:Bool):List Nat:=(List.range 3).filter fun i=>decide (decide (ix order (cAt row (i+1)) < ix order (cAt row i))=steep)
noncomputable def samP (b:List Nat) (t:Str):List Nat:=b.filter fun i=>decide (cAt t i=cAt t (i+1))
noncomputable def dueL (b:List Nat) (ts:List Str):List Str:=ts.filter fun t=>(samP b t).isEmpty
noncomputable def keyP (row order:Str) (t:Str):List Str:=(List.range 4).map fun i=>one (cAt t (ix row (cAt order i)))
theorem bnd_run {row order:Str} {steep:Bool} (R:RowF row) (O:RowF order) {e:EE} {σ:St} (h34:lk e.cel 34=some (.str order)) (h45:lk e.cel 45=some (.str row)) (h62:lk e.cel 62=some (.bool steep)) (N:Nat) (hN:30≤N) :
    ∃ k σ',(fs (N+1)).E e K379_3 σ=some (.lst k,σ')∧Ext σ σ'∧σ'[k]?=some (.lst ((bndP row order steep).map fun (i:Nat)=>V.int i)):=by
  have hr:rangeOf 0 3 1=some [0,1,2]:=rfl
  obtain ⟨k,σ',h1,h2,h3,_⟩:=comp_runN (c:=16) (elt:=.var (.loc 65)) (t:=.nm (.loc 65)) (it:=.range [.lit (.int 3)]) (ifs:=[.cmp .eq (.cmp .gt (.meth (.var (.cel 34)) (.bi .index) [.item (.var (.cel 45)) (.var (.loc 65))] []) (.meth (.var (.cel 34)) (.bi .index) [.item (.var (.cel 45)) (.bin .add (.var (.loc 65)) (.lit (.int 1)))] [])) (.var (.cel 62))])
    (p:=fun v=>decide (decide (ix order (cAt row (natV v+1)) < ix order (cAt row (natV v)))=steep)) (g:=id) (fr:=[34,45,62])
    (e:=e) (σ:=σ) (σ1:=σ) (src:=.rng [0,1,2]) ((List.range 3).map fun (i:Nat)=>V.int i) (fun e=>lk e.cel 34=some (.str order)∧lk e.cel 45=some (.str row)∧lk e.cel 62=some (.bool steep)) (fun q=>iRng (eCons rLit eNil) (rng1 hr)) (.refl _) rfl rfl rfl ⟨(only_lk rfl).trans h34,(only_lk rfl).trans h45,(only_lk rfl).trans h62⟩
    (fun v hv q e σ2 he _=>by
      obtain ⟨i,hi,rfl⟩:=List.mem_map.mp hv
      have hi:=List.mem_range.mp hi
      refine hid fun GG kk=>?_
      refine anE he fun g34 zz=>anE zz fun g45 g62=>?_
      refine anE (R.at_ i (Nat.lt_succ_of_lt hi)) fun a1 a2=>?_
      refine anE (R.at_ (i+1) (Nat.succ_lt_succ hi)) fun b1 b2=>?_
      refine anE (O.ix_ _ a2) fun c1 _=>?_
      obtain ⟨d1,_⟩:=O.ix_ _ b2
      refine kk ?_
      clear kk GG
      have s1:small (i:Int)=true:=small_nat (Nat.le_trans (Nat.le_of_lt hi) (by decide))
      have s2:small ((i:Int)+1)=true:=small_nat (n:=i+1) (Nat.le_trans hi (by decide))
      have b1:pickC row ((i:Int)+1)=some (cAt row (i+1)):=b1
      have C:=fun {σ}=>index_ap c1 (σ:=σ)
      have D:=fun {σ}=>index_ap d1 (σ:=σ)
      have hlt:decide ((ix order (cAt row (i+1)):Int) < (ix order (cAt row i):Int))=decide (ix order (cAt row (i+1)) < ix order (cAt row i)):=decide_eq_decide.mpr Int.ofNat_lt
      refine ⟨⟨(65,.int i)::e.loc,e.cel,e.fn⟩,rfl,⟨g34,g45,g62⟩,σ2,?_,.refl _,fun _=>⟨σ2,rLoc lk_hit,.refl _⟩⟩
      show allT _ _ σ2=some (decide (decide (ix order (cAt row (i+1)) < ix order (cAt row i))=steep),σ2)
      rw [← hlt]
      repeat (first | with_reducible exact C | with_reducible exact D | with_reducible exact eq_bool | walk_at "p"))
    (by decide) N (Nat.le_trans (by decide) hN)
  refine ⟨k,σ',h1,h2,?_⟩
  rw [h3,List.map_id,List.filter_map]
  rfl
@[reducible] noncomputable def natsV (l:List Nat):List V:=l.map fun (i:Nat)=>V.int i
theorem natsV_ok {l:List Nat}:DOks (natsV l) (l.map fun (i:Nat)=>PyData.int i):=by
  induction l with
  | nil=>exact .nil
  | cons x l ih=>exact .cons (.int x) ih
theorem sam_run {t:Str} (T:TextF t) {b:List Nat} (hb:∀ i∈b,i < 3) (hbl:b.length≤3) {e:EE} {σ:St} {kb:Nat} (h60:lk e.cel 60=some (.str t)) (h63:lk e.cel 63=some (.lst kb)) (hs:σ[kb]?=some (.lst (natsV b))) (N:Nat) (hN:30≤N) :
    ∃ k σ',(fs (N+1)).E e K379_1 σ=some (.lst k,σ')∧Ext σ σ'∧σ'[k]?=some (.lst (natsV (samP b t))):=by
  have hbl:(b.map fun (i:Nat)=>V.int i).length≤3:=by rw [List.length_map]; exact hbl
  obtain ⟨k,σ',h1,h2,h3,_⟩:=comp_runN (c:=12) (elt:=.var (.loc 65)) (t:=.nm (.loc 65)) (it:=.of (.var (.cel 63))) (ifs:=[.cmp .eq (.item (.var (.cel 60)) (.var (.loc 65))) (.item (.var (.cel 60)) (.bin .add (.var (.loc 65)) (.lit (.int 1))))])
    (p:=fun v=>decide (cAt t (natV v)=cAt t (natV v+1))) (g:=id) (fr:=[60])
    (e:=e) (σ:=σ) (σ1:=σ) (src:=.lst kb 0) (natsV b) (fun e=>lk e.cel 60=some (.str t)) (fun q=>iLst (rCel h63) hs) (.refl _) ⟨_,hs,rfl⟩ rfl rfl ((only_lk rfl).trans h60)
    (fun v hv q e σ2 g60 _=>by
      obtain ⟨i,hi,rfl⟩:=List.mem_map.mp hv
      have hi:=hb i hi
      refine anE (T.at_ i (Nat.lt_succ_of_lt hi)) fun a1 a2=>?_
      refine anE (T.at_ (i+1) (Nat.succ_lt_succ hi)) fun b1 b2=>?_
      have s1:small (i:Int)=true:=small_nat (Nat.le_trans (Nat.le_of_lt hi) (by decide))
      have s2:small ((i:Int)+1)=true:=small_nat (n:=i+1) (Nat.le_trans hi (by decide))
      have b1:pickC t ((i:Int)+1)=some (cAt t (i+1)):=b1
      have o1:=one_ok a2
      have o2:=one_ok b2
      have hd:decide (one (cAt t i)=one (cAt t (i+1)))=decide (cAt t i=cAt t (i+1)):=decide_eq_decide.mpr one_inj
      refine ⟨⟨(65,.int i)::e.loc,e.cel,e.fn⟩,rfl,g60,σ2,?_,.refl _,fun _=>⟨σ2,rLoc lk_hit,.refl _⟩⟩
      show allT _ _ σ2=some (decide (cAt t i=cAt t (i+1)),σ2)
      rw [← hd]
      repeat (first | with_reducible exact eq_str o1 o2 | walk_at "p"))
    (Nat.le_trans hbl (by decide)) N (Nat.le_trans (Nat.succ_le_succ (Nat.add_le_add_left hbl 12)) (Nat.le_trans (by decide) hN))
  refine ⟨k,σ',h1,h2,?_⟩
  rw [h3,List.map_id,List.filter_map]
  rfl
theorem due_comp {ts:List Str} (hT:∀ t∈ts,TextF t) (hl:ts.length≤20) {b:List Nat} (hb:∀ i∈b,i < 3) (hbl:b.length≤3) {e:EE} {σ:St} {kb kr:Nat} (h61:lk e.loc 61=some (.lst kr)) (h63:lk e.cel 63=some (.lst kb)) (hs:σ[kb]?=some (.lst (natsV b))) (hr:σ[kr]?=some (.lst (ts.map .str))) (N:Nat) (hN:70≤N) :
    ∃ k σ',(fs (N+1)).E e K379_2 σ=some (.lst k,σ')∧Ext σ σ'∧σ'[k]?=some (.lst ((dueL b ts).map .str)):=by
  have hl:(ts.map V.str).length≤20:=by rw [List.length_map]; exact hl
  obtain ⟨k,σ',h1,h2,h3,_⟩:=comp_runN (c:=40) (elt:=.var (.cel 60)) (t:=.nm (.cel 60)) (it:=.of (.var (.loc 61))) (ifs:=[.cmp .eq K379_1 (.lst [])])
    (p:=fun v=>(samP b (strV v)).isEmpty) (g:=id) (fr:=[63])
    (e:=e) (σ:=σ) (σ1:=σ) (src:=.lst kr 0) (ts.map .str) (fun e=>lk e.cel 63=some (.lst kb)) (fun q=>iLst (rLoc h61) hr) (.refl _) ⟨_,hr,rfl⟩ rfl rfl ((only_lk rfl).trans h63)
    (fun v hv q e σ2 g63 x2=>by
      obtain ⟨t,ht,rfl⟩:=List.mem_map.mp hv
      have g63':lk ((60,V.str t)::e.cel) 63=some (.lst kb):=g63
      refine hid fun GG kk=>?_
      refine exE (sam_run (hT t ht) hb hbl (e:=⟨e.loc,(60,.str t)::e.cel,e.fn⟩) (kb:=kb) rfl g63' (x2.at hs) (q+37) (Nat.le_add_left 30 (q+7))) fun k1 zz=>exE zz fun σ3 zz=>anE zz fun c1 zz=>anE zz fun c2 c3=>?_
      refine kk ?_
      clear kk GG
      have hem:(natsV (samP b t)).isEmpty=(samP b t).isEmpty:=List.isEmpty_map
      refine ⟨⟨e.loc,(60,.str t)::e.cel,e.fn⟩,rfl,g63',σ3++[.lst []],?_,c2.snoc _,fun _=>⟨_,rCel lk_hit,.refl _⟩⟩
      show allT _ _ σ2=some ((samP b t).isEmpty,σ3++[.lst []])
      rw [← hem]
      repeat (first | with_reducible exact c1 | with_reducible exact eq_new c3 natsV_ok | walk_at "p"))
    (Nat.le_trans hl (by decide)) N (Nat.le_trans (Nat.succ_le_succ (Nat.add_le_add_left hl 40)) (Nat.le_trans (by decide) hN))
  refine ⟨k,σ',h1,h2,?_⟩
  rw [h3,List.map_id,List.filter_map]
  rfl
theorem key_run {row order t:Str} (R:RowF row) (O:RowF order) (T:TextF t) (hch:order.cps.toList=(List.range 4).map (cAt order)) {e:EE} {σ:St} (h34:lk e.cel 34=some (.str order)) (h45:lk e.cel 45=some (.str row)) (h60:lk e.cel 60=some (.str t)) (N:Nat) (hN:30≤N) :
    ∃ k σ',(fs (N+1)).E e K379_0 σ=some (.lst k,σ')∧Ext σ σ'∧σ'[k]?=some (.lst ((keyP row order t).map .str)):=by
  obtain ⟨k,σ',h1,h2,h3,_⟩:=comp_runN (c:=12) (elt:=.item (.var (.cel 60)) (.meth (.var (.cel 45)) (.bi .index) [.var (.loc 43)] [])) (t:=.nm (.loc 43)) (it:=.of (.var (.cel 34))) (ifs:=[])
    (p:=fun _=>true) (g:=fun v=>.str (one (cAt t (ix row (headC v))))) (fr:=[45,60])
    (e:=e) (σ:=σ) (σ1:=σ) (src:=.str order.cps.toList) (order.cps.toList.map fun c=>.str ⟨#[c]⟩) (fun e=>lk e.cel 45=some (.str row)∧lk e.cel 60=some (.str t)) (fun q=>iStr (rCel h34)) (.refl _) rfl rfl rfl ⟨(only_lk rfl).trans h45,(only_lk rfl).trans h60⟩
    (fun v hv q e σ2 ⟨g45,g60⟩ _=>by
      obtain ⟨c,hc,rfl⟩:=List.mem_map.mp hv
      rw [hch] at hc
      obtain ⟨i,hi,rfl⟩:=List.mem_map.mp hc
      refine hid fun GG kk=>?_
      refine anE (O.at_ i (List.mem_range.mp hi)) fun _ a2=>?_
      refine anE (R.ix_ _ a2) fun c1 c2=>?_
      refine anE (T.at_ _ c2) fun b1 _=>?_
      refine kk ?_
      clear kk GG
      have s1:small (ix row (cAt order i):Int)=true:=small_nat (Nat.le_trans (Nat.le_of_lt c2) (by decide))
      have C:=fun {σ}=>index_ap c1 (σ:=σ)
      refine ⟨⟨_::e.loc,e.cel,e.fn⟩,rfl,⟨g45,g60⟩,σ2,rfl,.refl _,fun _=>⟨σ2,?_,.refl _⟩⟩
      show _=some (V.str ⟨#[cAt t (ix row (cAt order i))]⟩,σ2)
      repeat (first | with_reducible exact C | walk_at "p"))
    (by rw [hch]; exact (by decide:4≤4096)) N (by rw [hch]; exact Nat.le_trans (by decide:17≤30) hN)
  refine ⟨k,σ',h1,h2,?_⟩
  rw [h3,List.filter_eq_self.mpr (fun _ _=>rfl),hch]
  unfold keyP
  rw [List.map_map,List.map_map,List.map_map]
  rfl
theorem keys_run {row order:Str} (R:RowF row) (O:RowF order) (hch:order.cps.toList=(List.range 4).map (cAt order)) {cel:List (Nat × V)} (h34:lk cel 34=some (.str order)) (h45:lk cel 45=some (.str row)) (N:Nat) (hN:30≤N) {ts:List Str} :
    (∀ t∈ts,TextF t)→∀ σ:St,∃ kvs σ',keysV (fun x=>(fs (N+1)).E (EE.set ⟨[],only [34,45] cel,0⟩ x (.cel 60)) K379_0) (ts.map .str) σ=some (kvs,σ')∧Ext σ σ'∧∀ σ2,Ext σ' σ2→readKeys kvs σ2=some (ts.map (keyP row order),σ2):=by
  induction ts with
  | nil=>exact fun _ σ=>⟨[],σ,rfl,.refl _,fun _ _=>rfl⟩
  | cons t ts ih =>
    intro hT σ
    refine hid fun GG kk=>?_
    refine exE (key_run R O (hT t (.head _)) hch (e:=⟨[],(60,.str t)::only [34,45] cel,0⟩) (σ:=σ) (lk_miss rfl ((only_lk rfl).trans h34)) (lk_miss rfl ((only_lk rfl).trans h45)) lk_hit N hN) fun k zz=>exE zz fun σ1 zz=>anE zz fun c1 zz=>anE zz fun c2 c3=>?_
    refine exE (ih (fun t ht=>hT t (.tail _ ht)) σ1) fun kvs zz=>exA zz fun σ2 d1 zz=>anE zz fun d2 d3=>?_
    refine kk ?_
    clear kk GG
    exact ⟨.lst k::kvs,σ2,bnd c1 (bnd d1 rfl),c2.trans d2,fun σ3 x3=>bnd (getLst_at (x3.at (d2.at c3))) (ofB (vStrs_map _) (bnd (d3 σ3 x3) rfl))⟩
theorem rSortBy {n:Nat} {e:EE} {fr:List Nat} {a key:CE} {p:Pl} {σ σ1:St} {v:V} {r:Option (V × St)} (h1:(fs n).E e a σ=some (v,σ1)) (k:sortV (fs n) e fr p key v σ1=r):(fs (n+1)).E e (.sortBy fr a p key) σ=r:=bnd h1 k
theorem chars_ok:∀ x∈rowsL,x.cps.toList=(List.range 4).map (cAt x):=by decide +kernel
theorem run_due {row order:Str} (hrow:row∈rowsL) (horder:order∈rowsL) {days:Nat} (hd:days∈[2,3]) {steep:Bool} {ys:List V} (hy:sortK ((dueL (bndP row order steep) (risP days 4)).map (keyP row order)) ((dueL (bndP row order steep) (risP days 4)).map .str)=some ys)
    {σ:St} {kr:Nat} (hr:σ[kr]?=some (.lst ((risP days 4).map .str))) (m:Nat):∃ k σ',(fs (m+90)).C 379 [.str row,.str order,.lst kr,.bool steep] [] σ=some (.lst k,σ')∧Ext σ σ'∧σ'[k]?=some (.lst ys)∧σ.length≤k:=by
  have R:=rowF_of hrow
  have O:=rowF_of horder
  have K:=of_decide_eq_true (and_t (risOk_ok days hd 4 (by decide))).1
  have hT:∀ t∈risP days 4,TextF t:=fun t ht=>textF_of hd ht
  have hb:∀ i∈bndP row order steep,i < 3:=fun i hi=>List.mem_range.mp (List.mem_filter.mp hi).1
  have hbl:(bndP row order steep).length≤3:=List.length_filter_le ..
  refine hid fun GG kk=>?_
  refine exE (bnd_run R O (steep:=steep) (e:=⟨[(61,.lst kr)],[(62,.bool steep),(34,.str order),(45,.str row)],379⟩) (σ:=σ) rfl rfl rfl (m+87) (Nat.le_add_left 30 (m+57))) fun k1 zz=>exE zz fun σ1 zz=>anE zz fun a1 zz=>anE zz fun a2 a3=>?_
  refine exE (due_comp hT K hb hbl (e:=⟨[(61,.lst kr)],[(63,.lst k1),(62,.bool steep),(34,.str order),(45,.str row)],379⟩) (σ:=σ1) (kr:=kr) (kb:=k1) rfl rfl a3 (a2.at hr) (m+87) (Nat.le_add_left 70 (m+17))) fun k2 zz=>exE zz fun σ2 zz=>anE zz fun b1 zz=>anE zz fun b2 b3=>?_
  have hT2:∀ t∈dueL (bndP row order steep) (risP days 4),TextF t:=fun t ht=>hT t (List.mem_filter.mp ht).1
  have hl2:(dueL (bndP row order steep) (risP days 4)).length < 64:=Nat.lt_of_le_of_lt (Nat.le_trans (List.length_filter_le ..) K) (by decide)
  refine exE (keys_run R O (chars_ok _ horder) (cel:=[(63,.lst k1),(62,.bool steep),(34,.str order),(45,.str row)]) rfl rfl (m+86) (Nat.le_add_left 30 (m+56)) hT2 σ2) fun kvs zz=>exE zz fun σ3 zz=>anE zz fun c1 zz=>anE zz fun c2 c3=>?_
  refine kk ?_
  clear kk GG
  generalize dueL (bndP row order steep) (risP days 4)=dl at *
  have g1:(Nat.beq 379 379 && decide ((dl.map V.str).length < 64))=true:=by
    rw [List.length_map,decide_eq_true hl2]; rfl
  have g2:((dl.map (keyP row order)).all fun y=>Nat.beq y.length 4)=true:=by
    rw [List.all_map]
    exact List.all_eq_true.mpr fun t _=>rfl
  refine ⟨σ3.length,σ3++[.lst ys],?_,((a2.trans b2).trans c2).snoc _,snoc_last,((a2.trans b2).trans c2).le⟩
  have hs:(fs (m+88)).E ⟨[(64,.lst k2),(61,.lst kr)],[(63,.lst k1),(62,.bool steep),(34,.str order),(45,.str row)],379⟩ (.sortBy [34,45] (.var (.loc 64)) (.cel 60) K379_0) σ2=some (.lst σ3.length,σ3++[.lst ys]) :=
    rSortBy (rLoc lk_hit) (bnd (getLst_at b3) (grd g1 (bnd c1 (bnd (c3 σ3 (.refl _)) (grd g2 (ofB hy rfl))))))
  apply R379
  repeat (first | with_reducible exact a1 | with_reducible exact b1 | with_reducible exact hs | walk_at "p")
noncomputable def freeL (last:Str) (D:List Str):List Str:=D.filter fun t=>!decide (one (cAt t 3)=last)
theorem isEmpty_map {l:List Str}:(l.map V.str).isEmpty=l.isEmpty:=List.isEmpty_map
theorem free_comp {D:List Str} (hT:∀ t∈D,TextF t) (hl:D.length≤20) {last:Str} (ho:PyData.strOk last=true) {e:EE} {σ:St} {kd:Nat} (h67:lk e.cel 67=some (.str last)) (h64:lk e.loc 64=some (.lst kd)) (hs:σ[kd]?=some (.lst (D.map .str))) (N:Nat) (hN:40≤N) :
    ∃ k σ',(fs (N+1)).E e K384_0 σ=some (.lst k,σ')∧Ext σ σ'∧σ'[k]?=some (.lst ((freeL last D).map .str)):=by
  have hl:(D.map V.str).length≤20:=by rw [List.length_map]; exact hl
  obtain ⟨k,σ',h1,h2,h3,_⟩:=comp_runN (c:=10) (elt:=.var (.loc 60)) (t:=.nm (.loc 60)) (it:=.of (.var (.loc 64))) (ifs:=[.cmp .ne (.item (.var (.loc 60)) (.lit (.int 3))) (.var (.cel 67))])
    (p:=fun v=>!decide (one (cAt (strV v) 3)=last)) (g:=id) (fr:=[67])
    (e:=e) (σ:=σ) (σ1:=σ) (src:=.lst kd 0) (D.map .str) (fun e=>lk e.cel 67=some (.str last)) (fun q=>iLst (rLoc h64) hs) (.refl _) ⟨_,hs,rfl⟩ rfl rfl ((only_lk rfl).trans h67)
    (fun v hv q e σ2 g67 _=>by
      obtain ⟨t,ht,rfl⟩:=List.mem_map.mp hv
      obtain ⟨a1,a2⟩:=(hT t ht).at_ 3 (by decide)
      have o1:=one_ok a2
      refine ⟨⟨_::e.loc,e.cel,e.fn⟩,rfl,g67,σ2,?_,.refl _,fun _=>⟨σ2,rLoc lk_hit,.refl _⟩⟩
      show allT _ _ σ2=some (!decide (one (cAt t 3)=last),σ2)
      repeat (first | with_reducible exact iteS rfl a1 | with_reducible exact ne_str o1 ho | walk_at "p"))
    (Nat.le_trans hl (by decide)) N (Nat.le_trans (Nat.succ_le_succ (Nat.add_le_add_left hl 10)) (Nat.le_trans (by decide) hN))
  refine ⟨k,σ',h1,h2,?_⟩
  rw [h3,List.map_id,List.filter_map]
  rfl
theorem neB {σ:St} {k:Nat} {D:List Str} {b:Bool} (hT:∀ t∈D,PyData.strOk t=true) (h:σ[k]?=some (.lst (D.map .str))) (hb:D.isEmpty=b):cmpV .ne (.lst k) (.lst σ.length) (σ++[.lst []])=some (.bool !b,σ++[.lst []]):=hb ▸ isEmpty_map (l:=D) ▸ ne_new h (DOks.strs hT)
theorem eqB {σ:St} {k:Nat} {D:List Str} {b:Bool} (hT:∀ t∈D,PyData.strOk t=true) (h:σ[k]?=some (.lst (D.map .str))) (hb:D.isEmpty=b):cmpV .eq (.lst k) (.lst σ.length) (σ++[.lst []])=some (.bool b,σ++[.lst []]):=hb ▸ isEmpty_map (l:=D) ▸ eq_new h (DOks.strs hT)
theorem run_copies {row copies last:Str} (hrow:row∈rowsL) {D:List Str} (hT:∀ t∈D,TextF t) (hl:D.length≤20) (ho:PyData.strOk last=true) {b2:Bool} (d1:dotOk row=true) (d2:dotOk (row++one (cAt row 3))=true)
    (m1:ematch (dotted row) copies=some (!D.isEmpty)) (m2:ematch (dotted (row++one (cAt row 3))) copies=some b2) (hb:D.isEmpty=true∨b2=!(freeL last D).isEmpty)
    {σ:St} {kd:Nat} (hs:σ[kd]?=some (.lst (D.map .str))) (m:Nat):∃ σ',(fs (m+150)).C 384 [.str row,.str copies,.lst kd,.str last] [] σ=some (.bool true,σ')∧Ext σ σ':=by
  have R:=rowF_of hrow
  have hD:∀ t∈D,PyData.strOk t=true:=fun t ht=>(hT t ht).ok
  have hF:∀ t∈freeL last D,PyData.strOk t=true:=fun t ht=>hD t (List.mem_filter.mp ht).1
  refine hid fun GG kk=>?_
  refine exA (run_ematch m1 (m+15) σ) fun σ1 a1 a2=>?_
  have hs1:=a2.at hs
  have hs2:(σ1++[.lst []])[kd]?=some (.lst (D.map .str)):=snoc_get hs1
  refine exE (free_comp hT hl ho (e:=⟨[(64,.lst kd),(66,.str copies),(45,.str row)],[(67,.str last)],384⟩) (σ:=σ1++[.lst []]) rfl rfl hs2 (m+147) (Nat.le_add_left 40 (m+107))) fun k2 zz=>exE zz fun σ2 zz=>anE zz fun b1' zz=>anE zz fun b2' b3'=>?_
  have hs3:=b2'.at hs2
  have rl:row.length+(one (cAt row 3)).length≤4096:=by rw [R.len]; exact (by decide:5≤4096)
  refine anE (R.at_ 3 (by decide)) fun p3 _=>?_
  refine exA (run_ematch m2 (m+15) (σ2++[.lst []])) fun σ3 c1 c2=>?_
  refine kk ?_
  clear kk GG
  have b3'':=c2.at (snoc_get (d:=.lst []) b3')
  have x1:Ext σ σ2:=(a2.snoc _).trans b2'
  have D1:=fun {m σ}=>run_dotted d1 (m:=m) (σ:=σ)
  have D2:=fun {m σ}=>run_dotted d2 (m:=m) (σ:=σ)
  have T1:decide (true=true)=true:=rfl
  cases he:D.isEmpty with
  | true =>
    rw [he] at a1
    refine ⟨σ2++[.lst []],?_,x1.snoc _⟩
    apply R384
    repeat (first | with_reducible exact D1 | with_reducible exact a1 | with_reducible exact neB hD hs1 he | with_reducible exact eqB hD hs3 he | with_reducible exact b1' | walk_at "p")
  | false =>
    rw [he] at a1
    have hb:b2=!(freeL last D).isEmpty:=hb.resolve_left (by rw [he]; exact Bool.noConfusion)
    refine ⟨σ3++[.lst []],?_,((x1.snoc _).trans c2).snoc _⟩
    generalize hf:(freeL last D).isEmpty=b at hb
    subst hb
    apply R384
    repeat (first | with_reducible exact D1 | with_reducible exact D2 | with_reducible exact a1 | with_reducible exact c1 | with_reducible exact neB hD hs1 he | with_reducible exact eqB hD hs3 he | with_reducible exact neB hF b3'' hf | with_reducible exact b1' | with_reducible exact iteS rfl p3 | with_reducible exact add_str rl | walk_at "p")
    cases b <;> rfl
theorem typ_str {x:Str} {σ:St}:callT .typ [.str x] σ=some (.ty .str,σ):=rfl
theorem typ_lst {k:Nat} {xs:List V} {σ:St} (h:σ[k]?=some (.lst xs)):callT .typ [.lst k] σ=some (.ty .list,σ):=bnd (getLst_at h) rfl
theorem search_ap {a:Addr} {x:Str} {σ:St} (ha:(Nat.beq a 155 || Nat.beq a 160)=true) (h:okHeader x=true):callB .search [.glob a,.str x] σ=some (.none,σ):=grd (by rw [ha,h]; rfl) rfl
theorem run_conv {x:Str} (h:okHeader x=true) {b:Bool} {k m:Nat} {σ:St}:(fs (m+10)).C 190 [.ins k,.str x] [(19,.bool b)] σ=some (.str x,σ):=by
  induction b with
  | true=>apply R190; repeat (first | with_reducible exact typ_str | with_reducible exact search_ap rfl h | walk_at "p")
  | false=>apply R190; repeat (first | with_reducible exact typ_str | with_reducible exact search_ap rfl h | walk_at "p")
@[reducible] noncomputable def entV (p:Str × Str):V:=.tup [.str p.1,.str p.2]
theorem run_get_all {x nm:Str} (h1:lowered x=nm) (h2:okHeader nm=true) (h3:PyData.strOk nm=true) (h4:nm.length≤100) {σ:St} {k kH:Nat} {ents:List (Str × Str)} (hk:σ[k]?=some (.ins (.lst kH))) (hH:σ[kH]?=some (.lst (ents.map entV)))
    (he:∀ p∈ents,PyData.strOk (lowered p.1)=true∧(lowered p.1).length≤100) (hl:ents.length≤170) (m:Nat) :
    ∃ r σ',(fs (m+200)).C 228 [.ins k,.str x] [] σ=some (.lst r,σ')∧Ext σ σ'∧σ'[r]?=some (.lst (((ents.filter fun p=>decide (lowered p.1=nm)).map (·.2)).map .str)):=by
  have hl:(ents.map entV).length≤170:=by rw [List.length_map]; exact hl
  obtain ⟨r,σ',c1,c2,c3,_⟩:=comp_runN (c:=12) (elt:=.item (.var (.loc 25)) (.lit (.int 1))) (t:=.nm (.loc 25)) (it:=.of (.attr (.var (.loc 14)))) (ifs:=[.cmp .eq (.meth (.item (.var (.loc 25)) (.lit (.int 0))) (.bi .lower) [] []) (.var (.cel 19))])
    (p:=fun v=>decide (lowered (strV (nth 0 v))=nm)) (g:=fun v=>.str (strV (nth 1 v))) (fr:=[19])
    (e:=⟨[(14,.ins k)],[(19,.str nm),(19,.str x)],228⟩) (σ:=σ) (σ1:=σ) (src:=.lst kH 0) (ents.map entV) (fun e=>lk e.cel 19=some (.str nm)) (fun q=>iLst (rAttr (rLoc lk_hit) hk) hH) (.refl _) ⟨_,hH,rfl⟩ rfl rfl ((only_lk rfl).trans lk_hit)
    (fun v hv q e σ2 g19 _=>by
      obtain ⟨⟨a,b⟩,hp,rfl⟩:=List.mem_map.mp hv
      obtain ⟨o1,o2⟩:=he _ hp
      have o2:(lowered a).length≤4096:=Nat.le_trans o2 (by decide)
      refine ⟨⟨_::e.loc,e.cel,e.fn⟩,rfl,g19,σ2,?_,.refl _,fun _=>⟨σ2,?_,.refl _⟩⟩
      · show allT _ _ σ2=some (decide (lowered a=nm),σ2)
        repeat (first | with_reducible exact lower_ap o2 | with_reducible exact eq_str o1 h3 | walk_at "p")
      · show _=some (V.str b,σ2)
        repeat walk_at "p")
    (Nat.le_trans hl (by decide)) (m+197) (Nat.le_trans (Nat.succ_le_succ (Nat.add_le_add_left hl 12)) (Nat.le_add_left 183 (m+14)))
  refine ⟨r,σ',?_,c2,?_⟩
  · have hx:(lowered x).length≤4096:=h1 ▸ Nat.le_trans h4 (by decide)
    have L:∀ {σ},callB .lower [.str x] σ=some (.str nm,σ):=h1 ▸ lower_ap hx
    have Rk:rcv .conv (.ins k) σ=some ((),σ):=rcvI hk
    apply R228
    repeat (first | with_reducible exact L | with_reducible exact Rk | with_reducible exact run_conv h2 | with_reducible exact c1 | walk_at "p")
  · rw [c3,List.filter_map,List.map_map,List.map_map]
    rfl
theorem lNil {n:Nat} {e:EE} {t:Tg} {src:Src} {b:List CS} {σ:St} (hs:Gives σ src []) (ht:tgOk t src=true):(fs (n+1)).L e t src b σ=some ((.next,e),σ):=grd ht (bnd hs.nil rfl)
theorem run_new {m:Nat} {e:EE} {σ:St}:(fs (m+21)).E e .newHeaders σ=some (.ins (σ.length+1),σ++[.lst []]++[.ins (.lst σ.length)]):=by
  have hs:(σ++[.lst []])[σ.length]?=some (.lst []):=snoc_last
  have h1:(fs (m+20)).E ⟨[(15,.none)],[],0⟩ initE σ=some (.lst σ.length,σ++[.lst []]):=by
    rw [initE_eq]
    repeat walk_at "p"
  have h2:(fs (m+20)).T ⟨[(15,.lst σ.length)],[],0⟩ initT (σ++[.lst []])=some (false,σ++[.lst []]):=by
    rw [initT_eq]
    repeat (first | with_reducible exact typ_lst hs | walk_at "p")
    exact rfl
  have h3:(fs (m+20)).S ⟨[(15,.lst σ.length)],[],0⟩ initL (σ++[.lst []])=some ((.next,⟨[(15,.lst σ.length)],[],0⟩),σ++[.lst []]):=by
    rw [initL_eq]
    exact sFor (iLst (rLoc lk_hit) hs) (lNil ⟨_,hs,rfl⟩ rfl)
  have e:(σ++[Cl.lst []]).length=σ.length+1:=List.length_append
  rw [← e]
  show newE (fs (m+20)) σ=_
  unfold newE
  rw [hdrI_eq]
  exact bnd h1 (bnd h2 (bnd h3 rfl))
theorem append_ap {k:Nat} {xs:List V} {v:V} {σ:St} (h:σ[k]?=some (.lst xs)) (hl:xs.length≤4096):callB .append [.lst k,v] σ=some (.none,σ.set k (.lst (xs++[v]))):=bnd (getLst_at h) (grd (big_of hl) (bnd (setLst_at h) rfl))
theorem set_last {σ:St} {c d:Cl}:(σ++[c]).set σ.length d=σ++[d]:=by
  rw [List.set_append,if_neg (Nat.lt_irrefl _),Nat.sub_self]; rfl
theorem append_new {v:V} {σ:St}:callB .append [.lst σ.length,v] (σ++[.lst []])=some (.none,σ++[.lst [v]]):=(append_ap snoc_last (Nat.zero_le _)).trans (congrArg (fun s=>some (V.none,s)) set_last)
theorem items_ap {E:CE→X V} {c:CE} {k:Nat} {σ σ':St} (h:E c σ=some (.kw0 k,σ')) (hk:σ'[k]?=some .kw):evIt E (.items c) σ=some (.nil,σ'):=bnd h (ofB (o:=kw? (.kw0 k)) (a:=k) rfl (ofB (o:=kwC (σ'[k]?)) (a:=()) (congrArg kwC hk) rfl))
theorem L_nil {n:Nat} {e:EE} {ps:List Pl} {b:List CS} {σ:St}:(fs (n+1)).L e (.tup ps) .nil b σ=some ((.next,e),σ):=rfl
theorem run_add {nm v:Str} (h1:okHeader nm=true) (h2:okHeader v=true) (h3:v.length≤100) {σ:St} {k kH:Nat} {ents:List V} (hk:σ[k]?=some (.ins (.lst kH))) (hH:σ[kH]?=some (.lst ents)) (hl:ents.length≤4000) {m:Nat} :
    (fs (m+30)).C 286 [.ins k,.str nm,.str v] [] σ=some (V.none,(σ++[Cl.kw]++[Cl.lst [V.str v]]).set kH (Cl.lst (ents++[V.tup [V.str nm,V.str v]]))):=by
  have k2:(σ++[Cl.kw]++[Cl.lst []])[k]?=some (.ins (.lst kH)):=snoc_get (snoc_get hk)
  have k3:(σ++[Cl.kw]++[Cl.lst [V.str v]])[k]?=some (.ins (.lst kH)):=snoc_get (snoc_get hk)
  have p2:(σ++[Cl.kw]++[Cl.lst []])[(σ++[Cl.kw]).length]?=some (.lst []):=snoc_last
  have p3:(σ++[Cl.kw]++[Cl.lst [V.str v]])[(σ++[Cl.kw]).length]?=some (.lst ([v].map .str)):=snoc_last
  have w3:(σ++[Cl.kw]++[Cl.lst [V.str v]])[σ.length]?=some .kw:=snoc_get snoc_last
  have q3:(σ++[Cl.kw]++[Cl.lst [V.str v]])[kH]?=some (.lst ents):=snoc_get (snoc_get hH)
  have l1:ents.length≤4096:=Nat.le_trans hl (by decide)
  have hj:(([v].map (·.length)).sum+[v].length * ("; ":Str).length≤4096):=Nat.le_trans (Nat.add_le_add_right h3 2) (by decide)
  have J:callB .join [.str "; ",.lst (σ++[Cl.kw]).length] (σ++[Cl.kw]++[Cl.lst [V.str v]])=some (.str v,_):=join_ap p3 hj
  have R2:rcv .conv (.ins k) (σ++[Cl.kw]++[Cl.lst []])=some ((),_):=rcvI k2
  have R3:rcv .conv (.ins k) (σ++[Cl.kw]++[Cl.lst [V.str v]])=some ((),_):=rcvI k3
  have R4:rcv (.bi .append) (.lst (σ++[Cl.kw]).length) (σ++[Cl.kw]++[Cl.lst []])=some ((),_):=rcvL p2
  have R5:rcv (.bi .append) (.lst kH) (σ++[Cl.kw]++[Cl.lst [V.str v]])=some ((),_):=rcvL q3
  apply R286
  repeat (first | with_reducible exact R2 | with_reducible exact R3 | with_reducible exact R4 | with_reducible exact R5 | with_reducible exact run_conv h1 | with_reducible exact run_conv h2 | with_reducible exact append_new | with_reducible exact append_ap q3 l1 | with_reducible exact J | with_reducible apply items_ap | with_reducible exact L_nil | walk_at "p")
@[reducible] noncomputable def Tr:Type:=Nat × Int × Nat
@[reducible] noncomputable def tV (t:Tr):V:=.tup [.int t.1,.int t.2.1,.str (one t.2.2)]
noncomputable def gP (gap d:Nat) (t:Tr):Bool:=decide (t.1+gap≤d)
noncomputable def insG (gap:Nat) (x:Tr) (R:List Tr):List Tr:=R.takeWhile (gP gap x.1)++x::R.dropWhile (gP gap x.1)
theorem gP_mono {gap d:Nat} {a b:Tr} (h:a.1≤b.1) (hb:gP gap d b=true):gP gap d a=true:=decide_eq_true (Nat.le_trans (Nat.add_le_add_right h gap) (of_decide_eq_true hb))
theorem take_while {P:Tr→Bool} {R:List Tr} {p:Nat} (h1:∀ t∈R.take p,P t=true) (h2:∀ t∈R.drop p,P t=false):R.takeWhile P=R.take p∧R.dropWhile P=R.drop p:=by
  have e:=List.take_append_drop p R
  generalize R.take p=a at *
  generalize R.drop p=b at *
  subst e
  rw [List.takeWhile_append_of_pos h1,List.dropWhile_append_of_pos h1]
  induction b with
  | nil=>exact ⟨List.append_nil a,rfl⟩
  | cons y b =>
    have h:=h2 y (.head _)
    rw [List.takeWhile_cons_of_neg (by rw [h]; exact Bool.noConfusion),List.dropWhile_cons_of_neg (by rw [h]; exact Bool.noConfusion)]
    exact ⟨List.append_nil a,rfl⟩
theorem mid_le {lo hi:Nat} (h:lo≤hi):lo≤(lo+hi) / 2:=(Nat.le_div_iff_mul_le (by decide)).mpr (Nat.mul_two lo ▸ Nat.add_le_add_left h lo)
theorem mid_lt {lo hi:Nat} (h:lo < hi):(lo+hi) / 2 < hi:=Nat.div_lt_of_lt_mul (Nat.two_mul hi ▸ Nat.add_lt_add_right h hi)
theorem tLt {M:Nat} (hM:3≤M) {l c:List (Nat × V)} {f:Nat} {σ:St} {lo hi:Nat} (h2:lk l 2=some (.int lo)) (h3:lk l 3=some (.int hi)) {b:Bool} (hb:decide ((lo:Int) < hi)=b):(fs M).T ⟨l,c,f⟩ (.cmp .lt (.var (.loc 2)) (.var (.loc 3))) σ=some (b,σ):=by
  obtain ⟨K,rfl⟩:∃ K,M=K+3:=⟨M - 3,(Nat.sub_add_cancel hM).symm⟩
  exact hb ▸ tCmp (rCmp (rLoc h2) (rLoc h3) lt_int) truth_b
@[reducible] noncomputable def mm (i:Nat):V:=.int i
@[reducible] noncomputable def half (b:Bool) (l:List (Nat × V)) (i:Nat) (f:Nat):EE:=⟨cond b ((2,mm (i+1))::(5,mm i)::l) ((3,mm i)::(5,mm i)::l),[],f⟩
noncomputable def Fnd (P:Tr→Bool) (R:List Tr) (p:Nat):Prop:=p≤R.length∧R.takeWhile P=R.take p∧R.dropWhile P=R.drop p
theorem bis_loop {gap dx fn:Nat} {R:List Tr} {body:List CS} {σ:St} {v0 v1 v4:V} (hS:R.Pairwise fun p q=>p.1≤q.1)
    (hb:∀ (q lo hi:Nat) (l:List (Nat × V)) (t:Tr),lk l 0=some v0→lk l 1=some v1→lk l 4=some v4→lk l 2=some (.int lo)→lk l 3=some (.int hi)→R[(lo+hi) / 2]?=some t→t∈R→execsV (fs (q+20)).S ⟨l,[],fn⟩ body σ=some ((.next,half (gP gap dx t) l ((lo+hi) / 2) fn),σ)) {d:Nat} :
    ∀ {lo hi N:Nat} {l:List (Nat × V)},22+d≤N→hi≤lo+d→lo≤hi→hi≤R.length→lk l 0=some v0→lk l 1=some v1→lk l 4=some v4→lk l 2=some (.int lo)→lk l 3=some (.int hi)→(∀ t∈R.take lo,gP gap dx t=true)→(∀ t∈R.drop hi,gP gap dx t=false) →
      ∃ e' p,(fs N).W ⟨l,[],fn⟩ (.cmp .lt (.var (.loc 2)) (.var (.loc 3))) body σ=some ((.next,e'),σ)∧lk e'.loc 2=some (.int (p:Nat))∧Fnd (gP gap dx) R p:=by
  induction d with
  | zero =>
    intro lo hi N l hN hd hle hl k0 k1 k4 k2 k3 b1 b2
    cases Nat.le_antisymm hle hd
    obtain ⟨M,rfl⟩:=Nat.exists_eq_succ_of_ne_zero (Nat.ne_of_gt (Nat.lt_of_lt_of_le (by decide) hN))
    exact ⟨_,lo,wStep (tLt (Nat.le_of_succ_le_succ (Nat.le_trans (by decide) hN)) k2 k3 (decide_eq_false (Int.lt_irrefl _))) rfl,k2,hl,take_while b1 b2⟩
  | succ d ih =>
    intro lo hi N l hN hd hle hl k0 k1 k4 k2 k3 b1 b2
    obtain ⟨M,rfl⟩:=Nat.exists_eq_succ_of_ne_zero (Nat.ne_of_gt (Nat.lt_of_lt_of_le (Nat.succ_pos _) hN))
    have hM:22+d≤M:=Nat.le_of_succ_le_succ hN
    have h22:22≤M:=Nat.le_trans (Nat.le_add_right 22 d) hM
    rcases Nat.lt_or_ge lo hi with hlt | hge
    · have m1:=mid_le hle
      have m2:=mid_lt hlt
      have hm:(lo+hi) / 2 < R.length:=Nat.lt_of_lt_of_le m2 hl
      obtain ⟨q,rfl⟩:∃ q,M=q+20:=⟨M - 20,(Nat.sub_add_cancel (Nat.le_trans (by decide) h22)).symm⟩
      have hx:=hb q lo hi l _ k0 k1 k4 k2 k3 (List.getElem?_eq_getElem hm) (List.getElem_mem hm)
      have hT:=tLt (c:=[]) (f:=fn) (σ:=σ) (Nat.le_trans (by decide) h22) k2 k3 (decide_eq_true (Int.ofNat_lt.mpr hlt))
      have e:=List.take_append_drop ((lo+hi) / 2) R
      rw [List.drop_eq_getElem_cons hm] at e
      have hS:=List.pairwise_append.mp (e.symm ▸ hS)
      generalize (lo+hi) / 2=mid at *
      cases hg:gP gap dx R[mid] with
      | true =>
        rw [hg] at hx
        obtain ⟨e',p,r1,r2⟩:=ih (l:=(2,.int (mid+1:Nat))::(5,.int mid)::l) hM (Nat.le_trans hd ((Nat.succ_add mid d).symm ▸ Nat.succ_le_succ (Nat.add_le_add_right m1 d))) m2 hl k0 k1 k4 lk_hit k3 (fun t ht=>by
          rw [← List.take_append_getElem hm] at ht
          rcases List.mem_append.mp ht with h | h
          · exact gP_mono (hS.2.2 t h _ (.head _)) hg
          · cases List.mem_singleton.mp h; exact hg) b2
        exact ⟨e',p,wStep hT (wBody hx r1),r2⟩
      | false =>
        rw [hg] at hx
        obtain ⟨e',p,r1,r2⟩:=ih (l:=(3,.int mid)::(5,.int mid)::l) hM (Nat.le_of_lt_succ (Nat.lt_of_lt_of_le m2 hd)) m1 (Nat.le_of_lt hm) k0 k1 k4 k2 lk_hit b1 (fun t ht=>by
          rw [List.drop_eq_getElem_cons hm] at ht
          rcases List.mem_cons.mp ht with rfl | h
          · exact hg
          · cases hq:gP gap dx t with
            | false=>rfl
            | true=>exact absurd (gP_mono ((List.pairwise_cons.mp hS.2.1).1 t h) hq) (by rw [hg]; exact Bool.noConfusion))
        exact ⟨e',p,wStep hT (wBody hx r1),r2⟩
    · cases Nat.le_antisymm hle hge
      exact ⟨_,lo,wStep (tLt (Nat.le_trans (by decide) h22) k2 k3 (decide_eq_false (Int.lt_irrefl _))) rfl,k2,hl,take_while b1 b2⟩
section
variable {q fn lo hi i:Nat} {l:List (Nat × V)} {σ:St} {t:CE} {b:Bool}
@[reducible] noncomputable def mC:CE:=.bin .fdiv (.bin .add (.var (.loc 2)) (.var (.loc 3))) (.lit (.int 2))
theorem mid_s (h2:lk l 2=some (.int lo)) (h3:lk l 3=some (.int hi)):(fs (q+4)).S ⟨l,[],fn⟩ (.assign (.nm (.loc 5)) mC) σ=some ((.next,⟨(5,mm ((lo+hi) / 2))::l,[],fn⟩),σ):=by
  unfold mm
  rw [Int.ofNat_fdiv]
  exact sAsgL (rBin (rBin (rLoc h2) (rLoc h3) add_int) rLit (fdiv_int (by decide) (by decide)))
theorem hSet3:execsV (fs (q+4)).S ⟨(5,mm i)::l,[],fn⟩ [.assign (.nm (.loc 3)) (.var (.loc 5))] σ=some ((.next,half false l i fn),σ):=xCons (sAsgL (rLoc lk_hit)) rfl
theorem hSet2:execsV (fs (q+4)).S ⟨(5,mm i)::l,[],fn⟩ [.assign (.nm (.loc 2)) (.bin .add (.var (.loc 5)) (.lit (.int 1)))] σ=some ((.next,half true l i fn),σ):=xCons (sAsgL (rBin (rLoc lk_hit) rLit add_int)) rfl
theorem half_r (h2:lk l 2=some (.int lo)) (h3:lk l 3=some (.int hi)) (ht:(fs (q+12)).T ⟨(5,mm ((lo+hi) / 2))::l,[],fn⟩ t σ=some (!b,σ)):execsV (fs (q+13)).S ⟨l,[],fn⟩ [.assign (.nm (.loc 5)) mC,.ifs t [.assign (.nm (.loc 3)) (.var (.loc 5))] [.assign (.nm (.loc 2)) (.bin .add (.var (.loc 5)) (.lit (.int 1)))]] σ=some ((.next,half b l ((lo+hi) / 2) fn),σ):=by
  refine xCons (mid_s h2 h3) (elN (xCons (fl:=.next) (e1:=half b l ((lo+hi) / 2) fn) (σ1:=σ) (sIfs ht ?_) rfl))
  induction b with
  | true=>exact hSet2 (q:=q+8)
  | false=>exact hSet3 (q:=q+8)
theorem half_l (h2:lk l 2=some (.int lo)) (h3:lk l 3=some (.int hi)) (ht:(fs (q+12)).T ⟨(5,mm ((lo+hi) / 2))::l,[],fn⟩ t σ=some (b,σ)):execsV (fs (q+13)).S ⟨l,[],fn⟩ [.assign (.nm (.loc 5)) mC,.ifs t [.assign (.nm (.loc 2)) (.bin .add (.var (.loc 5)) (.lit (.int 1)))] [.assign (.nm (.loc 3)) (.var (.loc 5))]] σ=some ((.next,half b l ((lo+hi) / 2) fn),σ):=by
  refine xCons (mid_s h2 h3) (elN (xCons (fl:=.next) (e1:=half b l ((lo+hi) / 2) fn) (σ1:=σ) (sIfs ht ?_) rfl))
  induction b with
  | true=>exact hSet2 (q:=q+8)
  | false=>exact hSet3 (q:=q+8)
end
theorem run_day {t:Tr} {m:Nat} {σ:St}:(fs (m+6)).C 345 [tV t] [] σ=some (.int t.1,σ):=by
  apply R345
  repeat walk_at "p"
theorem le_not {a b:Nat}:decide ((b:Int) < (a:Int))=!decide (a≤b):=by
  rw [← decide_not]
  exact decide_eq_decide.mpr (Int.ofNat_lt.trans Nat.not_le.symm)
theorem lt_nat {a b:Nat}:decide ((a:Int) < (b:Int))=decide (a < b):=decide_eq_decide.mpr Int.ofNat_lt
theorem lt_tup {p q:Tr} {b:Bool} {σ:St} (h:lt3v p.1 p.2.1 q.1 q.2.1 (one p.2.2) (one q.2.2)=b):cmpV .lt (tV p) (tV q) σ=some (.bool b,σ):=h ▸ rfl
theorem lt3_le {a b:Nat} {i j:Int} {x y:Str} (h:i < j):lt3v a i b j x y=decide (a≤b):=by
  unfold lt3v
  by_cases e:(a:Int)=b
  · rw [if_pos e,if_neg (Int.ne_of_lt h),decide_eq_true h,decide_eq_true (Nat.le_of_eq (Int.ofNat.inj e))]
  · rw [if_neg e,lt_nat]
    exact decide_eq_decide.mpr ⟨Nat.le_of_lt,fun g=>Nat.lt_of_le_of_ne g fun q=>e (congrArg _ q)⟩
theorem lt3_lt {a b:Nat} {i j:Int} {x y:Str} (h:i < j):lt3v b i a j y x=!decide (a < b):=by
  rw [lt3_le h]
  rw [← decide_not]
  exact decide_eq_decide.mpr Nat.not_lt.symm
theorem truth_e {a b:Bool} {σ:St} (h:a=b):truth (.bool a) σ=some (b,σ):=h ▸ rfl
theorem loc1 {n f:Nat} {l:List (Nat × V)} {v w:V} {σ:St} (h:lk l 1=some v):(fs (n+1)).E ⟨(5,w)::l,[],f⟩ (.var (.loc 1)) σ=some (v,σ):=rLoc h
section
variable {q lo hi k:Nat} {R:List Tr} {x t:Tr} {l:List (Nat × V)} {σ:St}
theorem at_mid {i q f:Nat} (hk:σ[k]?=some (.lst (R.map tV))) (hl:R.length≤10) (ht:R[i]?=some t) (k0:lk l 0=some (.lst k)):(fs (q+3)).E ⟨(5,mm i)::l,[],f⟩ (.item (.var (.loc 0)) (.var (.loc 5))) σ=some (tV t,σ) :=
  rItem (rLoc k0) (rLoc lk_hit) (iteL (small_nat (Nat.le_trans (Nat.le_of_lt (List.getElem?_eq_some_iff.mp ht).1) (Nat.le_trans hl (by decide)))) hk (pick_nat ((List.getElem?_map ..).trans (congrArg (Option.map tV) ht))))
theorem at_day {i q f:Nat} (hk:σ[k]?=some (.lst (R.map tV))) (hl:R.length≤10) (ht:R[i]?=some t) (k0:lk l 0=some (.lst k)) (k4:lk l 4=some (.glob 345)):(fs (q+7)).E ⟨(5,mm i)::l,[],f⟩ (.call (.var (.loc 4)) [.item (.var (.loc 0)) (.var (.loc 5))] []) σ=some (.int t.1,σ) :=
  rCall (rLoc k4) (eCons (at_mid hk hl ht k0) eNil) kNil (cGlob run_day)
variable (hk:σ[k]?=some (.lst (R.map tV))) (hl:R.length≤10) (hS:R.Pairwise fun p q=>p.1≤q.1)
include hk hl hS
theorem find_rk:∃ e' p,(fs (q+40)).W ⟨[(3,.int R.length),(4,.glob 345),(3,.none),(2,.int 0),(1,.int x.1),(0,.lst k)],[],56⟩ (.cmp .lt (.var (.loc 2)) (.var (.loc 3))) L56_0 σ=some ((.next,e'),σ)∧lk e'.loc 2=some (.int (p:Nat))∧Fnd (gP 0 x.1) R p :=
  bis_loop (v0:=.lst k) (v1:=.int x.1) (v4:=.glob 345) (d:=R.length) (lo:=0) (hi:=R.length) hS (fun q lo hi l t k0 k1 k4 k2 k3 ht _=>half_r k2 k3 (tCmp (rCmp (loc1 k1) (at_day hk hl ht k0 k4) lt_int) (truth_e le_not)))
    (Nat.le_trans (Nat.add_le_add_left hl 22) (Nat.le_add_left 32 (q+8))) (Nat.le_add_left _ _) (Nat.zero_le _) (Nat.le_refl _) rfl rfl rfl rfl rfl (fun _ h=>nomatch h) (fun t h=>by rw [List.drop_length] at h; cases h)
theorem find_lk:∃ e' p,(fs (q+40)).W ⟨[(3,.int R.length),(4,.glob 345),(3,.none),(2,.int 0),(1,.int x.1),(0,.lst k)],[],74⟩ (.cmp .lt (.var (.loc 2)) (.var (.loc 3))) L74_0 σ=some ((.next,e'),σ)∧lk e'.loc 2=some (.int (p:Nat))∧Fnd (gP 1 x.1) R p :=
  bis_loop (v0:=.lst k) (v1:=.int x.1) (v4:=.glob 345) (d:=R.length) (lo:=0) (hi:=R.length) hS (fun q lo hi l t k0 k1 k4 k2 k3 ht _=>half_l k2 k3 (tCmp (rCmp (at_day hk hl ht k0 k4) (loc1 k1) lt_int) (truth_e lt_nat)))
    (Nat.le_trans (Nat.add_le_add_left hl 22) (Nat.le_add_left 32 (q+8))) (Nat.le_add_left _ _) (Nat.zero_le _) (Nat.le_refl _) rfl rfl rfl rfl rfl (fun _ h=>nomatch h) (fun t h=>by rw [List.drop_length] at h; cases h)
theorem find_rp (hx:∀ t∈R,x.2.1 < t.2.1):∃ e' p,(fs (q+40)).W ⟨[(3,.int R.length),(4,.none),(3,.none),(2,.int 0),(1,tV x),(0,.lst k)],[],56⟩ (.cmp .lt (.var (.loc 2)) (.var (.loc 3))) L56_1 σ=some ((.next,e'),σ)∧lk e'.loc 2=some (.int (p:Nat))∧Fnd (gP 1 x.1) R p :=
  bis_loop (v0:=.lst k) (v1:=tV x) (v4:=.none) (d:=R.length) (lo:=0) (hi:=R.length) hS (fun q lo hi l t k0 k1 k4 k2 k3 ht hm=>half_r k2 k3 (tCmp (rCmp (loc1 k1) (at_mid hk hl ht k0) (lt_tup (lt3_lt (hx t hm)))) truth_b))
    (Nat.le_trans (Nat.add_le_add_left hl 22) (Nat.le_add_left 32 (q+8))) (Nat.le_add_left _ _) (Nat.zero_le _) (Nat.le_refl _) rfl rfl rfl rfl rfl (fun _ h=>nomatch h) (fun t h=>by rw [List.drop_length] at h; cases h)
theorem find_lp (hx:∀ t∈R,t.2.1 < x.2.1):∃ e' p,(fs (q+40)).W ⟨[(3,.int R.length),(4,.none),(3,.none),(2,.int 0),(1,tV x),(0,.lst k)],[],74⟩ (.cmp .lt (.var (.loc 2)) (.var (.loc 3))) L74_1 σ=some ((.next,e'),σ)∧lk e'.loc 2=some (.int (p:Nat))∧Fnd (gP 0 x.1) R p :=
  bis_loop (v0:=.lst k) (v1:=tV x) (v4:=.none) (d:=R.length) (lo:=0) (hi:=R.length) hS (fun q lo hi l t k0 k1 k4 k2 k3 ht hm=>half_l k2 k3 (tCmp (rCmp (at_mid hk hl ht k0) (loc1 k1) (lt_tup (lt3_le (hx t hm)))) truth_b))
    (Nat.le_trans (Nat.add_le_add_left hl 22) (Nat.le_add_left 32 (q+8))) (Nat.le_add_left _ _) (Nat.zero_le _) (Nat.le_refl _) rfl rfl rfl rfl rfl (fun _ h=>nomatch h) (fun t h=>by rw [List.drop_length] at h; cases h)
end
theorem insert_ap {k p:Nat} {xs:List V} {v:V} {σ:St} (h:σ[k]?=some (.lst xs)) (hl:xs.length≤4096) (hp:p≤xs.length):callB .insert [.lst k,.int p,v] σ=some (.none,σ.set k (.lst (xs.take p++v::xs.drop p))):=by
  have hc:(clip xs.length 0 (some (p:Int))).toNat=p:=by
    show (max 0 (min (if (p:Int) < 0 then _ else (p:Int)) xs.length)).toNat=p
    rw [if_neg (Int.not_lt.mpr (Int.natCast_nonneg p)),Int.min_eq_left (Int.ofNat_le.mpr hp),Int.max_eq_right (Int.natCast_nonneg p)]
    rfl
  have hi:insAt xs p v=xs.take p++v::xs.drop p:=by unfold insAt; rw [hc]
  exact hi ▸ bnd (getLst_at h) (grd (by rw [big_of hl,small_nat (Nat.le_trans hp (Nat.le_trans hl (by decide)))]; rfl) (bnd (setLst_at h) rfl))
section
variable {k m:Nat} {R:List Tr} {x:Tr} {σ:St} (hk:σ[k]?=some (.lst (R.map tV))) (hl:R.length≤10)
include hk hl
theorem ins_at {p gap:Nat} (h:Fnd (gP gap x.1) R p):callB .insert [.lst k,.int p,tV x] σ=some (.none,σ.set k (.lst ((insG gap x R).map tV))):=by
  have e:(insG gap x R).map tV=(R.map tV).take p++tV x::(R.map tV).drop p:=by
    unfold insG
    rw [h.2.1,h.2.2,List.map_append,List.map_take,List.map_cons,List.map_drop]
  have el:(R.map tV).length=R.length:=List.length_map ..
  exact e ▸ insert_ap hk (el ▸ Nat.le_trans hl (by decide)) (el ▸ h.1)
theorem len_R:callB .len [.lst k] σ=some (.int R.length,σ):=by
  have el:(R.map tV).length=R.length:=List.length_map ..
  exact el ▸ len_lst hk (el ▸ Nat.le_trans hl (by decide))
variable (hS:R.Pairwise fun p q=>p.1≤q.1)
include hS
theorem ins_rk:(fs (m+80)).C 47 [.lst k,tV x] [(4,.glob 345)] σ=some (.none,σ.set k (.lst ((insG 0 x R).map tV))):=by
  refine hid fun GG kk=>?_
  obtain ⟨⟨l,c,f⟩,p,h1,h2,h3⟩:=find_rk (q:=m+33) hk hl hS (x:=x)
  refine kk ?_
  clear kk GG
  have Rk:rcv (.bi .insert) (.lst k) σ=some ((),σ):=rcvL hk
  have B:(fs (m+76)).C 56 [.lst k,.int x.1,.int 0,.none] [(4,.glob 345)] σ=some (.int p,σ):=by
    apply R56_4k
    repeat (first | with_reducible exact len_R hk hl | with_reducible exact h1 | walk_at "p")
  apply R47_2k
  repeat (first | with_reducible exact run_day | with_reducible exact B | with_reducible exact Rk | with_reducible exact ins_at hk hl h3 | walk_at "p")
theorem ins_lk:(fs (m+80)).C 65 [.lst k,tV x] [(4,.glob 345)] σ=some (.none,σ.set k (.lst ((insG 1 x R).map tV))):=by
  refine hid fun GG kk=>?_
  obtain ⟨⟨l,c,f⟩,p,h1,h2,h3⟩:=find_lk (q:=m+33) hk hl hS (x:=x)
  refine kk ?_
  clear kk GG
  have Rk:rcv (.bi .insert) (.lst k) σ=some ((),σ):=rcvL hk
  have B:(fs (m+76)).C 74 [.lst k,.int x.1,.int 0,.none] [(4,.glob 345)] σ=some (.int p,σ):=by
    apply R74_4k
    repeat (first | with_reducible exact len_R hk hl | with_reducible exact h1 | walk_at "p")
  apply R65_2k
  repeat (first | with_reducible exact run_day | with_reducible exact B | with_reducible exact Rk | with_reducible exact ins_at hk hl h3 | walk_at "p")
theorem ins_rp (hx:∀ t∈R,x.2.1 < t.2.1):(fs (m+80)).C 47 [.lst k,tV x] [] σ=some (.none,σ.set k (.lst ((insG 1 x R).map tV))):=by
  refine hid fun GG kk=>?_
  obtain ⟨⟨l,c,f⟩,p,h1,h2,h3⟩:=find_rp (q:=m+33) hk hl hS (x:=x) hx
  refine kk ?_
  clear kk GG
  have Rk:rcv (.bi .insert) (.lst k) σ=some ((),σ):=rcvL hk
  have B:(fs (m+76)).C 56 [.lst k,tV x,.int 0,.none] [] σ=some (.int p,σ):=by
    apply R56_4
    repeat (first | with_reducible exact len_R hk hl | with_reducible exact h1 | walk_at "p")
  apply R47_2
  repeat (first | with_reducible exact B | with_reducible exact Rk | with_reducible exact ins_at hk hl h3 | walk_at "p")
theorem ins_lp (hx:∀ t∈R,t.2.1 < x.2.1):(fs (m+80)).C 65 [.lst k,tV x] [] σ=some (.none,σ.set k (.lst ((insG 0 x R).map tV))):=by
  refine hid fun GG kk=>?_
  obtain ⟨⟨l,c,f⟩,p,h1,h2,h3⟩:=find_lp (q:=m+33) hk hl hS (x:=x) hx
  refine kk ?_
  clear kk GG
  have Rk:rcv (.bi .insert) (.lst k) σ=some ((),σ):=rcvL hk
  have B:(fs (m+76)).C 74 [.lst k,tV x,.int 0,.none] [] σ=some (.int p,σ):=by
    apply R74_4
    repeat (first | with_reducible exact len_R hk hl | with_reducible exact h1 | walk_at "p")
  apply R65_2
  repeat (first | with_reducible exact B | with_reducible exact Rk | with_reducible exact ins_at hk hl h3 | walk_at "p")
end
theorem isin_ap {x:Str} {k:Nat} {ps:List Str} {σ:St} (h:σ[k]?=some (.lst (ps.map .str))):cmpV .isin (.str x) (.lst k) σ=some (.bool (ps.contains x),σ):=bnd (bnd (getLst_at h) (ofB (vStrs_map ps) rfl)) rfl
theorem notin_ap {x:Str} {k:Nat} {ps:List Str} {σ:St} (h:σ[k]?=some (.lst (ps.map .str))):cmpV .notin (.str x) (.lst k) σ=some (.bool (!ps.contains x),σ):=bnd (bnd (getLst_at h) (ofB (vStrs_map ps) rfl)) rfl
@[reducible] noncomputable def relP (ps:List Str) (a b:Nat):Bool:=ps.contains (one a++one b)
noncomputable def addG (gap:Nat) (R:List Tr):List Int:=R.map fun t=>(t.1:Int)+gap
noncomputable def highC (ps:List Str) (gap:Nat) (c:Nat) (R:List Tr):List Int:=addG gap (R.filter fun t=>relP ps c t.2.2)
noncomputable def lowC (ps:List Str) (gap:Nat) (c:Nat) (R:List Tr):List Int:=addG gap (R.filter fun t=>relP ps t.2.2 c)
noncomputable def trC (v:V):Nat:=headC (nth 2 v)
noncomputable def trD (v:V):Int:=intV (nth 0 v)
theorem near_run {ps:List Str} {gap c:Nat} {R:List Tr} {P:Nat→Bool} {te:CE} (hl:R.length≤10) {e:EE} {σ:St} {kp kr:Nat} (h40:lk e.cel 40=some (.int gap)) (h43:lk e.cel 43=some (.str (one c))) (h38:lk e.cel 38=some (.lst kp)) (h45:lk e.loc 45=some (.lst kr)) (hp:σ[kp]?=some (.lst (ps.map .str))) (hr:σ[kr]?=some (.lst (R.map tV)))
    (hT:∀ (q:Nat) (l c':List (Nat × V)) (t:Tr) (σ2:St),lk c' 43=some (.str (one c))→lk c' 38=some (.lst kp)→σ2[kp]?=some (.lst (ps.map .str))→(fs (q+10)).T ⟨(54,.str (one t.2.2))::l,c',0⟩ te σ2=some (P t.2.2,σ2)) (N:Nat) (hN:40≤N) :
    ∃ k σ',(fs (N+1)).E e (.comp [40,43,38] (.bin .add (.var (.loc 46)) (.var (.cel 40))) [.mk (.tup [.loc 46,.loc 53,.loc 54]) (.of (.var (.loc 45))) [te]]) σ=some (.lst k,σ')∧Ext σ σ'∧σ'[k]?=some (.lst ((addG gap (R.filter fun t=>P t.2.2)).map .int)):=by
  have hl:(R.map tV).length≤10:=by rw [List.length_map]; exact hl
  obtain ⟨k,σ',h1,h2,h3,_⟩:=comp_runN (c:=10) (elt:=.bin .add (.var (.loc 46)) (.var (.cel 40))) (t:=.tup [.loc 46,.loc 53,.loc 54]) (it:=.of (.var (.loc 45))) (ifs:=[te])
    (p:=fun v=>P (trC v)) (g:=fun v=>.int (trD v+gap)) (fr:=[40,43,38])
    (e:=e) (σ:=σ) (σ1:=σ) (src:=.lst kr 0) (R.map tV) (fun e=>lk e.cel 40=some (.int gap)∧lk e.cel 43=some (.str (one c))∧lk e.cel 38=some (.lst kp)∧e.fn=0) (fun q=>iLst (rLoc h45) hr) (.refl _) ⟨_,hr,rfl⟩ rfl rfl
    ⟨(only_lk rfl).trans h40,(only_lk rfl).trans h43,(only_lk rfl).trans h38,rfl⟩
    (fun v hv q e σ2 he x2=>by
      obtain ⟨t,ht,rfl⟩:=List.mem_map.mp hv
      obtain ⟨l,c',f⟩:=e
      obtain ⟨g40,g43,g38,rfl⟩:=he
      exact ⟨⟨(54,.str (one t.2.2))::(53,.int t.2.1)::(46,.int t.1)::l,c',0⟩,rfl,⟨g40,g43,g38,rfl⟩,σ2,aOne (hT q _ c' t σ2 g43 g38 (x2.at hp)),.refl _,fun _=>⟨σ2,rBin (rLoc rfl) (rCel g40) add_int,.refl _⟩⟩)
    (Nat.le_trans hl (by decide)) N (Nat.le_trans (Nat.succ_le_succ (Nat.add_le_add_left hl 10)) (Nat.le_trans (by decide) hN))
  refine ⟨k,σ',h1,h2,?_⟩
  rw [h3,List.filter_map,List.map_map]
  unfold addG
  rw [List.map_map]
  rfl
theorem two_len {a b:Nat}:(one a).length+(one b).length≤4096:=(by decide:2≤4096)
theorem high_run {ps:List Str} {gap c:Nat} {R:List Tr} (hl:R.length≤10) {e:EE} {σ:St} {kp kr:Nat} (h40:lk e.cel 40=some (.int gap)) (h43:lk e.cel 43=some (.str (one c))) (h38:lk e.cel 38=some (.lst kp)) (h45:lk e.loc 45=some (.lst kr)) (hp:σ[kp]?=some (.lst (ps.map .str))) (hr:σ[kr]?=some (.lst (R.map tV))) (N:Nat) (hN:40≤N) :
    ∃ k σ',(fs (N+1)).E e K350_0 σ=some (.lst k,σ')∧Ext σ σ'∧σ'[k]?=some (.lst ((highC ps gap c R).map .int)) :=
  near_run (P:=fun d=>relP ps c d) hl h40 h43 h38 h45 hp hr (fun q l c' t σ2 g43 g38 hp=>tCmp (rCmp (rBin (rCel g43) (rLoc lk_hit) (add_str two_len)) (rCel g38) (isin_ap hp)) truth_b) N hN
theorem low_run {ps:List Str} {gap c:Nat} {R:List Tr} (hl:R.length≤10) {e:EE} {σ:St} {kp kr:Nat} (h40:lk e.cel 40=some (.int gap)) (h43:lk e.cel 43=some (.str (one c))) (h38:lk e.cel 38=some (.lst kp)) (h45:lk e.loc 45=some (.lst kr)) (hp:σ[kp]?=some (.lst (ps.map .str))) (hr:σ[kr]?=some (.lst (R.map tV))) (N:Nat) (hN:40≤N) :
    ∃ k σ',(fs (N+1)).E e K350_1 σ=some (.lst k,σ')∧Ext σ σ'∧σ'[k]?=some (.lst ((lowC ps gap c R).map .int)) :=
  near_run (P:=fun d=>relP ps d c) hl h40 h43 h38 h45 hp hr (fun q l c' t σ2 g43 g38 hp=>tCmp (rCmp (rBin (rLoc lk_hit) (rCel g43) (add_str two_len)) (rCel g38) (isin_ap hp)) truth_b) N hN
theorem vInts_map (l:List Int):vInts (l.map .int)=some l:=by
  induction l with
  | nil=>rfl
  | cons a l ih=>exact congrArg (Option.map (a::·)) ih
theorem max_ap {k:Nat} {l:List Int} {m:Int} {σ:St} (h:σ[k]?=some (.lst (l.map .int))) (hm:best maxI l=some m):callB .max [.lst k] σ=some (.int m,σ):=bnd (getLst_at h) (ofB (o:=(vInts (l.map .int)).bind (best maxI)) ((congrArg (Option.bind · (best maxI)) (vInts_map l)).trans hm) rfl)
theorem min_ap {k:Nat} {l:List Int} {m:Int} {σ:St} (h:σ[k]?=some (.lst (l.map .int))) (hm:best minI l=some m):callB .min [.lst k] σ=some (.int m,σ):=bnd (getLst_at h) (ofB (o:=(vInts (l.map .int)).bind (best minI)) ((congrArg (Option.bind · (best minI)) (vInts_map l)).trans hm) rfl)
theorem add_lst {k l:Nat} {xs ys:List V} {σ:St} (h:σ[k]?=some (.lst xs)) (h':σ[l]?=some (.lst ys)) (hl:xs.length+ys.length≤4096):binV .add (.lst k) (.lst l) σ=some (.lst σ.length,σ++[.lst (xs++ys)]):=bnd (getLst_at h) (bnd (getLst_at h') (grd (big_of hl) rfl))
theorem list_ap {k:Nat} {xs:List V} {σ:St} (h:σ[k]?=some (.lst xs)) (hl:xs.length≤4096):callT .list [.lst k] σ=some (.lst σ.length,σ++[.lst xs]):=bnd (getLst_at h) (grd (big_of hl) rfl)
@[reducible] noncomputable def Lt (gap:Nat) (a b:Int):Prop:=Nat.casesOn (motive:=fun _=>Prop) gap (a < b) fun _=>b < a
noncomputable def tauP (gap turn:Nat):Int:=Nat.casesOn (motive:=fun _=>Int) gap turn fun _=>-turn
structure RowOk (gap turn:Nat) (R:List Tr):Prop where
  len:R.length=turn
  sorted:R.Pairwise fun p q=>p.1≤q.1
  tau:∀ t∈R,Lt gap t.2.1 (tauP gap turn)
  chr:∀ t∈R,t.2.2 < 0x110000
noncomputable def tD (t:Tr):PyData:=.tuple [.int t.1,.int t.2.1,.str (one t.2.2)]
theorem tD_ok {t:Tr} (h:t.2.2 < 0x110000):DOk (tV t) (tD t):=⟨fun _=>rfl,by
  show (true && (true && (PyData.strOk (one t.2.2) && true)))=true
  rw [one_ok h]; rfl,(by decide:1≤8)⟩
theorem tDs_ok {R:List Tr} (h:∀ t∈R,t.2.2 < 0x110000):DOks (R.map tV) (R.map tD):=by
  induction R with
  | nil=>exact .nil
  | cons t R ih=>exact have h:=List.forall_mem_cons.mp h; .cons (tD_ok h.1) (ih h.2)
theorem tD_refl {R:List Tr}:PyData.eqvAll (R.map tD) (R.map tD)=true:=by
  induction R with
  | nil=>rfl
  | cons t R ih =>
    show ((((t.1:Int) == t.1) && ((t.2.1 == t.2.1) && ((one t.2.2 == one t.2.2) && true))) && PyData.eqvAll (R.map tD) (R.map tD))=true
    rw [ih,beq_self_eq_true,beq_self_eq_true,beq_self_eq_true]; rfl
theorem insG_mem {gap:Nat} {x:Tr} {R:List Tr} {t:Tr}:t∈insG gap x R↔t=x∨t∈R:=by
  unfold insG
  rw [List.mem_append,List.mem_cons,or_left_comm,← List.mem_append,List.takeWhile_append_dropWhile]
section
variable {σ:St} {a a' b c:Cl}
theorem len_snoc:(σ++[a']).length=(σ++[a]).length:=(List.length_append (as:=σ) (bs:=[a'])).trans (List.length_append (as:=σ) (bs:=[a])).symm
theorem get_fst:(σ++[a]++[b])[σ.length]?=some a:=snoc_get snoc_last
theorem get_snd:(σ++[a]++[b])[(σ++[a']).length]?=some b:=len_snoc ▸ snoc_last
theorem set_fst:(σ++[a]++[b]).set σ.length c=σ++[c]++[b]:=by
  rw [List.append_assoc,List.append_assoc,List.set_append,if_neg (Nat.lt_irrefl _),Nat.sub_self]; rfl
theorem set_snd:(σ++[a]++[b]).set (σ++[a']).length c=σ++[a]++[c]:=(congrArg (fun i=>(σ++[a]++[b]).set i c) len_snoc).trans set_last
end
@[reducible] noncomputable def cR (R:List Tr):Cl:=.lst (R.map tV)
@[reducible] noncomputable def tVV (d:Nat) (τ:Int) (c:Nat):V:=.tup [.int d,.int τ,.str (one c)]
section
variable {gap turn d c:Nat} {R:List Tr} (hl:R.length≤10) {σ:St} {τ:Int}
include hl
theorem two0 (hS:R.Pairwise fun p q=>p.1≤q.1) (ht:∀ t∈R,t.2.1 < τ) {m:Nat}:(fs (m+80)).C 47 [.lst σ.length,tVV d τ c] [(4,.glob 345)] (σ++[cR R]++[cR R])=some (.none,σ++[cR (insG 0 (d,τ,c) R)]++[cR R]) ∧
    (fs (m+80)).C 65 [.lst (σ++[cR R]).length,tVV d τ c] [] (σ++[cR (insG 0 (d,τ,c) R)]++[cR R])=some (.none,σ++[cR (insG 0 (d,τ,c) R)]++[cR (insG 0 (d,τ,c) R)]) :=
  ⟨(ins_rk (x:=(d,τ,c)) get_fst hl hS).trans (congrArg (fun s=>some (V.none,s)) set_fst),(ins_lp (x:=(d,τ,c)) get_snd hl hS ht).trans (congrArg (fun s=>some (V.none,s)) set_snd)⟩
theorem two1 (hS:R.Pairwise fun p q=>p.1≤q.1) (ht:∀ t∈R,τ < t.2.1) {m:Nat}:(fs (m+80)).C 65 [.lst σ.length,tVV d τ c] [(4,.glob 345)] (σ++[cR R]++[cR R])=some (.none,σ++[cR (insG 1 (d,τ,c) R)]++[cR R]) ∧
    (fs (m+80)).C 47 [.lst (σ++[cR R]).length,tVV d τ c] [] (σ++[cR (insG 1 (d,τ,c) R)]++[cR R])=some (.none,σ++[cR (insG 1 (d,τ,c) R)]++[cR (insG 1 (d,τ,c) R)]) :=
  ⟨(ins_lk (x:=(d,τ,c)) get_fst hl hS).trans (congrArg (fun s=>some (V.none,s)) set_fst),(ins_rp (x:=(d,τ,c)) get_snd hl hS ht).trans (congrArg (fun s=>some (V.none,s)) set_snd)⟩
end
theorem same_two {B:List Tr} (h:∀ t∈B,t.2.2 < 0x110000) {σ:St} {a:Cl}:cmpV .eq (.lst σ.length) (.lst (σ++[a]).length) (σ++[cR B]++[cR B])=some (.bool true,σ++[cR B]++[cR B]) :=
  have k:=tDs_ok h; (eq_lst get_fst get_snd k k).trans (congrArg (fun b=>some (V.bool b,_)) tD_refl)
theorem day_body {gap turn:Nat} {R:List Tr} (K:RowOk gap turn R) (hg:gap=0∨gap=1) {d c:Nat} (hc:c < 0x110000) (ht:turn≤10) {loc cel:List (Nat × V)} {fn:Nat} {σ:St} {kr kw:Nat} {wv:List V} (h45:lk loc 45=some (.lst kr)) (h46:lk loc 46=some (.int d)) (h42:lk loc 42=some (.int turn)) (h44:lk loc 44=some (.lst kw)) (h43:lk cel 43=some (.str (one c))) (h40:lk cel 40=some (.int gap))
    (hr:σ[kr]?=some (cR R)) (hw:σ[kw]?=some (.lst wv)) (hwl:wv.length≤4000) (m:Nat) :
    execsV (fs (m+100)).S ⟨loc,cel,fn⟩ L350_0 σ=some ((.next,⟨(52,.none)::(51,.none)::(50,.lst (σ++[cR R]).length)::(49,.lst σ.length)::loc,cel,fn⟩),
      (σ++[cR (insG gap (d,tauP gap turn,c) R)]++[cR (insG gap (d,tauP gap turn,c) R)]).set kw (.lst (wv++[.lst σ.length]))):=by
  have hl:R.length≤10:=K.len.symm ▸ ht
  have hlen:(R.map tV).length≤4096:=by rw [List.length_map]; exact Nat.le_trans hl (by decide)
  have hr1:(σ++[cR R])[kr]?=some (cR R):=snoc_get hr
  have hB:∀ t∈insG gap (d,tauP gap turn,c) R,t.2.2 < 0x110000:=fun t ht=>(insG_mem.mp ht).elim (fun h=>h ▸ hc) (K.chr t)
  obtain ⟨B,eB⟩:∃ B,insG gap (d,tauP gap turn,c) R=B:=⟨_,rfl⟩
  rw [eB] at hB ⊢
  have heq:=fun {σ a}=>same_two (σ:=σ) (a:=a) hB
  have q3:(σ++[cR B]++[cR B])[kw]?=some (.lst wv):=snoc_get (snoc_get hw)
  have Rk:rcv (.bi .append) (.lst kw) (σ++[cR B]++[cR B])=some ((),_):=rcvL q3
  have hap:=append_ap q3 (v:=.lst σ.length) (Nat.le_trans hwl (by decide))
  rcases hg with rfl | rfl
  · have i1:∀ {m:Nat},(fs (m+80)).C 47 [.lst σ.length,tVV d turn c] [(4,.glob 345)] (σ++[cR R]++[cR R])=some (.none,σ++[cR B]++[cR R]):=eB ▸ (two0 hl K.sorted K.tau).1
    have i2:∀ {m:Nat},(fs (m+80)).C 65 [.lst (σ++[cR R]).length,tVV d turn c] [] (σ++[cR B]++[cR R])=some (.none,σ++[cR B]++[cR B]):=eB ▸ (two0 hl K.sorted K.tau).2
    repeat (first | with_reducible exact list_ap hr hlen | with_reducible exact list_ap hr1 hlen | with_reducible exact i1 | with_reducible exact i2 | with_reducible exact heq | with_reducible exact Rk | with_reducible exact hap | walk_at "p")
  · have i1:∀ {m:Nat},(fs (m+80)).C 65 [.lst σ.length,tVV d (-turn) c] [(4,.glob 345)] (σ++[cR R]++[cR R])=some (.none,σ++[cR B]++[cR R]):=eB ▸ (two1 hl K.sorted K.tau).1
    have i2:∀ {m:Nat},(fs (m+80)).C 47 [.lst (σ++[cR R]).length,tVV d (-turn) c] [] (σ++[cR B]++[cR R])=some (.none,σ++[cR B]++[cR B]):=eB ▸ (two1 hl K.sorted K.tau).2
    repeat (first | with_reducible exact list_ap hr hlen | with_reducible exact list_ap hr1 hlen | with_reducible exact i1 | with_reducible exact i2 | with_reducible exact heq | with_reducible exact Rk | with_reducible exact hap | walk_at "p")
theorem maxI_le {d:Int} {l:List Int}:∀ {a:Int},maxI a l≤d↔∀ x∈a::l,x≤d:=by
  induction l with
  | nil=>exact fun {a}=>(List.forall_mem_singleton (p:=fun x=>x≤d)).symm
  | cons b r ih =>
    intro a
    refine (ih (a:=if a < b then b else a)).trans ?_
    rw [List.forall_mem_cons,List.forall_mem_cons,List.forall_mem_cons]
    by_cases h:a < b
    · rw [if_pos h]
      exact ⟨fun g=>⟨Int.le_trans (Int.le_of_lt h) g.1,g⟩,fun g=>g.2⟩
    · rw [if_neg h]
      exact ⟨fun g=>⟨g.1,Int.le_trans (Int.not_lt.mp h) g.1,g.2⟩,fun g=>⟨g.1,g.2.2⟩⟩
theorem lt_minI {d:Int} {l:List Int}:∀ {a:Int},d < minI a l↔∀ x∈a::l,d < x:=by
  induction l with
  | nil=>exact fun {a}=>(List.forall_mem_singleton (p:=fun x=>d < x)).symm
  | cons b r ih =>
    intro a
    refine (ih (a:=if b < a then b else a)).trans ?_
    rw [List.forall_mem_cons,List.forall_mem_cons,List.forall_mem_cons]
    by_cases h:b < a
    · rw [if_pos h]
      exact ⟨fun g=>⟨Int.lt_trans g.1 h,g⟩,fun g=>g.2⟩
    · rw [if_neg h]
      exact ⟨fun g=>⟨g.1,Int.lt_of_lt_of_le g.1 (Int.not_lt.mp h),g.2⟩,fun g=>⟨g.1,g.2.2⟩⟩
theorem best_max {l:List Int} {a:Int}:∃ m,best maxI (l++[a])=some m∧∀ d,m≤d↔(∀ x∈l,x≤d)∧a≤d:=by
  have k:∀ {m d:Int} {P:Prop},(P↔∀ x∈l++[a],x≤d)→(P↔(∀ x∈l,x≤d)∧a≤d):=fun h=>by
    rw [List.forall_mem_append,List.forall_mem_singleton] at h
    exact h
  induction l with
  | nil=>exact ⟨_,rfl,fun d=>k (m:=d) maxI_le⟩
  | cons b r=>exact ⟨_,rfl,fun d=>k (m:=d) maxI_le⟩
theorem best_min {l:List Int} {a:Int}:∃ m,best minI (l++[a])=some m∧∀ d,d < m↔(∀ x∈l,d < x)∧d < a:=by
  have k:∀ {m d:Int} {P:Prop},(P↔∀ x∈l++[a],d < x)→(P↔(∀ x∈l,d < x)∧d < a):=fun h=>by
    rw [List.forall_mem_append,List.forall_mem_singleton] at h
    exact h
  induction l with
  | nil=>exact ⟨_,rfl,fun d=>k (m:=d) lt_minI⟩
  | cons b r=>exact ⟨_,rfl,fun d=>k (m:=d) lt_minI⟩
noncomputable def okD (ps:List Str) (gap c:Nat) (R:List Tr) (d:Nat):Bool:=R.all fun t=>!cond (gP gap d t) (relP ps c t.2.2) (relP ps t.2.2 c)
theorem in_low {ps:List Str} {gap c:Nat} {R:List Tr} {P:Int→Prop}:(∀ x∈lowC ps gap c R,P x)↔∀ t∈R,relP ps t.2.2 c=true→P ((t.1+gap:Nat):Int):=List.forall_mem_map.trans List.forall_mem_filter
theorem in_high {ps:List Str} {gap c:Nat} {R:List Tr} {P:Int→Prop}:(∀ x∈highC ps gap c R,P x)↔∀ t∈R,relP ps c t.2.2=true→P ((t.1+gap:Nat):Int):=List.forall_mem_map.trans List.forall_mem_filter
theorem okD_iff {ps:List Str} {gap c:Nat} {R:List Tr} {d:Nat}:okD ps gap c R d=true↔(∀ x∈lowC ps gap c R,x≤(d:Int))∧∀ x∈highC ps gap c R,(d:Int) < x:=by
  rw [in_low,in_high]
  refine List.all_eq_true.trans ⟨fun h=>⟨fun t ht hr=>?_,fun t ht hr=>?_⟩,fun ⟨h1,h2⟩ t ht=>?_⟩
  · have k:=h t ht
    cases hg:gP gap d t with
    | true=>exact Int.ofNat_le.mpr (of_decide_eq_true hg)
    | false=>rw [hg,cond_false,hr] at k; cases k
  · have k:=h t ht
    cases hg:gP gap d t with
    | false=>exact Int.ofNat_lt.mpr (Nat.not_le.mp (of_decide_eq_false hg))
    | true=>rw [hg,cond_true,hr] at k; cases k
  · cases hg:gP gap d t with
    | true =>
      cases hr:relP ps c t.2.2 with
      | false=>rfl
      | true=>exact absurd (of_decide_eq_true hg) (Nat.not_le.mpr (Int.ofNat_lt.mp (h2 t ht hr)))
    | false =>
      cases hr:relP ps t.2.2 c with
      | false=>rfl
      | true=>exact absurd (Int.ofNat_le.mp (h1 t ht hr)) (of_decide_eq_false hg)
theorem range_filter {l h n:Nat} {p:Nat→Bool} (hn:h≤n) (hp:∀ d < n,(p d=true↔l≤d∧d < h)):(List.range n).filter p=List.range' l (h - l):=by
  rcases Nat.le_total l h with hl | hl
  · have e:List.range n=List.range' 0 l++(List.range' l (h - l)++List.range' h (n - h)):=by
      have e1:=List.range'_append_1 (s:=l) (m:=h - l) (n:=n - h)
      rw [Nat.add_sub_cancel' hl] at e1
      have e2:=List.range'_append_1 (s:=0) (m:=l) (n:=(h - l)+(n - h))
      rw [Nat.zero_add] at e2
      rw [e1,e2,← Nat.add_assoc,Nat.add_sub_cancel' hl,Nat.add_sub_cancel' hn,List.range_eq_range']
    rw [e,List.filter_append,List.filter_append,List.filter_eq_nil_iff.mpr,List.filter_eq_self.mpr,List.filter_eq_nil_iff.mpr,List.append_nil,List.nil_append]
    · exact fun d hd hq=>have k:=List.mem_range'_1.mp hd; absurd ((hp d (Nat.lt_of_lt_of_eq k.2 (Nat.add_sub_cancel' hn))).mp hq).2 (Nat.not_lt.mpr k.1)
    · exact fun d hd=>have k:=List.mem_range'_1.mp hd; have k2:=Nat.lt_of_lt_of_eq k.2 (Nat.add_sub_cancel' hl); (hp d (Nat.lt_of_lt_of_le k2 hn)).mpr ⟨k.1,k2⟩
    · exact fun d hd hq=>have k:=(List.mem_range'_1.mp hd).2; have k2:d < l:=Nat.zero_add l ▸ k; absurd ((hp d (Nat.lt_of_lt_of_le k2 (Nat.le_trans hl hn))).mp hq).1 (Nat.not_le.mpr k2)
  · rw [Nat.sub_eq_zero_of_le hl,List.filter_eq_nil_iff.mpr]
    · rfl
    · exact fun d hd hq=>have k:=(hp d (List.mem_range.mp hd)).mp hq; absurd (Nat.lt_of_lt_of_le k.2 hl) (Nat.not_lt.mpr k.1)
theorem upFrom_nat {n:Nat}:∀ {a:Nat},upFrom n (a:Int) 1=(List.range' a n).map fun (i:Nat)=>(i:Int):=by
  induction n with
  | zero=>exact fun {a}=>rfl
  | succ n ih=>exact fun {a}=>congrArg (List.cons (a:Int)) (ih (a:=a+1))
theorem rangeOf_nat {a b:Nat} (ha:a≤1000) (hb:b≤1000):rangeOf a b 1=some ((List.range' a (b - a)).map fun (i:Nat)=>(i:Int)):=by
  show gd (small a && small b && big ((b:Int) - a).toNat) (some (upFrom ((b:Int) - a).toNat a 1))=_
  rw [Int.toNat_sub,small_nat (Nat.le_trans ha (by decide)),small_nat (Nat.le_trans hb (by decide)),big_of (Nat.le_trans (Nat.sub_le b a) (Nat.le_trans hb (by decide)))]
  exact congrArg some upFrom_nat
noncomputable def daysP (ps:List Str) (gap c days:Nat) (R:List Tr):List Nat:=(List.range days).filter (okD ps gap c R)
theorem range_days {ps:List Str} {gap c days:Nat} {R:List Tr} (hd:days≤10) (hg:gap≤1) (hR:∀ t∈R,t.1 < 100) :
    ∃ lo hi,best maxI (lowC ps gap c R++[0])=some lo∧best minI (highC ps gap c R++[(days:Int)])=some hi∧rangeOf lo hi 1=some ((daysP ps gap c days R).map fun (i:Nat)=>(i:Int)):=by
  refine hid fun GG kk=>?_
  obtain ⟨lo,a1,a2⟩:=best_max (l:=lowC ps gap c R) (a:=0)
  obtain ⟨hi,b1,b2⟩:=best_min (l:=highC ps gap c R) (a:=(days:Int))
  refine kk ?_
  clear kk GG
  refine ⟨lo,hi,a1,b1,?_⟩
  obtain ⟨l,rfl⟩:=Int.eq_ofNat_of_zero_le ((a2 lo).mp (Int.le_refl lo)).2
  obtain ⟨h,rfl⟩:=Int.eq_ofNat_of_zero_le ((b2 (-1)).mpr ⟨in_high.mpr fun t _ _=>Int.lt_of_lt_of_le (by decide) (Int.natCast_nonneg _),Int.lt_of_lt_of_le (by decide) (Int.natCast_nonneg _)⟩)
  have hl:l≤1000:=Int.ofNat_le.mp ((a2 ((1000:Nat):Int)).mpr ⟨in_low.mpr fun t ht _=>Int.ofNat_le.mpr (Nat.le_trans (Nat.add_le_add (Nat.le_of_lt (hR t ht)) hg) (by decide)),Int.natCast_nonneg 1000⟩)
  have hh:h≤days:=Nat.not_lt.mp fun k=>absurd ((b2 (days:Int)).mp (Int.ofNat_lt.mpr k)).2 (Int.lt_irrefl _)
  have hp:∀ d < days,(okD ps gap c R d=true↔l≤d∧d < h):=fun d k=>by
    rw [okD_iff,← Int.ofNat_le,← Int.ofNat_lt]
    exact ⟨fun g=>⟨(a2 d).mpr ⟨g.1,Int.natCast_nonneg d⟩,(b2 d).mpr ⟨g.2,Int.ofNat_lt.mpr k⟩⟩,fun g=>⟨((a2 d).mp g.1).1,((b2 d).mp g.2).1⟩⟩
  unfold daysP
  rw [range_filter hh hp]
  exact rangeOf_nat hl (Nat.le_trans hh (Nat.le_trans hd (by decide)))
theorem drop_false {gap d:Nat} {R:List Tr} (h:R.Pairwise fun p q=>p.1≤q.1):∀ t∈R.dropWhile (gP gap d),gP gap d t=false:=by
  induction R with
  | nil=>exact fun t ht=>nomatch ht
  | cons y R ih =>
    have hs:=List.pairwise_cons.mp h
    cases hp:gP gap d y with
    | true=>rw [List.dropWhile_cons_of_pos hp]; exact ih hs.2
    | false =>
      rw [List.dropWhile_cons_of_neg (by rw [hp]; exact Bool.noConfusion)]
      intro t ht
      rcases List.mem_cons.mp ht with rfl | ht
      · exact hp
      · cases hq:gP gap d t with
        | false=>rfl
        | true=>exact absurd (gP_mono (hs.1 t ht) hq) (by rw [hp]; exact Bool.noConfusion)
theorem insG_split {gap:Nat} {x:Tr} {R:List Tr} (h:R.Pairwise fun p q=>p.1≤q.1):∃ A B,insG gap x R=A++x::B∧A++B=R∧(∀ t∈A,gP gap x.1 t=true)∧∀ t∈B,gP gap x.1 t=false :=
  ⟨_,_,rfl,List.takeWhile_append_dropWhile,List.all_eq_true.mp List.all_takeWhile,drop_false h⟩
theorem insG_sorted {gap:Nat} (hg:gap≤1) {x:Tr} {R:List Tr} (h:R.Pairwise fun p q=>p.1≤q.1):(insG gap x R).Pairwise fun p q=>p.1≤q.1:=by
  obtain ⟨A,B,e1,e2,hA,hB⟩:=insG_split (gap:=gap) (x:=x) h
  rw [e1]
  refine anE (List.pairwise_append.mp (e2.symm ▸ h)) fun a1 zz=>anE zz fun a2 a3=>?_
  refine List.pairwise_append.mpr ⟨a1,List.pairwise_cons.mpr ⟨fun t ht=>Nat.le_of_lt_succ (Nat.lt_of_lt_of_le (Nat.not_le.mp (of_decide_eq_false (hB t ht))) (Nat.add_le_add_left hg t.1)),a2⟩,fun a ha b hb=>?_⟩
  rcases List.mem_cons.mp hb with rfl | hb
  · exact Nat.le_trans (Nat.le_add_right a.1 gap) (of_decide_eq_true (hA a ha))
  · exact a3 a ha b hb
theorem insG_len {gap:Nat} {x:Tr} {R:List Tr}:(insG gap x R).length=R.length+1:=by
  have e:=congrArg List.length (List.takeWhile_append_dropWhile (p:=gP gap x.1) (l:=R))
  rw [List.length_append] at e
  unfold insG
  rw [List.length_append]
  exact congrArg (·+1) e
theorem Lt_trans {gap:Nat} {a b c:Int} (h:Lt gap a b) (g:Lt gap b c):Lt gap a c:=by
  induction gap with
  | zero=>exact Int.lt_trans h g
  | succ _=>exact Int.lt_trans g h
theorem tau_up {gap turn:Nat}:Lt gap (tauP gap turn) (tauP gap (turn+1)):=by
  have k:(turn:Int) < (turn+1:Nat):=Int.ofNat_lt.mpr (Nat.lt_succ_self turn)
  induction gap with
  | zero=>exact k
  | succ _=>exact Int.neg_lt_neg k
theorem RowOk.next {gap turn:Nat} {R:List Tr} (K:RowOk gap turn R) (hg:gap≤1) {d c:Nat} (hc:c < 0x110000):RowOk gap (turn+1) (insG gap (d,tauP gap turn,c) R) :=
  ⟨insG_len.trans (congrArg (·+1) K.len),insG_sorted hg K.sorted,fun t ht=>(insG_mem.mp ht).elim (fun h=>h ▸ tau_up) fun h=>Lt_trans (K.tau t h) tau_up,fun t ht=>(insG_mem.mp ht).elim (fun h=>h ▸ hc) (K.chr t)⟩
noncomputable def stepRow (ps:List Str) (gap turn c days:Nat) (R:List Tr):List (List Tr):=(daysP ps gap c days R).map fun d=>insG gap (d,tauP gap turn,c) R
section
variable {α β:Type} {P S:α→β→Prop} {l:List α} {m:List β}
theorem L2.mono (h:∀ a b,P a b→S a b) (k:L2 P l m):L2 S l m:=by
  induction k with
  | nil=>exact .nil
  | cons a b ih=>exact .cons (h _ _ a) ih
theorem L2.app {l':List α} {m':List β} (k:L2 P l m) (k':L2 P l' m'):L2 P (l++l') (m++m'):=by
  induction k with
  | nil=>exact k'
  | cons a b ih=>exact .cons a ih
theorem L2.get (k:L2 P l m):∀ {i:Nat} {v:α},l[i]?=some v→∃ u,m[i]?=some u∧P v u:=by
  induction k with
  | nil=>exact fun h=>nomatch h
  | cons a b ih =>
    intro i v h
    induction i with
    | zero=>exact ⟨_,rfl,Option.some.inj h ▸ a⟩
    | succ i=>exact ih h
end
@[reducible] noncomputable def RowIn (b:Nat) (σ:St) (v:V) (R:List Tr):Prop:=∃ k,v=.lst k∧b≤k∧σ[k]?=some (cR R)
@[reducible] noncomputable def RowsIn (b:Nat) (σ:St):List V→List (List Tr)→Prop:=L2 (RowIn b σ)
theorem RowsIn.mono {b:Nat} {σ σ':St} {vs:List V} {Rs:List (List Tr)} (h:∀ k c,b≤k→σ[k]?=some c→σ'[k]?=some c) (r:RowsIn b σ vs Rs):RowsIn b σ' vs Rs:=L2.mono (fun _ _ ⟨k,e,l,g⟩=>⟨k,e,l,h k _ l g⟩) r
structure WS (σB:St) (kw:Nat) (σ:St) (Rs:List (List Tr)):Prop where
  le:σB.length≤kw
  ext:Ext σB σ
  ex:∃ wv,σ[kw]?=some (.lst wv)∧RowsIn (kw+1) σ wv Rs
theorem WS.grow {σB:St} {kw:Nat} {σ σ':St} {Rs:List (List Tr)} (w:WS σB kw σ Rs) (x:Ext σ σ'):WS σB kw σ' Rs:=let ⟨wv,h1,h2⟩:=w.ex; ⟨w.le,w.ext.trans x,wv,x.at h1,h2.mono fun _ _ _ h=>x.at h⟩
theorem WS.push {σB:St} {kw:Nat} {σ:St} {Rs:List (List Tr)} (w:WS σB kw σ Rs) {wv:List V} (hw:σ[kw]?=some (.lst wv)) {R:List Tr} {o:Cl}:WS σB kw ((σ++[cR R]++[o]).set kw (.lst (wv++[.lst σ.length]))) (Rs++[R]):=by
  refine exA (w.ex) fun wv' h1 h2=>?_
  cases h1.symm.trans hw
  have hkw:kw < σ.length:=(List.getElem?_eq_some_iff.mp hw).1
  have ne:∀ (k:Nat) (c:Cl),kw < k→(σ++[cR R]++[o])[k]?=some c→((σ++[cR R]++[o]).set kw (.lst (wv++[.lst σ.length])))[k]?=some c:=fun k c hk h=>(List.getElem?_set_ne (Nat.ne_of_lt hk)).trans h
  exact ⟨w.le,((w.ext.snoc _).snoc _).set w.le _,_,List.getElem?_set_self (List.getElem?_eq_some_iff.mp (snoc_get (snoc_get hw))).1,L2.app (h2.mono fun k c hk h=>ne k c hk (snoc_get (snoc_get h))) (.cons ⟨_,rfl,hkw,ne _ _ hkw get_fst⟩ .nil)⟩
structure EnvK (loc cel:List (Nat × V)) (turn kw days c gap kp:Nat):Prop where
  turn:lk loc 42=some (.int turn)
  wid:lk loc 44=some (.lst kw)
  days:lk loc 39=some (.int days)
  job:lk cel 43=some (.str (one c))
  gap:lk cel 40=some (.int gap)
  pr:lk cel 38=some (.lst kp)
theorem add_len {gap:Nat} {R:List Tr} {p:Tr→Bool}:(addG gap (R.filter p)).length≤R.length:=by
  unfold addG
  rw [List.length_map]; exact List.length_filter_le ..
theorem ext_run {n k1:Nat} {e:EE} {A x:CE} {l:List Int} {a m:Int} {σ σ1:St} {b:Bi} (hA:(fs (n+5)).E e A σ=some (.lst k1,σ1)) (hx:∀ {σ},(fs (n+4)).E e x σ=some (.int a,σ)) (h:σ1[k1]?=some (.lst (l.map .int))) (hl:l.length≤10)
    (hb:∀ {k σ},σ[k]?=some (.lst ((l++[a]).map .int))→callB b [.lst k] σ=some (.int m,σ)):(fs (n+7)).E e (.call (.lit (.bi b)) [.bin .add A (.lst [x])] []) σ=some (.int m,σ1++[.lst [.int a]]++[.lst ((l++[a]).map .int)]):=by
  have k:=add_lst (l:=σ1.length) (snoc_get (d:=.lst [.int a]) h) snoc_last (Nat.le_trans (Nat.add_le_add_right (by rw [List.length_map]; exact hl) 1) (by decide))
  have e1:l.map V.int++[a].map V.int=(l++[a]).map V.int:=List.map_append.symm
  replace k:=e1 ▸ k
  exact rCall rLit (eCons (rBin hA (rLst (eCons hx eNil) (by decide:1≤4096)) k) eNil) kNil (cBi (hb snoc_last))
theorem row_body {ps:List Str} {gap turn c days kp kw kr:Nat} {R:List Tr} (K:RowOk gap turn R) (hg:gap=0∨gap=1) (hc:c < 0x110000) (ht:turn≤4) (hd:days≤10) (hR:∀ t∈R,t.1 < 100) {σB σ:St} {Rs:List (List Tr)} (w:WS σB kw σ Rs) (hl:Rs.length≤1000)
    {loc cel:List (Nat × V)} {fn:Nat} (E:EnvK loc cel turn kw days c gap kp) (h45:lk loc 45=some (.lst kr)) (hp:σB[kp]?=some (.lst (ps.map .str))) (hr:σB[kr]?=some (cR R)) (m:Nat) :
    ∃ e' σ',execsV (fs (m+130)).S ⟨loc,cel,fn⟩ L350_1 σ=some ((.next,e'),σ')∧WS σB kw σ' (Rs++stepRow ps gap turn c days R)∧EnvK e'.loc e'.cel turn kw days c gap kp:=by
  have hRl:R.length≤10:=K.len.symm ▸ Nat.le_trans ht (by decide)
  have ht10:turn≤10:=Nat.le_trans ht (by decide)
  refine hid fun GG kk=>?_
  refine exE (range_days (ps:=ps) (gap:=gap) (c:=c) (days:=days) (R:=R) hd (hg.elim (fun h=>h ▸ Nat.zero_le 1) fun h=>Nat.le_of_eq h) hR) fun lo zz=>exE zz fun hi zz=>anE zz fun r1 zz=>anE zz fun r2 r3=>?_
  refine exE (low_run (ps:=ps) (gap:=gap) (c:=c) hRl (e:=⟨loc,cel,fn⟩) E.gap E.job E.pr h45 (w.ext.at hp) (w.ext.at hr) (m+126) (Nat.le_add_left 40 (m+86))) fun k1 zz=>exE zz fun σ1 zz=>anE zz fun a1 zz=>anE zz fun a2 a3=>?_
  have A:=ext_run (n:=m+122) (b:=.max) a1 (fun {σ}=>rLit) a3 (Nat.le_trans add_len hRl) (fun h=>max_ap h r1)
  have w2:=w.grow ((a2.snoc [.lst [.int 0]]).snoc [.lst ((lowC ps gap c R++[0]).map .int)])
  refine exE (high_run (ps:=ps) (gap:=gap) (c:=c) hRl (e:=⟨(47,.int lo)::loc,cel,fn⟩) E.gap E.job E.pr h45 (w2.ext.at hp) (w2.ext.at hr) (m+126) (Nat.le_add_left 40 (m+86))) fun k2 zz=>exE zz fun σ2 zz=>anE zz fun b1 zz=>anE zz fun b2 b3=>?_
  refine kk ?_
  clear kk GG
  have B:=ext_run (n:=m+122) (b:=.min) b1 (fun {σ}=>rLoc (lk_miss rfl E.days)) b3 (Nat.le_trans add_len hRl) (fun h=>min_ap h r2)
  have w4:=w2.grow ((b2.snoc [.lst [.int days]]).snoc [.lst ((highC ps gap c R++[(days:Int)]).map .int)])
  have hdl:(daysP ps gap c days R).length≤10:=Nat.le_trans (List.length_filter_le ..) (List.length_range.symm ▸ hd)
  obtain ⟨⟨fl,e5⟩,σ5,c1,c2⟩:=L_runN (c:=100) (t:=.nm (.loc 46)) (b:=L350_0) (σ₀:=σB) (fun i e σ'=>WS σB kw σ' (Rs++((daysP ps gap c days R).take i).map fun d=>insG gap (d,tauP gap turn,c) R)∧EnvK e.loc e.cel turn kw days c gap kp∧lk e.loc 45=some (.lst kr)) (fun _ _=>False) (fun _ _ _ h=>h.1.ext) ((daysP ps gap c days R).map fun (d:Nat)=>V.int d)
    (fun j v hv q e1 σ6 ⟨w6,E6,h6⟩=>by
      obtain ⟨loc,cel,fn⟩:=e1
      rw [List.getElem?_map] at hv
      obtain ⟨d,hdj,rfl⟩:=Option.map_eq_some_iff.mp hv
      obtain ⟨hj,rfl⟩:=List.getElem?_eq_some_iff.mp hdj
      refine exA (w6.ex) fun wv hw1 hw2=>?_
      have hwl:wv.length≤4000:=by
        rw [hw2.len,List.length_append,List.length_map]
        exact Nat.le_trans (Nat.add_le_add hl (Nat.le_trans (List.length_take_le' ..) hdl)) (by decide)
      have D:=day_body K hg hc ht10 (d:=(daysP ps gap c days R)[j]) (loc:=(46,.int (daysP ps gap c days R)[j])::loc) (cel:=cel) (fn:=fn) (kr:=kr) (kw:=kw) (wv:=wv) h6 rfl E6.turn E6.wid E6.job E6.gap (w6.ext.at hr) hw1 hwl q
      refine ⟨_,rfl,_,_,D,.inl ⟨rfl,?_,⟨E6.turn,E6.wid,E6.days,E6.job,E6.gap,E6.pr⟩,h6⟩⟩
      rw [← List.take_append_getElem hj,List.map_append,← List.append_assoc]
      exact w6.push hw1)
    (.rng ((daysP ps gap c days R).map fun (i:Nat)=>(i:Int))) ⟨(48,.int hi)::(47,.int lo)::loc,cel,fn⟩ _ ⟨(List.append_nil Rs).symm ▸ w4,⟨E.turn,E.wid,E.days,E.job,E.gap,E.pr⟩,h45⟩ (by show _=_; rw [List.map_map]; rfl) rfl rfl (m+129) (by rw [List.length_map]; exact Nat.le_trans (Nat.succ_le_succ (Nat.add_le_add_left hdl 100)) (Nat.le_add_left 111 (m+18)))
  rcases c2 with ⟨c2,w7,E7,_⟩ | ⟨_,_,h⟩
  · cases c2
    rw [List.length_map,List.take_length] at w7
    exact ⟨e5,σ5,xCons (sAsgL A) (elN (xCons (sAsgL B) (elN (xCons (sFor (iRng (eCons (rLoc rfl) (eCons (rLoc rfl) eNil)) (rng2 r3)) c1) rfl)))),w7,E7⟩
  · exact h.elim
theorem stepRow_len {ps:List Str} {gap turn c days:Nat} {R:List Tr} (hd:days≤3):(stepRow ps gap turn c days R).length≤3:=by
  unfold stepRow
  rw [List.length_map]
  exact Nat.le_trans (List.length_filter_le ..) (List.length_range.symm ▸ hd)
noncomputable def StgIn (lim:Nat) (σ:St) (loc cel:List (Nat × V)) (days gap kp:Nat) (Rs:List (List Tr)):Prop :=
  lk loc 39=some (.int days)∧lk cel 40=some (.int gap)∧lk cel 38=some (.lst kp)∧∃ kr wv,lk loc 41=some (.lst kr)∧σ[kr]?=some (.lst wv)∧RowsIn lim σ wv Rs∧lim≤kr
theorem stage_body {ps:List Str} {gap turn c days kp lim:Nat} {Rs:List (List Tr)} (K:∀ R∈Rs,RowOk gap turn R∧∀ t∈R,t.1 < 100) (hg:gap=0∨gap=1) (hc:c < 0x110000) (ht:turn≤4) (hd:days≤3) (hl:Rs.length≤81) {σ:St} (hlim:lim≤σ.length)
    {loc cel:List (Nat × V)} {fn:Nat} (h42:lk loc 42=some (.int turn)) (h43:lk cel 43=some (.str (one c))) (S:StgIn lim σ loc cel days gap kp Rs) (hp:σ[kp]?=some (.lst (ps.map .str))) (m:Nat) :
    ∃ e' σ',execsV (fs (m+230)).S ⟨loc,cel,fn⟩ L350_2 σ=some ((.next,e'),σ')∧Ext σ σ'∧StgIn lim σ' e'.loc e'.cel days gap kp (Rs.flatMap (stepRow ps gap turn c days)):=by
  refine hid fun GG kk=>?_
  obtain ⟨h39,h40,h38,kr,wv,h41,hk,hr,_⟩:=S
  refine kk ?_
  clear kk GG
  have hwl:wv.length≤81:=hr.len.symm ▸ hl
  have w0:WS σ σ.length (σ++[Cl.lst []]) []:=⟨Nat.le_refl _,⟨_,rfl⟩,[],snoc_last,.nil⟩
  obtain ⟨⟨fl,loc5,cel5,fn5⟩,σ5,c1,c2⟩:=L_runN (c:=130) (t:=.nm (.loc 45)) (b:=L350_1) (σ₀:=σ) (fun i e σ'=>WS σ σ.length σ' ((Rs.take i).flatMap (stepRow ps gap turn c days))∧EnvK e.loc e.cel turn σ.length days c gap kp) (fun _ _=>False) (fun _ _ _ h=>h.1.ext) wv
    (fun j v hv q e1 σ6 ⟨w6,E6⟩=>by
      obtain ⟨loc,cel,fn⟩:=e1
      obtain ⟨R,hR,k,rfl,_,hs⟩:=hr.get hv
      obtain ⟨hj,rfl⟩:=List.getElem?_eq_some_iff.mp hR
      refine hid fun GG kk=>?_
      obtain ⟨K1,K2⟩:=K _ (List.getElem_mem hj)
      have hl2:((Rs.take j).flatMap (stepRow ps gap turn c days)).length≤1000:=Nat.le_trans (flat_len fun R _=>stepRow_len hd) (Nat.le_trans (Nat.mul_le_mul_left 3 (Nat.le_trans (List.length_take_le' ..) hl)) (by decide))
      refine exE (row_body K1 hg hc ht (Nat.le_trans hd (by decide)) K2 w6 hl2 (loc:=(45,.lst k)::loc) (cel:=cel) (fn:=fn) ⟨E6.turn,E6.wid,E6.days,E6.job,E6.gap,E6.pr⟩ rfl hp hs q) fun e2 zz=>exE zz fun σ7 zz=>anE zz fun d1 zz=>anE zz fun d2 d3=>?_
      refine kk ?_
      clear kk GG
      refine ⟨_,rfl,_,_,d1,.inl ⟨rfl,?_,d3⟩⟩
      rw [← List.take_append_getElem hj,List.flatMap_append,List.flatMap_cons,List.flatMap_nil,List.append_nil]
      exact d2)
    (.lst kr 0) ⟨(44,.lst σ.length)::loc,cel,fn⟩ (σ++[Cl.lst []]) ⟨w0,⟨h42,rfl,h39,h43,h40,h38⟩⟩ ⟨wv,hk,rfl⟩ rfl rfl (m+229) (Nat.le_trans (Nat.succ_le_succ (Nat.add_le_add_left hwl 130)) (Nat.le_add_left 212 (m+17)))
  rcases c2 with ⟨c2,w7,E7⟩ | ⟨_,_,h⟩
  · cases c2
    rw [hr.len,List.take_length] at w7
    refine exA (w7.ex) fun wv' q1 q2=>?_
    exact ⟨⟨(41,.lst σ.length)::loc5,cel5,fn5⟩,σ5,xCons (sAsgL (rLst eNil (Nat.zero_le _))) (elN (xCons (sFor (iLst (rLoc h41) (snoc_get hk)) c1) (elN (xCons (sAsgL (rLoc E7.wid)) rfl)))),w7.ext,E7.days,E7.gap,E7.pr,σ.length,wv',rfl,q1,L2.mono (fun _ _ ⟨k,e,l,g⟩=>⟨k,e,Nat.le_trans (Nat.le_succ_of_le hlim) l,g⟩) q2,hlim⟩
  · exact h.elim
noncomputable def stg (ps:List Str) (gap days:Nat) (order:Str) (t:Nat):List (List Tr):=Nat.rec (motive:=fun _=>List (List Tr)) [[]] (fun t r=>r.flatMap (stepRow ps gap t (cAt order t) days)) t
theorem letters_lt:∀ c∈letters,c < 0x110000:=by decide
theorem stg_ok {ps:List Str} {gap days:Nat} {order:Str} (O:RowF order) (hg:gap≤1) {t:Nat}:t≤4→∀ R∈stg ps gap days order t,RowOk gap t R∧∀ x∈R,x.1 < days∧x.2.2∈letters:=by
  induction t with
  | zero =>
    intro _ R hR
    obtain rfl:=List.mem_singleton.mp hR
    exact ⟨⟨rfl,.nil,(fun t h=>nomatch h),fun t h=>nomatch h⟩,fun t h=>nomatch h⟩
  | succ t ih =>
    intro ht R hR
    refine exA (List.mem_flatMap.mp hR) fun R0 h1 h2=>?_
    obtain ⟨d,hd,rfl⟩:=List.mem_map.mp h2
    obtain ⟨K1,K2⟩:=ih (Nat.le_of_succ_le ht) R0 h1
    have hc:=(O.at_ t ht).2
    exact ⟨K1.next hg (letters_lt _ hc),fun x hx=>(insG_mem.mp hx).elim (fun h=>h ▸ ⟨List.mem_range.mp (List.mem_filter.mp hd).1,hc⟩) (K2 x)⟩
theorem stg_len {ps:List Str} {gap days:Nat} {order:Str} (hd:days≤3) {t:Nat}:(stg ps gap days order t).length≤3 ^ t:=by
  induction t with
  | zero=>exact Nat.le_refl 1
  | succ t ih=>exact Nat.pow_succ' ▸ Nat.le_trans (flat_len fun R _=>stepRow_len hd) (Nat.mul_le_mul_left 3 ih)
theorem iEnumS {E:CE→X V} {a:CE} {w:Str} {σ σ1:St} (h:E a σ=some (.str w,σ1)):evIt E (.enum a) σ=some (.enumS 0 w.cps.toList,σ1):=bnd h rfl
theorem pow_le:∀ i < 4,3 ^ i≤81:=by decide
theorem run_plans {ps:List Str} {gap days kp:Nat} {order:Str} (horder:order∈rowsL) (hg:gap=0∨gap=1) (hd:days≤3) {σ:St} (hp:σ[kp]?=some (.lst (ps.map .str))) (m:Nat) :
    ∃ k wv σ',(fs (m+250)).C 350 [.str order,.lst kp,.int days,.int gap] [] σ=some (.lst k,σ')∧Ext σ σ'∧σ'[k]?=some (.lst wv)∧RowsIn σ.length σ' wv (stg ps gap days order 4)∧σ.length≤k:=by
  have O:=rowF_of horder
  have hg1:gap≤1:=hg.elim (fun h=>h ▸ Nat.zero_le 1) fun h=>Nat.le_of_eq h
  have hp1:(σ++[Cl.lst []]++[Cl.lst [.lst σ.length]])[kp]?=some (.lst (ps.map .str)):=snoc_get (snoc_get hp)
  obtain ⟨⟨fl,e5⟩,σ5,c1,c2⟩:=L_runN (c:=230) (t:=.tup [.loc 42,.cel 43]) (b:=L350_2) (σ₀:=σ++[Cl.lst []]++[Cl.lst [.lst σ.length]])
    (fun i e σ'=>Ext (σ++[Cl.lst []]++[Cl.lst [.lst σ.length]]) σ'∧StgIn σ.length σ' e.loc e.cel days gap kp (stg ps gap days order i)) (fun _ _=>False) (fun _ _ _ h=>h.1)
    ((List.range 4).map fun (i:Nat)=>V.tup [.int i,.str (one (cAt order i))])
    (fun j v hv q e1 σ6 ⟨x6,S6⟩=>by
      obtain ⟨loc,cel,fn⟩:=e1
      rw [List.getElem?_map] at hv
      obtain ⟨i,hi,rfl⟩:=Option.map_eq_some_iff.mp hv
      obtain ⟨hj,h2⟩:=List.getElem?_eq_some_iff.mp hi
      rw [List.getElem_range] at h2
      subst h2
      have hj:j < 4:=hj
      have x0:=(((Ext.refl σ).snoc _).snoc _).trans x6
      obtain ⟨e2,σ7,d1,d2,d3⟩:=stage_body (ps:=ps) (gap:=gap) (turn:=j) (c:=cAt order j) (days:=days) (Rs:=stg ps gap days order j)
        (fun R hR=>have k:=stg_ok O hg1 (Nat.le_of_lt hj) R hR; ⟨k.1,fun t ht=>Nat.lt_of_lt_of_le (k.2 t ht).1 (Nat.le_trans hd (by decide))⟩) hg (letters_lt _ (O.at_ j hj).2) (Nat.le_of_lt hj) hd (Nat.le_trans (stg_len hd) (pow_le j hj)) x0.le
        (loc:=(42,.int j)::loc) (cel:=(43,.str (one (cAt order j)))::cel) (fn:=fn) rfl rfl S6 (x6.at hp1) q
      exact ⟨_,rfl,_,_,d1,.inl ⟨rfl,x6.trans d2,d3⟩⟩)
    (.enumS 0 order.cps.toList) ⟨[(41,.lst (σ++[Cl.lst []]).length),(39,.int days),(34,.str order)],[(40,.int gap),(38,.lst kp)],350⟩ (σ++[Cl.lst []]++[Cl.lst [.lst σ.length]])
    ⟨.refl _,rfl,rfl,rfl,(σ++[Cl.lst []]).length,[.lst σ.length],rfl,snoc_last,.cons ⟨_,rfl,Nat.le_refl _,get_fst⟩ .nil,((Ext.refl σ).snoc _).le⟩
    (by
      show _=_
      rw [chars_ok _ horder]
      rfl) rfl rfl (m+248) (Nat.le_add_left 235 (m+13))
  rcases c2 with ⟨c2,x7,_,_,_,kr,wv,g41,gk,gr,gle⟩ | ⟨_,_,h⟩
  · cases c2
    refine ⟨kr,wv,σ5,?_,(((Ext.refl σ).snoc _).snoc _).trans x7,gk,gr,gle⟩
    apply R350
    repeat (first | with_reducible apply iEnumS | with_reducible exact c1 | walk_at "p")
  · exact h.elim
theorem lStep {n ks i:Nat} {e e1 e2:EE} {t:Tg} {b:List CS} {σ σ1:St} {xs:List V} {v:V} {fl:Fl} {q:Option ((Fl × EE) × St)} (ht:tgOk t (.lst ks i)=true) (h:σ[ks]?=some (.lst xs)) (hv:xs[i]?=some v) (ha:assignT e t v=some e1) (hb:execsV (fs n).S e1 b σ=some ((fl,e2),σ1))
    (k:fl.el ((fs n).L e2 t (.lst ks (i+1)) b) (fun v=>X.pure (.ret v,e2)) σ1=q):(fs (n+1)).L e t (.lst ks i) b σ=q :=
  have hn:srcNext (.lst ks i) σ=some (some (v,.lst ks (i+1)),σ):=bnd (getLst_at h) (by rw [hv]; rfl)
  grd ht (bnd hn (ofB (o:=assignT e t v) ha (bnd hb k)))
theorem lEnd {n ks i:Nat} {e:EE} {t:Tg} {b:List CS} {σ:St} {xs:List V} (ht:tgOk t (.lst ks i)=true) (h:σ[ks]?=some (.lst xs)) (hv:xs[i]?=none):(fs (n+1)).L e t (.lst ks i) b σ=some ((.next,e),σ) :=
  have hn:srcNext (.lst ks i) σ=some (none,σ):=bnd (getLst_at h) (by rw [hv]; rfl)
  grd ht (bnd hn rfl)
theorem L_lst {c ks:Nat} {t:Tg} {b:List CS} {vals:List V} (I:Nat→EE→St→Prop) (R:V→St→Prop) (hx:∀ i e σ,I i e σ→σ[ks]?=some (.lst vals)) (ht:∀ i,tgOk t (.lst ks i)=true)
    (H:∀ (j:Nat) (v:V),vals[j]?=some v→∀ (q:Nat) (e:EE) (σ:St),I j e σ→∃ e1,assignT e t v=some e1∧∃ r σ',execsV (fs (q+c)).S e1 b σ=some (r,σ')∧(r.1=.next∧I (j+1) r.2 σ'∨∃ u,r.1=.ret u∧R u σ')) {d:Nat} :
    ∀ {i N:Nat} {e:EE} {σ:St},c+d+1≤N→i+d=vals.length→I i e σ→∃ r σ',(fs N).L e t (.lst ks i) b σ=some (r,σ')∧(r.1=.next∧I vals.length r.2 σ'∨∃ u,r.1=.ret u∧R u σ'):=by
  induction d with
  | zero =>
    intro i N e σ hN hd hI
    obtain ⟨M,rfl⟩:=Nat.exists_eq_succ_of_ne_zero (Nat.ne_of_gt (Nat.lt_of_lt_of_le (Nat.succ_pos _) hN))
    obtain rfl:i=vals.length:=hd
    exact ⟨_,σ,lEnd (ht _) (hx _ _ _ hI) (List.getElem?_eq_none (Nat.le_refl _)),.inl ⟨rfl,hI⟩⟩
  | succ d ih =>
    intro i N e σ hN hd hI
    obtain ⟨M,rfl⟩:=Nat.exists_eq_succ_of_ne_zero (Nat.ne_of_gt (Nat.lt_of_lt_of_le (Nat.succ_pos _) hN))
    have hM:c+d+1≤M:=Nat.le_of_succ_le_succ hN
    have hv:vals[i]?=some _:=List.getElem?_eq_getElem (Nat.lt_of_lt_of_eq (Nat.lt_add_of_pos_right (Nat.succ_pos d)) hd)
    obtain ⟨q,rfl⟩:∃ q,M=q+c:=⟨M - c,(Nat.sub_add_cancel (Nat.le_trans (Nat.le_add_right c d) (Nat.le_of_succ_le hM))).symm⟩
    refine hid fun GG kk=>?_
    obtain ⟨ee,h1,⟨fl,e5⟩,σ1,h2,h3⟩:=H i _ hv q e σ hI
    refine kk ?_
    clear kk GG
    rcases h3 with ⟨rfl,hI'⟩ | ⟨u,rfl,hR⟩
    · obtain ⟨r',σ',r1,r2⟩:=ih (i:=i+1) hM ((Nat.succ_add_eq_add_succ i d).trans hd) hI'
      exact ⟨r',σ',lStep (ht _) (hx _ _ _ hI) hv h1 h2 r1,r2⟩
    · exact ⟨_,_,lStep (ht _) (hx _ _ _ hI) hv h1 h2 rfl,.inr ⟨u,rfl,hR⟩⟩
noncomputable def nmR (R:List Tr):Str:=Builtin.Str.glued "" (R.map fun t=>one t.2.2)
noncomputable def vlR (R:List Tr):Str:=Builtin.Str.glued "" (R.map fun t=>sdig t.1)
noncomputable def nmU (x u:Str):Bool:=okHeader x && (okHeader u && (decide (x.length≤100) && (decide (u.length≤100) && (decide (lowered x=x) && (decide (lowered u=x) && PyData.strOk x)))))
noncomputable def nmF (x:Str):Bool:=nmU x (uppered x)
theorem up_letters:∀ c∈letters,Unicode.upperOf c=[c - 32]:=by decide +kernel
theorem nm_up {a b c d:Nat} (ha:a∈letters) (hb:b∈letters) (hc:c∈letters) (hd:d∈letters):uppered (Builtin.Str.glued "" [one a,one b,one c,one d])=⟨#[a - 32,b - 32,c - 32,d - 32]⟩:=by
  have e:Builtin.Str.glued "" [one a,one b,one c,one d]=⟨#[a,b,c,d]⟩:=rfl
  rw [e]
  unfold uppered placed
  simp [up_letters _ ha,up_letters _ hb,up_letters _ hc,up_letters _ hd]
theorem nmU_ok:∀ a∈letters,∀ b∈letters,∀ c∈letters,∀ d∈letters,nmU (Builtin.Str.glued "" [one a,one b,one c,one d]) ⟨#[a - 32,b - 32,c - 32,d - 32]⟩=true:=by decide +kernel
theorem nmF_ok (a:Nat) (ha:a∈letters) (b:Nat) (hb:b∈letters) (c:Nat) (hc:c∈letters) (d:Nat) (hd:d∈letters):nmF (Builtin.Str.glued "" [one a,one b,one c,one d])=true:=(congrArg (nmU _) (nm_up ha hb hc hd)).trans (nmU_ok a ha b hb c hc d hd)
noncomputable def valF (x:Str):Bool:=okHeader x && decide (x.length≤100)
theorem valF_ok:∀ a < 3,∀ b < 3,∀ c < 3,∀ d < 3,valF (Builtin.Str.glued "" [sdig a,sdig b,sdig c,sdig d])=true:=by decide +kernel
theorem four {R:List Tr} (h:R.length=4):∃ a b c d,R=[a,b,c,d]:=by
  cases R with
  | nil=>cases h
  | cons a R=>cases R with
    | nil=>cases h
    | cons b R=>cases R with
      | nil=>cases h
      | cons c R=>cases R with
        | nil=>cases h
        | cons d R=>induction R with
          | nil=>exact ⟨a,b,c,d,rfl⟩
          | cons _ _=>cases h
structure RowG (days:Nat) (R:List Tr):Prop where
  len:R.length=4
  ok:∀ t∈R,t.1 < days∧t.2.2∈letters
theorem RowG.name {days:Nat} {R:List Tr} (G:RowG days R):nmF (nmR R)=true:=by
  obtain ⟨a,b,c,d,rfl⟩:=four G.len
  exact nmF_ok _ (G.ok a (.head _)).2 _ (G.ok b (.tail _ (.head _))).2 _ (G.ok c (.tail _ (.tail _ (.head _)))).2 _ (G.ok d (.tail _ (.tail _ (.tail _ (.head _))))).2
theorem RowG.val {days:Nat} {R:List Tr} (G:RowG days R) (hd:days≤3):valF (vlR R)=true:=by
  obtain ⟨a,b,c,d,rfl⟩:=four G.len
  have k:=fun t ht=>Nat.lt_of_lt_of_le (G.ok t ht).1 hd
  exact valF_ok _ (k a (.head _)) _ (k b (.tail _ (.head _))) _ (k c (.tail _ (.tail _ (.head _)))) _ (k d (.tail _ (.tail _ (.tail _ (.head _)))))
theorem each_run {R:List Tr} (hl:R.length≤10) {elt:CE} (g:Tr→Str) (hE:∀ (q:Nat) (l cel:List (Nat × V)) (t:Tr) (σ2:St),t∈R→(fs (q+10)).E ⟨(56,tV t)::l,cel,0⟩ elt σ2=some (.str (g t),σ2)) {e:EE} {σ:St} {kr:Nat} (h45:lk e.loc 45=some (.lst kr)) (hr:σ[kr]?=some (cR R)) (N:Nat) (hN:40≤N) :
    ∃ k σ',(fs (N+1)).E e (.comp [] elt [.mk (.nm (.loc 56)) (.of (.var (.loc 45))) []]) σ=some (.lst k,σ')∧Ext σ σ'∧σ'[k]?=some (.lst ((R.map g).map .str)):=by
  have hl:(R.map tV).length≤10:=by rw [List.length_map]; exact hl
  obtain ⟨k,σ',h1,h2,h3,_⟩:=comp_runN (c:=10) (elt:=elt) (t:=.nm (.loc 56)) (it:=.of (.var (.loc 45))) (ifs:=[])
    (p:=fun _=>true) (g:=fun v=>.str (g ((trD v).toNat,intV (nth 1 v),trC v))) (fr:=[])
    (e:=e) (σ:=σ) (σ1:=σ) (src:=.lst kr 0) (R.map tV) (fun e=>e.fn=0) (fun q=>iLst (rLoc h45) hr) (.refl _) ⟨_,hr,rfl⟩ rfl rfl rfl
    (fun v hv q e σ2 he _=>by
      obtain ⟨t,ht,rfl⟩:=List.mem_map.mp hv
      obtain ⟨l,cel,fn⟩:=e
      obtain rfl:fn=0:=he
      exact ⟨⟨(56,tV t)::l,cel,0⟩,rfl,rfl,σ2,rfl,.refl _,fun _=>⟨σ2,hE q l cel t σ2 ht,.refl _⟩⟩)
    (Nat.le_trans hl (by decide)) N (Nat.le_trans (Nat.succ_le_succ (Nat.add_le_add_left hl 10)) (Nat.le_trans (by decide) hN))
  refine ⟨k,σ',h1,h2,?_⟩
  rw [h3,List.filter_eq_self.mpr (fun _ _=>rfl),List.map_map,List.map_map]
  rfl
theorem stg_G {ps:List Str} {gap days:Nat} {order:Str} (O:RowF order) (hg:gap≤1):∀ R∈stg ps gap days order 4,RowG days R:=fun R hR=>have k:=stg_ok O hg (Nat.le_refl 4) R hR; ⟨k.1.len,k.2⟩
noncomputable def entG (gap:Nat) (R:List Tr):Str × Str:=(Nat.casesOn (motive:=fun _=>Str) gap (nmR R) fun _=>uppered (nmR R),vlR R)
structure TS (σB:St) (kI kH:Nat) (σ:St) (ents:List (Str × Str)):Prop where
  le:σB.length≤kH
  ne:kI≠kH
  ext:Ext σB σ
  inst:σ[kI]?=some (.ins (.lst kH))
  list:σ[kH]?=some (.lst (ents.map entV))
theorem TS.grow {σB σ σ':St} {kI kH:Nat} {ents:List (Str × Str)} (w:TS σB kI kH σ ents) (x:Ext σ σ'):TS σB kI kH σ' ents:=⟨w.le,w.ne,w.ext.trans x,x.at w.inst,x.at w.list⟩
theorem set_keep {σ:St} {kH:Nat} {c d x:Cl} {j:Nat} {y:Cl} (hj:j≠kH) (h:σ[j]?=some y):((σ++[c]++[d]).set kH x)[j]?=some y:=(List.getElem?_set_ne (Ne.symm hj)).trans (snoc_get (snoc_get h))
theorem TS.push {σB σ:St} {kI kH:Nat} {ents:List (Str × Str)} (w:TS σB kI kH σ ents) {a b:Str} {c d:Cl}:TS σB kI kH ((σ++[c]++[d]).set kH (.lst (ents.map entV++[.tup [.str a,.str b]]))) (ents++[(a,b)]) :=
  ⟨w.le,w.ne,((w.ext.snoc _).snoc _).set w.le _,set_keep w.ne w.inst,(List.getElem?_set_self (List.getElem?_eq_some_iff.mp (snoc_get (snoc_get w.list))).1).trans (congrArg (fun l=>some (Cl.lst l)) (List.map_append (l₁:=ents) (l₂:=[(a,b)])).symm)⟩
structure NmF (x:Str):Prop where
  ok:okHeader x=true
  okU:okHeader (uppered x)=true
  len:x.length≤100
  lenU:(uppered x).length≤100
  low:lowered x=x
  lowU:lowered (uppered x)=x
  str:PyData.strOk x=true
theorem nmF_of {x:Str} (h:nmF x=true):NmF x :=
  have h:=and_t h; have h2:=and_t h.2; have h3:=and_t h2.2; have h4:=and_t h3.2; have h5:=and_t h4.2; have h6:=and_t h5.2
  ⟨h.1,h2.1,of_decide_eq_true h3.1,of_decide_eq_true h4.1,of_decide_eq_true h5.1,of_decide_eq_true h6.1,h6.2⟩
theorem join_ones {k:Nat} {R:List Tr} {g:Tr→Str} {σ:St} (h:σ[k]?=some (.lst ((R.map g).map .str))) (hl:R.length≤10) (hg:∀ t∈R,(g t).length≤1):callB .join [.str "",.lst k] σ=some (.str (Builtin.Str.glued "" (R.map g)),σ):=by
  refine join_ap h ?_
  have k:=flat_len (f:=fun t=>(g t).cps.toList) hg
  rw [List.length_flatMap,Nat.one_mul] at k
  rw [List.map_map]
  exact Nat.le_trans k (Nat.le_trans hl (by decide))
theorem row_add {gap days:Nat} {R:List Tr} (G:RowG days R) (hd:days≤3) (hg:gap=0∨gap=1) {σB σ:St} {kI kH kr:Nat} {ents:List (Str × Str)} (w:TS σB kI kH σ ents) (hl:ents.length≤1000) {loc cel:List (Nat × V)} {fn:Nat} (h55:lk loc 55=some (.ins kI)) (h40:lk loc 40=some (.int gap)) (h45:lk loc 45=some (.lst kr)) (hr:σ[kr]?=some (cR R)) (m:Nat) :
    ∃ σ',execsV (fs (m+80)).S ⟨loc,cel,fn⟩ L355_0 σ=some ((.next,⟨(18,.str (vlR R))::(19,.str (nmR R))::loc,cel,fn⟩),σ')∧TS σB kI kH σ' (ents++[entG gap R])∧∀ j c,j≠kH→σ[j]?=some c→σ'[j]?=some c:=by
  have hRl:R.length≤10:=G.len.symm ▸ (by decide)
  have n:=nmF_of G.name
  refine hid fun GG kk=>?_
  obtain ⟨v1,v2⟩:=and_t (G.val hd)
  have v2:=of_decide_eq_true v2
  have hdig:∀ t∈R,t.1 < 3:=fun t ht=>Nat.lt_of_lt_of_le (G.ok t ht).1 hd
  refine exE (each_run (elt:=.item (.var (.loc 56)) (.lit (.int 2))) hRl (fun t=>one t.2.2) (fun q l cel t σ2 _=>rItem (rLoc lk_hit) rLit (iteT rfl rfl)) (e:=⟨loc,cel,fn⟩) h45 hr (m+76) (Nat.le_add_left 40 (m+36))) fun k1 zz=>exE zz fun σ1 zz=>anE zz fun a1 zz=>anE zz fun a2 a3=>?_
  refine exE (each_run (elt:=.call (.lit (.ty .str)) [.item (.var (.loc 56)) (.lit (.int 0))] []) hRl (fun t=>sdig t.1) (fun q l cel t σ2 ht=>rCall rLit (eCons (rItem (rLoc lk_hit) rLit (iteT rfl rfl)) eNil) kNil (cTy (str_ap (Nat.lt_trans (hdig t ht) (by decide))))) (e:=⟨loc,cel,fn⟩) h45 (a2.at hr) (m+76) (Nat.le_add_left 40 (m+36))) fun k2 zz=>exE zz fun σ2 zz=>anE zz fun b1 zz=>anE zz fun b2 b3=>?_
  refine kk ?_
  clear kk GG
  have j1:callB .join [.str "",.lst k1] σ1=some (.str (nmR R),σ1):=join_ones a3 hRl fun _ _=>Nat.le_refl 1
  have j2:callB .join [.str "",.lst k2] σ2=some (.str (vlR R),σ2):=join_ones b3 hRl fun t ht=>Nat.le_of_eq (sdig_len _ (hdig t ht))
  have x12:=a2.trans b2
  have w2:=w.grow x12
  have Rk:rcv .add_header (.ins kI) σ2=some ((),σ2):=rcvI w2.inst
  have hel:(ents.map entV).length≤4000:=by rw [List.length_map]; exact Nat.le_trans hl (by decide)
  have hu:(uppered (nmR R)).length≤4096:=Nat.le_trans n.lenU (by decide)
  refine ⟨_,?_,w2.push (c:=.kw) (d:=.lst [.str (vlR R)]),fun j c hj h=>set_keep hj (x12.at h)⟩
  rcases hg with rfl | rfl
  · have ad:=fun {m}=>run_add n.ok v1 v2 w2.inst w2.list hel (m:=m)
    repeat (first | with_reducible exact a1 | with_reducible exact b1 | with_reducible exact j1 | with_reducible exact j2 | with_reducible exact Rk | with_reducible exact ad | walk_at "p")
    exact rfl
  · have ad:=fun {m}=>run_add n.okU v1 v2 w2.inst w2.list hel (m:=m)
    repeat (first | with_reducible exact a1 | with_reducible exact b1 | with_reducible exact j1 | with_reducible exact j2 | with_reducible exact Rk | with_reducible exact ad | with_reducible exact upper_ap hu | walk_at "p")
    exact rfl
@[reducible] noncomputable def EnvT (loc:List (Nat × V)) (kI kp days:Nat) (order:Str):Prop:=lk loc 55=some (.ins kI)∧lk loc 34=some (.str order)∧lk loc 38=some (.lst kp)∧lk loc 39=some (.int days)
theorem gap_body {ps:List Str} {gap days:Nat} {order:Str} (horder:order∈rowsL) (hd:days≤3) (hg:gap=0∨gap=1) {σB σ:St} {kI kH kp:Nat} {ents:List (Str × Str)} (w:TS σB kI kH σ ents) (hl:ents.length≤200) {loc cel:List (Nat × V)} {fn:Nat} (E:EnvT loc kI kp days order) (h40:lk loc 40=some (.int gap))
    (hp:σB[kp]?=some (.lst (ps.map .str))) (m:Nat) :
    ∃ e' σ',execsV (fs (m+256)).S ⟨loc,cel,fn⟩ L355_1 σ=some ((.next,e'),σ')∧TS σB kI kH σ' (ents++(stg ps gap days order 4).map (entG gap))∧(∀ j c,j≠kH→σ[j]?=some c→σ'[j]?=some c)∧EnvT e'.loc kI kp days order:=by
  have O:=rowF_of horder
  refine hid fun GG kk=>?_
  obtain ⟨k,wv,σ1,a1,a2,a3,a4,a5⟩:=run_plans (ps:=ps) horder hg hd (w.ext.at hp) (m+4)
  refine kk ?_
  clear kk GG
  have hlen:(stg ps gap days order 4).length≤81:=stg_len hd
  have far:∀ {i:Nat},σ.length≤i→i≠kH:=fun h=>Nat.ne_of_gt (Nat.lt_of_lt_of_le (List.getElem?_eq_some_iff.mp w.list).1 h)
  have hwl:wv.length≤81:=a4.len.symm ▸ hlen
  obtain ⟨⟨fl,e5⟩,σ2,c1,c2⟩:=L_lst (c:=80) (ks:=k) (t:=.nm (.loc 45)) (b:=L355_0) (vals:=wv) (fun i e σ'=>TS σB kI kH σ' (ents++((stg ps gap days order 4).take i).map (entG gap))∧(∀ j c,j≠kH→σ1[j]?=some c→σ'[j]?=some c)∧EnvT e.loc kI kp days order∧lk e.loc 40=some (.int gap)) (fun _ _=>False)
    (fun i e σ h=>h.2.1 k _ (far a5) a3) (fun i=>rfl)
    (fun j v hv q e1 σ6 ⟨w6,k6,E6,g40⟩=>by
      obtain ⟨loc,cel,fn⟩:=e1
      obtain ⟨R,hR,kr,rfl,hkr,hs⟩:=a4.get hv
      obtain ⟨hj,rfl⟩:=List.getElem?_eq_some_iff.mp hR
      have G:=stg_G (ps:=ps) (days:=days) O (hg.elim (fun h=>h ▸ Nat.zero_le 1) fun h=>Nat.le_of_eq h) _ (List.getElem_mem hj)
      have hel:(ents++((stg ps gap days order 4).take j).map (entG gap)).length≤1000:=by
        rw [List.length_append,List.length_map]
        exact Nat.le_trans (Nat.add_le_add hl (Nat.le_trans (List.length_take_le' ..) hlen)) (by decide)
      obtain ⟨σ7,d1,d2,d3⟩:=row_add G hd hg w6 hel (loc:=(45,.lst kr)::loc) (cel:=cel) (fn:=fn) (kr:=kr) E6.1 g40 rfl (k6 kr _ (far hkr) hs) q
      refine ⟨_,rfl,_,_,d1,.inl ⟨rfl,?_,fun j c hj h=>d3 j c hj (k6 j c hj h),E6,g40⟩⟩
      rw [← List.take_append_getElem hj,List.map_append,← List.append_assoc]
      exact d2) (N:=m+255) (i:=0) (d:=wv.length) (e:=⟨loc,cel,fn⟩) (σ:=σ1)
    (Nat.le_trans (Nat.succ_le_succ (Nat.add_le_add_left hwl 80)) (Nat.le_add_left 162 (m+93))) (Nat.zero_add _) ⟨by rw [List.take_zero,List.map_nil,List.append_nil]; exact w.grow a2,fun j c _ h=>h,E,h40⟩
  rcases c2 with ⟨c2,w7,k7,q55,q40⟩ | ⟨_,_,h⟩
  · cases c2
    rw [a4.len,List.take_length] at w7
    exact ⟨e5,σ2,xCons (sFor (iLst (rCall rLit (eCons (rLoc E.2.1) (eCons (rLoc E.2.2.1) (eCons (rLoc E.2.2.2) (eCons (rLoc h40) eNil)))) kNil (cGlob a1)) a3) c1) rfl,w7,fun j c hjH h=>k7 j c hjH (a2.at h),q55⟩
  · exact h.elim
noncomputable def tabE (ps:List Str) (days:Nat) (order:Str):List (Str × Str):=(stg ps 0 days order 4).map (entG 0)++(stg ps 1 days order 4).map (entG 1)
theorem run_table {ps:List Str} {days:Nat} {order:Str} (horder:order∈rowsL) (hd:days≤3) {σ:St} {kp:Nat} (hp:σ[kp]?=some (.lst (ps.map .str))) (m:Nat) :
    ∃ kI kH σ',(fs (m+270)).C 355 [.str order,.lst kp,.int days] [] σ=some (.ins kI,σ')∧TS σ kI kH σ' (tabE ps days order):=by
  have w0:TS σ (σ.length+1) σ.length (σ++[Cl.lst []]++[Cl.ins (.lst σ.length)]) []:=⟨Nat.le_refl _,Nat.succ_ne_self _,((Ext.refl σ).snoc _).snoc _,(List.length_append (as:=σ) (bs:=[Cl.lst []])) ▸ snoc_last,get_fst⟩
  have w1:=w0.grow ((Ext.refl _).snoc [Cl.lst [.int 0,.int 1]])
  obtain ⟨ks,hks⟩:∃ ks,(σ++[Cl.lst []]++[Cl.ins (.lst σ.length)]).length=ks:=⟨_,rfl⟩
  have hk:(σ++[Cl.lst []]++[Cl.ins (.lst σ.length)]++[Cl.lst [.int 0,.int 1]])[ks]?=some (.lst [.int 0,.int 1]):=hks ▸ snoc_last
  have hne:ks≠σ.length:=hks ▸ Nat.ne_of_gt (Nat.lt_of_lt_of_le (List.length_append (as:=σ) (bs:=[Cl.lst []]) ▸ Nat.lt_succ_self _) ((Ext.refl _).snoc _).le)
  refine hid fun GG kk=>?_
  obtain ⟨⟨l2,c2,f2⟩,σ2,d1,d2,d3,d4⟩:=gap_body (ps:=ps) (gap:=0) horder hd (.inl rfl) w1 (Nat.zero_le _) (loc:=[(40,.int 0),(55,.ins (σ.length+1)),(39,.int days),(38,.lst kp),(34,.str order)]) (cel:=[]) (fn:=355) ⟨rfl,rfl,rfl,rfl⟩ rfl hp (m+11)
  refine kk ?_
  clear kk GG
  have hk2:=d3 ks _ hne hk
  obtain ⟨⟨l3,c3,f3⟩,σ3,e1,e2,e3,e4⟩:=gap_body (ps:=ps) (gap:=1) horder hd (.inr rfl) d2 (by
    rw [List.nil_append,List.length_map]
    exact Nat.le_trans (stg_len hd) (by decide)) (loc:=(40,.int 1)::l2) (cel:=c2) (fn:=f2) d4 rfl hp (m+10)
  refine ⟨σ.length+1,σ.length,σ3,?_,e2⟩
  have hL:(fs (m+268)).L ⟨[(55,.ins (σ.length+1)),(39,.int days),(38,.lst kp),(34,.str order)],[],355⟩ (.nm (.loc 40)) (.lst ks 0) L355_1 (σ++[Cl.lst []]++[Cl.ins (.lst σ.length)]++[Cl.lst [.int 0,.int 1]])=some ((.next,⟨l3,c3,f3⟩),σ3) :=
    lStep rfl hk rfl rfl d1 (elN (lStep rfl hk2 rfl rfl e1 (elN (lEnd rfl (e3 ks _ hne hk2) rfl))))
  have hS:(fs (m+269)).S ⟨[(55,.ins (σ.length+1)),(39,.int days),(38,.lst kp),(34,.str order)],[],355⟩ (.for (.nm (.loc 40)) (.of (.lst [.lit (.int 0),.lit (.int 1)])) L355_1) (σ++[Cl.lst []]++[Cl.ins (.lst σ.length)])=some ((.next,⟨l3,c3,f3⟩),σ3) :=
    sFor (iLst (hks ▸ rLst (eCons rLit (eCons rLit eNil)) (by decide)) hk) hL
  apply R355
  · exact xCons (sAsgL run_new) (elN (xCons hS (elN (xCons (sRet (rLoc e4.1)) rfl))))
  · exact rfl
noncomputable def wordsL:List Str:=["km","kp","ka","mp","ma","pa","kmp","kma","kpa","mpa","kmpa"]
noncomputable def pairsOf (w:Str):List Str:=(List.range (w.length - 1)).map fun (i:Nat)=>Txt.slice w (some (i:Int)) (some ((i:Int)+2))
noncomputable def wrdF (w:Str):Bool:=sufL.contains w && (dotOk w && (decide (w.length≤4) && (decide (1≤w.length) && (PyData.strOk w && besideL.all fun b=>decide (prepC b=[b]) && (decide (Txt.slice (w++one b) none (some (-1))=w) && PyData.strOk (w++one b))))))
theorem wrdF_ok:wordsL.all wrdF=true:=by decide +kernel
structure WrdF (w:Str):Prop where
  suf:w∈sufL
  dot:dotOk w=true
  len:w.length≤4
  pos:1≤w.length
  ok:PyData.strOk w=true
  bes:∀ b∈besideL,prepC b=[b]∧Txt.slice (w++one b) none (some (-1))=w∧PyData.strOk (w++one b)=true
theorem wrdF_of {w:Str} (h:w∈wordsL):WrdF w :=
  have h:=and_t (List.all_eq_true.mp wrdF_ok w h)
  have h2:=and_t h.2
  have h3:=and_t h2.2
  have h4:=and_t h3.2
  have h5:=and_t h4.2
  ⟨List.contains_iff_mem.mp h.1,h2.1,of_decide_eq_true h3.1,of_decide_eq_true h4.1,h5.1,fun b hb=>have k:=and_t (List.all_eq_true.mp h5.2 b hb); ⟨of_decide_eq_true k.1,of_decide_eq_true (and_t k.2).1,(and_t k.2).2⟩⟩
theorem extend_ap {k l:Nat} {xs ys:List V} {σ:St} (h:σ[k]?=some (.lst xs)) (h':σ[l]?=some (.lst ys)) (hne:k < l) (hl:xs.length+ys.length≤4096):callB .extend [.lst k,.lst l] σ=some (.none,σ.set k (.lst (xs++ys))) :=
  bnd (getLst_at h) (bnd (getLst_at h') (grd (by rw [big_of hl,(Bool.eq_false_iff.mpr fun q=>Nat.ne_of_lt hne (Nat.eq_of_beq_eq_true q):Nat.beq k l=false)]; rfl) (bnd (setLst_at h) rfl)))
theorem pairs_comp {w:Str} (F:WrdF w) {e:EE} {σ:St} (h27:lk e.cel 27=some (.str w)) (N:Nat) (hN:40≤N) :
    ∃ k σ',(fs (N+1)).E e K389_0 σ=some (.lst k,σ')∧Ext σ σ'∧σ'[k]?=some (.lst ((pairsOf w).map .str))∧σ.length≤k:=by
  have lw:w.length≤4096:=Nat.le_trans F.len (by decide)
  have l3:w.length - 1≤3:=Nat.sub_le_of_le_add F.len
  have hr:rangeOf 0 ((w.length:Int) - 1) 1=some ((List.range (w.length - 1)).map fun (i:Nat)=>(i:Int)):=by
    have e1:(w.length:Int) - 1=((w.length - 1:Nat):Int):=(Int.ofNat_sub F.pos).symm
    rw [e1]
    exact range_ap (Nat.le_trans l3 (by decide))
  have ll:((List.range (w.length - 1)).map fun (i:Nat)=>V.int i).length≤3:=by rw [List.length_map,List.length_range]; exact l3
  obtain ⟨k,σ',h1,h2,h3,h4⟩:=comp_runN (c:=12) (elt:=.slice (.var (.cel 27)) (some (.var (.loc 65))) (some (.bin .add (.var (.loc 65)) (.lit (.int 2))))) (t:=.nm (.loc 65)) (it:=.range [.bin .sub (.call (.lit (.bi .len)) [.var (.cel 27)] []) (.lit (.int 1))]) (ifs:=[])
    (p:=fun _=>true) (g:=fun v=>.str (Txt.slice w (some (natV v:Int)) (some ((natV v:Int)+2)))) (fr:=[27])
    (e:=e) (σ:=σ) (σ1:=σ) (src:=.rng ((List.range (w.length - 1)).map fun (i:Nat)=>(i:Int))) ((List.range (w.length - 1)).map fun (i:Nat)=>V.int i) (fun e=>lk e.cel 27=some (.str w)) (fun q=>iRng (eCons (rBin (rCall rLit (eCons (rCel h27) eNil) kNil (cBi (len_str lw))) rLit sub_int) eNil) (rng1 hr)) (.refl _) (List.map_map ..).symm rfl rfl ((only_lk rfl).trans h27)
    (fun v hv q e σ2 g27 _=>by
      obtain ⟨i,hi,rfl⟩:=List.mem_map.mp hv
      have hi':i < 3:=Nat.lt_of_lt_of_le (List.mem_range.mp hi) l3
      have s1:small (i:Int)=true:=small_nat (Nat.le_trans (Nat.le_of_lt hi') (by decide))
      have s2:small ((i:Int)+2)=true:=small_nat (n:=i+2) (Nat.le_trans (Nat.add_le_add_right (Nat.le_of_lt hi') 2) (by decide))
      exact ⟨⟨_::e.loc,e.cel,e.fn⟩,rfl,g27,σ2,rfl,.refl _,fun _=>⟨σ2,rSlice (rCel g27) (oSome (rLoc lk_hit)) (oSome (rBin (rLoc lk_hit) rLit add_int)) (slcS (oi_some s1) (oi_some s2) lw),.refl _⟩⟩)
    (Nat.le_trans ll (by decide)) N (Nat.le_trans (Nat.succ_le_succ (Nat.add_le_add_left ll 12)) (Nat.le_trans (by decide) hN))
  refine ⟨k,σ',h1,h2,?_,h4⟩
  rw [h3,List.filter_eq_self.mpr (fun _ _=>rfl),List.map_map]
  unfold pairsOf
  rw [List.map_map]
  rfl
structure LS (σB:St) (kw kp:Nat) (σ:St) (wl:List Str):Prop where
  lw:σB.length≤kw
  lp:σB.length≤kp
  ne:kw≠kp
  ext:Ext σB σ
  mem:∀ w∈wl,w∈wordsL
  wants:∃ us:List Str,σ[kw]?=some (.lst (us.map .str))∧us.length≤wl.length∧(∀ u,u∈us↔∃ w∈wl,u=dotted w)
  pairs:σ[kp]?=some (.lst ((wl.flatMap pairsOf).map .str))
theorem LS.grow {σB σ σ':St} {kw kp:Nat} {wl:List Str} (w:LS σB kw kp σ wl) (x:Ext σ σ'):LS σB kw kp σ' wl:=by
  refine exA (w.wants) fun us h1 h2=>?_
  exact ⟨w.lw,w.lp,w.ne,w.ext.trans x,w.mem,⟨us,x.at h1,h2⟩,x.at w.pairs⟩
theorem pairsOf_len {w:Str} (F:WrdF w):(pairsOf w).length≤3:=by
  unfold pairsOf
  rw [List.length_map,List.length_range]
  exact Nat.sub_le_of_le_add F.len
theorem flat_pairs_len {wl:List Str} (h:∀ w∈wl,w∈wordsL):(wl.flatMap pairsOf).length≤3 * wl.length:=flat_len fun w hw=>pairsOf_len (wrdF_of (h w hw))
theorem pair_step {σB σ σ5:St} {kw kp:Nat} {wl vs:List Str} {w:Str} (L:LS σB kw kp σ wl) (hl:wl.length≤10) (hw:w∈wordsL) (x5:Ext σB σ5) (v1:σ5[kw]?=some (.lst (vs.map .str))) (v2:vs.length≤wl.length+1) (v3:∀ u,u∈vs↔(∃ y∈wl,u=dotted y)∨u=dotted w) (v4:σ5[kp]?=some (.lst ((wl.flatMap pairsOf).map .str)))
    {loc cel:List (Nat × V)} {fn:Nat} (h38:lk loc 38=some (.lst kp)) (h27:lk cel 27=some (.str w)) (m:Nat) :
    ∃ σ6,(fs (m+60)).S ⟨loc,cel,fn⟩ (.expr (.meth (.var (.loc 38)) (.bi .extend) [K389_0] [])) σ5=some ((.next,⟨loc,cel,fn⟩),σ6)∧LS σB kw kp σ6 (wl++[w])∧∀ i c,i≠kp→σ5[i]?=some c→σ6[i]?=some c:=by
  have F:=wrdF_of hw
  refine hid fun GG kk=>?_
  obtain ⟨k,σ6,q1,q2,q3,q4⟩:=pairs_comp F (e:=⟨loc,cel,fn⟩) (σ:=σ5) h27 (m+57) (Nat.le_add_left 40 (m+17))
  refine kk ?_
  clear kk GG
  have v6:=q2.at v4
  have hk:=(List.getElem?_eq_some_iff.mp v4).1
  have hlen:((wl.flatMap pairsOf).map V.str).length+((pairsOf w).map V.str).length≤4096:=by
    rw [List.length_map,List.length_map]
    exact Nat.le_trans (Nat.add_le_add (Nat.le_trans (flat_pairs_len L.mem) (Nat.mul_le_mul_left 3 hl)) (pairsOf_len F)) (by decide)
  refine ⟨_,sExpr (rMeth rfl (rLoc h38) (rcvL v4) (eCons q1 eNil) kNil (mBi (extend_ap v6 q3 (Nat.lt_of_lt_of_le hk q4) hlen))),⟨L.lw,L.lp,L.ne,(x5.trans q2).set L.lp _,?_,⟨vs,(List.getElem?_set_ne (Ne.symm L.ne)).trans (q2.at v1),?_,fun u=>(v3 u).trans ?_⟩,?_⟩,fun i c hi h=>(List.getElem?_set_ne (Ne.symm hi)).trans (q2.at h)⟩
  · exact fun u hu=>(List.mem_append.mp hu).elim (L.mem u) fun h=>List.mem_singleton.mp h ▸ hw
  · rw [List.length_append]; exact v2
  · exact ⟨fun h=>h.elim (fun ⟨y,h,e⟩=>⟨y,List.mem_append_left _ h,e⟩) fun e=>⟨w,List.mem_append_right _ (.head _),e⟩,fun ⟨y,h,e⟩=>(List.mem_append.mp h).elim (fun h=>.inl ⟨y,h,e⟩) fun h=>.inr (List.mem_singleton.mp h ▸ e)⟩
  · rw [List.getElem?_set_self (List.getElem?_eq_some_iff.mp v6).1,List.flatMap_append,List.flatMap_cons,List.flatMap_nil,List.append_nil,List.map_append]
structure EnvL (loc:List (Nat × V)) (total:Int) (kw kp:Nat):Prop where
  tot:lk loc 70=some (.int total)
  wan:lk loc 57=some (.lst kw)
  prs:lk loc 38=some (.lst kp)
theorem flat_mem_len {α β:Type} {f:α→List β} {l:List α} {a:α} (h:a∈l):(f a).length≤(l.flatMap f).length:=by
  obtain ⟨s,t,rfl⟩:=List.append_of_mem h
  rw [List.flatMap_append,List.length_append,List.flatMap_cons,List.length_append]
  exact Nat.le_trans (Nat.le_add_right _ _) (Nat.le_add_left _ _)
theorem abs_ap {i:Int} {σ:St}:callB .abs [.int i] σ=some (.int (if i < 0 then -i else i),σ):=rfl
theorem word_body {σB σ:St} {kw kp:Nat} {wl:List Str} (L:LS σB kw kp σ wl) (hl:wl.length≤10) {loc cel:List (Nat × V)} {fn:Nat} {total place x:Int} (E:EnvL loc total kw kp) (h71:lk loc 71=some (.int place)) (h1:lk loc 1=some (.int x)) (m:Nat) :
    ∃ e' σ' w,execsV (fs (m+100)).S ⟨loc,cel,fn⟩ L389_2 σ=some ((.next,e'),σ')∧LS σB kw kp σ' (wl++[w])∧EnvL e'.loc total kw kp∧∀ i c,i≠kw→i≠kp→σ[i]?=some c→σ'[i]?=some c:=by
  refine hid fun GG kk=>?_
  refine exA (fmod_nat x (show (0:Int) < 11 by decide)) fun j hj hjl=>?_
  refine exA (fmod_nat (total+place) (show (0:Int) < 16 by decide)) fun b hb hbl=>?_
  refine kk ?_
  clear kk GG
  have hjl:j < 11:=Int.ofNat_lt.mp hjl
  have hbl:b < 16:=Int.ofNat_lt.mp hbl
  obtain ⟨w,hw⟩:∃ w,wordsL[j]?=some w:=⟨_,List.getElem?_eq_getElem (l:=wordsL) hjl⟩
  have hwm:w∈wordsL:=List.mem_of_getElem? hw
  have F:=wrdF_of hwm
  have pk:pickV (wordsL.map V.str) (x.fmod 11)=some (.str w):=by rw [hj]; exact pick_nat (by rw [List.getElem?_map,hw]; rfl)
  have sj:small (x.fmod 11)=true:=by rw [hj]; exact small_nat (Nat.le_trans (Nat.le_of_lt hjl) (by decide))
  have rw1:(fs (m+96)).C 300 [] [] σ=some (.lst σ.length,σ++[.lst (wordsL.map V.str)]):=run_words (m+86) σ
  refine hid fun GG kk=>?_
  refine exE (run_beside b (m+87) hbl (σ++[Cl.lst (wordsL.map V.str)])) fun c zz=>exE zz fun σ2 zz=>anE zz fun u1 zz=>anE zz fun u2 u3=>?_
  refine kk ?_
  clear kk GG
  rw [← hb] at u1
  refine hid fun GG kk=>?_
  refine anE (F.bes c (List.mem_of_getElem? u3)) fun c1 zz=>anE zz fun c3 c4=>?_
  obtain ⟨t,σ3,t1,t2,t3,t4,_⟩:=run_typed F.suf (n:=(if x < 0 then -x else x).fdiv 11) (m+26) σ2
  refine kk ?_
  clear kk GG
  have hpc:∀ a∈(t++one c).cps.toList,(prepC a).length≤10:=by
    intro a ha
    rw [app_cps,one_cps] at ha
    rcases List.mem_append.mp ha with ha | ha
    · have k:=flat_mem_len (f:=prepC) ha
      rw [t3] at k
      exact Nat.le_trans k (Nat.le_trans F.len (by decide))
    · rw [List.mem_singleton.mp ha,c1]; exact (by decide:1≤10)
  have hpl:(t++one c).length≤16:=by rw [app_len]; exact Nat.le_trans (Nat.succ_le_succ t4) (by decide)
  refine exA (run_prepared (t++one c) (m+48) σ3 hpc hpl) fun σ4 p1 p2=>?_
  have hrule:((t++one c).cps.toList.flatMap prepC)=(w++one c).cps.toList:=by
    rw [app_cps,List.flatMap_append,t3,one_cps,List.flatMap_cons,List.flatMap_nil,List.append_nil,c1,app_cps,one_cps]
  rw [hrule] at p1
  have p1:(fs (m+48+50)).C 331 [.str (t++one c)] [] σ3=some (.str (w++one c),σ4):=p1
  have x4:Ext σ σ4:=(((Ext.refl σ).snoc _).trans u2).trans (t2.trans p2)
  have L4:=L.grow x4
  refine hid fun GG kk=>?_
  refine exE (L4.wants) fun us zz=>anE zz fun w1 zz=>anE zz fun w2 w3=>?_
  refine kk ?_
  clear kk GG
  have la:t.length+(one c).length≤4096:=Nat.le_trans (Nat.succ_le_succ t4) (by decide)
  have lb:w.length+(one c).length≤4096:=Nat.le_trans (Nat.succ_le_succ F.len) (by decide)
  have lc:(w++one c).length≤4096:=by rw [app_len]; exact lb
  have hul:(us.map V.str).length≤4096:=by rw [List.length_map]; exact Nat.le_trans w2 (Nat.le_trans hl (by decide))
  have sl:∀ q,(fs (q+3)).E ⟨(73,.str (w++one c))::(72,.str (one c))::loc,(27,.str w)::cel,fn⟩ (.slice (.var (.loc 73)) none (some (.neg (.lit (.int 1))))) σ4=some (.str w,σ4):=fun q=>(rSlice (rLoc lk_hit) oNone (oSome (rNeg rLit)) (slcS oi_none (oi_some rfl) lc)).trans (by rw [c3])
  have ne':(!decide (w++one c=w++one c))=false:=nd rfl
  obtain ⟨σ5,vs,hbody,x5,v1,v2,v3,v4,v5⟩:∃ (σ5:St) (vs:List Str),tf (execsV (fs (m+99)).S ⟨(73,.str (w++one c))::(72,.str (one c))::loc,(27,.str w)::cel,fn⟩ [.expr (.meth (.var (.loc 57)) (.bi .append) [(.call (.lit (.glob 362)) [(.slice (.var (.loc 73)) none (some (.neg (.lit (.int 1)))))] [])] [])]) (execsV (fs (m+99)).S ⟨(73,.str (w++one c))::(72,.str (one c))::loc,(27,.str w)::cel,fn⟩ []) (!us.contains (dotted w)) σ4=some ((.next,⟨(73,.str (w++one c))::(72,.str (one c))::loc,(27,.str w)::cel,fn⟩),σ5) ∧
      Ext σB σ5∧σ5[kw]?=some (.lst (vs.map .str))∧vs.length≤wl.length+1∧(∀ u,u∈vs↔(∃ y∈wl,u=dotted y)∨u=dotted w)∧σ5[kp]?=some (.lst ((wl.flatMap pairsOf).map .str))∧∀ i c,i≠kw→σ4[i]?=some c→σ5[i]?=some c:=by
    cases hin:us.contains (dotted w) with
    | true=>exact ⟨σ4,us,rfl,L4.ext,w1,Nat.le_succ_of_le w2,fun u=>⟨fun h=>.inl ((w3 u).mp h),fun h=>h.elim (w3 u).mpr fun e=>e ▸ List.contains_iff_mem.mp hin⟩,L4.pairs,fun i c _ h=>h⟩
    | false =>
      refine ⟨_,us++[dotted w],tfT (xCons (sExpr (rMeth rfl (rLoc E.wan) (rcvL w1) (eCons (rCall rLit (eCons (sl (m+93)) eNil) kNil (cGlob (run_dotted F.dot))) eNil) kNil (mBi (append_ap w1 hul)))) (elN xNil)),L4.ext.set L.lw _,?_,?_,?_,(List.getElem?_set_ne L.ne).trans L4.pairs,fun i c hi h=>(List.getElem?_set_ne (Ne.symm hi)).trans h⟩
      · rw [List.getElem?_set_self (List.getElem?_eq_some_iff.mp w1).1,List.map_append (l₁:=us) (l₂:=[dotted w])]; rfl
      · rw [List.length_append]; exact Nat.succ_le_succ w2
      · exact fun u=>⟨fun h=>(List.mem_append.mp h).elim (fun h=>.inl ((w3 u).mp h)) fun h=>.inr (List.mem_singleton.mp h),fun h=>h.elim (fun h=>List.mem_append_left _ ((w3 u).mpr h)) fun e=>List.mem_append_right _ (e ▸ .head _)⟩
  obtain ⟨σ6,q1,q2,q3⟩:=pair_step L hl hwm x5 v1 v2 v3 v4 (loc:=(73,.str (w++one c))::(72,.str (one c))::loc) (cel:=(27,.str w)::cel) (fn:=fn) E.prs rfl (m+40)
  refine ⟨⟨(73,.str (w++one c))::(72,.str (one c))::loc,(27,.str w)::cel,fn⟩,σ6,w,?_,q2,⟨E.tot,E.wan,E.prs⟩,fun i c hi hp h=>q3 i c hp (v5 i c hi (x4.at h))⟩
  have E70:=E.tot
  have E57:=E.wan
  repeat (first | with_reducible exact rw1 | with_reducible exact u1 | with_reducible exact abs_ap | with_reducible exact t1 | with_reducible exact p1 | with_reducible exact ne_str c4 c4 | with_reducible exact sl _ | with_reducible exact run_dotted F.dot | with_reducible exact notin_ap w1 | with_reducible exact hbody | with_reducible exact q1 | walk_at "p")
theorem rev_ap {x:Str} {σ:St} (h:(revS x).length≤4096):revV (.str x) σ=some (.str (revS x),σ):=grd (big_of h) rfl
theorem mulS_ap {x:Str} {b:Int} {σ:St} (h0:0≤b) (h1:b≤8) (h:x.length≤4096):binV .mul (.str x) (.int b) σ=some (.str (Txt.mul x b),σ):=grd (by rw [decide_eq_true h0,decide_eq_true h1,big_of h]; rfl) rfl
noncomputable def wayS (order:Str) (steep:Bool):Str:=cond steep order (revS order)
structure Facts (order:Str) (days:Nat) (DD:Str→Bool→List Str):Prop where
  ord:order∈rowsL
  day:days∈[2,3]
  rev:revS order∈rowsL
  due:∀ row∈rowsL,∀ steep,sortK ((dueL (bndP row order steep) (risP days 4)).map (keyP row order)) ((dueL (bndP row order steep) (risP days 4)).map .str)=some ((DD row steep).map .str)
  txt:∀ row∈rowsL,∀ steep,∀ t∈DD row steep,TextF t
  len:∀ row∈rowsL,∀ steep,(DD row steep).length≤20
  cop:∀ row∈rowsL,∀ steep,ematch (dotted row) (Txt.mul (wayS order steep) days)=some (!(DD row steep).isEmpty)∧∃ b2,ematch (dotted (row++one (cAt row 3))) (Txt.mul (wayS order steep) days)=some b2∧((DD row steep).isEmpty=true∨b2=!(freeL (sdig (days - 1)) (DD row steep)).isEmpty)
  dot:∀ row∈rowsL,dotOk row=true∧dotOk (row++one (cAt row 3))=true
theorem days_of {days:Nat} (h:days∈[2,3]):1≤days∧days≤3∧PyData.strOk (sdig (days - 1))=true :=
  (by decide +kernel:∀ days∈[2,3],1≤days∧days≤3∧PyData.strOk (sdig (days - 1))=true) days h
theorem due_body {order row:Str} {days:Nat} {DD:Str→Bool→List Str} (F:Facts order days DD) (hrow:row∈rowsL) {steep:Bool} {σ:St} {kr kd:Nat} {ds:List Str} {loc cel:List (Nat × V)} {fn:Nat} (h45:lk loc 45=some (.str row)) (h34:lk loc 34=some (.str order)) (h61:lk loc 61=some (.lst kr)) (h74:lk loc 74=some (.str (wayS order steep))) (h62:lk loc 62=some (.bool steep)) (h39:lk loc 39=some (.int days)) (h64:lk loc 64=some (.lst kd))
    (hr:σ[kr]?=some (.lst ((risP days 4).map .str))) (hk:σ[kd]?=some (.lst (ds.map .str))) (hl:ds.length≤100) (m:Nat) :
    ∃ k σ1,execsV (fs (m+160)).S ⟨loc,cel,fn⟩ L389_0 σ=some ((.next,⟨(75,.lst k)::loc,cel,fn⟩),σ1.set kd (.lst ((ds++DD row steep).map .str)))∧Ext σ σ1:=by
  refine hid fun GG kk=>?_
  obtain ⟨k,σ1,a1,a2,a3,a4⟩:=run_due hrow F.ord F.day (F.due row hrow steep) hr (m+68)
  refine anE (days_of F.day) fun e1 zz=>anE zz fun e3 ho=>?_
  refine kk ?_
  clear kk GG
  have hway:wayS order steep∈rowsL:=by
    induction steep with
    | true=>exact F.ord
    | false=>exact F.rev
  have hwl:(wayS order steep).length≤4096:=by rw [(rowF_of hway).len]; decide
  refine hid fun GG kk=>?_
  obtain ⟨c1,b2,c2,c3⟩:=F.cop row hrow steep
  refine anE (F.dot row hrow) fun d1 d2=>?_
  refine exA (run_copies hrow (F.txt row hrow steep) (F.len row hrow steep) ho d1 d2 c1 c2 c3 a3 (m+6)) fun σ2 q1 q2=>?_
  refine kk ?_
  clear kk GG
  have mu:binV .mul (.str (wayS order steep)) (.int days) σ1=some (.str (Txt.mul (wayS order steep) days),σ1):=mulS_ap (Int.natCast_nonneg _) (Int.ofNat_le.mpr (Nat.le_trans e3 (by decide))) hwl
  have st:callT .str [.int ((days:Int) - 1)] σ1=some (.str (sdig (days - 1)),σ1):=by
    have e2:(days:Int) - 1=((days - 1:Nat):Int):=(Int.ofNat_sub e1).symm
    rw [e2]
    exact str_ap (Nat.lt_of_le_of_lt (Nat.sub_le _ _) (Nat.lt_of_le_of_lt e3 (by decide)))
  have hk2:σ2[kd]?=some (.lst (ds.map .str)):=q2.at (a2.at hk)
  have ex:=extend_ap hk2 (q2.at a3) (Nat.lt_of_lt_of_le (List.getElem?_eq_some_iff.mp hk).1 a4) (by rw [List.length_map,List.length_map]; exact Nat.le_trans (Nat.add_le_add hl (F.len row hrow steep)) (by decide))
  have Rk:rcv (.bi .extend) (.lst kd) σ2=some ((),σ2):=rcvL hk2
  refine ⟨k,σ2,?_,a2.trans q2⟩
  rw [List.map_append]
  repeat (first | with_reducible exact a1 | with_reducible exact mu | with_reducible exact st | with_reducible exact q1 | with_reducible exact ex | with_reducible exact Rk | walk_at "p")
noncomputable def upS (row:Str):Str:=uppered (one (cAt row 0))++Txt.slice row (some 1) none
noncomputable def rowH (row:Str):Bool:=decide (lowered (upS row)=row) && (okHeader row && (decide ((uppered (one (cAt row 0))).length≤100) && decide ((Txt.slice row (some 1) none).length≤100)))
theorem rowH_ok:rowsL.all rowH=true:=by decide +kernel
structure EnvM (loc:List (Nat × V)) (order:Str) (days kw kr kI:Nat):Prop where
  wan:lk loc 57=some (.lst kw)
  ord:lk loc 34=some (.str order)
  ris:lk loc 61=some (.lst kr)
  day:lk loc 39=some (.int days)
  tab:lk loc 55=some (.ins kI)
theorem is_tt {b:Bool}:isV (.bool b) (.bool true)=some b:=by cases b <;> rfl
theorem is_ff {b:Bool}:isV (.bool b) (.bool false)=some !b:=by cases b <;> rfl
theorem set_at {σ:St} {k:Nat} {c d:Cl} (h:σ[k]?=some d):(σ.set k c)[k]?=some c:=List.getElem?_set_self (List.getElem?_eq_some_iff.mp h).1
theorem row_step {order:Str} {days:Nat} {DD:Str→Bool→List Str} (F:Facts order days DD) {i:Nat} (hi:i < 24) {us:List Str} {f:Str→Bool} (hf:∀ u∈us,ematch u (ordS i)=some (f u)) (hul:us.length≤10) {ents:List (Str × Str)} (he:∀ p∈ents,PyData.strOk (lowered p.1)=true∧(lowered p.1).length≤100) (hel:ents.length≤170)
    (hT:(ents.filter fun p=>decide (lowered p.1=ordS i)).map (·.2)=cond (us.all f) (DD (ordS i) true++DD (ordS i) false) []) {σ:St} {kw kr kI kH:Nat} (hw:σ[kw]?=some (.lst (us.map .str))) (hr:σ[kr]?=some (.lst ((risP days 4).map .str))) (hI:σ[kI]?=some (.ins (.lst kH))) (hH:σ[kH]?=some (.lst (ents.map entV)))
    {loc cel:List (Nat × V)} {fn:Nat} (E:EnvM loc order days kw kr kI) (h28:lk loc 28=some (.int i)) (m:Nat) :
    ∃ e' σ',execsV (fs (m+230)).S ⟨loc,cel,fn⟩ L389_1 σ=some ((.next,e'),σ')∧Ext σ σ'∧EnvM e'.loc order days kw kr kI:=by
  have hrow:ordS i∈rowsL:=List.mem_map.mpr ⟨i,List.mem_range.mpr hi,rfl⟩
  have ro:(fs (m+228)).C 338 [.int i] [] σ=some (.str (ordS i),σ):=run_order hi ((by decide:∀ i < 24,(Int.ofNat i).fmod 24=Int.ofNat i) i hi) (m+208) σ
  refine exA (run_taken hf hw hul (m+67)) fun σ1 t1 t2=>?_
  generalize ordS i=row at *
  generalize us.all f=b at *
  have R:=rowF_of hrow
  have RH:=and_t (List.all_eq_true.mp rowH_ok row hrow)
  have RH2:=and_t RH.2
  have RH3:=and_t RH2.2
  have u3:=of_decide_eq_true RH3.1
  have p0:pickC row 0=some (cAt row 0):=(R.at_ 0 (by decide)).1
  have lrow:row.length≤4096:=by rw [R.len]; decide
  have l1:(uppered (one (cAt row 0))).length≤4096:=Nat.le_trans u3 (by decide)
  have l2:(uppered (one (cAt row 0))).length+(Txt.slice row (some 1) none).length≤4096:=Nat.le_trans (Nat.add_le_add u3 (of_decide_eq_true RH3.2)) (by decide)
  have hr4:row.length≤100:=by rw [R.len]; decide
  have lrv:(revS order).length≤4096:=by rw [(rowF_of F.rev).len]; decide
  obtain ⟨loc5,σ5,hb,x5,kd5,E5,g45,g64⟩:∃ loc5 σ5,tf (execsV (fs (m+229)).S ⟨(64,.lst σ1.length)::(58,.bool b)::(45,.str row)::loc,cel,fn⟩ [.for (.tup [(.loc 74),(.loc 62)]) (.of (.lst [(.tup [(.var (.loc 34)),(.lit (.bool true))]),(.tup [(.rev (.var (.loc 34))),(.lit (.bool false))])])) L389_0])
      (execsV (fs (m+229)).S ⟨(64,.lst σ1.length)::(58,.bool b)::(45,.str row)::loc,cel,fn⟩ [.ifs (.cmp .isnot (.var (.loc 58)) (.lit (.bool false))) [.ret (.lit (.bool false))] []]) b (σ1++[.lst []])=some ((.next,⟨loc5,cel,fn⟩),σ5) ∧
      Ext σ1 σ5∧σ5[σ1.length]?=some (.lst ((cond b (DD row true++DD row false) []).map .str))∧EnvM loc5 order days kw kr kI∧lk loc5 45=some (.str row)∧lk loc5 64=some (.lst σ1.length):=by
    have E0:EnvM ((64,.lst σ1.length)::(58,.bool b)::(45,.str row)::loc) order days kw kr kI:=⟨E.wan,E.ord,E.ris,E.day,E.tab⟩
    induction b with
    | true =>
      obtain ⟨S,hS⟩:∃ S,σ1++[Cl.lst []]++[Cl.lst [.tup [.str order,.bool true],.tup [.str (revS order),.bool false]]]=S:=⟨_,rfl⟩
      obtain ⟨ks,hks⟩:∃ ks,(σ1++[Cl.lst []]).length=ks:=⟨_,rfl⟩
      have k0:S[σ1.length]?=some (.lst (([]:List Str).map .str)):=hS ▸ snoc_get snoc_last
      have k1:S[ks]?=some (.lst [.tup [.str order,.bool true],.tup [.str (revS order),.bool false]]):=hS ▸ hks ▸ snoc_last
      have x0:Ext σ1 S:=hS ▸ ((Ext.refl σ1).snoc _).snoc _
      have hne:σ1.length≠ks:=hks ▸ Nat.ne_of_lt (List.length_append (as:=σ1) (bs:=[Cl.lst []]) ▸ Nat.lt_succ_self _)
      refine hid fun GG kk=>?_
      obtain ⟨k,σ7,d1,d2⟩:=due_body F hrow (steep:=true) (ds:=[]) (loc:=(62,.bool true)::(74,.str order)::(64,.lst σ1.length)::(58,.bool true)::(45,.str row)::loc) (cel:=cel) (fn:=fn) (kr:=kr) (kd:=σ1.length) rfl E.ord E.ris rfl rfl E.day rfl ((t2.trans x0).at hr) k0 (Nat.zero_le _) (m+67)
      have k7:=set_at (c:=.lst ((([]:List Str)++DD row true).map .str)) (d2.at k0)
      have n7:(σ7.set σ1.length (.lst ((([]:List Str)++DD row true).map .str)))[ks]?=_:=(List.getElem?_set_ne hne).trans (d2.at k1)
      have x7:Ext σ1 (σ7.set σ1.length (.lst ((([]:List Str)++DD row true).map .str))):=(x0.trans d2).set (Nat.le_refl _) _
      refine exE (due_body F hrow (steep:=false) (ds:=[]++DD row true) (loc:=(62,.bool false)::(74,.str (revS order))::(75,.lst k)::(62,.bool true)::(74,.str order)::(64,.lst σ1.length)::(58,.bool true)::(45,.str row)::loc) (cel:=cel) (fn:=fn) (kr:=kr) (kd:=σ1.length) rfl E.ord E.ris rfl rfl E.day rfl ((t2.trans x7).at hr) k7 (Nat.le_trans (F.len row hrow true) (by decide)) (m+66)) fun k' zz=>exA zz fun σ8 d3 d4=>?_
      refine kk ?_
      clear kk GG
      have hL:(fs (m+228)).L ⟨(64,.lst σ1.length)::(58,.bool true)::(45,.str row)::loc,cel,fn⟩ (.tup [.loc 74,.loc 62]) (.lst ks 0) L389_0 S=_ :=
        lStep rfl k1 rfl rfl d1 (elN (lStep rfl n7 rfl rfl d3 (elN (lEnd rfl ((List.getElem?_set_ne hne).trans (d4.at n7)) rfl))))
      refine ⟨_,_,tfT (xCons (sFor (iLst (a:=.lst [(.tup [(.var (.loc 34)),(.lit (.bool true))]),(.tup [(.rev (.var (.loc 34))),(.lit (.bool false))])]) (hks ▸ hS ▸ rLst (eCons (rTup (eCons (rLoc E.ord) (eCons rLit eNil)) (le4 rfl)) (eCons (rTup (eCons (rRev (rLoc E.ord) (rev_ap lrv)) (eCons rLit eNil)) (le4 rfl)) eNil)) (le4 rfl)) k1) hL) (elN xNil)),(x7.trans d4).set (Nat.le_refl _) _,set_at (d4.at k7),⟨E.wan,E.ord,E.ris,E.day,E.tab⟩,rfl,rfl⟩
    | false=>exact ⟨_,σ1++[.lst []],tfF (xCons (sIfs (tCmp (rCmp (rLoc rfl) rLit (isnot_ap is_ff)) truth_b) (tfF xNil)) (elN xNil)),(Ext.refl σ1).snoc _,snoc_last,E0,rfl,rfl⟩
  have E57:=E.wan
  have E55:=E5.tab
  have xx:=t2.trans x5
  refine exE (run_get_all (of_decide_eq_true RH.1) RH2.1 R.ok hr4 (xx.at hI) (xx.at hH) he hel (m+26)) fun rr zz=>exE zz fun σ3 zz=>anE zz fun s1 zz=>anE zz fun s2 s3=>?_
  have s1:(fs (m+226)).C 228 [.ins kI,.str (uppered (one (cAt row 0))++Txt.slice row (some 1) none)] [] σ5=some (.lst rr,σ3):=s1
  have kd8:=s2.at kd5
  rw [hT] at s3
  have hd:DOks ((cond b (DD row true++DD row false) []).map V.str) ((cond b (DD row true++DD row false) []).map PyData.str):=DOks.strs fun t ht=>by
    induction b with
    | true=>exact (List.mem_append.mp ht).elim (fun h=>(F.txt row hrow true t h).ok) fun h=>(F.txt row hrow false t h).ok
    | false=>cases ht
  have hne:=ne_lst s3 kd8 hd hd
  rw [eqvAll_strs,decide_eq_true rfl] at hne
  have hne:cmpV .ne (.lst rr) (.lst σ1.length) σ3=some (.bool false,σ3):=hne
  have Rk:rcv .get_all (.ins kI) σ5=some ((),σ5):=rcvI (xx.at hI)
  refine ⟨⟨loc5,cel,fn⟩,σ3,?_,xx.trans s2,E5⟩
  repeat (first | with_reducible exact ro | with_reducible exact t1 | with_reducible exact hb | with_reducible apply is_tt | with_reducible exact iteS rfl p0 | with_reducible exact upper_ap l1 | with_reducible exact s1 | with_reducible exact hne | with_reducible exact Rk | walk_at "p")
theorem L_enum {c ks:Nat} {t:Tg} {b:List CS} {vals:List V} (I:Nat→EE→St→Prop) (hx:∀ i e σ,I i e σ→σ[ks]?=some (.lst vals)) (ht:∀ i,tgOk t (.enumL i ks)=true)
    (H:∀ (j:Nat) (v:V),vals[j]?=some v→∀ (q:Nat) (e:EE) (σ:St),I j e σ→∃ e1,assignT e t (.tup [.int j,v])=some e1∧∃ e2 σ',execsV (fs (q+c)).S e1 b σ=some ((.next,e2),σ')∧I (j+1) e2 σ') {d:Nat} :
    ∀ {i N:Nat} {e:EE} {σ:St},c+d+1≤N→i+d=vals.length→I i e σ→∃ e2 σ',(fs N).L e t (.enumL i ks) b σ=some ((.next,e2),σ')∧I vals.length e2 σ':=by
  induction d with
  | zero =>
    intro i N e σ hN hd hI
    obtain ⟨M,rfl⟩:=Nat.exists_eq_succ_of_ne_zero (Nat.ne_of_gt (Nat.lt_of_lt_of_le (Nat.succ_pos _) hN))
    obtain rfl:i=vals.length:=hd
    have hn:srcNext (.enumL vals.length ks) σ=some (none,σ):=bnd (getLst_at (hx _ _ _ hI)) (by rw [List.getElem?_eq_none (Nat.le_refl _)]; rfl)
    exact ⟨_,σ,grd (ht _) (bnd hn rfl),hI⟩
  | succ d ih =>
    intro i N e σ hN hd hI
    obtain ⟨M,rfl⟩:=Nat.exists_eq_succ_of_ne_zero (Nat.ne_of_gt (Nat.lt_of_lt_of_le (Nat.succ_pos _) hN))
    have hM:c+d+1≤M:=Nat.le_of_succ_le_succ hN
    have hv:vals[i]?=some _:=List.getElem?_eq_getElem (Nat.lt_of_lt_of_eq (Nat.lt_add_of_pos_right (Nat.succ_pos d)) hd)
    obtain ⟨q,rfl⟩:∃ q,M=q+c:=⟨M - c,(Nat.sub_add_cancel (Nat.le_trans (Nat.le_add_right c d) (Nat.le_of_succ_le hM))).symm⟩
    refine hid fun GG kk=>?_
    obtain ⟨ee,h1,e5,σ1,h2,h3⟩:=H i _ hv q e σ hI
    refine exE (ih (i:=i+1) hM ((Nat.succ_add_eq_add_succ i d).trans hd) h3) fun r' zz=>exA zz fun σ' r1 r2=>?_
    refine kk ?_
    clear kk GG
    have hn:srcNext (.enumL i ks) σ=some (some (.tup [.int i,vals[i]'(Nat.lt_of_lt_of_eq (Nat.lt_add_of_pos_right (Nat.succ_pos d)) hd)],.enumL (i+1) ks),σ):=bnd (getLst_at (hx _ _ _ hI)) (by rw [hv]; rfl)
    exact ⟨r',σ',grd (ht _) (bnd hn (ofB (o:=assignT e t _) h1 (bnd h2 r1))),r2⟩
theorem cut_len {α:Type} {l:List α} {lo hi:Option Int} {n:Nat} (h:(sliceBounds lo hi none l.length).2.1 - (sliceBounds lo hi none l.length).1≤n):(cut l lo hi).length≤n :=
  Nat.le_trans (List.length_filterMap_le ..) (Nat.le_trans (sliceRange_len_le _ _ _ (by show (1:Int)≠0; decide)) (by
    show (if (1:Int) > 0 then _ else _)≤n
    rw [if_pos (by decide)]
    exact Int.toNat_le.mpr h))
theorem cut_hi {α:Type} (l:List α):(cut l none (some 4)).length≤4:=cut_len (by
  show max 0 (min (4:Int) l.length) - 0≤4
  rw [Int.sub_zero]
  exact Int.max_le.mpr ⟨by decide,Int.min_le_left ..⟩)
theorem cut_lo {α:Type} (l:List α) (n:Nat):(cut l (some (n:Int)) none).length≤l.length:=cut_len (Int.sub_le_self _ (Int.le_max_left ..))
noncomputable def Tk (w row:Str):Bool:=(ematch (dotted w) row).getD false
structure PH:Prop where
  tk:∀ w∈wordsL,∀ row∈rowsL,ematch (dotted w) row=some (Tk w row)
  facts:∀ order∈rowsL,∀ days∈[2,3],∃ DD,Facts order days DD∧∀ wl:List Str,(∀ w∈wl,w∈wordsL)→∀ row∈rowsL,((tabE (wl.flatMap pairsOf) days order).filter fun p=>decide (lowered p.1=row)).map (·.2)=cond (wl.all (fun w=>Tk w row)) (DD row true++DD row false) []
theorem tabE_ok {ps:List Str} {order:Str} {days:Nat} (O:RowF order) (hd:days≤3):(tabE ps days order).length≤162∧∀ p∈tabE ps days order,PyData.strOk (lowered p.1)=true∧(lowered p.1).length≤100∧∃ R,RowG days R∧lowered p.1=nmR R:=by
  have key:∀ {R:List Tr} {x:Str},RowG days R→lowered x=nmR R→PyData.strOk (lowered x)=true∧(lowered x).length≤100∧∃ R,RowG days R∧lowered x=nmR R:=fun G e=>⟨e.symm ▸ (nmF_of G.name).str,e.symm ▸ (nmF_of G.name).len,_,G,e⟩
  refine ⟨by unfold tabE; rw [List.length_append,List.length_map,List.length_map]; exact Nat.add_le_add (stg_len hd) (stg_len hd),fun p hp=>?_⟩
  rcases List.mem_append.mp hp with h | h
  · obtain ⟨R,hR,rfl⟩:=List.mem_map.mp h
    have G:=stg_G (ps:=ps) (days:=days) O (Nat.zero_le 1) R hR
    exact key G (nmF_of G.name).low
  · obtain ⟨R,hR,rfl⟩:=List.mem_map.mp h
    have G:=stg_G (ps:=ps) (days:=days) O (Nat.le_refl 1) R hR
    exact key G (nmF_of G.name).lowU
theorem nmR_len {days:Nat} {R:List Tr} (G:RowG days R):(nmR R).length=4:=by
  obtain ⟨a,b,c,d,rfl⟩:=four G.len
  rfl
theorem sum_ap {xs:List Int} {σ:St} (h:xs.length≤4096):callB .sum [.scr xs] σ=some (.int xs.sum,σ):=grd (big_of h) rfl
@[reducible] noncomputable def iter389:CE:=.bin .add (.slice (.var (.loc 69)) none (some (.lit (.int 4)))) (.slice (.lst [(.lit (.int 13)),(.lit (.int 1884)),(.lit (.int 257))]) (some (.call (.lit (.bi .len)) [(.slice (.var (.loc 69)) none (some (.lit (.int 4))))] [])) none)
theorem iter_run {xs:List Int} (hx:xs.length≤63) {loc cel:List (Nat × V)} {fn:Nat} (h69:lk loc 69=some (.scr xs)) (σ:St) (m:Nat) :
    ∃ k σ' zs,(fs (m+12)).E ⟨loc,cel,fn⟩ iter389 σ=some (.lst k,σ')∧Ext σ σ'∧σ'[k]?=some (.lst zs)∧zs.length≤7∧(∀ v∈zs,∃ x,v=.int x)∧σ.length≤k:=by
  have hl:xs.length≤4096:=Nat.le_trans hx (by decide)
  have h4:((cut xs none (some 4)).map V.int).length≤4:=by rw [List.length_map]; exact cut_hi xs
  have ha:∀ v∈(cut xs none (some 4)).map V.int,∃ x,v=.int x:=fun v h=>by
    obtain ⟨x,_,rfl⟩:=List.mem_map.mp h; exact ⟨x,rfl⟩
  have hS:∀ (σ:St) (q:Nat),(fs (q+3)).E ⟨loc,cel,fn⟩ (.slice (.var (.loc 69)) none (some (.lit (.int 4)))) σ=some (.lst σ.length,σ++[.lst ((cut xs none (some 4)).map .int)]):=fun σ q=>rSlice (rLoc h69) oNone (oSome rLit) (slcZ oi_none (oi_some rfl) hl)
  generalize (cut xs none (some 4)).map V.int=a at *
  have hlo:=cut_lo ([.int 13,.int 1884,.int 257]:List V) a.length
  refine ⟨_,_,_,rBin (hS σ (m+8)) (rSlice (rLst (eCons rLit (eCons rLit (eCons rLit eNil))) (by decide)) (oSome (rCall rLit (eCons (hS _ (m+6)) eNil) kNil (cBi (len_lst at_last (Nat.le_trans h4 (by decide)))))) oNone (slcL (oi_some (small_nat (Nat.le_trans h4 (by decide)))) oi_none (snoc_get at_last) (by decide))) (add_lst (snoc_get (snoc_get (snoc_get at_last))) at_last (Nat.le_trans (Nat.add_le_add h4 hlo) (by decide))),
    (((((Ext.refl σ).snoc _).snoc _).snoc _).snoc _).snoc _,at_last,by rw [List.length_append]; exact Nat.add_le_add h4 hlo,fun v hv=>(List.mem_append.mp hv).elim (ha v) fun h=>?_,((((Ext.refl σ).snoc _).snoc _).snoc _ |>.snoc _).le⟩
  obtain ⟨i,_,hi⟩:=List.mem_filterMap.mp h
  have h:=List.mem_of_getElem? hi
  exact (List.mem_cons.mp h).elim (fun h=>⟨_,h⟩) fun h=>(List.mem_cons.mp h).elim (fun h=>⟨_,h⟩) fun h=>⟨_,List.mem_singleton.mp h⟩
theorem lenSet_run {N:Nat} {e:EE} {σ:St} {kp:Nat} {ps:List Str} (h38:lk e.loc 38=some (.lst kp)) (hp:σ[kp]?=some (.lst (ps.map .str))) (hl:ps.length≤1000):(fs (N+2)).E e (.lenSet (.var (.loc 38))) σ=some (.int (dedupS ps).length,σ) :=
  bnd (rLoc (n:=N) h38) (bnd (getLst_at hp) (ofB (vStrs_map ps) (grd (decide_eq_true (Nat.lt_of_le_of_lt hl (by decide))) rfl)))
@[reducible] noncomputable def C389:CE:=.and (some (.cmp .eq (.bin .mod (.bin .fdiv (.var (.loc 70)) (.lit (.int 24))) (.lit (.int 2))) (.lit (.int 1)))) (some (.cmp .gt (.lenSet (.var (.loc 38))) (.lit (.int 3)))) none
theorem cond_run {N:Nat} {loc cel:List (Nat × V)} {fn:Nat} {σ:St} {kp:Nat} {s:Int} {ps:List Str} (h70:lk loc 70=some (.int s)) (h38:lk loc 38=some (.lst kp)) (hp:σ[kp]?=some (.lst (ps.map .str))) (hl:ps.length≤1000):∃ b,(fs (N+9)).T ⟨loc,cel,fn⟩ C389 σ=some (b,σ):=by
  have h1:(fs (N+8)).T ⟨loc,cel,fn⟩ (.cmp .eq (.bin .mod (.bin .fdiv (.var (.loc 70)) (.lit (.int 24))) (.lit (.int 2))) (.lit (.int 1))) σ=some (decide ((s.fdiv 24).fmod 2=1),σ):=tCmp (rCmp (rBin (rBin (rLoc h70) rLit (fdiv_int (by decide) (by decide))) rLit (mod_int (by decide))) rLit eq_int) truth_b
  cases hb:decide ((s.fdiv 24).fmod 2=1) with
  | false=>exact ⟨false,tAnd2 (hb ▸ h1) (tfF rfl)⟩
  | true=>exact ⟨_,tAnd2 (hb ▸ h1) (tfT (tCmp (rCmp (lenSet_run h38 hp hl) rLit gt_int) truth_b))⟩
theorem partA {xs:List Int} (hx:xs.length≤63) (σ:St) (m:Nat):∃ loc cel fn σ' kw kp wl q days,(∀ {r},execsV (fs (m+250)).S ⟨loc,cel,fn⟩ (F389.body.drop 5) σ'=r→execsV (fs (m+250)).S ⟨[(69,.scr xs)],[],389⟩ F389.body σ=r)∧LS σ kw kp σ' wl∧wl.length≤7∧lk loc 57=some (.lst kw)∧lk loc 38=some (.lst kp)∧q < 24∧lk loc 34=some (.str (ordS q))∧days∈[2,3]∧lk loc 39=some (.int (days:Nat)):=by
  obtain ⟨kp,hkp⟩:∃ kp,(σ++[Cl.lst []]).length=kp:=⟨_,rfl⟩
  have hlt:σ.length < kp:=hkp ▸ List.length_append (as:=σ) (bs:=[Cl.lst []]) ▸ Nat.lt_succ_self _
  have L0:LS σ σ.length kp (σ++[Cl.lst []]++[Cl.lst []]) [] :=
    ⟨Nat.le_refl _,Nat.le_of_lt hlt,Nat.ne_of_lt hlt,((Ext.refl σ).snoc _).snoc _,(fun w h=>nomatch h),⟨[],snoc_get snoc_last,Nat.le_refl _,fun u=>⟨(fun h=>nomatch h),fun ⟨w,h,_⟩=>nomatch h⟩⟩,hkp ▸ snoc_last⟩
  refine hid fun GG kk=>?_
  obtain ⟨k,σ1,zs,i1,i2,i3,i4,i5,i6⟩:=iter_run hx (loc:=[(38,.lst kp),(57,.lst σ.length),(70,.int (xs.sum+14)),(69,.scr xs)]) (cel:=[]) (fn:=389) rfl (σ++[Cl.lst []]++[Cl.lst []]) (m+237)
  refine kk ?_
  clear kk GG
  have hk2:kp < k:=Nat.lt_of_lt_of_le (hkp ▸ List.length_append (as:=σ++[Cl.lst []]) (bs:=[Cl.lst []]) ▸ Nat.lt_succ_self _) i6
  obtain ⟨⟨l2,c2,f2⟩,σ2,j1,wl,j2,j3,j4,j5⟩:=L_enum (c:=100) (ks:=k) (t:=.tup [.loc 71,.loc 1]) (b:=L389_2) (vals:=zs) (fun i e σ'=>∃ wl:List Str,wl.length=i∧LS σ σ.length kp σ' wl∧EnvL e.loc (xs.sum+14) σ.length kp∧σ'[k]?=some (.lst zs)) (fun i e σ h=>h.elim fun _ h=>h.2.2.2) (fun i=>rfl)
    (fun j v hv q e1 σ6 ⟨wl,w1,w2,w3,w4⟩=>by
      obtain ⟨x,rfl⟩:=i5 v (List.mem_of_getElem? hv)
      have hj:=(List.getElem?_eq_some_iff.mp hv).1
      refine hid fun GG kk=>?_
      obtain ⟨loc,cel,fn⟩:=e1
      obtain ⟨e3,σ7,w,q1,q2,q3,q4⟩:=word_body w2 (w1 ▸ Nat.le_trans (Nat.le_of_lt hj) (Nat.le_trans i4 (by decide))) (loc:=(1,.int x)::(71,.int j)::loc) (cel:=cel) (fn:=fn) (total:=xs.sum+14) (place:=j) (x:=x) ⟨w3.tot,w3.wan,w3.prs⟩ rfl rfl q
      refine kk ?_
      clear kk GG
      exact ⟨_,rfl,e3,σ7,q1,wl++[w],by rw [List.length_append,w1]; rfl,q2,q3,q4 k _ (Nat.ne_of_gt (Nat.lt_trans hlt hk2)) (Nat.ne_of_gt hk2) w4⟩)
    (i:=0) (N:=m+249) (e:=⟨[(38,.lst kp),(57,.lst σ.length),(70,.int (xs.sum+14)),(69,.scr xs)],[],389⟩) (σ:=σ1) (Nat.le_trans (Nat.succ_le_succ (Nat.add_le_add_left i4 100)) (Nat.le_add_left 108 (m+141))) (Nat.zero_add _) ⟨[],rfl,L0.grow i2,⟨rfl,rfl,rfl⟩,i3⟩
  refine hid fun GG kk=>?_
  refine exA (fmod_nat (xs.sum+14) (show (0:Int) < 24 by decide)) fun q hq hql=>?_
  have hql:q < 24:=Int.ofNat_lt.mp hql
  have hpl:(wl.flatMap pairsOf).length≤1000:=Nat.le_trans (flat_pairs_len j3.mem) (Nat.le_trans (Nat.mul_le_mul_left 3 (j2 ▸ i4)) (by decide))
  obtain ⟨b,hb⟩:=cond_run (N:=m+240) (cel:=c2) (fn:=f2) (loc:=(39,.int 2)::(34,.str (ordS q))::l2) j4.tot j4.prs j3.pairs hpl
  refine kk ?_
  clear kk GG
  have front:∀ {r},execsV (fs (m+250)).S ⟨(39,.int 2)::(34,.str (ordS q))::l2,c2,f2⟩ (F389.body.drop 4) σ2=r→execsV (fs (m+250)).S ⟨[(69,.scr xs)],[],389⟩ F389.body σ=r:=fun h =>
    xCons (sAsgL (rBin (rCall rLit (eCons (rLoc rfl) eNil) kNil (cBi (sum_ap (Nat.le_trans hx (by decide))))) rLit add_int)) (elN (xCons (sAsgLL (rTup (eCons (rLst eNil (by decide)) (eCons (rLst eNil (by decide)) eNil)) (le4 rfl))) (elN (hkp.symm ▸ xCons (sFor (iEnum i1 i3) j1) (elN (xCons (sAsgLL (rTup (eCons (rCall rLit (eCons (rLoc j4.tot) eNil) kNil (cGlob (run_order hql hq (m+227) σ2))) (eCons rLit eNil)) (le4 rfl))) (elN h)))))))
  have hw:wl.length≤7:=j2 ▸ i4
  induction b with
  | false=>exact ⟨_,_,_,σ2,σ.length,kp,wl,q,2,fun h=>front (xCons (sIfs hb (tfF xNil)) (elN h)),j3,hw,j4.wan,j4.prs,hql,rfl,.head _,rfl⟩
  | true=>exact ⟨_,_,_,σ2,σ.length,kp,wl,q,3,fun h=>front (xCons (sIfs hb (tfT (xCons (sAsgL rLit) (elN xNil)))) (elN h)),j3,hw,j4.wan,j4.prs,hql,rfl,.tail _ (.head _),rfl⟩
noncomputable def kmpS:Str:="kmp"
theorem kmp_ok:lowered kmpS=kmpS∧okHeader kmpS=true∧PyData.strOk kmpS=true∧kmpS.length=3:=by decide +kernel
theorem run_law (H:PH) {xs:List Int} (hx:xs.length≤63) (m:Nat) (σ:St):∃ σ',(fs (m+300)).C 389 [.scr xs] [] σ=some (.bool true,σ'):=by
  refine hid fun GG kk=>?_
  obtain ⟨l1,ce1,f1,σ1,kw,kp,wl,q,days,a1,L,hwl,g57,g38,hq,g34,hd,g39⟩:=partA hx σ (m+49)
  refine kk ?_
  clear kk GG
  have hord:ordS q∈rowsL:=List.mem_map.mpr ⟨q,List.mem_range.mpr hq,rfl⟩
  generalize ordS q=order at *
  have hd3:days≤3:=days_lt hd
  refine hid fun GG kk=>?_
  refine exA (H.facts order hord days hd) fun DD F HT=>?_
  have O:=rowF_of hord
  refine exE (run_table (ps:=wl.flatMap pairsOf) hord hd3 L.pairs (m+26)) fun kI zz=>exE zz fun kH zz=>exA zz fun σ2 b1 T=>?_
  refine exE (run_rising hd (m+216) σ2) fun kr zz=>exE zz fun σ3 zz=>anE zz fun c1 zz=>anE zz fun c2 c3=>?_
  have T3:=T.grow c2
  refine anE (tabE_ok (ps:=wl.flatMap pairsOf) (days:=days) O hd3) fun ht1 ht2=>?_
  have he:∀ p∈tabE (wl.flatMap pairsOf) days order,PyData.strOk (lowered p.1)=true∧(lowered p.1).length≤100:=fun p hp=>⟨(ht2 p hp).1,(ht2 p hp).2.1⟩
  have hel:(tabE (wl.flatMap pairsOf) days order).length≤170:=Nat.le_trans ht1 (by decide)
  refine anE kmp_ok fun k1 zz=>anE zz fun k2 zz=>anE zz fun k3 k4=>?_
  refine exE (run_get_all k1 k2 k3 (k4 ▸ by decide) T3.inst T3.list he hel (m+95)) fun rr zz=>exE zz fun σ4 zz=>anE zz fun s1 zz=>anE zz fun s2 s3=>?_
  refine kk ?_
  clear kk GG
  have hemp:((tabE (wl.flatMap pairsOf) days order).filter fun p=>decide (lowered p.1=kmpS))=[]:=by
    refine List.filter_eq_nil_iff.mpr fun p hp h=>?_
    obtain ⟨_,_,R,G,e⟩:=ht2 p hp
    have h4:=nmR_len G
    rw [← e,of_decide_eq_true h,k4] at h4
    cases h4
  rw [hemp] at s3
  have hne:cmpV .ne (.lst rr) (.lst σ4.length) (σ4++[.lst []])=some (.bool false,σ4++[.lst []]):=ne_new s3 .nil
  have xx:Ext σ1 (σ4++[Cl.lst []]):=((T.ext.trans c2).trans s2).snoc _
  refine hid fun GG kk=>?_
  refine exE (L.wants) fun us zz=>anE zz fun w1 zz=>anE zz fun w2 w3=>?_
  refine kk ?_
  clear kk GG
  have hI4:(σ4++[Cl.lst []])[kI]?=some (.ins (.lst kH)):=snoc_get (s2.at T3.inst)
  have hH4:(σ4++[Cl.lst []])[kH]?=some (.lst ((tabE (wl.flatMap pairsOf) days order).map entV)):=snoc_get (s2.at T3.list)
  have hr4:(σ4++[Cl.lst []])[kr]?=some (.lst ((risP days 4).map .str)):=snoc_get (s2.at c3)
  have hw4:(σ4++[Cl.lst []])[kw]?=some (.lst (us.map .str)):=xx.at w1
  obtain ⟨⟨fl,e5⟩,σ5,l1',l2⟩:=L_runN (c:=230) (t:=.nm (.loc 28)) (b:=L389_1) (σ₀:=σ4++[Cl.lst []]) (fun i e σ'=>Ext (σ4++[Cl.lst []]) σ'∧EnvM e.loc order days kw kr kI) (fun _ _=>False) (fun _ _ _ h=>h.1) ((List.range 24).map fun (i:Nat)=>V.int i)
    (fun j v hv q e6 σ6 ⟨x6,E6⟩=>by
      obtain ⟨loc,cel,fn⟩:=e6
      rw [List.getElem?_map] at hv
      obtain ⟨i,hi,rfl⟩:=Option.map_eq_some_iff.mp hv
      have hi24:i < 24:=List.mem_range.mp (List.mem_of_getElem? hi)
      have hrow:ordS i∈rowsL:=List.mem_map.mpr ⟨i,List.mem_range.mpr hi24,rfl⟩
      have hf:∀ u∈us,ematch u (ordS i)=some ((ematch u (ordS i)).getD false):=fun u hu=>by
        obtain ⟨w,hw,rfl⟩:=(w3 u).mp hu
        exact H.tk w (L.mem w hw) _ hrow
      have hall:(us.all fun u=>(ematch u (ordS i)).getD false)=wl.all fun w=>Tk w (ordS i) :=
        Bool.eq_iff_iff.mpr ⟨fun h=>List.all_eq_true.mpr fun w hw=>List.all_eq_true.mp h (dotted w) ((w3 _).mpr ⟨w,hw,rfl⟩),fun h=>List.all_eq_true.mpr fun u hu=>by
          obtain ⟨w,hw,rfl⟩:=(w3 u).mp hu
          exact List.all_eq_true.mp h w hw⟩
      refine hid fun GG kk=>?_
      refine exE (row_step F hi24 hf (Nat.le_trans w2 (Nat.le_trans hwl (by decide))) he hel (by rw [hall]; exact HT wl L.mem _ hrow) (x6.at hw4) (x6.at hr4) (x6.at hI4) (x6.at hH4) (loc:=(28,.int i)::loc) (cel:=cel) (fn:=fn) ⟨E6.wan,E6.ord,E6.ris,E6.day,E6.tab⟩ rfl q) fun e7 zz=>exE zz fun σ7 zz=>anE zz fun d1 zz=>anE zz fun d2 d3=>?_
      refine kk ?_
      clear kk GG
      exact ⟨_,rfl,_,_,d1,.inl ⟨rfl,x6.trans d2,d3⟩⟩)
    (.rng ((List.range 24).map fun (i:Nat)=>(i:Int))) ⟨(61,.lst kr)::(55,.ins kI)::l1,ce1,f1⟩ (σ4++[Cl.lst []]) ⟨.refl _,⟨g57,g34,rfl,g39,rfl⟩⟩ (List.map_map ..).symm rfl rfl (m+298) (Nat.le_add_left 255 (m+43))
  have hr24:rangeOf 0 24 1=some ((List.range 24).map fun (i:Nat)=>(i:Int)):=range_ap (b:=24) (by decide)
  rcases l2 with ⟨l2,_⟩ | ⟨_,_,h⟩
  · cases l2
    exact ⟨σ5,R389 (a1 (xCons (sAsgLL (rTup (eCons (rCall rLit (eCons (rLoc g34) (eCons (rLoc g38) (eCons (rLoc g39) eNil))) kNil (cGlob b1)) (eCons (rCall rLit (eCons (rLoc g39) eNil) kNil (cGlob c1)) eNil)) (le4 rfl))) (elN (xCons (sIfs (tCmp (rCmp (rMeth rfl (rLoc rfl) (rcvI T3.inst) (eCons rLit eNil) kNil (mGet s1)) (rLst eNil (by decide)) hne) truth_b) (tfF xNil)) (elN (xCons (sFor (iRng (eCons rLit eNil) (rng1 hr24)) l1') (elN (xCons (sRet rLit) (elR pur))))))))) (elR pur)⟩
  · exact h.elim
theorem notT {b:Bool}:(!b)=true↔b=false:=by cases b <;> decide
noncomputable def okL (ps:List Str) (l:List Nat):Bool:=List.rec (motive:=fun _=>Bool) true (fun a r ih=>r.all (fun b=>!relP ps b a) && ih) l
noncomputable def okR (ps:List Str) (R:List Tr):Bool:=okL ps (R.map (·.2.2))
theorem okL_iff {ps:List Str} {l:List Nat}:okL ps l=true↔l.Pairwise fun a b=>relP ps b a=false:=by
  induction l with
  | nil=>exact ⟨fun _=>.nil,fun _=>rfl⟩
  | cons a r ih =>
    rw [List.pairwise_cons,← ih]
    exact ⟨fun h=>⟨fun b hb=>notT.mp (List.all_eq_true.mp (and_t h).1 b hb),(and_t h).2⟩,fun h=>Bool.and_eq_true_iff.mpr ⟨List.all_eq_true.mpr fun b hb=>notT.mpr (h.1 b hb),h.2⟩⟩
theorem okR_iff {ps:List Str} {R:List Tr}:okR ps R=true↔R.Pairwise fun a b=>relP ps b.2.2 a.2.2=false:=okL_iff.trans List.pairwise_map
theorem okD_split {ps:List Str} {gap c d:Nat} {A B:List Tr} (hA:∀ t∈A,gP gap d t=true) (hB:∀ t∈B,gP gap d t=false):okD ps gap c (A++B) d=true↔(∀ t∈A,relP ps c t.2.2=false)∧∀ t∈B,relP ps t.2.2 c=false:=by
  unfold okD
  rw [List.all_append,Bool.and_eq_true_iff,List.all_eq_true,List.all_eq_true]
  exact and_congr (forall_congr' fun t=>forall_congr' fun ht=>by rw [hA t ht]; exact notT) (forall_congr' fun t=>forall_congr' fun ht=>by rw [hB t ht]; exact notT)
theorem okR_ins {ps:List Str} {gap d c:Nat} {τ:Int} {R:List Tr} (h:R.Pairwise fun p q=>p.1≤q.1):okR ps (insG gap (d,τ,c) R)=(okR ps R && okD ps gap c R d):=by
  obtain ⟨A,B,e1,rfl,hA,hB⟩:=insG_split (gap:=gap) (x:=(d,τ,c)) h
  rw [Bool.eq_iff_iff,Bool.and_eq_true_iff,okR_iff,okR_iff,e1,List.pairwise_append,List.pairwise_cons,List.pairwise_append,okD_split hA hB]
  exact ⟨fun ⟨pa,⟨xb,pb⟩,ab⟩=>⟨⟨pa,pb,fun a ha b hb=>ab a ha b (.tail _ hb)⟩,fun a ha=>ab a ha _ (.head _),xb⟩,fun ⟨⟨pa,pb,ab⟩,ax,xb⟩=>⟨pa,⟨xb,pb⟩,fun a ha b hb=>(List.mem_cons.mp hb).elim (fun e=>e ▸ ax a ha) (ab a ha b)⟩⟩
theorem okD_nil {gap c:Nat} {R:List Tr} {d:Nat}:okD [] gap c R d=true:=List.all_eq_true.mpr fun t _=>by
  show (!cond (gP gap d t) false false)=true
  cases gP gap d t <;> rfl
theorem daysP_nil {gap c days:Nat} {R:List Tr}:daysP [] gap c days R=List.range days:=List.filter_eq_self.mpr fun d _=>okD_nil
theorem flat_filter {α β:Type} {p:α→Bool} {q:β→Bool} {f g:α→List β} {l:List α}:(∀ a∈l,(g a).filter q=cond (p a) (f a) [])→(l.filter p).flatMap f=(l.flatMap g).filter q:=by
  induction l with
  | nil=>exact fun _=>rfl
  | cons a l ih =>
    intro h
    rw [List.flatMap_cons,List.filter_append,← ih fun b hb=>h b (.tail _ hb),h a (.head _)]
    cases hp:p a with
    | true=>rw [List.filter_cons_of_pos hp]; rfl
    | false=>rw [List.filter_cons_of_neg (by rw [hp]; exact Bool.noConfusion)]; rfl
theorem stg_filter {ps:List Str} {gap days:Nat} {order:Str} (O:RowF order) (hg:gap≤1) {t:Nat}:t≤4→stg ps gap days order t=(stg [] gap days order t).filter (okR ps):=by
  induction t with
  | zero=>exact fun _=>rfl
  | succ t ih =>
    intro ht
    have ht:=Nat.le_of_succ_le ht
    show (stg ps gap days order t).flatMap (stepRow ps gap t (cAt order t) days)=((stg [] gap days order t).flatMap (stepRow [] gap t (cAt order t) days)).filter (okR ps)
    rw [ih ht]
    refine flat_filter fun R hR=>?_
    have hR:=(stg_ok (ps:=[]) (days:=days) O hg ht R hR).1.sorted
    unfold stepRow
    rw [daysP_nil,List.filter_map]
    cases ho:okR ps R with
    | true =>
      refine congrArg (List.map _) (List.filter_congr fun d _=>?_)
      show okR ps (insG gap (d,tauP gap t,cAt order t) R)=_
      rw [okR_ins hR,ho,Bool.true_and]
    | false =>
      rw [List.filter_eq_nil_iff.mpr fun d _ h=>?_]
      · rfl
      · have h:okR ps (insG gap (d,tauP gap t,cAt order t) R)=true:=h
        rw [okR_ins hR,ho] at h
        cases h
noncomputable def stgI (gap days t:Nat):List (List Tr):=Nat.rec (motive:=fun _=>List (List Tr)) [[]] (fun t r=>r.flatMap fun R=>(List.range days).map fun d=>insG gap (d,tauP gap t,t) R) t
@[reducible] noncomputable def chrs (f:Nat→Nat) (t:Tr):Tr:=(t.1,t.2.1,f t.2.2)
theorem insG_map {gap d i:Nat} {τ:Int} {f:Nat→Nat} {R:List Tr}:insG gap (d,τ,f i) (R.map (chrs f))=(insG gap (d,τ,i) R).map (chrs f):=by
  unfold insG
  rw [List.takeWhile_map,List.dropWhile_map,List.map_append,List.map_cons]
  rfl
theorem stg_index {gap days:Nat} {order:Str} {t:Nat}:stg [] gap days order t=(stgI gap days t).map fun R=>R.map (chrs (cAt order)):=by
  induction t with
  | zero=>rfl
  | succ t ih =>
    show (stg [] gap days order t).flatMap (stepRow [] gap t (cAt order t) days)=((stgI gap days t).flatMap fun R=>(List.range days).map fun d=>insG gap (d,tauP gap t,t) R).map _
    rw [ih,List.flatMap_map,List.map_flatMap]
    refine congrArg (fun f=>List.flatMap f (stgI gap days t)) (funext fun R=>?_)
    unfold stepRow
    rw [daysP_nil,List.map_map]
    exact List.map_congr_left fun d _=>insG_map
theorem stgI_idx {gap days t:Nat}:∀ R∈stgI gap days t,∀ x∈R,x.2.2 < t:=by
  induction t with
  | zero=>exact fun R hR x hx=>by cases List.mem_singleton.mp hR; cases hx
  | succ t ih =>
    intro R hR x hx
    refine exA (List.mem_flatMap.mp hR) fun R0 h1 h2=>?_
    obtain ⟨d,hd,rfl⟩:=List.mem_map.mp h2
    exact (insG_mem.mp hx).elim (fun h=>h ▸ Nat.lt_succ_self t) fun h=>Nat.lt_succ_of_lt (ih R0 h1 x h)
noncomputable def qOf (row order:Str):List Nat:=(List.range 4).map fun i=>ix order (cAt row i)
noncomputable def target (q:List Nat) (gap days:Nat):List Str:=((stgI gap days 4).filter fun R=>decide (R.map (·.2.2)=q)).map vlR
noncomputable def invH (x:Str):Bool:=((List.range 4).all fun i=>decide (ix x (cAt x i)=i)) && letters.all fun c=>decide (cAt x (ix x c)=c)
theorem invH_ok:rowsL.all invH=true:=by decide +kernel
theorem inv_of {x:Str} (h:x∈rowsL):(∀ i < 4,ix x (cAt x i)=i)∧∀ c∈letters,cAt x (ix x c)=c :=
  have k:=and_t (List.all_eq_true.mp invH_ok x h)
  ⟨fun i hi=>of_decide_eq_true (List.all_eq_true.mp k.1 i (List.mem_range.mpr hi)),fun c hc=>of_decide_eq_true (List.all_eq_true.mp k.2 c hc)⟩
theorem str_ext {x y:Str} (h:x.cps.toList=y.cps.toList):x=y:=by
  cases x; cases y
  exact congrArg Str.mk (Array.toList_inj.mp h)
theorem nmR_cps {R:List Tr}:(nmR R).cps.toList=R.map (·.2.2):=by
  unfold nmR
  rw [glued_empty]
  show ((R.map fun t=>one t.2.2).flatMap (·.cps.toList))=_
  rw [List.flatMap_map]
  exact List.map_eq_flatMap.symm
theorem qOf_map {row order:Str} (hr:row∈rowsL):qOf row order=row.cps.toList.map (ix order):=by rw [chars_ok _ hr,List.map_map]; rfl
theorem name_iff {row order:Str} (hr:row∈rowsL) (ho:order∈rowsL) {R:List Tr} (hR:∀ x∈R,x.2.2 < 4):nmR (R.map (chrs (cAt order)))=row↔R.map (·.2.2)=qOf row order:=by
  refine anE (inv_of ho) fun i1 i2=>?_
  have e1:(nmR (R.map (chrs (cAt order)))).cps.toList=(R.map (·.2.2)).map (cAt order):=by
    rw [nmR_cps,List.map_map,List.map_map]; rfl
  rw [qOf_map hr]
  constructor
  · intro h
    rw [← h,e1,List.map_map]
    refine ((List.map_congr_left fun i hi=>?_).trans (List.map_id _)).symm
    obtain ⟨x,hx,rfl⟩:=List.mem_map.mp hi
    exact i1 _ (hR x hx)
  · intro h
    apply str_ext
    rw [e1,h,List.map_map]
    refine (List.map_congr_left fun c hc=>?_).trans (List.map_id _)
    rw [chars_ok _ hr] at hc
    obtain ⟨i,hi,rfl⟩:=List.mem_map.mp hc
    exact i2 _ ((rowF_of hr).at_ i (List.mem_range.mp hi)).2
theorem tab_part {ps:List Str} {gap days:Nat} {row order:Str} (hr:row∈rowsL) (ho:order∈rowsL) (hg:gap≤1) (low:∀ x,nmF x=true→lowered (Nat.casesOn (motive:=fun _=>Str) gap x fun _=>uppered x)=x) :
    (((stg ps gap days order 4).map (entG gap)).filter fun p=>decide (lowered p.1=row)).map (·.2)=cond (okL ps row.cps.toList) (target (qOf row order) gap days) []:=by
  have O:=rowF_of ho
  have e1:(stg ps gap days order 4).filter ((fun p:Str × Str=>decide (lowered p.1=row)) ∘ entG gap)=(stg ps gap days order 4).filter fun R=>decide (nmR R=row):=List.filter_congr fun R hR=>congrArg (fun x=>decide (x=row)) (low _ (stg_G (ps:=ps) (days:=days) O hg R hR).name)
  rw [List.filter_map,List.map_map,e1,stg_filter O hg (Nat.le_refl _),List.filter_filter]
  have e2:∀ R∈stg [] gap days order 4,(decide (nmR R=row) && okR ps R)=(decide (nmR R=row) && okL ps row.cps.toList):=fun R _=>by
    cases h:decide (nmR R=row) with
    | true =>
      unfold okR
      rw [← nmR_cps,of_decide_eq_true h]
    | false=>rfl
  rw [List.filter_congr e2]
  cases okL ps row.cps.toList with
  | false =>
    have e4:(stg [] gap days order 4).filter (fun R=>decide (nmR R=row) && false)=[]:=List.filter_eq_nil_iff.mpr fun R _ h=>Bool.noConfusion ((and_t h).2:false=true)
    rw [e4]
    rfl
  | true =>
    rw [stg_index,List.filter_map,List.map_map]
    unfold target
    have e3:(stgI gap days 4).filter ((fun R=>decide (nmR R=row) && true) ∘ fun R=>R.map (chrs (cAt order)))=(stgI gap days 4).filter fun R=>decide (R.map (·.2.2)=qOf row order):=List.filter_congr fun R hR =>
      (Bool.and_true _).trans (decide_eq_decide.mpr (name_iff hr ho (stgI_idx R hR)))
    rw [e3]
    refine List.map_congr_left fun R _=>?_
    show vlR (R.map (chrs (cAt order)))=vlR R
    unfold vlR
    rw [List.map_map]
    rfl
theorem relP_app {p1 p2:List Str} {a b:Nat}:relP (p1++p2) a b=false↔relP p1 a b=false∧relP p2 a b=false:=by
  have e:relP (p1++p2) a b=(relP p1 a b || relP p2 a b):=List.contains_append ..
  rw [e,Bool.or_eq_false_iff]
theorem okL_app {p1 p2:List Str} {l:List Nat}:okL (p1++p2) l=(okL p1 l && okL p2 l):=by
  rw [Bool.eq_iff_iff,Bool.and_eq_true_iff,okL_iff,okL_iff,okL_iff,← List.pairwise_and_iff]
  exact ⟨fun h=>h.imp relP_app.mp,fun h=>h.imp relP_app.mpr⟩
theorem okL_flat {l:List Nat} {wl:List Str}:okL (wl.flatMap pairsOf) l=wl.all fun w=>okL (pairsOf w) l:=by
  induction wl with
  | nil=>exact okL_iff.mpr (List.pairwise_of_forall fun _ _=>rfl)
  | cons w wl ih=>rw [List.flatMap_cons,okL_app,ih,List.all_cons]
theorem find_spec {x y:Str} {k:Nat}:(findIn x y k x.length=-1∧∀ i,k≤i→¬ StrLaws.At x y x.length i)∨∃ p,findIn x y k x.length=Int.ofNat p∧k≤p∧StrLaws.At x y x.length p∧∀ i,k≤i→i < p→¬ StrLaws.At x y x.length i:=by
  have e:findIn x y k x.length=match Builtin.Str.occurrences x y k x.length 1 with | i::_=>Int.ofNat i | []=>-1:=by
    have f:∀ n:Nat,fromIndex x.length n=n:=fun n=>by
      unfold fromIndex
      rw [if_neg (Int.not_lt.mpr (Int.natCast_nonneg n)),Int.max_eq_right (Int.natCast_nonneg n)]
      rfl
    unfold findIn
    rw [f,f,Nat.min_self]
    rfl
  rw [e,StrLaws.occ_eq]
  have hin:∀ i,k≤i→StrLaws.At x y x.length i→i∈List.range' k (x.length+1 - k):=fun i hk h=>List.mem_range'_1.mpr ⟨hk,Nat.lt_of_lt_of_le (Nat.lt_succ_of_le (Nat.le_trans (Nat.le_add_right _ _) h.1)) (Nat.sub_le_iff_le_add'.mp (Nat.le_refl _))⟩
  have hp:=List.pairwise_lt_range' (s:=k) (n:=x.length+1 - k)
  rcases StrLaws.occ_first x y x.length 1 (Nat.le_refl 1) (List.range' k (x.length+1 - k)) k (fun i hi=>(List.mem_range'_1.mp hi).1) with ⟨h0,hn⟩ | ⟨pre,a,post,h,h0,ha,hn⟩
  · rw [h0]
    exact .inl ⟨rfl,fun i hk hi=>hn i (hin i hk hi) hi⟩
  · generalize (forIn (m:=Id) (List.range' k (x.length+1 - k)) ((#[]:Array Nat),k) (StrLaws.occBody x y x.length 1)).run.fst=arr at h0
    rw [← Array.getElem?_toList] at h0
    rw [h,List.pairwise_append,List.pairwise_cons] at hp
    refine .inr ⟨a,?_,(List.mem_range'_1.mp (h ▸ List.mem_append_right pre (.head post))).1,ha,fun i hk hi hA=>?_⟩
    · cases hL:arr.toList with
      | nil=>rw [hL] at h0; cases h0
      | cons b t=>rw [hL] at h0; cases h0; rfl
    · refine (List.mem_append.mp (h ▸ hin i hk hA)).elim (fun hm=>hn i hm hA) fun hm=>(List.mem_cons.mp hm).elim (fun q=>Nat.ne_of_lt hi q) fun hm=>Nat.lt_asymm hi (hp.2.1.1 i hm)
noncomputable def subq (cs l:List Nat):Bool:=List.rec (motive:=fun _=>List Nat→Bool) (fun cs=>cs.isEmpty) (fun a _ ih cs=>List.casesOn (motive:=fun _=>Bool) cs true fun c r=>ih (cond (Nat.beq a c) r (c::r))) l cs
theorem beq_no {a c:Nat} (h:a≠c):Nat.beq a c=false:=Bool.eq_false_iff.mpr fun q=>h (Nat.eq_of_beq_eq_true q)
theorem subq_nil {l:List Nat}:subq [] l=true:=by cases l <;> rfl
theorem subq_no {c:Nat} {r l:List Nat} (h:∀ a∈l,a≠c):subq (c::r) l=false:=by
  induction l with
  | nil=>rfl
  | cons a l ih =>
    show subq (cond (Nat.beq a c) r (c::r)) l=false
    rw [beq_no (h a (.head _))]
    exact ih fun a ha=>h a (.tail _ ha)
theorem subq_yes {c:Nat} {r pre post:List Nat} (h:∀ a∈pre,a≠c):subq (c::r) (pre++c::post)=subq r post:=by
  induction pre with
  | nil =>
    show subq (cond (Nat.beq c c) r (c::r)) post=_
    rw [Nat.beq_refl]
    rfl
  | cons a l ih =>
    show subq (cond (Nat.beq a c) r (c::r)) (l++c::post)=_
    rw [beq_no (h a (.head _))]
    exact ih fun a ha=>h a (.tail _ ha)
theorem find_one {got:Str} {c k:Nat}:(findIn got (one c) k got.length=-1∧∀ a∈got.cps.toList.drop k,a≠c)∨∃ p pre,findIn got (one c) k got.length=Int.ofNat p∧p+1≤got.length∧got.cps.toList.drop k=pre++c::got.cps.toList.drop (p+1)∧∀ a∈pre,a≠c:=by
  have at_:∀ {i},got.cps.toList[i]?=some c→StrLaws.At got (one c) got.length i:=(StrLaws.subAt_one got c _).mpr
  rcases find_spec (x:=got) (y:=one c) (k:=k) with ⟨h1,h2⟩ | ⟨p,h1,hk,h2,h3⟩
  · refine .inl ⟨h1,fun a ha e=>?_⟩
    obtain ⟨i,hi⟩:=List.mem_iff_getElem?.mp ha
    rw [List.getElem?_drop,e] at hi
    exact h2 _ (Nat.le_add_right k i) (at_ hi)
  · refine .inr ⟨p,(got.cps.toList.drop k).take (p - k),h1,h2.1,?_,fun a ha e=>?_⟩
    · obtain ⟨hp,hc⟩:=List.getElem?_eq_some_iff.mp ((StrLaws.subAt_one got c p).mp h2)
      rw [← hc,← List.drop_eq_getElem_cons hp]
      have k2:=(List.take_append_drop (p - k) (got.cps.toList.drop k)).symm
      rw [List.drop_drop,Nat.add_sub_of_le hk] at k2
      exact k2
    · obtain ⟨i,hi⟩:=List.mem_iff_getElem?.mp ha
      have hl:=Nat.lt_of_lt_of_le (List.getElem?_eq_some_iff.mp hi).1 (List.length_take_le ..)
      rw [List.getElem?_take_of_lt hl,List.getElem?_drop,e] at hi
      exact h3 _ (Nat.le_add_right k i) (Nat.add_lt_of_lt_sub' hl) (at_ hi)
theorem find_empty {got:Str} {k:Nat} (hk:k≤got.length):findIn got "" k got.length=Int.ofNat k:=by
  have hA:StrLaws.At got "" got.length k:=⟨hk,by rw [StrLaws.subAt_eq]; exact beq_self_eq_true _⟩
  rcases find_spec (x:=got) (y:="") (k:=k) with ⟨_,h2⟩ | ⟨p,h1,h2,_,h3⟩
  · exact absurd hA (h2 k (Nat.le_refl k))
  · rcases Nat.lt_or_eq_of_le h2 with h | rfl
    · exact absurd hA (h3 k (Nat.le_refl k) h)
    · exact h1
theorem em_cons {got w:Str} {l:List Str} {sp f:Int} (h1:small sp=true) (h2:w.length≤1000) (h3:findIn got w sp got.length=f):em got (w::l) sp=Bool.casesOn (motive:=fun _=>Option Bool) (decide (f < 0)) (em got l (f+w.length)) (some false):=by
  subst h3
  show Bool.casesOn (motive:=fun _=>Option Bool) (small sp && decide (w.length≤1000)) none _=_
  rw [h1,decide_eq_true h2]
  rfl
theorem em_chars {got:Str} (hg:got.length≤1000) {cs:List Nat}:∀ {k:Nat},k≤got.length→em got (cs.map one++[("":Str)]) k=some (subq cs (got.cps.toList.drop k)):=by
  have sm:∀ {k:Nat},k≤got.length→small (k:Int)=true:=fun h=>small_nat (Nat.le_trans h (Nat.le_trans hg (by decide)))
  induction cs with
  | nil =>
    intro k hk
    rw [subq_nil]
    exact em_cons (sm hk) (by decide) (find_empty hk)
  | cons c cs ih =>
    intro k hk
    rcases find_one (got:=got) (c:=c) (k:=k) with ⟨h1,h2⟩ | ⟨p,pre,h1,hp,h2,h3⟩
    · exact (em_cons (sm hk) (Nat.le_of_ble_eq_true rfl) h1).trans (congrArg some (subq_no h2).symm)
    · rw [h2,subq_yes h3,← ih hp]
      exact em_cons (sm hk) (Nat.le_of_ble_eq_true rfl) h1
noncomputable def dotF (w:Str):Bool:=strIn dots (dotted w) && (splitOk (dotted w) dots && (decide ((splitOf (dotted w) dots).length≤100) && (decide (2≤(splitOf (dotted w) dots).length) && (decide ((splitOf (dotted w) dots)[0]?=some ("":Str)) && (decide ((splitOf (dotted w) dots)[(splitOf (dotted w) dots).length - 1]?=some ("":Str)) && decide (splitOf (dotted w) dots=("":Str)::(w.cps.toList.map one++[("":Str)])))))))
theorem ematch_dotted {w got:Str} (h:dotF w=true) (hg:got.length≤1000):ematch (dotted w) got=some (subq w.cps.toList got.cps.toList):=by
  have h:=and_t h
  have h2:=and_t h.2
  have h3:=and_t h2.2
  have h4:=and_t h3.2
  have h5:=and_t h4.2
  have h6:=and_t h5.2
  unfold ematch
  rw [h.1,h2.1,h3.1,h4.1,h5.1,h6.1,decide_eq_true hg]
  show em got (splitOf (dotted w) dots) 0=_
  rw [of_decide_eq_true h6.2]
  exact (em_cons (sp:=0) rfl (by decide) (find_empty (Nat.zero_le _))).trans (em_chars hg (k:=0) (Nat.zero_le _))
noncomputable def qC (row order:List Nat):List Nat:=row.map fun c=>order.idxOf c
noncomputable def rowsC:List (List Nat):=rowsL.map fun x=>x.cps.toList
noncomputable def permsL:List (List Nat):=rowsC.map fun r=>qC r kmpa.cps.toList
noncomputable def invQ (q:List Nat):List Nat:=(List.range 4).map fun i=>q.idxOf i
noncomputable def bndQ (q:List Nat) (steep:Bool):List Nat:=(List.range 3).filter fun i=>decide (decide (q.getD (i+1) 0 < q.getD i 0)=steep)
noncomputable def keyQ (p:List Nat) (t:Str):List Str:=p.map fun j=>one (cAt t j)
noncomputable def sortS (ks:List (List Str)) (l:List Str):Option (List Str):=Bool.casesOn (motive:=fun _=>Option (List Str)) (decide (l.length < 2)) ((kev l.length (fun i j=>ltKeys (keyAt ks i) (keyAt ks j)) (kas_sort l.length)).bind fun p=>mapO (fun i=>l[i]?) p.toList) (some l)
theorem chk_ix:(rowsL.all fun x=>letters.all fun c=>decide (ix x c=x.cps.toList.idxOf c))=true:=by decide +kernel
theorem chk_perm:(rowsC.all fun row=>rowsC.all fun order=>permsL.contains (qC row order) && decide (qC order row=invQ (qC row order)))=true:=by decide +kernel
theorem chk_rev:(rowsL.all fun order=>rowsL.contains (revS order) && decide ((revS order).cps.toList=order.cps.toList.reverse))=true:=by decide +kernel
theorem chk_revq:(rowsC.all fun row=>rowsC.all fun order=>decide ((bndQ (qC row order.reverse) true).length=(bndQ (qC row order) false).length))=true:=by decide +kernel
theorem chk_dot:(rowsL.all fun row=>dotOk row && (dotOk (row++one (cAt row 3)) && (dotF row && (dotF (row++one (cAt row 3)) && decide ((row++one (cAt row 3)).cps.toList=row.cps.toList++[row.cps.toList.getD 3 0])))))=true:=by decide +kernel
theorem chk_words:(wordsL.all dotF)=true:=by decide +kernel
theorem chk_tk:(wordsL.all fun w=>rowsC.all fun row=>decide (subq w.cps.toList row=okL (pairsOf w) row))=true:=by decide +kernel
noncomputable def mulC (days:Nat) (way:List Nat):List Nat:=Nat.rec (motive:=fun _=>List Nat) [] (fun _ r=>way++r) days
theorem chk_mul:∀ days∈([2,3]:List Nat),(rowsL.all fun way=>decide ((Txt.mul way days).cps.toList=mulC days way.cps.toList) && decide ((Txt.mul way days).length≤1000))=true:=by decide +kernel
noncomputable def gapOf (steep:Bool):Nat:=cond steep 0 1
noncomputable def dueF (q:List Nat) (days:Nat) (steep:Bool):Bool :=
  decide (sortS ((dueL (bndQ q steep) (risP days 4)).map (keyQ (invQ q))) (dueL (bndQ q steep) (risP days 4))=some (target q (gapOf steep) days)) && ((target q (gapOf steep) days).all textF && (decide ((target q (gapOf steep) days).length≤20) && (decide ((target q (gapOf steep) days).isEmpty=decide (days≤(bndQ q steep).length)) && decide ((freeL (sdig (days - 1)) (target q (gapOf steep) days)).isEmpty=decide (days≤(bndQ q steep).length+1)))))
theorem chk_due:∀ days∈[2,3],∀ steep,(permsL.all fun q=>dueF q days steep)=true:=by decide +kernel
noncomputable def copC (row way got:List Nat) (days:Nat):Bool:=decide (subq row got=decide ((bndQ (qC row way) true).length < days)) && (decide (days≤(bndQ (qC row way) true).length) || decide (subq (row++[row.getD 3 0]) got=decide ((bndQ (qC row way) true).length+1 < days)))
theorem chk_cop:∀ days∈[2,3],(rowsC.all fun way=>rowsC.all fun row=>copC row way (mulC days way) days)=true:=by decide +kernel
theorem mapO_map {l:List Str} {p:List Nat}:mapO (fun i=>(l.map V.str)[i]?) p=(mapO (fun i=>l[i]?) p).map (·.map V.str):=by
  induction p with
  | nil=>rfl
  | cons i p ih =>
    show ((l.map V.str)[i]?).bind (fun b=>(mapO (fun i=>(l.map V.str)[i]?) p).map (b::·))=((l[i]?).bind fun b=>(mapO (fun i=>l[i]?) p).map (b::·)).map _
    rw [List.getElem?_map,ih]
    cases l[i]? with
    | none=>rfl
    | some x=>cases mapO (fun i=>l[i]?) p <;> rfl
theorem sortK_of {ks:List (List Str)} {l ys:List Str} (h:sortS ks l=some ys):sortK ks (l.map .str)=some (ys.map .str):=by
  unfold sortS at h
  unfold sortK
  rw [List.length_map]
  cases hl:decide (l.length < 2) with
  | true =>
    rw [hl] at h
    cases h
    rfl
  | false =>
    rw [hl] at h
    refine exA (Option.bind_eq_some_iff.mp h) fun p h1 h2=>?_
    exact Option.bind_eq_some_iff.mpr ⟨p,h1,mapO_map.trans (congrArg (Option.map (List.map V.str)) h2)⟩
theorem mem_rowsC {row:Str} (h:row∈rowsL):row.cps.toList∈rowsC:=List.mem_map.mpr ⟨row,h,rfl⟩
theorem qOf_C {row order:Str} (hr:row∈rowsL) (ho:order∈rowsL):qOf row order=qC row.cps.toList order.cps.toList:=by
  rw [qOf_map hr]
  refine List.map_congr_left fun c hc=>?_
  rw [chars_ok _ hr] at hc
  obtain ⟨i,hi,rfl⟩:=List.mem_map.mp hc
  exact of_decide_eq_true (List.all_eq_true.mp (List.all_eq_true.mp chk_ix _ ho) _ ((rowF_of hr).at_ i (List.mem_range.mp hi)).2)
theorem perm_of {row order:Str} (hr:row∈rowsL) (ho:order∈rowsL):qOf row order∈permsL∧qOf order row=invQ (qOf row order):=by
  have k:=and_t (List.all_eq_true.mp (List.all_eq_true.mp chk_perm _ (mem_rowsC hr)) _ (mem_rowsC ho))
  rw [qOf_C hr ho,qOf_C ho hr]
  exact ⟨List.contains_iff_mem.mp k.1,of_decide_eq_true k.2⟩
theorem bnd_of {row order:Str} {steep:Bool}:bndP row order steep=bndQ (qOf row order) steep:=rfl
theorem key_of {row order:Str}:keyP row order=keyQ (qOf order row):=rfl
structure DueF (q:List Nat) (days:Nat) (steep:Bool):Prop where
  srt:sortS ((dueL (bndQ q steep) (risP days 4)).map (keyQ (invQ q))) (dueL (bndQ q steep) (risP days 4))=some (target q (gapOf steep) days)
  txt:∀ t∈target q (gapOf steep) days,TextF t
  len:(target q (gapOf steep) days).length≤20
  emp:(target q (gapOf steep) days).isEmpty=decide (days≤(bndQ q steep).length)
  fre:(freeL (sdig (days - 1)) (target q (gapOf steep) days)).isEmpty=decide (days≤(bndQ q steep).length+1)
theorem dueF_of {q:List Nat} (hq:q∈permsL) {days:Nat} (hd:days∈[2,3]) (steep:Bool):DueF q days steep :=
  have k:=and_t (List.all_eq_true.mp (chk_due days hd steep) q hq)
  have k2:=and_t k.2
  have k3:=and_t k2.2
  have k4:=and_t k3.2
  ⟨of_decide_eq_true k.1,fun t ht=>have h:=and_t (List.all_eq_true.mp k2.1 t ht); ⟨of_decide_eq_true h.1,(and_t h.2).1,fun i hi=>have h:=and_t (List.all_eq_true.mp (and_t h.2).2 i (List.mem_range.mpr hi)); ⟨of_decide_eq_true h.1,of_decide_eq_true h.2⟩⟩,of_decide_eq_true k3.1,of_decide_eq_true k4.1,of_decide_eq_true k4.2⟩
theorem rev_of {order:Str} (ho:order∈rowsL):revS order∈rowsL∧(revS order).cps.toList=order.cps.toList.reverse :=
  have k:=and_t (List.all_eq_true.mp chk_rev order ho)
  ⟨List.contains_iff_mem.mp k.1,of_decide_eq_true k.2⟩
theorem cop_of {row way:Str} (hr:row∈rowsL) (hw:way∈rowsL) {days:Nat} (hd:days∈[2,3]):ematch (dotted row) (Txt.mul way days)=some (decide ((bndQ (qOf row way) true).length < days))∧∃ b2,ematch (dotted (row++one (cAt row 3))) (Txt.mul way days)=some b2∧(days≤(bndQ (qOf row way) true).length∨b2=decide ((bndQ (qOf row way) true).length+1 < days)):=by
  have d:=and_t (and_t (and_t (List.all_eq_true.mp chk_dot row hr)).2).2
  have d2:=and_t d.2
  have hm:=and_t (List.all_eq_true.mp (chk_mul days hd) way hw)
  have hc:=and_t (List.all_eq_true.mp (List.all_eq_true.mp (chk_cop days hd) _ (mem_rowsC hw)) _ (mem_rowsC hr))
  have hl:=of_decide_eq_true hm.2
  rw [ematch_dotted d.1 hl,ematch_dotted d2.1 hl,of_decide_eq_true hm.1,of_decide_eq_true d2.2,qOf_C hr hw]
  exact ⟨congrArg some (of_decide_eq_true hc.1),_,rfl,(Bool.or_eq_true_iff.mp hc.2).imp of_decide_eq_true of_decide_eq_true⟩
theorem facts_of {order:Str} (ho:order∈rowsL) {days:Nat} (hd:days∈[2,3]):Facts order days fun row steep=>target (qOf row order) (gapOf steep) days:=by
  have D:=fun (row:Str) (hr:row∈rowsL) (steep:Bool)=>dueF_of (perm_of hr ho).1 hd steep
  refine ⟨ho,hd,(rev_of ho).1,fun row hr steep=>?_,fun row hr steep=>(D row hr steep).txt,fun row hr steep=>(D row hr steep).len,fun row hr steep=>?_,fun row hr=>have d:=and_t (List.all_eq_true.mp chk_dot row hr); ⟨d.1,(and_t d.2).1⟩⟩
  · rw [bnd_of,key_of,(perm_of hr ho).2]
    exact sortK_of (D row hr steep).srt
  · have Dd:=D row hr steep
    have hb:(bndQ (qOf row (wayS order steep)) true).length=(bndQ (qOf row order) steep).length:=by
      induction steep with
      | true=>rfl
      | false =>
        show (bndQ (qOf row (revS order)) true).length=_
        rw [qOf_C hr (rev_of ho).1,qOf_C hr ho,(rev_of ho).2]
        exact of_decide_eq_true (List.all_eq_true.mp (List.all_eq_true.mp chk_revq _ (mem_rowsC hr)) _ (mem_rowsC ho))
    have hw:wayS order steep∈rowsL:=by
      induction steep with
      | true=>exact ho
      | false=>exact (rev_of ho).1
    obtain ⟨c1,b2,c2,c3⟩:=cop_of hr hw hd
    rw [hb] at c1 c3
    rw [Dd.emp,Dd.fre]
    exact ⟨c1.trans (congrArg some ((decide_eq_decide.mpr Nat.not_le.symm).trans decide_not)),b2,c2,c3.imp decide_eq_true fun h=>h.trans ((decide_eq_decide.mpr Nat.not_le.symm).trans decide_not)⟩
theorem Tk_of {w row:Str} (hw:w∈wordsL) (hr:row∈rowsL):ematch (dotted w) row=some (okL (pairsOf w) row.cps.toList):=by
  rw [ematch_dotted (List.all_eq_true.mp chk_words w hw) (by rw [(rowF_of hr).len]; decide),of_decide_eq_true (List.all_eq_true.mp (List.all_eq_true.mp chk_tk w hw) _ (mem_rowsC hr))]
theorem Tk_eq {w row:Str} (hw:w∈wordsL) (hr:row∈rowsL):Tk w row=okL (pairsOf w) row.cps.toList:=congrArg (fun o=>Option.getD o false) (Tk_of hw hr)
theorem ph:PH:=⟨fun w hw row hr=>(Tk_of hw hr).trans (congrArg some (Tk_eq hw hr).symm),fun order ho days hd=>⟨_,facts_of ho hd,fun wl hwl row hr=>by
  have hT:wl.all (fun w=>Tk w row)=okL (wl.flatMap pairsOf) row.cps.toList:=by
    rw [okL_flat,Bool.eq_iff_iff,List.all_eq_true,List.all_eq_true]
    exact forall_congr' fun w=>forall_congr' fun hw=>by rw [Tk_eq (hwl w hw) hr]
  rw [hT]
  unfold tabE
  rw [List.filter_append,List.map_append,tab_part hr ho (Nat.zero_le 1) fun x h=>(nmF_of h).low,tab_part hr ho (Nat.le_refl 1) fun x h=>(nmF_of h).lowU]
  cases okL (wl.flatMap pairsOf) row.cps.toList <;> rfl⟩⟩
theorem lawRuns:LawRuns:=lawRuns_of 300 (by decide) fun xs hx=>run_law ph hx 0 []
theorem the_law:PySem.Challenge.rw_uk0031_01.Holds:=law_holds lawRuns
end Mine
end
theorem PySem.Challenge.cw_uk0031_01_holds : PySem.Challenge.rw_uk0031_01.Holds := by
  exact Mine.the_law
