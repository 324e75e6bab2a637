import PyProof.Rows.All
import Wide.All
import OpenK.AllK
import Wide.FinOn
import Lean
import PySem.Challenge.RW_pm0072_01
open PySem PySem.Spec PySem.Calls PyProof.Rows PySem.W
set_option Elab.async false
set_option genSizeOf false
set_option genInjectivity false
set_option tactic.hygienic false
set_option compiler.extract_closed false
set_option maxRecDepth 100000
set_option maxHeartbeats 0
namespace Mine
local macro_rules | `(tactic| k_upd)=>`(tactic| kernel_rfl)
noncomputable def pw : Program:=PySem.Challenge.pw_pm0072_01
noncomputable def nth : Nat -> List Stmt -> Stmt
 | 0,s :: _=>s
 | n + 1,_ :: r=>nth n r
 | _,[]=>.Pass ⟨0,0,0,0⟩
noncomputable abbrev S (s : String) : Str:=Str.ofString s
noncomputable def Mg : List Nat:=[0,1,3,4,5,6,7,8,9,11,12,13,14,16,17,18,20,21,22,23,24,25,26,27,28,29]
noncomputable def view : Program:={ pw with main:={ pw.main with body:=Mg.filterMap fun i=>pw.main.body[i]? } }
noncomputable def loose : List Str:=[S "_name_disallowed_re",S "_value_disallowed_re"]
noncomputable def names : List (Str × Addr):=[(S "_div2n1n",45),(S "_div3n2n",52),(S "_int2digits",59),(S "_digits2int",66),(S "_divmod_pos",73),(S "int_divmod",80),(S "func_std_string",87),(S "add_func_stats",94),(S "add_callers",101),(S "count_calls",108),
 (S "Headers",241),(S "_law_numbers",250),(S "_law_at",257),(S "_law_lay",264),(S "_law_ring",271),(S "_law_taken",278),(S "_law_arrow",285),(S "_law_walked",290),(S "_law_text",297),(S "_law_counted",302),(S "_name_disallowed_re",113),(S "_value_disallowed_re",118)]
noncomputable def XPn (mg : Str -> Option Value) : Prop:=∀ p ∈ names,mg p.1 = some (.ref p.2)
noncomputable def XP (mg : Str -> Option Value) (h : Heap) : Prop:=XL view [] mg h /\ XPn mg /\ ∃ o,h.get? sysModules = some o
noncomputable def Xt (s : Shared) : Bool:=(xlAt view [] s && recOk [] s) && ((names.all fun p=>decide (s.heap.nsMap mainGlobals p.1 = some (.ref p.2))) && (s.heap.get? sysModules).isSome)
theorem xt_xp (s : Shared) (e : Xt s = true) : XP (s.heap.nsMap mainGlobals) s.heap:=by
 unfold Xt at e
 simp only [Bool.and_eq_true] at e
 exact ⟨xl_of s e.1.1,fun p hp=>of_decide_eq_true (List.all_eq_true.mp e.2.1 p hp),Option.isSome_iff_exists.mp e.2.2⟩
theorem xt_rec (s : Shared) (e : Xt s = true) : RecFacts [] s.heap:=by
 unfold Xt at e
 simp only [Bool.and_eq_true] at e
 exact recFacts_of e.1.2
theorem xp_keeps (mg : Str -> Option Value) (h h' : Heap) (x : XP mg h) (k : ∀ b o,h.get? b = some o -> h'.get? b = some o) : XP mg h':=⟨XL.keeps mg h h' x.1 k,x.2.1,let ⟨o,e⟩:=x.2.2; ⟨o,k _ _ e⟩⟩
noncomputable def Dm : Obj -> Value
 | ⟨_,_,.func fd,_⟩=>fd.code
 | _=>.none
noncomputable abbrev iv (l : List Int) : Array Value:=(l.map fun i=>Value.int i 0).toArray
noncomputable def Js : Obj:={ cls:=.type "code",data:=.fields #[.str (S "_int2digits") 324,.str (S "_int2digits") 325,.str (S "/claim/cut.py") 326,.int 33 0,.int 2 0,.int 0 0,.int 0 0,.int 3 0,.ref 53,.bool true,.int 276 0,.ref 54,.none,.ref 55,.ref 56,.ref 57,.int 332 0,.int 33 0,.str (S "/claim/cut.py") 333] }
noncomputable def Jt : Obj:={ cls:=.type "code",data:=.fields #[.str (S "_digits2int") 335,.str (S "_digits2int") 336,.str (S "/claim/cut.py") 337,.int 49 0,.int 2 0,.int 0 0,.int 0 0,.int 3 0,.ref 60,.bool true,.int 276 0,.ref 61,.none,.ref 62,.ref 63,.ref 64,.int 343 0,.int 49 0,.str (S "/claim/cut.py") 344] }
noncomputable def Gd : Obj:={ cls:=.type "re.Pattern",data:=.fields #[.str (S "[\\x00-\\x1F\\x7F]") 422,.int 32 445,.int 0 0,.none,.none,.ref 112,.int 0 0] }
noncomputable def Gf : Obj:={ cls:=.type "re.Pattern",data:=.fields #[.str (S "[\\x00-\\x08\\x0A-\\x1F\\x7F]") 448,.int 32 479,.int 0 0,.none,.none,.ref 117,.int 0 0] }
noncomputable def Gc : Obj:={ cls:=.type "tuple",data:=.seq (iv [14,10,4,1,1,22,0,31,16,127,0,13,7,22,0,31,16,127,0,1]) }
noncomputable def Ge : Obj:={ cls:=.type "tuple",data:=.seq (iv [14,14,4,1,1,9,4294966783,0,0,2147483648,0,0,0,0,0,13,11,9,4294966783,0,0,2147483648,0,0,0,0,0,1]) }
noncomputable def objs : List (Addr × Obj):=[(54,tabObj #[]),(61,tabObj #[]),(58,Js),(65,Jt),(113,Gd),(118,Gf),(112,Gc),(117,Ge)]
noncomputable def c0 (h : Heap) : Prop:=(∀ p ∈ objs,h.get? p.1 = some p.2) /\ ∀ p ∈ [(59,58),(66,65)],∃ o,h.get? p.1 = some o /\ Dm o = .ref p.2
noncomputable def hook : Hook where
 α:=List (Option Obj) × List (Option Value)
 obs:=fun s=>((objs.map (·.1)).map s.heap.get?,[59,66].map fun a=>(s.heap.get? a).map Dm)
 val:=fun J=>(objs.map fun p=>some p.2,[some (.ref 58),some (.ref 65)])
 says:=fun J h=>c0 h
 of:=fun w s x=>by
  obtain ⟨x1,x2⟩:=Prod.mk.inj x
  rw [List.map_map] at x1
  refine ⟨fun p hp=>List.map_inj_left.mp x1 p hp,fun p hp=>?_⟩
  simp only [List.map_cons,List.map_nil,List.cons.injEq,and_true] at x2
  rcases List.mem_cons.mp hp with rfl | hp
  ·obtain ⟨o,e1,e2⟩:=Option.map_eq_some_iff.mp x2.1
   exact ⟨o,e1,e2⟩
  ·rw [List.mem_singleton.mp hp]
   obtain ⟨o,e1,e2⟩:=Option.map_eq_some_iff.mp x2.2
   exact ⟨o,e1,e2⟩
 keeps:=fun w h h' x k=>⟨fun p hp=>k _ _ (x.1 p hp),fun p hp=>let ⟨o,e1,e2⟩:=x.2 p hp; ⟨o,k _ _ e1,e2⟩⟩
noncomputable def defRec (i : Nat) : DefRec:=match nth i pw.main.body with
 | .FunctionDef name args body _ _ _ scope _ _ pos=>⟨name,args,body,scope,pos⟩
 | _=>⟨Str.empty,⟨[],[],none,[],[],none,[]⟩,[],⟨.function,[],false,false,[]⟩,⟨0,0,0,0⟩⟩
noncomputable def idx : List Nat:=[1,4,5,6,7,8,9,11,12,13,14,20,21,22,23,24,25,26,27,28,29]
theorem Jw : recsOf view = idx.map defRec:=by k_upd
theorem said_ok : PySem.Challenge.rw_pm0072_01.wellSaid = true:=by
 unfold OpenLaw.wellSaid OpenRow.wellSaid OpenRow.partSaid looksOpen
 repeat' with_reducible refine look_both ?_ ?_
 all_goals decide +kernel
noncomputable def Jy (p : Program) (w : World) (m : Nat) (ann : Option Value) : Nat -> SharedT -> Thread -> Option SharedT
 | 0,_,_=>none
 | n + 1,s,t=>match through t with
  | true=>some s
  | false=>match stepOk m ann t with
   | false=>none
   | true=>match stepT (denote treeTable) p w s t with
    | some (s',t')=>Jy p w m ann n s' t'
    | none=>none
theorem Jz {p : Program} {w : World} {m : Nat} {ann : Option Value} {n : Nat} {s s' : SharedT} {t : Thread} (h : Jy p w m ann n s t = some s') : topRun treeTable p w m ann n s.abs t = some s'.abs:=by
 induction n generalizing s t with
 | zero=>cases h
 | succ n ih =>
  unfold Jy at h
  unfold topRun
  cases a : through t with
  | true=>rw [a] at h; cases h; rfl
  | false =>
   rw [a] at h
   cases b : stepOk m ann t with
   | false=>rw [b] at h; cases h
   | true =>
    rw [b] at h
    cases c : stepT (denote treeTable) p w s t with
    | none=>rw [c] at h; cases h
    | some x=>rw [c] at h; dsimp only; rw [stepT_spec c]; exact ih h
noncomputable def grow : List Obj -> BT -> Nat -> Option BT
 | [],t,_=>some t
 | o :: r,t,n=>match ((t.ins n o).get n).isSome with
  | true=>grow r (t.ins n o) (n + 1)
  | false=>none
theorem I7 {life : Life} {l : List Obj} {t t' : BT} {n : Nat} (h : grow l t n = some t') : absHeap t' (n + l.length) life = ⟨(absHeap t n life).objs ++ l.toArray,life⟩:=by
 induction l generalizing t n with
 | nil=>cases h; simp [absHeap]
 | cons o r ih =>
  unfold grow at h
  cases a : ((t.ins n o).get n).isSome with
  | false=>rw [a] at h; cases h
  | true =>
   rw [a] at h
   have:=ih h
   rw [absHeap_ins a] at this
   rw [List.length_cons,Nat.add_comm r.length 1,<- Nat.add_assoc,this]
   simp [Heap.push]
noncomputable def Eb (p : Program) (w : World) (N : Nat) (s : Shared) : Option Shared:=match s.heap.isNs mainGlobals && s.gens.size == 0 with
 | true=>(grow s.heap.objs.toList .nil 0).bind fun T=>(Jy p w s.heap.objs.size (s.heap.nsMap mainGlobals "__annotations__") N ⟨T,s.heap.objs.size,s.heap.life,s.gens,s.drawn,s.toks,s.os⟩ (topStub p)).bind fun s₁ =>
  match staticsOk (importedModules p.main.body) s.heap s₁.abs.heap && namesBound p s₁.abs.heap && gensDone s₁.abs && laidKept s.heap s₁.abs.heap with
  | true=>some s₁.abs
  | false=>none
 | false=>none
theorem Ec {p : Program} {w : World} {N : Nat} {s s' : Shared} (h : Eb p w N s = some s') : topFrom treeTable p w N s = some s':=by
 unfold Eb at h
 unfold topFrom
 cases a : s.heap.isNs mainGlobals && s.gens.size == 0 with
 | false=>rw [a] at h; cases h
 | true =>
  rw [a] at h
  obtain ⟨T,e,h⟩:=Option.bind_eq_some_iff.mp h
  obtain ⟨s1,e1,h⟩:=Option.bind_eq_some_iff.mp h
  have g:=I7 (life:=s.heap.life) e
  have g : absHeap T s.heap.objs.size s.heap.life = s.heap:=by
   rw [Nat.zero_add,Array.length_toList] at g
   rw [g]
   simp [absHeap,BT.list]
  have r:=Jz e1
  unfold SharedT.abs at r
  dsimp only at r
  rw [g] at r
  dsimp only
  rw [r]
  exact h
theorem Jh {p q : Program} {loose : List Str} {Xt : Shared -> Bool} {α : Type} {Yf : Shared -> α} {Ya : World -> α} {N : Nat} (h : ∀ w,((fencedOpening treeTable p w N).bind (Eb p w N)).map (fun s=>(openSeen q loose (importedModules p.main.body) Xt true s,Yf s)) = some (openGood q loose,Ya w)) : LeftO p q loose Xt Yf Ya N:=fun w=>by
 obtain ⟨s1,h1,e⟩:=Option.map_eq_some_iff.mp (h w)
 obtain ⟨s0,h0,h1⟩:=Option.bind_eq_some_iff.mp h1
 unfold openEnds
 rw [h0]
 show (topFrom treeTable p w N s0).map _ = _
 rw [Ec h1]
 exact congrArg some e
theorem left_ok : LeftO PySem.Challenge.rw_pm0072_01.prog view loose Xt (Hook.obs hook) (Hook.val hook) 3318:=Jh (by intro w; k_upd)
section
theorem al {P : Prop} (h : ∀ G : Prop,(P -> G) -> G) : P:=h P id
theorem wpG {α : Type} {M : Model} {A : Around} {t : Sem α} {Q' : α -> Shared -> Prop} {E : Value -> Shared -> Prop} {s : Shared} (h : ∀ Q : α -> Shared -> Prop,(∀ a s,Q' a s -> Q a s) -> wpAny M A t Q E s) : wpAny M A t Q' E s:=h _ fun J J x=>x
noncomputable abbrev D:=PyData
inductive V where
 | d (x : D)
 | loc (n : Nat)
 | raw (v : Value)
inductive O where
 | lst (xs : List D)
 | lsl (ls : List Nat)
 | dct (es : List (Str × D))
 | ins (l : Nat)
 | dead
noncomputable abbrev Lo:=List (Str × V)
noncomputable abbrev Hp:=List O
noncomputable abbrev Rh:=List (Option Addr)
noncomputable def Sub (z z' : Heap) : Prop:=∀ b o,z.get? b = some o -> z'.get? b = some o
theorem Sub.refl (z : Heap) : Sub z z:=fun J J e=>e
theorem Sub.trans {a b c : Heap} (x : Sub a b) (y : Sub b c) : Sub a c:=fun J J e=>y _ _ (x _ _ e)
noncomputable def dk (ρ : Rh) : List Addr:=ρ.filterMap id
theorem gg {ρ : Rh} {a : Addr} : a ∈ dk ρ ↔ ∃ i : Nat,ρ[i]? = some (some a):=by
 unfold dk
 rw [List.mem_filterMap]
 constructor
 ·rintro ⟨x,hx,e⟩
  obtain ⟨i,hi⟩:=List.mem_iff_getElem?.mp hx
  exact ⟨i,by rw [hi]; exact congrArg some e⟩
 ·rintro ⟨i,hi⟩
  exact ⟨some a,List.mem_of_getElem? hi,rfl⟩
noncomputable def zH (h : Heap) (ρ : Rh) (X : List Addr) : Heap:=hideAll h (dk ρ ++ X)
theorem ax {h : Heap} {ρ : Rh} {X : List Addr} {b : Addr} {o : Obj} : (zH h ρ X).get? b = some o ↔ h.get? b = some o /\ b ∉ dk ρ /\ b ∉ X:=by
 unfold zH
 constructor
 ·intro e
  refine ⟨of_hideAll _ e,fun hb=>?_,fun hb=>?_⟩
  ·rw [hideAll_none _ (List.mem_append.mpr (.inl hb))] at e; cases e
  ·rw [hideAll_none _ (List.mem_append.mpr (.inr hb))] at e; cases e
 ·rintro ⟨e,h1,h2⟩
  exact hideAll_get _ e fun hb=>(List.mem_append.mp hb).elim h1 h2
noncomputable abbrev PW:=Program × World
noncomputable def IsDct (P : PW) (z : Heap) (a : Addr) (es : List (Str × Value)) : Prop:=(a == sysModules) = false /\ z.DictOf (strKind P.1 P.2) a es
noncomputable def PTup (h : Heap) (a : Addr) (vs : Array Value) : Prop:=∃ n,IsT h a vs n
theorem PTup.isTuple {h : Heap} {a vs} (x : PTup h a vs) : h.IsTuple a vs:=let ⟨n,e⟩:=x; ⟨_,e,rfl,n,rfl⟩
mutual
inductive DR (P : PW) (z : Heap) : Value -> D -> Prop
 | none : DR P z .none .none
 | bool (b) : DR P z (.bool b) (.bool b)
 | int (i t) : DR P z (.int i t) (.int i)
 | str (x t) : DR P z (.str x t) (.str x)
 | list {a vs xs} : z.PlainList a vs -> DRs P z vs.toList xs -> DR P z (.ref a) (.list xs)
 | tuple {a vs xs} : PTup z a vs -> DRs P z vs.toList xs -> DR P z (.ref a) (.tuple xs)
 | dict {a es kvs} : IsDct P z a es -> DEs P z es kvs -> DR P z (.ref a) (.dict kvs)
inductive DRs (P : PW) (z : Heap) : List Value -> List D -> Prop
 | nil : DRs P z [] []
 | cons {v vs x xs} : DR P z v x -> DRs P z vs xs -> DRs P z (v :: vs) (x :: xs)
inductive DEs (P : PW) (z : Heap) : List (Str × Value) -> List (D × D) -> Prop
 | nil : DEs P z [] []
 | cons {k v x es kvs} : DR P z v x -> DEs P z es kvs -> DEs P z ((k,v) :: es) ((.str k,x) :: kvs)
end
theorem IsList.sub {z z' : Heap} (hs : Sub z z') {a vs} (x : z.PlainList a vs) : z'.PlainList a vs:=let ⟨n,e⟩:=x; ⟨n,hs _ _ e⟩
theorem IsTuple.sub {z z' : Heap} (hs : Sub z z') {a vs} (x : PTup z a vs) : PTup z' a vs:=let ⟨n,e⟩:=x; ⟨n,hs _ _ e⟩
theorem IsDct.sub {P : PW} {z z' : Heap} (hs : Sub z z') {a vs} (x : IsDct P z a vs) : IsDct P z' a vs:=let ⟨n,o,es,ep,e,r⟩:=x; ⟨n,o,es,ep,hs _ _ e,r⟩
theorem DR.all {P : PW} {z : Heap} {M : Value -> D -> Prop} {N : List Value -> List D -> Prop} {K : List (Str × Value) -> List (D × D) -> Prop} (h1 : M .none .none) (h2 : ∀ b,M (.bool b) (.bool b)) (h3 : ∀ i t,M (.int i t) (.int i)) (h4 : ∀ x t,M (.str x t) (.str x))
  (h5 : ∀ {a vs xs},z.PlainList a vs -> N vs.toList xs -> M (.ref a) (.list xs)) (h6 : ∀ {a vs xs},PTup z a vs -> N vs.toList xs -> M (.ref a) (.tuple xs)) (h7 : ∀ {a es kvs},IsDct P z a es -> DEs P z es kvs -> K es kvs -> M (.ref a) (.dict kvs))
  (h8 : N [] []) (h9 : ∀ {v vs x xs},M v x -> N vs xs -> N (v :: vs) (x :: xs)) (hA : K [] []) (hB : ∀ {k v x es kvs},M v x -> K es kvs -> K ((k,v) :: es) ((.str k,x) :: kvs)) : (∀ {v x},DR P z v x -> M v x) /\ (∀ {v x},DRs P z v x -> N v x) /\ ∀ {v x},DEs P z v x -> K v x :=
 ⟨DR.rec (motive_2:=fun v x J=>N v x) (motive_3:=fun v x J=>K v x) h1 h2 h3 h4 (fun a J b=>h5 a b) (fun a J b=>h6 a b) (fun a b c=>h7 a b c) h8 (fun J J a b=>h9 a b) hA fun J J a b=>hB a b,
  DRs.rec (motive_1:=fun v x J=>M v x) (motive_3:=fun v x J=>K v x) h1 h2 h3 h4 (fun a J b=>h5 a b) (fun a J b=>h6 a b) (fun a b c=>h7 a b c) h8 (fun J J a b=>h9 a b) hA fun J J a b=>hB a b,
  DEs.rec (motive_1:=fun v x J=>M v x) (motive_2:=fun v x J=>N v x) h1 h2 h3 h4 (fun a J b=>h5 a b) (fun a J b=>h6 a b) (fun a b c=>h7 a b c) h8 (fun J J a b=>h9 a b) hA fun J J a b=>hB a b⟩
theorem DR.sub_all {P : PW} {z z' : Heap} (hs : Sub z z') : (∀ {v x},DR P z v x -> DR P z' v x) /\ (∀ {v x},DRs P z v x -> DRs P z' v x) /\ ∀ {v x},DEs P z v x -> DEs P z' v x :=
 DR.all .none .bool .int .str (fun h r=>.list (IsList.sub hs h) r) (fun h r=>.tuple (IsTuple.sub hs h) r) (fun h J r=>.dict (IsDct.sub hs h) r) .nil .cons .nil .cons
theorem DR.sub {P : PW} {z z' : Heap} (hs : Sub z z') {v x} (q : DR P z v x) : DR P z' v x:=(DR.sub_all hs).1 q
theorem DRs.sub {P : PW} {z z' : Heap} (hs : Sub z z') {v x} (q : DRs P z v x) : DRs P z' v x:=(DR.sub_all hs).2.1 q
theorem DEs.sub {P : PW} {z z' : Heap} (hs : Sub z z') {v x} (q : DEs P z v x) : DEs P z' v x:=(DR.sub_all hs).2.2 q
theorem xm {P : PW} {z : Heap} {es : List DictEntry} {kvs : List (Str × Value)} (p : Pairs (strKind P.1 P.2) es kvs) : ∀ {xs : List (D × D)},DEs P z kvs xs -> (∃ as,ReadsAll z (es.map (·.key)) (xs.map (·.1)) as) /\ es.map (·.val) = kvs.map (·.2):=by
 induction p with
 | nil=>intro xs r; cases r; exact ⟨⟨_,.nil⟩,rfl⟩
 | @cons e kv es kvs h1 h2 _ ih =>
  intro xs r
  obtain ⟨k,v⟩:=kv
  cases r with
  | cons h r =>
   obtain ⟨⟨as,ih⟩,e2⟩:=ih r
   refine ⟨?_,by rw [List.map_cons,List.map_cons,e2,h2]⟩
   obtain ⟨t,hk⟩:=Value.isStrOf_shape (x:=k) (v:=e.key) h1
   rw [List.map_cons,List.map_cons,hk]
   exact ⟨_,.cons (.str _ _) ih⟩
theorem yl {P : PW} {z : Heap} {a : Addr} {es kvs} (h : IsDct P z a es) (r : DEs P z es kvs) (q : ∃ as,ReadsAll z (es.map (·.2)) (kvs.map (·.2)) as) : ∃ as,Reads z (.ref a) (.dict kvs) as:=by
 refine al fun Gq kq=>?_
 obtain ⟨_,_,_,_,h1,h2,h3,_,h4,_⟩:=h
 obtain ⟨_,q⟩:=q
 obtain ⟨⟨_,p⟩,e⟩:=xm h4 r
 refine kq ?_
 exact ⟨_,.dict h1 h2.1 h3 p (e ▸ q)⟩
theorem DR.reads_all {P : PW} {z : Heap} : (∀ {v x},DR P z v x -> ∃ as,Reads z v x as) /\ (∀ {v x},DRs P z v x -> ∃ as,ReadsAll z v x as) /\ ∀ {v x},DEs P z v x -> ∃ as,ReadsAll z (v.map (·.2)) (x.map (·.2)) as :=
 DR.all ⟨_,.none⟩ (fun b=>⟨_,.bool b⟩) (fun i t=>⟨_,.int i t⟩) (fun x t=>⟨_,.str x t⟩) (fun h r=>r.elim fun J q=>h.elim fun J h1=>⟨_,.list h1 rfl rfl q⟩) (fun h r=>r.elim fun J q=>h.elim fun J h1=>⟨_,.tuple h1 rfl rfl q⟩) (fun h r q=>yl h r q)
  ⟨_,.nil⟩ (fun h r=>h.elim fun J p=>r.elim fun J q=>⟨_,.cons p q⟩) ⟨_,.nil⟩ fun h r=>h.elim fun J p=>r.elim fun J q=>⟨_,.cons p q⟩
theorem DR.reads {P : PW} {z : Heap} {v x} (q : DR P z v x) : ∃ as,Reads z v x as:=DR.reads_all.1 q
theorem DRs.reads {P : PW} {z : Heap} {v x} (q : DRs P z v x) : ∃ as,ReadsAll z v x as:=DR.reads_all.2.1 q
theorem DRs.nil_inv {P : PW} {z : Heap} {vs : List Value} (q : DRs P z vs []) : vs = []:=by cases q; rfl
theorem DRs.cons_inv {P : PW} {z : Heap} {vs : List Value} {x : D} {xs : List D} (q : DRs P z vs (x :: xs)) : ∃ v vs',vs = v :: vs' /\ DR P z v x /\ DRs P z vs' xs:=by
 cases q with
 | cons h r=>exact ⟨_,_,rfl,h,r⟩
theorem DR.str_inv {P : PW} {z : Heap} {v : Value} {x : Str} (q : DR P z v (.str x)) : ∃ t,v = .str x t:=by cases q; exact ⟨_,rfl⟩
theorem DR.int_inv {P : PW} {z : Heap} {v : Value} {x : Int} (q : DR P z v (.int x)) : ∃ t,v = .int x t:=by cases q; exact ⟨_,rfl⟩
theorem DRs.ind {P : PW} {z : Heap} {M : List Value -> List D -> Prop} (h0 : M [] []) (h1 : ∀ {v vs x xs},DR P z v x -> DRs P z vs xs -> M vs xs -> M (v :: vs) (x :: xs)) {vs : List Value} {xs : List D} (q : DRs P z vs xs) : M vs xs:=by
 induction xs generalizing vs with
 | nil=>cases q.nil_inv; exact h0
 | cons x xs ih =>
  obtain ⟨v,vs',rfl,h,r⟩:=q.cons_inv
  exact h1 h r (ih r)
theorem DRs.length {P : PW} {z : Heap} {vs xs} (q : DRs P z vs xs) : vs.length = xs.length:=DRs.ind (M:=fun vs xs=>vs.length = xs.length) rfl (fun J J e=>congrArg Nat.succ e) q
theorem DRs.append {P : PW} {z : Heap} {vs xs ws ys} (q : DRs P z vs xs) (r : DRs P z ws ys) : DRs P z (vs ++ ws) (xs ++ ys):=DRs.ind (M:=fun vs xs=>DRs P z (vs ++ ws) (xs ++ ys)) r (fun h J e=>.cons h e) q
theorem DRs.get {P : PW} {z : Heap} {vs xs} (q : DRs P z vs xs) {i : Nat} {x : D} (e : xs[i]? = some x) : ∃ v,vs[i]? = some v /\ DR P z v x:=by
 refine DRs.ind (M:=fun vs xs=>∀ {i : Nat} {x : D},xs[i]? = some x -> ∃ v,vs[i]? = some v /\ DR P z v x) (fun e=>nomatch e) (fun h J ih i x e=>?_) q e
 cases i with
 | zero=>cases e; exact ⟨_,rfl,h⟩
 | succ i=>exact ih e
structure Cx where
 prog : Program
 w : World
 G : Heap -> Prop
 gmono : ∀ z z',Sub z z' -> G z -> G z'
 gsys : ∀ z,G z -> ∃ o,z.get? sysModules = some o
 gl : Str -> Option Value
 glOk : ∀ z,G z -> ∃ mg mb,z.Ns mainGlobals mg /\ z.Ns builtinsNs mb /\ ∀ x v,gl x = some v -> mg x = some v \/ (mg x = none /\ mb x = some v)
 tabs : List Addr
 tabOk : Nat -> Heap -> Prop
 tmono : ∀ g z z',Sub z z' -> tabOk g z -> tabOk g z'
 insOk : Heap -> Heap -> Addr -> Value -> Prop
 imono : ∀ h h' z z' a v,Sub z z' -> (∀ o,h.get? a = some o -> h'.get? a = some o) -> insOk h z a v -> insOk h' z' a v
variable (cx : Cx)
noncomputable abbrev Cx.P (cx : Cx) : PW:=(cx.prog,cx.w)
noncomputable def VOk (z : Heap) (ρ : Rh) (rv : Value) : V -> Prop
 | .d x=>DR cx.P z rv x
 | .loc n=>n < ρ.length /\ ∀ a,ρ[n]? = some (some a) -> rv = .ref a
 | .raw v=>rv = v
noncomputable def VsOk (z : Heap) (ρ : Rh) : List Value -> List V -> Prop
 | [],[]=>True
 | v :: vs,x :: xs=>VOk cx z ρ v x /\ VsOk z ρ vs xs
 | _,_=>False
noncomputable def zT (h : Heap) (ρ : Rh) (X : List Addr) : Heap:=zH h ρ (X.filter fun a=>!(cx.tabs.contains a))
noncomputable def ObOk (h : Heap) (ρ : Rh) (X : List Addr) (i : Nat) : O -> Prop
 | .lst xs=>∃ a vs,ρ[i]? = some (some a) /\ h.PlainList a vs /\ DRs cx.P (zH h ρ X) vs.toList xs
 | .lsl ls=>∃ a vs,ρ[i]? = some (some a) /\ h.PlainList a vs /\ VsOk cx (zH h ρ X) ρ vs.toList (ls.map V.loc)
 | .dct es=>∃ a ents,ρ[i]? = some (some a) /\ IsDct cx.P h a ents /\ DEs cx.P (zH h ρ X) ents (es.map fun e=>(.str e.1,e.2))
 | .ins l=>∃ a rv,ρ[i]? = some (some a) /\ cx.insOk h (zH h ρ X) a rv /\ VOk cx (zH h ρ X) ρ rv (.loc l)
 | .dead=>ρ[i]? = some none
structure Inv (ρ : Rh) (H : Hp) (X : List Addr) (h : Heap) : Prop where
 g : cx.G (zH h ρ X)
 tb : ∃ g,cx.tabOk g (zT cx h ρ X)
 len : ρ.length = H.length
 nd : ∀ (i j : Nat) (a : Addr),ρ[i]? = some (some a) -> ρ[j]? = some (some a) -> i = j
 ex : ∀ a ∈ dk ρ,∃ o,h.get? a = some o
 dx : ∀ a ∈ dk ρ,a ∉ X
 xe : ∀ a ∈ X,∃ o,h.get? a = some o
 xt : ∀ a ∈ cx.tabs,a ∈ X
 ob : ∀ i o,H[i]? = some o -> ObOk cx h ρ X i o
structure Ext (E : List Addr) (ρ : Rh) (h : Heap) (ρ' : Rh) (h' : Heap) : Prop where
 len : ρ.length <= ρ'.length
 idx : ∀ n a,n < ρ.length -> ρ'[n]? = some (some a) -> ρ[n]? = some (some a)
 pres : ∀ b o,h.get? b = some o -> b ∉ dk ρ -> b ∉ E -> h'.get? b = some o
 stay : ∀ b o,h.get? b = some o -> ∃ o',h'.get? b = some o'
 new : ∀ b ∈ dk ρ',b ∉ dk ρ -> h.get? b = none
variable {cx}
theorem Ext.refl (E : List Addr) (ρ : Rh) (h : Heap) : Ext E ρ h ρ h:=⟨Nat.le_refl _,fun J J J e=>e,fun J J e J J=>e,fun J o e=>⟨o,e⟩,fun J h1 h2=>absurd h1 h2⟩
theorem Ext.trans {E : List Addr} {ρ ρ' ρ'' : Rh} {h h' h'' : Heap} (x : Ext E ρ h ρ' h') (y : Ext E ρ' h' ρ'' h'') : Ext E ρ h ρ'' h'':=by
 refine ⟨Nat.le_trans x.len y.len,fun n a hn e=>x.idx n a hn (y.idx n a (Nat.lt_of_lt_of_le hn x.len) e),fun b o e h1 h2=>?_,fun b o e=>?_,fun b h1 h2=>?_⟩
 ·refine y.pres b o (x.pres b o e h1 h2) (fun hb=>?_) h2
  have:=x.new b hb h1
  rw [this] at e; cases e
 ·obtain ⟨o',e'⟩:=x.stay b o e
  exact y.stay b o' e'
 ·by_cases hb : b ∈ dk ρ'
  ·exact x.new b hb h2
  ·cases q : h.get? b with
   | none=>rfl
   | some o =>
    obtain ⟨o',e'⟩:=x.stay b o q
    rw [y.new b h1 hb] at e'; cases e'
theorem Ext.mono {E E' : List Addr} {ρ ρ' : Rh} {h h' : Heap} (x : Ext E ρ h ρ' h') (hs : ∀ a ∈ E,a ∈ E') : Ext E' ρ h ρ' h' :=
 ⟨x.len,x.idx,fun b o e h1 h2=>x.pres b o e h1 fun hb=>h2 (hs _ hb),x.stay,x.new⟩
theorem Ext.sub {E X : List Addr} {ρ ρ' : Rh} {h h' : Heap} (x : Ext E ρ h ρ' h') (hE : ∀ a ∈ E,a ∈ X) : Sub (zH h ρ X) (zH h' ρ' X):=by
 intro b o e
 obtain ⟨e,h1,h2⟩:=ax.mp e
 refine ax.mpr ⟨x.pres b o e h1 fun hb=>h2 (hE _ hb),fun hb=>?_,h2⟩
 rw [x.new b hb h1] at e; cases e
theorem VOk.move {z z' : Heap} {ρ ρ' : Rh} (hs : Sub z z') (hl : ρ.length <= ρ'.length) (hi : ∀ n a,n < ρ.length -> ρ'[n]? = some (some a) -> ρ[n]? = some (some a)) {rv : Value} : ∀ {v : V},VOk cx z ρ rv v -> VOk cx z' ρ' rv v
 | .d _,h=>DR.sub hs h
 | .loc n,⟨h1,h2⟩=>⟨Nat.lt_of_lt_of_le h1 hl,fun a e=>h2 a (hi n a h1 e)⟩
 | .raw _,h=>h
theorem VsOk.move {z z' : Heap} {ρ ρ' : Rh} (hs : Sub z z') (hl : ρ.length <= ρ'.length) (hi : ∀ n a,n < ρ.length -> ρ'[n]? = some (some a) -> ρ[n]? = some (some a)) : ∀ {rvs : List Value} {vs : List V},VsOk cx z ρ rvs vs -> VsOk cx z' ρ' rvs vs
 | [],[],_=>trivial
 | _ :: _,_ :: _,⟨h,r⟩=>⟨VOk.move hs hl hi h,VsOk.move hs hl hi r⟩
 | [],_ :: _,h=>h.elim
 | _ :: _,[],h=>h.elim
theorem Ext.v {E X : List Addr} {ρ ρ' : Rh} {h h' : Heap} (x : Ext E ρ h ρ' h') (hE : ∀ a ∈ E,a ∈ X) {rv : Value} {v : V} (q : VOk cx (zH h ρ X) ρ rv v) : VOk cx (zH h' ρ' X) ρ' rv v:=VOk.move (x.sub hE) x.len x.idx q
theorem Ext.vs {E X : List Addr} {ρ ρ' : Rh} {h h' : Heap} (x : Ext E ρ h ρ' h') (hE : ∀ a ∈ E,a ∈ X) {rv : List Value} {v : List V} (q : VsOk cx (zH h ρ X) ρ rv v) : VsOk cx (zH h' ρ' X) ρ' rv v:=VsOk.move (x.sub hE) x.len x.idx q
theorem ObOk.move {h h' : Heap} {ρ ρ' : Rh} {X : List Addr} {i : Nat} {o : O} (hz : Sub (zH h ρ X) (zH h' ρ' X)) (_ht : Sub (zT cx h ρ X) (zT cx h' ρ' X)) (hi : ρ'[i]? = ρ[i]?) (ho : ∀ a ob,ρ[i]? = some (some a) -> h.get? a = some ob -> h'.get? a = some ob)
  (hl : ρ.length <= ρ'.length) (hx : ∀ n a,n < ρ.length -> ρ'[n]? = some (some a) -> ρ[n]? = some (some a)) (q : ObOk cx h ρ X i o) : ObOk cx h' ρ' X i o:=by
 cases o with
 | lst xs=>obtain ⟨a,vs,e,⟨n,e1⟩,r⟩:=q; exact ⟨a,vs,hi.trans e,⟨n,ho a _ e e1⟩,r.sub hz⟩
 | lsl ls=>obtain ⟨a,vs,e,⟨n,e1⟩,r⟩:=q; exact ⟨a,vs,hi.trans e,⟨n,ho a _ e e1⟩,r.move hz hl hx⟩
 | dct es=>obtain ⟨a,vs,e,⟨m,ob,n,ep,e1,e2⟩,r⟩:=q; exact ⟨a,vs,hi.trans e,⟨m,ob,n,ep,ho a ob e e1,e2⟩,r.sub hz⟩
 | ins l=>obtain ⟨a,rv,e,x,r⟩:=q; exact ⟨a,rv,hi.trans e,cx.imono _ _ _ _ _ _ hz (fun ob e1=>ho a ob e e1) x,r.move hz hl hx⟩
 | dead=>exact hi.trans q
end
section
variable {cx : Cx}
theorem b9 {ρ : Rh} {i : Nat} {a : Addr} (h : ρ[i]? = some (some a)) : a ∈ dk ρ:=gg.mpr ⟨i,h⟩
theorem nj {ρ : Rh} {i : Nat} {b : Addr} (h : b ∉ dk ρ) : b ∉ dk (ρ.set i none):=by
 intro hb
 obtain ⟨j,e⟩:=gg.mp hb
 rw [List.getElem?_set] at e
 split at e
 ·split at e <;> cases e
 ·exact h (b9 e)
theorem tz {ρ : Rh} {n : Nat} {b : Addr} (h : b ∉ dk ρ) : b ∉ dk (ρ.take n):=by
 intro hb
 obtain ⟨j,e⟩:=gg.mp hb
 rw [List.getElem?_take] at e
 split at e
 ·exact h (b9 e)
 ·cases e
theorem gf {ρ : Rh} {a b : Addr} : b ∈ dk (ρ ++ [some a]) ↔ b ∈ dk ρ \/ b = a:=by
 unfold dk
 rw [List.filterMap_append]
 simp
theorem nu {h h' : Heap} {ρ ρ' : Rh} {X : List Addr} (hg : ∀ b o,h.get? b = some o -> b ∉ dk ρ -> b ∉ X -> h'.get? b = some o) (hl : ∀ b o,h.get? b = some o -> b ∉ dk ρ -> b ∉ dk ρ') : Sub (zH h ρ X) (zH h' ρ' X):=by
 intro b o e
 obtain ⟨e,h1,h2⟩:=ax.mp e
 exact ax.mpr ⟨hg b o e h1 h2,hl b o e h1,h2⟩
theorem jp {X t : List Addr} {b : Addr} : b ∈ X.filter (fun a=>!(t.contains a)) ↔ b ∈ X /\ b ∉ t:=by
 rw [List.mem_filter]; simp
theorem aq {α : Type} {l : List α} {i : Nat} {x : α} (h : l[i]? = some x) : i < l.length:=(List.getElem?_eq_some_iff.mp h).1
section push
variable {ρ : Rh} {H : Hp} {X E : List Addr} {h : Heap} {o : Obj}
theorem fm : Sub (zH h ρ X) (zH (h.push o) ρ X):=nu (fun J J e J J=>Heap.get?_push_of_some _ e) fun J J J q=>q
theorem Inv.push (I : Inv cx ρ H X h) (o : Obj) : Inv cx ρ H X (h.push o) :=
 ⟨cx.gmono _ _ fm I.g,I.tb.imp fun J=>cx.tmono _ _ _ fm,I.len,I.nd,fun a ha=>let ⟨o',e⟩:=I.ex a ha; ⟨o',Heap.get?_push_of_some _ e⟩,I.dx,fun a ha=>let ⟨o',e⟩:=I.xe a ha; ⟨o',Heap.get?_push_of_some _ e⟩,I.xt,
  fun i ob e=>(I.ob i ob e).move fm fm rfl (fun J J J e=>Heap.get?_push_of_some _ e) (Nat.le_refl _) fun J J J e=>e⟩
theorem Ext.push : Ext E ρ h ρ (h.push o):=⟨Nat.le_refl _,fun J J J e=>e,fun J J e J J=>Heap.get?_push_of_some _ e,fun J ob e=>⟨ob,Heap.get?_push_of_some _ e⟩,fun J h1 h2=>absurd h1 h2⟩
theorem tl (I : Inv cx ρ H X h) (hf : o.isFreed = false:=by rfl) : (zH (h.push o) ρ X).get? h.objs.size = some o:=by
 refine ax.mpr ⟨Heap.get?_push_size _ hf,fun hb=>?_,fun hb=>?_⟩
 ·obtain ⟨o',e⟩:=I.ex _ hb; exact absurd (Heap.lt_size e) (Nat.lt_irrefl _)
 ·obtain ⟨o',e⟩:=I.xe _ hb; exact absurd (Heap.lt_size e) (Nat.lt_irrefl _)
end push
section new
variable {ρ : Rh} {H : Hp} {X E : List Addr} {h : Heap} {o : Obj}
theorem m8 {ρ : Rh} {x : Option Addr} : ∀ n a,n < ρ.length -> (ρ ++ [x])[n]? = some (some a) -> ρ[n]? = some (some a):=fun n a hn e=>by rwa [List.getElem?_append_left hn] at e
theorem j9 : Sub (zH h ρ X) (zH (h.push o) (ρ ++ [some h.objs.size]) X):=nu (fun J J e J J=>Heap.get?_push_of_some _ e) fun b ob e q hb=>by
 rcases gf.mp hb with hb | hb
 ·exact q hb
 ·exact absurd (Heap.lt_size e) (hb ▸ Nat.lt_irrefl _)
theorem Ext.anew : Ext E ρ h (ρ ++ [some h.objs.size]) (h.push o) :=
 ⟨by simp,m8,fun J J e J J=>Heap.get?_push_of_some _ e,fun J ob e=>⟨ob,Heap.get?_push_of_some _ e⟩,fun b h1 h2=>by
  rcases gf.mp h1 with h1 | h1
  ·exact absurd h1 h2
  ·cases q : h.get? b with
   | none=>rfl
   | some o=>exact absurd (Heap.lt_size q) (h1 ▸ Nat.lt_irrefl _)⟩
theorem Inv.new (I : Inv cx ρ H X h) (ob : O) (hf : o.isFreed = false) (hob : ObOk cx (h.push o) (ρ ++ [some h.objs.size]) X ρ.length ob) : Inv cx (ρ ++ [some h.objs.size]) (H ++ [ob]) X (h.push o):=by
 refine ⟨cx.gmono _ _ j9 I.g,I.tb.imp fun J=>cx.tmono _ _ _ j9,by simp [I.len],fun i j a e1 e2=>?_,fun a ha=>?_,fun a ha hx=>?_,fun a ha=>let ⟨o',e⟩:=I.xe a ha; ⟨o',Heap.get?_push_of_some _ e⟩,I.xt,fun i o' e=>?_⟩
 ·have hs : ∀ k : Nat,ρ[k]? = some (some h.objs.size) -> False:=fun k e=>by
   obtain ⟨o',e'⟩:=I.ex _ (b9 e); exact absurd (Heap.lt_size e') (Nat.lt_irrefl _)
  rw [List.getElem?_append] at e1 e2
  split at e1 <;> split at e2
  ·exact I.nd i j a e1 e2
  ·have:=aq e2
   simp at this
   rename_i h1 h2
   have ha : a = h.objs.size:=by
    rw [show j - ρ.length = 0 by exact this] at e2; simpa using e2.symm
   exact (hs i (ha ▸ e1)).elim
  ·have:=aq e1
   simp at this
   have ha : a = h.objs.size:=by
    rw [show i - ρ.length = 0 by exact this] at e1; simpa using e1.symm
   exact (hs j (ha ▸ e2)).elim
  ·have:=aq e1
   have:=aq e2
   simp at *
   omega
 ·rcases gf.mp ha with ha | ha
  ·obtain ⟨o',e⟩:=I.ex a ha; exact ⟨o',Heap.get?_push_of_some _ e⟩
  ·exact ⟨o,ha ▸ Heap.get?_push_size _ hf⟩
 ·rcases gf.mp ha with ha | ha
  ·exact I.dx a ha hx
  ·obtain ⟨o',e⟩:=I.xe a hx; exact absurd (Heap.lt_size e) (ha ▸ Nat.lt_irrefl _)
 ·by_cases hi : i < H.length
  ·rw [List.getElem?_append_left hi] at e
   refine (I.ob i o' e).move j9 j9 (by rw [List.getElem?_append_left (by rw [I.len]; exact hi)]) (fun J J J e=>Heap.get?_push_of_some _ e) (by simp) m8
  ·have hl:=aq e
   simp at hl
   have hi' : i = H.length:=by omega
   subst hi'
   have : o' = ob:=by simpa using e.symm
   subst this
   rw [<- I.len]; exact hob
end new
section same
variable {ρ : Rh} {H : Hp} {X E : List Addr} {h h' : Heap} {a : Addr}
theorem gm (hs : Heap.SameBut a h h') (ha : a ∈ X) : Sub (zH h ρ X) (zH h' ρ X):=nu (fun b J e J h2=>(hs.2 b fun q=>h2 (q ▸ ha)).trans e) fun J J J q=>q
theorem Inv.same (I : Inv cx ρ H X h) (hs : Heap.SameBut a h h') (ha : a ∈ X) (ht : a ∉ cx.tabs) (he : ∃ o,h'.get? a = some o) : Inv cx ρ H X h':=by
 have ne : ∀ b ∈ dk ρ,b ≠ a:=fun b hb q=>I.dx b hb (q ▸ ha)
 refine ⟨cx.gmono _ _ (gm hs ha) I.g,I.tb.imp fun J=>cx.tmono _ _ _ (gm hs (jp.mpr ⟨ha,ht⟩)),I.len,I.nd,fun b hb=>?_,I.dx,fun b hb=>?_,I.xt,fun i ob e=>?_⟩
 ·obtain ⟨o',e⟩:=I.ex b hb; exact ⟨o',(hs.2 b (ne b hb)).trans e⟩
 ·by_cases q : b = a
  ·exact q ▸ he
  ·obtain ⟨o',e⟩:=I.xe b hb; exact ⟨o',(hs.2 b q).trans e⟩
 ·exact (I.ob i ob e).move (gm hs ha) (gm hs (jp.mpr ⟨ha,ht⟩)) rfl (fun b J e1 e2=>(hs.2 b (ne b (b9 e1))).trans e2) (Nat.le_refl _) fun J J J e=>e
theorem Ext.same (hs : Heap.SameBut a h h') (ha : a ∈ E) (he : ∃ o,h'.get? a = some o) : Ext E ρ h ρ h' :=
 ⟨Nat.le_refl _,fun J J J e=>e,fun b J e J h2=>(hs.2 b fun q=>h2 (q ▸ ha)).trans e,fun b o e=>by
  by_cases q : b = a
  ·exact q ▸ he
  ·exact ⟨o,(hs.2 b q).trans e⟩,fun J h1 h2=>absurd h1 h2⟩
end same
section upd
variable {ρ : Rh} {H : Hp} {X E : List Addr} {h h' : Heap} {a : Addr} {i : Nat}
theorem fq (hs : Heap.SameBut a h h') (ha : a ∈ dk ρ) : Sub (zH h ρ X) (zH h' ρ X):=nu (fun b J e h1 J=>(hs.2 b fun q=>h1 (q ▸ ha)).trans e) fun J J J q=>q
theorem Inv.upd (I : Inv cx ρ H X h) (hi : ρ[i]? = some (some a)) (hs : Heap.SameBut a h h') (he : ∃ o,h'.get? a = some o) (ob : O) (hob : ObOk cx h' ρ X i ob) : Inv cx ρ (H.set i ob) X h':=by
 have ha:=b9 hi
 refine ⟨cx.gmono _ _ (fq hs ha) I.g,I.tb.imp fun J=>cx.tmono _ _ _ (fq hs ha),by rw [List.length_set]; exact I.len,I.nd,fun b hb=>?_,I.dx,fun b hb=>?_,I.xt,fun j o' e=>?_⟩
 ·by_cases q : b = a
  ·exact q ▸ he
  ·obtain ⟨o',e⟩:=I.ex b hb; exact ⟨o',(hs.2 b q).trans e⟩
 ·obtain ⟨o',e⟩:=I.xe b hb
  exact ⟨o',(hs.2 b fun q=>I.dx a ha (q ▸ hb)).trans e⟩
 ·rw [List.getElem?_set] at e
  split at e
  ·rename_i q
   subst q
   split at e
   ·cases e; exact hob
   ·cases e
  ·rename_i q
   exact (I.ob j o' e).move (fq hs ha) (fq hs ha) rfl (fun b J e1 e2=>(hs.2 b fun z=>q (I.nd i j a hi (z ▸ e1))).trans e2) (Nat.le_refl _) fun J J J e=>e
theorem Ext.upd (hi : ρ[i]? = some (some a)) (hs : Heap.SameBut a h h') (he : ∃ o,h'.get? a = some o) : Ext E ρ h ρ h' :=
 ⟨Nat.le_refl _,fun J J J e=>e,fun b J e h1 J=>(hs.2 b fun q=>h1 (q ▸ b9 hi)).trans e,fun b o e=>by
  by_cases q : b = a
  ·exact q ▸ he
  ·exact ⟨o,(hs.2 b q).trans e⟩,fun J h1 h2=>absurd h1 h2⟩
end upd
section freeze
variable {ρ : Rh} {H : Hp} {X E : List Addr} {h : Heap} {i : Nat}
theorem d8 : Sub (zH h ρ X) (zH h (ρ.set i none) X):=nu (fun J J e J J=>e) fun J J J q=>nj q
theorem m9 {ρ : Rh} {i : Nat} : ∀ n a,n < ρ.length -> (ρ.set i none)[n]? = some (some a) -> ρ[n]? = some (some a):=fun n a J e=>by
 rw [List.getElem?_set] at e
 split at e
 ·split at e <;> cases e
 ·exact e
theorem rf {ρ : Rh} {i : Nat} {b : Addr} (h : b ∈ dk (ρ.set i none)) : b ∈ dk ρ:=by
 by_cases q : b ∈ dk ρ
 ·exact q
 ·exact absurd h (nj q)
theorem Inv.freeze (I : Inv cx ρ H X h) (i : Nat) : Inv cx (ρ.set i none) (H.set i .dead) X h:=by
 refine ⟨cx.gmono _ _ d8 I.g,I.tb.imp fun J=>cx.tmono _ _ _ d8,by rw [List.length_set,List.length_set]; exact I.len,fun j k a e1 e2=>I.nd j k a (m9 j a (by have:=aq e1; simpa using this) e1) (m9 k a (by have:=aq e2; simpa using this) e2),
  fun b hb=>I.ex b (rf hb),fun b hb=>I.dx b (rf hb),I.xe,I.xt,fun j o' e=>?_⟩
 rw [List.getElem?_set] at e
 split at e
 ·rename_i q
  subst q
  split at e
  ·rename_i hl
   cases e
   show (ρ.set i none)[i]? = some none
   rw [List.getElem?_set,if_pos rfl,if_pos (by rw [I.len]; exact hl)]
  ·cases e
 ·rename_i q
  exact (I.ob j o' e).move d8 d8 (by rw [List.getElem?_set,if_neg q]) (fun J J J e=>e) (by simp) m9
theorem Ext.freeze : Ext E ρ h (ρ.set i none) h:=⟨by simp,m9,fun J J e J J=>e,fun J o e=>⟨o,e⟩,fun J h1 h2=>absurd (rf h1) h2⟩
end freeze
section trunc
variable {ρ : Rh} {H : Hp} {X E : List Addr} {h : Heap} {n : Nat}
noncomputable def refs : O -> List Nat
 | .lsl ls=>ls
 | .ins l=>[l]
 | _=>[]
theorem jw : Sub (zH h ρ X) (zH h (ρ.take n) X):=nu (fun J J e J J=>e) fun J J J q=>tz q
theorem kx {ρ : Rh} {n : Nat} : ∀ (k : Nat) (a : Addr),(ρ.take n)[k]? = some (some a) -> ρ[k]? = some (some a):=fun k a e=>by
 rw [List.getElem?_take] at e
 split at e
 ·exact e
 ·cases e
theorem og {ρ : Rh} {n : Nat} {b : Addr} (h : b ∈ dk (ρ.take n)) : b ∈ dk ρ:=by
 obtain ⟨j,e⟩:=gg.mp h
 exact b9 (kx _ _ e)
theorem VOk.take {z z' : Heap} {rv : Value} {l : Nat} (hl : l < n) (q : VOk cx z ρ rv (.loc l)) : VOk cx z' (ρ.take n) rv (.loc l) :=
 ⟨by rw [List.length_take]; exact Nat.lt_min.mpr ⟨hl,q.1⟩,fun a e=>q.2 a (kx _ _ e)⟩
theorem VsOk.take {z z' : Heap} : ∀ {rvs : List Value} {ls : List Nat},(∀ l ∈ ls,l < n) -> VsOk cx z ρ rvs (ls.map V.loc) -> VsOk cx z' (ρ.take n) rvs (ls.map V.loc)
 | [],[],_,_=>trivial
 | _ :: _,_ :: _,hl,⟨h,r⟩=>⟨VOk.take (hl _ (.head _)) h,VsOk.take (fun l m=>hl l (.tail _ m)) r⟩
 | [],_ :: _,_,h=>h.elim
 | _ :: _,[],_,h=>h.elim
theorem Inv.take (I : Inv cx ρ H X h) (hr : ∀ i o,i < n -> H[i]? = some o -> ∀ l ∈ refs o,l < n) : Inv cx (ρ.take n) (H.take n) X h:=by
 refine ⟨cx.gmono _ _ jw I.g,I.tb.imp fun J=>cx.tmono _ _ _ jw,by rw [List.length_take,List.length_take,I.len],fun j k a e1 e2=>I.nd j k a (kx _ _ e1) (kx _ _ e2),fun b hb=>I.ex b (og hb),fun b hb=>I.dx b (og hb),I.xe,I.xt,fun i o e=>?_⟩
 rw [List.getElem?_take] at e
 split at e
 ·rename_i hi
  have hk : (ρ.take n)[i]? = ρ[i]?:=by rw [List.getElem?_take,if_pos hi]
  have q:=I.ob i o e
  have hr':=hr i o hi e
  cases o with
  | lst xs=>obtain ⟨a,vs,e,l,r⟩:=q; exact ⟨a,vs,hk.trans e,l,r.sub jw⟩
  | lsl ls=>obtain ⟨a,vs,e,l,r⟩:=q; exact ⟨a,vs,hk.trans e,l,VsOk.take hr' r⟩
  | dct es=>obtain ⟨a,vs,e,l,r⟩:=q; exact ⟨a,vs,hk.trans e,l,r.sub jw⟩
  | ins l=>obtain ⟨a,rv,e,x,r⟩:=q; exact ⟨a,rv,hk.trans e,cx.imono _ _ _ _ _ _ jw (fun J e=>e) x,VOk.take (hr' l (.head _)) r⟩
  | dead=>exact hk.trans q
 ·cases e
theorem Ext.take {ρ₀ : Rh} {h₀ : Heap} (x : Ext E ρ₀ h₀ ρ h) (hn : ρ₀.length <= n) : Ext E ρ₀ h₀ (ρ.take n) h :=
 ⟨by rw [List.length_take]; exact Nat.le_min.mpr ⟨hn,x.len⟩,fun k a hk e=>x.idx k a hk (kx _ _ e),x.pres,x.stay,fun b h1 h2=>x.new b (og h1) h2⟩
end trunc
end
section
variable (cx : Cx)
structure FrOk (env : Env) (lo : Lo) (ρ : Rh) (X : List Addr) (h : Heap) : Prop where
 kind : env.scope.kind = .function
 gl : env.globals = mainGlobals
 bu : env.builtins = builtinsNs
 lx : env.locals ∈ X
 lt : env.locals ∉ cx.tabs
 ce : ∀ x c,env.cells.lookup x = some c -> c ∈ X /\ c ∉ cx.tabs /\ c ≠ env.locals /\ ∃ v,h.IsCell c v
 ci : ∀ x y c,env.cells.lookup x = some c -> env.cells.lookup y = some c -> x = y
 cs : ∀ x,env.kindOf x = some .cell -> (env.cells.lookup x).isSome = true
 ns : ∃ m,h.Ns env.locals m /\ ∀ x v,lo.lookup x = some v -> env.kindOf x = some .local -> ∃ rv,m x = some rv /\ VOk cx (zH h ρ X) ρ rv v
 cl : ∀ x v,lo.lookup x = some v -> (env.kindOf x = some .cell \/ env.kindOf x = some .free) -> ∃ c rv,env.cells.lookup x = some c /\ h.IsCell c (some rv) /\ VOk cx (zH h ρ X) ρ rv v
noncomputable def own (env : Env) : List Addr:=env.locals :: env.cells.filterMap (fun p=>env.cells.lookup p.1)
noncomputable def Fin (s s' : Shared) : Prop:=∃ h tk,s' = { s with heap:=h,toks:=tk }
theorem Fin.refl (s : Shared) : Fin s s:=⟨s.heap,s.toks,rfl⟩
theorem Fin.trans {a b c : Shared} (x : Fin a b) (y : Fin b c) : Fin a c:=by
 obtain ⟨h,t,rfl⟩:=x; obtain ⟨h',t',rfl⟩:=y; exact ⟨h',t',rfl⟩
noncomputable def Rm (b : Bool) (n : Nat) (A : Around) : Prop:=(b = true -> A.handled = none) /\ A.depth + n <= 600 /\ A.units + 40 * n <= 5000
structure Aft (E : List Addr) (X : List Addr) (ρ : Rh) (s : Shared) (H' : Hp) (ρ' : Rh) (s' : Shared) : Prop where
 fin : Fin s s'
 inv : Inv cx ρ' H' X s'.heap
 ext : Ext E ρ s.heap ρ' s'.heap
noncomputable abbrev ig (X : List Addr) (ρ : Rh) (s : Shared) (v : V) (H' : Hp) : Value -> Shared -> Prop:=fun rv s'=>∃ ρ',Aft cx cx.tabs X ρ s H' ρ' s' /\ VOk cx (zH s'.heap ρ' X) ρ' rv v
noncomputable abbrev ye (X : List Addr) (ρ : Rh) (s : Shared) (vs : List V) (H' : Hp) : List Value -> Shared -> Prop:=fun rvs s'=>∃ ρ',Aft cx cx.tabs X ρ s H' ρ' s' /\ VsOk cx (zH s'.heap ρ' X) ρ' rvs vs
noncomputable abbrev zf (X : List Addr) (ρ : Rh) (s : Shared) (b : Bool) (H' : Hp) : Bool -> Shared -> Prop:=fun c s'=>c = b /\ ∃ ρ',Aft cx cx.tabs X ρ s H' ρ' s'
noncomputable abbrev M (cx : Cx) : Model:=model cx.prog cx.w
noncomputable def No : Value -> Shared -> Prop:=fun J J=>False
theorem nn {E : Value -> Shared -> Prop} : ∀ e s,No e s -> E e s:=fun J J x=>x.elim
noncomputable def bin (op : Operator) : List Value -> Sem Value
 | [p,q]=>binaryOp op p q
 | _=>unsupported ""
noncomputable def inp (op : Operator) : List Value -> Sem Value
 | [p,q]=>inplaceOp op p q
 | _=>unsupported ""
noncomputable def un (op : UnaryOp) : List Value -> Sem Value
 | [p]=>unaryOp op p
 | _=>unsupported ""
noncomputable def cmp (op : CmpOp) : List Value -> Sem Value
 | [p,q]=>compareOp op p q
 | _=>unsupported ""
noncomputable def tru : List Value -> Sem Bool
 | [p]=>truthy p
 | _=>unsupported ""
noncomputable def gi : List Value -> Sem Value
 | [o,i]=>getItem o i
 | _=>unsupported ""
noncomputable def si : List Value -> Sem Unit
 | [v,o,i]=>setItem o i v
 | _=>unsupported ""
structure Op {α : Type} (b : Bool) (n : Nat) (t : List Value -> Sem α) (vs : List V) (H : Hp) (Q : List Addr -> Rh -> Shared -> α -> Shared -> Prop) : Prop where
 go : ∀ A X ρ s rvs,Rm b n A -> Inv cx ρ H X s.heap -> VsOk cx (zH s.heap ρ X) ρ rvs vs -> wpAny (M cx) A (t rvs) (Q X ρ s) No s
noncomputable abbrev OpV (b : Bool) (n : Nat) (t : List Value -> Sem Value) (vs : List V) (H : Hp) (v : V) (H' : Hp) : Prop:=Op cx b n t vs H fun X ρ s=>ig cx X ρ s v H'
noncomputable abbrev OpB (b : Bool) (n : Nat) (t : List Value -> Sem Bool) (vs : List V) (H : Hp) (v : Bool) (H' : Hp) : Prop:=Op cx b n t vs H fun X ρ s=>zf cx X ρ s v H'
structure Ev (b : Bool) (n : Nat) (sc : Scope) (e : Expr) (lo : Lo) (H : Hp) (v : V) (H' : Hp) : Prop where
 go : ∀ A env X ρ s,env.scope = sc -> Rm b n A -> Inv cx ρ H X s.heap -> FrOk cx env lo ρ X s.heap -> wpAny (M cx) A (eval e env) (ig cx X ρ s v H') No s
structure Evs (b : Bool) (n : Nat) (sc : Scope) (es : List Expr) (lo : Lo) (H : Hp) (vs : List V) (H' : Hp) : Prop where
 go : ∀ A env X ρ s pos,env.scope = sc -> Rm b n A -> Inv cx ρ H X s.heap -> FrOk cx env lo ρ X s.heap -> wpAny (M cx) A (spliced (backTo pos (starEach es env))) (ye cx X ρ s vs H') No s
structure Tst (b : Bool) (n : Nat) (sc : Scope) (e : Expr) (lo : Lo) (H : Hp) (c : Bool) (H' : Hp) : Prop where
 go : ∀ A env X ρ s,env.scope = sc -> Rm b n A -> Inv cx ρ H X s.heap -> FrOk cx env lo ρ X s.heap -> wpAny (M cx) A (isTrue e env (eval e env)) (zf cx X ρ s c H') No s
variable {cx}
theorem ie {α : Type} {A : Around} {t : Sem α} {Q : α -> Shared -> Prop} {E : Value -> Shared -> Prop} {s : Shared} (h : wpAny (M cx) A t Q No s) : wpAny (M cx) A t Q E s:=wpAny_mono h (fun J J x=>x) nn
theorem FrOk.chg {env : Env} {lo lo' : Lo} {ρ ρ' : Rh} {X X' : List Addr} {h h' : Heap} (F : FrOk cx env lo ρ X h) (lx : env.locals ∈ X') (cX : ∀ y c,env.cells.lookup y = some c -> c ∈ X') (pk : ∀ y c o,env.cells.lookup y = some c -> h.get? c = some o -> h'.get? c = some o)
  (hv : ∀ rv v,VOk cx (zH h ρ X) ρ rv v -> VOk cx (zH h' ρ' X') ρ' rv v) (hl : ∀ x v,lo'.lookup x = some v -> (env.kindOf x = some .cell \/ env.kindOf x = some .free) -> lo.lookup x = some v)
  (ns : ∃ m,h'.Ns env.locals m /\ ∀ x v,lo'.lookup x = some v -> env.kindOf x = some .local -> ∃ rv,m x = some rv /\ VOk cx (zH h' ρ' X') ρ' rv v) : FrOk cx env lo' ρ' X' h' :=
 ⟨F.kind,F.gl,F.bu,lx,F.lt,fun y c e=>⟨cX y c e,(F.ce y c e).2.1,(F.ce y c e).2.2.1,(F.ce y c e).2.2.2.imp fun J q=>q.imp fun o q=>⟨pk y c o e q.1,q.2⟩⟩,F.ci,F.cs,ns,
  fun y v e k=>(F.cl y v (hl y v e k) k).imp fun c q=>q.imp fun rv q=>⟨q.1,q.2.1.imp fun o p=>⟨pk y c o q.1 p.1,p.2⟩,hv _ _ q.2.2⟩⟩
theorem FrOk.chgL {env : Env} {lo : Lo} {ρ ρ' : Rh} {X X' : List Addr} {h h' : Heap} (F : FrOk cx env lo ρ X h) (lx : env.locals ∈ X') (cX : ∀ y c,env.cells.lookup y = some c -> c ∈ X') (pk : ∀ c o,c = env.locals \/ (∃ y,env.cells.lookup y = some c) -> h.get? c = some o -> h'.get? c = some o)
  (hv : ∀ rv v,VOk cx (zH h ρ X) ρ rv v -> VOk cx (zH h' ρ' X') ρ' rv v) : FrOk cx env lo ρ' X' h' :=
 F.chg lx cX (fun y c o e=>pk c o (.inr ⟨y,e⟩)) hv (fun J J e J=>e) (F.ns.imp fun J q=>⟨Heap.Ns.at' q.1 fun o=>pk _ o (.inl rfl),fun x v e k=>(q.2 x v e k).imp fun J q=>⟨q.1,hv _ _ q.2⟩⟩)
theorem Ext.fr {ρ ρ' : Rh} {H : Hp} {X : List Addr} {h h' : Heap} {env : Env} {lo : Lo} (x : Ext cx.tabs ρ h ρ' h') (I : Inv cx ρ H X h) (F : FrOk cx env lo ρ X h) : FrOk cx env lo ρ' X h':=by
 have pk : ∀ b o,b ∈ X -> b ∉ cx.tabs -> h.get? b = some o -> h'.get? b = some o:=fun b o hb ht e=>x.pres b o e (fun q=>I.dx b q hb) ht
 exact F.chgL F.lx (fun y c e=>(F.ce y c e).1) (fun c o q e=>q.elim (fun q=>pk c o (q ▸ F.lx) (q ▸ F.lt) e) fun ⟨y,q⟩=>pk c o (F.ce y c q).1 (F.ce y c q).2.1 e) fun J J=>x.v I.xt
theorem Aft.refl {E X : List Addr} {ρ : Rh} {H : Hp} {s : Shared} (I : Inv cx ρ H X s.heap) : Aft cx E X ρ s H ρ s:=⟨.refl s,I,.refl _ _ _⟩
theorem Aft.tok {E X : List Addr} {ρ : Rh} {H : Hp} {s : Shared} (I : Inv cx ρ H X s.heap) (t : Nat) : Aft cx E X ρ s H ρ { s with toks:=t }:=⟨⟨_,_,rfl⟩,I,.refl _ _ _⟩
theorem Aft.trans {E X : List Addr} {ρ ρ' ρ'' : Rh} {H' H'' : Hp} {s s' s'' : Shared} (x : Aft cx E X ρ s H' ρ' s') (y : Aft cx E X ρ' s' H'' ρ'' s'') : Aft cx E X ρ s H'' ρ'' s'':=⟨x.fin.trans y.fin,y.inv,x.ext.trans y.ext⟩
theorem Aft.v {X : List Addr} {ρ ρ' : Rh} {H' : Hp} {s s' : Shared} (x : Aft cx cx.tabs X ρ s H' ρ' s') {rv : Value} {v : V} (q : VOk cx (zH s.heap ρ X) ρ rv v) : VOk cx (zH s'.heap ρ' X) ρ' rv v:=x.ext.v x.inv.xt q
theorem Aft.vs {X : List Addr} {ρ ρ' : Rh} {H' : Hp} {s s' : Shared} (x : Aft cx cx.tabs X ρ s H' ρ' s') {rv : List Value} {v : List V} (q : VsOk cx (zH s.heap ρ X) ρ rv v) : VsOk cx (zH s'.heap ρ' X) ρ' rv v:=x.ext.vs x.inv.xt q
theorem Aft.fr {X : List Addr} {ρ ρ' : Rh} {H H' : Hp} {s s' : Shared} {env : Env} {lo : Lo} (x : Aft cx cx.tabs X ρ s H' ρ' s') (I : Inv cx ρ H X s.heap) (F : FrOk cx env lo ρ X s.heap) : FrOk cx env lo ρ' X s'.heap:=x.ext.fr I F
section
variable {b : Bool} {n : Nat} {sc : Scope} {lo : Lo} {H H1 H2 H3 : Hp}
section
variable {A : Around} {env : Env} {X : List Addr} {ρ : Rh} {s : Shared} {E : Value -> Shared -> Prop}
theorem Ev.run {e : Expr} {v : V} {Q : Value -> Shared -> Prop} (h : Ev cx b n sc e lo H v H1) (hs : env.scope = sc) (hr : Rm b n A) (I : Inv cx ρ H X s.heap) (F : FrOk cx env lo ρ X s.heap) (k : ∀ ρ' rv s',Aft cx cx.tabs X ρ s H1 ρ' s' -> VOk cx (zH s'.heap ρ' X) ρ' rv v -> Q rv s') : wpAny (M cx) A (eval e env) Q E s :=
 wpAny_mono (h.go A env X ρ s hs hr I F) (fun J J q=>q.elim fun J q=>k _ _ _ q.1 q.2) nn
theorem Evs.run {es : List Expr} {vs : List V} {pos : Pos} {Q : List Value -> Shared -> Prop} (h : Evs cx b n sc es lo H vs H1) (hs : env.scope = sc) (hr : Rm b n A) (I : Inv cx ρ H X s.heap) (F : FrOk cx env lo ρ X s.heap) (k : ∀ ρ' rv s',Aft cx cx.tabs X ρ s H1 ρ' s' -> VsOk cx (zH s'.heap ρ' X) ρ' rv vs -> Q rv s') : wpAny (M cx) A (spliced (backTo pos (starEach es env))) Q E s :=
 wpAny_mono (h.go A env X ρ s pos hs hr I F) (fun J J q=>q.elim fun J q=>k _ _ _ q.1 q.2) nn
theorem Op.run {t : List Value -> Sem Value} {vs : List V} {v : V} {Q : Value -> Shared -> Prop} (h : Op cx b n t vs H fun X ρ s=>ig cx X ρ s v H1) (rvs : List Value) (hr : Rm b n A) (I : Inv cx ρ H X s.heap) (q : VsOk cx (zH s.heap ρ X) ρ rvs vs) (k : ∀ ρ' rv s',Aft cx cx.tabs X ρ s H1 ρ' s' -> VOk cx (zH s'.heap ρ' X) ρ' rv v -> Q rv s') : wpAny (M cx) A (t rvs) Q E s :=
 wpAny_mono (h.go A X ρ s rvs hr I q) (fun J J q=>q.elim fun J q=>k _ _ _ q.1 q.2) nn
theorem Op.runB {t : List Value -> Sem Bool} {vs : List V} {c : Bool} {Q : Bool -> Shared -> Prop} (h : Op cx b n t vs H fun X ρ s=>zf cx X ρ s c H1) (rvs : List Value) (hr : Rm b n A) (I : Inv cx ρ H X s.heap) (q : VsOk cx (zH s.heap ρ X) ρ rvs vs) (k : ∀ ρ' s',Aft cx cx.tabs X ρ s H1 ρ' s' -> Q c s') : wpAny (M cx) A (t rvs) Q E s :=
 wpAny_mono (h.go A X ρ s rvs hr I q) (fun J J q=>q.1 ▸ q.2.elim fun J q=>k _ _ q) nn
theorem Tst.runB {e : Expr} {c : Bool} {Q : Bool -> Shared -> Prop} (h : Tst cx b n sc e lo H c H1) (hs : env.scope = sc) (hr : Rm b n A) (I : Inv cx ρ H X s.heap) (F : FrOk cx env lo ρ X s.heap) (k : ∀ ρ' s',Aft cx cx.tabs X ρ s H1 ρ' s' -> Q c s') : wpAny (M cx) A (isTrue e env (eval e env)) Q E s :=
 wpAny_mono (h.go A env X ρ s hs hr I F) (fun J J q=>q.1 ▸ q.2.elim fun J q=>k _ _ q) nn
theorem Ev.of {e : Expr} {v : V} (h : ∀ A env X ρ s (Q E : Value -> Shared -> Prop),env.scope = sc -> Rm b n A -> Inv cx ρ H X s.heap -> FrOk cx env lo ρ X s.heap -> (∀ ρ' rv s',Aft cx cx.tabs X ρ s H1 ρ' s' -> VOk cx (zH s'.heap ρ' X) ρ' rv v -> Q rv s') -> wpAny (M cx) A (eval e env) Q E s) : Ev cx b n sc e lo H v H1 :=
 .mk fun A env X ρ s hs hr I F=>h A env X ρ s _ _ hs hr I F fun J J J a q=>⟨_,a,q⟩
theorem Evs.of {es : List Expr} {vs : List V} (h : ∀ A env X ρ s pos (Q : List Value -> Shared -> Prop) (E : Value -> Shared -> Prop),env.scope = sc -> Rm b n A -> Inv cx ρ H X s.heap -> FrOk cx env lo ρ X s.heap -> (∀ ρ' rv s',Aft cx cx.tabs X ρ s H1 ρ' s' -> VsOk cx (zH s'.heap ρ' X) ρ' rv vs -> Q rv s') -> wpAny (M cx) A (spliced (backTo pos (starEach es env))) Q E s) : Evs cx b n sc es lo H vs H1 :=
 .mk fun A env X ρ s pos hs hr I F=>h A env X ρ s pos _ _ hs hr I F fun J J J a q=>⟨_,a,q⟩
theorem Tst.of {e : Expr} {c : Bool} (h : ∀ A env X ρ s (Q : Bool -> Shared -> Prop) (E : Value -> Shared -> Prop),env.scope = sc -> Rm b n A -> Inv cx ρ H X s.heap -> FrOk cx env lo ρ X s.heap -> (∀ ρ' s',Aft cx cx.tabs X ρ s H1 ρ' s' -> Q c s') -> wpAny (M cx) A (isTrue e env (eval e env)) Q E s) : Tst cx b n sc e lo H c H1 :=
 .mk fun A env X ρ s hs hr I F=>h A env X ρ s _ _ hs hr I F fun J J a=>⟨rfl,_,a⟩
theorem Op.of {t : List Value -> Sem Value} {vs : List V} {v : V} (h : ∀ A X ρ s rvs (Q E : Value -> Shared -> Prop),Rm b n A -> Inv cx ρ H X s.heap -> VsOk cx (zH s.heap ρ X) ρ rvs vs -> (∀ ρ' rv s',Aft cx cx.tabs X ρ s H1 ρ' s' -> VOk cx (zH s'.heap ρ' X) ρ' rv v -> Q rv s') -> wpAny (M cx) A (t rvs) Q E s) : OpV cx b n t vs H v H1 :=
 .mk fun A X ρ s rvs hr I q=>h A X ρ s rvs _ _ hr I q fun J J J a q=>⟨_,a,q⟩
end
theorem j0 {i : Int} {k : Nat} {pos : Pos} : Ev cx b n sc (.Constant (.int i) k pos) lo H (.d (.int i)) H:=.mk fun J J J ρ J J J I J=>wpAny_Constant_int ⟨ρ,.tok I _,.int _ _⟩
theorem Ln {i : Str} {k : Nat} {pos : Pos} : Ev cx b n sc (.Constant (.str i) k pos) lo H (.d (.str i)) H:=.mk fun J J J ρ J J J I J=>Constant_str ⟨ρ,.tok I _,.str _ _⟩
theorem Hz {k : Nat} {pos : Pos} : Ev cx b n sc (.Constant .none k pos) lo H (.d .none) H:=.mk fun J J J ρ J J J I J=>wpAny_pure (a:=Value.none) ⟨ρ,.refl I,.none⟩
theorem z2 {c : Bool} {k : Nat} {pos : Pos} : Ev cx b n sc (.Constant (.bool c) k pos) lo H (.d (.bool c)) H:=.mk fun J J J ρ J J J I J=>wpAny_pure (a:=Value.bool c) ⟨ρ,.refl I,.bool _⟩
theorem ao {env : Env} (x : Str) : env.kindOf x = env.scope.names.lookup x:=rfl
theorem ue {A : Around} {env : Env} {X : List Addr} {ρ : Rh} {s : Shared} {x : Str} {v : V} (F : FrOk cx env lo ρ X s.heap) (hx : lo.lookup x = some v) (hk : env.kindOf x = some .local \/ env.kindOf x = some .cell \/ env.kindOf x = some .free)
  (hn : (x == ("__classdict__" : Str)) = false) : wpAny (M cx) A (loadName env x) (fun rv s'=>s' = s /\ VOk cx (zH s.heap ρ X) ρ rv v) No s:=by
 rcases hk with hk | hk | hk
 ·refine al fun Gq kq=>?_
  obtain ⟨m,hm,q⟩:=F.ns
  obtain ⟨rv,e,q⟩:=q x v hx hk
  refine kq ?_
  exact wpAny_loadName_local F.kind hk hm e ⟨rfl,q⟩
 ·refine al fun Gq kq=>?_
  obtain ⟨c,rv,e1,e2,q⟩:=F.cl x v hx (.inl hk)
  refine kq ?_
  exact wpAny_loadName_cell F.kind hk e1 e2 ⟨rfl,q⟩
 ·refine al fun Gq kq=>?_
  obtain ⟨c,rv,e1,e2,q⟩:=F.cl x v hx (.inr hk)
  refine kq ?_
  exact wpAny_loadName_free F.kind hk e1 e2 ⟨rfl,q⟩ hn
theorem u8 {x : Str} {pos : Pos} {v : V} (hx : lo.lookup x = some v) (hk : sc.names.lookup x = some .local \/ sc.names.lookup x = some .cell \/ sc.names.lookup x = some .free)
  (hn : (x == ("__classdict__" : Str)) = false) (hd : (x == ("__debug__" : Str)) = false) : Ev cx b n sc (.Name x pos) lo H v H:=.of fun A env X ρ s Qq Ee hs hr I F kk =>
 wpAny_Name (wpAny_mono (ue F hx (by rw [ao,hs]; exact hk) hn) (fun rv s' q=>by obtain ⟨rfl,q⟩:=q; exact kk ρ _ _ (.refl I) q) nn) hd
theorem an {l r : Expr} {op : Operator} {pos : Pos} {x y v : V} (h1 : Ev cx b n sc l lo H x H1) (h2 : Ev cx b n sc r lo H1 y H2) (ho : OpV cx b n (bin op) [x,y] H2 v H3) :
  Ev cx b n sc (.BinOp l op r pos) lo H v H3:=.of fun A env X ρ s Qq Ee hs hr I F kk =>
 wpAny_BinOp (h1.run hs hr I F fun ρ1 p s1 a1 v1=>by
  refine h2.run hs hr a1.inv (a1.fr I F) fun ρ2 q s2 a2 v2=>?_
  refine ho.run [p,q] hr a2.inv ⟨a2.v v1,v2,trivial⟩ fun ρ3 q s3 a3 v3=>?_
  exact kk ρ3 _ _ (a1.trans (a2.trans a3)) v3)
theorem bn {e : Expr} {op : UnaryOp} {pos : Pos} {x v : V} (h1 : Ev cx b n sc e lo H x H1) (ho : OpV cx b n (un op) [x] H1 v H2) :
  Ev cx b n sc (.UnaryOp op e pos) lo H v H2:=.of fun A env X ρ s Qq Ee hs hr I F kk =>
 UnaryOp_ (h1.run hs hr I F fun ρ1 p s1 a1 v1=>by
  refine ho.run [p] hr a1.inv ⟨v1,trivial⟩ fun ρ3 q s3 a3 v3=>?_
  exact kk ρ3 _ _ (a1.trans a3) v3)
theorem yp {l r : Expr} {op : CmpOp} {pos : Pos} {x y v : V} (h1 : Ev cx b n sc l lo H x H1) (h2 : Ev cx b n sc r lo H1 y H2) (ho : OpV cx b n (cmp op) [x,y] H2 v H3)
  (hm : behindInMarks op r = false) : Ev cx b n sc (.Compare l [op] [r] pos) lo H v H3:=.of fun A env X ρ s Qq Ee hs hr I F kk =>
 wpAny_Compare1 (h1.run hs hr I F fun ρ1 p s1 a1 v1=>by
  refine h2.run hs hr a1.inv (a1.fr I F) fun ρ2 q s2 a2 v2=>?_
  refine ho.run [p,q] hr a2.inv ⟨a2.v v1,v2,trivial⟩ fun ρ3 q s3 a3 v3=>?_
  exact kk ρ3 _ _ (a1.trans (a2.trans a3)) v3) hm
theorem am {l r : Expr} {op : CmpOp} {pos : Pos} {x y : V} {c : Bool} (h1 : Ev cx b n sc l lo H x H1) (h2 : Ev cx b n sc r lo H1 y H2) (ho : OpV cx b n (cmp op) [x,y] H2 (.d (.bool c)) H3)
  (hm : behindInMarks op r = false) : Tst cx b n sc (.Compare l [op] [r] pos) lo H c H3:=.of fun A env X ρ s Qq Ee hs hr I F kk =>
 wpAny_isTrue_Compare1 (h1.run hs hr I F fun ρ1 p s1 a1 v1=>by
  refine h2.run hs hr a1.inv (a1.fr I F) fun ρ2 q s2 a2 v2=>?_
  refine ho.run [p,q] hr a2.inv ⟨a2.v v1,v2,trivial⟩ fun ρ3 q s3 a3 v3=>?_
  cases v3
  exact wpAny_truthy_bool (kk ρ3 _ (a1.trans (a2.trans a3)))) hm
theorem o8 {pos : Pos} : Tst cx b n sc (.BoolOp .And [] pos) lo H true H:=.mk fun J J J ρ J J J I J=>isTrue_and_nil ⟨rfl,ρ,.refl I⟩
theorem y9 {pos : Pos} : Tst cx b n sc (.BoolOp .Or [] pos) lo H false H:=.mk fun J J J ρ J J J I J=>isTrue_or_nil ⟨rfl,ρ,.refl I⟩
theorem l6 {e : Expr} {es : List Expr} {pos : Pos} (h : Tst cx b n sc e lo H false H1) : Tst cx b n sc (.BoolOp .And (e :: es) pos) lo H false H1:=.mk fun A env X ρ s hs hr I F =>
 isTrue_and (wpAny_mono (h.go A env X ρ s hs hr I F) (fun c s1 q=>by obtain ⟨rfl,q⟩:=q; exact ⟨rfl,q⟩) fun J J x=>x)
theorem ir {e : Expr} {es : List Expr} {pos : Pos} {c : Bool} (h : Tst cx b n sc e lo H true H1) (h2 : Tst cx b n sc (.BoolOp .And es pos) lo H1 c H2) : Tst cx b n sc (.BoolOp .And (e :: es) pos) lo H c H2:=.of fun A env X ρ s Qq Ee hs hr I F kk =>
 isTrue_and (h.runB hs hr I F fun ρ1 s1 a1=>by
  refine h2.runB hs hr a1.inv (a1.fr I F) fun ρ2 s2 a2=>?_
  exact kk ρ2 _ (a1.trans a2))
theorem x7 {e : Expr} {es : List Expr} {pos : Pos} {c : Bool} (h : Tst cx b n sc e lo H false H1) (h2 : Tst cx b n sc (.BoolOp .Or es pos) lo H1 c H2) : Tst cx b n sc (.BoolOp .Or (e :: es) pos) lo H c H2:=.of fun A env X ρ s Qq Ee hs hr I F kk =>
 isTrue_or (h.runB hs hr I F fun ρ1 s1 a1=>by
  refine h2.runB hs hr a1.inv (a1.fr I F) fun ρ2 s2 a2=>?_
  exact kk ρ2 _ (a1.trans a2))
theorem dw {e : Expr} {v : V} {c : Bool} (hp : ∀ env whole,isTrue e env whole = (do let v <- whole; standAt e.pos; holding [v] (truthy v))) (h : Ev cx b n sc e lo H v H1) (ho : OpB cx b n tru [v] H1 c H2) : Tst cx b n sc e lo H c H2:=.of fun A env X ρ s Q E hs hr I F K =>
 isTrue_plain (h.run hs hr I F fun ρ1 p s1 a1 v1=>ho.runB [p] hr a1.inv ⟨v1,trivial⟩ fun ρ3 s3 a3=>K ρ3 _ (a1.trans a3)) (hp _ _)
theorem jm {t x y : Expr} {pos : Pos} {c : Bool} {v : V} (h : Tst cx b n sc t lo H c H1) (h2 : Ev cx b n sc (if c then x else y) lo H1 v H2) : Ev cx b n sc (.IfExp t x y pos) lo H v H2:=.of fun A env X ρ s Q E hs hr I F K =>
 IfExp_ (h.runB hs hr I F fun ρ1 s1 a1=>by
  have k:=h2.run (E:=E) hs hr a1.inv (a1.fr I F) fun ρ3 rv s3 a3 v3=>K ρ3 rv s3 (a1.trans a3) v3
  cases c <;> exact k)
noncomputable def cq : Expr -> Bool
 | .Starred ..=>false
 | _=>true
theorem eh {e : Expr} {es : List Expr} {env : Env} (h : cq e = true) : starEach (e :: es) env = (false,eval e env) :: starEach es env:=by
 cases e <;> first | rfl | cases h
theorem ag : Evs cx b n sc [] lo H [] H:=.mk fun J J J ρ J J J J I J=>spliced_nil ⟨ρ,.refl I,trivial⟩
theorem af {e : Expr} {es : List Expr} {v : V} {vs : List V} (hp : cq e = true) (h : Ev cx b n sc e lo H v H1) (h2 : Evs cx b n sc es lo H1 vs H2) : Evs cx b n sc (e :: es) lo H (v :: vs) H2:=.of fun A env X ρ s pos Q E hs hr I F K =>
 eh (es:=es) (env:=env) hp ▸ spliced_cons (h.run hs hr I F fun ρ1 p s1 a1 v1=>h2.run hs hr a1.inv (a1.fr I F) fun ρ2 q s2 a2 v2=>K ρ2 _ _ (a1.trans a2) ⟨a2.v v1,v2⟩)
end
end
section
variable {cx : Cx}
theorem bf {α : Type} : ∀ {l : List (Str × α)} {x : Str} {v : α},l.lookup x = some v -> (x,v) ∈ l
 | [],_,_,h=>by cases h
 | (y,w) :: l,x,v,h=>by
  rw [List.lookup_cons] at h
  split at h
  ·rename_i q
   rw [beq_iff_eq] at q; subst q; cases h; exact .head _
  ·exact .tail _ (bf h)
theorem fe {env : Env} {c : Addr} : c ∈ own env ↔ c = env.locals \/ ∃ x,env.cells.lookup x = some c:=by
 unfold own
 rw [List.mem_cons,List.mem_filterMap]
 refine or_congr Iff.rfl ⟨fun ⟨p,_,e⟩=>⟨p.1,e⟩,fun ⟨x,e⟩=>⟨(x,c),bf e,e⟩⟩
theorem FrOk.own_X {env : Env} {lo : Lo} {ρ : Rh} {X : List Addr} {h : Heap} (F : FrOk cx env lo ρ X h) : ∀ a ∈ own env,a ∈ X:=fun a ha=>by
 rcases fe.mp ha with rfl | ⟨x,e⟩
 ·exact F.lx
 ·exact (F.ce x a e).1
section grow
variable {ρ : Rh} {H : Hp} {X E : List Addr} {h h' : Heap}
theorem jv (hk : ∀ b o,h.get? b = some o -> h'.get? b = some o) : Sub (zH h ρ X) (zH h' ρ X):=nu (fun J J e J J=>hk _ _ e) fun J J J q=>q
theorem Inv.grow (I : Inv cx ρ H X h) (hk : ∀ b o,h.get? b = some o -> h'.get? b = some o) : Inv cx ρ H X h' :=
 ⟨cx.gmono _ _ (jv hk) I.g,I.tb.imp fun J=>cx.tmono _ _ _ (jv hk),I.len,I.nd,fun a ha=>let ⟨o',e⟩:=I.ex a ha; ⟨o',hk _ _ e⟩,I.dx,fun a ha=>let ⟨o',e⟩:=I.xe a ha; ⟨o',hk _ _ e⟩,I.xt,
  fun i ob e=>(I.ob i ob e).move (jv hk) (jv hk) rfl (fun J J J e=>hk _ _ e) (Nat.le_refl _) fun J J J e=>e⟩
theorem Ext.grow (hk : ∀ b o,h.get? b = some o -> h'.get? b = some o) : Ext E ρ h ρ h':=⟨Nat.le_refl _,fun J J J e=>e,fun J J e J J=>hk _ _ e,fun J ob e=>⟨ob,hk _ _ e⟩,fun J h1 h2=>absurd h1 h2⟩
theorem xd {h h' : Heap} (x : Heap.ExtBut h.objs.size h h') : ∀ b o,h.get? b = some o -> h'.get? b = some o:=fun b o e=>x b o (Nat.ne_of_lt (Heap.lt_size e)) e
theorem Aft.grow {s : Shared} {h' : Heap} {t : Nat} (I : Inv cx ρ H X s.heap) (hk : ∀ b o,s.heap.get? b = some o -> h'.get? b = some o) : Aft cx E X ρ s H ρ { s with heap:=h',toks:=t } :=
 ⟨⟨_,_,rfl⟩,I.grow hk,.grow hk⟩
theorem Aft.mono {E E' : List Addr} {ρ' : Rh} {H' : Hp} {s s' : Shared} (x : Aft cx E X ρ s H' ρ' s') (hs : ∀ a ∈ E,a ∈ E') : Aft cx E' X ρ s H' ρ' s':=⟨x.fin,x.inv,x.ext.mono hs⟩
end grow
noncomputable def vm (env : Env) : List Addr:=env.locals :: (env.cells.filter fun p=>env.kindOf p.1 == some .cell).filterMap (fun p=>env.cells.lookup p.1)
theorem sq {env : Env} : ∀ a ∈ vm env,a ∈ own env:=fun a ha=>by
 unfold vm at ha
 rcases List.mem_cons.mp ha with h | h
 ·exact h ▸ .head _
 ·obtain ⟨p,_,e⟩:=List.mem_filterMap.mp h
  exact fe.mpr (.inr ⟨p.1,e⟩)
theorem Bx {env : Env} {x : Str} {c : Addr} (e : env.cells.lookup x = some c) (k : env.kindOf x = some .cell) : c ∈ vm env:=by
 unfold vm
 exact .tail _ (List.mem_filterMap.mpr ⟨(x,c),List.mem_filter.mpr ⟨bf e,by simpa using k⟩,e⟩)
theorem Bz {env : Env} (h : ∀ x ∈ env.cells,env.kindOf x.1 ≠ some .cell) : vm env = [env.locals]:=by
 unfold vm
 rw [List.filter_eq_nil_iff.mpr fun p hp=>by simpa using h p hp]; rfl
noncomputable abbrev fE (cx : Cx) (env : Env) : List Addr:=vm env ++ cx.tabs
theorem Bj {ρ : Rh} {H : Hp} {X : List Addr} {h : Heap} {env : Env} {lo : Lo} {h2 : Heap} (I : Inv cx ρ H X h) (F : FrOk cx env lo ρ X h2) : ∀ a ∈ fE cx env,a ∈ X:=fun a ha=>(List.mem_append.mp ha).elim (fun h=>F.own_X a (sq a h)) (I.xt a)
theorem FrOk.weak {env : Env} {lo lo' : Lo} {ρ : Rh} {X : List Addr} {h : Heap} (F : FrOk cx env lo ρ X h) (hl : ∀ x v,lo'.lookup x = some v -> lo.lookup x = some v) : FrOk cx env lo' ρ X h :=
 ⟨F.kind,F.gl,F.bu,F.lx,F.lt,F.ce,F.ci,F.cs,let ⟨m,h1,h2⟩:=F.ns; ⟨m,h1,fun x v e k=>h2 x v (hl x v e) k⟩,fun x v e k=>F.cl x v (hl x v e) k⟩
theorem pt {x y : Str} {v w : V} {lo : Lo} (e : List.lookup y ((x,v) :: lo) = some w) : (y = x /\ w = v) \/ (y ≠ x /\ lo.lookup y = some w):=by
 rw [List.lookup_cons] at e
 split at e
 ·rename_i c; rw [beq_iff_eq] at c; cases e; exact .inl ⟨c,rfl⟩
 ·rename_i c; exact .inr ⟨fun z=>by rw [beq_eq_false_iff_ne] at c; exact c z,e⟩
theorem p8 {A : Around} {env : Env} {lo : Lo} {ρ : Rh} {H : Hp} {X : List Addr} {s : Shared} {x : Str} {rv : Value} {v : V} (I : Inv cx ρ H X s.heap) (F : FrOk cx env lo ρ X s.heap)
  (hk : env.kindOf x = some .local) (q : VOk cx (zH s.heap ρ X) ρ rv v) :
  wpAny (M cx) A (storeName env x rv) (fun J s'=>Aft cx (env.locals :: cx.tabs) X ρ s H ρ s' /\ FrOk cx env ((x,v) :: lo) ρ X s'.heap) No s:=by
 refine al fun Gq kq=>?_
 obtain ⟨m,hn,hm⟩:=F.ns
 refine kq ?_
 refine wpAny_storeName_local hk hn (fun h' hn' hs=>?_) (by rw [F.kind]; rfl)
 have hex : ∃ o,h'.get? env.locals = some o:=let ⟨o,_,_,e,_⟩:=hn'; ⟨o,e⟩
 have hv : ∀ rv v,VOk cx (zH s.heap ρ X) ρ rv v -> VOk cx (zH h' ρ X) ρ rv v:=fun J J=>VOk.move (gm hs F.lx) (Nat.le_refl _) fun J J J e=>e
 refine ⟨⟨⟨_,_,rfl⟩,I.same hs F.lx F.lt hex,.same hs (.head _) hex⟩,F.chg F.lx (fun y c e=>(F.ce y c e).1) (fun y c o e ho=>(hs.2 c (F.ce y c e).2.2.1).trans ho) hv (fun y w e k=>?_) ⟨_,hn',fun y w e k=>?_⟩⟩
 ·refine (pt e).elim (fun q=>?_) (·.2)
  rw [q.1,hk] at k; rcases k with k | k <;> cases k
 ·rcases pt e with ⟨e1,e2⟩ | ⟨hne,e⟩
  ·exact ⟨rv,if_pos e1,e2 ▸ hv _ _ q⟩
  ·exact (hm y w e k).imp fun J q=>⟨(if_neg hne).trans q.1,hv _ _ q.2⟩
theorem Aq {A : Around} {env : Env} {lo : Lo} {ρ : Rh} {H : Hp} {X : List Addr} {s : Shared} {x : Str} {rv : Value} {v : V} (I : Inv cx ρ H X s.heap) (F : FrOk cx env lo ρ X s.heap)
  (hk : env.kindOf x = some .local \/ env.kindOf x = some .cell) (q : VOk cx (zH s.heap ρ X) ρ rv v) :
  wpAny (M cx) A (storeName env x rv) (fun J s'=>Aft cx (fE cx env) X ρ s H ρ s' /\ FrOk cx env ((x,v) :: lo) ρ X s'.heap) No s:=by
 rcases hk with hk | hk
 ·exact wpAny_mono (p8 I F hk q) (fun J J p=>⟨p.1.mono fun a ha=>List.mem_append.mpr ((List.mem_cons.mp ha).imp (fun (e : a = env.locals)=>e ▸ List.Mem.head _) id),p.2⟩) nn
 ·refine al fun Gq kq=>?_
  obtain ⟨c,hc⟩:=Option.isSome_iff_exists.mp (F.cs x hk)
  obtain ⟨h1,h2,h3,v0,hcell⟩:=F.ce x c hc
  refine kq ?_
  refine wpAny_storeName_cell F.kind hk hc hcell fun h' hn' hs=>?_
  have hex : ∃ o,h'.get? c = some o:=let ⟨o,e,_⟩:=hn'; ⟨o,e⟩
  have hv : ∀ rv v,VOk cx (zH s.heap ρ X) ρ rv v -> VOk cx (zH h' ρ X) ρ rv v:=fun J J=>VOk.move (gm hs h1) (Nat.le_refl _) fun J J J e=>e
  refine ⟨⟨⟨_,_,rfl⟩,I.same hs h1 h2 hex,.same hs (List.mem_append.mpr (.inl (Bx hc hk))) hex⟩,?_⟩
  refine ⟨F.kind,F.gl,F.bu,F.lx,F.lt,fun y c' e=>?_,F.ci,F.cs,?_,fun y w e k=>?_⟩
  ·by_cases hy : c' = c
   ·exact hy ▸ ⟨h1,h2,h3,_,hn'⟩
   ·have q:=F.ce y c' e
    exact ⟨q.1,q.2.1,q.2.2.1,q.2.2.2.imp fun J q=>q.imp fun o q=>⟨(hs.2 c' hy).trans q.1,q.2⟩⟩
  ·refine F.ns.imp fun m p=>⟨p.1.sameBut hs (Ne.symm h3),fun y w e k=>?_⟩
   rcases pt e with ⟨e1,_⟩ | ⟨hne,e⟩
   ·rw [e1,hk] at k; cases k
   ·exact (p.2 y w e k).imp fun J q=>⟨q.1,hv _ _ q.2⟩
  ·rcases pt e with ⟨e1,e2⟩ | ⟨hne,e⟩
   ·exact ⟨c,rv,e1 ▸ hc,hn',e2 ▸ hv _ _ q⟩
   ·exact (F.cl y w e k).imp fun c' p=>p.imp fun rv' p=>⟨p.1,p.2.1.imp fun o r=>⟨(hs.2 c' fun z=>hne (F.ci y x c (z ▸ p.1) hc)).trans r.1,r.2⟩,hv _ _ p.2.2⟩
inductive R where
 | nxt (lo : Lo)
 | ret (v : V)
noncomputable def K9 (cx : Cx) (env : Env) (X : List Addr) (ρ' : Rh) (s' : Shared) (f : Flow) : R -> Prop
 | .nxt lo'=>f = .next /\ FrOk cx env lo' ρ' X s'.heap
 | .ret v=>∃ rv,f = .ret rv /\ VOk cx (zH s'.heap ρ' X) ρ' rv v
noncomputable abbrev kd (cx : Cx) (env : Env) (X : List Addr) (ρ : Rh) (s : Shared) (r : R) (H' : Hp) : Flow -> Shared -> Prop:=fun f s'=>∃ ρ',Aft cx (fE cx env) X ρ s H' ρ' s' /\ K9 cx env X ρ' s' f r
structure Ex (cx : Cx) (b : Bool) (n : Nat) (sc : Scope) (ss : List Stmt) (lo : Lo) (H : Hp) (r : R) (H' : Hp) : Prop where
 go : ∀ A env X ρ s,env.scope = sc -> Rm b n A -> Inv cx ρ H X s.heap -> FrOk cx env lo ρ X s.heap -> wpAny (M cx) A (execs ss env) (kd cx env X ρ s r H') No s
structure Ex1 (cx : Cx) (b : Bool) (n : Nat) (sc : Scope) (st : Stmt) (lo : Lo) (H : Hp) (r : R) (H' : Hp) : Prop where
 go : ∀ A env X ρ s,env.scope = sc -> Rm b n A -> Inv cx ρ H X s.heap -> FrOk cx env lo ρ X s.heap -> wpAny (M cx) A (exec st env) (kd cx env X ρ s r H') No s
theorem up {α : Type} {E E' : List Addr} {X : List Addr} {ρ ρ1 : Rh} {s s1 : Shared} {H1 : Hp} {P : Rh -> Shared -> α -> Prop} {Q : α -> Shared -> Prop} {A : Around} {t : Sem α} {H' : Hp}
  (a1 : Aft cx E' X ρ s H1 ρ1 s1) (h : wpAny (M cx) A t (fun f s'=>∃ ρ',Aft cx E X ρ1 s1 H' ρ' s' /\ P ρ' s' f) No s1) (hE : ∀ a ∈ E',a ∈ E) (hQ : ∀ f s',(∃ ρ',Aft cx E X ρ s H' ρ' s' /\ P ρ' s' f) -> Q f s') : wpAny (M cx) A t Q No s1 :=
 wpAny_mono h (fun f s' q=>by obtain ⟨ρ',a,p⟩:=q; exact hQ f s' ⟨ρ',(a1.mono hE).trans a,p⟩) fun J J x=>x
theorem tE {env : Env} : ∀ a ∈ cx.tabs,a ∈ fE cx env:=fun a ha=>List.mem_append.mpr (.inr ha)
section
variable {b : Bool} {n : Nat} {sc : Scope} {lo lo1 : Lo} {H H1 H2 H3 H' : Hp} {r : R} {st : Stmt} {ss : List Stmt} {v : V}
section
variable {A : Around} {env : Env} {X : List Addr} {ρ : Rh} {s : Shared} {E : Value -> Shared -> Prop} {Q : Flow -> Shared -> Prop}
theorem Ex.runN (h : Ex cx b n sc ss lo H (.nxt lo1) H1) (hs : env.scope = sc) (hr : Rm b n A) (I : Inv cx ρ H X s.heap) (F : FrOk cx env lo ρ X s.heap) (k : ∀ ρ' s',Aft cx (fE cx env) X ρ s H1 ρ' s' -> FrOk cx env lo1 ρ' X s'.heap -> Q .next s') : wpAny (M cx) A (execs ss env) Q E s :=
 wpAny_mono (h.go A env X ρ s hs hr I F) (fun J J q=>q.elim fun J q=>q.2.1 ▸ k _ _ q.1 q.2.2) nn
theorem Ex1.runN (h : Ex1 cx b n sc st lo H (.nxt lo1) H1) (hs : env.scope = sc) (hr : Rm b n A) (I : Inv cx ρ H X s.heap) (F : FrOk cx env lo ρ X s.heap) (k : ∀ ρ' s',Aft cx (fE cx env) X ρ s H1 ρ' s' -> FrOk cx env lo1 ρ' X s'.heap -> Q .next s') : wpAny (M cx) A (exec st env) Q E s :=
 wpAny_mono (h.go A env X ρ s hs hr I F) (fun J J q=>q.elim fun J q=>q.2.1 ▸ k _ _ q.1 q.2.2) nn
theorem Ex.runR (h : Ex cx b n sc ss lo H (.ret v) H1) (hs : env.scope = sc) (hr : Rm b n A) (I : Inv cx ρ H X s.heap) (F : FrOk cx env lo ρ X s.heap) (k : ∀ ρ' rv s',Aft cx (fE cx env) X ρ s H1 ρ' s' -> VOk cx (zH s'.heap ρ' X) ρ' rv v -> Q (.ret rv) s') : wpAny (M cx) A (execs ss env) Q E s :=
 wpAny_mono (h.go A env X ρ s hs hr I F) (fun J J q=>q.elim fun J q=>q.2.elim fun J p=>p.1 ▸ k _ _ _ q.1 p.2) nn
theorem Ex1.runR (h : Ex1 cx b n sc st lo H (.ret v) H1) (hs : env.scope = sc) (hr : Rm b n A) (I : Inv cx ρ H X s.heap) (F : FrOk cx env lo ρ X s.heap) (k : ∀ ρ' rv s',Aft cx (fE cx env) X ρ s H1 ρ' s' -> VOk cx (zH s'.heap ρ' X) ρ' rv v -> Q (.ret rv) s') : wpAny (M cx) A (exec st env) Q E s :=
 wpAny_mono (h.go A env X ρ s hs hr I F) (fun J J q=>q.elim fun J q=>q.2.elim fun J p=>p.1 ▸ k _ _ _ q.1 p.2) nn
theorem Ex.of (h : ∀ A env X ρ s (Q : Flow -> Shared -> Prop) (E : Value -> Shared -> Prop),env.scope = sc -> Rm b n A -> Inv cx ρ H X s.heap -> FrOk cx env lo ρ X s.heap -> (∀ ρ' f s',Aft cx (fE cx env) X ρ s H1 ρ' s' -> K9 cx env X ρ' s' f r -> Q f s') -> wpAny (M cx) A (execs ss env) Q E s) : Ex cx b n sc ss lo H r H1 :=
 .mk fun A env X ρ s hs hr I F=>h A env X ρ s _ _ hs hr I F fun J J J a q=>⟨_,a,q⟩
theorem Ex1.of (h : ∀ A env X ρ s (Q : Flow -> Shared -> Prop) (E : Value -> Shared -> Prop),env.scope = sc -> Rm b n A -> Inv cx ρ H X s.heap -> FrOk cx env lo ρ X s.heap -> (∀ ρ' f s',Aft cx (fE cx env) X ρ s H1 ρ' s' -> K9 cx env X ρ' s' f r -> Q f s') -> wpAny (M cx) A (exec st env) Q E s) : Ex1 cx b n sc st lo H r H1 :=
 .mk fun A env X ρ s hs hr I F=>h A env X ρ s _ _ hs hr I F fun J J J a q=>⟨_,a,q⟩
end
theorem bj : Ex cx b n sc [] lo H (.nxt lo) H:=.mk fun J J J ρ J J J I F=>wpAny_execs_nil ⟨ρ,.refl I,rfl,F⟩
theorem ah (h1 : Ex1 cx b n sc st lo H (.nxt lo1) H1) (h2 : Ex cx b n sc ss lo1 H1 r H') : Ex cx b n sc (st :: ss) lo H r H':=.mk fun A env X ρ s hs hr I F =>
 wpAny_execs_cons (h1.runN hs hr I F fun ρ1 s1 a1 F1=>by
  exact up a1 (h2.go A env X ρ1 s1 hs hr a1.inv F1) (fun J h=>h) fun J J q=>q)
theorem bb (h1 : Ex1 cx b n sc st lo H (.ret v) H') : Ex cx b n sc (st :: ss) lo H (.ret v) H':=.of fun A env X ρ s Qq Ee hs hr I F kk =>
 wpAny_execs_cons (h1.runR hs hr I F fun ρ1 rv s1 a1 q1=>by
  exact kk ρ1 _ _ a1 ⟨rv,rfl,q1⟩)
theorem az {e : Expr} {pos : Pos} (h : Ev cx b n sc e lo H v H') : Ex1 cx b n sc (.Return (some e) pos) lo H (.ret v) H':=.of fun A env X ρ s Qq Ee hs hr I F kk =>
 wpAny_Return_some (h.run hs hr I F fun ρ1 rv s1 a1 v1=>by
  exact kk ρ1 _ _ (a1.mono tE) ⟨rv,rfl,v1⟩)
theorem pd {pos : Pos} : Ex1 cx b n sc (.Return none pos) lo H (.ret (.d .none)) H:=.mk fun J J J ρ J J J I J=>wpAny_Return_none ⟨ρ,.refl I,.none,rfl,.none⟩
theorem df {env : Env} (h : env.scope.kind = .function) : interactive env = false:=by unfold interactive; rw [h]; rfl
theorem c8 {e : Expr} {pos : Pos} (h : Ev cx b n sc e lo H v H') (hs : ∀ env,swapsWith e none pos.line env = pure false:=by intro _; rfl) : Ex1 cx b n sc (.Expr e pos) lo H (.nxt lo) H':=.of fun A env X ρ s Qq Ee hs' hr I F kk =>
 wpAny_Expr_any (h.run hs' hr I F fun ρ1 rv s1 a1 v1=>by
  exact kk ρ1 _ _ (a1.mono tE) ⟨rfl,a1.fr I F⟩) (df F.kind) (hs env)
theorem bp {t : Expr} {x y : List Stmt} {pos : Pos} {c : Bool} (h : Tst cx b n sc t lo H c H1) (h2 : Ex cx b n sc (if c then x else y) lo H1 r H') : Ex1 cx b n sc (.If t x y pos) lo H r H':=.mk fun A env X ρ s hs hr I F =>
 wpAny_If (h.runB hs hr I F fun ρ1 s1 a1=>by
  have k:=up (Q:=kd cx env X ρ s r H') a1 (h2.go A env X ρ1 s1 hs hr a1.inv (a1.fr I F)) tE fun J J q=>q
  cases c <;> exact k)
theorem ai {e : Expr} {x : Str} {p pos : Pos} (h : Ev cx b n sc e lo H v H') (hk : sc.names.lookup x = some .local \/ sc.names.lookup x = some .cell)
  (hs : ∀ env,env.scope = sc -> swapsWith e (some (.Name x p)) pos.line env = pure false:=by intro _ _; rfl) : Ex1 cx b n sc (.Assign [.Name x p] e pos) lo H (.nxt ((x,v) :: lo)) H':=.of fun A env X ρ s Qq Ee hs' hr I F kk =>
 wpAny_Assign_Name (h.run hs' hr I F fun ρ1 rv s1 a1 v1=>by
  refine wpAny_mono (Aq a1.inv (a1.fr I F) (by rw [ao,hs']; exact hk) v1) (fun J s2 q=>?_) nn
  exact kk ρ1 _ _ ((a1.mono tE).trans q.1) ⟨rfl,q.2⟩) (hs env hs')
theorem wt {e : Expr} {x : Str} {op : Operator} {p pos : Pos} {x0 v1 : V} (hx : lo.lookup x = some x0) (h : Ev cx b n sc e lo H v1 H1) (hk : sc.names.lookup x = some .local) (hn : (x == ("__classdict__" : Str)) = false)
  (ho : OpV cx b n (inp op) [x0,v1] H1 v H') : Ex1 cx b n sc (.AugAssign (.Name x p) op e pos) lo H (.nxt ((x,v) :: lo)) H':=.of fun A env X ρ s Qq Ee hs hr I F kk =>
 wpAny_AugAssign_Name (wpAny_mono (ue F hx (.inl (by rw [ao,hs]; exact hk)) hn) (fun r0 s0 q=>by
  obtain ⟨rfl,q0⟩:=q
  refine h.run hs hr I F fun ρ1 r1 s1 a1 q1=>?_
  refine ho.run [r0,r1] hr a1.inv ⟨a1.v q0,q1,trivial⟩ fun ρ2 r2 s2 a2 q2=>?_
  have a12:=a1.trans a2
  refine wpAny_mono (Aq a2.inv (a12.fr I F) (.inl (by rw [ao,hs]; exact hk)) q2) (fun J s2 q=>?_) nn
  exact kk ρ2 _ _ ((a12.mono tE).trans q.1) ⟨rfl,q.2⟩) nn)
theorem c7 {e o i : Expr} {p pos : Pos} {v1 v2 : V} {H4 : Hp} (h1 : Ev cx b n sc e lo H v H1) (h2 : Ev cx b n sc o lo H1 v1 H2) (h3 : Ev cx b n sc i lo H2 v2 H3)
  (h4 : Op cx b n si [v,v1,v2] H3 (fun X ρ s J s'=>∃ ρ',Aft cx cx.tabs X ρ s H4 ρ' s'))
  (hs : ∀ env,swapsWith e (some (.Subscript o i p)) pos.line env = pure false:=by intro _; rfl) : Ex1 cx b n sc (.Assign [.Subscript o i p] e pos) lo H (.nxt lo) H4:=.of fun A env X ρ s Qq Ee hs' hr I F kk =>
 wpAny_Assign_Subscript (h1.run hs' hr I F fun ρ1 r1 s1 a1 q1=>by
  refine h2.run hs' hr a1.inv (a1.fr I F) fun ρ2 r2 s2 a2 q2=>?_
  have a12:=a1.trans a2
  refine h3.run hs' hr a2.inv (a12.fr I F) fun ρ3 r3 s3 a3 q3=>?_
  refine wpAny_mono (h4.go A X ρ3 s3 [r1,r2,r3] hr a3.inv ⟨a3.v (a2.v q1),a3.v q2,q3,trivial⟩) (fun J s4 q=>?_) nn
  obtain ⟨ρ4,a4⟩:=q
  have a:=a12.trans (a3.trans a4)
  exact kk ρ4 _ _ (a.mono tE) ⟨rfl,a.fr I F⟩) (hs env)
theorem yr {e o i : Expr} {op : Operator} {p pos : Pos} {v1 v2 v3 v4 v5 : V} {H4 H5 H6 : Hp} (h1 : Ev cx b n sc o lo H v1 H1) (h2 : Ev cx b n sc i lo H1 v2 H2)
  (h3 : OpV cx b n gi [v1,v2] H2 v3 H3) (h4 : Ev cx b n sc e lo H3 v4 H4)
  (h5 : OpV cx b n (inp op) [v3,v4] H4 v5 H5)
  (h6 : Op cx b n si [v5,v1,v2] H5 (fun X ρ s J s'=>∃ ρ',Aft cx cx.tabs X ρ s H6 ρ' s'))
  (ha : ∀ ov iv new,augStore i ov iv new = (do holding [new,ov,iv] (setItem ov iv new); release [new,ov,iv] []; pure .next):=by intro _ _ _; rfl) : Ex1 cx b n sc (.AugAssign (.Subscript o i p) op e pos) lo H (.nxt lo) H6:=.of fun A env X ρ s Qq Ee hs' hr I F kk =>
 wpAny_AugAssign_Subscript_any (h1.run hs' hr I F fun ρ1 r1 s1 a1 q1=>by
  refine h2.run hs' hr a1.inv (a1.fr I F) fun ρ2 r2 s2 a2 q2=>?_
  have a12:=a1.trans a2
  refine h3.run [r1,r2] hr a2.inv ⟨a2.v q1,q2,trivial⟩ fun ρ3 r3 s3 a3 q3=>?_
  have a13:=a12.trans a3
  refine h4.run hs' hr a3.inv (a13.fr I F) fun ρ4 r4 s4 a4 q4=>?_
  refine h5.run [r3,r4] hr a4.inv ⟨a4.v q3,q4,trivial⟩ fun ρ5 r5 s5 a5 q5=>?_
  have a35:=a3.trans (a4.trans a5)
  refine wpAny_mono (h6.go A X ρ5 s5 [r5,r1,r2] hr a5.inv ⟨q5,a35.v (a2.v q1),a35.v q2,trivial⟩) (fun J s6 q=>?_) nn
  obtain ⟨ρ6,a6⟩:=q
  have a:=a12.trans (a35.trans a6)
  exact kk ρ6 _ _ (a.mono tE) ⟨rfl,a.fr I F⟩) ha
end
end
section
variable {cx : Cx}
noncomputable def Tie (k : Nat) (ρ ρ' : Rh) (h : Heap) : Prop:=∀ (E : List Addr) (ρ₀ : Rh) (h₀ : Heap),ρ₀.length <= k -> Ext E ρ₀ h₀ ρ h -> Ext E ρ₀ h₀ ρ' h
theorem Tie.refl {k : Nat} {ρ : Rh} {h : Heap} : Tie k ρ ρ h:=fun J J J J x=>x
theorem Tie.of {k : Nat} {ρ ρ' : Rh} {h : Heap} (e : Ext [] ρ h ρ' h) : Tie k ρ ρ' h:=fun J J J J x=>x.trans (e.mono fun J h=>nomatch h)
noncomputable def Cnv (cx : Cx) (k : Nat) (lo : Lo) (H : Hp) (lo' : Lo) (H' : Hp) : Prop:=∀ env ρ X h,Inv cx ρ H X h -> FrOk cx env lo ρ X h -> ∃ ρ',Tie k ρ ρ' h /\ Inv cx ρ' H' X h /\ FrOk cx env lo' ρ' X h
theorem Cnv.refl {k : Nat} {lo : Lo} {H : Hp} : Cnv cx k lo H lo H:=fun J ρ J J I F=>⟨ρ,.refl,I,F⟩
theorem Cnv.trans {k : Nat} {lo lo1 lo2 : Lo} {H H1 H2 : Hp} (x : Cnv cx k lo H lo1 H1) (y : Cnv cx k lo1 H1 lo2 H2) : Cnv cx k lo H lo2 H2:=fun env ρ X h I F=>by
 refine al fun Gq kq=>?_
 obtain ⟨ρ1,e1,I1,F1⟩:=x env ρ X h I F
 obtain ⟨ρ2,e2,I2,F2⟩:=y env ρ1 X h I1 F1
 refine kq ?_
 exact ⟨ρ2,fun E ρ₀ h₀ hk x=>e2 E ρ₀ h₀ hk (e1 E ρ₀ h₀ hk x),I2,F2⟩
theorem Cnv.weak {k : Nat} {lo lo' : Lo} {H : Hp} (hl : ∀ x v,lo'.lookup x = some v -> lo.lookup x = some v) : Cnv cx k lo H lo' H:=fun J ρ J J I F=>⟨ρ,.refl,I,F.weak hl⟩
noncomputable def frz (i : Nat) (xs : List D) : V -> V
 | .d x=>.d x
 | .loc n=>if n = i then .d (.list xs) else .loc n
 | .raw v=>.raw v
theorem j3 {α β : Type} {f : α -> β} : ∀ {l : List (Str × α)} {x : Str},(l.map fun e=>(e.1,f e.2)).lookup x = (l.lookup x).map f
 | [],_=>rfl
 | (y,w) :: l,x=>by
  rw [List.map_cons,List.lookup_cons,List.lookup_cons]
  cases x == y
  ·exact j3
  ·rfl
theorem VOk.frz {ρ : Rh} {H : Hp} {X : List Addr} {h : Heap} {i : Nat} {xs : List D} {rv : Value} {v : V} (I : Inv cx ρ H X h) (hi : H[i]? = some (.lst xs)) (q : VOk cx (zH h ρ X) ρ rv v) :
  VOk cx (zH h (ρ.set i none) X) (ρ.set i none) rv (frz i xs v):=by
 cases v with
 | d x=>exact DR.sub d8 q
 | raw w=>exact q
 | loc n =>
  show VOk cx _ _ rv (if n = i then .d (.list xs) else .loc n)
  by_cases hn : n = i
  ·subst hn
   rw [if_pos rfl]
   obtain ⟨a,vs,e,l,r⟩:=I.ob n _ hi
   have hrv:=q.2 a e
   subst hrv
   refine .list ?_ (r.sub d8)
   obtain ⟨k,ho⟩:=l
   refine ⟨k,ax.mpr ⟨ho,fun hb=>?_,I.dx a (b9 e)⟩⟩
   obtain ⟨j,ej⟩:=gg.mp hb
   rw [List.getElem?_set] at ej
   split at ej
   ·split at ej <;> cases ej
   ·rename_i hne; exact hne (I.nd n j a e ej)
  ·rw [if_neg hn]
   exact VOk.move (cx:=cx) (v:=.loc n) d8 (by simp) m9 q
theorem Cnv.frz {k : Nat} {lo : Lo} {H : Hp} {i : Nat} {xs : List D} (hi : H[i]? = some (.lst xs)) : Cnv cx k lo H (lo.map fun e=>(e.1,frz i xs e.2)) (H.set i .dead):=fun env ρ X h I F=>by
 refine ⟨ρ.set i none,.of .freeze,I.freeze i,?_⟩
 refine ⟨F.kind,F.gl,F.bu,F.lx,F.lt,F.ce,F.ci,F.cs,?_,fun x v e k=>?_⟩
 ·obtain ⟨m,h1,h2⟩:=F.ns
  refine ⟨m,h1,fun x v e k=>?_⟩
  rw [j3] at e
  obtain ⟨v0,e0,rfl⟩:=Option.map_eq_some_iff.mp e
  obtain ⟨rv,e1,q⟩:=h2 x v0 e0 k
  exact ⟨rv,e1,VOk.frz I hi q⟩
 ·rw [j3] at e
  obtain ⟨v0,e0,rfl⟩:=Option.map_eq_some_iff.mp e
  obtain ⟨c,rv,e1,e2,q⟩:=F.cl x v0 e0 k
  exact ⟨c,rv,e1,e2,VOk.frz I hi q⟩
noncomputable def vlt (n : Nat) : V -> Prop
 | .d _=>True
 | .loc i=>i < n
 | .raw _=>True
theorem VOk.tk {ρ : Rh} {X : List Addr} {h : Heap} {n : Nat} {rv : Value} {v : V} (hv : vlt n v) (q : VOk cx (zH h ρ X) ρ rv v) : VOk cx (zH h (ρ.take n) X) (ρ.take n) rv v:=by
 cases v with
 | d x=>exact DR.sub jw q
 | raw w=>exact q
 | loc i=>exact VOk.take hv q
noncomputable def Clo (H : Hp) (n : Nat) : Prop:=∀ (i : Nat) (o : O),i < n -> H[i]? = some o -> ∀ l ∈ refs o,l < n
theorem Cnv.take {k m : Nat} {lo : Lo} {H : Hp} (hk : k <= m) (hr : Clo H m) (hv : ∀ x v,lo.lookup x = some v -> vlt m v) : Cnv cx k lo H lo (H.take m):=fun env ρ X h I F=>by
 refine ⟨ρ.take m,fun E ρ₀ h₀ h1 x=>x.take (Nat.le_trans h1 hk),I.take hr,?_⟩
 refine ⟨F.kind,F.gl,F.bu,F.lx,F.lt,F.ce,F.ci,F.cs,?_,fun x v e k=>?_⟩
 ·obtain ⟨mm,h1,h2⟩:=F.ns
  exact ⟨mm,h1,fun x v e k=>let ⟨rv,e1,q⟩:=h2 x v e k; ⟨rv,e1,VOk.tk (hv x v e) q⟩⟩
 ·obtain ⟨c,rv,e1,e2,q⟩:=F.cl x v e k
  exact ⟨c,rv,e1,e2,VOk.tk (hv x v e) q⟩
theorem Ext.take0 {E : List Addr} {ρ : Rh} {h : Heap} {n : Nat} (hn : ρ.length <= n) : Ext E ρ h (ρ.take n) h:=(Ext.refl E ρ h).take hn
theorem FrOk.hide {env : Env} {lo : Lo} {ρ : Rh} {H : Hp} {X : List Addr} {h : Heap} {o : Obj} (I : Inv cx ρ H X h) (F : FrOk cx env lo ρ X h) : FrOk cx env lo ρ (h.objs.size :: X) (h.push o):=by
 have hs : Sub (zH h ρ X) (zH (h.push o) ρ (h.objs.size :: X)):=by
  intro b ob e
  obtain ⟨e,h1,h2⟩:=ax.mp e
  refine ax.mpr ⟨Heap.get?_push_of_some _ e,h1,fun q=>?_⟩
  rcases List.mem_cons.mp q with q | q
  ·exact absurd (Heap.lt_size e) (q ▸ Nat.lt_irrefl _)
  ·exact h2 q
 exact F.chgL (.tail _ F.lx) (fun y c e=>.tail _ (F.ce y c e).1) (fun J J J e=>Heap.get?_push_of_some _ e) fun J J=>VOk.move hs (Nat.le_refl _) fun J J J e=>e
theorem Inv.hide {ρ : Rh} {H : Hp} {X : List Addr} {h : Heap} (I : Inv cx ρ H X h) (o : Obj) (hf : o.isFreed = false:=by rfl) : Inv cx ρ H (h.objs.size :: X) (h.push o):=by
 have hs : ∀ Y,Sub (zH h ρ Y) (zH (h.push o) ρ (h.objs.size :: Y)):=by
  intro Y b ob e
  obtain ⟨e,h1,h2⟩:=ax.mp e
  refine ax.mpr ⟨Heap.get?_push_of_some _ e,h1,fun q=>?_⟩
  rcases List.mem_cons.mp q with q | q
  ·exact absurd (Heap.lt_size e) (q ▸ Nat.lt_irrefl _)
  ·exact h2 q
 have ht : cx.tabs.contains h.objs.size = false:=by
  cases q : cx.tabs.contains h.objs.size
  ·rfl
  ·obtain ⟨o',e⟩:=I.xe _ (I.xt _ (List.contains_iff_mem.mp q))
   exact absurd (Heap.lt_size e) (Nat.lt_irrefl _)
 have hT : Sub (zT cx h ρ X) (zT cx (h.push o) ρ (h.objs.size :: X)):=by
  unfold zT
  rw [List.filter_cons,ht]
  exact hs _
 refine ⟨cx.gmono _ _ (hs X) I.g,I.tb.imp fun J=>cx.tmono _ _ _ hT,I.len,I.nd,fun a ha=>let ⟨o',e⟩:=I.ex a ha; ⟨o',Heap.get?_push_of_some _ e⟩,fun a ha q=>?_,fun a ha=>?_,fun a ha=>.tail _ (I.xt a ha),fun i ob e=>?_⟩
 ·rcases List.mem_cons.mp q with q | q
  ·obtain ⟨o',e⟩:=I.ex a ha; exact absurd (Heap.lt_size e) (q ▸ Nat.lt_irrefl _)
  ·exact I.dx a ha q
 ·rcases List.mem_cons.mp ha with q | q
  ·exact ⟨o,q ▸ Heap.get?_push_size _ hf⟩
  ·obtain ⟨o',e⟩:=I.xe a q; exact ⟨o',Heap.get?_push_of_some _ e⟩
 ·have h1:=I.ob i ob e
  cases ob with
  | lst xs=>obtain ⟨a,vs,e,⟨n,e1⟩,r⟩:=h1; exact ⟨a,vs,e,⟨n,Heap.get?_push_of_some _ e1⟩,r.sub (hs X)⟩
  | lsl ls=>obtain ⟨a,vs,e,⟨n,e1⟩,r⟩:=h1; exact ⟨a,vs,e,⟨n,Heap.get?_push_of_some _ e1⟩,r.move (hs X) (Nat.le_refl _) fun J J J e=>e⟩
  | dct es=>obtain ⟨a,vs,e,⟨m,ob,n,ep,e1,e2⟩,r⟩:=h1; exact ⟨a,vs,e,⟨m,ob,n,ep,Heap.get?_push_of_some _ e1,e2⟩,r.sub (hs X)⟩
  | ins l=>obtain ⟨a,rv,e,x,r⟩:=h1; exact ⟨a,rv,e,cx.imono _ _ _ _ _ _ (hs X) (fun J e1=>Heap.get?_push_of_some _ e1) x,VOk.move (hs X) (Nat.le_refl _) (fun J J J e=>e) r⟩
  | dead=>exact h1
theorem Inv.show_ {ρ : Rh} {H : Hp} {X : List Addr} {h : Heap} {Y : List Addr} (I : Inv cx ρ H Y h) (hY : ∀ a ∈ X,a ∈ Y) (ht : ∀ a ∈ cx.tabs,a ∈ X) : Inv cx ρ H X h:=by
 have hs : Sub (zH h ρ Y) (zH h ρ X):=fun b ob e=>by
  obtain ⟨e,h1,h2⟩:=ax.mp e
  exact ax.mpr ⟨e,h1,fun q=>h2 (hY _ q)⟩
 have hT : Sub (zT cx h ρ Y) (zT cx h ρ X):=fun b ob e=>by
  obtain ⟨e,h1,h2⟩:=ax.mp e
  exact ax.mpr ⟨e,h1,fun q=>h2 (List.mem_filter.mpr ⟨hY _ (List.mem_filter.mp q).1,(List.mem_filter.mp q).2⟩)⟩
 exact ⟨cx.gmono _ _ hs I.g,I.tb.imp fun J=>cx.tmono _ _ _ hT,I.len,I.nd,I.ex,fun a ha q=>I.dx a ha (hY _ q),fun a ha=>I.xe a (hY _ ha),ht,fun i ob e=>by
  have h1:=I.ob i ob e
  cases ob with
  | lst xs=>obtain ⟨a,vs,e,l,r⟩:=h1; exact ⟨a,vs,e,l,r.sub hs⟩
  | lsl ls=>obtain ⟨a,vs,e,l,r⟩:=h1; exact ⟨a,vs,e,l,r.move hs (Nat.le_refl _) fun J J J e=>e⟩
  | dct es=>obtain ⟨a,vs,e,l,r⟩:=h1; exact ⟨a,vs,e,l,r.sub hs⟩
  | ins l=>obtain ⟨a,rv,e,x,r⟩:=h1; exact ⟨a,rv,e,cx.imono _ _ _ _ _ _ hs (fun J e1=>e1) x,VOk.move hs (Nat.le_refl _) (fun J J J e=>e) r⟩
  | dead=>exact h1⟩
theorem fb {ρ : Rh} {X Y : List Addr} {h : Heap} (hY : ∀ a ∈ X,a ∈ Y) : Sub (zH h ρ Y) (zH h ρ X):=fun b ob e=>by
 obtain ⟨e,h1,h2⟩:=ax.mp e
 exact ax.mpr ⟨e,h1,fun q=>h2 (hY _ q)⟩
theorem FrOk.show_ {env : Env} {lo lo0 : Lo} {ρ ρ0 : Rh} {X Y : List Addr} {h h0 : Heap} (F : FrOk cx env lo ρ Y h) (F0 : FrOk cx env lo0 ρ0 X h0) (hY : ∀ a ∈ X,a ∈ Y) : FrOk cx env lo ρ X h:=by
 refine ⟨F.kind,F.gl,F.bu,F0.lx,F.lt,fun x c e=>?_,F.ci,F.cs,?_,fun x v e k=>?_⟩
 ·obtain ⟨h1,h2,h3,r⟩:=F.ce x c e
  exact ⟨(F0.ce x c e).1,h2,h3,r⟩
 ·obtain ⟨m,h1,h2⟩:=F.ns
  refine ⟨m,h1,fun x v e k=>?_⟩
  obtain ⟨rv,e1,q⟩:=h2 x v e k
  exact ⟨rv,e1,VOk.move (fb hY) (Nat.le_refl _) (fun J J J e=>e) q⟩
 ·obtain ⟨c,rv,e1,hc,q⟩:=F.cl x v e k
  exact ⟨c,rv,e1,hc,VOk.move (fb hY) (Nat.le_refl _) (fun J J J e=>e) q⟩
inductive Wh (cx : Cx) (b : Bool) (n : Nat) (sc : Scope) (t : Expr) (body : List Stmt) : Nat -> Lo -> Hp -> R -> Hp -> Prop
 | done {lo H H1} : Tst cx b n sc t lo H false H1 -> Wh cx b n sc t body 0 lo H (.nxt lo) H1
 | step {k lo H H1 lo1 H2 lo2 H3 r H'} : Tst cx b n sc t lo H true H1 -> Ex cx b n sc body lo H1 (.nxt lo1) H2 -> Cnv cx H.length lo1 H2 lo2 H3 -> Wh cx b n sc t body k lo2 H3 r H' -> Wh cx b n sc t body (k + 1) lo H r H'
 | ret {lo H H1 v H'} : Tst cx b n sc t lo H true H1 -> Ex cx b n sc body lo H1 (.ret v) H' -> Wh cx b n sc t body 0 lo H (.ret v) H'
theorem Ext.nil {E : List Addr} {ρ ρ' : Rh} {h h' : Heap} (x : Ext [] ρ h ρ' h') : Ext E ρ h ρ' h':=x.mono fun J h=>nomatch h
theorem ip {b : Bool} {n : Nat} {sc : Scope} {t : Expr} {body : List Stmt} {pos : Pos} {k : Nat} {lo : Lo} {H : Hp} {r : R} {H' : Hp} (W : Wh cx b n sc t body k lo H r H') : Ex1 cx b n sc (.While t body [] pos) lo H r H':=.of fun A env X ρ s Qq Ee hs hr I F kk=>by
 refine wpAny_While (codeAny_whileLoop (fun k s'=>∃ lo1 H1 ρ1,Wh cx b n sc t body k lo1 H1 r H' /\ Aft cx (fE cx env) X ρ s H1 ρ1 s' /\ FrOk cx env lo1 ρ1 X s'.heap) ?_ k ⟨lo,H,ρ,W,.refl I,F⟩)
 rintro k s1 ⟨lo1,H1,ρ1,W,a1,F1⟩
 cases W with
 | done ht =>
  refine ht.runB hs hr a1.inv F1 fun ρ2 s2 a2=>?_
  exact wpAny_execs_nil (kk ρ2 _ _ (a1.trans (a2.mono tE)) ⟨rfl,a2.fr a1.inv F1⟩)
 | ret ht hb =>
  refine ht.runB hs hr a1.inv F1 fun ρ2 s2 a2=>?_
  refine hb.runR hs hr a2.inv (a2.fr a1.inv F1) fun ρ3 rv s3 a3 q=>?_
  exact kk ρ3 _ _ ((a1.trans (a2.mono tE)).trans a3) ⟨rv,rfl,q⟩
 | step ht hb hc W =>
  refine ht.runB hs hr a1.inv F1 fun ρ2 s2 a2=>?_
  refine hb.runN hs hr a2.inv (a2.fr a1.inv F1) fun ρ3 s3 a3 F3=>?_
  refine al fun Gq kq=>?_
  obtain ⟨ρ4,e4,I4,F4⟩:=hc env ρ3 X s3.heap a3.inv F3
  refine kq ?_
  have a:=(a1.trans (a2.mono tE)).trans a3
  exact ⟨_,Nat.lt_succ_self _,_,_,ρ4,W,⟨a.fin,I4,e4 _ _ _ (by rw [<- a1.inv.len]; exact a1.ext.len) a.ext⟩,F4⟩
noncomputable abbrev aE (cx : Cx) (c : Bool) (env : Env) : List Addr:=if c then fE cx env else env.locals :: cx.tabs
theorem v8 {c : Bool} {env : Env} : ∀ a ∈ aE cx c env,a ∈ fE cx env:=fun a ha=>by
 cases c with
 | true=>exact ha
 | false =>
  have ha : a ∈ env.locals :: cx.tabs:=ha
  rcases List.mem_cons.mp ha with h | h
  ·exact List.mem_append.mpr (.inl (h ▸ .head _))
  ·exact List.mem_append.mpr (.inr h)
structure As (cx : Cx) (c : Bool) (sc : Scope) (tgt : Expr) (v : V) (lo lo' : Lo) : Prop where
 go : ∀ A env X ρ H s rv,env.scope = sc -> A.handled = none -> Inv cx ρ H X s.heap -> FrOk cx env lo ρ X s.heap -> VOk cx (zH s.heap ρ X) ρ rv v ->
  wpAny (M cx) A (assign tgt env rv) (fun J s'=>Aft cx (aE cx c env) X ρ s H ρ s' /\ FrOk cx env lo' ρ X s'.heap) No s
noncomputable def kOk (c : Bool) (k : Option NameKind) : Bool:=k == some .local || (c && k == some .cell)
theorem Au {c : Bool} {A : Around} {env : Env} {lo : Lo} {ρ : Rh} {H : Hp} {X : List Addr} {s : Shared} {x : Str} {rv : Value} {v : V} (I : Inv cx ρ H X s.heap) (F : FrOk cx env lo ρ X s.heap)
  (hk : kOk c (env.kindOf x) = true) (q : VOk cx (zH s.heap ρ X) ρ rv v) :
  wpAny (M cx) A (storeName env x rv) (fun J s'=>Aft cx (aE cx c env) X ρ s H ρ s' /\ FrOk cx env ((x,v) :: lo) ρ X s'.heap) No s:=by
 unfold kOk at hk
 rw [Bool.or_eq_true,Bool.and_eq_true,beq_iff_eq,beq_iff_eq] at hk
 cases c with
 | true=>exact Aq I F (hk.imp id fun h=>h.2) q
 | false=>exact p8 I F (hk.elim id fun h=>nomatch h.1) q
theorem bw {c : Bool} {sc : Scope} {x : Str} {p : Pos} {v : V} {lo : Lo} (hk : kOk c (sc.names.lookup x) = true) : As cx c sc (.Name x p) v lo ((x,v) :: lo):=.mk fun A env X ρ H s rv hs J I F q =>
 PyProof.Rows.assign_Name (Au I F (by rw [ao,hs]; exact hk) q)
inductive Names (c : Bool) (sc : Scope) : List Expr -> List D -> Lo -> Lo -> Prop
 | nil {lo} : Names c sc [] [] lo lo
 | cons {x p es y ys lo lo'} : kOk c (sc.names.lookup x) = true -> Names c sc es ys ((x,.d y) :: lo) lo' -> Names c sc (.Name x p :: es) (y :: ys) lo lo'
theorem Names.each {c : Bool} {sc : Scope} {es : List Expr} {ys : List D} {lo lo' : Lo} {env : Env} (N : Names c sc es ys lo lo') : (assignEach es env).length = ys.length /\ (assignEach es env).findIdx? (·.1) = none:=by
 induction N with
 | nil=>exact ⟨rfl,rfl⟩
 | cons _ _ ih=>refine ⟨by show (_ :: _).length = _; rw [List.length_cons,List.length_cons,ih.1],?_⟩; show List.findIdx? _ ((false,_) :: _) = none; rw [List.findIdx?_cons]; simp [ih.2]
theorem aE_X {c : Bool} {ρ : Rh} {H : Hp} {X : List Addr} {h : Heap} {env : Env} {lo : Lo} {h2 : Heap} (I : Inv cx ρ H X h) (F : FrOk cx env lo ρ X h2) : ∀ a ∈ aE cx c env,a ∈ X:=fun a ha=>Bj I F a (v8 a ha)
theorem Names.go {c : Bool} {sc : Scope} {es : List Expr} {ys : List D} {lo lo' : Lo} (N : Names c sc es ys lo lo') : ∀ (A : Around) (env : Env) (X : List Addr) (ρ : Rh) (H : Hp) (s : Shared) (rvs : List Value),env.scope = sc -> Inv cx ρ H X s.heap -> FrOk cx env lo ρ X s.heap ->
  DRs cx.P (zH s.heap ρ X) rvs ys -> wpAny (M cx) A (assignInOrder ((assignEach es env).map (·.2)) rvs) (fun J s'=>Aft cx (aE cx c env) X ρ s H ρ s' /\ FrOk cx env lo' ρ X s'.heap) No s:=by
 induction N with
 | nil=>intro A env X ρ H s rvs _ I F _; exact assignInOrder_nil ⟨.refl I,F⟩
 | cons hk N ih =>
  intro A env X ρ H s rvs hs I F q
  cases q with
  | @cons rv _ _ _ q qs =>
   refine assignInOrder_cons (wpAny_mono (PyProof.Rows.assign_Name (Au (c:=c) (v:=.d _) I F (by rw [ao,hs]; exact hk) q)) (fun J s1 h1=>?_) fun J J x=>x)
   refine wpAny_mono (ih A env X ρ H s1 _ hs h1.1.inv h1.2 (qs.sub (h1.1.ext.sub (aE_X I F)))) (fun J s2 h2=>⟨h1.1.trans h2.1,h2.2⟩) fun J J x=>x
theorem IsTuple.of_z {h : Heap} {ρ : Rh} {X : List Addr} {a vs} (x : PTup (zH h ρ X) a vs) : PTup h a vs:=let ⟨n,e⟩:=x; ⟨n,(ax.mp e).1⟩
theorem IsList.of_z {h : Heap} {ρ : Rh} {X : List Addr} {a vs} (x : (zH h ρ X).PlainList a vs) : h.PlainList a vs:=let ⟨n,e⟩:=x; ⟨n,(ax.mp e).1⟩
theorem eu {c : Bool} {sc : Scope} {es : List Expr} {k : Nat} {p : Pos} {ys : List D} {lo lo' : Lo} (N : Names c sc es ys lo lo') : As cx c sc (.Tuple es k p) (.d (.tuple ys)) lo lo':=.mk fun A env X ρ H s rv hs hh I F q=>by
 cases q with
 | tuple ht hq =>
  have hl:=DRs.length hq
  refine wpAny_assign_Tuple hh (IsTuple.of_z ht).isTuple (by rw [(N.each).1,<- hl]; simp) (N.each).2 fun h' he=>?_
  have hk:=xd he
  have F':=Ext.fr (cx:=cx) (.grow (E:=cx.tabs) hk) I F
  refine wpAny_mono (N.go A env X ρ H { s with heap:=h' } _ hs (I.grow hk) F' (hq.sub (jv hk))) (fun J s2 h2=>⟨Aft.trans (Aft.grow (t:=s.toks) I hk) h2.1,h2.2⟩) fun J J x=>x
theorem eg {n : Nat} {sc : Scope} {lo lo' : Lo} {H H' : Hp} {e : Expr} {es : List Expr} {k : Nat} {p pos : Pos} {ys : List D} (h : Ev cx true n sc e lo H (.d (.tuple ys)) H') (N : Names true sc es ys lo lo')
  (hs : ∀ env,swapsWithSole [.Tuple es k p] e pos.line env = pure false:=by intro _; rfl) (hw : ∀ env,swappedStores [.Tuple es k p] e env = pure none:=by intro _; rfl) : Ex1 cx true n sc (.Assign [.Tuple es k p] e pos) lo H (.nxt lo') H':=.of fun A env X ρ s Qq Ee hs' hr I F kk =>
 Assign_Tuple (h.run hs' hr I F fun ρ1 rv s1 a1 q1=>by
  refine wpAny_mono ((eu N).go A env X ρ1 H' s1 rv hs' (hr.1 rfl) a1.inv (a1.fr I F) q1) (fun J s2 q=>?_) nn
  exact kk ρ1 _ _ ((a1.mono tE).trans (q.1.mono v8)) ⟨rfl,q.2⟩) (hs env) (hw env)
section touch
variable {ρ : Rh} {H : Hp} {X E : List Addr} {h h' : Heap} {a : Addr}
noncomputable abbrev But (a : Addr) (h h' : Heap) : Prop:=∀ b o,b ≠ a -> h.get? b = some o -> h'.get? b = some o
theorem du (hs : But a h h') (ha : a ∈ X) : Sub (zH h ρ X) (zH h' ρ X):=nu (fun b J e J h2=>hs b _ (fun q=>h2 (q ▸ ha)) e) fun J J J q=>q
theorem Inv.touch (I : Inv cx ρ H X h) (hs : But a h h') (ha : a ∈ X) (ht : a ∉ cx.tabs) (he : ∃ o,h'.get? a = some o) : Inv cx ρ H X h':=by
 have ne : ∀ b ∈ dk ρ,b ≠ a:=fun b hb q=>I.dx b hb (q ▸ ha)
 refine ⟨cx.gmono _ _ (du hs ha) I.g,I.tb.imp fun J=>cx.tmono _ _ _ (du hs (jp.mpr ⟨ha,ht⟩)),I.len,I.nd,fun b hb=>?_,I.dx,fun b hb=>?_,I.xt,fun i ob e=>?_⟩
 ·obtain ⟨o',e⟩:=I.ex b hb; exact ⟨o',hs b _ (ne b hb) e⟩
 ·by_cases q : b = a
  ·exact q ▸ he
  ·obtain ⟨o',e⟩:=I.xe b hb; exact ⟨o',hs b _ q e⟩
 ·exact (I.ob i ob e).move (du hs ha) (du hs (jp.mpr ⟨ha,ht⟩)) rfl (fun b J e1 e2=>hs b _ (ne b (b9 e1)) e2) (Nat.le_refl _) fun J J J e=>e
theorem FrOk.mv {ρ' : Rh} {Y : List Addr} {env : Env} {lo : Lo} (x : Ext cx.tabs ρ h ρ' h') (I : Inv cx ρ H X h) (F : FrOk cx env lo ρ X h) (hX : ∀ a ∈ X,a ∈ Y) (hz : Sub (zH h ρ X) (zH h' ρ' Y)) : FrOk cx env lo ρ' Y h':=by
 have pk : ∀ b o,b ∈ X -> b ∉ cx.tabs -> h.get? b = some o -> h'.get? b = some o:=fun b o hb ht e=>x.pres b o e (fun q=>I.dx b q hb) ht
 exact F.chgL (hX _ F.lx) (fun y c e=>hX _ (F.ce y c e).1) (fun c o q e=>q.elim (fun q=>pk c o (q ▸ F.lx) (q ▸ F.lt) e) fun ⟨y,q⟩=>pk c o (F.ce y c q).1 (F.ce y c q).2.1 e) fun J J=>VOk.move hz x.len x.idx
theorem FrOk.touch {env : Env} {lo : Lo} (F : FrOk cx env lo ρ X h) (hs : But a h h') (ha : a ∈ X) (hn : a ∉ own env) : FrOk cx env lo ρ X h':=by
 exact F.chgL F.lx (fun y c e=>(F.ce y c e).1) (fun c o q e=>hs c o (fun z=>hn (z ▸ fe.mpr q)) e) fun J J=>VOk.move (du hs ha) (Nat.le_refl _) fun J J J e=>e
theorem ee (hs : But a h h') : Sub (zH h ρ (a :: X)) (zH h' ρ X):=fun b ob e=>by
 obtain ⟨e,h1,h2⟩:=ax.mp e
 exact ax.mpr ⟨hs b _ (fun q=>h2 (q ▸ .head _)) e,h1,fun q=>h2 (.tail _ q)⟩
theorem Inv.drop (I : Inv cx ρ H (a :: X) h) (hs : But a h h') (ha : a ∉ X) (ht : ∀ b ∈ cx.tabs,b ∈ X) : Inv cx ρ H X h':=by
 have ne : ∀ b ∈ dk ρ,b ≠ a:=fun b hb q=>I.dx b hb (q ▸ .head _)
 have hT : Sub (zT cx h ρ (a :: X)) (zT cx h' ρ X):=by
  unfold zT
  rw [List.filter_cons,show cx.tabs.contains a = false by
   cases q : cx.tabs.contains a
   ·rfl
   ·exact absurd (ht _ (List.contains_iff_mem.mp q)) ha]
  exact ee hs
 refine ⟨cx.gmono _ _ (ee hs) I.g,I.tb.imp fun J=>cx.tmono _ _ _ hT,I.len,I.nd,fun b hb=>?_,fun b hb q=>I.dx b hb (.tail _ q),fun b hb=>?_,ht,fun i ob e=>?_⟩
 ·obtain ⟨o',e⟩:=I.ex b hb; exact ⟨o',hs b _ (ne b hb) e⟩
 ·obtain ⟨o',e⟩:=I.xe b (.tail _ hb); exact ⟨o',hs b _ (fun q=>ha (q ▸ hb)) e⟩
 ·have h1:=I.ob i ob e
  have hh : ∀ b ob,ρ[i]? = some (some b) -> h.get? b = some ob -> h'.get? b = some ob:=fun b ob e1 e2=>hs b _ (ne b (b9 e1)) e2
  cases ob with
  | lst xs=>obtain ⟨a,vs,e,⟨n,e1⟩,r⟩:=h1; exact ⟨a,vs,e,⟨n,hh a _ e e1⟩,r.sub (ee hs)⟩
  | lsl ls=>obtain ⟨a,vs,e,⟨n,e1⟩,r⟩:=h1; exact ⟨a,vs,e,⟨n,hh a _ e e1⟩,r.move (ee hs) (Nat.le_refl _) fun J J J e=>e⟩
  | dct es=>obtain ⟨a,vs,e,⟨m,ob,n,ep,e1,e2⟩,r⟩:=h1; exact ⟨a,vs,e,⟨m,ob,n,ep,hh a ob e e1,e2⟩,r.sub (ee hs)⟩
  | ins l=>obtain ⟨a,rv,e,x,r⟩:=h1; exact ⟨a,rv,e,cx.imono _ _ _ _ _ _ (ee hs) (fun ob e1=>hh a ob e e1) x,VOk.move (ee hs) (Nat.le_refl _) (fun J J J e=>e) r⟩
  | dead=>exact h1
theorem FrOk.drop {env : Env} {lo lo0 : Lo} {ρ0 : Rh} {h0 : Heap} (F : FrOk cx env lo ρ (a :: X) h) (F0 : FrOk cx env lo0 ρ0 X h0) (hs : But a h h') (hn : a ∉ own env) : FrOk cx env lo ρ X h':=by
 exact F.chgL F0.lx (fun y c e=>(F0.ce y c e).1) (fun c o q e=>hs c o (fun z=>hn (z ▸ fe.mpr q)) e) fun J J=>VOk.move (ee hs) (Nat.le_refl _) fun J J J e=>e
theorem Ext.touch {h₀ : Heap} {ρ₀ : Rh} (x : Ext E ρ₀ h₀ ρ h) (hs : But a h h') (h0 : h₀.get? a = none) : Ext E ρ₀ h₀ ρ h':=by
 have ne : ∀ b o,h₀.get? b = some o -> b ≠ a:=fun b o e q=>by rw [q,h0] at e; cases e
 exact ⟨x.len,x.idx,fun b o e h1 h2=>hs b o (ne b o e) (x.pres b o e h1 h2),fun b o e=>let ⟨o',e'⟩:=x.stay b o e; ⟨o',hs b o' (ne b o e) e'⟩,x.new⟩
end touch
structure Nh (cx : Cx) (I : Addr) (X : List Addr) (P : Heap -> Prop) (ρ : Rh) (s : Shared) (x : V) (rv : Value) (s'' : Shared) : Prop where
 fin : Fin s s''
 st : P s''.heap
 but : But I s.heap s''.heap
 ex : ∃ o,s''.heap.get? I = some o
 v : VOk cx (zH s''.heap ρ (I :: X)) ρ rv x
noncomputable def Kg (cx : Cx) (A : Around) (tgt : Expr) (I : Addr) (X : List Addr) (P : Heap -> Prop) (ρ : Rh) (s : Shared) (x : V) (r : Option Value) (s' : Shared) : Prop :=
 ∃ rv,r = some rv /\ wpAny (M cx) A (letOwnedTupleGo tgt (.ref I) rv) (fun J=>Nh cx I X P ρ s x rv) No s'
structure Kf (I : Addr) (s : Shared) (r : Option Value) (s' : Shared) : Prop where
 no : r = none
 fin : Fin s s'
 but : But I s.heap s'.heap
structure It (cx : Cx) (A : Around) (tgt : Expr) (I : Addr) (X : List Addr) (C : Hp -> Prop) (xs : List V) (St : Nat -> Rh -> Heap -> Prop) : Prop where
 self : ∀ j ρ s Q,St j ρ s.heap -> Q (.ref I) s -> wpAny (M cx) A (pyIter (.ref I)) Q No s
 frame : ∀ j ρ h ρ' H' h' E,St j ρ h -> (∀ a ∈ E,a ∈ X) -> I ∉ E -> I ∉ dk ρ -> Ext E ρ h ρ' h' -> Inv cx ρ' H' (I :: X) h' -> C H' -> St j ρ' h'
 item : ∀ j x ρ H s,xs[j]? = some x -> St j ρ s.heap -> Inv cx ρ H (I :: X) s.heap -> C H -> wpAny (M cx) A (pyNext (.ref I)) (Kg cx A tgt I X (St (j + 1) ρ) ρ s x) No s
 done : ∀ ρ H s,St xs.length ρ s.heap -> Inv cx ρ H (I :: X) s.heap -> C H -> wpAny (M cx) A (pyNext (.ref I)) (Kf I s) No s
structure ItOk (cx : Cx) (A : Around) (tgt : Expr) (X : List Addr) (C : Hp -> Prop) (xs : List V) (H' : Hp) (ρ : Rh) (s : Shared) (I : Addr) (ρ' : Rh) (St : List Addr -> Nat -> Rh -> Heap -> Prop) (s2 : Shared) : Prop where
 fin : Fin s s2
 new : s.heap.get? I = none
 ext : Ext cx.tabs ρ s.heap ρ' s2.heap
 inv : Inv cx ρ' H' (I :: X) s2.heap
 it : ∀ Y,(∀ a ∈ X,a ∈ Y) -> (∀ a ∈ cx.tabs,a ∈ Y) -> It cx A tgt I Y C xs (St Y)
 st : St X 0 ρ' s2.heap
 push : ∀ Y j ρ h o,St Y j ρ h -> I ≠ h.objs.size -> St (h.objs.size :: Y) j ρ (h.push o)
noncomputable def Ce (cx : Cx) (A : Around) (tgt : Expr) (X : List Addr) (C : Hp -> Prop) (xs : List V) (H' : Hp) (ρ : Rh) (s : Shared) (it : Value) (s2 : Shared) : Prop :=
 ∃ I ρ' St,it = .ref I /\ ItOk cx A tgt X C xs H' ρ s I ρ' St s2
structure jx (cx : Cx) (b : Bool) (n : Nat) (sc : Scope) (e tgt : Expr) (lo : Lo) (H : Hp) (xs : List V) (C : Hp -> Prop) (H' : Hp) : Prop where
 go : ∀ A env X ρ s,env.scope = sc -> Rm b n A -> Inv cx ρ H X s.heap -> FrOk cx env lo ρ X s.heap -> wpAny (M cx) A (eval e env) (fun x s1=>wpAny (M cx) A (pyIter x) (Ce cx A tgt X C xs H' ρ s) No s1) No s
inductive FoG (cx : Cx) (sc : Scope) (tgt : Expr) (B : Lo -> Hp -> R -> Hp -> Prop) (C : Hp -> Prop) : List V -> Lo -> Hp -> R -> Hp -> Prop
 | nil {lo H} : C H -> FoG cx sc tgt B C [] lo H (.nxt lo) H
 | step {x xs lo H lo1 lo2 H2 lo3 H3 r H'} : C H -> As cx true sc tgt x lo lo1 -> B lo1 H (.nxt lo2) H2 -> Cnv cx H.length lo2 H2 lo3 H3 -> FoG cx sc tgt B C xs lo3 H3 r H' -> FoG cx sc tgt B C (x :: xs) lo H r H'
 | ret {x xs lo H lo1 v H'} : C H -> As cx true sc tgt x lo lo1 -> B lo1 H (.ret v) H' -> FoG cx sc tgt B C (x :: xs) lo H (.ret v) H'
noncomputable abbrev Fo (cx : Cx) (b : Bool) (n : Nat) (sc : Scope) (tgt : Expr) (body : List Stmt) (C : Hp -> Prop) : List V -> Lo -> Hp -> R -> Hp -> Prop:=FoG cx sc tgt (fun lo H r H'=>Ex cx b n sc body lo H r H') C
section
variable {sc : Scope} {tgt : Expr} {B : Lo -> Hp -> R -> Hp -> Prop} {D : Hp -> Prop} {xs : List V} {x : V} {lo : Lo} {H H' : Hp} {r : R}
theorem FoG.C (W : FoG cx sc tgt B D xs lo H r H') : D H:=by
 cases W <;> assumption
theorem FoG.inv0 (W : FoG cx sc tgt B D [] lo H r H') : r = .nxt lo /\ H = H':=by cases W; exact ⟨rfl,rfl⟩
theorem FoG.inv1 (W : FoG cx sc tgt B D (x :: xs) lo H r H') : ∃ lo1,As cx true sc tgt x lo lo1 /\ ((∃ lo2 H2 lo3 H3,B lo1 H (.nxt lo2) H2 /\ Cnv cx H.length lo2 H2 lo3 H3 /\ FoG cx sc tgt B D xs lo3 H3 r H') \/ ∃ v,r = .ret v /\ B lo1 H (.ret v) H'):=by
 cases W with
 | step _ ha hb hc W=>exact ⟨_,ha,.inl ⟨_,_,_,_,hb,hc,W⟩⟩
 | ret _ ha hb=>exact ⟨_,ha,.inr ⟨_,rfl,hb⟩⟩
end
theorem u4 {α : Type} {xs : List α} {j : Nat} (h : j < xs.length) : ∃ x,xs[j]? = some x /\ xs.drop j = x :: xs.drop (j + 1) :=
 ⟨xs[j],List.getElem?_eq_getElem h,List.drop_eq_getElem_cons h⟩
theorem te {j n : Nat} (h : j < n) : n - (j + 1) < n - j:=Nat.sub_lt_sub_left h (Nat.lt_succ_self j)
theorem ve {ρ ρ2 : Rh} {X : List Addr} {h h2 : Heap} {Ia : Addr} (x2 : Ext cx.tabs ρ h ρ2 h2) (hE : ∀ a ∈ cx.tabs,a ∈ X) (hnone : h.get? Ia = none) : Sub (zH h ρ X) (zH h2 ρ2 (Ia :: X)):=fun b o e=>by
 refine al fun Gq kq=>?_
 obtain ⟨e0,_,hb⟩:=ax.mp e
 obtain ⟨e',h1,h2⟩:=ax.mp (x2.sub hE b o e)
 refine kq ?_
 refine ax.mpr ⟨e',h1,fun q=>?_⟩
 rcases List.mem_cons.mp q with q | q
 ·rw [q,hnone] at e0; cases e0
 ·exact h2 q
structure ForI (cx : Cx) (sc : Scope) (tgt : Expr) (B : Lo -> Hp -> R -> Hp -> Prop) (C : Hp -> Prop) (xs : List V) (r : R) (H' : Hp) (env : Env) (X : List Addr) (ρ : Rh) (s : Shared) (Ia : Addr) (St : Nat -> Rh -> Heap -> Prop) (s' : Shared) (j : Nat) (lo1 : Lo) (H1 : Hp) (ρ1 : Rh) : Prop where
 hj : j <= xs.length
 W : FoG cx sc tgt B C (xs.drop j) lo1 H1 r H'
 fin : Fin s s'
 ext : Ext (fE cx env) ρ s.heap ρ1 s'.heap
 inv : Inv cx ρ1 H1 (Ia :: X) s'.heap
 fr : FrOk cx env lo1 ρ1 (Ia :: X) s'.heap
 st : St j ρ1 s'.heap
noncomputable def ForK (cx : Cx) (sc : Scope) (tgt : Expr) (B : Lo -> Hp -> R -> Hp -> Prop) (C : Hp -> Prop) (xs : List V) (r : R) (H' : Hp) (env : Env) (X : List Addr) (ρ : Rh) (s : Shared) (Ia : Addr) (St : Nat -> Rh -> Heap -> Prop) (k : Nat) (s' : Shared) : Prop :=
 ∃ j,k = xs.length - j /\ ∃ lo1 H1 ρ1,ForI cx sc tgt B C xs r H' env X ρ s Ia St s' j lo1 H1 ρ1
theorem Kq {n : Nat} {sc : Scope} {e tgt : Expr} {body : List Stmt} {pos : Pos} {lo : Lo} {H H1 : Hp} {xs : List V} {C : Hp -> Prop} {r : R} {H' : Hp} {B : Lo -> Hp -> R -> Hp -> Prop} {A : Around} {env : Env} {X : List Addr} {ρ : Rh} {s : Shared}
  (hB : ∀ {lo H r H'},B lo H r H' -> ∀ X ρ s,Inv cx ρ H X s.heap -> FrOk cx env lo ρ X s.heap -> wpAny (M cx) A (execs body env) (kd cx env X ρ s r H') No s)
  (hit : jx cx true n sc e tgt lo H xs C H1) (W : FoG cx sc tgt B C xs lo H1 r H') (hs : env.scope = sc) (hr : Rm true n A) (I : Inv cx ρ H X s.heap) (F : FrOk cx env lo ρ X s.heap)
  (hfs : ∀ env x,foldedSetIterable e env x = pure x) : wpAny (M cx) A (exec (.For tgt e body [] pos) env) (kd cx env X ρ s r H') No s:=by
 refine wpAny_For (wpAny_mono (hit.go A env X ρ s hs hr I F) (fun rv s1 q=>wpAny_mono q (fun it s2 q=>?_) nn) nn) (hfs env)
 refine al fun Gq kq=>?_
 obtain ⟨Ia,ρ2,St',rfl,fin2,hnone,x2,I2,T,st2,_⟩:=q
 refine kq ?_
 replace T:=T X (fun J h=>h) I.xt
 generalize St' X = St at T st2
 have hIX : Ia ∉ X:=fun hb=>by obtain ⟨o,e⟩:=I.xe _ hb; rw [hnone] at e; cases e
 have hIo : Ia ∉ own env:=fun q=>hIX (F.own_X _ q)
 have hIt : Ia ∉ cx.tabs:=fun q=>hIX (I.xt _ q)
 have hfE : ∀ a ∈ fE cx env,a ∈ X:=Bj I F
 have hIE : Ia ∉ fE cx env:=fun q=>hIX (hfE _ q)
 refine codeAny_forLoop_any (ForK cx sc tgt B C xs r H' env X ρ s Ia St) ?_ _ ⟨0,rfl,lo,H1,ρ2,Nat.zero_le _,W,fin2,x2.mono tE,I2,FrOk.mv x2 I F (fun J h=>.tail _ h) (ve x2 I.xt hnone),st2⟩
 rintro k s3 ⟨j,hk,lo3,H3,ρ3,hj,W3,fin3,x3,I3,F3,st3⟩
 have hTX : ∀ a ∈ X,a ∈ Ia :: X:=fun J h=>.tail _ h
 rcases Nat.lt_or_ge j xs.length with hlt | hge
 ·refine al fun Gq kq=>?_
  obtain ⟨x,hx,hd⟩:=u4 hlt
  obtain ⟨lo1,ha,W4⟩:=FoG.inv1 (hd ▸ W3)
  refine kq ?_
  refine wpAny_mono (T.item j x ρ3 H3 s3 hx st3 I3 W3.C) (fun rr s4 q=>q.elim fun rv q=>q.1 ▸ wpAny_mono q.2 (fun J s5 q=>?_) nn) nn
  refine al fun Gq kq=>?_
  obtain ⟨fin5,st5,but5,ex5,v5⟩:=q
  refine kq ?_
  have I5:=I3.touch but5 (.head _) hIt ex5
  refine wpAny_mono (ha.go A env (Ia :: X) ρ3 H3 s5 rv hs (hr.1 rfl) I5 (F3.touch but5 (.head _) hIo) v5) (fun J s6 q=>?_) nn
  have x5:=x3.touch but5 hnone
  rcases W4 with ⟨lo2,H2,lo4,H4,hb,hc,W4⟩ | ⟨v,hv,hb⟩
  ·refine wpAny_mono (hB hb (Ia :: X) ρ3 s6 q.1.inv q.2) (fun f s7 q7=>q7.elim fun ρ7 q7=>?_) nn
   refine al fun Gq kq=>?_
   obtain ⟨a7,hf,F7⟩:=q7
   obtain ⟨ρ8,e8,I8,F8⟩:=hc env ρ7 (Ia :: X) s7.heap a7.inv F7
   refine kq ?_
   have a67:=q.1.trans a7
   have x57 : Ext (fE cx env) ρ3 s5.heap ρ8 s7.heap:=e8 _ _ _ (Nat.le_of_eq I3.len) a67.ext
   subst hf
   exact ⟨_,hk ▸ te hlt,j + 1,rfl,_,_,ρ8,hlt,W4,(fin3.trans fin5).trans a67.fin,x5.trans x57,I8,F8,T.frame (j + 1) ρ3 s5.heap ρ8 _ s7.heap (fE cx env) st5 hfE hIE (fun q=>I5.dx _ q (.head _)) x57 I8 W4.C⟩
  ·refine wpAny_mono (hB hb (Ia :: X) ρ3 s6 q.1.inv q.2) (fun f s7 q7=>q7.elim fun ρ7 q7=>?_) nn
   refine al fun Gq kq=>?_
   obtain ⟨a7,rv7,hf,q8⟩:=q7
   refine kq ?_
   have a67:=q.1.trans a7
   subst hf
   rw [hv]
   exact ⟨ρ7,⟨(fin3.trans fin5).trans a67.fin,a67.inv.show_ hTX I.xt,x5.trans a67.ext⟩,rv7,rfl,VOk.move (fb hTX) (Nat.le_refl _) (fun J J J e=>e) q8⟩
 ·have hj' : xs.length = j:=Nat.le_antisymm hge hj
  have hdn : xs.drop j = []:=by rw [<- hj',List.drop_length]
  obtain ⟨h1,h2⟩:=FoG.inv0 (hdn ▸ W3)
  refine wpAny_mono (T.done ρ3 H3 s3 (hj' ▸ st3) I3 W3.C) (fun rr s4 q=>?_) nn
  refine al fun Gq kq=>?_
  obtain ⟨hrr,fin4,but4⟩:=q
  refine kq ?_
  subst hrr
  rw [h1,<- h2]
  exact wpAny_execs_nil ⟨ρ3,⟨fin3.trans fin4,I3.drop but4 hIX I.xt,x3.touch but4 hnone⟩,rfl,F3.drop F but4 hIo⟩
theorem dp {n : Nat} {sc : Scope} {e tgt : Expr} {body : List Stmt} {pos : Pos} {lo : Lo} {H H1 : Hp} {xs : List V} {C : Hp -> Prop} {r : R} {H' : Hp} (hit : jx cx true n sc e tgt lo H xs C H1) (W : Fo cx true n sc tgt body C xs lo H1 r H')
  (hfs : ∀ env x,foldedSetIterable e env x = pure x:=by intro _ _; rfl) : Ex1 cx true n sc (.For tgt e body [] pos) lo H r H':=.mk fun A env X ρ s hs hr I F =>
 Kq (fun h X ρ s I F=>h.go A env X ρ s hs hr I F) hit W hs hr I F hfs
end
section
variable {cx : Cx}
noncomputable def A3 (tgt : Expr) : Prop:=∀ it v,letOwnedTupleGo tgt it v = pure ()
noncomputable def xz (tgt : Expr) : Prop:=A3 tgt \/ ∃ es k p,tgt = .Tuple es k p
theorem ow {prog : Program} {w : World} {A : Around} {E : Value -> Shared -> Prop} {s : Shared} {tgt : Expr} (ht : xz tgt) {I l : Addr} {i : Nat} {v : Value} {Q : Unit -> Shared -> Prop} (hit : s.heap.IsListIter I l i) (hQ : Q () s) :
  wpAny (model prog w) A (letOwnedTupleGo tgt (.ref I) v) Q E s:=by
 rcases ht with h | ⟨es,k,p,h⟩
 ·exact h (.ref I) v ▸ wpAny_pure hQ
 ·subst h
  cases v with
  | ref T=>exact wpAny_letOwnedTupleGo_listiter hit hQ
  | _=>exact wpAny_pure hQ
theorem ik {x : Str} {p : Pos} : xz (.Name x p):=.inl fun J J=>rfl
theorem ld {es : List Expr} {k} {p : Pos} : xz (.Tuple es k p):=.inr ⟨_,_,_,rfl⟩
theorem dr (h : Heap) : h.get? h.objs.size = none:=by
 cases e : h.get? h.objs.size with
 | none=>rfl
 | some o=>exact absurd (Heap.lt_size e) (Nat.lt_irrefl _)
theorem Gz {h : Heap} {ρ : Rh} {Y : List Addr} {I : Addr} {o : Obj} : Sub (zH h ρ (I :: Y)) (zH (h.push o) ρ (I :: h.objs.size :: Y)):=fun b ob e=>by
 obtain ⟨e,h1,h2⟩:=ax.mp e
 refine ax.mpr ⟨Heap.get?_push_of_some _ e,h1,fun q=>?_⟩
 rcases List.mem_cons.mp q with q | q
 ·exact h2 (q ▸ .head _)
 ·rcases List.mem_cons.mp q with q | q
  ·exact absurd (Heap.lt_size e) (q ▸ Nat.lt_irrefl _)
  ·exact h2 (.tail _ q)
theorem ia {h : Heap} {ρ : Rh} {X : List Addr} {o : Obj} : Sub (zH h ρ X) (zH (h.push o) ρ (h.objs.size :: X)):=fun b ob e=>by
 obtain ⟨e,h1,h2⟩:=ax.mp e
 refine ax.mpr ⟨Heap.get?_push_of_some _ e,h1,fun q=>?_⟩
 rcases List.mem_cons.mp q with q | q
 ·exact absurd (Heap.lt_size e) (q ▸ Nat.lt_irrefl _)
 ·exact h2 q
theorem Ext.keepI {E X : List Addr} {ρ ρ' : Rh} {h h' : Heap} {I : Addr} (x : Ext E ρ h ρ' h') (h1 : I ∉ E) (h2 : I ∉ dk ρ) : ∀ o,h.get? I = some o -> h'.get? I = some o:=fun o e=>x.pres I o e h2 h1
theorem O2 {E X : List Addr} {ρ ρ' : Rh} {h h' : Heap} {I : Addr} (x : Ext E ρ h ρ' h') (hE : ∀ a ∈ E,a ∈ X) : Sub (zH h ρ (I :: X)) (zH h' ρ' (I :: X)):=x.sub fun a ha=>.tail _ (hE a ha)
theorem DRs.item {P : PW} {z : Heap} {vs : Array Value} {xs : List D} {j : Nat} {x : V} (q : DRs P z vs.toList xs) (hx : (xs.map V.d)[j]? = some x) : ∃ v y,vs[j]? = some v /\ x = .d y /\ DR P z v y:=by
 rw [List.getElem?_map] at hx
 refine al fun Gq kq=>?_
 obtain ⟨y,hy,rfl⟩:=Option.map_eq_some_iff.mp hx
 obtain ⟨v,e,r⟩:=q.get hy
 refine kq ?_
 exact ⟨v,y,by rw [Array.getElem?_toList] at e; exact e,rfl,r⟩
theorem f9 {E : List Addr} {ρ ρ' : Rh} {h h' : Heap} (x : Ext E ρ h ρ' h') {a : Addr} (e : h'.get? a = none) : h.get? a = none:=by
 cases q : h.get? a with
 | none=>rfl
 | some o=>obtain ⟨o',e'⟩:=x.stay a o q; rw [e] at e'; cases e'
theorem Ab {A : Around} {tgt : Expr} {X : List Addr} {I : Addr} {xs : List V} {H' : Hp} {ρ ρ' : Rh} {s s2 : Shared} (Own : Nat -> Heap -> Prop) (Fz : Heap -> Prop) (fin : Fin s s2) (new : s.heap.get? I = none) (ext : Ext cx.tabs ρ s.heap ρ' s2.heap) (inv : Inv cx ρ' H' (I :: X) s2.heap)
  (own : Own 0 s2.heap) (fz : Fz (zH s2.heap ρ' (I :: X))) (keep : ∀ j h h',(∀ o,h.get? I = some o -> h'.get? I = some o) -> Own j h -> Own j h') (ex : ∀ j h,Own j h -> ∃ o,h.get? I = some o) (mono : ∀ z z',Sub z z' -> Fz z -> Fz z')
  (self : ∀ j s Q,Own j s.heap -> Q (.ref I) s -> wpAny (M cx) A (pyIter (.ref I)) Q No s)
  (item : ∀ X j x ρ H s (P : Heap -> Prop),(∀ h,But I s.heap h -> Own (j + 1) h -> P h) -> xs[j]? = some x -> Own j s.heap -> Fz (zH s.heap ρ (I :: X)) -> Inv cx ρ H (I :: X) s.heap -> wpAny (M cx) A (pyNext (.ref I)) (Kg cx A tgt I X P ρ s x) No s)
  (done : ∀ X ρ s,Own xs.length s.heap -> Fz (zH s.heap ρ (I :: X)) -> wpAny (M cx) A (pyNext (.ref I)) (Kf I s) No s) : Ce cx A tgt X (fun J=>True) xs H' ρ s (.ref I) s2 :=
 ⟨I,ρ',fun Y j ρ h=>Own j h /\ Fz (zH h ρ (I :: Y)),rfl,fin,new,ext,inv,fun Y J J=>⟨fun j J s Q st hQ=>self j s Q st.1 hQ,
  fun j J h J J h' J st hE hI hl x J J=>⟨keep j h h' (x.keepI (X:=Y) hI hl) st.1,mono _ _ (O2 x hE) st.2⟩,
  fun j x ρ H s hx st I' J=>item Y j x ρ H s _ (fun J hb h=>⟨h,mono _ _ (du hb (.head _)) st.2⟩) hx st.1 st.2 I',
  fun ρ J s st J J=>done Y ρ s st.1 st.2⟩,⟨own,fz⟩,fun J j J h J st J=>⟨keep j h _ (fun J e=>Heap.get?_push_of_some _ e) st.1,mono _ _ Gz st.2⟩⟩
structure LsZ (cx : Cx) (a : Addr) (vs : Array Value) (xs : List D) (z : Heap) : Prop where
 at_ : z.PlainList a vs
 rs : DRs cx.P z vs.toList xs
theorem LsZ.mono {a : Addr} {vs : Array Value} {xs : List D} (z z' : Heap) (hs : Sub z z') (h : LsZ cx a vs xs z) : LsZ cx a vs xs z':=⟨IsList.sub hs h.1,h.2.sub hs⟩
theorem d4 {n : Nat} {sc : Scope} {e tgt : Expr} {lo : Lo} {H H1 : Hp} {xs : List D} (h : Ev cx true n sc e lo H (.d (.list xs)) H1) (ht : xz tgt) : jx cx true n sc e tgt lo H (xs.map .d) (fun J=>True) H1:=.mk fun A env X ρ s hs hr I F =>
 h.run hs hr I F fun ρ1 rv s1 a1 q1=>by
  cases q1 with
  | @list a vs _ hl hq =>
  refine wpAny_pyIter_list (IsList.of_z hl).isList ?_
  refine Ab (fun j h=>h.IsListIter s1.heap.objs.size a j) (LsZ cx a vs xs) (a1.fin.trans ⟨_,_,rfl⟩) (f9 a1.ext (dr _)) (a1.ext.trans .push) (a1.inv.hide _) ⟨_,Heap.get?_push_size _ rfl,rfl,rfl⟩ ⟨IsList.sub ia hl,hq.sub ia⟩
   (fun j h h' k st=>Heap.IsListIter.at st k) (fun j h st=>st.imp fun J q=>q.1) LsZ.mono (fun j s Q st hQ=>wpAny_pyIter_listiter st hQ) (fun Y j x ρ H s P hP hx st fz J=>?_) fun Y ρ s st fz=>?_
  ·obtain ⟨v,y,hv,rfl,hd⟩:=fz.rs.item hx
   exact wpAny_pyNext_list_item st (IsList.of_z fz.at_).isList hv fun h' hit' hs'=>⟨v,rfl,ow ht hit' ⟨⟨_,_,rfl⟩,hP _ hs'.extBut hit',hs'.extBut,hit'.imp fun J q=>q.1,hd.sub (gm hs' (.head _))⟩⟩
  ·have hl:=DRs.length fz.rs
   exact wpAny_pyNext_list_end (hr.1 rfl) st (IsList.of_z fz.at_).isList (by simp at hl ⊢; exact Nat.le_of_eq hl) fun h' he=>⟨rfl,⟨_,_,rfl⟩,he⟩
theorem Inv.gh {ρ : Rh} {H : Hp} {X : List Addr} {h : Heap} (I : Inv cx ρ H X h) : cx.G h:=cx.gmono _ _ (fun J J e=>(ax.mp e).1) I.g
theorem cg {A : Around} {env : Env} {lo : Lo} {ρ : Rh} {H : Hp} {X : List Addr} {s : Shared} {x : Str} {pos : Pos} {v : Value} {Q : Value -> Shared -> Prop} (I : Inv cx ρ H X s.heap) (F : FrOk cx env lo ρ X s.heap)
  (hx : env.kindOf x = some .globalImplicit) (hg : cx.gl x = some v) (h : Q v s) (hd : (x == ("__debug__" : Str)) = false) : wpAny (M cx) A (eval (.Name x pos) env) Q No s:=by
 refine al fun Gq kq=>?_
 obtain ⟨mg,mb,h1,h2,h3⟩:=cx.glOk _ I.gh
 refine kq ?_
 refine Name_function_global F.kind hx ?_ hd
 rcases h3 x v hg with e | ⟨e1,e2⟩
 ·exact loadGlobal_global (by rw [F.gl]; exact h1) e h
 ·exact loadGlobal_builtin (by rw [F.gl]; exact h1) e1 (by rw [F.bu]; exact h2) e2 h
section
variable {b : Bool} {n : Nat} {sc : Scope} {lo : Lo} {H H1 H2 H3 : Hp}
theorem ua {x : Str} {pos : Pos} {i : Int} {t : Tok} (hx : sc.names.lookup x = some .globalImplicit) (hg : cx.gl x = some (.int i t)) (hd : (x == ("__debug__" : Str)) = false) : Ev cx b n sc (.Name x pos) lo H (.d (.int i)) H:=.mk fun A env X ρ s hs hr I F =>
 cg I F (by rw [ao,hs]; exact hx) hg ⟨ρ,.refl I,.int _ _⟩ hd
theorem i4 {args : List Expr} {env : Env} (hp : args.all cq = true) : (starEach args env).any (·.1) = false:=by
 induction args with
 | nil=>rfl
 | cons e es ih =>
  rw [List.all_cons,Bool.and_eq_true] at hp
  rw [eh hp.1,List.any_cons,ih hp.2]; rfl
theorem kg {pos : Pos} {l : List (Bool × Sem Value)} : (backTo pos l).any (·.1) = l.any (·.1):=by
 unfold backTo; rw [List.any_map]; rfl
theorem il {A : Around} {env : Env} {X : List Addr} {ρ : Rh} {s : Shared} {args : List Expr} {vs : List V} {f : Value} {pos : Pos} {Q : Args -> Shared -> Prop} (hp : args.all cq = true)
  (h : wpAny (M cx) A (spliced (backTo pos (starEach args env))) (ye cx X ρ s vs H1) No s) (hQ : ∀ rvs s',ye cx X ρ s vs H1 rvs s' -> Q ⟨rvs,[]⟩ s') : wpAny (M cx) A (evalArgs f true (backTo pos (starEach args env)) []) Q No s:=by
 cases args with
 | nil =>
  unfold evalArgs
  show wpAny (M cx) A (spliced (backTo pos (starEach [] env)) >>= _) Q No s
  refine wpAny_bind (wpAny_mono h (fun vs s' h'=>?_) fun J J x=>x)
  refine wpAny_bind (wpAny_pure ?_)
  refine wpAny_holding ?_
  exact wpAny_bind (wpAny_pure (wpAny_bind (wpAny_pure (wpAny_pure (hQ _ _ h')))))
 | cons e es =>
  rw [List.all_cons,Bool.and_eq_true] at hp
  rw [eh hp.1] at h ⊢
  exact evalArgs_plain (wpAny_mono h (fun rvs s' q=>hQ rvs s' q) fun J J x=>x)
theorem bo {f : Str} {id : String} {args : List Expr} {p pos : Pos} {vs : List V} {v : V} (hx : sc.names.lookup f = some .globalImplicit) (hg : cx.gl f = some (.builtin id)) (hd : (f == ("__debug__" : Str)) = false) (hp : args.all cq = true)
  (h : Evs cx b n sc args lo H vs H1) (ho : OpV cx b n (fun rvs=>call (.builtin id) rvs []) vs H1 v H2) : Ev cx b n sc (.Call (.Name f p) args [] pos) lo H v H2:=.mk fun A env X ρ s hs hr I F=>by
 refine wpAny_Call_Name_kw (cg I F (by rw [ao,hs]; exact hx) hg ?_ hd)
 refine callWith_builtin (by rw [kg]; exact i4 hp) (il hp (h.go A env X ρ s pos hs hr I F) fun rvs s1 q=>?_)
 obtain ⟨ρ1,a1,q1⟩:=q
 refine ho.run rvs hr a1.inv q1 fun ρ2 rv s2 a2 q2=>?_
 exact ⟨ρ2,a1.trans a2,q2⟩
theorem qp {f : Str} {T : String} {args : List Expr} {p pos : Pos} {vs : List V} {v : V} (hx : sc.names.lookup f = some .globalImplicit) (hg : cx.gl f = some (.type T)) (hd : (f == ("__debug__" : Str)) = false) (hp : args.all cq = true)
  (h : Evs cx b n sc args lo H vs H1) (ho : OpV cx b n (fun rvs=>call (.type T) rvs []) vs H1 v H2) : Ev cx b n sc (.Call (.Name f p) args [] pos) lo H v H2:=.mk fun A env X ρ s hs hr I F=>by
 refine wpAny_Call_Name_kw (cg I F (by rw [ao,hs]; exact hx) hg ?_ hd)
 refine PySem.callWith_type (by rw [kg]; exact i4 hp) (il hp (h.go A env X ρ s pos hs hr I F) fun rvs s1 q=>?_)
 obtain ⟨ρ1,a1,q1⟩:=q
 refine ho.run rvs hr a1.inv q1 fun ρ2 rv s2 a2 q2=>?_
 exact ⟨ρ2,a1.trans a2,q2⟩
noncomputable def tn (cx : Cx) (a : Addr) (fd : FuncData) : Prop:=∀ h,cx.G h -> h.NoLimit /\ h.CodeRec fd.code fd.qualname /\ ∃ o,h.get? a = some o /\ o.data = .func fd
theorem D0 {f : Str} {a : Addr} {fd : FuncData} {args : List Expr} {p pos : Pos} {vs : List V} {v : V} (hx : sc.names.lookup f = some .globalImplicit) (hg : cx.gl f = some (.ref a)) (hd : (f == ("__debug__" : Str)) = false) (hf : tn cx a fd) (hp : args.all cq = true)
  (h : Evs cx b n sc args lo H vs H1) (ho : OpV cx b n (fun rvs=>call (.ref a) rvs []) vs H1 v H2) : Ev cx b n sc (.Call (.Name f p) args [] pos) lo H v H2:=.mk fun A env X ρ s hs hr I F=>by
 refine wpAny_Call_Name_kw (cg I F (by rw [ao,hs]; exact hx) hg ?_ hd)
 refine al fun Gq kq=>?_
 obtain ⟨_,_,o,ho1,ho2⟩:=hf _ I.g
 obtain ⟨e0,h1,h2⟩:=ax.mp ho1
 refine kq ?_
 refine callWith_function (o:=o) (fd:=fd) (il hp (h.go A env X ρ s pos hs hr I F) fun rvs s1 q=>⟨?_,?_⟩)
 ·refine al fun Gq kq=>?_
  obtain ⟨ρ1,a1,q1⟩:=q
  refine kq ?_
  exact ⟨a1.ext.pres a o e0 h1 fun q=>h2 (a1.inv.xt _ q),ho2⟩
 ·refine al fun Gq kq=>?_
  obtain ⟨ρ1,a1,q1⟩:=q
  refine kq ?_
  refine ho.run rvs hr a1.inv q1 fun ρ2 rv s2 a2 q2=>?_
  exact ⟨ρ2,a1.trans a2,q2⟩
noncomputable def Ty (cx : Cx) (T : String) (H : Hp) (v : V) : Prop:=∀ ρ X (s : Shared) rv,Inv cx ρ H X s.heap -> VOk cx (zH s.heap ρ X) ρ rv v -> s.TypeIs rv T /\ ∀ a,rv = .ref a -> ∃ ob,s.heap.get? a = some ob /\ ob.dict = none
theorem d9 {x : Str} : Ty cx "str" H (.d (.str x)):=fun ρ X s rv J q=>by
 cases q with | str _ t=>exact ⟨typeIs_str s _ t,fun J e=>nomatch e⟩
theorem zc {i : Int} : Ty cx "int" H (.d (.int i)):=fun ρ X s rv J q=>by
 cases q with | int _ t=>exact ⟨typeIs_int s _ t,fun J e=>nomatch e⟩
theorem dy {i : Nat} {xs : List D} (h : H[i]? = some (.lst xs)) : Ty cx "list" H (.loc i):=fun ρ X s rv I q=>by
 refine al fun Gq kq=>?_
 obtain ⟨a,vs,e,⟨k,e1⟩,r⟩:=I.ob i _ h
 refine kq ?_
 have:=q.2 a e
 subst this
 exact ⟨⟨_,e1,rfl⟩,fun a' e=>by cases e; exact ⟨_,e1,rfl⟩⟩
theorem zb {i : Nat} {es : List (Str × D)} (h : H[i]? = some (.dct es)) : Ty cx "dict" H (.loc i):=fun ρ X s rv I q=>by
 refine al fun Gq kq=>?_
 obtain ⟨a,vs,e,⟨_,o,_,_,e1,⟨e2,e3,_⟩,_⟩,r⟩:=I.ob i _ h
 refine kq ?_
 have:=q.2 a e
 subst this
 exact ⟨⟨o,e1,e2⟩,fun a' e=>by cases e; exact ⟨o,e1,e3⟩⟩
theorem Ka {es : List (D × D)} : Ty cx "dict" H (.d (.dict es)):=fun ρ X s rv I q=>by
 cases q with
 | dict hd _ =>
  refine al fun Gq kq=>?_
  obtain ⟨_,o,_,_,e1,⟨e2,e3,_⟩,_⟩:=hd
  refine kq ?_
  exact ⟨⟨o,(ax.mp e1).1,e2⟩,fun a' e=>by cases e; exact ⟨o,(ax.mp e1).1,e3⟩⟩
theorem ba {o : Expr} {name : Str} {id T : String} {args : List Expr} {ap pos : Pos} {v0 : V} {vs : List V} {v : V} (h0 : Ev cx b n sc o lo H v0 H1) (h : Evs cx b n sc args lo H1 vs H2) (ht : Ty cx T H1 v0)
  (pa : PlainAttrs T) (slot : Slot T name id) (hty : typeOf (.builtin id) = pure (.type "method_descriptor")) (hp : args.all cq = true) (ho : OpV cx b n (fun rvs=>call (.builtin id) rvs []) (v0 :: vs) H2 v H3)
  (hline : (ap.endLine == pos.line) = true) (hbase : ∀ env,attributeBase o name env (eval o env) = eval o env:=by intro _; rfl)
  (hfew : ∀ env,((backTo pos (starEach args env)).all (fun x=>!x.1) && (backToKw pos (keywordEach [] env)).all (fun x=>x.1.isSome)
   && decide (args.length + ([] : List Keyword).length + (if ([] : List Keyword).isEmpty then 0 else 1) < 30)) = true:=by intro _; rfl) : Ev cx b n sc (.Call (.Attribute o name ap) args [] pos) lo H v H3:=.mk fun A env X ρ s hs hr I F=>by
 refine wpAny_Call_method (hbase env) (hfew env) hline pa slot hty (h0.run hs hr I F fun ρ1 rv s1 a1 q1=>?_)
 refine ⟨(ht ρ1 X s1 rv a1.inv q1).1,(ht ρ1 X s1 rv a1.inv q1).2,?_⟩
 refine callWith_builtin (by rw [kg]; exact i4 hp) (il hp (h.go A env X ρ1 s1 pos hs hr a1.inv (a1.fr I F)) fun rvs s2 q=>?_)
 obtain ⟨ρ2,a2,q2⟩:=q
 refine ho.run (rv :: rvs) hr a2.inv ⟨a2.v q1,q2⟩ fun ρ3 rv s3 a3 q3=>?_
 exact ⟨ρ3,a1.trans (a2.trans a3),q3⟩
end
structure Sig0 (fd : FuncData) (ps : List Str) (body : List Stmt) : Prop where
 body : fd.body = .stmts body
 clo : fd.closure = []
 gl : fd.globals = mainGlobals
 bu : fd.builtins = builtinsNs
 co : fd.scope.isCoroutine = false
 gen : fd.scope.isGenerator = false
 kind : fd.scope.kind = .function
 nd : ps.Nodup
structure Sig (fd : FuncData) (ps : List Str) (body : List Stmt) : Prop extends Sig0 fd ps body where
 bind : ∀ vals : List Value,vals.length = ps.length -> bindArgs fd ⟨vals,[]⟩ = pure (ps.zip vals)
end
section
variable {cx : Cx}
section hideN
variable {ρ : Rh} {H : Hp} {X N : List Addr} {h h' : Heap}
theorem iq (hk : ∀ b o,h.get? b = some o -> h'.get? b = some o) (hn : ∀ a ∈ N,h.get? a = none) : Sub (zH h ρ X) (zH h' ρ (N ++ X)):=fun b o e=>by
 obtain ⟨e,h1,h2⟩:=ax.mp e
 refine ax.mpr ⟨hk _ _ e,h1,fun q=>?_⟩
 rcases List.mem_append.mp q with q | q
 ·rw [hn _ q] at e; cases e
 ·exact h2 q
theorem Inv.hideN (I : Inv cx ρ H X h) (hk : ∀ b o,h.get? b = some o -> h'.get? b = some o) (hn : ∀ a ∈ N,h.get? a = none) (he : ∀ a ∈ N,∃ o,h'.get? a = some o) : Inv cx ρ H (N ++ X) h':=by
 have hs:=iq (ρ:=ρ) (X:=X) hk hn
 have hT : Sub (zT cx h ρ X) (zT cx h' ρ (N ++ X)):=by
  unfold zT
  rw [List.filter_append,show N.filter (fun a=>!(cx.tabs.contains a)) = N from List.filter_eq_self.mpr fun a ha=>by
   cases q : cx.tabs.contains a
   ·rfl
   ·obtain ⟨o,e⟩:=I.xe _ (I.xt _ (List.contains_iff_mem.mp q)); rw [hn a ha] at e; cases e]
  exact iq hk hn
 refine ⟨cx.gmono _ _ hs I.g,I.tb.imp fun J=>cx.tmono _ _ _ hT,I.len,I.nd,fun a ha=>let ⟨o',e⟩:=I.ex a ha; ⟨o',hk _ _ e⟩,fun a ha q=>?_,fun a ha=>?_,fun a ha=>List.mem_append.mpr (.inr (I.xt a ha)),fun i ob e=>?_⟩
 ·rcases List.mem_append.mp q with q | q
  ·obtain ⟨o',e⟩:=I.ex a ha; rw [hn a q] at e; cases e
  ·exact I.dx a ha q
 ·rcases List.mem_append.mp ha with q | q
  ·exact he a q
  ·obtain ⟨o',e⟩:=I.xe a q; exact ⟨o',hk _ _ e⟩
 ·have h1:=I.ob i ob e
  cases ob with
  | lst xs=>obtain ⟨a,vs,e,⟨n,e1⟩,r⟩:=h1; exact ⟨a,vs,e,⟨n,hk _ _ e1⟩,r.sub hs⟩
  | lsl ls=>obtain ⟨a,vs,e,⟨n,e1⟩,r⟩:=h1; exact ⟨a,vs,e,⟨n,hk _ _ e1⟩,r.move hs (Nat.le_refl _) fun J J J e=>e⟩
  | dct es=>obtain ⟨a,vs,e,⟨m,ob,n,ep,e1,e2⟩,r⟩:=h1; exact ⟨a,vs,e,⟨m,ob,n,ep,hk _ _ e1,e2⟩,r.sub hs⟩
  | ins l=>obtain ⟨a,rv,e,x,r⟩:=h1; exact ⟨a,rv,e,cx.imono _ _ _ _ _ _ hs (fun J e1=>hk _ _ e1) x,VOk.move hs (Nat.le_refl _) (fun J J J e=>e) r⟩
  | dead=>exact h1
theorem Ext.outN {E : List Addr} {ρ' : Rh} {h2 : Heap} (hk : ∀ b o,h.get? b = some o -> h'.get? b = some o) (hn : ∀ a ∈ N,h.get? a = none) (x : Ext (N ++ E) ρ h' ρ' h2) (hnew : ∀ a ∈ dk ρ',a ∉ dk ρ -> h.get? a = none) : Ext E ρ h ρ' h2 :=
 ⟨x.len,x.idx,fun b o e h1 h2=>x.pres b o (hk b o e) h1 fun q=>by
  rcases List.mem_append.mp q with q | q
  ·rw [hn b q] at e; cases e
  ·exact h2 q,fun b o e=>x.stay b o (hk b o e),hnew⟩
theorem j6 (hk : ∀ b o,h.get? b = some o -> h'.get? b = some o) {a : Addr} (e : h'.get? a = none) : h.get? a = none:=by
 cases q : h.get? a with
 | none=>rfl
 | some o=>rw [hk a o q] at e; cases e
end hideN
theorem i7 {z : Heap} {ρ : Rh} : ∀ {ps : List Str} {rvs : List Value} {vs : List V},VsOk cx z ρ rvs vs -> ∀ {y : Str} {v : V},(ps.zip vs).lookup y = some v -> ∃ rv,(ps.zip rvs).lookup y = some rv /\ VOk cx z ρ rv v
 | [],_,_,_,_,_,e=>by simp at e
 | p :: ps,[],[],_,_,_,e=>by simp at e
 | p :: ps,rv :: rvs,v :: vs,⟨h1,h2⟩,y,w,e=>by
  rw [List.zip_cons_cons,List.lookup_cons] at e
  rw [List.zip_cons_cons,List.lookup_cons]
  cases q : y == p with
  | true=>rw [q] at e; cases e; exact ⟨rv,rfl,h1⟩
  | false=>rw [q] at e; exact i7 h2 e
 | p :: ps,_ :: _,[],h,_,_,_=>h.elim
 | p :: ps,[],_ :: _,h,_,_,_=>h.elim
theorem gs {α : Type} {l : List (Str × α)} {y : Str} {v : α} (h : l.lookup y = some v) : y ∈ l.map (·.1):=List.mem_map.mpr ⟨_,bf h,rfl⟩
theorem wg {k : Str -> Option NameKind} : ∀ {bs : List (Str × Value)} {m : Str -> Option Value} {y : Str},y ∉ bs.map (·.1) -> bindL k bs m y = m y
 | [],_,_,_=>rfl
 | (n,v) :: bs,m,y,h=>by
  rw [bindL]
  rw [wg fun q=>h (.tail _ q)]
  split
  ·exact if_neg fun (q : y = n)=>h (q ▸ .head _)
  ·rfl
theorem we {k : Str -> Option NameKind} : ∀ {bs : List (Str × Value)} {m : Str -> Option Value} {y : Str},y ∉ bs.map (·.1) -> bindC k bs m y = m y
 | [],_,_,_=>rfl
 | (n,v) :: bs,m,y,h=>by
  rw [bindC]
  rw [we fun q=>h (.tail _ q)]
  split
  ·rfl
  ·exact if_neg fun (q : y = n)=>h (q ▸ .head _)
theorem wf {k : Str -> Option NameKind} : ∀ {bs : List (Str × Value)} {m : Str -> Option Value} {y : Str} {v : Value},(bs.map (·.1)).Nodup -> bs.lookup y = some v -> k y = some .local -> bindL k bs m y = some v
 | [],_,_,_,_,h,_=>by cases h
 | (n,w) :: bs,m,y,v,hn,h,hk=>by
  rw [List.map_cons,List.nodup_cons] at hn
  rw [List.lookup_cons] at h
  rw [bindL]
  split at h
  ·rename_i q
   rw [beq_iff_eq] at q; subst q; cases h
   rw [wg hn.1,if_pos hk]; exact if_pos rfl
  ·exact wf hn.2 h hk
theorem wd {k : Str -> Option NameKind} : ∀ {bs : List (Str × Value)} {m : Str -> Option Value} {y : Str} {v : Value},(bs.map (·.1)).Nodup -> bs.lookup y = some v -> k y ≠ some .local -> bindC k bs m y = some v
 | [],_,_,_,_,h,_=>by cases h
 | (n,w) :: bs,m,y,v,hn,h,hk=>by
  rw [List.map_cons,List.nodup_cons] at hn
  rw [List.lookup_cons] at h
  rw [bindC]
  split at h
  ·rename_i q
   rw [beq_iff_eq] at q; subst q; cases h
   rw [we hn.1,if_neg hk]; exact if_pos rfl
  ·exact wd hn.2 h hk
theorem nz : ∀ (ns : List (Str × NameKind)) (n : Nat) (acc : List (Str × Addr)) (y : Str),(acc.lookup y).isSome = true -> ((cellsFrom n ns acc).lookup y).isSome = true
 | [],_,_,_,h=>h
 | (x,k) :: ns,n,acc,y,h=>by
  rw [cellsFrom]
  split
  ·refine nz ns _ _ y ?_
   rw [List.lookup_cons]
   split
   ·rfl
   ·exact h
  ·exact nz ns _ _ y h
theorem iu : ∀ (ns : List (Str × NameKind)) (n : Nat) (acc : List (Str × Addr)) (y : Str),ns.lookup y = some .cell -> ((cellsFrom n ns acc).lookup y).isSome = true
 | [],_,_,_,h=>by cases h
 | (x,k) :: ns,n,acc,y,h=>by
  rw [List.lookup_cons] at h
  rw [cellsFrom]
  cases q : y == x with
  | true =>
   rw [q] at h
   cases h
   rw [if_pos (by rfl)]
   refine nz ns _ _ y ?_
   rw [List.lookup_cons,q]; rfl
  | false =>
   rw [q] at h
   split
   ·exact iu ns _ _ y h
   ·exact iu ns _ _ y h
theorem lg {α : Type} : ∀ {ps : List Str} {vs : List α},vs.length = ps.length -> (ps.zip vs).map (·.1) = ps
 | [],_,_=>by simp
 | p :: ps,[],h=>by cases h
 | p :: ps,v :: vs,h=>by rw [List.zip_cons_cons,List.map_cons,lg (by simpa using h)]
noncomputable def n9 (sc : Scope) (x : Str) : Prop:=sc.names.lookup x = some .local \/ sc.names.lookup x = some .cell
theorem VsOk.length {z : Heap} {ρ : Rh} : ∀ {rvs : List Value} {vs : List V},VsOk cx z ρ rvs vs -> rvs.length = vs.length
 | [],[],_=>rfl
 | _ :: _,_ :: _,⟨_,r⟩=>by rw [List.length_cons,List.length_cons,VsOk.length r]
 | [],_ :: _,h=>h.elim
 | _ :: _,[],h=>h.elim
theorem tu {prog : Program} {w : World} {A : Around} {s : Shared} {R : Result -> Shared -> Prop} {a : Addr} {o : Obj} {fd : FuncData} {body : List Stmt} {args : Args} {binds : List (Str × Value)}
  (hroom : A.depth < recursionLimit) (ho : s.heap.get? a = some o) (hdata : o.data = .func fd) (hlim : s.heap.NoLimit) (hcd : s.heap.CodeRec fd.code fd.qualname) (hbody : fd.body = .stmts body) (hclo : fd.closure = [])
  (hkind : ∀ x ∈ binds,fd.scope.names.lookup x.1 = some .local \/ (fd.scope.names.lookup x.1 = some .cell /\ ((cellsFrom (s.heap.objs.size + 1) fd.scope.names []).lookup x.1).isSome = true))
  (hco : fd.scope.isCoroutine = false) (hgen : fd.scope.isGenerator = false) (hk : fd.scope.kind = .function)
  (hbind : BindsTo s fd args binds)
  (h : ∀ s₁,InCallC s (callEnvC fd s.heap.objs.size a).locals (bindL (callEnvC fd s.heap.objs.size a).kindOf binds fun J=>none) (callEnvC fd s.heap.objs.size a).cells (bindC (callEnvC fd s.heap.objs.size a).kindOf binds fun J=>none) s₁ ->
   codeAny (model prog w) A (.func body (callEnvC fd s.heap.objs.size a)) R s₁) :
  codeAny (model prog w) A (.call (.ref a) args) R s :=
 codeAny_call_function hroom ho hdata hco hgen hbody hcd (hbind _ _ _ _ (by
  rw [hclo]
  exact wpAny_newFunctionEnv_cells hk hkind fun env e s' x=>by
   subst e
   exact ⟨hlim.keeps x.toInCall.keep,h s' x⟩))
structure Entered (cx : Cx) (b : Bool) (n : Nat) (fd : FuncData) (lo : Lo) (H : Hp) (X : List Addr) (ρ : Rh) (s : Shared) (A' : Around) (env : Env) (s₁ : Shared) : Prop where
 sc : env.scope = fd.scope
 code : env.code = fd.code
 globals : env.globals = mainGlobals
 qual : env.qual = fd.qualname ++ ".<locals>."
 frame : env.frame = some env.locals
 rm : Rm b n A'
 inv : Inv cx ρ H (own env ++ X) s₁.heap
 fr : FrOk cx env lo ρ (own env ++ X) s₁.heap
 keep : ∀ b o,s.heap.get? b = some o -> s₁.heap.get? b = some o
 fresh : ∀ c ∈ own env,s.heap.get? c = none
 fin : Fin s s₁
theorem Entered.back {b : Bool} {n : Nat} {fd : FuncData} {lo : Lo} {H H' : Hp} {X Y : List Addr} {ρ ρ' : Rh} {s s₁ s' : Shared} {A' : Around} {env : Env} (x : Entered cx b n fd lo H X ρ s A' env s₁) (hX : ∀ a ∈ cx.tabs,a ∈ X) (a1 : Aft cx (Y ++ fE cx env) (own env ++ X) ρ s₁ H' ρ' s') : Aft cx (Y ++ cx.tabs) X ρ s H' ρ' s' :=
 ⟨x.fin.trans a1.fin,a1.inv.show_ (fun a ha=>List.mem_append.mpr (.inr ha)) hX,.outN x.keep x.fresh (a1.ext.mono fun a ha=>by
  rcases List.mem_append.mp ha with h | h
  ·exact List.mem_append.mpr (.inr (List.mem_append.mpr (.inl h)))
  ·rcases List.mem_append.mp h with h | h
   ·exact List.mem_append.mpr (.inl (sq a h))
   ·exact List.mem_append.mpr (.inr (List.mem_append.mpr (.inr h)))) fun c h1 h2=>j6 x.keep (a1.ext.new c h1 h2)⟩
theorem gp {b : Bool} {n : Nat} {a : Addr} {fd : FuncData} {ps : List Str} {body : List Stmt} {vs : List V} {H : Hp} {args : Args} {rvs : List Value} {A : Around} {X : List Addr} {ρ : Rh} {s : Shared} {Q : Value -> Shared -> Prop} {E : Value -> Shared -> Prop} (hf : tn cx a fd) (S : Sig0 fd ps body) (hbind : BindsTo s fd args (ps.zip rvs)) (hlen : rvs.length = ps.length) (hp : ∀ x ∈ ps,n9 fd.scope x)
  (hr : Rm b (n + 1) A) (I : Inv cx ρ H X s.heap) (q : VsOk cx (zH s.heap ρ X) ρ rvs vs)
  (hx : ∀ env s₁,Entered cx b n fd (ps.zip vs) H X ρ s (A.deeper env) env s₁ -> wpAny (M cx) (A.deeper env) (execs body env) (fun f s'=>Q (match f with | .ret v=>v | _=>.none) s')
   (fun e s'=>wpAny (M cx) (A.deeper env) (leaving env e) (fun J s''=>E e s'') (fun e' s''=>E e' s'') s') s₁) : wpAny (M cx) A (call (.ref a) args.pos args.kw) Q E s:=by
 obtain ⟨hlim,hcd,o,ho,hdata⟩:=hf _ I.gh
 have hfst : (ps.zip rvs).map (·.1) = ps:=lg hlen
 refine wpAny_call (tu (by have:=hr.2.1; show _ < 1000; omega) ho hdata hlim hcd S.body S.clo (fun x hx=>?_) S.co S.gen S.kind hbind (fun s₁ C=>codeAny_func ?_))
 ·have hm : x.1 ∈ ps:=hfst ▸ List.mem_map.mpr ⟨x,hx,rfl⟩
  exact (hp x.1 hm).imp id fun h=>⟨h,iu _ _ _ _ h⟩
 ·generalize hE : callEnvC fd s.heap.objs.size a = env at C
  have hsc : env.scope = fd.scope:=hE ▸ rfl
  have hL : env.locals = s.heap.objs.size:=hE ▸ rfl
  have hCl : env.cells = cellsFrom (s.heap.objs.size + 1) fd.scope.names []:=hE ▸ rfl
  have hkind : env.kindOf = fun x=>fd.scope.names.lookup x:=by funext x; rw [ao,hsc]
  have hkeep:=C.toInCall.keep
  have above : ∀ c,(∃ x,env.cells.lookup x = some c) -> s.heap.objs.size < c:=fun c ⟨x,e⟩=>hL ▸ C.above x c (bf e)
  have fresh : ∀ c,s.heap.objs.size <= c -> s.heap.get? c = none:=fun c hc=>by
   cases e : s.heap.get? c with
   | none=>rfl
   | some o=>exact absurd (Heap.lt_size e) (Nat.not_lt.mpr hc)
  have hnone : ∀ c ∈ own env,s.heap.get? c = none:=fun c hc=>by
   rcases fe.mp hc with rfl | h
   ·exact fresh _ (hL ▸ Nat.le_refl _)
   ·exact fresh _ (Nat.le_of_lt (above c h))
  have hex : ∀ c ∈ own env,∃ o,s₁.heap.get? c = some o:=fun c hc=>by
   rcases fe.mp hc with rfl | ⟨x,h⟩
   ·obtain ⟨o,_,_,e,_⟩:=C.toInCall.ns; exact ⟨o,e⟩
   ·obtain ⟨o,e,_⟩:=C.cell x c h; exact ⟨o,e⟩
  have I1 : Inv cx ρ H (own env ++ X) s₁.heap:=I.hideN hkeep hnone hex
  have ntab : ∀ c ∈ own env,c ∉ cx.tabs:=fun c hc ht=>by
   obtain ⟨o,e⟩:=I.xe _ (I.xt _ ht); rw [hnone c hc] at e; cases e
  have hz:=iq (ρ:=ρ) (X:=X) hkeep hnone
  have q1 : VsOk cx (zH s₁.heap ρ (own env ++ X)) ρ rvs vs:=q.move hz (Nat.le_refl _) fun J J J e=>e
  have hnd : ((ps.zip rvs).map (·.1)).Nodup:=by rw [hfst]; exact S.nd
  have F1 : FrOk cx env (ps.zip vs) ρ (own env ++ X) s₁.heap:=by
   refine ⟨hsc ▸ S.kind,hE ▸ S.gl,hE ▸ S.bu,List.mem_append.mpr (.inl (.head _)),ntab _ (.head _),fun x c e=>?_,fun x y c e1 e2=>name_of_addr C.apart (bf e1) (bf e2),fun x k=>by rw [hCl]; rw [hkind] at k; exact iu _ _ _ _ k,⟨_,C.toInCall.ns,fun x v' e k=>?_⟩,fun x v' e k=>?_⟩
   ·have hm : c ∈ own env:=fe.mpr (.inr ⟨x,e⟩)
    exact ⟨List.mem_append.mpr (.inl hm),ntab c hm,by rw [hL]; exact Nat.ne_of_gt (above c ⟨x,e⟩),_,C.cell x c e⟩
   ·obtain ⟨rv,e1,e2⟩:=i7 q1 e
    exact ⟨rv,wf hnd e1 k,e2⟩
   ·obtain ⟨rv,e1,e2⟩:=i7 q1 e
    have hnl : env.kindOf x ≠ some .local:=by rcases k with k | k <;> rw [k] <;> exact fun z=>nomatch z
    have hmem : x ∈ ps:=hfst ▸ gs e1
    have hcs : (env.cells.lookup x).isSome = true:=by
     rcases hp x hmem with h | h
     ·rw [hkind] at hnl; exact absurd h hnl
     ·rw [hCl]; exact iu _ _ _ _ h
    obtain ⟨c,hc⟩:=Option.isSome_iff_exists.mp hcs
    have:=C.cell x c hc
    rw [wd hnd e1 hnl] at this
    exact ⟨c,rv,hc,this,e2⟩
  have hr1 : Rm b n (A.deeper env):=⟨hr.1,by show A.depth + 1 + n <= 600; have:=hr.2.1; omega,by show A.units + 3 + 40 * n <= 5000; have:=hr.2.2; omega⟩
  obtain ⟨h2,tk2,hs1⟩:=C.toInCall.same
  have fin1 : Fin s s₁:=⟨h2,tk2,hs1⟩
  exact hx env s₁ ⟨hsc,hE ▸ rfl,hE ▸ S.gl,hE ▸ rfl,hE ▸ rfl,hr1,I1,F1,hkeep,hnone,fin1⟩
theorem kh {b : Bool} {n : Nat} {a : Addr} {fd : FuncData} {ps : List Str} {body : List Stmt} {vs : List V} {H : Hp} {args : Args} {rvs : List Value} {A : Around} {X : List Addr} {ρ : Rh} {s : Shared} {Q : Value -> Shared -> Prop} {E : Value -> Shared -> Prop} (hf : tn cx a fd) (S : Sig0 fd ps body) (hbind : BindsTo s fd args (ps.zip rvs)) (hlen : rvs.length = ps.length) (hp : ∀ x ∈ ps,n9 fd.scope x)
  (hr : Rm b (n + 1) A) (I : Inv cx ρ H X s.heap) (q : VsOk cx (zH s.heap ρ X) ρ rvs vs)
  (hx : ∀ env s₁ A' (Q' : Flow -> Shared -> Prop),Entered cx b n fd (ps.zip vs) H X ρ s A' env s₁ -> (∀ f s',Q (match f with | .ret v=>v | _=>.none) s' -> Q' f s') -> wpAny (M cx) A' (execs body env) Q' No s₁) : wpAny (M cx) A (call (.ref a) args.pos args.kw) Q E s :=
 gp hf S hbind hlen hp hr I q fun env s₁ Z=>ie (hx env s₁ _ _ Z fun J J q=>q)
theorem zq {b : Bool} {n : Nat} {a : Addr} {fd : FuncData} {ps : List Str} {body : List Stmt} {vs : List V} {H H' : Hp} {v : V} {args : Args} {rvs : List Value} {A : Around} {X : List Addr} {ρ : Rh} {s : Shared} (hf : tn cx a fd) (S : Sig0 fd ps body) (hbind : BindsTo s fd args (ps.zip rvs)) (hlen : rvs.length = ps.length) (hp : ∀ x ∈ ps,n9 fd.scope x)
  (hx : Ex cx b n fd.scope body (ps.zip vs) H (.ret v) H' \/ (v = .d .none /\ ∃ lo',Ex cx b n fd.scope body (ps.zip vs) H (.nxt lo') H')) (hr : Rm b (n + 1) A) (I : Inv cx ρ H X s.heap) (q : VsOk cx (zH s.heap ρ X) ρ rvs vs) : wpAny (M cx) A (call (.ref a) args.pos args.kw) (ig cx X ρ s v H') No s:=by
 refine gp hf S hbind hlen hp hr I q fun env s₁ x=>?_
 have hXN : ∀ a ∈ X,a ∈ own env ++ X:=fun a ha=>List.mem_append.mpr (.inr ha)
 rcases hx with hx | ⟨rfl,lo',hx⟩
 ·refine hx.runR x.sc x.rm x.inv x.fr fun ρ' rv s2 a1 q2=>?_
  exact ⟨ρ',x.back (Y:=[]) I.xt a1,VOk.move (fb hXN) (Nat.le_refl _) (fun J J J e=>e) q2⟩
 ·refine hx.runN x.sc x.rm x.inv x.fr fun ρ' s2 a1 J=>?_
  exact ⟨ρ',x.back (Y:=[]) I.xt a1,.none⟩
theorem zr {b : Bool} {n : Nat} {a : Addr} {fd : FuncData} {ps : List Str} {body : List Stmt} {vs : List V} {H H' : Hp} {v : V} (hf : tn cx a fd) (S : Sig fd ps body) (hl : vs.length = ps.length) (hp : ∀ x ∈ ps,n9 fd.scope x)
  (hx : Ex cx b n fd.scope body (ps.zip vs) H (.ret v) H' \/ (v = .d .none /\ ∃ lo',Ex cx b n fd.scope body (ps.zip vs) H (.nxt lo') H')) : OpV cx b (n + 1) (fun rvs=>call (.ref a) rvs []) vs H v H':=.mk fun A X ρ s rvs hr I q =>
 have hlen : rvs.length = ps.length:=(VsOk.length q).trans hl
 zq (args:=⟨rvs,[]⟩) hf S.toSig0 (.of_eq (S.bind rvs hlen)) hlen hp hx hr I q
end
section
variable {cx : Cx}
noncomputable abbrev p9 (ifs : List Expr) (env : Env) : Sem Bool:=forIn ifs true fun c r=>if r = true then do let ok <- isTrue c env (eval c env); pure (ForInStep.yield ok) else pure (ForInStep.yield r)
structure A4 (cx : Cx) (b : Bool) (n : Nat) (sc : Scope) (ifs : List Expr) (lo : Lo) (H : Hp) (c : Bool) (H' : Hp) : Prop where
 go : ∀ A env X ρ s,env.scope = sc -> Rm b n A -> Inv cx ρ H X s.heap -> FrOk cx env lo ρ X s.heap -> wpAny (M cx) A (p9 ifs env) (zf cx X ρ s c H') No s
theorem le {b : Bool} {n : Nat} {sc : Scope} {lo : Lo} {H : Hp} : A4 cx b n sc [] lo H true H:=.mk fun J J J ρ J J J I J=>wpAny_tests_nil ⟨rfl,ρ,.refl I⟩
theorem nt {b : Bool} {n : Nat} {sc : Scope} {lo : Lo} {H H1 : Hp} {e : Expr} {c : Bool} (h : Tst cx b n sc e lo H c H1) : A4 cx b n sc [e] lo H c H1:=.mk fun A env X ρ s hs hr I F=>wpAny_tests_one (h.go A env X ρ s hs hr I F)
noncomputable abbrev App (cx : Cx) (b : Bool) (n : Nat) (acc : Nat) (v : V) (H H' : Hp) : Prop:=OpV cx b n (fun rvs=>call (.builtin "list.append") rvs []) [.loc acc,v] H (.d .none) H'
inductive Cf (cx : Cx) (n : Nat) (sc : Scope) (tgt : Expr) (ifs : List Expr) (elt : Expr) (C : Hp -> Prop) (acc : Nat) : List V -> Lo -> Hp -> Hp -> Prop
 | nil {lo H} : C H -> Cf cx n sc tgt ifs elt C acc [] lo H H
 | skip {x xs lo H lo1 H1 lo2 H2 H'} : C H -> As cx false sc tgt x lo lo1 -> A4 cx true n sc ifs lo1 H false H1 -> Cnv cx H.length lo1 H1 lo2 H2 -> Cf cx n sc tgt ifs elt C acc xs lo2 H2 H' -> Cf cx n sc tgt ifs elt C acc (x :: xs) lo H H'
 | take {x xs lo H lo1 H1 v H2 H3 lo2 H4 H'} : C H -> As cx false sc tgt x lo lo1 -> A4 cx true n sc ifs lo1 H true H1 -> Ev cx true n sc elt lo1 H1 v H2 -> App cx true n acc v H2 H3 -> Cnv cx H.length lo1 H3 lo2 H4 -> Cf cx n sc tgt ifs elt C acc xs lo2 H4 H' ->
   Cf cx n sc tgt ifs elt C acc (x :: xs) lo H H'
theorem Cf.C {n : Nat} {sc : Scope} {tgt : Expr} {ifs : List Expr} {elt : Expr} {C : Hp -> Prop} {acc : Nat} {xs : List V} {lo : Lo} {H H' : Hp} (W : Cf cx n sc tgt ifs elt C acc xs lo H H') : C H:=by cases W <;> assumption
theorem E8 {A : Around} {R : Result -> Shared -> Prop} {s : Shared} {elt target iter : Expr} {ifs : List Expr} {scope : Scope} {pos : Pos} {it acc : Value} {env : Env} (I : Nat -> Shared -> Prop)
  (turn : ∀ n s,I n s -> wpAny (M cx) A (pyNext it) (fun r s₁=>match r with
   | none=>R (.ok .next) s₁
   | some v=>wpAny (M cx) A (letOwnedTupleGo target it v) (fun J s₁'=>wpAny (M cx) A (assign target env v) (fun J s₂=>wpAny (M cx) A (p9 ifs env) (fun ok s₃ =>
      if ok = true then wpAny (M cx) A (eval elt env) (fun x s₄=>wpAny (M cx) A (call (.builtin "list.append") [acc,x]) (fun J s₅=>∃ m,m < n /\ I m s₅) No s₄) No s₃
      else ∃ m,m < n /\ I m s₃) No s₂) No s₁') No s₁) No s)
  (n : Nat) (h : I n s) : codeAny (M cx) A (.compLoop (.ListComp elt [⟨target,iter,ifs,0⟩] scope pos) 0 it acc env) R s:=by
 refine codeAny_loop rfl I (fun n s hI=>?_) n h
 show wpAny _ A ((compTurn (.ListComp elt [⟨target,iter,ifs,0⟩] scope pos) 0 it acc env).onRaise (fun x=>do noteFrame x env; theTreesLotGoes x)) _ _ s
 refine wpAny_noted ?_
 rw [compTurn_list]
 refine wpAny_bind (wpAny_standAt (wpAny_bind (wpAny_mono (turn n s hI) (fun r s₁ h₁=>?_) fun J J h'=>h'.elim)))
 cases r with
 | none=>exact wpAny_pure h₁
 | some v =>
  refine wpAny_bind (wpAny_mono h₁ (fun J s₁' h₁'=>?_) fun J J h'=>h'.elim)
  refine wpAny_bind (wpAny_mono h₁' (fun J s₂ h₂=>wpAny_bind (wpAny_mono h₂ (fun ok s₃ h₃=>?_) fun J J h'=>h'.elim)) fun J J h'=>h'.elim)
  cases ok with
  | false=>exact wpAny_pure ⟨rfl,h₃⟩
  | true =>
   exact wpAny_bind (wpAny_bind (wpAny_mono h₃ (fun x s₄ h₄=>wpAny_bind (wpAny_mono h₄ (fun J s₅ h₅=>wpAny_pure (wpAny_pure ⟨rfl,h₅⟩)) fun J J h'=>h'.elim)) fun J J h'=>h'.elim))
noncomputable def Ni (cx : Cx) (A : Around) (c : Code) (it acc : Value) (env : Env) (target : Expr) (ifs : List Expr) (elt : Expr) : Prop:=∀ (R : Result -> Shared -> Prop) (I : Nat -> Shared -> Prop)
  (_ : ∀ n s,I n s -> wpAny (M cx) A (pyNext it) (fun r s₁=>match r with
   | none=>R (.ok .next) s₁
   | some v=>wpAny (M cx) A (letOwnedTupleGo target it v) (fun J s₁'=>wpAny (M cx) A (assign target env v) (fun J s₂=>wpAny (M cx) A (p9 ifs env) (fun ok s₃ =>
      if ok = true then wpAny (M cx) A (eval elt env) (fun x s₄=>wpAny (M cx) A (call (.builtin "list.append") [acc,x]) (fun J s₅=>∃ m,m < n /\ I m s₅) No s₄) No s₃
      else ∃ m,m < n /\ I m s₃) No s₂) No s₁') No s₁) No s) (n : Nat) (s : Shared),I n s -> codeAny (M cx) A c R s
structure CfI (cx : Cx) (n : Nat) (sc : Scope) (tgt : Expr) (ifs : List Expr) (elt : Expr) (C : Hp -> Prop) (acc : Nat) (xs : List V) (H' : Hp) (cenv : Env) (Y : List Addr) (Ia : Addr) (accv : Value) (St : Nat -> Rh -> Heap -> Prop) (h₀ : Heap) (ρ₀ : Rh) (s₀ s' : Shared) (j : Nat) (lo1 : Lo) (H1 : Hp) (ρ1 : Rh) : Prop where
 hj : j <= xs.length
 W : Cf cx n sc tgt ifs elt C acc (xs.drop j) lo1 H1 H'
 fin : Fin s₀ s'
 ext : Ext (cenv.locals :: cx.tabs) ρ₀ h₀ ρ1 s'.heap
 inv : Inv cx ρ1 H1 (Ia :: Y) s'.heap
 fr : FrOk cx cenv lo1 ρ1 (Ia :: Y) s'.heap
 st : St j ρ1 s'.heap
 v : VOk cx (zH s'.heap ρ1 (Ia :: Y)) ρ1 accv (.loc acc)
noncomputable def CfK (cx : Cx) (n : Nat) (sc : Scope) (tgt : Expr) (ifs : List Expr) (elt : Expr) (C : Hp -> Prop) (acc : Nat) (xs : List V) (H' : Hp) (cenv : Env) (Y : List Addr) (Ia : Addr) (accv : Value) (St : Nat -> Rh -> Heap -> Prop) (h₀ : Heap) (ρ₀ : Rh) (s₀ : Shared) (k : Nat) (s' : Shared) : Prop :=
 ∃ j,k = xs.length - j /\ ∃ lo1 H1 ρ1,CfI cx n sc tgt ifs elt C acc xs H' cenv Y Ia accv St h₀ ρ₀ s₀ s' j lo1 H1 ρ1
section
variable {n : Nat} {sc : Scope} {tgt elt : Expr} {ifs : List Expr} {C : Hp -> Prop} {acc : Nat} {xs : List V} {x : V} {lo : Lo} {H H' : Hp}
theorem Cf.inv0 (W : Cf cx n sc tgt ifs elt C acc [] lo H H') : H = H':=by cases W; rfl
theorem Cf.inv1 (W : Cf cx n sc tgt ifs elt C acc (x :: xs) lo H H') : ∃ lo1 H1 c,As cx false sc tgt x lo lo1 /\ A4 cx true n sc ifs lo1 H c H1 /\ ((c = false /\ ∃ lo2 H2,Cnv cx H.length lo1 H1 lo2 H2 /\ Cf cx n sc tgt ifs elt C acc xs lo2 H2 H') \/
  (c = true /\ ∃ v H2 H3 lo2 H4,Ev cx true n sc elt lo1 H1 v H2 /\ App cx true n acc v H2 H3 /\ Cnv cx H.length lo1 H3 lo2 H4 /\ Cf cx n sc tgt ifs elt C acc xs lo2 H4 H')):=by
 cases W with
 | skip _ ha ht hc W=>exact ⟨_,_,_,ha,ht,.inl ⟨rfl,_,_,hc,W⟩⟩
 | take _ ha ht hv hp hc W=>exact ⟨_,_,_,ha,ht,.inr ⟨rfl,_,_,_,_,_,hv,hp,hc,W⟩⟩
end
theorem qo {A : Around} {n : Nat} {sc : Scope} {tgt elt : Expr} {ifs : List Expr} {c : Code} {C : Hp -> Prop} {acc : Nat} {xs : List V} {lo : Lo} {H H' : Hp} {cenv : Env} {Y : List Addr} {ρ : Rh} {s : Shared} {Ia : Addr} {accv : Value}
  {St : Nat -> Rh -> Heap -> Prop} {R : Result -> Shared -> Prop} {h₀ : Heap} {ρ₀ : Rh} {s₀ : Shared} (hL : Ni cx A c (.ref Ia) accv cenv tgt ifs elt) (hr : Rm true n A) (hs : cenv.scope = sc) (W : Cf cx n sc tgt ifs elt C acc xs lo H H') (T : It cx A tgt Ia Y C xs St)
  (I : Inv cx ρ H (Ia :: Y) s.heap) (F : FrOk cx cenv lo ρ (Ia :: Y) s.heap) (st : St 0 ρ s.heap) (q : VOk cx (zH s.heap ρ (Ia :: Y)) ρ accv (.loc acc)) (hIY : Ia ∉ Y) (hown : ∀ a ∈ own cenv,a ∈ Y) (htY : ∀ a ∈ cx.tabs,a ∈ Y)
  (fin : Fin s₀ s) (x₀ : Ext (cenv.locals :: cx.tabs) ρ₀ h₀ ρ s.heap) (hI0 : h₀.get? Ia = none)
  (hR : ∀ ρ' lo' s',Fin s₀ s' -> Ext (cenv.locals :: cx.tabs) ρ₀ h₀ ρ' s'.heap -> Inv cx ρ' H' Y s'.heap -> FrOk cx cenv lo' ρ' Y s'.heap -> VOk cx (zH s'.heap ρ' Y) ρ' accv (.loc acc) -> R (.ok .next) s')
  (Fy : ∃ lo0 ρ0 h0,FrOk cx cenv lo0 ρ0 Y h0) :
  codeAny (M cx) A c R s:=by
 have hIo : Ia ∉ own cenv:=fun q=>hIY (hown _ q)
 have hIt : Ia ∉ cx.tabs:=fun q=>hIY (htY _ q)
 have hE : ∀ a ∈ aE cx false cenv,a ∈ Y:=fun a ha=>by
  rcases List.mem_cons.mp ha with h | h
  ·exact hown _ (h ▸ .head _)
  ·exact htY _ h
 have hIE : Ia ∉ aE cx false cenv:=fun q=>hIY (hE _ q)
 have hTX : ∀ a ∈ Y,a ∈ Ia :: Y:=fun J h=>.tail _ h
 have tA : ∀ a ∈ cx.tabs,a ∈ aE cx false cenv:=fun J h=>.tail _ h
 refine hL R (CfK cx n sc tgt ifs elt C acc xs H' cenv Y Ia accv St h₀ ρ₀ s₀) ?_ _ _ ⟨0,rfl,lo,H,ρ,Nat.zero_le _,W,fin,x₀,I,F,st,q⟩
 rintro k s3 ⟨j,hk,lo3,H3,ρ3,hj,W3,fin3,x3,I3,F3,st3,q3⟩
 rcases Nat.lt_or_ge j xs.length with hlt | hge
 ·refine al fun Gq kq=>?_
  obtain ⟨x,hx,hd⟩:=u4 hlt
  obtain ⟨lo1,H1,c,ha,ht,W4⟩:=Cf.inv1 (hd ▸ W3)
  refine kq ?_
  refine wpAny_mono (T.item j x ρ3 H3 s3 hx st3 I3 W3.C) (fun rr s4 q=>q.elim fun rv q=>q.1 ▸ wpAny_mono q.2 (fun J s5 q=>?_) nn) nn
  refine al fun Gq kq=>?_
  obtain ⟨fin5,st5,but5,ex5,v5⟩:=q
  refine kq ?_
  have I5:=I3.touch but5 (.head _) hIt ex5
  have x5:=x3.touch but5 hI0
  have q5 : VOk cx (zH s5.heap ρ3 (Ia :: Y)) ρ3 accv (.loc acc):=VOk.move (du but5 (.head _)) (Nat.le_refl _) (fun J J J e=>e) q3
  refine wpAny_mono (ha.go A cenv (Ia :: Y) ρ3 H3 s5 rv hs (hr.1 rfl) I5 (F3.touch but5 (.head _) hIo) v5) (fun J s6 q6=>?_) nn
  refine wpAny_mono (ht.go A cenv (Ia :: Y) ρ3 s6 hs hr q6.1.inv q6.2) (fun c' s7 q7=>?_) nn
  refine al fun Gq kq=>?_
  obtain ⟨hc',ρ7,a7⟩:=q7
  refine kq ?_
  have fin : ∀ {ρ8 ρ9 s9 H9 lo9 H10},Aft cx cx.tabs (Ia :: Y) ρ3 s6 H9 ρ8 s9 -> Tie H3.length ρ8 ρ9 s9.heap -> Inv cx ρ9 H10 (Ia :: Y) s9.heap -> FrOk cx cenv lo9 ρ9 (Ia :: Y) s9.heap -> Cf cx n sc tgt ifs elt C acc (xs.drop (j + 1)) lo9 H10 H' ->
    ∃ m,m < k /\ CfK cx n sc tgt ifs elt C acc xs H' cenv Y Ia accv St h₀ ρ₀ s₀ m s9:=fun a9 e9 I9 F9 W9=>by
   have a69:=q6.1.trans (a9.mono tA)
   have x59:=e9 _ _ _ (Nat.le_of_eq I3.len) a69.ext
   exact ⟨_,hk ▸ te hlt,j + 1,rfl,_,_,_,hlt,W9,(fin3.trans fin5).trans a69.fin,x5.trans x59,I9,F9,T.frame (j + 1) ρ3 s5.heap _ _ _ _ st5 hE hIE (fun q=>I5.dx _ q (.head _)) x59 I9 W9.C,x59.v (X:=Ia :: Y) (fun a ha=>.tail _ (hE a ha)) q5⟩
  rcases W4 with ⟨hc,lo2,H2,hcn,W4⟩ | ⟨hc,v,H2,H5,lo2,H4,hv,hp,hcn,W4⟩
  ·rw [hc',hc,if_neg (by decide)]
   refine al fun Gq kq=>?_
   obtain ⟨ρ8,e8,I8,F8⟩:=hcn cenv ρ7 (Ia :: Y) s7.heap a7.inv (a7.fr q6.1.inv q6.2)
   refine kq ?_
   exact fin a7 e8 I8 F8 W4
  ·rw [hc',hc,if_pos rfl]
   refine hv.run hs hr a7.inv (a7.fr q6.1.inv q6.2) fun ρ8 y s8 a8 q8=>?_
   have a68:=q6.1.trans ((a7.trans a8).mono tA)
   refine hp.run [accv,y] hr a8.inv ⟨a68.ext.v (X:=Ia :: Y) (fun a ha=>.tail _ (hE a ha)) q5,q8,trivial⟩ fun ρ9 J s9 a9 J=>?_
   have a79:=a7.trans (a8.trans a9)
   refine al fun Gq kq=>?_
   obtain ⟨ρ10,e10,I10,F10⟩:=hcn cenv ρ9 (Ia :: Y) s9.heap a9.inv (a79.fr q6.1.inv q6.2)
   refine kq ?_
   exact fin a79 e10 I10 F10 W4
 ·have hj' : xs.length = j:=Nat.le_antisymm hge hj
  have hdn : xs.drop j = []:=by rw [<- hj',List.drop_length]
  have h2:=Cf.inv0 (hdn ▸ W3)
  refine wpAny_mono (T.done ρ3 H3 s3 (hj' ▸ st3) I3 W3.C) (fun rr s4 q=>?_) nn
  refine al fun Gq kq=>?_
  obtain ⟨hrr,fin4,but4⟩:=q
  refine kq ?_
  rw [hrr]
  refine al fun Gq kq=>?_
  obtain ⟨lo0,ρ0,h0,Fy⟩:=Fy
  refine kq ?_
  exact hR ρ3 _ s4 (fin3.trans fin4) (x3.touch but4 hI0) (h2 ▸ I3.drop but4 hIY htY) (F3.drop Fy but4 hIo) (VOk.move (ee but4) (Nat.le_refl _) (fun J J J e=>e) q3)
theorem Bd {A : Around} {n : Nat} {sc : Scope} {tgt elt iter : Expr} {ifs : List Expr} {scope : Scope} {pos : Pos} {C : Hp -> Prop} {acc : Nat} {xs : List V} {lo : Lo} {H H' : Hp} {cenv : Env} {Y : List Addr} {ρ : Rh} {s : Shared} {Ia : Addr} {accv : Value}
  {St : Nat -> Rh -> Heap -> Prop} {R : Result -> Shared -> Prop} {h₀ : Heap} {ρ₀ : Rh} {s₀ : Shared} (hr : Rm true n A) (hs : cenv.scope = sc) (W : Cf cx n sc tgt ifs elt C acc xs lo H H') (T : It cx A tgt Ia Y C xs St)
  (I : Inv cx ρ H (Ia :: Y) s.heap) (F : FrOk cx cenv lo ρ (Ia :: Y) s.heap) (st : St 0 ρ s.heap) (q : VOk cx (zH s.heap ρ (Ia :: Y)) ρ accv (.loc acc)) (hIY : Ia ∉ Y) (hown : ∀ a ∈ own cenv,a ∈ Y) (htY : ∀ a ∈ cx.tabs,a ∈ Y)
  (fin : Fin s₀ s) (x₀ : Ext (cenv.locals :: cx.tabs) ρ₀ h₀ ρ s.heap) (hI0 : h₀.get? Ia = none)
  (hR : ∀ ρ' lo' s',Fin s₀ s' -> Ext (cenv.locals :: cx.tabs) ρ₀ h₀ ρ' s'.heap -> Inv cx ρ' H' Y s'.heap -> FrOk cx cenv lo' ρ' Y s'.heap -> VOk cx (zH s'.heap ρ' Y) ρ' accv (.loc acc) -> R (.ok .next) s')
  (Fy : ∃ lo0 ρ0 h0,FrOk cx cenv lo0 ρ0 Y h0) :
  codeAny (M cx) A (.compLoop (.ListComp elt [⟨tgt,iter,ifs,0⟩] scope pos) 0 (.ref Ia) accv cenv) R s :=
 qo (fun J I t n J h=>E8 I t n h) hr hs W T I F st q hIY hown htY fin x₀ hI0 hR Fy
end
section
variable {cx : Cx}
theorem mi {scope : Scope} {env : Env} (h : ∀ x ∈ scope.names,x.2 = .free -> (env.cells.lookup x.1).isSome = true) :
  ∃ cl,closureFor scope env = pure cl /\ (∀ x c,cl.lookup x = some c -> env.cells.lookup x = some c) /\ ∀ x,(x,NameKind.free) ∈ scope.names -> cl.lookup x = env.cells.lookup x:=by
 have key : ∀ (ns : List (Str × NameKind)) (acc : List (Str × Addr)),(∀ x ∈ ns,x.2 = .free -> (env.cells.lookup x.1).isSome = true) -> (∀ x c,acc.lookup x = some c -> env.cells.lookup x = some c) ->
   ∃ cl,(forIn ns acc fun (x : Str × NameKind) (cs : List (Str × Addr))=>(if (x.2 == .free) = true then (do let c <- cellOf env x.1; pure (ForInStep.yield ((x.1,c) :: cs))) else pure (ForInStep.yield cs) : Sem (ForInStep (List (Str × Addr))))) = pure cl /\
    (∀ x c,cl.lookup x = some c -> env.cells.lookup x = some c) /\ (∀ x,(x,NameKind.free) ∈ ns \/ acc.lookup x = env.cells.lookup x -> cl.lookup x = env.cells.lookup x):=by
  intro ns
  induction ns with
  | nil=>intro acc _ ha; exact ⟨acc,rfl,ha,fun x hx=>hx.elim (fun h=>nomatch h) id⟩
  | cons p ns ih =>
   intro acc hn ha
   obtain ⟨y,k⟩:=p
   rw [List.forIn_cons]
   cases hk : k == NameKind.free with
   | false =>
    obtain ⟨cl,e,h1,h2⟩:=ih acc (fun x hx=>hn x (.tail _ hx)) ha
    refine ⟨cl,?_,h1,fun x hx=>h2 x (hx.imp (fun h=>?_) id)⟩
    ·simp only [Bool.false_eq_true,if_false,pure_bind]; exact e
    ·rcases List.mem_cons.mp h with h | h
     ·cases h; cases hk
     ·exact h
   | true =>
    have hkf : k = .free:=by rwa [beq_iff_eq] at hk
    obtain ⟨c,hc⟩:=Option.isSome_iff_exists.mp (hn (y,k) (.head _) hkf)
    have hc : env.cells.lookup y = some c:=hc
    have ha' : ∀ x c',List.lookup x ((y,c) :: acc) = some c' -> env.cells.lookup x = some c':=fun x c' e=>by
     rw [List.lookup_cons] at e
     split at e
     ·rename_i q; rw [beq_iff_eq] at q; subst q; cases e; exact hc
     ·exact ha x c' e
    obtain ⟨cl,e,h1,h2⟩:=ih ((y,c) :: acc) (fun x hx=>hn x (.tail _ hx)) ha'
    refine ⟨cl,?_,h1,fun x hx=>h2 x ?_⟩
    ·have : cellOf env y = pure c:=by unfold cellOf; rw [hc]
     simp only [if_true,this,pure_bind]; exact e
    ·by_cases hxy : x = y
     ·subst hxy
      exact .inr (by rw [List.lookup_cons,beq_self_eq_true]; exact hc.symm)
     ·rcases hx with h | h
      ·rcases List.mem_cons.mp h with h | h
       ·cases h; exact absurd rfl hxy
       ·exact .inl h
      ·refine .inr ?_
       rw [List.lookup_cons,show (x == y) = false from by rw [beq_eq_false_iff_ne]; exact hxy]
       exact h
 obtain ⟨cl,e,h1,h2⟩:=key scope.names [] h (fun x c e=>nomatch e)
 refine ⟨cl,?_,h1,fun x hx=>h2 x (.inl hx)⟩
 show (forIn scope.names [] _ >>= pure : Sem _) = _
 rw [bind_pure]
 exact e
noncomputable def mr (scope sc : Scope) : Scope :=
 { scope with names:=scope.names.map fun (n,k)=>if (k == .free && sc.kind == .function && sc.names.lookup n == some .cell) then (n,.cell) else (n,k) }
theorem um {scope sc : Scope} {x : Str} (h : scope.names.lookup x = some .free) : (mr scope sc).names.lookup x = some .cell \/ (mr scope sc).names.lookup x = some .free:=by
 unfold mr
 show List.lookup x (scope.names.map _) = _ \/ List.lookup x (scope.names.map _) = _
 generalize scope.names = ns at h
 induction ns with
 | nil=>cases h
 | cons p ns ih =>
  obtain ⟨y,k⟩:=p
  rw [List.lookup_cons] at h
  rw [List.map_cons]
  dsimp only
  cases q : x == y with
  | true =>
   rw [q] at h; cases h
   by_cases c : (NameKind.free == NameKind.free && sc.kind == .function && sc.names.lookup y == some .cell) = true
   ·rw [if_pos c,List.lookup_cons,q]; exact .inl rfl
   ·rw [if_neg c,List.lookup_cons,q]; exact .inr rfl
  | false =>
   rw [q] at h
   by_cases c : (k == NameKind.free && sc.kind == .function && sc.names.lookup y == some .cell) = true
   ·rw [if_pos c,List.lookup_cons,q]; exact ih h
   ·rw [if_neg c,List.lookup_cons,q]; exact ih h
theorem B4 {scope sc : Scope} {x : Str} (hc : ∀ y ∈ scope.names,y.2 ≠ .cell) (h : (mr scope sc).names.lookup x = some .cell) : (x,NameKind.free) ∈ scope.names:=by
 unfold mr at h
 have h : List.lookup x (scope.names.map _) = _:=h
 generalize scope.names = ns at h hc
 induction ns with
 | nil=>cases h
 | cons p ns ih =>
  obtain ⟨y,k⟩:=p
  rw [List.map_cons] at h
  dsimp only at h
  by_cases c : (k == NameKind.free && sc.kind == .function && sc.names.lookup y == some .cell) = true
  ·rw [if_pos c,List.lookup_cons] at h
   split at h
   ·rename_i q
    rw [beq_iff_eq] at q; subst q
    rw [Bool.and_eq_true,Bool.and_eq_true,beq_iff_eq] at c
    rw [c.1.1]; exact .head _
   ·exact .tail _ (ih h fun y hy=>hc y (.tail _ hy))
  ·rw [if_neg c,List.lookup_cons] at h
   split at h
   ·exact absurd (by injection h) (hc (y,k) (.head _))
   ·exact .tail _ (ih h fun y hy=>hc y (.tail _ hy))
noncomputable def ny (scope : Scope) (lo : Lo) : Lo:=lo.filter fun p=>scope.names.lookup p.1 == some .free
theorem jd {scope : Scope} {x : Str} {v : V} : ∀ {lo : Lo},(ny scope lo).lookup x = some v -> lo.lookup x = some v /\ scope.names.lookup x = some .free
 | [],h=>by cases h
 | (y,w) :: lo,h=>by
  unfold ny at h
  rw [List.filter_cons] at h
  rw [List.lookup_cons]
  split at h
  ·rename_i c
   rw [List.lookup_cons] at h
   split at h
   ·rename_i q
    cases h
    rw [beq_iff_eq] at q; subst q
    exact ⟨rfl,by simpa using c⟩
   ·exact jd h
  ·rename_i c
   obtain ⟨h1,h2⟩:=jd h
   cases q : x == y with
   | true=>rw [beq_iff_eq] at q; subst q; exact absurd (by simpa using h2) c
   | false=>exact ⟨h1,h2⟩
theorem Ext.shrink {E : List Addr} {a : Addr} {ρ ρ' : Rh} {h h' : Heap} (x : Ext (a :: E) ρ h ρ' h') (ha : h.get? a = none) : Ext E ρ h ρ' h' :=
 ⟨x.len,x.idx,fun b o e h1 h2=>x.pres b o e h1 fun q=>by
  rcases List.mem_cons.mp q with q | q
  ·rw [q,ha] at e; cases e
  ·exact h2 q,x.stay,x.new⟩
structure nv (scope : Scope) : Prop where
 cell : ∀ y ∈ scope.names,y.2 ≠ .cell
 kind : scope.kind = .function
 names : ∀ y ∈ scope.names,y.2 = .local -> scope.names.lookup y.1 = some .local
noncomputable def md (scope sc : Scope) (lo : Lo) : Prop:=∀ x,(x,NameKind.free) ∈ scope.names -> (lo.lookup x).isSome = true /\ (sc.names.lookup x = some .cell \/ sc.names.lookup x = some .free)
theorem wn {more : List Comprehension} {A : Around} {n : Nat} {sc : Scope} {iter tgt elt : Expr} {ifs : List Expr} {scope : Scope} {pos p0 : Pos} {C : Hp -> Prop} {xs : List V} {lo : Lo} {H H1 H' : Hp} {env : Env} {X : List Addr} {ρ : Rh} {s : Shared}
  {use : Option (Value -> Sem Unit)} {Q : Value -> Shared -> Prop}
  (S : nv scope) (hfi : md scope sc lo) (hit : jx cx true n sc iter tgt lo H xs C H1) (hC0 : C (H1 ++ [.lst []])) (hloop : ∀ {cenv : Env} {Y : List Addr} {ρ1 : Rh} {s1 : Shared} {Ia : Addr} {accv : Value} {St : Nat -> Rh -> Heap -> Prop} {R : Result -> Shared -> Prop},cenv.scope = mr scope sc -> It cx A tgt Ia Y C xs St -> Inv cx ρ1 (H1 ++ [.lst []]) (Ia :: Y) s1.heap -> FrOk cx cenv (ny scope lo) ρ1 (Ia :: Y) s1.heap -> St 0 ρ1 s1.heap -> VOk cx (zH s1.heap ρ1 (Ia :: Y)) ρ1 accv (.loc H1.length) -> Ia ∉ Y -> (∀ a ∈ own cenv,a ∈ Y) -> (∀ a ∈ cx.tabs,a ∈ Y) ->
   Fin s s1 -> Ext (cenv.locals :: cx.tabs) ρ s.heap ρ1 s1.heap -> s.heap.get? Ia = none -> (∀ p ∈ ny scope lo,cenv.kindOf p.1 ≠ some .local) ->
   (∀ ρ' lo' s',Fin s s' -> Ext (cenv.locals :: cx.tabs) ρ s.heap ρ' s'.heap -> Inv cx ρ' H' Y s'.heap -> FrOk cx cenv lo' ρ' Y s'.heap -> VOk cx (zH s'.heap ρ' Y) ρ' accv (.loc H1.length) -> R (.ok .next) s') ->
   (∃ lo0 ρ0 h0,FrOk cx cenv lo0 ρ0 Y h0) -> codeAny (M cx) A (.compLoop (.ListComp elt (⟨tgt,iter,ifs,0⟩ :: more) scope pos) 0 (.ref Ia) accv cenv) R s1)
  (hs : env.scope = sc) (hr : Rm true n A) (I : Inv cx ρ H X s.heap) (F : FrOk cx env lo ρ X s.heap)
  (hQ : ∀ ρ' s' m Ca acc,Fin s s' -> s.heap.get? Ca = none -> Ca ∉ X -> Ext cx.tabs ρ s.heap ρ' s'.heap -> Inv cx ρ' H' (Ca :: X) s'.heap -> FrOk cx env lo ρ' (Ca :: X) s'.heap -> s'.heap.Ns Ca m -> VOk cx (zH s'.heap ρ' (Ca :: X)) ρ' acc (.loc H1.length) ->
   compPost (M cx) A No use Q acc Ca (.ok .next) s')
  (hfs : ∀ x,foldedSetIterable iter env x = pure x) :
  wpAny (M cx) A (comprehension (.ListComp elt (⟨tgt,iter,ifs,0⟩ :: more) scope pos) scope env p0 (newList []) false (eval iter env) use) Q No s:=by
 have hcells : ∀ x ∈ scope.names,x.2 = .free -> ∃ c,env.cells.lookup x.1 = some c:=fun x hx hf=>by
  obtain ⟨y,k⟩:=x
  have hf : k = .free:=hf
  subst hf
  refine al fun Gq kq=>?_
  obtain ⟨h1,h2⟩:=hfi y hx
  obtain ⟨v,hv⟩:=Option.isSome_iff_exists.mp h1
  obtain ⟨c,_,e,_⟩:=F.cl y v hv (by rw [ao,hs]; exact h2)
  refine kq ?_
  exact ⟨c,e⟩
 obtain ⟨cl,hclos,hcl1,hcl2⟩:=mi (scope:=scope) (env:=env) fun x hx hf=>by obtain ⟨c,e⟩:=hcells x hx hf; rw [e]; rfl
 refine wpAny_comprehension_free (use:=use) rfl hfs hclos S.kind S.names (wpAny_mono (hit.go A env X ρ s hs hr I F) (fun xv s1 q=>wpAny_mono q (fun it s2 q=>?_) fun J J x=>x) fun J J x=>x)
 refine al fun Gq kq=>?_
 obtain ⟨Ia,ρ2,St,rfl,fin2,hnone,x2,I2,T,st2,wide⟩:=q
 refine kq ?_
 have hIX : Ia ∉ X:=fun hb=>by obtain ⟨o,e⟩:=I.xe _ hb; rw [hnone] at e; cases e
 refine wpAny_newObj_type (wpAny_newFunctionEnv S.cell (by intro y hy; simp at hy) (fun h₁ hns₁ hsb₁=>?_) S.kind)
 dsimp only at hns₁ hsb₁ ⊢
 generalize hH2 : s2.heap.push { cls:=.type "list",dict:=none,data:=.seq ([] : List Value).toArray } = h3 at hns₁ hsb₁ ⊢
 have hC : h3.objs.size = s2.heap.objs.size + 1:=by rw [<- hH2,Heap.size_push]
 have hD3 : h3.get? s2.heap.objs.size = some { cls:=.type "list",dict:=none,data:=.seq ([] : List Value).toArray }:=hH2 ▸ Heap.get?_push_size _ rfl
 have I3 : Inv cx (ρ2 ++ [some s2.heap.objs.size]) (H1 ++ [.lst []]) (Ia :: X) h3:=by
  rw [<- hH2]
  refine I2.new (.lst []) rfl ⟨s2.heap.objs.size,#[],?_,⟨_,Heap.get?_push_size _ rfl⟩,.nil⟩
  rw [List.getElem?_append_right (Nat.le_refl _),Nat.sub_self]; rfl
 have x3 : Ext cx.tabs ρ2 s2.heap (ρ2 ++ [some s2.heap.objs.size]) h3:=hH2 ▸ Ext.anew
 generalize hρ3 : ρ2 ++ [some s2.heap.objs.size] = ρ3 at I3 x3
 have hIs2 : ∃ o,s2.heap.get? Ia = some o:=I2.xe _ (.head _)
 have hIC : Ia ≠ h3.objs.size:=by obtain ⟨o,e⟩:=hIs2; rw [hC]; exact Nat.ne_of_lt (Nat.lt_succ_of_lt (Heap.lt_size e))
 have hCn : s.heap.get? h3.objs.size = none:=by
  cases q : s.heap.get? h3.objs.size with
  | none=>rfl
  | some o=>obtain ⟨o',e⟩:=x2.stay _ _ q; have:=Heap.lt_size e; rw [hC] at this; exact absurd (Nat.lt_of_succ_lt this) (Nat.lt_irrefl _)
 have hCX : h3.objs.size ∉ X:=fun hb=>by obtain ⟨o,e⟩:=I.xe _ hb; rw [hCn] at e; cases e
 have hCt : h3.objs.size ∉ cx.tabs:=fun hb=>hCX (I.xt _ hb)
 have st3 : St X 0 ρ3 h3:=(T X (fun J h=>h) I.xt).frame 0 ρ2 s2.heap ρ3 _ h3 cx.tabs st2 I.xt (fun q=>hIX (I.xt _ q)) (fun q=>I2.dx _ q (.head _)) x3 I3 hC0
 have k1 : ∀ b o,h3.get? b = some o -> h₁.get? b = some o:=fun b o e=>hsb₁.extBut b o (Nat.ne_of_lt (Heap.lt_size e)) (Heap.get?_push_of_some _ e)
 have hCex : ∃ o,h₁.get? h3.objs.size = some o:=by obtain ⟨o,_,_,e,_⟩:=hns₁; exact ⟨o,e⟩
 have I4' : Inv cx ρ3 (H1 ++ [.lst []]) ([h3.objs.size] ++ (Ia :: X)) h₁:=I3.hideN k1 (fun a ha=>by rw [List.mem_singleton.mp ha]; exact dr _) fun a ha=>by rw [List.mem_singleton.mp ha]; exact hCex
 have I4 : Inv cx ρ3 (H1 ++ [.lst []]) (Ia :: h3.objs.size :: X) h₁:=I4'.show_ (fun a ha=>by
  rcases List.mem_cons.mp ha with h | h
  ·exact h ▸ .tail _ (.head _)
  ·rcases List.mem_cons.mp h with h | h
   ·exact h ▸ .head _
   ·exact .tail _ (.tail _ h)) fun a ha=>.tail _ (.tail _ (I.xt a ha))
 have st4':=wide X 0 ρ3 h3 { cls:=.type "dict",data:=.dict #[] } st3 hIC
 have hXs : ∀ a ∈ X,a ∈ h3.objs.size :: X:=fun J h=>.tail _ h
 have TY:=T (h3.objs.size :: X) hXs fun a ha=>.tail _ (I.xt a ha)
 have xC : Ext [h3.objs.size] ρ3 (h3.push { cls:=.type "dict",data:=.dict #[] }) ρ3 h₁:=.same hsb₁ (.head _) hCex
 have hIl : Ia ∉ dk ρ3:=fun q=>I3.dx _ q (.head _)
 have st4 : St (h3.objs.size :: X) 0 ρ3 h₁:=TY.frame 0 ρ3 _ ρ3 _ h₁ [h3.objs.size] st4' (fun a ha=>by rw [List.mem_singleton.mp ha]; exact .head _) (fun q=>hIC (List.mem_singleton.mp q)) hIl xC I4 hC0
 have x4 : Ext cx.tabs ρ s.heap ρ3 h₁:=x2.trans (x3.trans (.grow k1))
 have hz4 : Sub (zH s.heap ρ X) (zH h₁ ρ3 (Ia :: h3.objs.size :: X)):=fun b o e=>by
  refine al fun Gq kq=>?_
  obtain ⟨e',h1,h2⟩:=ax.mp (ve x4 I.xt hCn b o e)
  refine kq ?_
  refine ax.mpr ⟨e',h1,fun q=>(List.mem_cons.mp q).elim (fun q=>?_) h2⟩
  rw [<- q,(ax.mp e).1] at hnone; cases hnone
 have pk : ∀ b o,b ∈ X -> b ∉ cx.tabs -> s.heap.get? b = some o -> h₁.get? b = some o:=fun b o hb ht e=>x4.pres b o e (fun q=>I.dx b q hb) ht
 generalize hcenv : ({ newEnv scope h3.objs.size env.globals cl env.qual none .none (some env) builtinsNs with scope:=relabel scope env } : Env) = cenv
 have eK : ∀ x,cenv.kindOf x = (mr scope sc).names.lookup x:=fun x=>by rw [<- hcenv,<- hs]; rfl
 have eL : cenv.locals = h3.objs.size:=by rw [<- hcenv]; rfl
 have eCl : cenv.cells = cl:=by rw [<- hcenv]; rfl
 have F4 : FrOk cx cenv (ny scope lo) ρ3 (Ia :: h3.objs.size :: X) h₁:=by
  refine ⟨by rw [<- hcenv]; exact S.kind,by rw [<- hcenv]; exact F.gl,by rw [<- hcenv]; exact F.bu,by rw [eL]; exact .tail _ (.head _),by rw [eL]; exact hCt,fun x c e=>?_,fun x y c e1 e2=>?_,fun x k=>?_,?_,fun x v e k=>?_⟩
  ·rw [eCl] at e
   refine al fun Gq kq=>?_
   obtain ⟨h1,h2,h3',v,o,ho,hd⟩:=F.ce x c (hcl1 x c e)
   refine kq ?_
   exact ⟨.tail _ (.tail _ h1),h2,by rw [eL]; rintro rfl; exact hCX h1,v,o,pk _ _ h1 h2 ho,hd⟩
  ·rw [eCl] at e1 e2; exact F.ci x y c (hcl1 x c e1) (hcl1 y c e2)
  ·rw [eK] at k
   have hm:=B4 S.cell k
   obtain ⟨c,hc⟩:=hcells _ hm rfl
   rw [eCl,hcl2 x hm,hc]; rfl
  ·refine ⟨_,eL ▸ hns₁,fun x v e k=>?_⟩
   obtain ⟨_,hf⟩:=jd e
   rw [eK] at k
   rcases um (sc:=sc) hf with h | h <;> rw [h] at k <;> cases k
  ·refine al fun Gq kq=>?_
   obtain ⟨hx,hf⟩:=jd e
   have hm:=bf hf
   obtain ⟨c,rv,e1,⟨o,ho,hd⟩,q⟩:=F.cl x v hx (by rw [ao,hs]; exact (hfi x hm).2)
   obtain ⟨h1,h2,h3',_⟩:=F.ce x c e1
   refine kq ?_
   exact ⟨c,rv,by rw [eCl,hcl2 x hm]; exact e1,⟨o,pk _ _ h1 h2 ho,hd⟩,VOk.move hz4 x4.len x4.idx q⟩
 have hown : ∀ a ∈ own cenv,a ∈ h3.objs.size :: X:=fun a ha=>by
  rcases fe.mp ha with h | ⟨x,h⟩
  ·rw [h,eL]; exact .head _
  ·rw [eCl] at h; exact .tail _ (F.ce x a (hcl1 x a h)).1
 have hsc : cenv.scope = mr scope sc:=by rw [<- hcenv,<- hs]; rfl
 have q4 : VOk cx (zH h₁ ρ3 (Ia :: h3.objs.size :: X)) ρ3 (.ref s2.heap.objs.size) (.loc H1.length):=by
  refine ⟨by rw [I3.len]; simp,fun a e=>?_⟩
  rw [<- hρ3,<- I2.len,List.getElem?_append_right (Nat.le_refl _),Nat.sub_self] at e
  cases e; rfl
 have F4y : FrOk cx cenv (ny scope lo) ρ3 (h3.objs.size :: X) h₁:=by
  refine ⟨F4.kind,F4.gl,F4.bu,by rw [eL]; exact .head _,F4.lt,fun x c e=>?_,F4.ci,F4.cs,?_,fun x v e k=>?_⟩
  ·refine al fun Gq kq=>?_
   obtain ⟨h1,h2,h3',r⟩:=F4.ce x c e
   refine kq ?_
   exact ⟨hown _ (fe.mpr (.inr ⟨x,e⟩)),h2,h3',r⟩
  ·refine al fun Gq kq=>?_
   obtain ⟨m,h1,h2⟩:=F4.ns
   refine kq ?_
   refine ⟨m,h1,fun x v e k=>?_⟩
   refine al fun Gq kq=>?_
   obtain ⟨rv,e1,q⟩:=h2 x v e k
   refine kq ?_
   exact ⟨rv,e1,VOk.move (fb fun J h=>.tail _ h) (Nat.le_refl _) (fun J J J e=>e) q⟩
  ·refine al fun Gq kq=>?_
   obtain ⟨c,rv,e1,hc,q⟩:=F4.cl x v e k
   refine kq ?_
   exact ⟨c,rv,e1,hc,VOk.move (fb fun J h=>.tail _ h) (Nat.le_refl _) (fun J J J e=>e) q⟩
 have hIY : Ia ∉ h3.objs.size :: X:=fun q=>by
  rcases List.mem_cons.mp q with q | q
  ·exact hIC q
  ·exact hIX q
 have fin4 : Fin s { s2 with heap:=h₁,toks:=s2.toks + ([] : List (Str × Value)).length }:=fin2.trans ⟨_,_,rfl⟩
 have loop : codeAny (M cx) A (.compLoop (.ListComp elt (⟨tgt,iter,ifs,0⟩ :: more) scope pos) 0 (.ref Ia) (.ref s2.heap.objs.size) cenv)
   (compPost (M cx) A No use Q (.ref s2.heap.objs.size) h3.objs.size) { s2 with heap:=h₁,toks:=s2.toks + ([] : List (Str × Value)).length }:=by
  refine hloop hsc TY I4 F4 st4 q4 hIY hown (fun a ha=>.tail _ (I.xt a ha)) fin4 (x4.mono fun J h=>.tail _ h) hnone (fun p hp k=>by
   rw [eK] at k
   obtain ⟨p1,p2⟩:=p
   have hf : scope.names.lookup p1 = some .free:=by
    unfold ny at hp
    simpa using (List.mem_filter.mp hp).2
   rcases um (sc:=sc) hf with h | h <;> rw [h] at k <;> cases k) (fun ρ' lo' s' fin' x' I' F' q'=>?_) ⟨_,_,_,F4y⟩
  rw [eL] at x'
  have x'':=x'.shrink hCn
  refine al fun Gq kq=>?_
  obtain ⟨m,hm,_⟩:=F'.ns
  refine kq ?_
  rw [eL] at hm
  exact hQ ρ' s' m h3.objs.size _ fin' hCn hCX x'' I' (FrOk.mv x'' I F hXs (ve x'' I.xt hCn)) hm q'
 have fin : wpAny (M cx) A (pyIter (.ref Ia)) (fun it' s'=>codeAny (M cx) A (.compLoop (.ListComp elt (⟨tgt,iter,ifs,0⟩ :: more) scope pos) 0 it' (.ref s2.heap.objs.size) cenv)
   (compPost (M cx) A No use Q (.ref s2.heap.objs.size) h3.objs.size) s') No { s2 with heap:=h₁,toks:=s2.toks + ([] : List (Str × Value)).length }:=TY.self 0 ρ3 _ _ st4 loop
 subst hcenv
 exact codeAny_compStart_list loop (wpAny_mono fin (fun J J h=>h) nn)
theorem wm {A : Around} {n : Nat} {sc : Scope} {iter tgt elt : Expr} {ifs : List Expr} {scope : Scope} {pos p0 : Pos} {C : Hp -> Prop} {xs : List V} {lo : Lo} {H H1 H' : Hp} {env : Env} {X : List Addr} {ρ : Rh} {s : Shared}
  {use : Option (Value -> Sem Unit)} {Q : Value -> Shared -> Prop}
  (S : nv scope) (hfi : md scope sc lo) (hit : jx cx true n sc iter tgt lo H xs C H1) (W : Cf cx n (mr scope sc) tgt ifs elt C H1.length xs (ny scope lo) (H1 ++ [.lst []]) H')
  (hs : env.scope = sc) (hr : Rm true n A) (I : Inv cx ρ H X s.heap) (F : FrOk cx env lo ρ X s.heap)
  (hQ : ∀ ρ' s' m Ca acc,Fin s s' -> s.heap.get? Ca = none -> Ca ∉ X -> Ext cx.tabs ρ s.heap ρ' s'.heap -> Inv cx ρ' H' (Ca :: X) s'.heap -> FrOk cx env lo ρ' (Ca :: X) s'.heap -> s'.heap.Ns Ca m -> VOk cx (zH s'.heap ρ' (Ca :: X)) ρ' acc (.loc H1.length) ->
   compPost (M cx) A No use Q acc Ca (.ok .next) s')
  (hfs : ∀ x,foldedSetIterable iter env x = pure x) :
  wpAny (M cx) A (comprehension (.ListComp elt [⟨tgt,iter,ifs,0⟩] scope pos) scope env p0 (newList []) false (eval iter env) use) Q No s :=
 wn S hfi hit W.C (fun hsc T I F st q h1 h2 h3 f x h0 J hR Fy=>Bd hr hsc W T I F st q h1 h2 h3 f x h0 hR Fy) hs hr I F hQ hfs
theorem Dn {X : List Addr} {ρ ρ' : Rh} {H' : Hp} {s s' : Shared} {Ca : Addr} {acc : Value} {i : Nat} {h' : Heap} (I : Inv cx ρ' H' (Ca :: X) s'.heap) (x : Ext cx.tabs ρ s.heap ρ' s'.heap) (fin : Fin s s') (hn : s.heap.get? Ca = none) (hX : Ca ∉ X) (ht : ∀ a ∈ cx.tabs,a ∈ X)
  (hs : Heap.SameBut Ca s'.heap h') (q : VOk cx (zH s'.heap ρ' (Ca :: X)) ρ' acc (.loc i)) : Aft cx cx.tabs X ρ s H' ρ' { s' with heap:=h' } /\ VOk cx (zH h' ρ' X) ρ' acc (.loc i) :=
 ⟨⟨fin.trans ⟨_,_,rfl⟩,I.drop hs.extBut hX ht,x.touch hs.extBut hn⟩,VOk.move (ee hs.extBut) (Nat.le_refl _) (fun J J J e=>e) q⟩
theorem cf {n : Nat} {sc : Scope} {iter tgt elt : Expr} {ifs : List Expr} {scope : Scope} {pos : Pos} {C : Hp -> Prop} {xs : List V} {lo : Lo} {H H1 H' : Hp}
  (S : nv scope) (hfi : md scope sc lo) (hit : jx cx true n sc iter tgt lo H xs C H1) (W : Cf cx n (mr scope sc) tgt ifs elt C H1.length xs (ny scope lo) (H1 ++ [.lst []]) H')
  (hfs : ∀ env x,foldedSetIterable iter env x = pure x:=by intro _ _; rfl) : Ev cx true n sc (.ListComp elt [⟨tgt,iter,ifs,0⟩] scope pos) lo H (.loc H1.length) H':=.mk fun A env X ρ s hs hr I F=>by
 rw [eval_ListComp]
 refine wm (use:=none) S hfi hit W hs hr I F (fun ρ' s' m Ca acc fin hn hX x I' F' hm q=>?_) (hfs env)
 refine ⟨m,hm,fun h' hs'=>?_⟩
 obtain ⟨a,q⟩:=Dn I' x fin hn hX I.xt hs' q
 exact ⟨ρ',a,q⟩
theorem qu {n : Nat} {sc : Scope} {iter tgt elt : Expr} {ifs : List Expr} {scope : Scope} {pos p spos : Pos} {y : Str} {C : Hp -> Prop} {xs : List V} {lo : Lo} {H H1 H' : Hp}
  (S : nv scope) (hfi : md scope sc lo) (hit : jx cx true n sc iter tgt lo H xs C H1) (W : Cf cx n (mr scope sc) tgt ifs elt C H1.length xs (ny scope lo) (H1 ++ [.lst []]) H')
  (hk : sc.names.lookup y = some .local) (hsw : ∀ env,env.scope = sc -> swapsWith (.ListComp elt [⟨tgt,iter,ifs,0⟩] scope pos) (some (.Name y p)) spos.line env = pure true)
  (hfs : ∀ env x,foldedSetIterable iter env x = pure x:=by intro _ _; rfl) : Ex1 cx true n sc (.Assign [.Name y p] (.ListComp elt [⟨tgt,iter,ifs,0⟩] scope pos) spos) lo H (.nxt ((y,.loc H1.length) :: lo)) H':=.mk fun A env X ρ s hs hr I F=>by
 rw [exec_Assign_Name_used _ _ _ _ (hsw env hs)]
 refine wpAny_bind (wpAny_standAt (wpAny_bind ?_))
 show wpAny _ A (do let _ <- comprehension (.ListComp elt [⟨tgt,iter,ifs,0⟩] scope pos) scope env _ (newList []) false (eval iter env) (some (assign (.Name y p) env))) _ _ s
 refine wpAny_bind (wpAny_mono (wm (use:=some (assign (.Name y p) env)) (Q:=fun J s'=>kd cx env X ρ s (.nxt ((y,.loc H1.length) :: lo)) H' .next s') S hfi hit W hs hr I F (fun ρ' s' m Ca acc fin hn hX x I' F' hm q=>?_) (hfs env)) (fun J s' hq=>wpAny_pure (wpAny_pure hq)) fun J J e=>e)
 have hLC : env.locals ≠ Ca:=fun e=>hX (e ▸ F.lx)
 refine wpAny_mono (PyProof.Rows.assign_Name (p8 I' F' (by rw [ao,hs]; exact hk) q)) (fun J s2 q2=>?_) fun J J x=>x
 obtain ⟨a2,F2⟩:=q2
 have hm2 : s2.heap.Ns Ca m:=Heap.Ns.at' hm fun o e=>a2.ext.pres Ca o e (fun q=>I'.dx _ q (.head _)) fun q=>by
  rcases List.mem_cons.mp q with q | q
  ·exact hLC q.symm
  ·exact hX (I.xt _ q)
 refine ⟨m,hm2,fun h' hs'=>⟨ρ',⟨fin.trans (a2.fin.trans ⟨_,_,rfl⟩),a2.inv.drop hs'.extBut hX I.xt,?_⟩,rfl,F2.drop F hs'.extBut ?_⟩⟩
 ·refine Ext.touch ?_ hs'.extBut hn
  exact (x.mono tE).trans (a2.ext.mono (v8 (c:=false)))
 ·intro q
  rcases fe.mp q with q | ⟨z,q⟩
  ·exact hLC q.symm
  ·exact hX (F.ce z Ca q).1
end
section
variable {cx : Cx} {B : Bool} {n : Nat} {H : Hp}
theorem vz {z : Heap} {ρ : Rh} {rvs : List Value} {x : V} {xs : List V} (q : VsOk cx z ρ rvs (x :: xs)) : ∃ u r,rvs = u :: r /\ VOk cx z ρ u x /\ VsOk cx z ρ r xs:=by
 cases rvs with
 | nil=>exact q.elim
 | cons u r=>exact ⟨u,r,rfl,q.1,q.2⟩
theorem Nb {z : Heap} {ρ : Rh} {rvs : List Value} (q : VsOk cx z ρ rvs []) : rvs = []:=by
 cases rvs with
 | nil=>rfl
 | cons u r=>exact q.elim
theorem one {z : Heap} {ρ : Rh} {rvs : List Value} {x : V} (q : VsOk cx z ρ rvs [x]) : ∃ u,rvs = [u] /\ VOk cx z ρ u x:=by
 obtain ⟨u,r,rfl,h1,h2⟩:=vz q
 exact ⟨u,by rw [Nb h2],h1⟩
theorem two {z : Heap} {ρ : Rh} {rvs : List Value} {x y : V} (q : VsOk cx z ρ rvs [x,y]) : ∃ u v,rvs = [u,v] /\ VOk cx z ρ u x /\ VOk cx z ρ v y:=by
 obtain ⟨u,r,rfl,h1,h2⟩:=vz q
 obtain ⟨v,rfl,h3⟩:=one h2
 exact ⟨u,v,rfl,h1,h3⟩
theorem uw {z : Heap} {ρ : Rh} {rvs : List Value} {x y w : V} (q : VsOk cx z ρ rvs [x,y,w]) : ∃ u v t,rvs = [u,v,t] /\ VOk cx z ρ u x /\ VOk cx z ρ v y /\ VOk cx z ρ t w:=by
 refine al fun Gq kq=>?_
 obtain ⟨u,r,rfl,h1,h2⟩:=vz q
 obtain ⟨v,t,rfl,h3,h4⟩:=two h2
 refine kq ?_
 exact ⟨u,v,t,rfl,h1,h3,h4⟩
theorem c9 {z : Heap} {ρ : Rh} {rv : Value} {a : Int} (q : VOk cx z ρ rv (.d (.int a))) : ∃ t,rv = .int a t:=by cases q with | int _ t=>exact ⟨t,rfl⟩
theorem gk {z : Heap} {ρ : Rh} {rv : Value} {a : Str} (q : VOk cx z ρ rv (.d (.str a))) : ∃ t,rv = .str a t:=by cases q with | str _ t=>exact ⟨t,rfl⟩
theorem Kj {z : Heap} {ρ : Rh} {rv : Value} {a : Bool} (q : VOk cx z ρ rv (.d (.bool a))) : rv = .bool a:=by cases q with | bool _=>rfl
theorem none_ {z : Heap} {ρ : Rh} {rv : Value} (q : VOk cx z ρ rv (.d .none)) : rv = .none:=by cases q; rfl
theorem dm {X : List Addr} {ρ : Rh} {s : Shared} {rv : Value} {x : D} (I : Inv cx ρ H X s.heap) (t : Nat) (h : DR cx.P (zH s.heap ρ X) rv x) : ig cx X ρ s (.d x) H rv { s with toks:=t }:=⟨ρ,.tok I t,h⟩
theorem f8 {X : List Addr} {ρ : Rh} {s : Shared} {rv : Value} {x : D} (I : Inv cx ρ H X s.heap) (h : DR cx.P (zH s.heap ρ X) rv x) : ig cx X ρ s (.d x) H rv s:=⟨ρ,.refl I,h⟩
section Si
variable {a b : Int}
theorem e7 : OpV cx B n (bin .Add) [.d (.int a),.d (.int b)] H (.d (.int (a + b))) H:=.mk fun A X ρ s rvs J I q=>by
 obtain ⟨u,v,rfl,q1,q2⟩:=two q; obtain ⟨t,rfl⟩:=c9 q1; obtain ⟨t',rfl⟩:=c9 q2
 exact P.add_int (dm I _ (.int _ _))
theorem ox : OpV cx B n (bin .Sub) [.d (.int a),.d (.int b)] H (.d (.int (a - b))) H:=.mk fun A X ρ s rvs J I q=>by
 obtain ⟨u,v,rfl,q1,q2⟩:=two q; obtain ⟨t,rfl⟩:=c9 q1; obtain ⟨t',rfl⟩:=c9 q2
 exact P.sub_int (dm I _ (.int _ _))
theorem Fv (hm : IntMulOk a b) : OpV cx B n (bin .Mult) [.d (.int a),.d (.int b)] H (.d (.int (a * b))) H:=.mk fun A X ρ s rvs J I q=>by
 obtain ⟨u,v,rfl,q1,q2⟩:=two q; obtain ⟨t,rfl⟩:=c9 q1; obtain ⟨t',rfl⟩:=c9 q2
 exact P.mul_int (dm I _ (.int _ _)) hm
theorem Fs : OpV cx B n (inp .Add) [.d (.int a),.d (.int b)] H (.d (.int (a + b))) H:=.mk fun A X ρ s rvs J I q=>by
 obtain ⟨u,v,rfl,q1,q2⟩:=two q; obtain ⟨t,rfl⟩:=c9 q1; obtain ⟨t',rfl⟩:=c9 q2
 exact P.iadd_int (dm I _ (.int _ _))
theorem jf (h0 : b ≠ 0) : OpV cx B n (bin .Mod) [.d (.int a),.d (.int b)] H (.d (.int (a.fmod b))) H:=.mk fun A X ρ s rvs J I q=>by
 obtain ⟨u,v,rfl,q1,q2⟩:=two q; obtain ⟨t,rfl⟩:=c9 q1; obtain ⟨t',rfl⟩:=c9 q2
 exact AutoIntOps.mod_1 (by simpa using h0) (dm I _ (.int _ _))
theorem iy (h0 : b ≠ 0) (hp : Builtin.divisionGoesByPylong a b = false) : OpV cx B n (bin .FloorDiv) [.d (.int a),.d (.int b)] H (.d (.int (a.fdiv b))) H:=.mk fun A X ρ s rvs J I q=>by
 obtain ⟨u,v,rfl,q1,q2⟩:=two q; obtain ⟨t,rfl⟩:=c9 q1; obtain ⟨t',rfl⟩:=c9 q2
 exact AutoIntOps.floordiv_1 (by simpa using h0) (by rw [hp]; decide) (dm I _ (.int _ _))
theorem gn : OpV cx B n (un .USub) [.d (.int a)] H (.d (.int (-a))) H:=.mk fun A X ρ s rvs J I q=>by
 obtain ⟨u,rfl,q1⟩:=one q; obtain ⟨t,rfl⟩:=c9 q1
 exact P.neg_int (dm I _ (.int _ _))
theorem pg : OpV cx B n (cmp .Eq) [.d (.int a),.d (.int b)] H (.d (.bool (a == b))) H:=.mk fun A X ρ s rvs J I q=>by
 obtain ⟨u,v,rfl,q1,q2⟩:=two q; obtain ⟨t,rfl⟩:=c9 q1; obtain ⟨t',rfl⟩:=c9 q2
 exact P.eq_int (f8 I (.bool _))
theorem o_ne : OpV cx B n (cmp .NotEq) [.d (.int a),.d (.int b)] H (.d (.bool (a != b))) H:=.mk fun A X ρ s rvs J I q=>by
 obtain ⟨u,v,rfl,q1,q2⟩:=two q; obtain ⟨t,rfl⟩:=c9 q1; obtain ⟨t',rfl⟩:=c9 q2
 exact P.ne_int (f8 I (.bool _))
theorem Br : OpV cx B n (cmp .Lt) [.d (.int a),.d (.int b)] H (.d (.bool (decide (a < b)))) H:=.mk fun A X ρ s rvs J I q=>by
 obtain ⟨u,v,rfl,q1,q2⟩:=two q; obtain ⟨t,rfl⟩:=c9 q1; obtain ⟨t',rfl⟩:=c9 q2
 exact P.lt_int (f8 I (.bool _))
theorem Mn : OpV cx B n (cmp .GtE) [.d (.int a),.d (.int b)] H (.d (.bool (decide (a >= b)))) H:=.mk fun A X ρ s rvs J I q=>by
 obtain ⟨u,v,rfl,q1,q2⟩:=two q; obtain ⟨t,rfl⟩:=c9 q1; obtain ⟨t',rfl⟩:=c9 q2
 exact P.ge_int (f8 I (.bool _))
theorem Ow : OpV cx B n (cmp .LtE) [.d (.int a),.d (.int b)] H (.d (.bool (decide (a <= b)))) H:=.mk fun A X ρ s rvs J I q=>by
 obtain ⟨u,v,rfl,q1,q2⟩:=two q; obtain ⟨t,rfl⟩:=c9 q1; obtain ⟨t',rfl⟩:=c9 q2
 exact P.le_int (f8 I (.bool _))
theorem Bw : OpB cx B n tru [.d (.int a)] H (a != 0) H:=.mk fun A X ρ s rvs J I q=>by
 obtain ⟨u,rfl,q1⟩:=one q; obtain ⟨t,rfl⟩:=c9 q1
 exact P.truthy_int ⟨rfl,ρ,.refl I⟩
theorem fa {c : Bool} : OpB cx B n tru [.d (.bool c)] H c H:=.mk fun A X ρ s rvs J I q=>by
 obtain ⟨u,rfl,q1⟩:=one q; have:=Kj q1; subst this
 exact wpAny_truthy_bool ⟨rfl,ρ,.refl I⟩
end Si
section Ss
variable {x y : Str}
theorem r7 : OpV cx B n (cmp .Eq) [.d (.str x),.d (.str y)] H (.d (.bool (x.cps.toList == y.cps.toList))) H:=.mk fun A X ρ s rvs J I q=>by
 obtain ⟨u,v,rfl,q1,q2⟩:=two q; obtain ⟨t,rfl⟩:=gk q1; obtain ⟨t',rfl⟩:=gk q2
 exact P.eq_str (f8 I (.bool _))
theorem Fw : OpV cx B n (cmp .NotEq) [.d (.str x),.d (.str y)] H (.d (.bool (x.cps.toList != y.cps.toList))) H:=.mk fun A X ρ s rvs J I q=>by
 obtain ⟨u,v,rfl,q1,q2⟩:=two q; obtain ⟨t,rfl⟩:=gk q1; obtain ⟨t',rfl⟩:=gk q2
 exact P.ne_str (f8 I (.bool _))
theorem oh (hsz : x.length + y.length <= sizeLine) : OpV cx B n (bin .Add) [.d (.str x),.d (.str y)] H (.d (.str (x ++ y))) H:=.mk fun A X ρ s rvs J I q=>by
 obtain ⟨u,v,rfl,q1,q2⟩:=two q; obtain ⟨t,rfl⟩:=gk q1; obtain ⟨t',rfl⟩:=gk q2
 exact SB.add (fun t' k=>dm I _ (.str _ _)) hsz
theorem k8 {i : Int} (hr : fitsSsize i = true) (hin : (Txt.charAt x i).isSome = true) : OpV cx B n gi [.d (.str x),.d (.int i)] H (.d (.str (Txt.item x i))) H:=.mk fun A X ρ s rvs J I q=>by
 obtain ⟨u,v,rfl,q1,q2⟩:=two q; obtain ⟨t,rfl⟩:=gk q1; obtain ⟨t',rfl⟩:=c9 q2
 exact SB.getItem hr hin (dm I _ (.str _ _))
end Ss
section Sn
noncomputable def isN : D -> Bool
 | .none=>true
 | _=>false
variable {x : D}
theorem Md {z : Heap} {ρ : Rh} {rv : Value} (q : VOk cx z ρ rv (.d x)) : (rv == .none) = (isN x):=by cases q <;> rfl
theorem dl : OpV cx B n (cmp .IsNot) [.d x,.d .none] H (.d (.bool (!(isN x)))) H:=.mk fun A X ρ s rvs J I q=>by
 obtain ⟨u,v,rfl,q1,q2⟩:=two q; have:=none_ q2; subst this
 exact isNot_none (Md q1 ▸ f8 I (.bool _))
end Sn
end
section
variable {cx : Cx} {B : Bool} {n : Nat} {H : Hp}
inductive Ls (H : Hp) : V -> List D -> Prop
 | loc {i xs} : H[i]? = some (.lst xs) -> Ls H (.loc i) xs
 | d {xs} : Ls H (.d (.list xs)) xs
theorem Ls.src {ρ : Rh} {X : List Addr} {h : Heap} {rv : Value} {v : V} {xs : List D} (L : Ls H v xs) (I : Inv cx ρ H X h) (q : VOk cx (zH h ρ X) ρ rv v) : ∃ a vs,rv = .ref a /\ h.PlainList a vs /\ DRs cx.P (zH h ρ X) vs.toList xs:=by
 cases L with
 | loc hi =>
  refine al fun Gq kq=>?_
  obtain ⟨a,vs,e,l,r⟩:=I.ob _ _ hi
  refine kq ?_
  exact ⟨a,vs,q.2 a e,l,r⟩
 | d=>cases q with | list l r=>exact ⟨_,_,rfl,IsList.of_z l,r⟩
theorem Ls.size {P : PW} {z : Heap} {vs : Array Value} {xs : List D} (q : DRs P z vs.toList xs) : vs.size = xs.length:=by rw [<- Array.length_toList]; exact q.length
theorem J2 {k : Int} {m j : Nat} (h : seqIndex? k m = some j) : (0 <= k /\ k.toNat = j) \/ (k < 0 /\ -(m : Int) <= k /\ (k + m).toNat = j):=by
 unfold seqIndex? at h
 dsimp only at h
 by_cases h0 : k < 0
 ·rw [if_pos h0] at h
  split at h
  ·rename_i c
   rw [Bool.and_eq_true,decide_eq_true_eq,decide_eq_true_eq] at c
   cases h; exact .inr ⟨h0,by omega,rfl⟩
  ·cases h
 ·rw [if_neg h0] at h
  split at h
  ·rename_i c
   rw [Bool.and_eq_true,decide_eq_true_eq,decide_eq_true_eq] at c
   cases h; exact .inl ⟨by exact c.1,rfl⟩
  ·cases h
theorem z7 {A : Around} {s : Shared} {E : Value -> Shared -> Prop} {a : Addr} {vs : Array Value} {k : Int} {t : Tok} {j : Nat} {x : Value} {Q : Value -> Shared -> Prop} (hl : s.heap.PlainList a vs) (hk : seqIndex? k vs.size = some j) (hr : fitsSsize k = true) (hx : vs[j]? = some x) (h : Q x s) :
  wpAny (M cx) A (getItem (.ref a) (.int k t)) Q E s:=by
 have hr' : -(2 ^ 63) <= k /\ k < 2 ^ 63:=by unfold fitsSsize at hr; simp at hr; exact ⟨hr.1,hr.2⟩
 rcases J2 hk with ⟨h0,rfl⟩ | ⟨h0,h1,rfl⟩
 ·exact wpAny_getItem_list hl.isList h0 hr'.2 hx h
 ·exact wpAny_getItem_list_neg hl.isList h0 h1 hr'.1 hx h
theorem oi {v : V} {xs : List D} {k : Int} {j : Nat} {x : D} (L : Ls H v xs) (hk : seqIndex? k xs.length = some j) (hr : fitsSsize k = true) (hx : xs[j]? = some x) : OpV cx B n gi [v,.d (.int k)] H (.d x) H:=.mk fun A X ρ s rvs J I q=>by
 refine al fun Gq kq=>?_
 obtain ⟨u,w,rfl,q1,q2⟩:=two q
 obtain ⟨t,rfl⟩:=c9 q2
 obtain ⟨a,vs,rfl,hl,r⟩:=L.src I q1
 obtain ⟨y,e,hd⟩:=r.get hx
 refine kq ?_
 rw [Array.getElem?_toList] at e
 exact z7 hl (by rw [Ls.size r]; exact hk) hr e (f8 I hd)
theorem VsOk.get {z : Heap} {ρ : Rh} : ∀ {rvs : List Value} {vs : List V},VsOk cx z ρ rvs vs -> ∀ {j : Nat} {v : V},vs[j]? = some v -> ∃ rv,rvs[j]? = some rv /\ VOk cx z ρ rv v
 | [],[],_,_,_,e=>by cases e
 | _ :: _,_ :: _,⟨h,r⟩,0,_,e=>by cases e; exact ⟨_,rfl,h⟩
 | _ :: _,_ :: _,⟨h,r⟩,j + 1,_,e=>by simpa using VsOk.get r (by simpa using e)
 | [],_ :: _,h,_,_,_=>h.elim
 | _ :: _,[],h,_,_,_=>h.elim
theorem Fr {i : Nat} {ls : List Nat} {k : Int} {j l : Nat} (hi : H[i]? = some (.lsl ls)) (hk : seqIndex? k ls.length = some j) (hr : fitsSsize k = true) (hx : ls[j]? = some l) : OpV cx B n gi [.loc i,.d (.int k)] H (.loc l) H:=.mk fun A X ρ s rvs J I q=>by
 obtain ⟨u,w,rfl,q1,q2⟩:=two q
 obtain ⟨t,rfl⟩:=c9 q2
 obtain ⟨a,vs,e,hl,r⟩:=I.ob _ _ hi
 have:=q1.2 a e
 subst this
 have hlen:=VsOk.length r
 rw [List.length_map,Array.length_toList] at hlen
 obtain ⟨y,e,hd⟩:=VsOk.get r (j:=j) (v:=.loc l) (by rw [List.getElem?_map,hx]; rfl)
 rw [Array.getElem?_toList] at e
 exact z7 hl (by rw [hlen]; exact hk) hr e ⟨ρ,.refl I,hd⟩
theorem cp {xs : List D} {k : Int} {j : Nat} {x : D} (hk : seqIndex? k xs.length = some j) (hr : fitsSsize k = true) (hx : xs[j]? = some x) : OpV cx B n gi [.d (.tuple xs),.d (.int k)] H (.d x) H:=.mk fun A X ρ s rvs J I q=>by
 obtain ⟨u,w,rfl,q1,q2⟩:=two q
 obtain ⟨t,rfl⟩:=c9 q2
 cases q1 with
 | @tuple a vs _ hl r =>
  obtain ⟨m,hl⟩:=IsTuple.of_z hl
  obtain ⟨y,e,hd⟩:=r.get hx
  rw [Array.getElem?_toList] at e
  have hr' : -2 ^ 63 <= k /\ k < 2 ^ 63:=by unfold fitsSsize at hr; simp at hr; exact ⟨hr.1,hr.2⟩
  exact P.getItem_tuple hl hr'.1 hr'.2 (by rw [Ls.size r]; exact hk) e (f8 I hd)
theorem b8 {v : V} {xs : List D} (L : Ls H v xs) (hs : xs.length <= 2 ^ 24) : OpV cx B n (fun rvs=>call (.builtin "len") rvs []) [v] H (.d (.int xs.length)) H:=.mk fun A X ρ s rvs J I q=>by
 obtain ⟨u,rfl,q1⟩:=one q
 obtain ⟨a,vs,rfl,hl,r⟩:=L.src I q1
 refine call_len_list hl.isList (by rw [Ls.size r]; omega) ?_
 rw [Ls.size r]
 exact dm I _ (.int _ _)
section
variable {b : Bool} {sc : Scope} {lo : Lo} {H1 H2 H3 : Hp}
theorem VsOk.ds {z : Heap} {ρ : Rh} : ∀ {rvs : List Value} {xs : List D},VsOk cx z ρ rvs (xs.map .d) -> DRs cx.P z rvs xs
 | [],[],_=>.nil
 | _ :: _,_ :: _,⟨h,r⟩=>.cons h (VsOk.ds r)
 | [],_ :: _,h=>h.elim
 | _ :: _,[],h=>h.elim
theorem cn {es : List Expr} {pos : Pos} {xs : List D} (h : Evs cx b n sc es lo H (xs.map .d) H1) (hsz : xs.length <= 2 ^ 24) : Ev cx b n sc (.List es pos) lo H (.d (.list xs)) H1:=.of fun A env X ρ s Qq Ee hs hr I F kk=>by
 show wpAny (M cx) A (do standAt pos; newList (<- spliced (backTo pos (starEach es env)))) _ _ s
 refine wpAny_bind (wpAny_standAt (wpAny_bind (h.run hs hr I F fun ρ1 rvs s1 a1 q1=>?_)))
 have q1:=VsOk.ds q1
 refine wpAny_newObj_type (kk ρ1 _ _ (a1.trans ⟨⟨_,_,rfl⟩,a1.inv.push _,.push⟩) (.list (vs:=rvs.toArray) ⟨_,tl a1.inv⟩ ?_)) (by show rvs.toArray.size <= sizeLine; rw [List.size_toArray,q1.length]; exact hsz)
 exact (by simpa using q1.sub fm)
theorem fh {es : List Expr} {pos : Pos} {xs : List D} (h : Evs cx b n sc es lo H (xs.map .d) H1) (hsz : xs.length <= 2 ^ 24) : Ev cx b n sc (.List es pos) lo H (.loc H1.length) (H1 ++ [.lst xs]):=.mk fun A env X ρ s hs hr I F=>by
 show wpAny (M cx) A (do standAt pos; newList (<- spliced (backTo pos (starEach es env)))) _ _ s
 refine wpAny_bind (wpAny_standAt (wpAny_bind (h.run hs hr I F fun ρ1 rvs s1 a1 q1=>?_)))
 have q1:=VsOk.ds q1
 have hget : (ρ1 ++ [some s1.heap.objs.size])[ρ1.length]? = some (some s1.heap.objs.size):=by rw [List.getElem?_append_right (Nat.le_refl _),Nat.sub_self]; rfl
 refine wpAny_newObj_type ⟨ρ1 ++ [some s1.heap.objs.size],a1.trans ⟨⟨_,_,rfl⟩,a1.inv.new (.lst xs) rfl ⟨_,rvs.toArray,hget,⟨_,Heap.get?_push_size _ rfl⟩,?_⟩,.anew⟩,?_⟩ (by show rvs.toArray.size <= sizeLine; rw [List.size_toArray,q1.length]; exact hsz)
 ·exact (by simpa using q1.sub j9)
 ·refine ⟨by rw [<- a1.inv.len]; simp,fun a e=>?_⟩
  rw [<- a1.inv.len,hget] at e; cases e; rfl
theorem Bh {es : List Expr} {pos : Pos} {ls : List Nat} (h : Evs cx b n sc es lo H (ls.map .loc) H1) (hsz : ls.length <= 2 ^ 24) : Ev cx b n sc (.List es pos) lo H (.loc H1.length) (H1 ++ [.lsl ls]):=.mk fun A env X ρ s hs hr I F=>by
 show wpAny (M cx) A (do standAt pos; newList (<- spliced (backTo pos (starEach es env)))) _ _ s
 refine wpAny_bind (wpAny_standAt (wpAny_bind (h.run hs hr I F fun ρ1 rvs s1 a1 q1=>?_)))
 have hlen:=VsOk.length q1
 have hget : (ρ1 ++ [some s1.heap.objs.size])[ρ1.length]? = some (some s1.heap.objs.size):=by rw [List.getElem?_append_right (Nat.le_refl _),Nat.sub_self]; rfl
 refine wpAny_newObj_type ⟨ρ1 ++ [some s1.heap.objs.size],a1.trans ⟨⟨_,_,rfl⟩,a1.inv.new (.lsl ls) rfl ⟨_,rvs.toArray,hget,⟨_,Heap.get?_push_size _ rfl⟩,?_⟩,.anew⟩,?_⟩ (by show rvs.toArray.size <= sizeLine; rw [List.size_toArray,hlen,List.length_map]; exact hsz)
 ·exact (by simpa using q1.move j9 (by simp) m8)
 ·refine ⟨by rw [<- a1.inv.len]; simp,fun a e=>?_⟩
  rw [<- a1.inv.len,hget] at e; cases e; rfl
theorem bt {es : List Expr} {k : Nat} {pos : Pos} {xs : List D} (h : Evs cx b n sc es lo H (xs.map .d) H1) (hsz : xs.length <= 2 ^ 24) : Ev cx b n sc (.Tuple es k pos) lo H (.d (.tuple xs)) H1:=.of fun A env X ρ s Qq Ee hs hr I F kk=>by
 show wpAny (M cx) A (do standAt pos; newTuple (<- spliced (backTo pos (starEach es env)))) _ _ s
 refine wpAny_bind (wpAny_standAt (wpAny_bind (h.run hs hr I F fun ρ1 rvs s1 a1 q1=>?_)))
 have q1:=VsOk.ds q1
 refine wpAny_newObj_type (kk ρ1 _ _ (a1.trans ⟨⟨_,_,rfl⟩,a1.inv.push _,.push⟩) (.tuple (vs:=rvs.toArray) ⟨_,tl a1.inv⟩ ?_)) (by show rvs.toArray.size <= sizeLine; rw [List.size_toArray,q1.length]; exact hsz)
 exact (by simpa using q1.sub fm)
noncomputable def TyS (cx : Cx) (H : Hp) (v : V) : Prop:=∃ T id,typeLookup (.type T) "__getitem__" = pure (some (.builtin id)) /\ ∀ ρ X (s : Shared) rv,Inv cx ρ H X s.heap -> VOk cx (zH s.heap ρ X) ρ rv v -> s.TypeIs rv T
theorem kc {x : Str} : TyS cx H (.d (.str x)):=⟨"str",_,F.slot_str_getitem.lookup,fun ρ X s rv I q=>(d9 ρ X s rv I q).1⟩
theorem bq {v : V} {xs : List D} (L : Ls H v xs) : TyS cx H v:=⟨"list",_,slot_list_getitem.lookup,fun ρ X s rv I q=>by obtain ⟨a,vs,rfl,hl,_⟩:=L.src I q; exact hl.isList.typeIs⟩
theorem ft {i : Nat} {ls : List Nat} (h : H[i]? = some (.lsl ls)) : TyS cx H (.loc i):=⟨"list",_,slot_list_getitem.lookup,fun ρ X s rv I q=>by
 obtain ⟨a,vs,e,hl,r⟩:=I.ob i _ h
 have:=q.2 a e
 subst this
 exact hl.isList.typeIs⟩
theorem ca {xs : List D} : TyS cx H (.d (.tuple xs)):=⟨"tuple",_,slot_tuple_getitem.lookup,fun ρ X s rv I q=>by
 cases q with | tuple hl r=>exact (IsTuple.of_z hl).isTuple.typeIs⟩
theorem lf {es : List (D × D)} : TyS cx H (.d (.dict es)):=⟨"dict",_,slot_dict_getitem.lookup,fun ρ X s rv I q=>(Ka ρ X s rv I q).1⟩
theorem Kb {i : Nat} {es : List (Str × D)} (h : H[i]? = some (.dct es)) : TyS cx H (.loc i):=⟨"dict",_,slot_dict_getitem.lookup,fun ρ X s rv I q=>(zb h ρ X s rv I q).1⟩
theorem av {value slice : Expr} {pos : Pos} {v0 v1 v : V} (h1 : Ev cx b n sc value lo H v0 H1) (h2 : Ev cx b n sc slice lo H1 v1 H2) (ht : TyS cx H2 v0) (ho : OpV cx b n gi [v0,v1] H2 v H3)
  (hs : ∀ o i,∃ ops,subscripted slice false o i = operate ops (getItem o i):=by intro _ _; exact ⟨_,rfl⟩) : Ev cx b n sc (.Subscript value slice pos) lo H v H3:=.mk fun A env X ρ s hs' hr I F=>by
 refine Subscript_ (h1.run hs' hr I F fun ρ1 o s1 a1 q1=>?_)
 refine h2.run hs' hr a1.inv (a1.fr I F) fun ρ2 i s2 a2 q2=>?_
 refine al fun Gq kq=>?_
 obtain ⟨T,id,hl,hT⟩:=ht
 obtain ⟨ops,ho'⟩:=hs o i
 refine kq ?_
 refine tail_any (hT ρ2 X s2 o a2.inv (a2.v q1)) hl (ho.run [o,i] hr a2.inv ⟨a2.v q1,q2,trivial⟩ fun ρ3 r s3 a3 q3=>?_) ho'
 exact ⟨ρ3,a1.trans (a2.trans a3),q3⟩
end
end
section
variable {cx : Cx} {B : Bool} {n : Nat} {H : Hp}
section sl
variable {b : Bool} {sc : Scope} {lo : Lo} {H1 H2 H3 : Hp}
structure EvP (cx : Cx) (b : Bool) (n : Nat) (sc : Scope) (e : Option Expr) (lo : Lo) (H : Hp) (k : Option Int) (H' : Hp) : Prop where
 go : ∀ A env X ρ s,env.scope = sc -> Rm b n A -> Inv cx ρ H X s.heap -> FrOk cx env lo ρ X s.heap -> wpAny (M cx) A (evalPart e env) (fun rv s'=>∃ ρ' l,rv = partValue l /\ l.map (·.1) = k /\ Aft cx cx.tabs X ρ s H' ρ' s') No s
theorem di : EvP cx b n sc none lo H none H:=.mk fun A env X ρ s J J I J=>by rw [evalPart_none]; exact wpAny_pure ⟨ρ,none,rfl,rfl,.refl I⟩
theorem dj {e : Expr} {k : Int} (h : Ev cx b n sc e lo H (.d (.int k)) H1) : EvP cx b n sc (some e) lo H (some k) H1:=.mk fun A env X ρ s hs hr I F=>by
 rw [evalPart_some]
 refine h.run hs hr I F fun ρ1 rv s1 a1 q1=>?_
 obtain ⟨t,rfl⟩:=c9 q1
 exact ⟨ρ1,some (k,t),rfl,rfl,a1⟩
structure OpSl (cx : Cx) (b : Bool) (n : Nat) (v0 : V) (lw hi : Option Int) (H : Hp) (v : V) (H' : Hp) : Prop where
 go : ∀ A X ρ s rv sl l u,Rm b n A -> Inv cx ρ H X s.heap -> VOk cx (zH s.heap ρ X) ρ rv v0 -> s.heap.IsSlice sl l u none -> l.map (·.1) = lw -> u.map (·.1) = hi -> wpAny (M cx) A (getItem rv (.ref sl)) (ig cx X ρ s v H') No s
theorem p5 {l : Option (Int × Tok)} {k : Option Int} (h : l.map (·.1) = k) : IsPart (partValue l) k:=by
 cases l with
 | none=>cases h; exact .none
 | some p=>cases h; exact .int _ _
theorem dh {value : Expr} {lw hi : Option Expr} {p pos : Pos} {v0 v : V} {k j : Option Int} {H4 : Hp} (h1 : Ev cx b n sc value lo H v0 H1) (h2 : EvP cx b n sc lw lo H1 k H2) (h3 : EvP cx b n sc hi lo H2 j H3) (ht : TyS cx H3 v0) (ho : OpSl cx b n v0 k j H3 v H4) :
  Ev cx b n sc (.Subscript value (.Slice lw hi none p) pos) lo H v H4:=.mk fun A env X ρ s hs' hr I F=>by
 refine Subscript_ (wpAny_mono (h1.go A env X ρ s hs' hr I F) (fun o s1 q=>wpAny_Slice ?_) fun J J x=>x)
 obtain ⟨ρ1,a1,q1⟩:=q
 refine wpAny_mono (h2.go A env X ρ1 s1 hs' hr a1.inv (a1.fr I F)) (fun vl s2 q=>?_) fun J J x=>x
 obtain ⟨ρ2,l,rfl,hl,a2⟩:=q
 have a12:=a1.trans a2
 refine wpAny_mono (h3.go A env X ρ2 s2 hs' hr a2.inv (a12.fr I F)) (fun vu s3 q=>?_) fun J J x=>x
 obtain ⟨ρ3,u,rfl,hu,a3⟩:=q
 rw [evalPart_none]
 refine wpAny_pure ?_
 obtain ⟨T,id,hlk,hT⟩:=ht
 have a4 : Aft cx cx.tabs X ρ3 s3 H3 ρ3 { s3 with heap:=s3.heap.push { cls:=.type "slice",data:=.fields #[partValue l,partValue u,.none] } }:=⟨⟨_,_,rfl⟩,a3.inv.push _,.push⟩
 have q4:=(a2.trans (a3.trans a4)).v q1
 refine tail_any (ops:=[.ref s3.heap.objs.size,o]) (hT ρ3 X _ o a4.inv q4) hlk (wpAny_mono (ho.go A X ρ3 _ o s3.heap.objs.size l u hr a4.inv q4 ⟨_,Heap.get?_push_size _ rfl,rfl,rfl⟩ hl hu) (fun r s5 q=>?_) fun J J x=>x) rfl
 obtain ⟨ρ5,a5,q5⟩:=q
 exact ⟨ρ5,a12.trans (a3.trans (a4.trans a5)),q5⟩
noncomputable def jj {α : Type} (xs : List α) (lw hi : Option Int) : List α:=(xs.drop (lw.elim 0 (clipAt xs.length))).take (hi.elim xs.length (clipAt xs.length) - lw.elim 0 (clipAt xs.length))
theorem DRs.drop {P : PW} {z : Heap} {vs xs} (q : DRs P z vs xs) (k : Nat) : DRs P z (vs.drop k) (xs.drop k):=by
 induction k generalizing vs xs with
 | zero=>exact q
 | succ k ih =>
  cases xs with
  | nil=>cases q.nil_inv; exact .nil
  | cons x xs=>obtain ⟨v,vs,rfl,h,r⟩:=q.cons_inv; exact ih r
theorem DRs.take {P : PW} {z : Heap} {vs xs} (q : DRs P z vs xs) : ∀ k,DRs P z (vs.take k) (xs.take k):=by
 refine DRs.ind (M:=fun vs xs=>∀ k,DRs P z (vs.take k) (xs.take k)) (fun k=>?_) (fun h J ih k=>?_) q
 ·cases k <;> exact .nil
 ·cases k with
  | zero=>exact .nil
  | succ k=>exact .cons h (ih k)
theorem DRs.slice {P : PW} {z : Heap} {vs : Array Value} {xs : List D} (q : DRs P z vs.toList xs) (lw hi : Option Int) : DRs P z (slicePick vs lw hi none).toList (jj xs lw hi):=by
 rw [slicePick_plain]
 unfold jj
 rw [<- Ls.size q]
 exact (q.drop _).take _
theorem wu {X : List Addr} {ρ : Rh} {s : Shared} {vs : Array Value} {xs : List D} (I : Inv cx ρ H X s.heap) (q : DRs cx.P (zH s.heap ρ X) vs.toList xs) (t : Nat) :
  ig cx X ρ s (.loc H.length) (H ++ [.lst xs]) (.ref s.heap.objs.size) { s with heap:=s.heap.push { cls:=.type "list",data:=.seq vs },toks:=t }:=by
 have hget : (ρ ++ [some s.heap.objs.size])[ρ.length]? = some (some s.heap.objs.size):=by rw [List.getElem?_append_right (Nat.le_refl _),Nat.sub_self]; rfl
 refine ⟨ρ ++ [some s.heap.objs.size],⟨⟨_,_,rfl⟩,I.new (.lst xs) rfl ⟨_,vs,hget,⟨_,Heap.get?_push_size _ rfl⟩,q.sub j9⟩,.anew⟩,by rw [<- I.len]; simp,fun a e=>?_⟩
 rw [<- I.len,hget] at e; cases e; rfl
theorem ub {X : List Addr} {ρ : Rh} {s : Shared} {vs : Array Value} {xs : List D} (I : Inv cx ρ H X s.heap) (q : DRs cx.P (zH s.heap ρ X) vs.toList xs) (t : Nat) :
  ig cx X ρ s (.d (.list xs)) H (.ref s.heap.objs.size) { s with heap:=s.heap.push { cls:=.type "list",data:=.seq vs },toks:=t } :=
 ⟨ρ,⟨⟨_,_,rfl⟩,I.push _,.push⟩,.list (vs:=vs) ⟨_,tl I⟩ (q.sub fm)⟩
theorem wv {X : List Addr} {ρ : Rh} {s : Shared} {vs : Array Value} {xs : List D} (I : Inv cx ρ H X s.heap) (q : DRs cx.P (zH s.heap ρ X) vs.toList xs) (t : Nat) :
  ig cx X ρ s (.d (.tuple xs)) H (.ref s.heap.objs.size) { s with heap:=s.heap.push { cls:=.type "tuple",data:=.seq vs },toks:=t } :=
 ⟨ρ,⟨⟨_,_,rfl⟩,I.push _,.push⟩,.tuple (vs:=vs) ⟨_,tl I⟩ (q.sub fm)⟩
theorem sw {h : Heap} {a : Addr} {l u : Option (Int × Tok)} (hs : h.IsSlice a l u none) : h.IsSliceOf a (partValue l) (partValue u) .none:=let ⟨o,e,hc,hd⟩:=hs; ⟨o,e,hc,hd⟩
theorem Ap {v : V} {xs : List D} {lw hi : Option Int} (L : Ls H v xs) (hsz : xs.length <= 2 ^ 24) : OpSl cx B n v lw hi H (.loc H.length) (H ++ [.lst (jj xs lw hi)]):=.mk fun A X ρ s rv sl l u J I q hs hl hu=>by
 obtain ⟨a,vs,rfl,hls,r⟩:=L.src I q
 exact wpAny_getItem_list_slice hls.isList (sw hs) (p5 hl) (p5 hu) .none (by simp) (wu I (r.slice lw hi) s.toks) (by rw [Ls.size r]; exact hsz)
theorem lb {v : V} {xs : List D} {lw hi : Option Int} (L : Ls H v xs) (hsz : xs.length <= 2 ^ 24) : OpSl cx B n v lw hi H (.d (.list (jj xs lw hi))) H:=.mk fun A X ρ s rv sl l u J I q hs hl hu=>by
 obtain ⟨a,vs,rfl,hls,r⟩:=L.src I q
 exact wpAny_getItem_list_slice hls.isList (sw hs) (p5 hl) (p5 hu) .none (by simp) (ub I (r.slice lw hi) s.toks) (by rw [Ls.size r]; exact hsz)
theorem M1 {x : Str} {lw hi : Option Int} (hsz : x.length <= 2 ^ 24) : OpSl cx B n (.d (.str x)) lw hi H (.d (.str (Txt.slice x lw hi))) H:=.mk fun A X ρ s rv sl l u J I q hs hl hu=>by
 obtain ⟨t,rfl⟩:=gk q
 subst hl hu
 exact wpAny_getItem_str_slice hs rfl (post_val_or_str ⟨Nat.le_trans (Txt.slice_le x _ _) hsz,fun t' k=>dm I _ (.str _ _)⟩)
theorem nq {A : Around} {s : Shared} {E : Value -> Shared -> Prop} {sl : Addr} {a n : Nat} {u : Tok} {Q : Int × Int × Nat -> Shared -> Prop} (hs : s.heap.IsSliceOf sl .none (.int a u) .none) (ha : a <= n) (h : Q (0,1,a) s) :
  wpAny (M cx) A (Builtin.Slice.sliceApplied (.ref sl) (pure (n : Int))) Q E s:=by
 refine al fun Gq kq=>?_
 obtain ⟨os,hos,hcs,hds⟩:=id hs
 refine kq ?_
 unfold Builtin.Slice.sliceApplied Builtin.Slice.sliceFields
 refine wpAny_bind (wpAny_bind (wpAny_field hos hds (x:=.none) rfl (wpAny_bind (wpAny_field hos hds (x:=.int a u) rfl (wpAny_bind (wpAny_field hos hds (x:=.none) rfl (wpAny_pure ?_)))))))
 refine wpAny_bind (slicePart_none ?_)
 show wpAny _ _ (if ((1 : Int) == 0) = true then _ else _) _ _ s
 rw [if_neg (by decide)]
 refine wpAny_bind (slicePart_none (wpAny_bind (slicePart_int (wpAny_bind (wpAny_pure ?_)))))
 have e1 : Builtin.Slice.sliceAdjust none (some (a : Int)) 1 (n : Int) = (0,(a : Int)):=by
  unfold Builtin.Slice.sliceAdjust
  have h1 : ¬ ((1 : Int) < 0):=by omega
  have h2 : ¬ ((a : Int) < 0):=by omega
  simp only [h1,h2,if_false]
  congr 1
  omega
 have e2 : Builtin.Slice.slicePlaces 0 (a : Int) 1 = a:=by
  unfold Builtin.Slice.slicePlaces
  have h1 : (1 : Int) > 0:=by exact Int.ofNat_nonneg _
  simp only [h1,if_true,Int.ediv_one]
  split <;> omega
 show wpAny _ _ (match Builtin.Slice.sliceAdjust none (some (a : Int)) 1 (n : Int) with | (lo,hi)=>pure (lo,(1 : Int),Builtin.Slice.slicePlaces lo hi 1)) _ _ s
 rw [e1]
 show wpAny _ _ (pure (0,(1 : Int),Builtin.Slice.slicePlaces 0 (a : Int) 1)) _ _ s
 rw [e2]
 exact wpAny_pure h
theorem B1 (xs : Array Value) (a : Nat) (_ha : a <= xs.size) : ((List.range a).filterMap fun (k : Nat)=>xs[((0 : Int) + (k : Int) * 1).toNat]?).toArray = (xs.toList.take a).toArray:=by
 have e : (fun (k : Nat)=>xs[((0 : Int) + (k : Int) * 1).toNat]?) = fun k=>xs[0 + k]?:=by
  funext k
  have : ((0 : Int) + (k : Int) * 1).toNat = 0 + k:=by exact Nat.add_comm _ _
  rw [this]
 rw [e]
 have:=pick_run xs 0 a
 rw [List.filterMap_map] at this
 have e2 : ((fun x=>xs[x]?) ∘ fun x=>0 + x) = fun k=>xs[0 + k]?:=rfl
 rw [e2] at this
 rw [this,List.drop_zero]
theorem ol {xs : List D} {k : Nat} (hk : k < xs.length) (hsz : xs.length <= 2 ^ 24) : OpSl cx B n (.d (.tuple xs)) none (some (k : Int)) H (.d (.tuple (xs.take k))) H:=.mk fun A X ρ s rv sl l u J I q hs hl hu=>by
 cases q with
 | @tuple t items _ ht hq =>
 have ht:=IsTuple.of_z ht
 have hlen : items.size = xs.length:=Ls.size hq
 refine al fun Gq kq=>?_
 obtain ⟨_,rfl⟩ : ∃ _ : Unit,l = none:=by cases l with | none=>exact ⟨(),rfl⟩ | some p=>cases hl
 obtain ⟨u',rfl⟩ : ∃ t,u = some ((k : Int),t):=by
  cases u with
  | none=>cases hu
  | some p=>obtain ⟨i,t⟩:=p; cases hu; exact ⟨t,rfl⟩
 have hs:=sw hs
 have hdrop : sizeOk (.seq (items.toList.take k).toArray):=by
  show (items.toList.take k).toArray.size <= sizeLine
  rw [List.size_toArray,List.length_take,Array.length_toList]
  show min k items.size <= 2 ^ 24
  omega
 obtain ⟨os,hos,hcs,hds⟩:=id hs
 refine kq ?_
 have hTs : s.TypeIs (.ref sl) "slice":=⟨os,hos,hcs⟩
 have fin:=wv (vs:=(items.toList.take k).toArray) I (by simpa using hq.take k) s.toks
 unfold getItem
 try with_reducible refine wpAny_holding ?_
 first | refine wpAny_bind (wpAny_pure ?_) | skip
 refine wpAny_bind (wpAny_sequenceKey ht.isTuple.typeIs (by decide) ?_)
 refine wpAny_bind (wpAny_callSpecial?_slot (name:=Str.ofString "__getitem__") ht.isTuple.typeIs slot_tuple_getitem
  (wpAny_call_entry slot_tuple_getitem ht.isTuple.typeIs entry_tuple_getitem ?_ (args_tuple_getitem _ _)))
 show wpAny _ _ (Builtin.Tuple.tupleItemsOf (.ref t) >>= _) _ _ s
 obtain ⟨m,hit⟩:=ht
 refine wpAny_bind (tupleItemsOf_ (PTup.isTuple ⟨m,hit⟩) ?_)
 refine wpAny_bind (wpAny_typeOf hTs ?_)
 rw [if_pos (by decide)]
 refine wpAny_bind (nq (cx:=cx) (a:=k) hs (by omega) ?_)
 have hno : ¬ (((0 : Int) == 0 && (1 : Int) == 1 && k == items.size) = true):=by
  have : (k == items.size) = false:=by rw [beq_eq_false_iff_ne]; omega
  rw [this]; simp
 show wpAny _ _ (if ((0 : Int) == 0 && (1 : Int) == 1 && k == items.size) = true then _ else _) _ _ s
 rw [if_neg hno,B1 items k (by omega)]
 first
  | exact wpAny_bind (m:=Builtin.Tuple.tupleExact _) (wpAny_newObj_type (wpAny_pure ⟨_,rfl,wpAny_pure fin⟩) hdrop)
  | exact wpAny_bind (m:=Builtin.Tuple.tupleExact _) (wpAny_newObj_type (wpAny_bind (wpAny_pure (wpAny_pure ⟨_,rfl,wpAny_pure fin⟩))) hdrop)
  | exact wpAny_bind (wpAny_bind (m:=Builtin.Tuple.tupleExact _) (wpAny_newObj_type (wpAny_pure (wpAny_pure ⟨_,rfl,wpAny_pure fin⟩)) hdrop))
  | exact wpAny_bind (wpAny_bind (m:=Builtin.Tuple.tupleExact _) (wpAny_newObj_type (wpAny_pure ⟨_,rfl,wpAny_pure fin⟩) hdrop))
end sl
end
section
variable {cx : Cx} {B : Bool} {n : Nat} {H : Hp}
theorem DRs.push {P : PW} {z : Heap} {vs : Array Value} {xs : List D} {v : Value} {x : D} (q : DRs P z vs.toList xs) (h : DR P z v x) : DRs P z (vs.push v).toList (xs ++ [x]):=by
 rw [Array.toList_push]; exact q.append (.cons h .nil)
theorem VsOk.append {z : Heap} {ρ : Rh} : ∀ {rvs : List Value} {vs : List V} {rws : List Value} {ws : List V},VsOk cx z ρ rvs vs -> VsOk cx z ρ rws ws -> VsOk cx z ρ (rvs ++ rws) (vs ++ ws)
 | [],[],_,_,_,q=>q
 | _ :: _,_ :: _,_,_,⟨h,r⟩,q=>⟨h,VsOk.append r q⟩
 | [],_ :: _,_,_,h,_=>h.elim
 | _ :: _,[],_,_,h,_=>h.elim
theorem i6 {h : Heap} {a : Addr} {f : Obj -> Obj} : Heap.SameBut a h (h.update a f):=Heap.SameBut.update ..
theorem app_lst {i : Nat} {xs : List D} {x : D} (hi : H[i]? = some (.lst xs)) (hsz : xs.length <= 2 ^ 20) : App cx B n i (.d x) H (H.set i (.lst (xs ++ [x]))):=.mk fun A X ρ s rvs J I q=>by
 refine al fun Gq kq=>?_
 obtain ⟨u,v,rfl,q1,q2⟩:=two q
 obtain ⟨a,vs,e,⟨k,hl⟩,r⟩:=I.ob _ _ hi
 refine kq ?_
 have:=q1.2 a e
 subst this
 refine call_meets F.slot_list_append ⟨_,hl,rfl⟩ F.entry_list_append (F.args_list_append_2 _ _) (list_append a vs k v (by rw [Ls.size r]; exact Nat.le_trans hsz (by decide))) ⟨hl,?_⟩
 have hl':=IsL.update hl (·.push v)
 have hs : Heap.SameBut a s.heap (s.heap.update a (Obj.mapSeq (·.push v))):=i6
 have hb:=fq (ρ:=ρ) (X:=X) hs (b9 e)
 exact ⟨ρ,⟨⟨_,_,rfl⟩,I.upd e hs ⟨_,hl'⟩ _ ⟨a,_,e,⟨_,hl'⟩,(r.sub hb).push (q2.sub hb)⟩,.upd e hs ⟨_,hl'⟩⟩,.none⟩
theorem zi {i j : Nat} {ls : List Nat} (hi : H[i]? = some (.lsl ls)) (hsz : ls.length <= 2 ^ 20) : App cx B n i (.loc j) H (H.set i (.lsl (ls ++ [j]))):=.mk fun A X ρ s rvs J I q=>by
 refine al fun Gq kq=>?_
 obtain ⟨u,v,rfl,q1,q2⟩:=two q
 obtain ⟨a,vs,e,⟨k,hl⟩,r⟩:=I.ob _ _ hi
 refine kq ?_
 have:=q1.2 a e
 subst this
 have hlen:=VsOk.length r
 rw [List.length_map,Array.length_toList] at hlen
 refine call_meets F.slot_list_append ⟨_,hl,rfl⟩ F.entry_list_append (F.args_list_append_2 _ _) (list_append a vs k v (by rw [hlen]; exact Nat.le_trans hsz (by decide))) ⟨hl,?_⟩
 have hl':=IsL.update hl (·.push v)
 have hs : Heap.SameBut a s.heap (s.heap.update a (Obj.mapSeq (·.push v))):=i6
 have hb:=fq (ρ:=ρ) (X:=X) hs (b9 e)
 refine ⟨ρ,⟨⟨_,_,rfl⟩,I.upd e hs ⟨_,hl'⟩ _ ⟨a,_,e,⟨_,hl'⟩,?_⟩,.upd e hs ⟨_,hl'⟩⟩,.none⟩
 rw [Array.toList_push,List.map_append]
 exact VsOk.append (r.move hb (Nat.le_refl _) fun J J J e=>e) ⟨VOk.move hb (Nat.le_refl _) (fun J J J e=>e) q2,trivial⟩
theorem Cj {i j : Nat} (hi : H[i]? = some (.lst [])) : App cx B n i (.loc j) H (H.set i (.lsl [j])):=.mk fun A X ρ s rvs J I q=>by
 refine al fun Gq kq=>?_
 obtain ⟨u,v,rfl,q1,q2⟩:=two q
 obtain ⟨a,vs,e,⟨k,hl⟩,r⟩:=I.ob _ _ hi
 refine kq ?_
 have:=q1.2 a e
 subst this
 have h0 : vs.toList = []:=by cases h : vs.toList with | nil=>rfl | cons x r'=>rw [h] at r; cases r
 refine call_meets F.slot_list_append ⟨_,hl,rfl⟩ F.entry_list_append (F.args_list_append_2 _ _) (list_append a vs k v (by rw [Ls.size r]; exact Nat.zero_le _)) ⟨hl,?_⟩
 have hl':=IsL.update hl (·.push v)
 have hs : Heap.SameBut a s.heap (s.heap.update a (Obj.mapSeq (·.push v))):=i6
 have hb:=fq (ρ:=ρ) (X:=X) hs (b9 e)
 refine ⟨ρ,⟨⟨_,_,rfl⟩,I.upd e hs ⟨_,hl'⟩ _ ⟨a,_,e,⟨_,hl'⟩,?_⟩,.upd e hs ⟨_,hl'⟩⟩,.none⟩
 rw [Array.toList_push,h0]
 exact ⟨VOk.move hb (Nat.le_refl _) (fun J J J e=>e) q2,trivial⟩
theorem Hd {i j : Nat} {xs ys : List D} (hij : j ≠ i) (hi : H[i]? = some (.lst xs)) (hj : H[j]? = some (.lst ys)) (hsz : xs.length <= 2 ^ 20) : App cx B n i (.loc j) H ((H.set j .dead).set i (.lst (xs ++ [.list ys]))):=.mk fun A X ρ s rvs hr I q=>by
 obtain ⟨u,v,rfl,q1,q2⟩:=two q
 have q2':=VOk.frz I hj q2
 have q1':=VOk.frz I hj q1
 have e1 : frz j ys (.loc j) = .d (.list ys):=if_pos rfl
 have e2 : frz j ys (.loc i) = .loc i:=if_neg (Ne.symm hij)
 rw [e1] at q2'
 rw [e2] at q1'
 have hi' : (H.set j O.dead)[i]? = some (.lst xs):=by rw [List.getElem?_set,if_neg hij]; exact hi
 refine (app_lst (cx:=cx) (B:=B) (n:=n) (x:=.list ys) hi' hsz).run [u,v] hr (I.freeze j) ⟨q1',q2',trivial⟩ fun ρ' r s' a' q'=>?_
 exact ⟨ρ',⟨a'.fin,a'.inv,Ext.trans .freeze a'.ext⟩,q'⟩
theorem Fp {i : Nat} {v : V} {xs ys : List D} (hi : H[i]? = some (.lst xs)) (L : Ls H v ys) (hsz : xs.length + ys.length <= 2 ^ 20) : OpV cx B n (fun rvs=>call (.builtin "list.extend") rvs []) [.loc i,v] H (.d .none) (H.set i (.lst (xs ++ ys))):=.mk fun A X ρ s rvs J I q=>by
 refine al fun Gq kq=>?_
 obtain ⟨u,w,rfl,q1,q2⟩:=two q
 obtain ⟨a,vs,e,⟨k,hl⟩,r⟩:=I.ob _ _ hi
 refine kq ?_
 have:=q1.2 a e
 subst this
 refine al fun Gq kq=>?_
 obtain ⟨b,ws,rfl,⟨k2,hl2⟩,r2⟩:=L.src I q2
 refine kq ?_
 have e1:=Ls.size r
 have e2:=Ls.size r2
 refine call_meets F.slot_list_extend ⟨_,hl,rfl⟩ F.entry_list_extend (F.args_list_extend_2 _ _) (AutoSeq1.list_extend_list_list_0 a vs k b ws k2 ?_ ?_ ?_) ⟨hl,hl2,?_⟩
 ·rw [Bool.and_eq_true,not_and]
  intro _
  unfold Builtin.List.listTooLong
  simp only [decide_eq_true_eq]
  show ¬ (vs.size + ws.size > 2 ^ 24)
  omega
 ·show vs.size <= 2 ^ 24; omega
 ·show vs.size + ws.size <= 2 ^ 24 + 1; omega
 have hl':=IsL.update hl (· ++ ws)
 have hs : Heap.SameBut a s.heap (s.heap.update a (Obj.mapSeq (· ++ ws))):=i6
 have hb:=fq (ρ:=ρ) (X:=X) hs (b9 e)
 refine ⟨ρ,⟨⟨_,_,rfl⟩,I.upd e hs ⟨_,hl'⟩ _ ⟨a,_,e,⟨_,hl'⟩,?_⟩,.upd e hs ⟨_,hl'⟩⟩,.none⟩
 rw [Array.toList_append]
 exact (r.sub hb).append (r2.sub hb)
noncomputable def isS (y : Str) : Value -> Bool
 | .str x _=>x == y
 | _=>false
theorem vr {P : PW} {z : Heap} {y : Str} : ∀ {ss : List Str} {vs : List Value},DRs P z vs (ss.map .str) -> vs.any (isS y) = ss.contains y
 | [],_,q=>by rw [q.nil_inv]; rfl
 | x :: ss,_,q=>by
  obtain ⟨_,_,rfl,h,r⟩:=q.cons_inv
  obtain ⟨_,rfl⟩:=h.str_inv
  rw [List.any_cons,List.contains_cons,vr r]
  congr 1
  show (x == y) = (y == x)
  exact Bool.beq_comm
theorem vt {P : PW} {z : Heap} {A : Around} {s : Shared} {y : Str} {t : Tok} : ∀ {ss : List Str} {vs : List Value},DRs P z vs (ss.map .str) -> ∀ v ∈ vs,SeqAt.EqAt A s v (.str y t) (isS y v)
 | [],_,q,_,h=>by rw [q.nil_inv] at h; cases h
 | _ :: _,_,q,v,h=>by
  refine al fun Gq kq=>?_
  obtain ⟨_,_,rfl,g,r⟩:=q.cons_inv
  obtain ⟨_,rfl⟩:=g.str_inv
  refine kq ?_
  rcases List.mem_cons.mp h with h | h
  ·rw [h]; exact SeqAt.EqAt.str_str _ _ _ _
  ·exact vt r v h
theorem o_in {v : V} {ss : List Str} {y : Str} (L : Ls H v (ss.map .str)) : OpV cx B n (cmp .In) [.d (.str y),v] H (.d (.bool (ss.contains y))) H:=.mk fun A X ρ s rvs J I q=>by
 obtain ⟨u,w,rfl,q1,q2⟩:=two q
 obtain ⟨t,rfl⟩:=gk q1
 obtain ⟨a,vs,rfl,hl,r⟩:=L.src I q2
 refine SeqAt.in_listAt (isS y) hl.isList (fun x hx=>vt r x (by simpa using hx)) ?_
 rw [<- vr r,<- Array.any_toList]
 exact f8 I (.bool _)
theorem pz {v : V} {ss : List Str} {y : Str} (L : Ls H v (ss.map .str)) : OpV cx B n (cmp .NotIn) [.d (.str y),v] H (.d (.bool (!ss.contains y))) H:=.mk fun A X ρ s rvs J I q=>by
 obtain ⟨u,w,rfl,q1,q2⟩:=two q
 obtain ⟨t,rfl⟩:=gk q1
 obtain ⟨a,vs,rfl,hl,r⟩:=L.src I q2
 refine SeqAt.notIn_listAt (isS y) hl.isList (fun x hx=>vt r x (by simpa using hx)) ?_
 rw [<- vr r,<- Array.any_toList]
 exact f8 I (.bool _)
theorem px {v : V} {ss : List Str} {y : Str} {j : Nat} (L : Ls H v (ss.map .str)) (hj : ss[j]? = some y) (hno : ∀ m,m < j -> ss[m]? ≠ some y) (hsz : ss.length <= 2 ^ 20) : OpV cx B n (fun rvs=>call (.builtin "list.index") rvs []) [v,.d (.str y)] H (.d (.int j)) H:=.mk fun A X ρ s rvs J I q=>by
 refine al fun Gq kq=>?_
 obtain ⟨u,w,rfl,q1,q2⟩:=two q
 obtain ⟨t,rfl⟩:=gk q2
 obtain ⟨a,vs,rfl,⟨k,hl⟩,r⟩:=L.src I q1
 refine kq ?_
 have hsize : vs.size = ss.length:=by rw [Ls.size r,List.length_map]
 have hlt : j < ss.length:=aq hj
 have at_ : ∀ m (hm : m < vs.size),isS y vs[m] = (ss[m]? == some y):=fun m hm=>by
  have hm' : m < ss.length:=hsize ▸ hm
  refine al fun Gq kq=>?_
  obtain ⟨w,e,hd⟩:=r.get (i:=m) (x:=.str ss[m]) (by rw [List.getElem?_map,List.getElem?_eq_getElem hm']; rfl)
  refine kq ?_
  rw [Array.getElem?_toList,Array.getElem?_eq_getElem hm] at e
  cases e
  rw [List.getElem?_eq_getElem hm']
  generalize vs[m] = w at hd
  cases hd
  show (ss[m] == y) = _
  simp
 refine call_meets F.slot_list_index ⟨_,hl,rfl⟩ F.entry_list_index (F.args_list_index_2 _ _) (SeqAt.list_indexAt a vs k none #[] (.str y t) (isS y) j (hsize ▸ hlt) (by omega) ?_ ?_) ⟨hl,fun x hx=>vt r x (by simpa using hx),dm I _ (.int _ _)⟩
 ·rw [at_,hj]; simp
 ·intro m hm hmj
  rw [at_]
  have:=hno m hmj
  simpa using this
theorem ru {v w : V} {xs ys : List D} (L1 : Ls H v xs) (L2 : Ls H w ys) (hsz : xs.length + ys.length <= 2 ^ 24) : OpV cx B n (bin .Add) [v,w] H (.d (.list (xs ++ ys))) H:=.mk fun A X ρ s rvs J I q=>by
 refine al fun Gq kq=>?_
 obtain ⟨u,w',rfl,q1,q2⟩:=two q
 obtain ⟨a,vs,rfl,⟨k,hl⟩,r⟩:=L1.src I q1
 obtain ⟨b,ws,rfl,⟨k2,hl2⟩,r2⟩:=L2.src I q2
 refine kq ?_
 exact P.add_list hl hl2 (ub (vs:=vs ++ ws) I (by rw [Array.toList_append]; exact r.append r2) s.toks) (by rw [Ls.size r,Ls.size r2]; exact hsz)
noncomputable def enc (e : Str × D) : D × D:=(.str e.1,e.2)
inductive Dc (H : Hp) : V -> List (Str × D) -> Prop
 | loc {i es} : H[i]? = some (.dct es) -> Dc H (.loc i) es
 | d {es} : Dc H (.d (.dict (es.map enc))) es
theorem Dc.src {ρ : Rh} {X : List Addr} {h : Heap} {rv : Value} {v : V} {es : List (Str × D)} (L : Dc H v es) (I : Inv cx ρ H X h) (q : VOk cx (zH h ρ X) ρ rv v) : ∃ a kvs,rv = .ref a /\ IsDct cx.P h a kvs /\ DEs cx.P (zH h ρ X) kvs (es.map enc):=by
 cases L with
 | loc hi =>
  refine al fun Gq kq=>?_
  obtain ⟨a,vs,e,l,r⟩:=I.ob _ _ hi
  refine kq ?_
  exact ⟨a,vs,q.2 a e,l,r⟩
 | d=>cases q with | dict l r=>exact ⟨_,_,rfl,IsDct.sub (fun J J e=>(ax.mp e).1) l,r⟩
theorem DEs.cons_inv {P : PW} {z : Heap} {kvs : List (Str × Value)} {e : Str × D} {es : List (D × D)} (q : DEs P z kvs (enc e :: es)) : ∃ v r,kvs = (e.1,v) :: r /\ DR P z v e.2 /\ DEs P z r es:=by
 cases q with
 | cons h r=>exact ⟨_,_,rfl,h,r⟩
theorem DEs.ind {P : PW} {z : Heap} {M : List (Str × Value) -> List (Str × D) -> Prop} (h0 : M [] []) (h1 : ∀ {k v x kvs es},DR P z v x -> M kvs es -> M ((k,v) :: kvs) ((k,x) :: es)) {kvs : List (Str × Value)} {es : List (Str × D)} (q : DEs P z kvs (es.map enc)) : M kvs es:=by
 induction es generalizing kvs with
 | nil=>cases q; exact h0
 | cons e es ih =>
  obtain ⟨v,r,rfl,h,q⟩:=q.cons_inv
  exact h1 h (ih q)
theorem DEs.keys {P : PW} {z : Heap} {kvs : List (Str × Value)} {es : List (Str × D)} (q : DEs P z kvs (es.map enc)) : kvs.map (·.1) = es.map (·.1):=DEs.ind (M:=fun kvs es=>kvs.map (·.1) = es.map (·.1)) rfl (fun J e=>congrArg (List.cons _) e) q
theorem DEs.at_ {P : PW} {z : Heap} {k : Str} {kvs : List (Str × Value)} {es : List (Str × D)} (q : DEs P z kvs (es.map enc)) : (∀ x,es.lookup k = some x -> ∃ v,valueAt kvs k = some v /\ DR P z v x) /\ (es.lookup k = none -> valueAt kvs k = none):=by
 refine DEs.ind (M:=fun kvs es=>(∀ x,es.lookup k = some x -> ∃ v,valueAt kvs k = some v /\ DR P z v x) /\ (es.lookup k = none -> valueAt kvs k = none)) ⟨fun J e=>(nomatch e),fun J=>rfl⟩ (fun {k' v x kvs es} h ih=>?_) q
 unfold valueAt at ih ⊢
 rw [List.find?_cons,List.lookup_cons]
 cases c : k == k' with
 | true =>
  rw [beq_iff_eq] at c
  subst c
  rw [show (decide (k = k)) = true from by simp]
  exact ⟨fun x e=>by cases e; exact ⟨v,rfl,h⟩,fun e=>(nomatch e)⟩
 | false =>
  rw [beq_eq_false_iff_ne] at c
  rw [show (decide (k' = k)) = false from by simpa using fun e=>c e.symm]
  exact ih
noncomputable def ym (es : List (Str × D)) (k : Str) (x : D) : List (Str × D):=if es.any (fun e=>e.1 = k) then es.map (fun e=>if e.1 = k then (e.1,x) else e) else es ++ [(k,x)]
theorem DEs.map_set {P : PW} {z : Heap} {k : Str} {v : Value} {x : D} (h : DR P z v x) {kvs : List (Str × Value)} {es : List (Str × D)} (q : DEs P z kvs (es.map enc)) : DEs P z (kvs.map fun kv=>if kv.1 = k then (kv.1,v) else kv) ((es.map fun e=>if e.1 = k then (e.1,x) else e).map enc):=by
 refine DEs.ind (M:=fun kvs es=>DEs P z (kvs.map fun kv=>if kv.1 = k then (kv.1,v) else kv) ((es.map fun e=>if e.1 = k then (e.1,x) else e).map enc)) .nil (fun {k' w y kvs es} hw ih=>?_) q
 rw [List.map_cons,List.map_cons,List.map_cons]
 by_cases c : k' = k
 ·rw [if_pos c,if_pos c]; exact .cons h ih
 ·rw [if_neg c,if_neg c]; exact .cons hw ih
theorem DEs.app {P : PW} {z : Heap} {k : Str} {v : Value} {x : D} (h : DR P z v x) {kvs : List (Str × Value)} {es : List (Str × D)} (q : DEs P z kvs (es.map enc)) : DEs P z (kvs ++ [(k,v)]) ((es ++ [(k,x)]).map enc):=DEs.ind (M:=fun kvs es=>DEs P z (kvs ++ [(k,v)]) ((es ++ [(k,x)]).map enc)) (.cons h .nil) (fun h e=>.cons h e) q
theorem DEs.any {P : PW} {z : Heap} {k : Str} {kvs : List (Str × Value)} {es : List (Str × D)} (q : DEs P z kvs (es.map enc)) : kvs.any (fun kv=>kv.1 = k) = es.any (fun e=>e.1 = k):=DEs.ind (M:=fun kvs es=>kvs.any (fun kv=>kv.1 = k) = es.any (fun e=>e.1 = k)) rfl (fun J e=>by rw [List.any_cons,List.any_cons,e]) q
theorem DEs.stored {P : PW} {z : Heap} {k : Str} {v : Value} {x : D} {kvs : List (Str × Value)} {es : List (Str × D)} (q : DEs P z kvs (es.map enc)) (h : DR P z v x) : DEs P z (stored kvs k v) ((ym es k x).map enc):=by
 unfold PySem.stored ym
 rw [q.any]
 split
 ·exact q.map_set h
 ·exact q.app h
theorem DEs.length {P : PW} {z : Heap} {kvs : List (Str × Value)} {es : List (Str × D)} (q : DEs P z kvs (es.map enc)) : kvs.length = es.length:=by
 have:=congrArg List.length q.keys
 simpa using this
theorem gt {v : V} {es : List (Str × D)} {k : Str} {x : D} (L : Dc H v es) (hk : es.lookup k = some x) : OpV cx B n gi [v,.d (.str k)] H (.d x) H:=.mk fun A X ρ s rvs J I q=>by
 refine al fun Gq kq=>?_
 obtain ⟨u,w,rfl,q1,q2⟩:=two q
 obtain ⟨t,rfl⟩:=gk q2
 obtain ⟨a,kvs,rfl,⟨hs,hd⟩,r⟩:=L.src I q1
 obtain ⟨v,e,h⟩:=r.at_.1 x hk
 refine kq ?_
 exact wpAny_getItem_of (knd:=strKind cx.prog cx.w) (k:=k) (strKind_is cx.prog cx.w k t) hd.mapOf e (dm I _ h)
theorem Fq {v : V} {es : List (Str × D)} {k : Str} {y : D} (L : Dc H v es) : OpV cx B n (fun rvs=>call (.builtin "dict.get") rvs []) [v,.d (.str k),.d y] H (.d ((es.lookup k).getD y)) H:=.mk fun A X ρ s rvs J I q=>by
 refine al fun Gq kq=>?_
 obtain ⟨u,w,z,rfl,q1,q2,q3⟩:=uw q
 obtain ⟨t,rfl⟩:=gk q2
 obtain ⟨a,kvs,rfl,⟨hs,hd⟩,r⟩:=L.src I q1
 refine kq ?_
 refine call_meetsIn F.slot_dict_get hd.typeIs F.entry_dict_get (F.args_dict_get_3 _ _ _) (meets_dict_get_default (strKind cx.prog cx.w) a (k:=k) (strKind_is cx.prog cx.w k t) hs z) ⟨_,hd.mapOf,?_⟩
 cases h : es.lookup k with
 | none=>rw [r.at_.2 h]; exact dm I _ q3
 | some x=>obtain ⟨v,e,hv⟩:=r.at_.1 x h; rw [e]; exact dm I _ hv
theorem ug {v : V} {es : List (Str × D)} {k : Str} (L : Dc H v es) : OpV cx B n (cmp .In) [.d (.str k),v] H (.d (.bool (es.lookup k).isSome)) H:=.mk fun A X ρ s rvs J I q=>by
 refine al fun Gq kq=>?_
 obtain ⟨u,w,rfl,q1,q2⟩:=two q
 obtain ⟨t,rfl⟩:=gk q1
 obtain ⟨a,kvs,rfl,⟨hs,hd⟩,r⟩:=L.src I q2
 refine kq ?_
 refine wpAny_in_of (knd:=strKind cx.prog cx.w) (k:=k) (strKind_is cx.prog cx.w k t) hs hd.mapOf ?_
 have e : (valueAt kvs k).isSome = (es.lookup k).isSome:=by
  cases h : es.lookup k with
  | none=>rw [r.at_.2 h]; rfl
  | some x=>obtain ⟨v,e,_⟩:=r.at_.1 x h; rw [e]; rfl
 rw [e]
 exact dm I _ (.bool _)
theorem jr {i : Nat} {es : List (Str × D)} {k : Str} {x : D} (hi : H[i]? = some (.dct es)) (hsz : es.length <= 2 ^ 20) : Op cx B n si [.d x,.loc i,.d (.str k)] H (fun X ρ s J s'=>∃ ρ',Aft cx cx.tabs X ρ s (H.set i (.dct (ym es k x))) ρ' s'):=.mk fun A X ρ s rvs J I q=>by
 refine al fun Gq kq=>?_
 obtain ⟨u,v,w,rfl,q1,q2,q3⟩:=uw q
 obtain ⟨t,rfl⟩:=gk q3
 obtain ⟨a,kvs,e,⟨hs,hd⟩,r⟩:=I.ob _ _ hi
 refine kq ?_
 have:=q2.2 a e
 subst this
 refine wpAny_setItem_pairs (knd:=strKind cx.prog cx.w) (k:=k) (strKind_is cx.prog cx.w k t) hd (fun h' hd' hs'=>?_) (by rw [r.length]; exact Nat.le_trans hsz (by decide))
 have hex : ∃ o,h'.get? a = some o:=let ⟨o,_,_,e,_⟩:=hd'; ⟨o,e⟩
 have hb:=fq (ρ:=ρ) (X:=X) hs' (b9 e)
 exact ⟨ρ,⟨⟨_,_,rfl⟩,I.upd e hs' hex _ ⟨a,_,e,⟨hs,hd'⟩,(r.sub hb).stored (q1.sub hb)⟩,.upd e hs' hex⟩⟩
section
variable {b : Bool} {sc : Scope} {lo : Lo} {H1 H2 H3 : Hp}
structure Ha (cx : Cx) (b : Bool) (n : Nat) (sc : Scope) (ks : List (Option Expr)) (vals : List Expr) (lo : Lo) (H : Hp) (es : List (Str × D)) (H' : Hp) : Prop where
 go : ∀ A env X ρ s pos,env.scope = sc -> Rm b n A -> Inv cx ρ H X s.heap -> FrOk cx env lo ρ X s.heap -> wpAny (M cx) A (evalPairs (pairTrees ks vals env pos))
  (fun rv s'=>∃ ρ' kvs,Aft cx cx.tabs X ρ s H' ρ' s' /\ Carries (strKind cx.prog cx.w) rv kvs /\ DEs cx.P (zH s'.heap ρ' X) kvs (es.map enc)) No s
theorem D4 : Ha cx b n sc [] [] lo H [] H:=.mk fun J J J ρ J J J J I J=>wpAny_pure ⟨ρ,[],.refl I,trivial,.nil⟩
theorem Bi {k v : Expr} {ks : List (Option Expr)} {vals : List Expr} {x : Str} {y : D} {es : List (Str × D)} (h1 : Ev cx b n sc k lo H (.d (.str x)) H1) (h2 : Ev cx b n sc v lo H1 (.d y) H2) (h3 : Ha cx b n sc ks vals lo H2 es H3) :
  Ha cx b n sc (some k :: ks) (v :: vals) lo H ((x,y) :: es) H3:=.mk fun A env X ρ s pos hs hr I F=>by
 show wpAny (M cx) A (do let kv <- eval k env; let vv <- holding [kv] (do let x <- eval v env; standAt pos; pure x); return (kv,vv) :: (<- holding [kv,vv] (evalPairs (pairTrees ks vals env pos)))) _ _ s
 refine wpAny_bind (h1.run hs hr I F fun ρ1 rk s1 a1 q1=>?_)
 obtain ⟨t,rfl⟩:=gk q1
 refine wpAny_bind (wpAny_holding (wpAny_bind (wpAny_mono (h2.go A env X ρ1 s1 hs hr a1.inv (a1.fr I F)) (fun rv s2 q=>wpAny_bind (wpAny_standAt (wpAny_pure ?_))) fun J J x=>x)))
 refine al fun Gq kq=>?_
 obtain ⟨ρ2,a2,q2⟩:=q
 refine kq ?_
 have a12:=a1.trans a2
 refine wpAny_bind (wpAny_holding (wpAny_mono (h3.go A env X ρ2 s2 pos hs hr a2.inv (a12.fr I F)) (fun rvs s3 q=>wpAny_pure ?_) fun J J x=>x))
 refine al fun Gq kq=>?_
 obtain ⟨ρ3,kvs,a3,c,q3⟩:=q
 refine kq ?_
 exact ⟨ρ3,(x,rv) :: kvs,a12.trans a3,⟨strKind_is _ _ _ _,rfl,c⟩,.cons (a3.v q2) q3⟩
theorem vj {ρ : Rh} {X : List Addr} {h : Heap} (I : Inv cx ρ H X h) : (h.objs.size == sysModules) = false:=by
 obtain ⟨o,e⟩:=cx.gsys _ I.gh
 rw [beq_eq_false_iff_ne]
 exact Nat.ne_of_gt (Heap.lt_size e)
theorem lq {ks : List (Option Expr)} {vals : List Expr} {pos : Pos} {es : List (Str × D)} (h : Ha cx b n sc ks vals lo H es H1) (hnd : (es.map (·.1)).Nodup) (hall : ks.all (·.isSome) = true) (hl : ks.length = vals.length) (h0 : ks ≠ []) (hlen : ks.length <= 15) :
  Ev cx b n sc (.Dict ks vals pos) lo H (.d (.dict (es.map enc))) H1:=.mk fun A env X ρ s hs hr I F=>by
 refine wpAny_Dict_walk (knd:=strKind cx.prog cx.w) hall hl h0 hlen ?_
 have I1:=I.hide { cls:=.type "dict",data:=.dict #[] }
 have F1:=F.hide (o:={ cls:=.type "dict",data:=.dict #[] }) I
 refine wpAny_mono (h.go A env _ ρ { s with heap:=s.heap.push { cls:=.type "dict",data:=.dict #[] } } pos hs hr I1 F1) (fun rv s1 q=>?_) fun J J x=>x
 refine al fun Gq kq=>?_
 obtain ⟨ρ1,kvs,a1,c,q⟩:=q
 refine kq ?_
 have hnew : (s.heap.push { cls:=.type "dict",data:=.dict #[] }).DictOf (strKind cx.prog cx.w) s.heap.objs.size []:=Heap.DictOf.new _
 have hnX : s.heap.objs.size ∉ X:=fun hb=>by obtain ⟨o,e⟩:=I.xe _ hb; exact absurd (Heap.lt_size e) (Nat.lt_irrefl _)
 have hnt : s.heap.objs.size ∉ cx.tabs:=fun hb=>hnX (I.xt _ hb)
 have hold : s1.heap.DictOf (strKind cx.prog cx.w) s.heap.objs.size []:=hnew.at fun o e=>a1.ext.pres _ o e (fun q=>I1.dx _ q (.head _)) hnt
 refine ⟨kvs,c,hold,fun h' hd hs'=>?_⟩
 have hkn : (kvs.map (·.1)).Nodup:=by rw [q.keys]; exact hnd
 rw [merged_nil_of_nodup _ hkn] at hd
 have hb:=ee (ρ:=ρ1) (X:=X) hs'.extBut
 have I2:=a1.inv.drop hs'.extBut hnX I.xt
 have x2 : Ext cx.tabs ρ s.heap ρ1 h':=Ext.touch (Ext.trans (.push) a1.ext) hs'.extBut (dr _)
 have hnl : s.heap.objs.size ∉ dk ρ1:=fun q=>a1.inv.dx _ q (.head _)
 refine ⟨ρ1,⟨a1.fin.trans ⟨_,_,rfl⟩ |> fun f=>Fin.trans ⟨_,_,rfl⟩ f,I2,x2⟩,.dict (es:=kvs) ⟨vj I,?_⟩ (q.sub hb)⟩
 refine al fun Gq kq=>?_
 obtain ⟨o,es',ep,e,r⟩:=hd
 refine kq ?_
 exact ⟨o,es',ep,ax.mpr ⟨e,hnl,hnX⟩,r⟩
theorem D1 {pos : Pos} : Ev cx b n sc (.Dict [] [] pos) lo H (.d (.dict [])) H:=.of fun A env X ρ s Qq Ee hs hr I F kk =>
 wpAny_Dict_empty (kk ρ _ _ ⟨⟨_,_,rfl⟩,I.push _,.push⟩ (.dict (es:=[]) ⟨vj I,by
  refine al fun Gq kq=>?_
  obtain ⟨o,es',ep,e,r⟩:=Heap.DictOf.new (knd:=strKind cx.prog cx.w) s.heap
  refine kq ?_
  rw [Heap.get?_push_size _ rfl] at e
  cases e
  exact ⟨_,es',ep,tl I,r⟩⟩ .nil))
theorem qr {pos : Pos} : Ev cx b n sc (.Dict [] [] pos) lo H (.loc H.length) (H ++ [.dct []]):=.mk fun A env X ρ s hs hr I F=>by
 have hget : (ρ ++ [some s.heap.objs.size])[ρ.length]? = some (some s.heap.objs.size):=by rw [List.getElem?_append_right (Nat.le_refl _),Nat.sub_self]; rfl
 refine wpAny_Dict_empty ⟨ρ ++ [some s.heap.objs.size],⟨⟨_,_,rfl⟩,I.new (.dct []) rfl ⟨_,[],hget,⟨vj I,Heap.DictOf.new _⟩,.nil⟩,.anew⟩,by rw [<- I.len]; simp,fun a e=>?_⟩
 rw [<- I.len,hget] at e; cases e; rfl
end
end
section
variable {cx : Cx} {B : Bool} {n : Nat} {H : Hp}
section Sx
variable {x y : Str}
theorem gx (hf : Builtin.Str.tooLong (Txt.lower x).length = false) : OpV cx B n (fun rvs=>call (.builtin "str.lower") rvs []) [.d (.str x)] H (.d (.str (Txt.lower x))) H:=.mk fun A X ρ s rvs J I q=>by
 obtain ⟨u,rfl,q1⟩:=one q; obtain ⟨t,rfl⟩:=gk q1
 exact call_gives F.slot_str_lower (typeIs_str s x t) F.entry_str_lower (F.args_str_lower_1 _) (gives_str_lower x t hf) ⟨fit_le hf,dm I _ (.str _ _)⟩
theorem Jr (hf : Builtin.Str.tooLong (Txt.upper x).length = false) : OpV cx B n (fun rvs=>call (.builtin "str.upper") rvs []) [.d (.str x)] H (.d (.str (Txt.upper x))) H:=.mk fun A X ρ s rvs J I q=>by
 obtain ⟨u,rfl,q1⟩:=one q; obtain ⟨t,rfl⟩:=gk q1
 exact call_gives F.slot_str_upper (typeIs_str s x t) F.entry_str_upper (F.args_str_upper_1 _) (gives_str_upper x t hf) ⟨fit_le hf,dm I _ (.str _ _)⟩
theorem j7 : OpV cx B n (fun rvs=>call (.builtin "str.startswith") rvs []) [.d (.str x),.d (.str y)] H (.d (.bool (Txt.startswith x y))) H:=.mk fun A X ρ s rvs J I q=>by
 obtain ⟨u,v,rfl,q1,q2⟩:=two q; obtain ⟨t,rfl⟩:=gk q1; obtain ⟨t',rfl⟩:=gk q2
 exact call_gives F.slot_str_startswith (typeIs_str s x t) F.entry_str_startswith (F.args_str_startswith_2 _ _) (gives_str_startswith x y t t') (f8 I (.bool _))
theorem rz : OpV cx B n (fun rvs=>call (.builtin "str.endswith") rvs []) [.d (.str x),.d (.str y)] H (.d (.bool (Txt.endswith x y))) H:=.mk fun A X ρ s rvs J I q=>by
 obtain ⟨u,v,rfl,q1,q2⟩:=two q; obtain ⟨t,rfl⟩:=gk q1; obtain ⟨t',rfl⟩:=gk q2
 exact call_gives F.slot_str_endswith (typeIs_str s x t) F.entry_str_endswith (F.args_str_endswith_2 _ _) (gives_str_endswith x y t t') (f8 I (.bool _))
theorem Av {P : PW} {z : Heap} : ∀ {ss : List Str} {vs : List Value},DRs P z vs (ss.map .str) -> ∃ l,vs = strValues l /\ l.map (·.1) = ss
 | [],_,q=>⟨[],q.nil_inv,rfl⟩
 | x :: _,_,q=>by
  obtain ⟨_,_,rfl,g,r⟩:=q.cons_inv
  obtain ⟨t,rfl⟩:=g.str_inv
  obtain ⟨l,rfl,rfl⟩:=Av r
  exact ⟨(x,t) :: l,rfl,rfl⟩
theorem xx {P : PW} {z : Heap} : ∀ {ss : List Str} {vs : List Value},DRs P z vs (ss.map .str) -> StrsAre vs ss
 | [],_,q=>by rw [q.nil_inv]; exact .nil
 | x :: _,_,q=>by
  obtain ⟨_,_,rfl,g,r⟩:=q.cons_inv
  obtain ⟨t,rfl⟩:=g.str_inv
  exact .cons x t (xx r)
theorem wa {P : PW} {z : Heap} {vs : List Value} {ss : List Str} (q : StrsAre vs ss) : DRs P z vs (ss.map .str):=by
 induction q with
 | nil=>exact .nil
 | cons y t r ih=>exact .cons (.str y t) ih
theorem Fu {v : V} {ss : List Str} (L : Ls H v (ss.map .str)) (hok : JoinOk x ss = true) : OpV cx B n (fun rvs=>call (.builtin "str.join") rvs []) [.d (.str x),v] H (.d (.str (Txt.join x ss))) H:=.mk fun A X ρ s rvs J I q=>by
 obtain ⟨u,w,rfl,q1,q2⟩:=two q; obtain ⟨t,rfl⟩:=gk q1
 refine al fun Gq kq=>?_
 obtain ⟨a,vs,rfl,hl,r⟩:=L.src I q2
 obtain ⟨l,e,rfl⟩:=Av r
 refine kq ?_
 have hl' : s.heap.IsList a (strValues l).toArray:=by rw [<- e]; simpa using hl.isList
 have hok':=hok
 unfold JoinOk at hok'
 rw [Bool.not_eq_true'] at hok'
 exact call_meets F.slot_str_join (typeIs_str s x t) F.entry_str_join (F.args_str_join_2 _ _) (meets_str_join_list x t a l hok') ⟨hl',post_join l ⟨joinFit_length hok',fun t' k=>dm I _ (.str _ _)⟩⟩
theorem Bv {a : Int} (ha : a.natAbs.log2 < 1920) : OpV cx B n (fun rvs=>call (.type "str") rvs []) [.d (.int a)] H (.d (.str (Str.ofString (toString a)))) H:=.mk fun A X ρ s rvs J I q=>by
 obtain ⟨u,rfl,q1⟩:=one q; obtain ⟨t,rfl⟩:=c9 q1
 exact P.str_of_int ha (dm I _ (.str _ _))
theorem Fk {a : Int} : OpV cx B n (fun rvs=>call (.builtin "abs") rvs []) [.d (.int a)] H (.d (.int (if a < 0 then -a else a))) H:=.mk fun A X ρ s rvs J I q=>by
 obtain ⟨u,rfl,q1⟩:=one q; obtain ⟨t,rfl⟩:=c9 q1
 exact call_abs_int fun u tk=>dm I _ (.int _ _)
theorem nl {v : V} {ss : List Str} (L : Ls H v (ss.map .str)) (h64 : ss.length < 64) (so : List Str) (hso : ∀ l : List Str,l.Perm ss -> sortedS l = true -> l = so) : OpV cx B n (fun rvs=>call (.builtin "sorted") rvs []) [v] H (.d (.list (so.map .str))) H:=.mk fun A X ρ s rvs J I q=>by
 obtain ⟨u,rfl,q1⟩:=one q
 obtain ⟨a,vs,rfl,hl,r⟩:=L.src I q1
 have hlen : vs.toList.length < 64:=by rw [r.length,List.length_map]; exact h64
 refine sorted_strs (vs:=vs.toList) (by simpa using hl.isList) (xx r) hlen fun out ss' h1 h2 h3=>?_
 have e:=hso ss' h2 h3
 subst e
 have hk : ∀ b o,s.heap.get? b = some o -> (sortedAll s.heap vs.toList out).get? b = some o:=fun J J e=>sortedAll_old e
 obtain ⟨e,he⟩:=sortedAll_at s.heap vs.toList out
 refine ⟨ρ,⟨⟨_,_,rfl⟩,I.grow hk,.grow hk⟩,.list (vs:=out) ⟨e,ax.mpr ⟨he,fun hb=>?_,fun hb=>?_⟩⟩ (wa h1)⟩
 ·obtain ⟨o',e'⟩:=I.ex _ hb; exact absurd (Heap.lt_size e') (Nat.not_lt.mpr (Nat.le_succ _))
 ·obtain ⟨o',e'⟩:=I.xe _ hb; exact absurd (Heap.lt_size e') (Nat.not_lt.mpr (Nat.le_succ _))
end Sx
theorem Ox {a c : Int} : OpV cx true n (fun rvs=>call (.builtin "min") rvs []) [.d (.int a),.d (.int c)] H (.d (.int (if c < a then c else a))) H:=.of fun A X ρ s rvs Qq Ee hr I q kk=>by
 obtain ⟨u,v,rfl,q1,q2⟩:=two q; obtain ⟨t,rfl⟩:=c9 q1; obtain ⟨t',rfl⟩:=c9 q2
 refine min_two_ints (hr.1 rfl) fun h' tk hk=>(kk ρ _ _ ⟨⟨_,_,rfl⟩,I.grow hk,.grow hk⟩ (?_))
 split <;> exact .int _ _
theorem w9 {P : PW} {z : Heap} : ∀ {ns : List Int} {vs : List Value},DRs P z vs (ns.map .int) -> (∀ v ∈ vs,∃ i t,v = .int i t) /\ numsOf vs = ns
 | [],_,q=>by rw [q.nil_inv]; exact ⟨fun J h=>(nomatch h),rfl⟩
 | i :: _,_,q=>by
  refine al fun Gq kq=>?_
  obtain ⟨_,_,rfl,g,r⟩:=q.cons_inv
  obtain ⟨t,rfl⟩:=g.int_inv
  obtain ⟨h1,h2⟩:=w9 r
  refine kq ?_
  refine ⟨fun v hv=>?_,?_⟩
  ·rcases List.mem_cons.mp hv with h | h
   ·exact ⟨i,t,h⟩
   ·exact h1 v h
  ·show i :: numsOf _ = _; rw [h2]
theorem Kv {v : V} {ns : List Int} (L : Ls H v (ns.map .int)) : OpV cx true n (fun rvs=>call (.builtin "sum") rvs []) [v] H (.d (.int ns.sum)) H:=.of fun A X ρ s rvs Qq Ee hr I q kk=>by
 refine al fun Gq kq=>?_
 obtain ⟨u,rfl,q1⟩:=one q
 obtain ⟨a,vs,rfl,hl,r⟩:=L.src I q1
 obtain ⟨h1,h2⟩:=w9 r
 have hall : AllInts vs:=fun v hv=>h1 v (by simpa using hv)
 obtain ⟨xs,rfl⟩:=hall.items
 refine kq ?_
 rw [nums_intItems] at h2
 refine sum_intListG (hr.1 rfl) hl.isList fun h' tk t' hk=>(kk ρ _ _ ⟨⟨_,_,rfl⟩,I.grow hk,.grow hk⟩ (?_))
 rw [preSum_eq,List.take_of_length_le (by simp),h2]
 exact .int _ _
end
section
variable {cx : Cx} {B : Bool} {n : Nat} {H : Hp}
theorem z8 {prog : Program} {w : World} {A : Around} {E : Value -> Shared -> Prop} {s : Shared} {tgt : Expr} (ht : A3 tgt) {it v : Value} {Q : Unit -> Shared -> Prop} (hQ : Q () s) : wpAny (model prog w) A (letOwnedTupleGo tgt it v) Q E s:=ht it v ▸ wpAny_pure hQ
theorem Et {A : Around} {tgt : Expr} {I : Addr} {m : Nat} {P : Nat -> Value -> Prop} {St : Nat -> Heap -> Prop} {ys : List D} (W : Walks cx.prog cx.w A I [I] [I] m P St) (hm : m = ys.length) (hex : ∀ j h,St j h -> ∃ o,h.get? I = some o)
  (hP : ∀ j v,P j v -> ∀ y,ys[j]? = some y -> ∀ z,DR cx.P z v y) (ht : A3 tgt) {X Y : List Addr} (_hY : ∀ a ∈ X,a ∈ Y) : It cx A tgt I Y (fun J=>True) (ys.map .d) (fun j J h=>St j h):=by
 refine ⟨fun j ρ s Q st hQ=>W.self j s Q No st hQ,fun j ρ h ρ' H' h' E st hE hI hl x J J=>W.frame j h h' st fun b hb o e=>?_,fun j x ρ H s hx st J J=>?_,fun ρ H s st J J=>?_⟩
 ·rw [List.mem_singleton.mp hb] at e ⊢
  exact x.pres I o e hl hI
 ·rw [List.getElem?_map] at hx
  obtain ⟨y,hy,rfl⟩:=Option.map_eq_some_iff.mp hx
  refine W.item j s _ No (hm ▸ aq hy) st fun v h' tk hp hst hk=>⟨v,rfl,z8 ht ?_⟩
  exact ⟨⟨_,_,rfl⟩,hst,fun b o hb e=>hk b o (fun q=>hb (List.mem_singleton.mp q)) e,hex _ _ hst,hP j v hp y hy _⟩
 ·rw [List.length_map,<- hm] at st
  exact W.done s _ No st fun h' tk hk=>⟨rfl,⟨_,_,rfl⟩,fun b o hb e=>hk b o (fun q=>hb (List.mem_singleton.mp q)) e⟩
section
variable {sc : Scope} {lo : Lo} {H1 : Hp} {e tgt : Expr}
noncomputable def nf (x : Str) : List D:=x.cps.toList.map fun c=>.str ⟨#[c]⟩
theorem Eu {x : Str} (h : Ev cx true n sc e lo H (.d (.str x)) H1) (ha : x.cps.all (· < 128) = true) (ht : A3 tgt) : jx cx true n sc e tgt lo H ((nf x).map .d) (fun J=>True) H1:=.mk fun A env X ρ s hs hr I F =>
 h.run hs hr I F fun ρ1 rv s1 a1 q1=>by
  obtain ⟨t,rfl⟩:=gk q1
  refine wpAny_pyIter_ascii ha ?_
  refine ⟨s1.heap.objs.size,ρ1,fun J j J h=>h.IsStrIter s1.heap.objs.size "str_ascii_iterator" x t j,rfl,a1.fin.trans ⟨_,_,rfl⟩,f9 a1.ext (dr _),a1.ext.trans .push,a1.inv.hide _,fun Y hY J=>?_,⟨_,Heap.get?_push_size _ rfl,rfl,rfl⟩,?_⟩
  ·refine Et (X:=X) (Walks.strAscii (hr.1 rfl) _ x t) (by simp [nf]) (fun j h st=>let ⟨o,e,_⟩:=st; ⟨o,e⟩) (fun j v hv y hy z=>?_) ht hY
   obtain ⟨c,u,hc,rfl⟩:=hv
   unfold nf at hy
   rw [List.getElem?_map,Array.getElem?_toList,hc] at hy
   cases hy
   exact .str _ _
  ·intro Y j ρ h o st hne
   obtain ⟨ob,e,r⟩:=st
   exact ⟨ob,Heap.get?_push_of_some _ e,r⟩
theorem Gm {I : Addr} {x l c : Int} {h : Heap} (st : IsRangeIter h I x l c) : ∃ o,h.get? I = some o:=⟨_,st⟩
theorem lz {m : Nat} (h : Ev cx true n sc e lo H (.d (.int m)) H1) {p pos : Pos} (hx : sc.names.lookup ("range" : Str) = some .globalImplicit) (hg : cx.gl ("range" : Str) = some (.type "range")) (hm : m <= 2 ^ 20) (hp : cq e = true) (ht : A3 tgt) :
  jx cx true n sc (.Call (.Name "range" p) [e] [] pos) tgt lo H ((List.range m).map fun i : Nat=>V.d (.int (i : Int))) (fun J=>True) H1:=.mk fun A env X ρ s hs hr I F=>by
 refine wpAny_Call_Name_kw (cg I F (by rw [ao,hs]; exact hx) hg ?_ (by decide))
 refine PySem.callWith_type (by rw [kg]; exact i4 (by simp [hp])) (il (vs:=[.d (.int m)]) (H1:=H1) (by simp [hp]) ((af hp h ag).go A env X ρ s pos hs hr I F) fun rvs s1 q=>?_)
 obtain ⟨ρ1,a1,q1⟩:=q
 obtain ⟨u,rfl,q2⟩:=one q1
 obtain ⟨t,rfl⟩:=c9 q2
 refine call_range_1 ?_
 have I2:=a1.inv.push { cls:=.type "range",data:=.fields #[.int 0 s1.toks,.int m t,.int 1 (s1.toks + 1)] }
 have hr2 : IsRange (s1.heap.push { cls:=.type "range",data:=.fields #[.int 0 s1.toks,.int m t,.int 1 (s1.toks + 1)] }) s1.heap.objs.size 0 m 1 s1.toks t (s1.toks + 1):=IsRange.new ..
 refine wpAny_pyIter_range hr2 (small_one (by exact Int.ofNat_nonneg _) (by exact Int.ofNat_nonneg _) (by exact Int.ofNat_nonneg _) (by omega)) ?_
 have hsz : Builtin.Range.rangeSize 0 (m : Int) 1 = (m : Int):=by rw [rangeSize_one]; split <;> omega
 generalize hh2 : s1.heap.push { cls:=.type "range",data:=.fields #[.int 0 s1.toks,.int m t,.int 1 (s1.toks + 1)] } = h2 at I2 hr2 ⊢
 have hk12 : ∀ b o,s1.heap.get? b = some o -> h2.get? b = some o:=fun b o e=>hh2 ▸ Heap.get?_push_of_some _ e
 refine ⟨h2.objs.size,ρ1,fun J j J h=>IsRangeIter h h2.objs.size ((0 : Int) + (j : Nat) * 1) ((m : Int) - (j : Nat)) 1,rfl,a1.fin.trans ⟨_,_,rfl⟩,f9 (a1.ext.trans (.grow (E:=cx.tabs) hk12)) (dr _),a1.ext.trans ((Ext.grow hk12).trans .push),I2.hide _,fun Y hY J=>?_,?_,?_⟩
 ·rw [show ((List.range m).map fun i : Nat=>V.d (.int (i : Int))) = ((List.range m).map fun i : Nat=>(.int (i : Int) : D)).map .d from by rw [List.map_map]; rfl]
  refine Et (X:=X) (Walks.range (hr.1 rfl) h2.objs.size 0 1 m) (by simp) (fun j h st=>Gm st) (fun j v hv y hy z=>?_) ht hY
  obtain ⟨t,rfl⟩:=hv
  have hj : j < m:=by have:=aq hy; simpa using this
  rw [List.getElem?_map,List.getElem?_range hj] at hy
  cases hy
  rw [Int.zero_add,Int.mul_one]
  exact .int _ _
 ·show (h2.push _).get? h2.objs.size = _
  rw [Heap.get?_push_size _ rfl,hsz]
  simp [rawInt]
 ·intro Y j ρ h o st hne
  exact Heap.get?_push_of_some _ st
end
end
section
variable {cx : Cx} {B : Bool} {n : Nat} {H : Hp}
theorem ib : entryFor table "dict_itemiterator.__iter__" = some Builtin.«dict_keyiterator.__iter__» :=
 entryFor_alias (id':="dict_keyiterator.__iter__") (by k_upd) rfl (by decide +kernel) (by k_upd)
section
variable {sc : Scope} {lo : Lo} {H1 : Hp} {e tgt : Expr}
noncomputable abbrev sk (cx : Cx):=strKind cx.prog cx.w
theorem DictAt.sub {z z' : Heap} (hs : Sub z z') {a : Addr} {kvs : List (Str × Value)} {ep : Nat} (x : z.DictAt (sk cx) a kvs ep) : z'.DictAt (sk cx) a kvs ep:=let ⟨o,es,e,r⟩:=x; ⟨o,es,hs _ _ e,r⟩
theorem DictAt.of_z {h : Heap} {ρ : Rh} {X : List Addr} {a : Addr} {kvs : List (Str × Value)} {ep : Nat} (x : (zH h ρ X).DictAt (sk cx) a kvs ep) : h.DictAt (sk cx) a kvs ep:=DictAt.sub (fun J J e=>(ax.mp e).1) x
theorem DEs.nth {P : PW} {z : Heap} {kvs : List (Str × Value)} {es : List (Str × D)} (q : DEs P z kvs (es.map enc)) {j : Nat} {k : Str} {x : D} (e : es[j]? = some (k,x)) : ∃ v,kvs[j]? = some (k,v) /\ DR P z v x:=by
 refine DEs.ind (M:=fun kvs es=>∀ {j : Nat} {k : Str} {x : D},es[j]? = some (k,x) -> ∃ v,kvs[j]? = some (k,v) /\ DR P z v x) (fun e=>nomatch e) (fun h ih j k x e=>?_) q e
 cases j with
 | zero=>cases e; exact ⟨_,rfl,h⟩
 | succ j=>exact ih e
theorem DEs.item {P : PW} {z : Heap} {kvs : List (Str × Value)} {es : List (Str × D)} (h : DEs P z kvs (es.map enc)) {α : Type} {f : Str × D -> α} {j : Nat} {x : α} (hx : (es.map f)[j]? = some x) : ∃ k v y,kvs[j]? = some (k,v) /\ DR P z v y /\ x = f (k,y):=by
 rw [List.getElem?_map] at hx
 refine al fun Gq kq=>?_
 obtain ⟨⟨k,y⟩,hy,rfl⟩:=Option.map_eq_some_iff.mp hx
 obtain ⟨v,hv,hd⟩:=h.nth hy
 exact kq ⟨k,v,y,hv,hd,rfl⟩
structure DEz (cx : Cx) (a : Addr) (ep : Nat) (kvs : List (Str × Value)) (es : List (Str × D)) (z : Heap) : Prop where
 at_ : z.DictAt (sk cx) a kvs ep
 rs : DEs cx.P z kvs (es.map enc)
theorem DEz.mono {a : Addr} {ep : Nat} {kvs : List (Str × Value)} {es : List (Str × D)} (z z' : Heap) (hs : Sub z z') (h : DEz cx a ep kvs es z) : DEz cx a ep kvs es z':=⟨DictAt.sub hs h.1,h.2.sub hs⟩
theorem DEz.end_ {a : Addr} {ep : Nat} {kvs : List (Str × Value)} {es : List (Str × D)} {z : Heap} (h : DEz cx a ep kvs es z) {f : Str × D -> V} : kvs[(es.map f).length]? = none:=List.getElem?_eq_none (by rw [List.length_map]; exact Nat.le_of_eq h.rs.length)
noncomputable def Gg (e : Str × D) : D:=.tuple [.str e.1,e.2]
theorem xb {x : Str} {ap p pos tp : Pos} {k : Nat} {elts : List Expr} {es : List (Str × D)} (hx : lo.lookup x = some (.d (.dict (es.map enc)))) (hk : sc.names.lookup x = some .local \/ sc.names.lookup x = some .cell \/ sc.names.lookup x = some .free)
  (hn : (x == ("__classdict__" : Str)) = false) (hd : (x == ("__debug__" : Str)) = false) (hline : (ap.endLine == pos.line) = true) :
  jx cx true n sc (.Call (.Attribute (.Name x p) "items" ap) [] [] pos) (.Tuple elts k tp) lo H ((es.map Gg).map .d) (fun J=>True) H:=.mk fun A env X ρ s hs hr I F=>by
 refine al fun Gq kq=>?_
 obtain ⟨rv,hname,q⟩ : ∃ rv,(∀ Q',Q' rv s -> wpAny (M cx) A (eval (.Name x p) env) Q' No s) /\ VOk cx (zH s.heap ρ X) ρ rv (.d (.dict (es.map enc))):=by
  have hk' : env.kindOf x = some .local \/ env.kindOf x = some .cell \/ env.kindOf x = some .free:=by rw [ao,hs]; exact hk
  rcases hk' with hk | hk | hk
  ·obtain ⟨m,hm,q⟩:=F.ns
   obtain ⟨rv,e,q⟩:=q x _ hx hk
   exact ⟨rv,fun Q' h=>wpAny_Name (wpAny_loadName_local F.kind hk hm e h) hd,q⟩
  ·obtain ⟨c,rv,e1,e2,q⟩:=F.cl x _ hx (.inl hk)
   exact ⟨rv,fun Q' h=>wpAny_Name (wpAny_loadName_cell F.kind hk e1 e2 h) hd,q⟩
  ·obtain ⟨c,rv,e1,e2,q⟩:=F.cl x _ hx (.inr hk)
   exact ⟨rv,fun Q' h=>wpAny_Name (wpAny_loadName_free F.kind hk e1 e2 h hn) hd,q⟩
 refine kq ?_
 cases q with
 | @dict a kvs _ hdz hq =>
 refine al fun Gq kq=>?_
 obtain ⟨hsys,hdz⟩:=hdz
 obtain ⟨ep,hat⟩:=hdz.dictAt
 refine kq ?_
 have hdo : s.heap.DictOf (sk cx) a kvs:=(DictAt.of_z hat).dictOf
 refine wpAny_Call_items (knd:=sk cx) (d:=a) (kvs:=kvs) hsys hdo rfl hline (fun Q' h=>hname Q' h) ?_
 have I2:=I.push { cls:=.type "dict_items",data:=.fields #[.ref a] }
 have hv : (s.heap.push { cls:=.type "dict_items",data:=.fields #[.ref a] }).IsItemsView s.heap.objs.size a:=⟨_,Heap.get?_push_size _ rfl,rfl,rfl⟩
 have hb:=fm (h:=s.heap) (ρ:=ρ) (X:=X) (o:={ cls:=.type "dict_items",data:=.fields #[.ref a] })
 have hat2:=DictAt.sub hb hat
 have hq2:=hq.sub hb
 generalize hh2 : s.heap.push { cls:=.type "dict_items",data:=.fields #[.ref a] } = h2 at I2 hv hat2 hq2 ⊢
 have hk12 : ∀ b o,s.heap.get? b = some o -> h2.get? b = some o:=fun b o e=>hh2 ▸ Heap.get?_push_of_some _ e
 refine wpAny_pyIter_items (knd:=sk cx) (ep:=ep) hv (DictAt.of_z hat2) ?_
 rw [List.map_map]
 refine Ab (fun j h=>∃ ok ov,IsItemIter h h2.objs.size a j kvs.length ep ok ov) (DEz cx a ep kvs es) ⟨_,_,rfl⟩ (f9 (Ext.grow (E:=cx.tabs) (ρ:=ρ) hk12) (dr _)) ((Ext.grow hk12).trans .push) (I2.hide _)
  ⟨.none,.none,Heap.get?_push_size _ rfl⟩ ⟨DictAt.sub ia hat2,hq2.sub ia⟩ (fun j h h' k st=>st.imp fun J q=>q.imp fun J q=>k _ q) (fun j h st=>st.elim fun J q=>q.elim fun J q=>⟨_,q⟩) DEz.mono
  (fun j s Q st hQ=>?_) (fun Y j x ρ H s P hP hx st fz I3=>?_) fun Y ρ s st fz=>?_
 ·obtain ⟨ok,ov,st⟩:=st
  have hT : s.TypeIs (.ref h2.objs.size) "dict_itemiterator":=⟨_,st,rfl⟩
  refine wpAny_pyIter_slot hT PySem.F.slot_dict_itemiterator_iter (wpAny_call_entry PySem.F.slot_dict_itemiterator_iter hT ib ?_ (PySem.F.args_dict_itemiterator_iter_1 _))
  exact wpAny_pure ⟨_,rfl, "dict_itemiterator",_,hT,PySem.F.slot_dict_itemiterator_next.lookup,hQ⟩
 ·refine al fun Gq kq=>?_
  obtain ⟨ok,ov,st⟩:=st
  obtain ⟨kk,v,yy,hv,hdr,rfl⟩:=fz.rs.item hx
  refine kq ?_
  refine wpAny_pyNext_items_item (knd:=sk cx) st (DictAt.of_z fz.at_) hv fun key h' hkey hit' ht hz hk=>⟨_,rfl,?_⟩
  refine wpAny_letOwnedTupleGo_items hit' fun h'' hit'' hs''=>?_
  have hbut : But h2.objs.size s.heap h'':=fun b o hb e=>hs''.extBut b o hb (hk b o hb e)
  have sb : Sub (zH s.heap ρ (h2.objs.size :: Y)) (zH h'' ρ (h2.objs.size :: Y)):=du hbut (.head _)
  refine ⟨⟨_,_,rfl⟩,hP _ hbut ⟨key,v,hit''⟩,hbut,⟨_,hit''⟩,?_⟩
  obtain ⟨t,rfl⟩:=Value.isStrOf_shape (x:=kk) (v:=key) hkey
  have hne : s.heap.objs.size ≠ h2.objs.size:=Nat.ne_of_gt (Heap.lt_size st)
  refine .tuple (vs:=#[.str kk t,v]) ⟨0,ax.mpr ⟨hs''.extBut _ _ hne ht,fun hb=>?_,fun hb=>?_⟩⟩ (.cons (.str _ _) (.cons (hdr.sub sb) .nil))
  ·exact (I3.ex _ hb).elim fun J e'=>absurd (Heap.lt_size e') (Nat.lt_irrefl _)
  ·exact (I3.xe _ hb).elim fun J e'=>absurd (Heap.lt_size e') (Nat.lt_irrefl _)
 ·obtain ⟨ok,ov,st⟩:=st
  exact wpAny_pyNext_items_end (knd:=sk cx) (hr.1 rfl) st (DictAt.of_z fz.at_) fz.end_ fun h' he=>⟨rfl,⟨_,_,rfl⟩,he⟩
theorem Je {x y : Str} {ap p pos tp : Pos} {es : List (Str × D)} (hx : lo.lookup x = some (.d (.dict (es.map enc)))) (hk : sc.names.lookup x = some .local \/ sc.names.lookup x = some .cell \/ sc.names.lookup x = some .free)
  (hn : (x == ("__classdict__" : Str)) = false) (hd : (x == ("__debug__" : Str)) = false) (hline : (ap.endLine == pos.line) = true) :
  jx cx true n sc (.Call (.Attribute (.Name x p) "values" ap) [] [] pos) (.Name y tp) lo H ((es.map (·.2)).map .d) (fun J=>True) H:=.mk fun A env X ρ s hs hr I F=>by
 refine wpAny_Call_method (T:="dict") (id:="dict.values") rfl rfl hline PySem.F.plainAttrs_dict PySem.F.slot_dict_values PySem.F.type_dict_values ?_
 refine (u8 (cx:=cx) (b:=true) (n:=n) hx hk hn hd).run hs hr I F fun ρ0 rv s0 a0 q=>?_
 cases q with
 | @dict a kvs _ hdz hq =>
 obtain ⟨hsys,hdz⟩:=hdz
 obtain ⟨ep,hat⟩:=hdz.dictAt
 have hdo : s0.heap.DictOf (sk cx) a kvs:=(DictAt.of_z hat).dictOf
 refine ⟨hdo.typeIs,hdo.mapOf.noDict,?_⟩
 show wpAny _ _ (callWith pos (.builtin "dict.values") [.ref a] [] []) _ _ s0
 refine method_meetsIn PySem.F.slot_dict_values PySem.F.entry_dict_values rfl (PySem.evalArgs_none ⟨rfl,hdo.typeIs,PySem.F.args_dict_values_1 _,_,meets_dict_values (sk cx) a hsys,⟨kvs,hdo⟩,?_⟩)
 have I2:=a0.inv.push { cls:=.type "dict_values",data:=.fields #[.ref a] }
 have hv : (s0.heap.push { cls:=.type "dict_values",data:=.fields #[.ref a] }).IsValuesView s0.heap.objs.size a:=⟨_,Heap.get?_push_size _ rfl,rfl,rfl⟩
 have hb:=fm (h:=s0.heap) (ρ:=ρ0) (X:=X) (o:={ cls:=.type "dict_values",data:=.fields #[.ref a] })
 have hat2:=DictAt.sub hb hat
 have hq2:=hq.sub hb
 show wpAny (M cx) A (pyIter (.ref s0.heap.objs.size)) _ _ { s0 with heap:=s0.heap.push { cls:=.type "dict_values",data:=.fields #[.ref a] } }
 generalize hh2 : s0.heap.push { cls:=.type "dict_values",data:=.fields #[.ref a] } = h2 at I2 hv hat2 hq2 ⊢
 have hk12 : ∀ b o,s0.heap.get? b = some o -> h2.get? b = some o:=fun b o e=>hh2 ▸ Heap.get?_push_of_some _ e
 refine wpAny_pyIter_values (knd:=sk cx) (ep:=ep) hv (DictAt.of_z hat2) ?_
 rw [List.map_map]
 refine Ab (fun j h=>h.IsValIter h2.objs.size a j kvs.length ep) (DEz cx a ep kvs es) (a0.fin.trans ⟨_,_,rfl⟩) (f9 (a0.ext.trans (Ext.grow (E:=cx.tabs) (ρ:=ρ0) hk12)) (dr _)) (a0.ext.trans ((Ext.grow hk12).trans .push)) (I2.hide _)
  ⟨_,Heap.get?_push_size _ rfl,rfl,rfl⟩ ⟨DictAt.sub ia hat2,hq2.sub ia⟩ (fun j h h' k st=>st.imp fun J q=>⟨k _ q.1,q.2⟩) (fun j h st=>st.imp fun J q=>q.1) DEz.mono
  (fun j s Q st hQ=>wpAny_pyIter_valiter st hQ) (fun Y j x ρ H s P hP hx st fz J=>?_) fun Y ρ s st fz=>wpAny_pyNext_values_end (knd:=sk cx) (hr.1 rfl) st (DictAt.of_z fz.at_) fz.end_ fun h' he=>⟨rfl,⟨_,_,rfl⟩,he⟩
 obtain ⟨kk,v,yy,hv,hdr,rfl⟩:=fz.rs.item hx
 exact wpAny_pyNext_values_item (knd:=sk cx) st (DictAt.of_z fz.at_) hv fun h' hit' hs'=>⟨_,rfl,wpAny_pure ⟨⟨_,_,rfl⟩,hP _ hs'.extBut hit',hs'.extBut,hit'.imp fun J q=>q.1,hdr.sub (du hs'.extBut (.head _))⟩⟩
end
end
section
variable {cx : Cx} {B : Bool} {n : Nat} {H : Hp}
section
variable {sc : Scope} {lo : Lo} {H1 : Hp} {e tgt : Expr}
theorem Fg {ρ : Rh} {X : List Addr} {h : Heap} {i : Nat} {xs : List D} {a : Addr} (I : Inv cx ρ H X h) (hi : H[i]? = some (.lst xs)) (ea : ρ[i]? = some (some a)) : ∃ vs,h.PlainList a vs /\ DRs cx.P (zH h ρ X) vs.toList xs:=by
 obtain ⟨a',vs,e,q⟩:=I.ob _ _ hi
 rw [ea] at e
 cases e
 exact ⟨vs,q⟩
theorem qz {i : Nat} {xs : List D} (h : Ev cx true n sc e lo H (.loc i) H1) (hi : H1[i]? = some (.lst xs)) (ht : xz tgt) : jx cx true n sc e tgt lo H (xs.map .d) (fun H=>H[i]? = some (.lst xs)) H1:=.mk fun A env X ρ s hs hr I F =>
 h.run hs hr I F fun ρ1 rv s1 a1 q1=>by
  refine al fun Gq kq=>?_
  obtain ⟨a,vs,ea,hl,r⟩:=a1.inv.ob _ _ hi
  refine kq ?_
  have:=q1.2 a ea
  subst this
  refine wpAny_pyIter_list hl.isList ?_
  have hne : a ≠ s1.heap.objs.size:=by obtain ⟨o,e⟩:=hl; exact Nat.ne_of_lt (Heap.lt_size e)
  refine ⟨_,ρ1,fun Y j ρ h=>h.IsListIter s1.heap.objs.size a j /\ ρ[i]? = some (some a),rfl,a1.fin.trans ⟨_,_,rfl⟩,f9 a1.ext (dr _),
   a1.ext.trans .push,a1.inv.hide _,fun Y hY hYt=>⟨fun j ρ s Q st hQ=>wpAny_pyIter_listiter st.1 hQ,fun j ρ h ρ' H' h' E st hE hI hl x I' hC=>?_,fun j x ρ H s hx st I' hC=>?_,fun ρ H s st I' hC=>?_⟩,⟨⟨_,Heap.get?_push_size _ rfl,rfl,rfl⟩,ea⟩,
   fun Y j ρ h o st hne=>⟨Heap.IsListIter.at st.1 fun J e=>Heap.get?_push_of_some _ e,st.2⟩⟩
  ·refine ⟨Heap.IsListIter.at st.1 (x.keepI (X:=Y) hI hl),?_⟩
   refine (I'.ob _ _ hC).elim fun a' q=>q.elim fun J q=>?_
   have:=x.idx i a' (aq st.2) q.1
   rw [st.2] at this
   cases this
   exact q.1
  ·obtain ⟨vs',hl',r'⟩:=Fg I' hC st.2
   obtain ⟨v,y,hv,rfl,hd⟩:=r'.item hx
   exact wpAny_pyNext_list_item st.1 hl'.isList hv fun h' hit' hs'=>⟨v,rfl,ow ht hit' ⟨⟨_,_,rfl⟩,⟨hit',st.2⟩,hs'.extBut,hit'.imp fun J q=>q.1,hd.sub (gm hs' (.head _))⟩⟩
  ·obtain ⟨vs',hl',r'⟩:=Fg I' hC st.2
   have hlen:=DRs.length r'
   exact wpAny_pyNext_list_end (hr.1 rfl) st.1 hl'.isList (by simp at hlen ⊢; exact Nat.le_of_eq hlen) fun h' he=>⟨rfl,⟨_,_,rfl⟩,he⟩
end
end
section
variable {cx : Cx} {b : Bool} {n : Nat} {H H1 : Hp} {sc : Scope} {lo : Lo}
theorem D3 {e : Expr} {p p2 pos : Pos} {i : Int} (hx : sc.names.lookup (Str.ofString "isinstance") = some .globalImplicit) (hg : cx.gl (Str.ofString "isinstance") = some (.builtin "isinstance")) (hx2 : sc.names.lookup (Str.ofString "tuple") = some .globalImplicit) (hg2 : cx.gl (Str.ofString "tuple") = some (.type "tuple"))
  (hp : cq e = true) (h : Ev cx b n sc e lo H (.d (.int i)) H1) : Ev cx b n sc (.Call (.Name (Str.ofString "isinstance") p) [e,.Name (Str.ofString "tuple") p2] [] pos) lo H (.d (.bool false)) H1:=.mk fun A env X ρ s hs hr I F=>by
 refine wpAny_Call_Name_kw (cg I F (by rw [ao,hs]; exact hx) hg ?_ (by decide))
 have hst : starEach [e,.Name (Str.ofString "tuple") p2] env = [(false,eval e env),(false,eval (.Name (Str.ofString "tuple") p2) env)]:=by rw [eh hp]; rfl
 rw [hst]
 refine callWith_builtin rfl (evalArgs_plain (spliced_cons (h.run hs hr I F fun ρ1 rv s1 a1 q1=>?_)))
 obtain ⟨t,rfl⟩:=c9 q1
 refine spliced_cons (cg a1.inv (a1.fr I F) (by rw [ao,hs]; exact hx2) hg2 (spliced_nil ?_) (by decide))
 exact IsiPair.int_tuple ⟨ρ1,a1.trans (.tok a1.inv _),.bool _⟩
end
section
variable {cx : Cx} {B : Bool} {n : Nat} {H : Hp}
noncomputable abbrev PSt:=List Value × Builtin.Str.Writer × List Nat
section
variable (Fb : Str -> Tok -> Value -> Nat -> PSt -> Sem (ForInStep PSt)) (Fc : Str -> Tok -> Value -> PSt -> Sem (ForInStep PSt)) (Gb : PSt -> Sem PySem.Fin)
noncomputable def Nn : Prop:=∀ {M A Q E s F t v} {its : Array Value},(∀ Q,Q true s -> wpAny M A (isInstance v (.type "tuple")) Q E s) -> (∀ Q,Q none s -> wpAny M A (asStr? v) Q E s) -> (∀ Q,(∀ b,Q b s) -> wpAny M A (fillsMappingSlot v) Q E s) -> (∀ Q,Q (some its) s -> wpAny M A (seqItems? v) Q E s) ->
  wpAny M A (forIn (List.range' 0 F.length 1) ((its.toList,({} : Builtin.Str.Writer),F.cps.toList) : PSt) (Fb F t v)) (fun r s=>wpAny M A (Gb r) Q E s) E s -> wpAny M A (Builtin.Str.percentFormat (.str F t) F v) Q E s
noncomputable def Nm : Prop:=∀ {M A Q E s F t v y},(∀ Q,Q false s -> wpAny M A (isInstance v (.type "tuple")) Q E s) -> (∀ Q,Q (some y) s -> wpAny M A (asStr? v) Q E s) -> (∀ Q,(∀ b,Q b s) -> wpAny M A (fillsMappingSlot v) Q E s) ->
  wpAny M A (forIn (List.range' 0 F.length 1) (([v],({} : Builtin.Str.Writer),F.cps.toList) : PSt) (Fb F t v)) (fun r s=>wpAny M A (Gb r) Q E s) E s -> wpAny M A (Builtin.Str.percentFormat (.str F t) F v) Q E s
noncomputable def Nj : Prop:=∀ {M A Q E s F t v i st},¬ Builtin.Str.tooLong st.2.1.total = true -> wpAny M A (Fc F t v st) Q E s -> wpAny M A (Fb F t v i st) Q E s
noncomputable def Nk : Prop:=∀ {M A Q E s F t v p w},Q (.done (p,w,[])) s -> wpAny M A (Fc F t v (p,w,[])) Q E s
noncomputable def K8 : Prop:=∀ {M A Q E s w r},wpAny M A (w.finish "str.__mod__") Q E s -> wpAny M A (Gb ([],w,r)) Q E s
noncomputable def Nl : Prop:=∀ {M A Q E s F t v p w c l r b},(c :: r).span (· != 37) = (c :: l,b) -> ((c :: l).length == F.length) = false -> (∀ o,o = none -> Q (.yield (p,w.add ⟨(c :: l).toArray⟩ o,b)) s) -> wpAny M A (Fc F t v (p,w,c :: r)) Q E s
noncomputable def Pccs : Prop:=∀ {M A Q E s F t v p w r y u},(∀ o,KPc.Obj o y -> Q (.yield (p,w.add ⟨y.cps.toList.toArray⟩ o,r)) s) -> wpAny M A (Fc F t v (.str y u :: p,w,37 :: 115 :: r)) Q E s
noncomputable def Pccd : Prop:=∀ {prog W A Q E s F t v p w r n u},0 <= n -> n < 10 ^ 10 -> (∀ c d o k,c.alt = false -> c.type = 100 -> c.prec = none -> d = (PySem.Str.ofString (toString ((n.natAbs : Nat) : Int))).cps.toList -> o = none -> Q (.yield (p,w.add ⟨(Builtin.Str.percentInt c (decide (n < 0)) d).toArray⟩ o,r)) { s with toks:=k }) -> wpAny (model prog W) A (Fc F t v (.int n u :: p,w,37 :: 100 :: r)) Q E s
noncomputable def PctL : Prop:=Nn Fb Gb /\ Nm Fb Gb /\ Nj Fb Fc /\ Nk Fc /\ K8 Gb /\ Nl Fc /\ Pccs Fc /\ Pccd Fc
end
theorem Kw : ∃ Fb Fc Gb,PctL Fb Fc Gb:=by
 refine ⟨?_,?_,?_,?a,?b,?c,?d,?e,?f,?g,?h⟩
 case a =>
  intro M A Q E s F t v its a1 a2 a3 a4 K
  unfold Builtin.Str.percentFormat
  refine wpAny_bind (a1 _ ?_)
  refine wpAny_bind (a2 _ ?_)
  refine wpAny_bind (a3 _ fun b=>?_)
  generalize hm : (!true && !(none : Option Str).isSome && b) = m
  obtain rfl : m = false:=hm.symm
  kpc_if
  refine wpAny_bind (a4 _ ?_)
  refine wpAny_bind (wpAny_pure ?_)
  refine wpAny_bind ?_
  rw [KPc.range_list]
  exact K
 case b =>
  intro M A Q E s F t v y a1 a2 a3 K
  unfold Builtin.Str.percentFormat
  refine wpAny_bind (a1 _ ?_)
  refine wpAny_bind (a2 _ ?_)
  refine wpAny_bind (a3 _ fun b=>?_)
  generalize hm : (!false && !(some y).isSome && b) = m
  obtain rfl : m = false:=hm.symm
  kpc_if
  refine wpAny_bind (wpAny_pure ?_)
  refine wpAny_bind ?_
  rw [KPc.range_list]
  exact K
 case c =>
  intro M A Q E s F t v i st h K
  refine wpAny_ite (KPc.ite_no h ?_)
  exact K
 case d =>
  intro M A Q E s F t v p w K
  exact wpAny_pure K
 case e =>
  intro M A Q E s w r K
  kpc_if
  exact K
 case f =>
  intro M A Q E s F t v p w c l r b h hn K
  refine wpAny_ite (KPc.ite_no Bool.false_ne_true ?_)
  refine h.symm ▸ ?_
  refine wpAny_ite (KPc.ite_yes rfl ?_)
  exact wpAny_pure (K _ (if_neg (by rw [hn]; decide)))
 case g =>
  intro M A Q E s F t v p w r y u K
  repeat kpc_if
  refine wpAny_bind ?_
  refine wpAny_holding ?_
  repeat kpc_if
  refine wpAny_bind (wpAny_of_eq (KPc.strOf_str _ _) ?_)
  refine wpAny_bind (wpAny_of_eq (a:=some _) rfl ?_)
  refine wpAny_pure ?_
  refine wpAny_pure ?_
  refine K _ fun z hz=>?_
  by_cases hr : r.isEmpty = true
  ·exact ⟨u,(Option.some.inj ((if_pos hr).symm.trans hz)).symm⟩
  ·exact nomatch (if_neg hr).symm.trans hz
 intro prog W A Q E s F t v p w r n u h0 h1 K
 repeat kpc_if
 refine wpAny_bind ?_
 refine wpAny_holding ?_
 repeat kpc_if
 have hd : n.natAbs.log2 < 1920:=shown (N:=2 ^ 1920) (by omega) (by omega) (Int.le_refl _)
 refine wpAny_bind (wpAny_of_eq (a:=_) rfl ?_)
 repeat kpc_if
 refine wpAny_bind (wpAny_mkInt ?_)
 refine wpAny_bind (call_gives PySem.F.slot_int_repr (typeIs_int _ _ _) PySem.F.entry_int_repr (PySem.F.args_int_repr_1 _) (gives_int_repr _ _ (KPt.hd2 hd)) ⟨int_text_fits (KPt.hd2 hd),?_⟩)
 refine wpAny_bind (wpAny_of_eq (a:=some _) rfl ?_)
 refine wpAny_pure ?_
 refine wpAny_pure ?_
 exact K _ _ _ _ rfl rfl rfl rfl (ite_self _)
section
variable {Fb : Str -> Tok -> Value -> Nat -> PSt -> Sem (ForInStep PSt)} {Fc : Str -> Tok -> Value -> PSt -> Sem (ForInStep PSt)} {Gb : PSt -> Sem PySem.Fin} {A : Around} {E : Value -> Shared -> Prop} {s : Shared} {Q : PSt -> Shared -> Prop} {F T y x : Str} {t : Tok} {v : Value} {w : Builtin.Str.Writer} {p : List Value} {r b l : List Nat} {i c : Nat} {ls : List Nat} {u : Tok} {prog : Program} {W : World}
noncomputable def Lp (Fb : Str -> Tok -> Value -> Nat -> PSt -> Sem (ForInStep PSt)) (F : Str) (t : Tok) (v : Value) (M : Model) (A : Around) (ls : List Nat) (T : Str) (p : List Value) (r : List Nat) (s : Shared) (Q : PSt -> Shared -> Prop) (E : Value -> Shared -> Prop) : Prop :=
 ∀ w,KPc.Good w T (1000000 * (12 - ls.length)) -> wpAny M A (forIn ls ((p,w,r) : PSt) (Fb F t v)) Q E s
theorem PctL.lp (z : PctL Fb Fc Gb) {M : Model} (hl : ls.length <= 11)
  (h : ∀ w,KPc.Good w T (1000000 * (12 - (ls.length + 1))) -> ∀ R : ForInStep PSt -> Shared -> Prop,(∀ b' s',Q b' s' -> R (.done b') s') -> (∀ b' s',wpAny M A (forIn ls b' (Fb F t v)) Q E s' -> R (.yield b') s') -> wpAny M A (Fc F t v (p,w,r)) R E s) : Lp Fb F t v M A (i :: ls) T p r s Q E:=fun w g =>
 KPc.turn (z.2.2.1 (KPc.short_good g (by rw [List.length_cons]; omega)) (h w g _ (fun J J=>id) fun J J=>id))
theorem PctL.lit1 (z : PctL Fb Fc Gb) {M : Model} (hl : ls.length <= 11) (h : (c :: r).span (· != 37) = ([c],b)) (hn : ((1 : Nat) == F.length) = false)
  (K : Lp Fb F t v M A ls (T ++ ⟨#[c]⟩) p b s Q E) : Lp Fb F t v M A (i :: ls) T p (c :: r) s Q E:=z.lp hl fun w g J J f =>
 z.2.2.2.2.2.1 h hn fun o ho=>f _ _ (K _ (KPc.good_mono (KPc.good_add g (KPc.obj_none ho)) (by show _ + 1 <= _; omega)))
theorem PctL.cs1 (z : PctL Fb Fc Gb) {M : Model} (hl : ls.length <= 11) (hy : y.length <= 1000000)
  (K : Lp Fb F t v M A ls (T ++ y) p r s Q E) : Lp Fb F t v M A (i :: ls) T (.str y u :: p) (37 :: 115 :: r) s Q E:=z.lp hl fun w g J J f =>
 z.2.2.2.2.2.2.1 fun o ho=>f _ _ (KPc.after_str g hy ho fun w' g'=>K _ (KPc.good_mono g' (by omega)))
theorem PctL.cd1 (z : PctL Fb Fc Gb) {n : Int} (hl : ls.length <= 11) (h0 : 0 <= n) (h1 : n < 10 ^ 10)
  (K : ∀ k,Lp Fb F t v (model prog W) A ls (T ++ Str.ofString (toString n)) p r { s with toks:=k } Q E) : Lp Fb F t v (model prog W) A (i :: ls) T (.int n u :: p) (37 :: 100 :: r) s Q E:=z.lp hl fun w g J J f =>
 z.2.2.2.2.2.2.2 h0 h1 fun J J J k a1 a2 a3 hd ho=>f _ _ (KPc.after_int g a1 (.inl a2) a3 h0 h1 hd ho fun w' g'=>K k _ (KPc.good_mono g' (by omega)))
theorem PctL.fin1 (z : PctL Fb Fc Gb) {M : Model} {Q : PySem.Fin -> Shared -> Prop} (hl : ls.length <= 11) (h : ∀ t k,Q (.done (.ret (.str T t))) { s with toks:=k }) : Lp Fb F t v M A (i :: ls) T [] [] s (fun r s=>wpAny M A (Gb r) Q E s) E:=z.lp hl fun w g J d J =>
 z.2.2.2.1 (d _ _ (z.2.2.2.2.1 (KPc.finish_ok g (by omega) rfl h)))
end
noncomputable def Oc : Str:=⟨#[37,115,58,37,100,40,37,115,41]⟩
theorem Ie : Str.ofString "%s:%d(%s)" = Oc:=by k_upd
theorem Oz (t : Tok) (b : Addr) (a c : Str) (m : Int) (ta tm tc : Tok) (h0 : 0 <= m) (h1 : m < 10 ^ 10) (ha : a.length <= 1000) (hc : c.length <= 1000) :
  ∃ T : Str,T = a ++ Str.ofString ":" ++ Str.ofString (toString m) ++ Str.ofString "(" ++ c ++ Str.ofString ")" /\ Meets (Builtin.«str.__mod__» ⟨[.str ⟨#[37,115,58,37,100,40,37,115,41]⟩ t,.ref b],[]⟩) (fun J R s=>IsTup s.heap b #[.str a ta,.int m tm,.str c tc] /\
   ∀ t' k,R (.ok (.ret (.str T t'))) { s with toks:=k }):=by
 refine ⟨Str.empty ++ a ++ Str.ofString ":" ++ Str.ofString (toString m) ++ Str.ofString "(" ++ c ++ Str.ofString ")",by rw [KPc.empty_app],?_⟩
 obtain ⟨Fb,Fc,Gb,z⟩:=Kw
 refine KPt.meets_tup fun J J J s J J hT K=>?_
 rw [KPt.entry_is_r]
 obtain ⟨o,hG,hC,n,hD⟩:=hT
 refine z.1 (fun J=>wpAny_isInstance (T:="tuple") ⟨o,hG,hC⟩ KPt.sub_tt) (fun J=>KPt.asStr_ref hG hD) (fun J=>KPt.fills_ref ⟨o,hG,hC⟩) (fun J=>wpAny_seqItems hG hD) (KPc.start fun w g=>?_)
 refine z.cs1 (i:=0) (ls:=[1,2,3,4,5,6,7,8]) (by decide) (by omega) ?_ w (KPc.good_mono g (by decide))
 refine z.lit1 (by decide) rfl rfl ?_
 refine z.cd1 (by decide) h0 h1 fun J=>?_
 refine z.lit1 (by decide) rfl rfl ?_
 refine z.cs1 (by decide) (by omega) ?_
 refine z.lit1 (by decide) rfl rfl ?_
 exact z.fin1 (by decide) fun t k=>K _ _
end
section
variable {cx : Cx} {B : Bool} {n : Nat} {H : Hp}
inductive Cm (H : Hp) : V -> D -> Prop
 | loc {i xs} : H[i]? = some (.lst xs) -> Cm H (.loc i) (.list xs)
 | d {x} : Cm H (.d x) x
theorem sy {h : Heap} {ρ : Rh} {X : List Addr} : Sub (zH h ρ X) h:=fun J J e=>(ax.mp e).1
theorem Cm.reads {ρ : Rh} {X : List Addr} {h : Heap} {rv : Value} {v : V} {x : D} (L : Cm H v x) (I : Inv cx ρ H X h) (q : VOk cx (zH h ρ X) ρ rv v) : ∃ as,Reads h rv x as:=by
 cases L with
 | loc hi =>
  obtain ⟨a,vs,rfl,⟨k,l⟩,r⟩:=(Ls.loc hi).src I q
  obtain ⟨_,p⟩:=(DRs.sub sy r).reads
  exact ⟨_,.list l rfl rfl p⟩
 | d=>exact (DR.sub sy q).reads
theorem Mx {b : Bool} {n : Nat} {A : Around} (h : Rm b n A) : A.units + 64 < cLine:=by have:=h.2.2; show A.units + 64 < 9900; omega
theorem ix {v w : V} {x y : D} (L1 : Cm H v x) (L2 : Cm H w y) (hx : SeqAt.shaped x = true) (hy : SeqAt.shaped y = true) : OpV cx B n (cmp .Eq) [v,w] H (.d (.bool (PyData.eqv x y))) H:=.mk fun A X ρ s rvs hr I q=>by
 refine al fun Gq kq=>?_
 obtain ⟨u,v,rfl,q1,q2⟩:=two q
 obtain ⟨_,r1⟩:=L1.reads I q1
 obtain ⟨_,r2⟩:=L2.reads I q2
 refine kq ?_
 exact SeqAt.compareEq_shaped r1 r2 hx hy (Mx hr) (f8 I (.bool _))
theorem nk {v w : V} {x y : D} (L1 : Cm H v x) (L2 : Cm H w y) (hx : SeqAt.shaped x = true) (hy : SeqAt.shaped y = true) : OpV cx B n (cmp .NotEq) [v,w] H (.d (.bool (!PyData.eqv x y))) H:=.mk fun A X ρ s rvs hr I q=>by
 refine al fun Gq kq=>?_
 obtain ⟨u,v,rfl,q1,q2⟩:=two q
 obtain ⟨_,r1⟩:=L1.reads I q1
 obtain ⟨_,r2⟩:=L2.reads I q2
 refine kq ?_
 exact SeqAt.compareNe_shaped r1 r2 hx hy (Mx hr) (f8 I (.bool _))
theorem wq {x : D} (h : SeqAt.shaped x = true) : PyData.eqv x x = true:=SeqAt.eqv_refl x (SeqAt.canLay_of_shaped h)
theorem DRs.set {P : PW} {z : Heap} {v : Value} {x : D} (h : DR P z v x) {vs xs} (q : DRs P z vs xs) (k : Nat) : DRs P z (vs.set k v) (xs.set k x):=by
 refine DRs.ind (M:=fun vs xs=>∀ k,DRs P z (vs.set k v) (xs.set k x)) (fun k=>.nil) (fun h' r ih k=>?_) q k
 cases k with
 | zero=>exact .cons h r
 | succ k=>exact .cons h' (ih k)
theorem uh {i k : Nat} {xs : List D} {x : D} (hi : H[i]? = some (.lst xs)) (hk : k < xs.length) (hk2 : k < 2 ^ 62) : Op cx B n si [.d x,.loc i,.d (.int k)] H (fun X ρ s J s'=>∃ ρ',Aft cx cx.tabs X ρ s (H.set i (.lst (xs.set k x))) ρ' s'):=.mk fun A X ρ s rvs J I q=>by
 refine al fun Gq kq=>?_
 obtain ⟨u,v,w,rfl,q1,q2,q3⟩:=uw q
 obtain ⟨t,rfl⟩:=c9 q3
 obtain ⟨a,vs,e,⟨m,hl⟩,r⟩:=I.ob _ _ hi
 refine kq ?_
 have:=q2.2 a e
 subst this
 have hsz:=Ls.size r
 refine ki_setAt hl (by exact Int.ofNat_nonneg _) (by omega) (by omega) ?_
 have hl':=IsL.update hl (·.setIfInBounds (k : Int).toNat u)
 have hs : Heap.SameBut a s.heap (s.heap.update a (Obj.mapSeq (·.setIfInBounds (k : Int).toNat u))):=i6
 have hb:=fq (ρ:=ρ) (X:=X) hs (b9 e)
 refine ⟨ρ,⟨⟨_,_,rfl⟩,I.upd e hs ⟨_,hl'⟩ _ ⟨a,_,e,⟨_,hl'⟩,?_⟩,.upd e hs ⟨_,hl'⟩⟩⟩
 rw [Array.toList_setIfInBounds]
 exact (r.sub hb).set (q1.sub hb) k
theorem th {P : PW} {z : Heap} {v : Value} {xs : List D} (h : DR P z v (.tuple xs)) : ∃ a vs n,v = .ref a /\ IsT z a vs n /\ DRs P z vs.toList xs:=by
 cases h with
 | tuple t q=>obtain ⟨n,t⟩:=t; exact ⟨_,_,n,rfl,t,q⟩
theorem IsT.of_z {h : Heap} {ρ : Rh} {X : List Addr} {a : Addr} {vs : Array Value} {n : Nat} (x : IsT (zH h ρ X) a vs n) : IsT h a vs n:=(ax.mp x).1
theorem Mp {a c : Str} {m : Int} (h0 : 0 <= m) (h1 : m < 10 ^ 10) (ha : a.length <= 1000) (hc : c.length <= 1000) :
  OpV cx B n (bin .Mod) [.d (.str Oc),.d (.tuple [.str a,.int m,.str c])] H (.d (.str (a ++ Str.ofString ":" ++ Str.ofString (toString m) ++ Str.ofString "(" ++ c ++ Str.ofString ")"))) H:=.mk fun A X ρ s rvs J I q=>by
 refine al fun Gq kq=>?_
 obtain ⟨u,v,rfl,q1,q2⟩:=two q
 obtain ⟨t,rfl⟩:=gk q1
 obtain ⟨b,vs,k,rfl,ht,hq⟩:=th q2
 have ht:=IsT.of_z ht
 obtain ⟨l⟩:=vs
 obtain ⟨v1,l1,e1,d1,r⟩:=DRs.cons_inv hq
 obtain ⟨v2,l2,e2,d2,r⟩:=r.cons_inv
 obtain ⟨v3,l3,e3,d3,r⟩:=r.cons_inv
 obtain ⟨ta,g1⟩:=d1.str_inv
 obtain ⟨tm,g2⟩:=d2.int_inv
 obtain ⟨tc,g3⟩:=d3.str_inv
 refine kq ?_
 have e4:=r.nil_inv
 subst e4 e3 e2 g1 g2 g3
 obtain rfl : l = _:=e1
 refine al fun Gq kq=>?_
 obtain ⟨T,rfl,hm⟩:=Oz t b a c m ta tm tc h0 h1 ha hc
 refine kq ?_
 have hT : IsTup s.heap b #[.str a ta,.int m tm,.str c tc]:=⟨_,ht,rfl,_,rfl⟩
 exact KPt.bin_left (T:="str") (U:="tuple") (op:=.Mod) (by decide) (typeIs_str _ _ _) hT.typeIs PySem.F.fills_str_mod KPt.fills_tuple PySem.F.slot_str_mod
  (call_meets PySem.F.slot_str_mod (typeIs_str _ _ _) PySem.F.entry_str_mod (PySem.F.args_str_mod_2 _ _) hm ⟨hT,fun t' k=>⟨fun e=>(nomatch e),dm I _ (.str _ _)⟩⟩)
theorem Hn (t u : Tok) (z : Str) (hz : z.length <= 1000000) :
  ∃ T : Str,T = Str.ofString "{" ++ z ++ Str.ofString "}" /\ Meets (Builtin.«str.__mod__» ⟨[.str ⟨#[123,37,115,125]⟩ t,.str z u],[]⟩) (fun J R s=>∀ t' k,R (.ok (.ret (.str T t'))) { s with toks:=k }):=by
 refine ⟨Str.empty ++ Str.ofString "{" ++ z ++ Str.ofString "}",by rw [KPc.empty_app],?_⟩
 obtain ⟨Fb,Fc,Gb,q⟩:=Kw
 refine KPc.meets_of fun J J J s J J K=>?_
 rw [KPc.entry_is_s]
 refine q.2.1 (fun J=>wpAny_isInstance (typeIs_str _ _ _) PySem.F.sub_str_tuple) (fun J=>wpAny_of_eq (a:=some _) rfl) (fun J=>KPc.wp_fills_str) (KPc.start fun w g=>?_)
 refine q.lit1 (i:=0) (ls:=[1,2,3]) (by decide) rfl rfl ?_ w (KPc.good_mono g (by decide))
 refine q.cs1 (by decide) hz ?_
 refine q.lit1 (by decide) rfl rfl ?_
 exact q.fin1 (by decide) fun t k=>K _ _
theorem Fl {z : Str} (hz : z.length <= 1000000) : OpV cx B n (bin .Mod) [.d (.str ⟨#[123,37,115,125]⟩),.d (.str z)] H (.d (.str (Str.ofString "{" ++ z ++ Str.ofString "}"))) H:=.mk fun A X ρ s rvs J I q=>by
 obtain ⟨v,w,rfl,q1,q2⟩:=two q
 obtain ⟨t,rfl⟩:=gk q1
 obtain ⟨u,rfl⟩:=gk q2
 obtain ⟨T,rfl,hm⟩:=Hn t u z hz
 exact binaryOp_meets (T:="str") (op:=.Mod) (typeIs_str _ _ _) (typeIs_str _ _ _) PySem.F.fills_str_mod PySem.F.slot_str_mod PySem.F.entry_str_mod (PySem.F.args_str_mod_2 _ _) hm (fun t' k=>⟨fun e=>(nomatch e),dm I _ (.str _ _)⟩)
theorem wz (v : Value) : ∀ (m : Nat) (acc : Array Value),(List.foldl (fun x1 x2=>x1 ++ x2) acc (List.replicate m #[v])).toList = acc.toList ++ List.replicate m v
 | 0,acc=>by simp
 | m + 1,acc=>by
  rw [List.replicate_succ,List.foldl_cons,wz v m]
  simp [List.replicate_succ]
theorem DRs.rep {P : PW} {z : Heap} {v : Value} {x : D} (h : DR P z v x) : ∀ m,DRs P z (List.replicate m v) (List.replicate m x)
 | 0=>.nil
 | m + 1=>.cons h (DRs.rep h m)
theorem yt {m : Nat} (hm : m <= 1000) : Builtin.List.listFitsIndex (m : Int) = true:=by
 unfold Builtin.List.listFitsIndex
 rw [Bool.and_eq_true,decide_eq_true_eq,decide_eq_true_eq]
 omega
theorem y2 {x : D} {m : Nat} (hm : m <= 1000) : OpV cx B n (bin .Mult) [.d (.list [x]),.d (.int m)] H (.loc H.length) (H ++ [.lst (List.replicate m x)]):=.mk fun A X ρ s rvs J I q=>by
 refine al fun Gq kq=>?_
 obtain ⟨u,w,rfl,q1,q2⟩:=two q
 obtain ⟨t,rfl⟩:=c9 q2
 obtain ⟨l,vs,rfl,⟨k,hl⟩,r⟩:=(Ls.d (H:=H)).src I q1
 obtain ⟨v0,hv,hd⟩ : ∃ v0,vs = #[v0] /\ DR cx.P (zH s.heap ρ X) v0 x:=by
  obtain ⟨l⟩:=vs
  cases r with
  | cons d r=>cases r; exact ⟨_,rfl,d⟩
 refine kq ?_
 subst hv
 have e0 : (#[v0] : Array Value).size * (m : Int).toNat = m:=by rw [Int.toNat_natCast]; exact Nat.one_mul m
 have a1 : ¬(!Builtin.List.listFitsIndex (m : Int)) = true:=by rw [yt hm]; decide
 have a2 : ¬ (#[v0] : Array Value).size * (m : Int).toNat > (2 ^ 63 - 1) / 8:=by rw [e0]; omega
 have a3 : ¬ Builtin.List.listTooLong ((#[v0] : Array Value).size * (m : Int).toNat) = true:=by rw [e0]; unfold Builtin.List.listTooLong; rw [decide_eq_true_eq]; unfold sizeLine; omega
 generalize hK : (m : Int) = K at a1 a2 a3
 generalize hw : (#[v0] : Array Value) = w at a2 a3
 have hM:=AutoListH.list___mul___list_int_3 l w k K t a1 a2 a3
 subst hw
 refine wpAny_binaryOp_repeat_ref (T:="list") (U:="int") (by decide) ⟨_,hl,rfl⟩ (fun s'=>typeIs_int s' K t) noFill_list_mul PySem.F.fills_int_mul PySem.F.slot_int_rmul repeat_list PySem.F.slot_int_index.lookup
  (call_meets PySem.F.slot_int_rmul (typeIs_int s K t) PySem.F.entry_int_rmul (PySem.F.args_int_rmul_2 _ _) (int___rmul___int_list K t l #[v0] k)
   ⟨hl,rfl,⟨_,hl,rfl⟩,call_meets PySem.F.slot_list_mul ⟨_,hl,rfl⟩ PySem.F.entry_list_mul (PySem.F.args_list_mul_2 _ _)
    hM
    ⟨hl,?_⟩⟩)
 refine wu I (t:=s.toks) ?_
 rw [show (if (#[v0] : Array Value).isEmpty = true then 0 else K.toNat) = m from by rw [<- hK]; rfl,wz]
 simpa using DRs.rep hd m
noncomputable def gb (e : Int × Int × Int × Int × List (Str × Int)) : D:=.tuple [.int e.1,.int e.2.1,.int e.2.2.1,.int e.2.2.2.1,.dict ((e.2.2.2.2.map fun p=>(p.1,(.int p.2 : D))).map enc)]
noncomputable def Kh (ks ms : List (Str × Int)) : Prop:=ks.length = ms.length /\ ∀ k v,(k,v) ∈ ks -> ms.lookup k = some v
noncomputable def qg (e f : Int × Int × Int × Int × List (Str × Int)) : Prop:=e.1 = f.1 /\ e.2.1 = f.2.1 /\ e.2.2.1 = f.2.2.1 /\ e.2.2.2.1 = f.2.2.2.1 /\ Kh e.2.2.2.2 f.2.2.2.2
noncomputable abbrev bkD (b : List (Str × (Int × Int × Int × Int × List (Str × Int)))) : List (Str × D):=b.map fun p=>(p.1,gb p.2)
theorem je {α β : Type} {f : α -> β} {l : List (Str × α)} {x : Str} : (l.map fun e=>(e.1,f e.2)).lookup x = (l.lookup x).map f:=j3
noncomputable def EqT (P : PW) (A : Around) (s : Shared) (y x : Value) : Prop:=∀ (E : Value -> Shared -> Prop) (Q : Bool -> Shared -> Prop),Q true s -> wpAny (model P.1 P.2) A (eqBool y x) Q E s
theorem EqT.of {P : PW} {A : Around} {s : Shared} {y x : Value} (h : SeqAt.EqAt A s y x true) : EqT P A s y x:=fun E Q q=>h _ _ E Q q
theorem EqT.refs {P : PW} {A : Around} {s : Shared} {l b : Addr} (h : ∀ E (Q : Value -> Shared -> Prop),Q (.bool true) s -> wpAny (model P.1 P.2) A (richCompare .Eq (.ref l) (.ref b)) Q E s) : EqT P A s (.ref l) (.ref b):=fun E Q hq=>by
 by_cases hab : l = b
 ·subst hab
  exact SeqAt.EqAt.same _ _ _ _ _ hq
 ·unfold eqBool
  refine wpAny_holding ?_
  refine wpAny_ite_split (fun hab'=>absurd (by have:=eq_of_beq hab'; injection this) hab) (fun J=>?_)
  exact wpAny_bind (h E _ (wpAny_truthy_bool hq))
theorem G2 {P : PW} {A : Around} {s : Shared} {E : Value -> Shared -> Prop} {l b : Addr} {xs ys : Array Value} {n n2 : Nat} {R : PySem.Fin -> Shared -> Prop} (hl : s.heap.get? l = some { cls:=.type "tuple",data:=.seq xs n }) (hb : s.heap.get? b = some { cls:=.type "tuple",data:=.seq ys n2 })
  (hs : xs.size = ys.size) (he : ∀ p ∈ xs.toList.zip ys.toList,EqT P A s p.1 p.2) (h : R (.done (.ret (.bool true))) s) : wpAny (model P.1 P.2) A (Builtin.«tuple.__eq__» ⟨[.ref l,.ref b],[]⟩) R E s:=by
 obtain ⟨hp,g,d,tk,os⟩:=s
 have f2:=AutoSeq1.sub_tuple_tuple
 wp_walk using AutoSeq1.wpAny_loadPart' hl,AutoSeq1.wpAny_loadPart' hb,wpAny_forIn_list _ (fun rest q s'=>q.1 = none /\ s' = ⟨hp,g,d,tk,os⟩ /\ ∀ p ∈ rest,EqT P A ⟨hp,g,d,tk,os⟩ p.1 p.2) _
 case turn =>
  rintro ⟨y,x⟩ rest q s' ⟨hq,rfl,hr⟩
  refine wpAny_bind (hr (y,x) (.head _) _ _ ?_)
  wp_walk
  exact ⟨rfl,rfl,fun p hp=>hr p (.tail _ hp)⟩
 case fin =>
  rintro ⟨b1,b2⟩ s' ⟨hb',rfl,hr⟩
  simp only at hb'
  subst hb'
  wp_walk
  simpa [Builtin.Tuple.tupleCompareSizes,hs] using h
 case h=>exact ⟨rfl,rfl,he⟩
section
variable {P : PW} {A : Around} {E : Value -> Shared -> Prop} {s : Shared}
theorem ur {nm : String} {a b : Addr} {ka kb : List (Str × Value)} {Q : Bool -> Shared -> Prop} (da : IsDct P s.heap a ka) (db : IsDct P s.heap b kb) (hl : ka.length = kb.length)
  (he : ∀ k v,(k,v) ∈ ka -> ∃ y,valueAt kb k = some y /\ EqT P A s v y) (h : Q true s) : wpAny (model P.1 P.2) A (Builtin.Dict.samePairs nm a b) Q E s:=by
 refine al fun Gq kq=>?_
 obtain ⟨ha,oa,es,ep,hoa,_,hda,hka,hpa,_⟩:=da
 obtain ⟨hb,ob,fs,ep2,hob,_,hdb,hkb,hpb,_⟩:=db
 refine kq ?_
 have n1 : es.size = ka.length:=by rw [<- hpa.length]; exact Array.length_toList.symm
 have n2 : fs.size = kb.length:=by rw [<- hpb.length]; exact Array.length_toList.symm
 have fnd : ∀ k,findBy (strKind P.1 P.2).is fs k = valueAt kb k:=fun k=>by
  rw [<- hpb.find k]
  clear n2 hpb hkb hdb hob
  obtain ⟨l⟩:=fs
  simp [findBy]
 have item : ∀ i (hi : i < es.size),∃ k y j,(strKind P.1 P.2).is k es[i].key = true /\ es[i].hash = (strKind P.1 P.2).hash k /\ (fs.findIdx? fun e=>(strKind P.1 P.2).is k e.key) = some j /\ (∃ hj : j < fs.size,fs[j].val = y) /\ EqT P A s es[i].val y:=fun i hi=>by
  have hi' : i < ka.length:=n1 ▸ hi
  refine al fun Gq kq=>?_
  obtain ⟨hk,hv⟩:=hpa.get? (i:=i) (e:=es[i]) (k:=ka[i].1) (v:=ka[i].2) (by rw [Array.getElem?_toList]; exact Array.getElem?_eq_getElem hi) (by rw [List.getElem?_eq_getElem hi'])
  obtain ⟨k',hk',hh⟩:=hka es[i] (Array.getElem_mem hi)
  refine kq ?_
  have ek:=(strKind P.1 P.2).inj _ _ _ hk' hk
  rw [ek] at hh
  refine al fun Gq kq=>?_
  obtain ⟨y,hy,heq⟩:=he ka[i].1 ka[i].2 (List.getElem_mem hi')
  refine kq ?_
  have hf:=(fnd ka[i].1).trans hy
  rw [findBy_of_findIdx?] at hf
  cases hj : fs.findIdx? fun e=>(strKind P.1 P.2).is ka[i].1 e.key with
  | none=>rw [hj] at hf; cases hf
  | some j =>
   refine al fun Gq kq=>?_
   obtain ⟨hjl,_,_⟩:=Array.findIdx?_eq_some_iff_getElem.mp hj
   refine kq ?_
   rw [hj] at hf
   refine ⟨_,y,j,hk,hh,hj,⟨hjl,?_⟩,hv ▸ heq⟩
   simpa [Array.getElem?_eq_getElem hjl] using hf
 unfold Builtin.Dict.samePairs Builtin.Dict.showsAll
 rw [if_neg (show ¬ (a == sysModules) = true by rw [ha]; exact Bool.false_ne_true),if_neg (show ¬ (b == sysModules) = true by rw [hb]; exact Bool.false_ne_true)]
 refine wpAny_bind (wpAny_pure (wpAny_bind (wpAny_pure ?_)))
 refine wpAny_bind (wpAny_dictEntries hoa hda ?_)
 dsimp only
 refine wpAny_bind (wpAny_dictEntries hob hdb ?_)
 rw [if_neg (by simp [n1,n2,hl])]
 refine wpAny_bind (wpAny_dictEpoch hoa hda ?_)
 refine wpAny_bind ?_
 rw [Std.Legacy.Range.forIn_eq_forIn_range']
 simp only [Std.Legacy.Range.size,Nat.sub_zero,Nat.add_sub_cancel,Nat.div_one]
 refine wpAny_forIn_list _ (fun rest q s'=>s' = s /\ q = (none,()) /\ ∀ i ∈ rest,i < es.size) _ ?_ ?_ _ _ ⟨rfl,rfl,fun i hi=>by simpa using hi⟩
 ·rintro i rest q s' ⟨rfl,rfl,hr⟩
  have hi : i < es.size:=hr i (.head _)
  refine al fun Gq kq=>?_
  obtain ⟨k,y,j,hk,hh,hj,⟨hjl,rfl⟩,heq⟩:=item i hi
  refine kq ?_
  refine wpAny_bind (wpAny_dictEntries hoa hda ?_)
  rw [Array.getElem?_eq_getElem hi]
  show wpAny _ _ (holding [es[i].key,es[i].val] _ >>= _) _ _ _
  rw [hh]
  refine wpAny_bind (wpAny_holding (wpAny_bind (wpAny_dictFind_of hk hob hdb hkb ?_)))
  rw [hj]
  refine wpAny_bind (wpAny_dictEntries hob hdb ?_)
  rw [Array.getElem?_eq_getElem hjl]
  refine wpAny_holding (heq _ _ ?_)
  show wpAny _ _ (if (!true) = true then _ else _) _ _ _
  rw [if_neg (by decide)]
  refine wpAny_bind (wpAny_dictEpoch hoa hda ?_)
  rw [if_neg (by simp)]
  exact wpAny_pure ⟨rfl,rfl,fun i hi=>hr i (.tail _ hi)⟩
 ·rintro q s' ⟨rfl,rfl,_⟩
  exact wpAny_pure h
theorem Du {a b : Addr} {ka kb : List (Str × Value)} {Q : Value -> Shared -> Prop} (hu : A.units < cLine) (da : IsDct P s.heap a ka) (db : IsDct P s.heap b kb) (hl : ka.length = kb.length)
  (he : ∀ k v,(k,v) ∈ ka -> ∃ y,valueAt kb k = some y /\ EqT P A.in1 s v y) (h : Q (.bool true) s) : wpAny (model P.1 P.2) A (richCompare .Eq (.ref a) (.ref b)) Q E s:=by
 refine wpAny_richCompare_same_room (op:=.Eq) da.2.typeIs db.2.typeIs PySem.F.slot_dict_eq (wpAny_call_entry PySem.F.slot_dict_eq da.2.typeIs PySem.F.entry_dict_eq ?_ (PySem.F.args_dict_eq_2 _ _)) hu
 show wpAny _ _ (Builtin.Dict.dictSlotArgs "__eq__" ⟨[.ref a,.ref b],[]⟩ >>= _) _ _ s
 refine wpAny_bind ?_
 unfold Builtin.Dict.dictSlotArgs
 refine wpAny_bind (wpAny_notOrdered_dict da.2.typeIs ?_)
 show wpAny _ _ (pure (Value.ref a,Value.ref b)) _ _ s
 refine wpAny_pure ?_
 refine wpAny_bind (wpAny_isInstance (T:="dict") db.2.typeIs PySem.F.sub_dict_dict ?_)
 simp only [Bool.not_true,Bool.false_eq_true,if_false]
 refine wpAny_bind (wpAny_pure (wpAny_bind (wpAny_pure ?_)))
 refine wpAny_bind (ur da db hl he ?_)
 refine wpAny_pure ⟨_,rfl,?_,?_⟩
 ·exact fun x=>nomatch x
 ·simpa using h
theorem yk {a b : Addr} {ka kb : List (Str × Value)} {Q : Value -> Shared -> Prop} (hu : A.units < cLine) (da : IsDct P s.heap a ka) (db : IsDct P s.heap b kb) (hl : ka.length = kb.length)
  (he : ∀ k v,(k,v) ∈ ka -> ∃ y,valueAt kb k = some y /\ EqT P A.in1 s v y) (h : Q (.bool false) s) : wpAny (model P.1 P.2) A (compareOp .NotEq (.ref a) (.ref b)) Q E s:=by
 refine wpAny_richCompare_same_room (op:=.NotEq) da.2.typeIs db.2.typeIs PySem.F.slot_dict_ne (wpAny_call_entry PySem.F.slot_dict_ne da.2.typeIs PySem.F.entry_dict_ne ?_ (PySem.F.args_dict_ne_2 _ _)) hu
 show wpAny _ _ (Builtin.Dict.dictSlotArgs "__ne__" ⟨[.ref a,.ref b],[]⟩ >>= _) _ _ s
 refine wpAny_bind ?_
 unfold Builtin.Dict.dictSlotArgs
 refine wpAny_bind (wpAny_notOrdered_dict da.2.typeIs ?_)
 show wpAny _ _ (pure (Value.ref a,Value.ref b)) _ _ s
 refine wpAny_pure ?_
 refine wpAny_bind (wpAny_isInstance (T:="dict") db.2.typeIs PySem.F.sub_dict_dict ?_)
 simp only [Bool.not_true,Bool.false_eq_true,if_false]
 refine wpAny_bind (wpAny_pure (wpAny_bind (wpAny_pure ?_)))
 refine wpAny_bind (ur da db hl he ?_)
 refine wpAny_pure ⟨_,rfl,?_,?_⟩
 ·exact fun x=>nomatch x
 ·simpa using h
theorem zd {z : Heap} {P : PW} : ∀ {es : List (Str × D)} {ka : List (Str × Value)},DEs P z ka (es.map enc) -> ∀ {k v},(k,v) ∈ ka -> ∃ x,(k,x) ∈ es /\ DR P z v x
 | [],_,q,_,_,h=>by cases q; cases h
 | e :: es,_,q,k,v,h=>by
  obtain ⟨_,_,e1,hv,r⟩:=DEs.cons_inv (e:=e) q
  rw [e1] at h
  rcases List.mem_cons.mp h with h | h
  ·cases h; exact ⟨_,.head _,hv⟩
  ·obtain ⟨x,m,d⟩:=zd r h; exact ⟨x,.tail _ m,d⟩
theorem eq_c (hu : A.units < cLine) {va vb : Value} {ks ms : List (Str × Int)} (ha : DR P s.heap va (.dict ((ks.map fun p=>(p.1,(.int p.2 : D))).map enc))) (hb : DR P s.heap vb (.dict ((ms.map fun p=>(p.1,(.int p.2 : D))).map enc))) (h : Kh ks ms) : EqT P A s va vb:=by
 cases ha with
 | @dict a ka _ da qa =>
 cases hb with
 | @dict b kb _ db qb =>
 have e1:=qa.length
 have e2:=qb.length
 rw [List.length_map] at e1 e2
 refine EqT.refs fun E Q hq=>Du hu da db (by rw [e1,e2]; exact h.1) (fun k v m=>?_) hq
 obtain ⟨x,hm,hx⟩:=zd qa m
 obtain ⟨p,hp,e⟩:=List.mem_map.mp hm
 cases e
 obtain ⟨y,ey,hy⟩:=(qb.at_ (k:=p.1)).1 (.int p.2) (by rw [je,h.2 p.1 p.2 hp]; rfl)
 refine ⟨y,ey,.of ?_⟩
 cases hx with
 | int _ t =>
 cases hy with
 | int _ t' =>
 have:=SeqAt.EqAt.int_int (A:=A.in1) (s:=s) p.2 t p.2 t'
 simpa using this
theorem Hw {va vb : Value} {i j : Int} (ha : DR P s.heap va (.int i)) (hb : DR P s.heap vb (.int j)) (h : i = j) : EqT P A s va vb:=by
 subst h
 cases ha with
 | int _ t =>
 cases hb with
 | int _ t' =>
 have:=SeqAt.EqAt.int_int (A:=A) (s:=s) i t i t'
 exact .of (by simpa using this)
theorem Hy {z z' : Heap} {vs ws : List Value} (qa : DRs P z vs []) (_ : DRs P z' ws []) : ∀ p ∈ vs.zip ws,EqT P A s p.1 p.2:=by
 rw [qa.nil_inv]; exact fun J h=>nomatch h
theorem ko {z z' : Heap} {vs ws : List Value} {x y : D} {xs ys : List D} (qa : DRs P z vs (x :: xs)) (qb : DRs P z' ws (y :: ys)) (h : ∀ v w,DR P z v x -> DR P z' w y -> EqT P A s v w)
  (k : ∀ vs ws,DRs P z vs xs -> DRs P z' ws ys -> ∀ p ∈ vs.zip ws,EqT P A s p.1 p.2) : ∀ p ∈ vs.zip ws,EqT P A s p.1 p.2:=by
 refine al fun Gq kq=>?_
 obtain ⟨v,vs,e1,a1,qa⟩:=qa.cons_inv
 obtain ⟨w,ws,e2,b1,qb⟩:=qb.cons_inv
 refine kq ?_
 rw [e1,e2]
 intro p hp
 rcases List.mem_cons.mp hp with hp | hp
 ·rw [hp]; exact h v w a1 b1
 ·exact k vs ws qa qb p hp
theorem eq_t (hu : A.units + 8 < cLine) {va vb : Value} {e f : Int × Int × Int × Int × List (Str × Int)} (ha : DR P s.heap va (gb e)) (hb : DR P s.heap vb (gb f)) (h : qg e f) : EqT P A s va vb:=by
 refine al fun Gq kq=>?_
 obtain ⟨a,xs,n,e1,ta,qa⟩:=th ha
 obtain ⟨b,ys,m,e2,tb,qb⟩:=th hb
 refine kq ?_
 rw [e1,e2]
 have hu' : A.in1.units < cLine:=by show A.units + 1 < cLine; exact Nat.lt_of_le_of_lt (Nat.add_le_add_left (by decide) _) hu
 refine EqT.refs fun E Q hq=>wpAny_richCompare_same_room (op:=.Eq) ⟨_,ta,rfl⟩ ⟨_,tb,rfl⟩ PySem.F.slot_tuple_eq (wpAny_call_entry PySem.F.slot_tuple_eq ⟨_,ta,rfl⟩ PySem.F.entry_tuple_eq (G2 ta tb ((Ls.size qa).trans (Ls.size qb).symm) ?_ ⟨_,rfl,(fun x=>nomatch x),hq⟩) (PySem.F.args_tuple_eq_2 _ _)) (by exact Nat.le_of_lt hu')
 exact ko qa qb (fun J J a b=>Hw a b h.1) fun J J qa qb=>ko qa qb (fun J J a b=>Hw a b h.2.1) fun J J qa qb=>ko qa qb (fun J J a b=>Hw a b h.2.2.1) fun J J qa qb=>ko qa qb (fun J J a b=>Hw a b h.2.2.2.1) fun J J qa qb=>ko qa qb (fun J J a b=>eq_c hu' a b h.2.2.2.2) fun J J qa qb=>Hy qa qb
end
theorem Bs {v w : V} {b c : List (Str × (Int × Int × Int × Int × List (Str × Int)))} (L1 : Dc H v (bkD b)) (L2 : Dc H w (bkD c)) (hl : b.length = c.length) (h : ∀ k e,(k,e) ∈ b -> ∃ f,c.lookup k = some f /\ qg e f) :
  OpV cx B n (cmp .NotEq) [v,w] H (.d (.bool false)) H:=.mk fun A X ρ s rvs hr I q=>by
 refine al fun Gq kq=>?_
 obtain ⟨u,v,rfl,q1,q2⟩:=two q
 obtain ⟨a,ka,rfl,da,qa⟩:=L1.src I q1
 obtain ⟨b',kb,rfl,db,qb⟩:=L2.src I q2
 refine kq ?_
 have hu:=Mx hr
 have e1:=qa.length
 have e2:=qb.length
 rw [List.length_map] at e1 e2
 refine yk (P:=cx.P) (by exact Nat.lt_of_le_of_lt (Nat.le_add_right _ _) hu) da db (by rw [e1,e2]; exact hl) (fun k v m=>?_) (f8 I (.bool _))
 refine al fun Gq kq=>?_
 obtain ⟨x,hm,hx⟩:=zd qa m
 obtain ⟨p,hp,e⟩:=List.mem_map.mp hm
 refine kq ?_
 cases e
 refine al fun Gq kq=>?_
 obtain ⟨f,hf,hs⟩:=h p.1 p.2 hp
 obtain ⟨y,ey,hy⟩:=(qb.at_ (k:=p.1)).1 (gb f) (by rw [je,hf]; rfl)
 refine kq ?_
 exact ⟨y,ey,eq_t (by show A.units + 1 + 8 < cLine; omega) (DR.sub sy hx) (DR.sub sy hy) hs⟩
theorem l9 {v : V} {es : List (Str × D)} (L : Dc H v es) (h64 : es.length < 64) (so : List Str) (hso : ∀ l : List Str,l.Perm (es.map (·.1)) -> sortedS l = true -> l = so) : OpV cx true n (fun rvs=>call (.builtin "sorted") rvs []) [v] H (.d (.list (so.map .str))) H:=.mk fun A X ρ s rvs hr I q=>by
 obtain ⟨u,rfl,q1⟩:=one q
 obtain ⟨a,kvs,rfl,⟨hs,hd⟩,r⟩:=L.src I q1
 obtain ⟨ep,hat⟩:=hd.dictAt
 have hlen:=r.length
 refine call_function_entry kind_sorted plain_sorted entry_sorted (args_sorted1 _) ?_
 unfold Builtin.«sorted»
 refine wpAny_bind (m:=checkCount "sorted" 1 1 _) (wpAny_pure ?_)
 refine wpAny_bind (kdu_collect (A:=A.in1) (kdl_dict (knd:=sk cx) (kvs:=kvs) (ep:=ep) hs) (hr.1 rfl) hat (by rw [hlen]; unfold sizeLine; exact Nat.le_of_lt (Nat.lt_of_lt_of_le h64 (by decide))) fun h' tk acc hk hacc=>?_)
 have hacl : acc.toList.length = es.length:=by rw [Array.length_toList,hacc.1,hlen]
 have hstr : StrsAre acc.toList (es.map (·.1)):=by
  have key : ∀ (l : List Value) (ns : List Str),l.length = ns.length -> (∀ (j : Nat) (v : Value),l[j]? = some v -> ∃ k,ns[j]? = some k /\ Value.isStrOf k v = true) -> StrsAre l ns:=by
   intro l
   induction l with
   | nil=>intro ns h _; cases ns with | nil=>exact .nil | cons=>cases h
   | cons v l ih =>
    intro ns h hv
    cases ns with
    | nil=>cases h
    | cons k ns =>
     obtain ⟨k',e,hk⟩:=hv 0 v rfl
     cases e
     obtain ⟨t,rfl⟩:=Value.isStrOf_shape hk
     exact .cons _ t (ih ns (by simpa using h) fun j v e=>hv (j + 1) v e)
  refine key _ _ (by rw [hacl,List.length_map]) fun j v e=>?_
  obtain ⟨k,x,hx,hkv⟩:=hacc.2 j v (by rw [<- Array.getElem?_toList]; exact e)
  refine ⟨k,?_,hkv⟩
  rw [<- r.keys,List.getElem?_map,hx]; rfl
 refine wpAny_bind (wpAny_newList ?_ (by rw [hacl]; unfold sizeLine; exact Nat.le_of_lt (Nat.lt_of_lt_of_le h64 (by decide))))
 have ho : (h'.push (seqObj "list" acc.toList.toArray 0)).get? h'.objs.size = some (seqObj "list" acc.toList.toArray 0):=Heap.get?_push_size _ rfl
 refine wpAny_bind (wpAny_holding (wpAny_call_entry slot_list_sort ⟨_,ho,rfl⟩ entry_list_sort (list_sort_treeK strKind_oneLt ho hstr.keysOf (fun v₁ v₂ rest e=>keyKind_strs (by rw [<- e]; exact hstr)) (by rw [hacl]; exact h64) fun st' hp hs'=>⟨_,rfl,?_⟩) (args_list_sort _)))
 obtain ⟨ss',h1,h2,h3⟩:=sorted_out_str hstr hp hs'
 have e:=hso ss' h2 h3
 subst e
 have k1 : ∀ b o,s.heap.get? b = some o -> (sortedHeap (h'.push (seqObj "list" acc.toList.toArray 0)) h'.objs.size acc.toList ((arrOf st').map (·.2))).get? b = some o:=fun b o e=>by
  have e':=hk b o e
  have hlt:=Heap.lt_size e'
  rw [sortedHeap_old (Nat.ne_of_lt hlt) (by rw [size_push']; exact Nat.lt_succ_of_lt hlt)]
  exact Heap.get?_push_of_some _ e'
 obtain ⟨e,he⟩:=sortedHeap_at (out:=(arrOf st').map (·.2)) ho
 have hnew : s.heap.get? h'.objs.size = none:=j6 hk (dr _)
 refine wpAny_pure ⟨_,rfl,ρ,⟨⟨_,_,rfl⟩,I.grow k1,.grow k1⟩,.list (vs:=(arrOf st').map (·.2)) ⟨e,ax.mpr ⟨he,fun hb=>?_,fun hb=>?_⟩⟩ (wa h1)⟩
 ·obtain ⟨o',e'⟩:=I.ex _ hb; rw [hnew] at e'; cases e'
 ·obtain ⟨o',e'⟩:=I.xe _ hb; rw [hnew] at e'; cases e'
end
section
variable {cx : Cx} {b : Bool} {n : Nat} {H H1 H2 H3 : Hp} {sc : Scope} {lo lo1 lo2 : Lo}
theorem u9 {st : Stmt} (h : Ex1 cx b n sc st lo H (.nxt lo1) H1) (c : Cnv cx H.length lo1 H1 lo2 H2) : Ex1 cx b n sc st lo H (.nxt lo2) H2:=.mk fun A env X ρ s hs hr I F =>
 h.runN hs hr I F fun ρ1 s1 a1 F1=>by
  obtain ⟨ρ2,e2,I2,F2⟩:=c env ρ1 X s1.heap a1.inv F1
  exact ⟨ρ2,⟨a1.fin,I2,e2 _ _ _ (Nat.le_of_eq I.len) a1.ext⟩,rfl,F2⟩
theorem Ex.take {ss : List Stmt} {v : V} {H' : Hp} {m : Nat} (h : Ex cx b n sc ss lo H (.ret v) H') (hn : H.length <= m) (hr : Clo H' m) (hv : vlt m v) : Ex cx b n sc ss lo H (.ret v) (H'.take m):=.mk fun A env X ρ s hs hrm I F =>
 h.runR hs hrm I F fun ρ1 rv s1 a1 q=>by
  exact ⟨ρ1.take m,⟨a1.fin,a1.inv.take hr,a1.ext.take (by rw [I.len]; exact hn)⟩,rv,rfl,VOk.tk hv q⟩
theorem Ex.take0 {ss : List Stmt} {H' : Hp} {m : Nat} (h : Ex cx b n sc ss lo H (.nxt lo1) H') (hn : H.length <= m) (hr : Clo H' m) (hl : ∀ x v,lo1.lookup x = some v -> vlt m v) : Ex cx b n sc ss lo H (.nxt lo1) (H'.take m):=.mk fun A env X ρ s hs hrm I F =>
 h.runN hs hrm I F fun ρ1 s1 a1 F1=>by
  obtain ⟨ρ2,e2,I2,F2⟩:=Cnv.take (k:=H.length) hn hr hl env ρ1 X s1.heap a1.inv F1
  exact ⟨ρ2,⟨a1.fin,I2,e2 _ _ _ (Nat.le_of_eq I.len) a1.ext⟩,rfl,F2⟩
theorem ay {H : Hp} {o : O} : (H ++ [o])[H.length]? = some o:=by rw [List.getElem?_append_right (Nat.le_refl _),Nat.sub_self]; rfl
theorem cr {H : Hp} {o o' : O} : (H ++ [o]).set H.length o' = H ++ [o']:=by
 rw [List.set_append_right _ _ (Nat.le_refl _),Nat.sub_self]; rfl
theorem au {H : Hp} {o : O} {i : Nat} {x : O} (h : H[i]? = some x) : (H ++ [o])[i]? = some x:=by
 rw [List.getElem?_append_left (aq h)]; exact h
theorem me {α : Type} {tgt elt : Expr} {ifs : List Expr} {C : Hp -> Prop} (f g : α -> D) (p : α -> Bool) (bnd : α -> Lo) (hC : ∀ ys,C (H ++ [.lst ys])) (has : ∀ a,As cx false sc tgt (.d (f a)) lo (bnd a))
  (hw : ∀ a x v,lo.lookup x = some v -> (bnd a).lookup x = some v) : ∀ (es : List α),(∀ a ∈ es,∀ ys,A4 cx true n sc ifs (bnd a) (H ++ [.lst ys]) (p a) (H ++ [.lst ys])) ->
  (∀ a ∈ es,p a = true -> ∀ ys,Ev cx true n sc elt (bnd a) (H ++ [.lst ys]) (.d (g a)) (H ++ [.lst ys])) -> ∀ ys : List D,ys.length + es.length <= 2 ^ 20 ->
  Cf cx n sc tgt ifs elt C H.length ((es.map f).map .d) lo (H ++ [.lst ys]) (H ++ [.lst (ys ++ (es.filter p).map g)])
 | [],_,_,ys,_=>by simpa using Cf.nil (hC ys)
 | a :: es,ht,hv,ys,hl=>by
  have hl' : ys.length + (es.length + 1) <= 2 ^ 20:=hl
  rw [List.map_cons,List.map_cons]
  cases hp : p a with
  | false =>
   rw [List.filter_cons_of_neg (by rw [hp]; decide)]
   refine .skip (hC ys) (has a) (hp ▸ ht a (.head _) ys) (.weak (hw a)) (me f g p bnd hC has hw es (fun a m=>ht a (.tail _ m)) (fun a m=>hv a (.tail _ m)) ys (by exact Nat.le_of_lt hl'))
  | true =>
   rw [List.filter_cons_of_pos hp,List.map_cons]
   have hap:=app_lst (cx:=cx) (B:=true) (n:=n) (H:=H ++ [.lst ys]) (i:=H.length) (x:=g a) ay (by exact Nat.le_of_add_right_le hl' : ys.length <= 2 ^ 20)
   rw [cr] at hap
   have:=me f g p bnd hC has hw es (fun a m=>ht a (.tail _ m)) (fun a m=>hv a (.tail _ m)) (ys ++ [g a]) (by simp; omega)
   rw [List.append_assoc] at this
   exact .take (hC ys) (has a) (hp ▸ ht a (.head _) ys) (hv a (.head _) hp ys) hap (.weak (hw a)) this
theorem jz {α : Type} {tgt elt : Expr} {C : Hp -> Prop} (f g : α -> D) (bnd : α -> Lo) (hC : ∀ ys,C (H ++ [.lst ys])) (has : ∀ a,As cx false sc tgt (.d (f a)) lo (bnd a))
  (hw : ∀ a x v,lo.lookup x = some v -> (bnd a).lookup x = some v) {es : List α} (hv : ∀ a ∈ es,∀ ys,Ev cx true n sc elt (bnd a) (H ++ [.lst ys]) (.d (g a)) (H ++ [.lst ys])) (hsz : es.length <= 2 ^ 20) :
  Cf cx n sc tgt [] elt C H.length ((es.map f).map .d) lo (H ++ [.lst []]) (H ++ [.lst (es.map g)]):=by
 have:=me (cx:=cx) (n:=n) f g (fun J=>true) bnd hC has hw es (fun a J ys=>le) (fun a m J ys=>hv a m ys) [] (by simpa using hsz)
 rw [List.filter_eq_self.mpr (fun J J=>rfl),List.nil_append] at this
 exact this
theorem ja {tgt elt : Expr} {ifs : List Expr} {C : Hp -> Prop} {acc : Nat} {xs : List V} {lo lo' : Lo} {H H' : Hp} (h : lo = lo') (W : Cf cx n sc tgt ifs elt C acc xs lo' H H') : Cf cx n sc tgt ifs elt C acc xs lo H H':=h ▸ W
noncomputable def Ig (scope sc : Scope) (lo : Lo) : Bool:=scope.names.all fun p=>p.2 != .free || ((lo.lookup p.1).isSome && (sc.names.lookup p.1 == some .cell || sc.names.lookup p.1 == some .free))
theorem ct {scope sc : Scope} {lo : Lo} (h : Ig scope sc lo = true) : md scope sc lo:=fun x hx=>by
 have:=List.all_eq_true.mp h _ hx
 simpa using this
theorem cj {x : Str} {w : V} {lo : Lo} (h : lo.lookup x = none) : ∀ y v,lo.lookup y = some v -> List.lookup y ((x,w) :: lo) = some v:=fun y v e=>by
 rw [List.lookup_cons]
 cases c : y == x with
 | true=>rw [beq_iff_eq] at c; subst c; rw [h] at e; cases e
 | false=>exact e
structure Pre (cx : Cx) (b : Bool) (n : Nat) (sc : Scope) (ss : List Stmt) (lo : Lo) (H : Hp) (lo' : Lo) (H' : Hp) : Prop where
 go : ∀ A env X ρ s (rest : List Stmt) (Q : Flow -> Shared -> Prop) (E : Value -> Shared -> Prop),env.scope = sc -> Rm b n A -> Inv cx ρ H X s.heap -> FrOk cx env lo ρ X s.heap ->
  (∀ ρ' s',Aft cx (fE cx env) X ρ s H' ρ' s' -> FrOk cx env lo' ρ' X s'.heap -> wpAny (M cx) A (execs rest env) Q E s') -> wpAny (M cx) A (execs (ss ++ rest) env) Q E s
theorem p6 : Pre cx b n sc [] lo H lo H:=.mk fun A env X ρ s rest Q E J J I F h=>h ρ s (.refl I) F
theorem cy {st : Stmt} {ss : List Stmt} {H' : Hp} (h1 : Ex1 cx b n sc st lo H (.nxt lo1) H1) (h2 : Pre cx b n sc ss lo1 H1 lo2 H') : Pre cx b n sc (st :: ss) lo H lo2 H':=.mk fun A env X ρ s rest Q E hs hr I F h =>
 wpAny_execs_cons (h1.runN hs hr I F fun ρ1 s1 a1 F1=>by
  exact h2.go A env X ρ1 s1 rest Q E hs hr a1.inv F1 fun ρ2 s2 a2 F2=>h ρ2 s2 (a1.trans a2) F2)
theorem Mt {ss rest : List Stmt} {H' : Hp} {r : R} (h : Pre cx b n sc ss lo H lo1 H1) (h2 : Ex cx b n sc rest lo1 H1 r H') : Ex cx b n sc (ss ++ rest) lo H r H':=.mk fun A env X ρ s hs hr I F =>
 h.go A env X ρ s rest _ No hs hr I F fun ρ1 s1 a1 F1=>up a1 (h2.go A env X ρ1 s1 hs hr a1.inv F1) (fun J h=>h) fun J J q=>q
theorem OpV.take {t : List Value -> Sem Value} {vs : List V} {v : V} {H' : Hp} {m : Nat} (h : OpV cx b n t vs H v H') (hn : H.length <= m) (hr : Clo H' m) (hv : vlt m v) : OpV cx b n t vs H v (H'.take m):=.mk fun A X ρ s rvs hrm I q =>
 h.run rvs hrm I q fun ρ' rv s' a q=>by
  exact ⟨_,⟨a.fin,a.inv.take hr,a.ext.take (by rw [I.len]; exact hn)⟩,VOk.tk hv q⟩
theorem Clo.app {H : Hp} {m : Nat} {o : O} (h : Clo H m) (hm : m <= H.length) : Clo (H ++ [o]) m:=fun i o hi e=>by
 rw [List.getElem?_append_left (by exact Nat.le_trans hi hm)] at e
 exact h i o hi e
end
section
variable {cx : Cx} {B : Bool} {n : Nat} {H : Hp}
noncomputable def Od : Stmt -> Str × Arguments × List Stmt × Scope
 | .FunctionDef name args body _ _ _ scope _ _ _=>(name,args,body,scope)
 | _=>(Str.empty,⟨[],[],none,[],[],none,[]⟩,[],⟨.function,[],false,false,[]⟩)
noncomputable def Ky (i : Nat) : Str × Arguments × List Stmt × Scope:=Od (nth i pw.main.body)
noncomputable def ar (i : Nat) : List Stmt:=(Ky i).2.2.1
noncomputable def ak (i : Nat) : Scope:=(Ky i).2.2.2
theorem ky {α : Type} {x : Str} {v : α} {lo : List (Str × α)} : List.lookup x ((x,v) :: lo) = some v:=by rw [List.lookup_cons,beq_self_eq_true]
theorem de {α : Type} {x y : Str} {v w : α} {lo : List (Str × α)} (h : (x == y) = false) (h2 : List.lookup x lo = some v) : List.lookup x ((y,w) :: lo) = some v:=by rw [List.lookup_cons,h]; exact h2
noncomputable def Jf (k : Option NameKind) : Bool:=k == some .local || k == some .cell || k == some .free
theorem wr {b : Bool} {n : Nat} {sc : Scope} {lo : Lo} {x : Str} {pos : Pos} {v : V} (hx : lo.lookup x = some v) (hk : Jf (sc.names.lookup x) = true) (hn : (x == ("__classdict__" : Str)) = false) (hd : (x == ("__debug__" : Str)) = false) : Ev cx b n sc (.Name x pos) lo H v H :=
 u8 hx (by unfold Jf at hk; rw [Bool.or_eq_true,Bool.or_eq_true,beq_iff_eq,beq_iff_eq,beq_iff_eq,or_assoc] at hk; exact hk) hn hd
noncomputable def nmB (sc : Scope) (x : Str) : Bool:=Jf (sc.names.lookup x) && (!(x == ("__classdict__" : Str)) && !(x == ("__debug__" : Str)))
theorem br {b : Bool} {n : Nat} {sc : Scope} {lo : Lo} {x : Str} {pos : Pos} {v : V} (hx : lo.lookup x = some v) (hk : nmB sc x = true) : Ev cx b n sc (.Name x pos) lo H v H:=by
 unfold nmB at hk
 rw [Bool.and_eq_true,Bool.and_eq_true,Bool.not_eq_true',Bool.not_eq_true'] at hk
 exact wr hx hk.1 hk.2.1 hk.2.2
theorem E4 {α : Type} {x : Str} {v : α} (h : False) : List.lookup x ([] : List (Str × α)) = some v:=h.elim
end
local macro_rules | `(tactic| kd_in)=>`(tactic| (fail_if_success (with_reducible apply E4)); first | with_reducible exact ky | (with_reducible apply de; (case h=>k_upd); (case h2=>kd_in)))
local macro_rules | `(tactic| kst_p2)=>`(tactic| first | with_reducible exact kc | with_reducible exact lf | with_reducible exact ca | (with_reducible apply bq; first | with_reducible exact Ls.d | (with_reducible apply Ls.loc; rfl)) | (with_reducible apply ft; rfl) | (with_reducible apply Kb; rfl))
local macro_rules | `(tactic| kst_p1)=>`(tactic| first
 | with_reducible exact e7 | with_reducible exact ox | with_reducible exact gn | with_reducible exact pg | with_reducible exact o_ne | with_reducible exact Br | with_reducible exact Mn | with_reducible exact Ow | with_reducible exact Fk
 | (with_reducible apply gt; (case L=>with_reducible exact Dc.d)))
local macro_rules | `(tactic| kst_p)=>`(tactic| first
 | exact D4
 | (with_reducible apply Bi; (case h1=>kd_p); (case h2=>kd_p); (case h3=>kst_p)))
local macro_rules | `(tactic| kd_p1)=>`(tactic| first
 | exact ag
 | (with_reducible apply af; (case hp=>k_upd); (case h=>kd_p); (case h2=>kd_p1)))
local macro_rules | `(tactic| kd_p)=>`(tactic| first
 | with_reducible exact j0 | with_reducible exact Ln | with_reducible exact Hz | with_reducible exact z2
 | (with_reducible apply br; (case hx=>kd_in); (case hk=>k_upd))
 | (with_reducible apply av; (case h1=>kd_p); (case h2=>kd_p); (case ht=>kst_p2); (case ho=>kst_p1); (case hs=>exact fun J J=>⟨_,rfl⟩))
 | (with_reducible apply an; (case h1=>kd_p); (case h2=>kd_p); (case ho=>kst_p1))
 | (with_reducible apply bn; (case h1=>kd_p); (case ho=>kst_p1))
 | (with_reducible apply lq; (case h=>kst_p); (case hnd=>decide +kernel); (case hall=>k_upd); (case hl=>rfl); (case h0=>exact fun h=>nomatch h); (case hlen=>decide))
 | (with_reducible apply bt; (case h=>kd_p1); (case hsz=>simp)))
section
variable {cx : Cx} {B : Bool} {n : Nat} {H : Hp}
theorem Mh {p : Str} {k : Int} (h : List.lookup p [(S "b",(PyData.int 0)),(S "c",.int 1),(S "d",.int 2)] = some (.int k)) : Ex cx B n (ak 21) (ar 21) [(S "place",.d (.str p))] H (.ret (.d (.int k))) H:=by
 apply bb
 apply az
 with_reducible apply av
 case h1 =>
  with_reducible apply lq
  case h=>kst_p
  case hnd=>decide +kernel
  case hall=>rfl
  case hl=>rfl
  case h0=>exact fun h=>nomatch h
  decide
 case h2 =>
  with_reducible apply u8
  case hx=>kd_in
  case hk=>exact .inl (by k_upd)
  case hn=>k_upd
  k_upd
 case ht=>kst_p2
 case ho =>
  apply gt
  case L=>exact Dc.d
  exact h
 exact fun J J=>⟨_,rfl⟩
end
section
variable {cx : Cx} {b : Bool} {n : Nat} {H H1 H2 : Hp} {sc : Scope} {lo : Lo}
noncomputable def cb : List (Str × Value):=[(S "len",.builtin "len"),(S "abs",.builtin "abs"),(S "min",.builtin "min"),(S "sum",.builtin "sum"),(S "sorted",.builtin "sorted"),(S "isinstance",.builtin "isinstance"),(S "divmod",.builtin "divmod"),(S "reversed",.type "reversed"),(S "ZeroDivisionError",.type "ZeroDivisionError"),
 (S "range",.type "range"),(S "str",.type "str"),(S "tuple",.type "tuple"),(S "list",.type "list"),(S "_DIV_LIMIT",.int 4000 0),
 (S "_div2n1n",.ref 45),(S "_div3n2n",.ref 52),(S "_int2digits",.ref 59),(S "_digits2int",.ref 66),(S "_divmod_pos",.ref 73),(S "int_divmod",.ref 80),(S "func_std_string",.ref 87),(S "add_func_stats",.ref 94),(S "add_callers",.ref 101),(S "count_calls",.ref 108),
 (S "Headers",.ref 241),(S "_law_numbers",.ref 250),(S "_law_at",.ref 257),(S "_law_lay",.ref 264),(S "_law_ring",.ref 271),(S "_law_taken",.ref 278),(S "_law_arrow",.ref 285),(S "_law_walked",.ref 290),(S "_law_text",.ref 297),(S "_law_counted",.ref 302)]
structure Fun (cx : Cx) (a : Addr) (i : Nat) (ps : List Str) : Prop where
 ex : ∃ fd,tn cx a fd /\ Sig fd ps (ar i) /\ fd.scope = ak i
structure Top (cx : Cx) : Prop where
 nm : ∀ x v,cb.lookup x = some v -> cx.gl x = some v \/ ∃ i t t',v = .int i t /\ cx.gl x = some (.int i t')
 f45 : Fun cx 45 4 [S "a",S "b",S "n"]
 f73 : Fun cx 73 8 [S "a",S "b"]
 f80 : Fun cx 80 9 [S "a",S "b"]
 f87 : Fun cx 87 11 [S "func_name"]
 f94 : Fun cx 94 12 [S "target",S "source"]
 f101 : Fun cx 101 13 [S "target",S "source"]
 f108 : Fun cx 108 14 [S "callers"]
 f250 : Fun cx 250 20 [S "script"]
 f257 : Fun cx 257 21 [S "place"]
 f264 : Fun cx 264 22 [S "table",S "came",S "told",S "left",S "k"]
 f271 : Fun cx 271 23 [S "table",S "first"]
 f278 : Fun cx 278 24 [S "numbers",S "picks"]
 f285 : Fun cx 285 25 [S "due",S "place"]
 f290 : Fun cx 290 26 [S "numbers"]
 f297 : Fun cx 297 27 [S "arrow"]
 f302 : Fun cx 302 28 [S "rings"]
theorem Top.ref (T : Top cx) {x : Str} {a : Addr} (h : cb.lookup x = some (.ref a)) : cx.gl x = some (.ref a):=by
 rcases T.nm x _ h with h | ⟨i,t,t',h,_⟩
 ·exact h
 ·cases h
theorem Top.bi (T : Top cx) {x : Str} {a : String} (h : cb.lookup x = some (.builtin a)) : cx.gl x = some (.builtin a):=by
 rcases T.nm x _ h with h | ⟨i,t,t',h,_⟩
 ·exact h
 ·cases h
theorem Top.ty (T : Top cx) {x : Str} {a : String} (h : cb.lookup x = some (.type a)) : cx.gl x = some (.type a):=by
 rcases T.nm x _ h with h | ⟨i,t,t',h,_⟩
 ·exact h
 ·cases h
theorem Top.g_len (T : Top cx) : cx.gl (Str.ofString "len") = some (.builtin "len"):=T.bi (by k_upd)
theorem Top.g_abs (T : Top cx) : cx.gl (Str.ofString "abs") = some (.builtin "abs"):=T.bi (by k_upd)
theorem Top.g_min (T : Top cx) : cx.gl (Str.ofString "min") = some (.builtin "min"):=T.bi (by k_upd)
theorem Top.g_sum (T : Top cx) : cx.gl (Str.ofString "sum") = some (.builtin "sum"):=T.bi (by k_upd)
theorem Top.g_sorted (T : Top cx) : cx.gl (Str.ofString "sorted") = some (.builtin "sorted"):=T.bi (by k_upd)
theorem Top.g_isinstance (T : Top cx) : cx.gl (Str.ofString "isinstance") = some (.builtin "isinstance"):=T.bi (by k_upd)
theorem Top.g_divmod (T : Top cx) : cx.gl (Str.ofString "divmod") = some (.builtin "divmod"):=T.bi (by k_upd)
theorem Top.g_range (T : Top cx) : cx.gl (Str.ofString "range") = some (.type "range"):=T.ty (by k_upd)
theorem Top.g_str (T : Top cx) : cx.gl (Str.ofString "str") = some (.type "str"):=T.ty (by k_upd)
theorem Top.g_tuple (T : Top cx) : cx.gl (Str.ofString "tuple") = some (.type "tuple"):=T.ty (by k_upd)
theorem Top.g_reversed (T : Top cx) : cx.gl (Str.ofString "reversed") = some (.type "reversed"):=T.ty (by k_upd)
noncomputable def zh (sc : Scope) (ps : List Str) : Bool:=ps.all fun x=>sc.names.lookup x == some .local || sc.names.lookup x == some .cell
theorem fi {ps : List Str} (h : zh sc ps = true) : ∀ x ∈ ps,n9 sc x:=fun x hx=>by
 have:=List.all_eq_true.mp h x hx
 simpa [n9] using this
theorem c5 {a : Addr} {i : Nat} {ps : List Str} {vs : List V} {v : V} (F : Fun cx a i ps) (hl : vs.length = ps.length) (hp : zh (ak i) ps = true) (hx : Ex cx b n (ak i) (ar i) (ps.zip vs) H (.ret v) H1) :
  OpV cx b (n + 1) (fun rvs=>call (.ref a) rvs []) vs H v H1:=by
 refine al fun Gq kq=>?_
 obtain ⟨fd,h1,h2,h3⟩:=F.ex
 refine kq ?_
 exact zr h1 h2 hl (by rw [h3]; exact fi hp) (.inl (by rw [h3]; exact hx))
theorem bd {f : Str} {a : Addr} {i : Nat} {ps : List Str} {args : List Expr} {p pos : Pos} {vs : List V} {v : V} (T : Top cx) (hx : sc.names.lookup f = some .globalImplicit) (hg : cb.lookup f = some (.ref a)) (hd : (f == ("__debug__" : Str)) = false) (F : Fun cx a i ps) (hp : args.all cq = true)
  (h : Evs cx b n sc args lo H vs H1) (ho : OpV cx b n (fun rvs=>call (.ref a) rvs []) vs H1 v H2) : Ev cx b n sc (.Call (.Name f p) args [] pos) lo H v H2:=by
 refine al fun Gq kq=>?_
 obtain ⟨fd,h1,h2,h3⟩:=F.ex
 refine kq ?_
 exact D0 hx (T.ref hg) hd h1 hp h ho
end
local macro_rules | `(tactic| kd_adr)=>`(tactic| first | (with_reducible exact Top.g_len (by assumption)) | (with_reducible exact Top.g_abs (by assumption)) | (with_reducible exact Top.g_min (by assumption)) | (with_reducible exact Top.g_sum (by assumption)) | (with_reducible exact Top.g_sorted (by assumption)) | (with_reducible exact Top.g_range (by assumption)) | (with_reducible exact Top.g_str (by assumption)))
section
variable {cx : Cx} {b : Bool} {n : Nat} {H H1 H2 H3 : Hp} {sc : Scope} {lo : Lo}
noncomputable def Ht : Stmt -> List Stmt
 | .ClassDef _ _ _ body _ _ _ _ _ _ _=>body
 | _=>[]
noncomputable def d5 (j : Nat) : Str × Arguments × List Stmt × Scope:=Od (nth j (Ht (nth 18 pw.main.body)))
noncomputable def ez (j : Nat) : List Stmt:=(d5 j).2.2.1
noncomputable def dc (j : Nat) : Scope:=(d5 j).2.2.2
noncomputable def InsOk (h z : Heap) (a : Addr) (rv : Value) : Prop:=∃ o d,h.get? a = some o /\ o.cls = .ref 241 /\ (∀ c,o.data ≠ .cls c) /\ o.dict = some d /\ d ≠ a /\ (rv = .none \/ ∃ mA,z.Ns1 d mA /\ mA (S "_headers") = some rv /\ ∀ y,y ≠ S "_headers" -> mA y = none)
theorem InsOk.mono (h h' z z' : Heap) (a : Addr) (v : Value) (hs : Sub z z') (hh : ∀ o,h.get? a = some o -> h'.get? a = some o) (q : InsOk h z a v) : InsOk h' z' a v :=
 q.imp fun J q=>q.imp fun J q=>⟨hh _ q.1,q.2.1,q.2.2.1,q.2.2.2.1,q.2.2.2.2.1,q.2.2.2.2.2.imp id fun q=>q.imp fun J q=>⟨q.1.keeps hs,q.2⟩⟩
theorem InsOk.inst {h z : Heap} {a : Addr} {rv : Value} (hz : Sub z h) (x : InsOk h z a rv) (hv : rv ≠ .none) : ∃ mA,h.Inst a 241 mA /\ mA (S "_headers") = some rv /\ ∀ y,y ≠ S "_headers" -> mA y = none:=by
 refine al fun Gq kq=>?_
 obtain ⟨o,d,h1,h2,h3,h4,h5,h6⟩:=x
 refine kq ?_
 rcases h6 with h6 | ⟨mA,h7,h8⟩
 ·exact absurd h6 hv
 ·exact ⟨mA,⟨o,h1,h2,h3,.inr ⟨d,h4,h5,h7.keeps hz⟩⟩,h8⟩
structure MethAt (cx : Cx) (f : Addr) (j : Nat) (ps : List Str) (k : Nat) (mk : List Value -> Args) (fill : List Value) : Prop where
 ex : ∃ fd,tn cx f fd /\ Sig0 fd ps (ez j) /\ fd.scope = dc j /\ ∀ (s : Shared) (rvs : List Value),cx.G s.heap -> rvs.length = k -> BindsTo s fd (mk rvs) (ps.zip (rvs ++ fill))
 fn : ∀ h,cx.G h -> ∃ o,h.get? f = some o /\ o.cls = .type "function"
noncomputable def mkP (rvs : List Value) : Args:=⟨rvs,[]⟩
noncomputable def mkK : List Value -> Args
 | [v,w,c]=>⟨[v,w],[(S "name",c)]⟩
 | rvs=>⟨rvs,[]⟩
structure HTop (cx : Cx) (N : Addr) (mN : Str -> Option Value) (fI fC fS fD fG fK fT : Addr) : Prop where
 ins : cx.insOk = InsOk
 cls : ∀ z,cx.G z -> ClsAt z 241 N mN
 q1 : mN "__getattribute__" = none
 q2 : mN "__getattr__" = none
 q3 : mN "__setattr__" = none
 q4 : mN (S "_headers") = none
 n1 : mN "__init__" = some (.ref fI)
 n2 : mN "_convert_string_type" = some (.ref fC)
 n3 : mN "__setitem__" = some (.ref fS)
 n4 : mN "__delitem__" = some (.ref fD)
 n5 : mN "get" = some (.ref fG)
 n6 : mN "keys" = some (.ref fK)
 n7 : mN "items" = some (.ref fT)
 m1 : MethAt cx fI 0 [S "self",S "headers"] 1 mkP [.none]
 m2 : MethAt cx fC 1 [S "self",S "value",S "name"] 3 mkK []
 m3 : MethAt cx fS 3 [S "self",S "name",S "val"] 3 mkP []
 m4 : MethAt cx fD 4 [S "self",S "name"] 2 mkP []
 m5 : MethAt cx fG 8 [S "self",S "name",S "default"] 2 mkP [.none]
 m6 : MethAt cx fK 9 [S "self"] 1 mkP []
 m7 : MethAt cx fT 11 [S "self"] 1 mkP []
 g1 : cx.gl (S "type") = some (.type "type")
 g2 : cx.gl (S "str") = some (.type "str")
 g3 : cx.gl (S "list") = some (.type "list")
 g4 : cx.gl (S "_name_disallowed_re") = some (.ref 113)
 g5 : cx.gl (S "_value_disallowed_re") = some (.ref 118)
variable {N : Addr} {mN : Str -> Option Value} {fI fC fS fD fG fK fT : Addr}
theorem vh (T : HTop cx N mN fI fC fS fD fG fK fT) {i l : Nat} {xs : List D} (hi : H[i]? = some (.ins l)) (hl : H[l]? = some (.lst xs)) {ρ : Rh} {X : List Addr} {h : Heap} {rv : Value} (I : Inv cx ρ H X h) (q : VOk cx (zH h ρ X) ρ rv (.loc i)) :
  ∃ a rh mA,rv = .ref a /\ ρ[i]? = some (some a) /\ h.Inst a 241 mA /\ mA (S "_headers") = some (.ref rh) /\ (∀ y,y ≠ S "_headers" -> mA y = none) /\ VOk cx (zH h ρ X) ρ (.ref rh) (.loc l):=by
 refine al fun Gq kq=>?_
 obtain ⟨a,rv2,e,x,v⟩:=I.ob _ _ hi
 obtain ⟨a2,vs,e2,_⟩:=I.ob _ _ hl
 refine kq ?_
 have hrv:=q.2 a e
 have hv2:=v.2 a2 e2
 subst hrv hv2
 rw [T.ins] at x
 refine al fun Gq kq=>?_
 obtain ⟨mA,h1,h2,h3⟩:=x.inst sy (fun e=>nomatch e)
 refine kq ?_
 exact ⟨a,a2,mA,rfl,e,h1,h2,h3,v⟩
section
variable {P : Program} {w : World} {A : Around} {E : Value -> Shared -> Prop} {s : Shared} {a : Addr} {mA : Str -> Option Value} {name : Str}
theorem Mj {f : Addr} {of : Obj} {pl : Sem Bool} {y : Option Value} {Q : Value × List Value -> Shared -> Prop} (hC : ClsAt s.heap 241 N mN) (g1 : mN "__getattribute__" = none) (g2 : mN "__getattr__" = none) (hn : mN name = some (.ref f)) (h1 : s.heap.get? f = some of) (h2 : of.cls = .type "function")
  (hB : typeLookup (.type "object") name = pure y) (hI : s.heap.Inst a 241 mA) (hm : mA name = none) (hQ : Q (.ref f,[.ref a]) s) : wpAny (model P w) A (getMethod (.ref a) name pl) Q E s:=by
 obtain ⟨nm,q,bs,sn,sub,col,dd,k0,k1,k2,k3,k5,e⟩:=hC.obj
 exact method_of e hC.ns g1 g2 hn h1 h2 hB hI hm hQ
theorem Mi {v : Value} {ex : Bool} {Q : Value -> Shared -> Prop} (hC : ClsAt s.heap 241 N mN) (g1 : mN "__getattribute__" = none) (hn : mN name = none) (hB : typeLookup (.type "object") name = pure none) (hI : s.heap.Inst a 241 mA) (hm : mA name = some v) (hv : handedOut v = pure v) (hQ : Q v { s with toks:=s.toks + 1 }) :
  wpAny (model P w) A (getAttr (.ref a) name ex) Q E s:=by
 obtain ⟨nm,q,bs,sn,sub,col,dd,k0,k1,k2,k3,k5,e⟩:=hC.obj
 exact load_attr e hC.ns g1 hn hB hI hm hv hQ
structure Put (h h' : Heap) (x : Addr) (name : Str) (v : Value) (mA : Str -> Option Value) : Prop where
 ins : h'.Inst x 241 fun y=>if y = name then some v else mA y
 keep : ∀ b o,b ≠ x -> (∀ o₀ dx,h.get? x = some o₀ -> o₀.dict = some dx -> b ≠ dx) -> h.get? b = some o -> h'.get? b = some o
 same : ∀ o₀,h.get? x = some o₀ -> ∃ o₁,h'.get? x = some o₁ /\ o₁.cls = o₀.cls /\ o₁.data = o₀.data /\ ∀ dx,o₀.dict = some dx -> o₁.dict = some dx
theorem J4 {v : Value} {Q : Unit -> Shared -> Prop} (hC : ClsAt s.heap 241 N mN) (g1 : mN "__setattr__" = none) (hn : mN name = none) (hB : typeLookup (.type "object") name = pure none) (hx : a ≠ 241) (hI : s.heap.Inst a 241 fun J=>none)
  (hQ : ∀ h' tk,Put s.heap h' a name v (fun J=>none) -> Q () { s with heap:=h',toks:=tk }) : wpAny (model P w) A (setAttr (.ref a) name v) Q E s:=by
 obtain ⟨nm,q,bs,sn,sub,col,dd,k0,k1,k2,k3,k5,e⟩:=hC.obj
 exact store_attr PySem.F.store_object e hC.ns g1 hn hB hx hI fun h' tk i k q=>hQ h' tk ⟨i,k,fun o e=>(q o e).imp fun J q=>⟨q.1,q.2.1,q.2.2.1,q.2.2.2.2⟩⟩
theorem Ou {rest : List Value} {fI : Addr} {oI : Obj} {Q : Value -> Shared -> Prop} (hC : ClsAt s.heap 241 N mN) (hi : mN "__init__" = some (.ref fI)) (h1 : s.heap.get? fI = some oI) (h2 : oI.cls = .type "function")
  (hq : ∀ h' x dx,s.heap.MadeObj h' x dx 241 -> wpAny (model P w) (A.under (.builtin "type.__call__" { pos:=.ref 241 :: rest })) (call (.ref fI) (.ref x :: rest)) (fun r s'=>r = .none /\ Q (.ref x) s') E { s with heap:=h' }) :
  wpAny (model P w) A (call (.ref 241) rest) Q E s:=by
 obtain ⟨nm,q,bs,sn,sub,col,dd,k0,k1,k2,k3,k5,e⟩:=hC.obj
 exact wpAny_call_obj_init PySem.F.objNew e hC.ns hi h1 h2 hq
end
theorem t8 (T : HTop cx N mN fI fC fS fD fG fK fT) {o : Expr} {name : Str} {args : List Expr} {kws : List Keyword} {ap pos : Pos} {i l : Nat} {xs : List D} {f : Addr} {j k : Nat} {ps : List Str} {mk : List Value -> Args} {fill : List Value} (h0 : Ev cx b n sc o lo H (.loc i) H1) (hi : H1[i]? = some (.ins l)) (hl : H1[l]? = some (.lst xs))
  (hn : mN name = some (.ref f)) (hne : name ≠ S "_headers") (m : MethAt cx f j ps k mk fill) (hB : ∃ y,typeLookup (.type "object") name = pure y)
  (hline : (ap.endLine == pos.line) = true) {A : Around} {env : Env} {X : List Addr} {ρ : Rh} {s : Shared} {Q : Value -> Shared -> Prop} (hbase : attributeBase o name env (eval o env) = eval o env)
  (hfew : methodCallForm (args.length + kws.length) (backTo pos (starEach args env)) (backToKw pos (keywordEach kws env)) = true) (hs : env.scope = sc) (hr : Rm b n A) (I : Inv cx ρ H X s.heap) (F : FrOk cx env lo ρ X s.heap)
  (K : ∀ ρ1 s1 a,Aft cx cx.tabs X ρ s H1 ρ1 s1 -> VOk cx (zH s1.heap ρ1 X) ρ1 (.ref a) (.loc i) -> wpAny (M cx) A (evalArgs (.ref f) true (backTo pos (starEach args env)) (backToKw pos (keywordEach kws env))) (fun x s2=>(∃ H2 ρ2,Aft cx cx.tabs X ρ1 s1 H2 ρ2 s2) /\ wpAny (M cx) A (call (.ref f) (.ref a :: x.pos) x.kw) Q No s2) No s1) :
  wpAny (M cx) A (eval (.Call (.Attribute o name ap) args kws pos) env) Q No s:=by
 rw [arm_eval_Call,hbase]
 refine wpAny_bind (h0.run hs hr I F fun ρ1 ov s1 a1 q1=>?_)
 refine al fun Gq kq=>?_
 obtain ⟨a,rh,mA,rfl,ea,hI,h2,h3,v1⟩:=vh T hi hl a1.inv q1
 obtain ⟨y,hB⟩:=hB
 obtain ⟨of,hof,hfc⟩:=m.fn _ a1.inv.gh
 obtain ⟨fd,hf,_⟩:=m.ex
 obtain ⟨_,_,oz,hz1,hz2⟩:=hf _ a1.inv.g
 obtain ⟨e0,n1,n2⟩:=ax.mp hz1
 refine kq (wpAny_bind (wpAny_standAt ?_))
 unfold methodCall
 rw [hfew]
 refine wpAny_bind (wpAny_holding (Mj (T.cls _ a1.inv.gh) T.q1 T.q2 hn hof hfc hB hI (h3 _ hne) ?_))
 refine wpAny_bind (wpAny_of_eq (a:=pos) (by unfold methodCallPos; simp [hline]) ?_)
 exact callWith_function_kw (o:=oz) (fd:=fd) (wpAny_mono (K ρ1 s1 a a1 q1) (fun J s2 q=>⟨⟨q.1.elim fun J q=>q.elim fun J a2=>a2.ext.pres f oz e0 n1 fun q=>n2 (a1.inv.xt _ q),hz2⟩,q.2⟩) nn)
theorem kt (T : HTop cx N mN fI fC fS fD fG fK fT) {o : Expr} {name : Str} {args : List Expr} {ap pos : Pos} {i l : Nat} {xs : List D} {vs : List V} {v : V} {f : Addr} {j k : Nat} {ps : List Str} {mk : List Value -> Args} {fill : List Value} (h0 : Ev cx b n sc o lo H (.loc i) H1) (h : Evs cx b n sc args lo H1 vs H2) (hi : H1[i]? = some (.ins l)) (hl : H1[l]? = some (.lst xs))
  (hn : mN name = some (.ref f)) (hne : name ≠ S "_headers") (m : MethAt cx f j ps k mk fill) (hB : ∃ y,typeLookup (.type "object") name = pure y) (hp : args.all cq = true)
  (ho : OpV cx b n (fun rvs=>call (.ref f) rvs []) (.loc i :: vs) H2 v H3)
  (hline : (ap.endLine == pos.line) = true) (hbase : ∀ env,attributeBase o name env (eval o env) = eval o env:=by intro _; rfl)
  (hfew : ∀ env,methodCallForm (args.length + ([] : List Keyword).length) (backTo pos (starEach args env)) (backToKw pos (keywordEach [] env)) = true:=by intro _; rfl) :
  Ev cx b n sc (.Call (.Attribute o name ap) args [] pos) lo H v H3:=.mk fun A env X ρ s hs hr I F=>by
 refine t8 T h0 hi hl hn hne m hB hline (hbase env) (hfew env) hs hr I F fun ρ1 s1 a a1 q1=>?_
 refine il hp (h.go A env X ρ1 _ pos hs hr a1.inv (a1.fr I F)) fun rvs s2 q=>q.elim fun ρ2 q=>⟨⟨_,_,q.1⟩,?_⟩
 exact ho.run (.ref a :: rvs) hr q.1.inv ⟨q.1.v q1,q.2⟩ fun ρ3 rv s3 a3 q3=>⟨ρ3,a1.trans (q.1.trans a3),q3⟩
theorem ln (T : HTop cx N mN fI fC fS fD fG fK fT) {o e kv : Expr} {name kn : Str} {ap pos kp : Pos} {i l : Nat} {xs : List D} {v1 v2 v : V} {f : Addr} {j k : Nat} {ps : List Str} {mk : List Value -> Args} {fill : List Value} (h0 : Ev cx b n sc o lo H (.loc i) H1) (h : Ev cx b n sc e lo H1 v1 H2) (hk : Ev cx b n sc kv lo H2 v2 H2) (hi : H1[i]? = some (.ins l)) (hl : H1[l]? = some (.lst xs))
  (hn : mN name = some (.ref f)) (hne : name ≠ S "_headers") (m : MethAt cx f j ps k mk fill) (hB : ∃ y,typeLookup (.type "object") name = pure y) (hp : cq e = true)
  (ho : OpV cx b n (fun rvs=>match rvs with | [a,c,d]=>call (.ref f) [a,c] [(kn,d)] | _=>unsupported "") [.loc i,v1,v2] H2 v H3)
  (hline : (ap.endLine == pos.line) = true) (hbase : ∀ env,attributeBase o name env (eval o env) = eval o env:=by intro _; rfl)
  (hfew : ∀ env,methodCallForm ([e].length + [(⟨some kn,kv,kp⟩ : Keyword)].length) (backTo pos (starEach [e] env)) (backToKw pos (keywordEach [⟨some kn,kv,kp⟩] env)) = true:=by intro _; rfl) :
  Ev cx b n sc (.Call (.Attribute o name ap) [e] [⟨some kn,kv,kp⟩] pos) lo H v H3:=.mk fun A env X ρ s hs hr I F=>by
 refine t8 T h0 hi hl hn hne m hB hline (hbase env) (hfew env) hs hr I F fun ρ1 s1 a a1 q1=>?_
 obtain ⟨tr,hst⟩ : ∃ tr,backTo pos (starEach [e] env) = [(false,tr)]:=by rw [eh hp]; exact ⟨_,rfl⟩
 have h1:=(af hp h ag).go A env X ρ1 s1 pos hs hr a1.inv (a1.fr I F)
 rw [hst] at h1 ⊢
 refine evalArgs_kw rfl (wpAny_mono h1 (fun rvs s2 q=>q.elim fun ρ2 q=>?_) nn)
 obtain ⟨a2,q2⟩:=q
 obtain ⟨u,rfl,q2'⟩:=one q2
 show wpAny (M cx) A (evalAll [do let v <- eval kv env; standAt pos; pure v]) _ _ _
 refine wpAny_evalAll_cons (wpAny_bind (hk.run hs hr a2.inv (a2.fr a1.inv (a1.fr I F)) fun ρ3 kvv s3 a3 q3=>?_))
 refine wpAny_bind (wpAny_standAt (wpAny_pure (wpAny_evalAll_nil ⟨⟨_,_,a2.trans a3⟩,?_⟩)))
 exact ho.run [.ref a,u,kvv] hr a3.inv ⟨(a2.trans a3).v q1,a3.v q2',q3,trivial⟩ fun ρ4 rv s4 a4 q4=>⟨ρ4,a1.trans (a2.trans (a3.trans a4)),q4⟩
end
section
variable {cx : Cx} {b : Bool} {n : Nat} {H H1 H2 H3 : Hp} {sc : Scope} {lo : Lo}
open PySem.Builtin PySem.Builtin.Re
noncomputable def adv : Nat -> Sre.M -> Sre.M
 | 0,m=>m
 | k + 1,m=>adv k (m.runFor 4)
theorem xo {m : Sre.M} (h : m.outcome.isSome = true) : ∀ k,m.runFor k = m
 | 0=>rfl
 | k + 1=>by unfold Sre.M.runFor; rw [if_pos h]
theorem v9 {m : Sre.M} (h : m.outcome.isSome = true) : ∀ k,adv k m = m
 | 0=>rfl
 | k + 1=>by unfold adv; rw [xo h]; exact v9 h k
theorem Dx {A : Around} {E : Value -> Shared -> Prop} {s : Shared} {Mo : Model} {Q : Sre.M -> Shared -> Prop} : ∀ (k t : Nat) (m : Sre.M),(adv (k + 1) m).outcome.isSome = true -> k < t -> Q (adv (k + 1) m) s -> wpAny Mo A (reDrive t m) Q E s
 | _,0,_,_,hk,_=>by omega
 | k,t + 1,m,h,hk,hq=>by
  unfold reDrive
  dsimp only
  cases ho : (m.runFor reTurnSteps).outcome.isSome with
  | true =>
   rw [if_pos rfl]
   have : adv (k + 1) m = m.runFor reTurnSteps:=by unfold adv; exact v9 ho k
   rw [this] at hq
   exact wpAny_pure hq
  | false =>
   rw [if_neg (by decide)]
   refine wpAny_bind (wpAny_rule ?_)
   cases k with
   | zero=>exfalso; have h : (m.runFor reTurnSteps).outcome.isSome = true:=h; rw [ho] at h; cases h
   | succ k=>exact Dx k t (m.runFor reTurnSteps) h (by exact Nat.le_of_lt_succ hk) hq
noncomputable def g6 : Option Sre.Outcome -> Bool
 | some .failed=>true
 | _=>false
theorem B6 {A : Around} {E : Value -> Shared -> Prop} {s : Shared} {Mo : Model} {Q : Option Sre.M -> Shared -> Prop} {m : Sre.M} (k : Nat) (h : g6 (adv (k + 1) m).outcome = true) (hk : k < 1000) (hq : Q none s) : wpAny Mo A (reRunToEnd m) Q E s:=by
 have ho : (adv (k + 1) m).outcome = some .failed:=by
  unfold g6 at h
  split at h
  ·assumption
  ·cases h
 unfold reRunToEnd
 refine wpAny_bind (Dx k (2 ^ 64) m (by rw [ho]; rfl) (Nat.lt_trans hk (by decide +kernel)) ?_)
 refine wpAny_bind (wpAny_forIn_list _ (fun J J s'=>s' = s) _ ?_ ?_ _ _ rfl)
 ·rintro x rest q s' rfl
  by_cases c : (adv (k + 1) m).seen.has x = true
  ·rw [if_pos c]
   exact wpAny_bind (wpAny_rule (wpAny_pure rfl))
  ·rw [if_neg c]
   exact wpAny_pure rfl
 ·rintro q s' rfl
  rw [ho]
  exact wpAny_pure hq
noncomputable def RegAt (z : Heap) (r : Addr) (code : Array Nat) : Prop:=∃ o fs c oc items m,z.get? r = some o /\ o.cls = .type "re.Pattern" /\ o.dict = none /\ o.data = .fields fs /\ reRawNat (fs.getD 2 .none) = 0 /\ fs.getD 5 .none = .ref c /\ z.get? c = some oc /\ oc.data = .seq items m /\ (items.map reRawOf).map (·.toNat) = code /\ reRawNat (fs.getD 6 .none) = 0
theorem RegAt.sub {z z' : Heap} (hs : Sub z z') {r : Addr} {code : Array Nat} (x : RegAt z r code) : RegAt z' r code:=x.imp fun o x=>x.imp fun f x=>x.imp fun c x=>x.imp fun d x=>x.imp fun i x=>x.imp fun m h=>⟨hs _ _ h.1,h.2.1,h.2.2.1,h.2.2.2.1,h.2.2.2.2.1,h.2.2.2.2.2.1,hs _ _ h.2.2.2.2.2.2.1,h.2.2.2.2.2.2.2⟩
theorem xq {A : Around} {E : Value -> Shared -> Prop} {s : Shared} {Mo : Model} {r : Addr} {code : Array Nat} {x : Str} {t : Tok} {Q : PySem.Fin -> Shared -> Prop} (hr : RegAt s.heap r code) (k : Nat) (hk : k < 1000)
  (hf : g6 (adv (k + 1) (Sre.forSearch code x.cps 0 0 x.cps.size false)).outcome = true) (hx : x.cps.size < 1000) (hq : Q (.done (.ret .none)) s) : wpAny Mo A (Builtin.«re.Pattern.search» ⟨[.ref r,.str x t],[]⟩) Q E s:=by
 refine al fun Gq kq=>?_
 obtain ⟨o,fs,c,oc,items,m,h1,h2,h3,h4,h5,h6,h7,h8,h9,h10⟩:=hr
 refine kq ?_
 unfold Builtin.«re.Pattern.search» reTarget
 have hn : reNamed "re.Pattern.search" "search" ["string", "pos", "endpos"] 1 [.str x t] [] = pure [some (.str x t),none,none]:=rfl
 show wpAny Mo A ((reNamed "re.Pattern.search" "search" ["string", "pos", "endpos"] 1 [.str x t] [] >>= _) >>= _) Q E s
 rw [hn]
 refine wpAny_bind (wpAny_bind (wpAny_pure ?_))
 dsimp only
 refine wpAny_bind (wpAny_pure (wpAny_bind (wpAny_pure ?_)))
 have hfo : ∀ {Q' : Array Value -> Shared -> Prop},Q' fs s -> wpAny Mo A (fieldsOf (.ref r)) Q' E s:=fun hq=>by
  unfold fieldsOf
  refine wpAny_bind (wpAny_load h1 ?_)
  rw [h4]
  exact wpAny_pure hq
 refine wpAny_bind (hfo ?_)
 refine wpAny_bind (wpAny_of_eq (a:=(x.cps,0)) rfl ?_)
 dsimp only
 rw [h10,if_neg (by decide),if_neg (by decide)]
 refine wpAny_bind (wpAny_of_eq (a:=()) rfl ?_)
 rw [h6]
 refine wpAny_bind (m:=reRawItems (.ref c)) ?_
 unfold reRawItems seqItems?
 refine wpAny_bind (wpAny_bind (wpAny_load h7 ?_))
 rw [h8]
 refine wpAny_pure (wpAny_pure (wpAny_pure ?_))
 rw [h5]
 unfold reAnswer
 dsimp only [Option.getD_some]
 have hmin : min ((2 : Int) ^ 63 - 1).toNat x.cps.size = x.cps.size:=Nat.min_eq_right (Nat.le_trans (Nat.le_of_lt hx) (by decide +kernel))
 rw [h9,show min (Int.toNat 0) x.cps.size = 0 from Nat.zero_min _]
 erw [hmin]
 exact wpAny_bind (B6 k hf hk (wpAny_pure hq))
theorem po {x : Str} {pos : Pos} {v : Value} (hx : sc.names.lookup x = some .globalImplicit) (hg : cx.gl x = some v) (hd : (x == ("__debug__" : Str)) = false) : Ev cx b n sc (.Name x pos) lo H (.raw v) H:=.mk fun A env X ρ s hs hr I F =>
 cg I F (by rw [ao,hs]; exact hx) hg ⟨ρ,.refl I,rfl⟩ hd
theorem z3 {X : List Addr} {ρ : Rh} {s : Shared} {rv : Value} {v : V} (I : Inv cx ρ H X s.heap) (h : VOk cx (zH s.heap ρ X) ρ rv v) : ig cx X ρ s v H rv s:=⟨ρ,.refl I,h⟩
theorem y5 {x : Str} : OpV cx b n (fun rvs=>call (.type "type") rvs []) [.d (.str x)] H (.raw (.type "str")) H:=.mk fun A X ρ s rvs J I q=>by
 obtain ⟨u,rfl,q1⟩:=one q; obtain ⟨t,rfl⟩:=gk q1
 exact call_type_of (Tx:="str") (typeIs_str _ _ _) (by decide +kernel) (z3 I rfl)
theorem xl {i : Nat} {xs : List D} (hi : H[i]? = some (.lst xs)) : OpV cx b n (fun rvs=>call (.type "type") rvs []) [.loc i] H (.raw (.type "list")) H:=.mk fun A X ρ s rvs J I q=>by
 obtain ⟨u,rfl,q1⟩:=one q
 exact call_type_of (Tx:="list") (dy hi ρ X s u I q1).1 (by decide +kernel) (z3 I rfl)
theorem Ft {u v : Value} (hp : plainIs u v = true) : OpV cx b n (cmp .Is) [.raw u,.raw v] H (.d (.bool (u == v))) H:=.mk fun A X ρ s rvs J I q=>by
 obtain ⟨x,y,rfl,q1,q2⟩:=two q; obtain rfl : x = u:=q1; obtain rfl : y = v:=q2
 exact wpAny_is_plain hp (f8 I (.bool _))
theorem xj {u v : Value} (hp : plainIs u v = true) : OpV cx b n (cmp .IsNot) [.raw u,.raw v] H (.d (.bool (!(u == v)))) H:=.mk fun A X ρ s rvs J I q=>by
 obtain ⟨x,y,rfl,q1,q2⟩:=two q; obtain rfl : x = u:=q1; obtain rfl : y = v:=q2
 exact wpAny_isNot_plain hp (f8 I (.bool _))
theorem y4 : OpB cx b n tru [.d .none] H false H:=.mk fun A X ρ s rvs J I q=>by
 obtain ⟨u,rfl,q1⟩:=one q; have:=none_ q1; subst this
 exact truthy_none ⟨rfl,ρ,.refl I⟩
theorem G4 {r : Addr} {code : Array Nat} (hr : ∀ z,cx.G z -> RegAt z r code) : Ty cx "re.Pattern" H (.raw (.ref r)):=fun ρ X s rv I q=>by
 obtain rfl : rv = .ref r:=q
 refine al fun Gq kq=>?_
 obtain ⟨o,fs,c,oc,items,m,h1,h2,h3,_⟩:=hr _ I.gh
 refine kq ?_
 exact ⟨⟨o,h1,h2⟩,fun a e=>by cases e; exact ⟨o,h1,h3⟩⟩
theorem o6 : Slot "re.Pattern" "search" "re.Pattern.search":=.of (owner:="re.Pattern") (n:="search") (by rw [typeLookup_type,builtinLookup_eq_fast]; k_upd) (by decide +kernel) (by decide +kernel) (by decide +kernel)
  (by first | exact .inl (by decide +kernel) | exact .inr (by decide +kernel)) (by rw [isSubtype_type]; k_upd)
theorem u7 : entryFor table "re.Pattern.search" = some Builtin.«re.Pattern.search»:=entryFor_of_tree (by k_upd)
theorem wc (a b : Value) : argsOk "re.Pattern.search" ⟨[a,b],[]⟩:=by unfold argsOk; k_upd
theorem xk {r : Addr} {code : Array Nat} {x : Str} (hr : ∀ z,cx.G z -> RegAt z r code) (k : Nat) (hk : k < 1000)
  (hf : g6 (adv (k + 1) (Sre.forSearch code x.cps 0 0 x.cps.size false)).outcome = true) (hx : x.cps.size < 1000) : OpV cx b n (fun rvs=>call (.builtin "re.Pattern.search") rvs []) [.raw (.ref r),.d (.str x)] H (.d .none) H:=.mk fun A X ρ s rvs J I q=>by
 obtain ⟨u,v,rfl,q1,q2⟩:=two q; obtain ⟨t,rfl⟩:=gk q2
 obtain rfl : u = .ref r:=q1
 have hR:=hr _ I.gh
 refine al fun Gq kq=>?_
 obtain ⟨o,fs,c,oc,items,m,h1,h2,h3,_⟩:=id hR
 refine kq ?_
 exact wpAny_call_entry o6 ⟨o,h1,h2⟩ u7 (xq hR k hk hf hx ⟨_,rfl,f8 I .none⟩) (wc _ _)
theorem mq : PlainAttrs "re.Pattern" :=
 ⟨⟨"object.__getattribute__",by rw [typeLookup_type,builtinLookup_eq_fast]; k_upd,by decide +kernel⟩,by rw [typeLookup_type,builtinLookup_eq_fast]; k_upd⟩
end
section
variable {cx : Cx} {b : Bool} {n : Nat} {H H1 H2 H3 : Hp} {sc : Scope} {lo : Lo}
variable {N : Addr} {mN : Str -> Option Value} {fI fC fS fD fG fK fT : Addr}
noncomputable def Dk : Array Nat:=#[14,10,4,1,1,22,0,31,16,127,0,13,7,22,0,31,16,127,0,1]
noncomputable def Dl : Array Nat:=#[14,14,4,1,1,9,4294966783,0,0,2147483648,0,0,0,0,0,13,11,9,4294966783,0,0,2147483648,0,0,0,0,0,1]
noncomputable def good : List Str:=[S "a",S "b",S "c",S "d",S "B",S "C",S "D"]
structure Regs (cx : Cx) : Prop where
 r1 : ∀ z,cx.G z -> RegAt z 113 Dk
 r2 : ∀ z,cx.G z -> RegAt z 118 Dl
theorem ya : typeOf (.builtin "re.Pattern.search") = pure (.type "method_descriptor"):=by k_upd
theorem I0 : good.all (fun x=>g6 (adv 4 (Sre.forSearch Dk x.cps 0 0 x.cps.size false)).outcome && g6 (adv 4 (Sre.forSearch Dl x.cps 0 0 x.cps.size false)).outcome && decide (x.cps.size < 1000)) = true:=by k_upd
theorem Iy {x : Str} (h : x ∈ good) : g6 (adv 4 (Sre.forSearch Dk x.cps 0 0 x.cps.size false)).outcome = true /\ g6 (adv 4 (Sre.forSearch Dl x.cps 0 0 x.cps.size false)).outcome = true /\ x.cps.size < 1000:=by
 have:=List.all_eq_true.mp I0 x h
 rw [Bool.and_eq_true,Bool.and_eq_true,decide_eq_true_eq] at this
 exact ⟨this.1.1,this.1.2,this.2⟩
theorem conv (T : HTop cx N mN fI fC fS fD fG fK fT) (R : Regs cx) {x : Str} (hx : x ∈ good) {c : Bool} {v : V} : Ex cx b n (dc 1) (ez 1) [(S "self",v),(S "value",.d (.str x)),(S "name",.d (.bool c))] H (.ret (.d (.str x))) H:=by
 obtain ⟨h1,h2,h3⟩:=Iy hx
 apply bb
 apply bp
 case h =>
  apply am
  case h1 =>
   apply qp
   case hx=>k_upd
   case hg=>exact T.g1
   case hd=>k_upd
   case hp=>k_upd
   case h=>kd_p1
   exact y5
  case h2 =>
   apply po
   case hx=>k_upd
   case hg=>exact T.g2
   k_upd
  case ho=>exact Ft rfl
  rfl
 rw [if_pos (by decide)]
 apply ah
 case h1 =>
  apply ai
  case h =>
   apply jm
   case h =>
    apply dw
    case hp=>exact fun J J=>rfl
    case h=>kd_p
    exact fa
   show Ev cx b n _ _ _ _ (.raw (.ref (if c then 113 else 118))) _
   cases c
   ·rw [if_neg (by decide),if_neg (by decide)]
    apply po
    case hx=>k_upd
    case hg=>exact T.g5
    k_upd
   ·rw [if_pos rfl,if_pos rfl]
    apply po
    case hx=>k_upd
    case hg=>exact T.g4
    k_upd
  case hk=>exact .inl (by k_upd)
  exact fun J J=>rfl
 apply ah
 case h1 =>
  apply bp
  case h =>
   apply dw
   case hp=>exact fun J J=>rfl
   case h =>
    apply ba
    case h0=>kd_p
    case h=>kd_p1
    case ht =>
     show Ty cx "re.Pattern" _ _
     cases c
     ·exact G4 R.r2
     ·exact G4 R.r1
    case pa=>exact mq
    case slot=>exact o6
    case hty=>exact ya
    case hp=>k_upd
    case hline=>rfl
    case hbase=>exact fun J=>rfl
    case hfew=>exact fun J=>rfl
    cases c
    ·exact xk R.r2 3 (by decide) h2 h3
    ·exact xk R.r1 3 (by decide) h1 h3
   exact y4
  rw [if_neg (by decide)]
  exact bj
 apply bb
 apply az
 kd_p
theorem J3 {prog : Program} {w : World} {A : Around} {E : Value -> Shared -> Prop} {s : Shared} {l sl j : Addr} {xs ys : Array Value} {k m : Nat} {Q : Unit -> Shared -> Prop} (hl : s.heap.get? l = some (listOf xs k)) (hj : s.heap.get? j = some (listOf ys m)) (hlj : l ≠ j)
  (hs : s.heap.IsSliceOf sl .none .none .none) (hsz : xs.size + ys.size <= 2 ^ 24)
  (hQ : Q () { s with heap:=s.heap.update l (Obj.mapSeq fun zs=>zs.extract 0 0 ++ ys ++ zs.extract xs.size zs.size) }) : wpAny (model prog w) A (setItem (.ref l) (.ref sl) (.ref j)) Q E s:=by
 have hL : s.heap.IsList l xs:=PySem.IsL.isList (n:=k) hl
 refine al fun Gq kq=>?_
 obtain ⟨os,hos,hcs,hds⟩:=id hs
 refine kq ?_
 have hTs : s.TypeIs (.ref sl) "slice":=⟨os,hos,hcs⟩
 have hTj : s.TypeIs (.ref j) "list":=⟨_,hj,rfl⟩
 unfold setItem
 try with_reducible refine wpAny_holding ?_
 first | refine wpAny_bind (wpAny_pure ?_) | skip
 refine wpAny_bind (wpAny_sequenceKey hL.typeIs (by decide) ?_)
 refine wpAny_bind (wpAny_callSpecial?_slot (name:=Str.ofString "__setitem__") hL.typeIs slot_list_setitem
  (wpAny_call_entry slot_list_setitem hL.typeIs entry_list_setitem ?_ (args_list_setitem _ _ _)))
 show wpAny _ _ (Builtin.List.listSubscript? (.ref sl) >>= _) _ _ s
 refine wpAny_bind ?_
 unfold Builtin.List.listSubscript?
 refine wpAny_bind (wpAny_specialOf hTs slice_no_index ?_)
 simp only [Option.isNone_none,if_true]
 refine wpAny_pure ?_
 show wpAny _ _ (typeOf (.ref sl) >>= _) _ _ s
 refine wpAny_bind (wpAny_typeOf hTs ?_)
 rw [if_neg (by decide),listSliceParts_eq]
 refine wpAny_bind (wpAny_bind (wpAny_field hos hds (x:=.none) rfl (wpAny_bind (wpAny_listPart .none ?_))))
 rw [if_neg (by decide)]
 refine wpAny_bind (wpAny_field hos hds (x:=.none) rfl (wpAny_bind (wpAny_listPart .none ?_)))
 refine wpAny_bind (wpAny_field hos hds (x:=.none) rfl (wpAny_bind (wpAny_listPart .none (wpAny_pure ?_))))
 dsimp only
 rw [if_neg (show ¬ (Builtin.List.listSameRef (.ref l) (.ref j) = true) by show ¬ ((l == j) = true); simpa using hlj)]
 unfold Builtin.List.listAllItems
 refine wpAny_bind (wpAny_bind (wpAny_typeOf hTj ?_))
 rw [if_pos (by decide)]
 unfold Builtin.List.listItems
 refine wpAny_bind (wpAny_seqItems hj rfl (wpAny_pure ?_))
 refine wpAny_bind (wpAny_bind (wpAny_seqItems hl rfl (wpAny_pure ?_)))
 refine wpAny_bind (wpAny_of_eq (sliceIndices_raw none none none xs.size (by simp)) ?_)
 have hb : sliceBounds none none none xs.size = (0,(xs.size : Int),1):=rfl
 rw [hb]
 dsimp only
 rw [if_pos (by decide)]
 refine wpAny_bind (wpAny_rule ?_)
 rw [if_neg (show ¬ (Builtin.List.listTooLong (xs.size + ys.size) = true) by show ¬ (decide (xs.size + ys.size > 2 ^ 24) = true); rw [decide_eq_true_eq]; exact Nat.not_lt_of_le hsz)]
 have hmx : (max (0 : Int) (xs.size : Int)).toNat = xs.size:=by exact rfl
 rw [hmx]
 refine wpAny_bind (listUpdate_at hl rfl ?_ (by show xs.size <= 2 ^ 24; exact Nat.le_of_add_right_le hsz) (by show _ <= 2 ^ 24 + 1; simp; omega))
 refine wpAny_bind (wpAny_letGo ?_)
 exact wpAny_pure ⟨_,rfl,wpAny_pure hQ⟩
theorem Bu {l j : Nat} {xs ys : List D} (hl : H[l]? = some (.lst xs)) (hj : H[j]? = some (.lst ys)) (hlj : l ≠ j) (hsz : xs.length + ys.length <= 2 ^ 24) {A : Around} {X : List Addr} {ρ : Rh} {s : Shared} {rl rj : Value} {sl : Addr} (I : Inv cx ρ H X s.heap)
  (ql : VOk cx (zH s.heap ρ X) ρ rl (.loc l)) (qj : VOk cx (zH s.heap ρ X) ρ rj (.loc j)) (hs : s.heap.IsSliceOf sl .none .none .none) : wpAny (M cx) A (setItem rl (.ref sl) rj) (fun J s'=>∃ ρ',Aft cx cx.tabs X ρ s (H.set l (.lst ys)) ρ' s') No s:=by
 refine al fun Gq kq=>?_
 obtain ⟨a,vs,ea,⟨k,la⟩,ra⟩:=I.ob _ _ hl
 obtain ⟨c,ws,ec,⟨m,lc⟩,rc⟩:=I.ob _ _ hj
 refine kq ?_
 have:=ql.2 a ea
 subst this
 have:=qj.2 c ec
 subst this
 have hac : a ≠ c:=fun e=>hlj (I.nd l j a ea (e ▸ ec))
 refine J3 la lc hac hs (by rw [Ls.size ra,Ls.size rc]; exact hsz) ?_
 have la':=IsL.update la (fun zs=>zs.extract 0 0 ++ ws ++ zs.extract vs.size zs.size)
 have hsm : Heap.SameBut a s.heap (s.heap.update a (Obj.mapSeq fun zs=>zs.extract 0 0 ++ ws ++ zs.extract vs.size zs.size)):=i6
 have hb:=fq (ρ:=ρ) (X:=X) hsm (b9 ea)
 have e0 : (vs.extract 0 0 ++ ws ++ vs.extract vs.size vs.size).toList = ws.toList:=by simp
 exact ⟨ρ,⟨⟨_,_,rfl⟩,I.upd ea hsm ⟨_,la'⟩ _ ⟨a,_,ea,⟨_,la'⟩,by rw [e0]; exact rc.sub hb⟩,.upd ea hsm ⟨_,la'⟩⟩⟩
theorem tv {e o : Expr} {sp p pos : Pos} {l j : Nat} {xs ys : List D} (h1 : Ev cx b n sc e lo H (.loc j) H1) (h2 : Ev cx b n sc o lo H1 (.loc l) H2) (hl : H2[l]? = some (.lst xs)) (hj : H2[j]? = some (.lst ys)) (hlj : l ≠ j) (hsz : xs.length + ys.length <= 2 ^ 24)
  (hs : ∀ env,swapsWith e (some (.Subscript o (.Slice none none none sp) p)) pos.line env = pure false:=by intro _; rfl) : Ex1 cx b n sc (.Assign [.Subscript o (.Slice none none none sp) p] e pos) lo H (.nxt lo) (H2.set l (.lst ys)):=.mk fun A env X ρ s hs' hr I F =>
 wpAny_Assign_Subscript (h1.run hs' hr I F fun ρ1 r1 s1 a1 q1=>by
  refine h2.run hs' hr a1.inv (a1.fr I F) fun ρ2 r2 s2 a2 q2=>?_
  have a12:=a1.trans a2
  refine wpAny_Slice ?_
  rw [evalPart_none]
  refine wpAny_pure (wpAny_pure (wpAny_pure ?_))
  have a3 : Aft cx cx.tabs X ρ2 s2 H2 ρ2 { s2 with heap:=s2.heap.push { cls:=.type "slice",data:=.fields #[.none,.none,.none] } }:=⟨⟨_,_,rfl⟩,a2.inv.push _,.push⟩
  refine wpAny_mono (Bu hl hj hlj hsz a3.inv (a3.v q2) (a3.v (a2.v q1)) ⟨_,Heap.get?_push_size _ rfl,rfl,rfl⟩) (fun J s4 q=>?_) fun J J x=>x
  obtain ⟨ρ4,a4⟩:=q
  have a:=a12.trans (a3.trans a4)
  exact ⟨ρ4,a.mono tE,rfl,a.fr I F⟩) (hs env)
theorem lr (T : HTop cx N mN fI fC fS fD fG fK fT) {x : Str} {xp pos : Pos} {i l : Nat} {xs : List D} (h : Ev cx b n sc (.Name x xp) lo H (.loc i) H1) (hi : H1[i]? = some (.ins l)) (hl : H1[l]? = some (.lst xs))
  (hB : typeLookup (.type "object") (S "_headers") = pure none) (he : ∀ env,eval (.Attribute (.Name x xp) (S "_headers") pos) env = (do
   let o <- eval (.Name x xp) env
   standAt pos.atName
   let r <- holding [o] (getAttr o (S "_headers") true)
   letTemporaryGo (.Name x xp) o r
   pure r):=by intro _; rfl) : Ev cx b n sc (.Attribute (.Name x xp) (S "_headers") pos) lo H (.loc l) H1:=.mk fun A env X ρ s hs hr I F =>
 Attribute_Name_ (h.run hs hr I F fun ρ1 ov s1 a1 q1=>by
  refine al fun Gq kq=>?_
  obtain ⟨a,rh,mA,rfl,ea,hI,h2,h3,v1⟩:=vh T hi hl a1.inv q1
  refine kq ?_
  exact Mi (T.cls _ a1.inv.gh) T.q1 T.q4 hB hI h2 rfl ⟨ρ1,a1.trans (.tok a1.inv _),v1⟩) (he env)
theorem fx : typeLookup (.type "object") (S "_headers") = pure none:=by rw [typeLookup_type,builtinLookup_eq_fast]; k_upd
theorem oy (T : HTop cx N mN fI fC fS fD fG fK fT) {name : Str} {f j k : Nat} {ps : List Str} {mk : List Value -> Args} {fill : List Value} (m : MethAt cx f j ps k mk fill) (hn : mN name = some (.ref f)) {h : Heap} {a : Addr} {mA : Str -> Option Value} (hI : h.Inst a 241 mA) (hg : cx.G h)
  (hB : ∃ y,typeLookup (.type "object") name = pure y) : h.OwnSpecial a 241 f "object" name:=by
 have hcls:=T.cls _ hg
 refine al fun Gq kq=>?_
 obtain ⟨nm,q,bs,sn,sub,col,dd,k0,k1,k2,k3,k5,hC⟩:=hcls.obj
 obtain ⟨of,hof,hfc⟩:=m.fn _ hg
 obtain ⟨o,h1,h2,_⟩:=hI
 obtain ⟨y,hB⟩:=hB
 refine kq ?_
 exact ⟨o,of,nm,q,N,bs,_,_,sn,sub,_,col,dd,k0,k1,k2,k3,k5,_,mN,y,h1,h2,hC,hcls.ns,hn,hof,hfc,PySem.F.mro_object,hB⟩
theorem Jd {P : Program} {w : World} {A : Around} {E : Value -> Shared -> Prop} {s : Shared} {c : String} {Q : Bool -> Shared -> Prop} (hC : ClsAt s.heap 241 N mN) (h : Q ((Value.ref 241 :: [Value.type "object"]).contains (.type c)) s) : wpAny (model P w) A (isSubtype (.ref 241) (.type c)) Q E s:=by
 obtain ⟨nm,q,bs,sn,sub,col,dd,k0,k1,k2,k3,k5,e⟩:=hC.obj
 exact wpAny_isSubtype_exc e h
theorem su (T : HTop cx N mN fI fC fS fD fG fK fT) {P : Program} {w : World} {A : Around} {E : Value -> Shared -> Prop} {s : Shared} {a : Addr} {mA : Str -> Option Value} {k : Value} {name : Str} {Q : Value -> Shared -> Prop} (hI : s.heap.Inst a 241 mA) (hg : cx.G s.heap) (h : Q k s) : wpAny (model P w) A (sequenceKey (.ref a) k name) Q E s:=by
 obtain ⟨o,h1,h2,_⟩:=hI
 unfold sequenceKey
 repeat (first | (with_reducible refine wpAny_loadPart_at h1 ?_; rw [h2]) | wp_step)
 dsimp only
 refine Jd (P:=P) (w:=w) (T.cls _ hg) ?_
 rw [show ((Value.ref 241 :: [Value.type "object"]).contains (Value.type "collections.deque")) = false from by decide +kernel]
 exact wpAny_pure (wpAny_pure h)
theorem Fx (T : HTop cx N mN fI fC fS fD fG fK fT) {i l : Nat} {xs : List D} {x y : D} {H' : Hp} (hi : H[i]? = some (.ins l)) (hl : H[l]? = some (.lst xs)) (hB : ∃ y,typeLookup (.type "object") "__setitem__" = pure y)
  (ho : OpV cx b n (fun rvs=>call (.ref fS) rvs []) [.loc i,.d x,.d y] H (.d .none) H') : Op cx b n si [.d y,.loc i,.d x] H (fun X ρ s J s'=>∃ ρ',Aft cx cx.tabs X ρ s H' ρ' s'):=.mk fun A X ρ s rvs hr I q=>by
 refine al fun Gq kq=>?_
 obtain ⟨u,v,w,rfl,q1,q2,q3⟩:=uw q
 obtain ⟨a,rh,mA,rfl,ea,hI,h2,h3,v1⟩:=vh T hi hl I q2
 refine kq ?_
 show wpAny (M cx) A (setItem (.ref a) w u) _ _ _
 unfold setItem
 refine wpAny_holding ?_
 refine wpAny_bind (su T hI I.gh ?_)
 refine wpAny_bind (wpAny_callSpecial?_own (oy T T.m3 T.n3 hI I.gh hB) (ho.run [.ref a,w,u] hr I ⟨q2,q3,q1,trivial⟩ fun ρ' r s2 a' J=>?_))
 exact wpAny_pure ⟨ρ',a'⟩
theorem H7 (T : HTop cx N mN fI fC fS fD fG fK fT) {o e : Expr} {p pos : Pos} {i l : Nat} {xs : List D} {x : D} {H4 : Hp} (h1 : Ev cx b n sc o lo H (.loc i) H1) (h2 : Ev cx b n sc e lo H1 (.d x) H2) (hi : H2[i]? = some (.ins l)) (hl : H2[l]? = some (.lst xs)) (hB : ∃ y,typeLookup (.type "object") "__delitem__" = pure y)
  (ho : OpV cx b n (fun rvs=>call (.ref fD) rvs []) [.loc i,.d x] H2 (.d .none) H4) : Ex1 cx b n sc (.Delete [.Subscript o e p] pos) lo H (.nxt lo) H4:=.mk fun A env X ρ s hs' hr I F=>by
 refine wpAny_Delete (wpAny_deleteEach_cons (wpAny_delete_Subscript (h1.run hs' hr I F fun ρ1 r1 s1 a1 q1=>?_)))
 refine h2.run hs' hr a1.inv (a1.fr I F) fun ρ2 r2 s2 a2 q2=>?_
 have a12:=a1.trans a2
 obtain ⟨a,rh,mA,rfl,ea,hI,h2,h3,v1⟩:=vh T hi hl a2.inv (a2.v q1)
 have I2:=a2.inv
 have q1':=a2.v q1
 generalize hs2 : s2 = s2' at *
 subst hs2
 have key : wpAny (M cx) A (delItem (.ref a) r2) (fun J s'=>∃ ρ',Aft cx cx.tabs X ρ2 s2 H4 ρ' s') No s2:=by
  unfold delItem
  refine wpAny_holding ?_
  refine wpAny_bind (su T hI I2.gh ?_)
  refine wpAny_bind (wpAny_callSpecial?_own (oy T T.m4 T.n4 hI I2.gh hB) (ho.run [.ref a,r2] hr I2 ⟨q1',q2,trivial⟩ fun ρ' r s2 a' J=>?_))
  exact wpAny_pure ⟨ρ',a'⟩
 refine wpAny_mono key (fun J s3 q=>wpAny_deleteEach_nil ?_) fun J J x=>x
 obtain ⟨ρ3,a3⟩:=q
 have a:=a12.trans a3
 exact ⟨ρ3,a.mono tE,rfl,a.fr I F⟩
theorem gq {f j k : Nat} {ps : List Str} {mk : List Value -> Args} {fill : List Value} {vs fv : List V} {v : V} {H' : Hp} (m : MethAt cx f j ps k mk fill) (hl : vs.length = k) (hp : zh (dc j) ps = true) (hlen : (vs ++ fv).length = ps.length) (hfv : ∀ z ρ,VsOk cx z ρ fill fv)
  (hx : Ex cx b n (dc j) (ez j) (ps.zip (vs ++ fv)) H (.ret v) H' \/ (v = .d .none /\ ∃ lo',Ex cx b n (dc j) (ez j) (ps.zip (vs ++ fv)) H (.nxt lo') H')) {A : Around} {X : List Addr} {ρ : Rh} {s : Shared} {rvs : List Value} (hr : Rm b (n + 1) A) (I : Inv cx ρ H X s.heap) (q : VsOk cx (zH s.heap ρ X) ρ rvs vs) :
  wpAny (M cx) A (call (.ref f) (mk rvs).pos (mk rvs).kw) (ig cx X ρ s v H') No s:=by
 refine al fun Gq kq=>?_
 obtain ⟨fd,h1,h2,h3,h4⟩:=m.ex
 refine kq ?_
 have hvs:=VsOk.append q (hfv (zH s.heap ρ X) ρ)
 have e1:=VsOk.length q
 have e2:=VsOk.length hvs
 refine zq h1 h2 (h4 s rvs I.gh (e1.trans hl)) (e2.trans hlen) (by rw [h3]; exact fi hp) (by rw [h3]; exact hx) hr I hvs
theorem kz : (∃ y,typeLookup (.type "object") "__setitem__" = pure y) /\ (∃ y,typeLookup (.type "object") "__delitem__" = pure y) /\ (∃ y,typeLookup (.type "object") "_convert_string_type" = pure y) /\ (∃ y,typeLookup (.type "object") "get" = pure y) /\ (∃ y,typeLookup (.type "object") "keys" = pure y) /\ (∃ y,typeLookup (.type "object") "items" = pure y):=by
 refine ⟨⟨none,?_⟩,⟨none,?_⟩,⟨none,?_⟩,⟨none,?_⟩,⟨none,?_⟩,⟨none,?_⟩⟩ <;> (rw [typeLookup_type,builtinLookup_eq_fast]; k_upd)
noncomputable abbrev Row:=Str × Str
noncomputable def k9 (e : Row) : D:=.tuple [.str e.1,.str e.2]
noncomputable def bg (es : List Row) : List D:=es.map k9
noncomputable def ij (es : List Row) : Prop:=(∀ e ∈ es,e.1 ∈ good /\ e.2 ∈ good) /\ es.length <= 100
theorem ev {x : Str} (h : x ∈ good) : Builtin.Str.tooLong (Txt.lower x).length = false /\ Txt.lower x ∈ good:=by
 have k : good.all (fun x=>!(Builtin.Str.tooLong (Txt.lower x).length) && good.contains (Txt.lower x)) = true:=by k_upd
 have:=List.all_eq_true.mp k x h
 rw [Bool.and_eq_true,Bool.not_eq_true'] at this
 exact ⟨this.1,List.contains_iff_mem.mp this.2⟩
theorem u0 (T : HTop cx N mN fI fC fS fD fG fK fT) (R : Regs cx) {x : Str} (hx : x ∈ good) {c : Bool} {v : V} : OpV cx b (n + 1) (fun rvs=>match rvs with | [a,c,d]=>call (.ref fC) [a,c] [(S "name",d)] | _=>unsupported "") [v,.d (.str x),.d (.bool c)] H (.d (.str x)) H:=.mk fun A X ρ s rvs hr I q=>by
 obtain ⟨u,v,w,rfl,q'⟩:=uw q
 exact gq T.m2 (vs:=[_,.d (.str x),.d (.bool c)]) (fv:=[]) rfl (by k_upd) rfl (fun J J=>trivial) (.inl (conv T R hx)) hr I q
theorem M4 {x y : Str} : (x.cps.toList != y.cps.toList) = !(x == y):=by
 show (!(x.cps.toList == y.cps.toList)) = _
 congr 1
 rw [Bool.eq_iff_iff,beq_iff_eq,beq_iff_eq]
 exact ⟨fun e=>by cases x; cases y; exact congrArg Str.mk (Array.toList_inj.mp e),fun e=>by rw [e]⟩
theorem y8 {x y : Str} : (x.cps.toList == y.cps.toList) = (x == y):=by
 rw [Bool.eq_iff_iff,beq_iff_eq,beq_iff_eq]
 exact ⟨fun e=>by cases x; cases y; exact congrArg Str.mk (Array.toList_inj.mp e),fun e=>by rw [e]⟩
theorem C6 (T : HTop cx N mN fI fC fS fD fG fK fT) (R : Regs cx) {x : Str} (hx : x ∈ good) {i l : Nat} {es : List Row} (hi : H[i]? = some (.ins l)) (hl : H[l]? = some (.lst (bg es))) (hes : ij es) :
  ∃ lo',Ex cx true (n + 1) (dc 4) (ez 4) [(S "self",.loc i),(S "name",.d (.str x))] H (.nxt lo') ((H ++ [O.lst (bg (es.filter fun e=>!(Txt.lower e.1 == Txt.lower x)))]).set l (.lst (bg (es.filter fun e=>!(Txt.lower e.1 == Txt.lower x))))):=by
 refine ⟨?lo,?ex⟩
 case ex =>
  apply ah
  case h1 =>
   apply ai
   case h =>
    apply ln T
    case h0=>kd_p
    case h =>
     apply ba
     case h0=>kd_p
     case h=>kd_p1
     case ht=>exact d9
     case pa=>exact PySem.F.plainAttrs_str
     case slot=>exact PySem.F.slot_str_lower
     case hty=>exact PySem.F.type_str_lower
     case hp=>rfl
     case hline=>rfl
     case hbase=>exact fun J=>rfl
     case hfew=>exact fun J=>rfl
     exact gx (ev hx).1
    case hk=>kd_p
    case hi=>exact hi
    case hl=>exact hl
    case hn=>exact T.n2
    case hne=>decide +kernel
    case m=>exact T.m2
    case hB=>exact kz.2.2.1
    case hp=>rfl
    case ho=>exact u0 T R (ev hx).2
    rfl
   case hk=>exact .inr (by k_upd)
   exact fun J J=>rfl
  apply ah
  case h1 =>
   apply tv
   case h1 =>
    apply cf
    case S=>exact ⟨by decide +kernel,rfl,by decide +kernel⟩
    case hfi=>exact ct (by k_upd)
    case hit =>
     apply qz
     case h =>
      apply lr T
      case h=>kd_p
      case hi=>exact hi
      case hl=>exact hl
      exact fx
     case hi=>exact hl
     first | exact ik | exact ld | exact fun J J=>rfl
    case W =>
      apply ja (lo':=[(S "name",.d (.str (Txt.lower x))),(S "name",.d (.str x))])
      case h=>k_upd
      apply me (f:=k9) (g:=k9) (p:=fun e=>!(Txt.lower e.1 == Txt.lower x)) (bnd:=fun e=>[(S "kv",.d (k9 e)),(S "name",.d (.str (Txt.lower x))),(S "name",.d (.str x))])
      case hC=>exact fun ys=>au hl
      case has=>exact fun a=>bw (by k_upd)
      case hw=>exact fun a=>cj (by k_upd)
      case a =>
       intro e he ys
       have hg:=(hes.1 e he).1
       apply nt
       apply am
       case h1 =>
        apply ba
        case h0 =>
         apply av
         case h1=>kd_p
         case h2=>kd_p
         case ht=>exact ca
         case ho=>exact cp (j:=0) (by rfl) (by decide) rfl
         exact fun J J=>⟨_,rfl⟩
        case h=>kd_p1
        case ht=>exact d9
        case pa=>exact PySem.F.plainAttrs_str
        case slot=>exact PySem.F.slot_str_lower
        case hty=>exact PySem.F.type_str_lower
        case hp=>rfl
        case hline=>rfl
        case hbase=>exact fun J=>rfl
        case hfew=>exact fun J=>rfl
        exact gx (ev hg).1
       case h2=>kd_p
       case ho=>rw [<- M4]; exact Fw
       rfl
      case a=>intro e he hp ys; kd_p
      show ([] : List D).length + es.length <= 2 ^ 20; have:=hes.2; simp; exact Nat.le_trans this (by decide)
    exact fun J J=>rfl
   case h2 =>
    apply lr T
    case h=>kd_p
    case hi=>exact au hi
    case hl=>exact au hl
    exact fx
   case hl=>exact au hl
   case hj=>exact ay
   case hlj=>exact Nat.ne_of_lt (aq hl)
   case hsz =>
    have h1:=hes.2
    have h2:=List.length_filter_le (fun e : Row=>!(Txt.lower e.1 == Txt.lower x)) es
    simp [bg]; omega
   exact fun J=>rfl
  exact bj
theorem vq {H : Hp} {o o' : O} {l : Nat} (hl : l < H.length) : ((H ++ [o]).set l o').take H.length = H.set l o':=by
 rw [List.set_append_left _ _ hl]
 rw [List.take_append_of_le_length (by rw [List.length_set]; exact Nat.le_refl _),List.take_of_length_le (by rw [List.length_set]; exact Nat.le_refl _)]
theorem Clo.set {H : Hp} {m l : Nat} {xs : List D} (h : Clo H m) : Clo (H.set l (.lst xs)) m:=fun i o hi e=>by
 rw [List.getElem?_set] at e
 split at e
 ·split at e
  ·cases e; exact fun J h=>nomatch h
  ·cases e
 ·exact h i o hi e
noncomputable abbrev jc (es : List Row) (x : Str) : List Row:=es.filter fun e=>!(Txt.lower e.1 == Txt.lower x)
theorem N3 (T : HTop cx N mN fI fC fS fD fG fK fT) (R : Regs cx) {x : Str} (hx : x ∈ good) {i l : Nat} {es : List Row} (hi : H[i]? = some (.ins l)) (hl : H[l]? = some (.lst (bg es))) (hes : ij es) (hc : Clo H H.length) :
  OpV cx true (n + 2) (fun rvs=>call (.ref fD) rvs []) [.loc i,.d (.str x)] H (.d .none) (H.set l (.lst (bg (jc es x)))):=by
 rw [<- vq (o:=.lst (bg (jc es x))) (aq hl)]
 refine OpV.take (.mk fun A X ρ s rvs hr I q=>?_) (Nat.le_refl _) ((hc.app (Nat.le_refl _)).set) trivial
 exact gq T.m4 (vs:=[.loc i,.d (.str x)]) (fv:=[]) rfl (by k_upd) rfl (fun J J=>trivial) (.inr ⟨rfl,C6 T R hx hi hl hes⟩) hr I q
theorem set_set {H : Hp} {l : Nat} {o o' : O} : (H.set l o).set l o' = H.set l o':=by rw [List.set_set]
theorem ge {H : Hp} {l : Nat} {o : O} (h : l < H.length) : (H.set l o)[l]? = some o:=by rw [List.getElem?_set,if_pos rfl,if_pos h]
theorem aw {H : Hp} {l i : Nat} {o x : O} (h : H[i]? = some x) (hne : l ≠ i) : (H.set l o)[i]? = some x:=by rw [List.getElem?_set,if_neg hne]; exact h
theorem Mc {H : Hp} {i l : Nat} {xs : List D} {k : Nat} (hi : H[i]? = some (.ins k)) (hl : H[l]? = some (.lst xs)) : l ≠ i:=fun e=>by subst e; rw [hi] at hl; cases hl
theorem C8 (T : HTop cx N mN fI fC fS fD fG fK fT) (R : Regs cx) {x y : Str} (hx : x ∈ good) (hy : y ∈ good) {i l : Nat} {es : List Row} (hi : H[i]? = some (.ins l)) (hl : H[l]? = some (.lst (bg es))) (hes : ij es) (hc : Clo H H.length) :
  ∃ lo',Ex cx true (n + 2) (dc 3) (ez 3) [(S "self",.loc i),(S "name",.d (.str x)),(S "val",.d (.str y))] H (.nxt lo') (H.set l (.lst (bg (jc es x ++ [(x,y)])))):=by
 have hne:=Mc hi hl
 have hlt:=aq hl
 refine ⟨?lo,?ex⟩
 case ex =>
  apply ah
  case h1 =>
   apply H7 T
   case h1=>kd_p
   case h2=>kd_p
   case hi=>exact hi
   case hl=>exact hl
   case hB=>exact kz.2.1
   exact N3 T R hx hi hl hes hc
  apply ah
  case h1 =>
   apply c8
   case h =>
    apply ba
    case h0 =>
     apply lr T
     case h=>kd_p
     case hi=>exact aw hi hne
     case hl=>exact ge hlt
     exact fx
    case h =>
     apply af (vs:=[])
     case hp=>rfl
     case h =>
      apply bt (xs:=[.str x,.str y])
      case h =>
       apply af (vs:=[.d (.str y)])
       case hp=>rfl
       case h =>
        apply ln T
        case h0=>kd_p
        case h=>kd_p
        case hk=>kd_p
        case hi=>exact aw hi hne
        case hl=>exact ge hlt
        case hn=>exact T.n2
        case hne=>decide +kernel
        case m=>exact T.m2
        case hB=>exact kz.2.2.1
        case hp=>rfl
        case ho=>exact u0 T R hx
        rfl
       apply af (vs:=[])
       case hp=>rfl
       case h =>
        apply ln T
        case h0=>kd_p
        case h=>kd_p
        case hk=>kd_p
        case hi=>exact aw hi hne
        case hl=>exact ge hlt
        case hn=>exact T.n2
        case hne=>decide +kernel
        case m=>exact T.m2
        case hB=>exact kz.2.2.1
        case hp=>rfl
        case ho=>exact u0 T R hy
        rfl
       exact ag
      simp
     exact ag
    case ht=>exact dy (ge hlt)
    case pa=>exact PySem.F.plainAttrs_list
    case slot=>exact PySem.F.slot_list_append
    case hty=>exact PySem.F.type_list_append
    case hp=>rfl
    case hline=>rfl
    case hbase=>exact fun J=>rfl
    case hfew=>exact fun J=>rfl
    have h1:=List.length_filter_le (fun e : Row=>!(Txt.lower e.1 == Txt.lower x)) es
    have h2:=hes.2
    have:=app_lst (cx:=cx) (B:=true) (n:=n + 2) (H:=H.set l (.lst (bg (jc es x)))) (x:=k9 (x,y)) (ge hlt) (by simp only [bg,jc,List.length_map]; exact Nat.le_trans h1 (Nat.le_trans h2 (by decide)))
    rw [set_set] at this
    have e : bg (jc es x) ++ [k9 (x,y)] = bg (jc es x ++ [(x,y)]):=by simp [bg]
    rw [e] at this
    exact this
   exact fun J=>rfl
  exact bj
theorem N9 (T : HTop cx N mN fI fC fS fD fG fK fT) (R : Regs cx) {x y : Str} (hx : x ∈ good) (hy : y ∈ good) {i l : Nat} {es : List Row} (hi : H[i]? = some (.ins l)) (hl : H[l]? = some (.lst (bg es))) (hes : ij es) (hc : Clo H H.length) :
  OpV cx true (n + 3) (fun rvs=>call (.ref fS) rvs []) [.loc i,.d (.str x),.d (.str y)] H (.d .none) (H.set l (.lst (bg (jc es x ++ [(x,y)])))):=.mk fun A X ρ s rvs hr I q =>
 gq T.m3 (vs:=[.loc i,.d (.str x),.d (.str y)]) (fv:=[]) rfl (by k_upd) rfl (fun J J=>trivial) (.inr ⟨rfl,C8 T R hx hy hi hl hes hc⟩) hr I q
theorem Ga (T : HTop cx N mN fI fC fS fD fG fK fT) (R : Regs cx) {x y : Str} (hx : x ∈ good) (hy : y ∈ good) {i l : Nat} {es : List Row} (hi : H[i]? = some (.ins l)) (hl : H[l]? = some (.lst (bg es))) (hes : ij es) (hc : Clo H H.length) :
  Op cx true (n + 3) si [.d (.str y),.loc i,.d (.str x)] H (fun X ρ s J s'=>∃ ρ',Aft cx cx.tabs X ρ s (H.set l (.lst (bg (jc es x ++ [(x,y)])))) ρ' s'):=Fx T hi hl kz.1 (N9 T R hx hy hi hl hes hc)
noncomputable def vc (es : List Row) (x : Str) : D:=match es.find? fun e=>Txt.lower e.1 == Txt.lower x with
 | some e=>.str e.2
 | none=>.none
theorem D8 {x : Str} {l : Nat} {es0 : List Row} (hl : H[l]? = some (.lst (bg es0))) {tgt : Expr} {body : List Stmt} (sc : Scope) (bnd : Row -> Lo -> Lo) (has : ∀ e lo,As cx true sc tgt (.d (k9 e)) lo (bnd e lo))
  (hyes : ∀ e lo,e.1 ∈ good -> lo.lookup (S "name") = some (.d (.str (Txt.lower x))) -> (Txt.lower e.1 == Txt.lower x) = true -> Ex cx true n sc body (bnd e lo) H (.ret (.d (.str e.2))) H)
  (hno : ∀ e lo,e.1 ∈ good -> lo.lookup (S "name") = some (.d (.str (Txt.lower x))) -> (Txt.lower e.1 == Txt.lower x) = false -> Ex cx true n sc body (bnd e lo) H (.nxt (bnd e lo)) H)
  (hb : ∀ e lo,(bnd e lo).lookup (S "name") = lo.lookup (S "name") /\ (bnd e lo).lookup (S "default") = lo.lookup (S "default")) :
  ∀ (es : List Row) (lo : Lo),(∀ e ∈ es,e.1 ∈ good) -> lo.lookup (S "name") = some (.d (.str (Txt.lower x))) -> lo.lookup (S "default") = some (.d .none) ->
   (∃ e,es.find? (fun e=>Txt.lower e.1 == Txt.lower x) = some e /\ Fo cx true n sc tgt body (fun H=>H[l]? = some (.lst (bg es0))) ((bg es).map .d) lo H (.ret (.d (.str e.2))) H) \/
   (es.find? (fun e=>Txt.lower e.1 == Txt.lower x) = none /\ ∃ lo',lo'.lookup (S "default") = some (.d .none) /\ Fo cx true n sc tgt body (fun H=>H[l]? = some (.lst (bg es0))) ((bg es).map .d) lo H (.nxt lo') H)
 | [],lo,_,_,hd=>.inr ⟨rfl,lo,hd,.nil hl⟩
 | e :: es,lo,hg,hn,hd=>by
  rw [List.find?_cons]
  cases c : Txt.lower e.1 == Txt.lower x with
  | true=>exact .inl ⟨e,rfl,.ret hl (has e lo) (hyes e lo (hg e (.head _)) hn c)⟩
  | false =>
   have ih:=D8 hl sc bnd has hyes hno hb es (bnd e lo) (fun e m=>hg e (.tail _ m)) ((hb e lo).1.trans hn) ((hb e lo).2.trans hd)
   have st:=hno e lo (hg e (.head _)) hn c
   rcases ih with ⟨e',h1,h2⟩ | ⟨h1,lo',h2,h3⟩
   ·exact .inl ⟨e',h1,.step hl (has e lo) st .refl h2⟩
   ·exact .inr ⟨h1,lo',h2,.step hl (has e lo) st .refl h3⟩
theorem C7 (T : HTop cx N mN fI fC fS fD fG fK fT) (R : Regs cx) {x : Str} (hx : x ∈ good) {i l : Nat} {es : List Row} (hi : H[i]? = some (.ins l)) (hl : H[l]? = some (.lst (bg es))) (hes : ij es) :
  Ex cx true (n + 1) (dc 8) (ez 8) [(S "self",.loc i),(S "name",.d (.str x)),(S "default",.d .none)] H (.ret (.d (vc es x))) H:=by
 apply ah
 case h1 =>
  apply ai
  case h =>
   apply ln T
   case h0=>kd_p
   case h =>
    apply ba
    case h0=>kd_p
    case h=>kd_p1
    case ht=>exact d9
    case pa=>exact PySem.F.plainAttrs_str
    case slot=>exact PySem.F.slot_str_lower
    case hty=>exact PySem.F.type_str_lower
    case hp=>rfl
    case hline=>rfl
    case hbase=>exact fun J=>rfl
    case hfew=>exact fun J=>rfl
    exact gx (ev hx).1
   case hk=>kd_p
   case hi=>exact hi
   case hl=>exact hl
   case hn=>exact T.n2
   case hne=>decide +kernel
   case m=>exact T.m2
   case hB=>exact kz.2.2.1
   case hp=>rfl
   case ho=>exact u0 T R (ev hx).2
   rfl
  case hk=>exact .inl (by k_upd)
  exact fun J J=>rfl
 case h2 =>
  have W:=D8 (cx:=cx) (n:=n + 1) (x:=x) hl (dc 8) (fun e lo=>(S "v",.d (.str e.2)) :: (S "k",.d (.str e.1)) :: lo) (tgt:=match ez 8 with | [_,.For t _ _ _ _,_]=>t | _=>.Name (S "") ⟨0,0,0,0⟩) (body:=match ez 8 with | [_,.For _ _ b _ _,_]=>b | _=>[])
   (fun e lo=>eu (.cons (by k_upd) (.cons (by k_upd) .nil)))
   (fun e lo hg hn hc=>by
    apply bb
    apply bp (c:=true)
    case h =>
     apply am
     case h1 =>
      apply ba
      case h0=>kd_p
      case h=>kd_p1
      case ht=>exact d9
      case pa=>exact PySem.F.plainAttrs_str
      case slot=>exact PySem.F.slot_str_lower
      case hty=>exact PySem.F.type_str_lower
      case hp=>rfl
      case hline=>rfl
      case hbase=>exact fun J=>rfl
      case hfew=>exact fun J=>rfl
      exact gx (ev hg).1
     case h2 =>
      apply br
      case hx=>exact de (by k_upd) (de (by k_upd) hn)
      k_upd
     case ho=>rw [<- hc,<- y8]; exact r7
     rfl
    rw [if_pos rfl]
    apply bb
    apply az
    kd_p)
   (fun e lo hg hn hc=>by
    apply ah
    case h2=>exact bj
    apply bp (c:=false)
    case h =>
     apply am
     case h1 =>
      apply ba
      case h0=>kd_p
      case h=>kd_p1
      case ht=>exact d9
      case pa=>exact PySem.F.plainAttrs_str
      case slot=>exact PySem.F.slot_str_lower
      case hty=>exact PySem.F.type_str_lower
      case hp=>rfl
      case hline=>rfl
      case hbase=>exact fun J=>rfl
      case hfew=>exact fun J=>rfl
      exact gx (ev hg).1
     case h2 =>
      apply br
      case hx=>exact de (by k_upd) (de (by k_upd) hn)
      k_upd
     case ho=>rw [<- hc,<- y8]; exact r7
     rfl
    rw [if_neg (by decide)]
    exact bj)
   (fun e lo=>⟨by rw [List.lookup_cons,show (S "name" == S "v") = false by decide +kernel,List.lookup_cons,show (S "name" == S "k") = false by decide +kernel],by rw [List.lookup_cons,show (S "default" == S "v") = false by decide +kernel,List.lookup_cons,show (S "default" == S "k") = false by decide +kernel]⟩)
   es [(S "name",.d (.str (Txt.lower x))),(S "self",.loc i),(S "name",.d (.str x)),(S "default",.d .none)] (fun e he=>(hes.1 e he).1) (by k_upd) (by k_upd)
  have hit : jx cx true (n + 1) (dc 8) (match ez 8 with | [_,.For _ e _ _ _,_]=>e | _=>.Name (S "") ⟨0,0,0,0⟩) (match ez 8 with | [_,.For t _ _ _ _,_]=>t | _=>.Name (S "") ⟨0,0,0,0⟩) [(S "name",.d (.str (Txt.lower x))),(S "self",.loc i),(S "name",.d (.str x)),(S "default",.d .none)] H ((bg es).map .d) (fun H=>H[l]? = some (.lst (bg es))) H:=by
   apply qz
   case h =>
    apply lr T
    case h=>kd_p
    case hi=>exact hi
    case hl=>exact hl
    exact fx
   case hi=>exact hl
   first | exact ik | exact ld | exact fun J J=>rfl
  unfold vc
  rcases W with ⟨e,h1,W⟩ | ⟨h1,lo',h2,W⟩
  ·rw [h1]
   exact bb (dp hit W (fun J J=>rfl))
  ·rw [h1]
   apply ah (dp hit W (fun J J=>rfl))
   apply bb
   apply az
   apply br
   case hx=>exact h2
   k_upd
theorem Kk (T : HTop cx N mN fI fC fS fD fG fK fT) (R : Regs cx) {x : Str} (hx : x ∈ good) {i l : Nat} {es : List Row} (hi : H[i]? = some (.ins l)) (hl : H[l]? = some (.lst (bg es))) (hes : ij es) :
  OpV cx true (n + 2) (fun rvs=>call (.ref fG) rvs []) [.loc i,.d (.str x)] H (.d (vc es x)) H:=.mk fun A X ρ s rvs hr I q =>
 gq T.m5 (vs:=[.loc i,.d (.str x)]) (fv:=[.d .none]) rfl (by k_upd) rfl (fun J J=>⟨.none,trivial⟩) (.inl (C7 T R hx hi hl hes)) hr I q
theorem A6 (T : HTop cx N mN fI fC fS fD fG fK fT) {i l : Nat} {es : List Row} (hi : H[i]? = some (.ins l)) (hl : H[l]? = some (.lst (bg es))) (hes : ij es) :
  Ex cx true n (dc 9) (ez 9) [(S "self",.loc i)] H (.ret (.loc H.length)) (H ++ [O.lst (es.map fun e=>.str e.1)]):=by
 apply bb
 apply az
 apply cf
 case S=>exact ⟨by decide +kernel,rfl,by decide +kernel⟩
 case hfi=>exact ct (by k_upd)
 case hit =>
  apply qz
  case h =>
   apply lr T
   case h=>kd_p
   case hi=>exact hi
   case hl=>exact hl
   exact fx
  case hi=>exact hl
  first | exact ik | exact ld | exact fun J J=>rfl
 case W =>
  apply ja (lo':=[])
  case h=>k_upd
  apply jz (f:=k9) (g:=fun e=>.str e.1) (bnd:=fun e=>[(S "v",.d (.str e.2)),(S "k",.d (.str e.1))])
  case hC=>exact fun ys=>au hl
  case has=>exact fun e=>eu (.cons (by k_upd) (.cons (by k_upd) .nil))
  case hw=>exact fun e y v h=>nomatch h
  case hv=>intro e he ys; kd_p
  have:=hes.2; exact Nat.le_trans this (by decide)
 case hfs=>exact fun J J=>rfl
theorem Da (T : HTop cx N mN fI fC fS fD fG fK fT) {i l : Nat} {es : List Row} (hi : H[i]? = some (.ins l)) (hl : H[l]? = some (.lst (bg es))) (hes : ij es) :
  OpV cx true (n + 1) (fun rvs=>call (.ref fK) rvs []) [.loc i] H (.loc H.length) (H ++ [O.lst (es.map fun e=>.str e.1)]):=.mk fun A X ρ s rvs hr I q =>
 gq T.m6 (vs:=[.loc i]) (fv:=[]) rfl (by k_upd) rfl (fun J J=>trivial) (.inl (A6 T hi hl hes)) hr I q
theorem B8 {α : Type} (xs : List α) : jj xs none none = xs:=by
 unfold jj
 simp
theorem yg (T : HTop cx N mN fI fC fS fD fG fK fT) {i l : Nat} {es : List Row} (hi : H[i]? = some (.ins l)) (hl : H[l]? = some (.lst (bg es))) (hes : ij es) :
  Ex cx b n (dc 11) (ez 11) [(S "self",.loc i)] H (.ret (.loc H.length)) (H ++ [O.lst (bg es)]):=by
 apply bb
 apply az
 apply dh
 case h1 =>
  apply lr T
  case h=>kd_p
  case hi=>exact hi
  case hl=>exact hl
  exact fx
 case h2=>exact di
 case h3=>exact di
 case ht=>exact bq (.loc hl)
 case ho =>
  have:=Ap (cx:=cx) (B:=b) (n:=n) (lw:=none) (hi:=none) (Ls.loc hl) (by have:=hes.2; simp [bg]; exact Nat.le_trans this (by decide))
  rw [B8] at this
  exact this
theorem Hq (T : HTop cx N mN fI fC fS fD fG fK fT) {i l : Nat} {es : List Row} (hi : H[i]? = some (.ins l)) (hl : H[l]? = some (.lst (bg es))) (hes : ij es) :
  OpV cx b (n + 1) (fun rvs=>call (.ref fT) rvs []) [.loc i] H (.loc H.length) (H ++ [O.lst (bg es)]):=.mk fun A X ρ s rvs hr I q =>
 gq T.m7 (vs:=[.loc i]) (fv:=[]) rfl (by k_upd) rfl (fun J J=>trivial) (.inl (yg T hi hl hes)) hr I q
section hid
variable {ρ : Rh} {X Y E : List Addr} {h h' : Heap} {x : Addr}
noncomputable abbrev Cc (Y : List Addr) (h h' : Heap) : Prop:=∀ c o,c ∉ Y -> h.get? c = some o -> h'.get? c = some o
theorem vw (hs : Cc Y h h') (hY : ∀ a ∈ Y,a ∈ X) : Sub (zH h ρ X) (zH h' ρ X):=nu (fun c o e J h2=>hs c o (fun q=>h2 (hY c q)) e) fun J J J q=>q
theorem Inv.hid (I : Inv cx ρ H X h) (hs : Cc Y h h') (hY : ∀ a ∈ Y,a ∈ X) (ht : ∀ a ∈ Y,a ∉ cx.tabs) (he : ∀ a ∈ Y,∃ o,h'.get? a = some o) : Inv cx ρ H X h':=by
 have hz : Sub (zH h ρ X) (zH h' ρ X):=vw hs hY
 have hzT : Sub (zT cx h ρ X) (zT cx h' ρ X):=vw hs fun a ha=>jp.mpr ⟨hY a ha,ht a ha⟩
 have hl : ∀ c o,c ∈ dk ρ -> h.get? c = some o -> h'.get? c = some o:=fun c o hc e=>hs c o (fun q=>I.dx c hc (hY c q)) e
 refine ⟨cx.gmono _ _ hz I.g,I.tb.imp fun J=>cx.tmono _ _ _ hzT,I.len,I.nd,fun c hc=>?_,I.dx,fun c hc=>?_,I.xt,fun j ob e=>?_⟩
 ·obtain ⟨o',e⟩:=I.ex c hc; exact ⟨o',hl c o' hc e⟩
 ·by_cases q : c ∈ Y
  ·exact he c q
  ·obtain ⟨o',e⟩:=I.xe c hc; exact ⟨o',hs c o' q e⟩
 ·exact (I.ob j ob e).move hz hzT rfl (fun c o e1 e2=>hl c o (b9 e1) e2) (Nat.le_refl _) fun J J J e=>e
theorem Ext.hid (hs : Cc Y h h') (hY : ∀ a ∈ Y,a ∈ E) (he : ∀ a ∈ Y,∃ o,h'.get? a = some o) : Ext E ρ h ρ h' :=
 ⟨Nat.le_refl _,fun J J J e=>e,fun c o e J h2=>hs c o (fun q=>h2 (hY c q)) e,fun c o e=>by
  by_cases q : c ∈ Y
  ·exact he c q
  ·exact ⟨o,hs c o q e⟩,fun J h1 h2=>absurd h1 h2⟩
theorem FrOk.hid {env : Env} {lo : Lo} (F : FrOk cx env lo ρ X h) (hs : Cc Y h h') (hY : ∀ a ∈ Y,a ∈ X) (hn : ∀ a ∈ Y,a ∉ own env) : FrOk cx env lo ρ X h':=by
 exact F.chgL F.lx (fun y c e=>(F.ce y c e).1) (fun c o q e=>hs c o (fun z=>hn c z (fe.mpr q)) e) fun J J=>VOk.move (vw hs hY) (Nat.le_refl _) fun J J J e=>e
theorem i5 : Sub (zH h ρ (x :: X)) (zH h (ρ ++ [some x]) X):=fun b o e=>by
 obtain ⟨e,h1,h2⟩:=ax.mp e
 refine ax.mpr ⟨e,fun q=>?_,fun q=>h2 (.tail _ q)⟩
 rcases gf.mp q with q | q
 ·exact h1 q
 ·exact h2 (q ▸ .head _)
theorem Inv.bear (I : Inv cx ρ H (x :: X) h) (hx : x ∉ X) (ht : x ∉ cx.tabs) (ob : O) (hob : ObOk cx h (ρ ++ [some x]) X ρ.length ob) : Inv cx (ρ ++ [some x]) (H ++ [ob]) X h:=by
 have hzT : Sub (zT cx h ρ (x :: X)) (zT cx h (ρ ++ [some x]) X):=by
  unfold zT
  rw [List.filter_cons,show cx.tabs.contains x = false by
   cases q : cx.tabs.contains x
   ·rfl
   ·exact absurd (List.contains_iff_mem.mp q) ht]
  exact i5
 have hnl : x ∉ dk ρ:=fun q=>I.dx x q (.head _)
 refine ⟨cx.gmono _ _ i5 I.g,I.tb.imp fun J=>cx.tmono _ _ _ hzT,by simp [I.len],fun i j a e1 e2=>?_,fun a ha=>?_,fun a ha hX=>?_,fun a ha=>I.xe a (.tail _ ha),fun a ha=>?_,fun i o' e=>?_⟩
 ·rw [List.getElem?_append] at e1 e2
  split at e1 <;> split at e2
  ·exact I.nd i j a e1 e2
  ·have:=aq e2
   simp at this
   have ha : a = x:=by rw [show j - ρ.length = 0 by exact this] at e2; simpa using e2.symm
   exact absurd (b9 (ha ▸ e1)) hnl
  ·have:=aq e1
   simp at this
   have ha : a = x:=by rw [show i - ρ.length = 0 by exact this] at e1; simpa using e1.symm
   exact absurd (b9 (ha ▸ e2)) hnl
  ·have:=aq e1
   have:=aq e2
   simp at *
   omega
 ·rcases gf.mp ha with ha | ha
  ·exact I.ex a ha
  ·exact ha ▸ I.xe x (.head _)
 ·rcases gf.mp ha with ha | ha
  ·exact I.dx a ha (.tail _ hX)
  ·exact hx (ha ▸ hX)
 ·rcases List.mem_cons.mp (I.xt a ha) with h | h
  ·exact absurd (h ▸ ha) ht
  ·exact h
 ·by_cases hi : i < H.length
  ·rw [List.getElem?_append_left hi] at e
   exact (I.ob i o' e) |> fun q=>by
    have hk : (ρ ++ [some x])[i]? = ρ[i]?:=by rw [List.getElem?_append_left (by rw [I.len]; exact hi)]
    cases o' with
    | lst xs=>obtain ⟨a,vs,e,l,r⟩:=q; exact ⟨a,vs,hk.trans e,l,r.sub i5⟩
    | lsl ls=>obtain ⟨a,vs,e,l,r⟩:=q; exact ⟨a,vs,hk.trans e,l,r.move i5 (by simp) m8⟩
    | dct es=>obtain ⟨a,vs,e,l,r⟩:=q; exact ⟨a,vs,hk.trans e,l,r.sub i5⟩
    | ins l=>obtain ⟨a,rv,e,x',r⟩:=q; exact ⟨a,rv,hk.trans e,cx.imono _ _ _ _ _ _ i5 (fun J e=>e) x',r.move i5 (by simp) m8⟩
    | dead=>exact hk.trans q
  ·have hl:=aq e
   simp at hl
   have hi' : i = H.length:=by omega
   subst hi'
   have : o' = ob:=by simpa using e.symm
   subst this
   rw [<- I.len]; exact hob
theorem Ext.bear {ρ₀ : Rh} {h₀ : Heap} (e : Ext E ρ₀ h₀ ρ h) (hx : h₀.get? x = none) : Ext E ρ₀ h₀ (ρ ++ [some x]) h :=
 ⟨by have:=e.len; simp; exact Nat.le_succ_of_le this,fun k a hk q=>e.idx k a hk (by rwa [List.getElem?_append_left (Nat.lt_of_lt_of_le hk e.len)] at q),e.pres,e.stay,fun b h1 h2=>by
  rcases gf.mp h1 with h | h
  ·exact e.new b h h2
  ·exact h ▸ hx⟩
end hid
theorem L9 {v : V} : Ex1 cx b n (dc 0) (nth 0 (ez 0)) [(S "self",v),(S "headers",.d .none)] H (.nxt [(S "headers",.loc H.length),(S "self",v),(S "headers",.d .none)]) (H ++ [.lst []]):=by
 apply ai
 case h =>
  apply jm (c:=false)
  case h =>
   apply am
   case h1=>kd_p
   case h2=>kd_p
   case ho=>exact dl
   rfl
  rw [if_neg (by decide)]
  apply fh (xs:=[])
  case h=>exact ag
  decide
 case hk=>exact .inl (by k_upd)
 exact fun J J=>rfl
theorem Ma (T : HTop cx N mN fI fC fS fD fG fK fT) {v : V} : Ex1 cx b n (dc 0) (nth 1 (ez 0)) [(S "headers",.loc H.length),(S "self",v),(S "headers",.d .none)] (H ++ [.lst []]) (.nxt [(S "headers",.loc H.length),(S "self",v),(S "headers",.d .none)]) (H ++ [.lst []]):=by
 apply bp (c:=false)
 case h =>
  apply am
  case h1 =>
   apply qp
   case hx=>k_upd
   case hg=>exact T.g1
   case hd=>k_upd
   case hp=>k_upd
   case h=>kd_p1
   exact xl ay
  case h2 =>
   apply po
   case hx=>k_upd
   case hg=>exact T.g3
   k_upd
  case ho=>exact xj rfl
  rfl
 rw [if_neg (by decide)]
 exact bj
theorem Mb {k : Nat} {v : V} (hk : H[k]? = some (.lst [])) : Ex cx true n (dc 0) [nth 3 (ez 0)] [(S "headers",.loc k),(S "self",v),(S "headers",.d .none)] H (.nxt [(S "headers",.loc k),(S "self",v),(S "headers",.d .none)]) H:=by
 apply ah
 case h2=>exact bj
 apply bp (c:=true)
 case h =>
  apply dw
  case hp=>exact fun J J=>rfl
  case h=>exact z2
  exact fa
 rw [if_pos rfl]
 apply ah
 case h2=>exact bj
 apply dp
 case hit =>
  apply qz
  case h=>kd_p
  case hi=>exact hk
  first | exact ik | exact ld | exact fun J J=>rfl
 case W=>exact .nil hk
 exact fun J J=>rfl
theorem Nz : ez 0 = [nth 0 (ez 0),nth 1 (ez 0),.Assign [.Attribute (.Name (S "self") ⟨121,8,121,12⟩) (S "_headers") ⟨121,8,121,21⟩] (.Name (S "headers") ⟨121,24,121,31⟩) ⟨121,8,121,31⟩,nth 3 (ez 0)]:=rfl
section half
variable {h h' : Heap} {x dx : Addr} {mA : Str -> Option Value}
structure Half (h : Heap) (x dx : Addr) (mA : Str -> Option Value) : Prop where
 ex : ∃ o,h.get? x = some o /\ o.cls = .ref 241 /\ (∀ c,o.data ≠ .cls c) /\ o.dict = some dx
 ns : h.Ns1 dx mA
theorem Half.keep (P : Half h x dx mA) (k1 : ∀ o,h.get? x = some o -> h'.get? x = some o) (k2 : ∀ o,h.get? dx = some o -> h'.get? dx = some o) : Half h' x dx mA:=⟨P.ex.imp fun J q=>⟨k1 _ q.1,q.2⟩,P.ns.at k2⟩
theorem Half.inst (P : Half h x dx mA) (hne : dx ≠ x) : h.Inst x 241 mA:=P.ex.imp fun J q=>⟨q.1,q.2.1,q.2.2.1,.inr ⟨dx,q.2.2.2,hne,P.ns⟩⟩
theorem Half.of_inst (q : h.Inst x 241 mA) (hd : ∀ o,h.get? x = some o -> o.dict = some dx) : Half h x dx mA /\ dx ≠ x:=by
 obtain ⟨o,h1,h2,h3,h4⟩:=q
 have e:=hd o h1
 rcases h4 with ⟨h4,_⟩ | ⟨d,h4,h5,h6⟩
 ·rw [h4] at e; cases e
 ·rw [h4] at e; cases e; exact ⟨⟨⟨o,h1,h2,h3,h4⟩,h6⟩,h5⟩
theorem Half.put {name : Str} {v : Value} (P : Half h x dx mA) (q : Put h h' x name v mA) : Half h' x dx fun y=>if y = name then some v else mA y :=
 (Half.of_inst q.ins fun o e=>P.ex.elim fun J p=>(q.same _ p.1).elim fun J r=>by
  have:=r.1; rw [e] at this; cases this; exact r.2.2.2 _ p.2.2.2).1
theorem Half.but {name : Str} {v : Value} {Y : List Addr} (P : Half h x dx mA) (q : Put h h' x name v mA) (h1 : x ∈ Y) (h2 : dx ∈ Y) : Cc Y h h':=fun c o hc e=>q.keep c o (fun z=>hc (z ▸ h1)) (fun o' d e1 e2 z=>P.ex.elim fun J p=>by
 have:=p.1; rw [e1] at this; cases this; have:=p.2.2.2; rw [e2] at this; cases this; exact hc (z ▸ h2)) e
theorem Half.ok {z : Heap} {rv : Value} (P : Half h x dx mA) (hne : dx ≠ x) (k : ∀ o,h.get? dx = some o -> z.get? dx = some o) (e : mA (S "_headers") = some rv) (e2 : ∀ y,y ≠ S "_headers" -> mA y = none) : InsOk h z x rv :=
 P.ex.imp fun J q=>⟨dx,q.1,q.2.1,q.2.2.1,q.2.2.2,hne,.inr ⟨mA,P.ns.at k,e,e2⟩⟩
theorem Ns1.ex {h : Heap} {d : Addr} {m : Str -> Option Value} (q : h.Ns1 d m) : ∃ o,h.get? d = some o:=q.imp fun J q=>q.elim fun J q=>q.elim fun J q=>q.1
end half
theorem Mw {A : Around} (hr : Rm true (n + 3) A) : Rm true (n + 2) (A.under (.builtin "type.__call__" { pos:=[.ref 241] })):=⟨hr.1,by
  have h1 : (A.under (.builtin "type.__call__" ⟨[.ref 241],[]⟩)).depth = A.depth + 1:=rfl
  have:=hr.2.1; omega,by
  have h1 : (A.under (.builtin "type.__call__" ⟨[.ref 241],[]⟩)).units <= A.units + 40:=Nat.add_le_add_left (by decide +kernel) _
  have:=hr.2.2; omega⟩
theorem N8 (T : HTop cx N mN fI fC fS fD fG fK fT) : OpV cx true (n + 3) (fun rvs=>call (.ref 241) rvs []) [] H (.loc (H.length + 1)) (H ++ [O.lst [],.ins H.length]):=.mk fun A X ρ s rvs hr I q=>by
 have h0 : rvs = []:=by cases rvs with | nil=>rfl | cons=>exact q.elim
 subst h0
 have hcls:=T.cls _ I.gh
 obtain ⟨of,hof,hfc⟩:=T.m1.fn _ I.gh
 refine Ou hcls T.n1 hof hfc fun h' x dx Mk=>?_
 refine al fun Gq kq=>?_
 obtain ⟨P0,hne⟩:=Half.of_inst Mk.inst Mk.dict
 obtain ⟨fd,hf,S0,hsc,hbind⟩:=T.m1.ex
 obtain ⟨Y,hYx,hYd,hYc⟩ : ∃ Y : List Addr,x ∈ Y /\ dx ∈ Y /\ ∀ a ∈ Y,a = x \/ a = dx:=⟨[x,dx],.head _,.tail _ (.head _),fun a h=>(List.mem_cons.mp h).imp id List.mem_singleton.mp⟩
 refine kq ?_
 have hnone : ∀ a ∈ Y,s.heap.get? a = none:=fun a ha=>(hYc a ha).elim (fun e=>e ▸ Mk.newX) fun e=>e ▸ Mk.newD
 have hexs : ∀ {h m},Half h x dx m -> ∀ a ∈ Y,∃ o,h.get? a = some o:=fun P a ha=>(hYc a ha).elim (fun e=>e ▸ P.ex.imp fun J q=>q.1) fun e=>e ▸ Ns1.ex P.ns
 have I1 : Inv cx ρ H (Y ++ X) h':=I.hideN Mk.keeps hnone (hexs P0)
 have hNX : ∀ a ∈ Y,a ∉ X:=fun a ha hX=>(I.xe a hX).elim fun o e=>by rw [hnone a ha] at e; cases e
 have hNt : ∀ a ∈ Y,a ∉ cx.tabs:=fun a ha ht=>hNX a ha (I.xt a ht)
 refine kh (cx:=cx) (b:=true) (n:=n + 1) (args:=⟨[.ref x],[]⟩) (vs:=[.raw (.ref x),.d .none]) (rvs:=[.ref x,.none]) (s:={ s with heap:=h' }) hf S0 (hbind _ [.ref x] I1.gh rfl) rfl (by rw [hsc]; exact fi (by k_upd)) (Mw hr) I1 ⟨rfl,.none,trivial⟩ fun env s₁ A' Q' Z hQ=>?_
 rw [Nz]
 have henv : env.scope = dc 0:=Z.sc.trans hsc
 refine wpAny_execs_cons (L9.runN henv Z.rm Z.inv Z.fr fun ρa sa aa Fa=>?_)
 refine wpAny_execs_cons ((Ma T).runN henv Z.rm aa.inv Fa fun ρb sb ab Fb=>?_)
 have a02:=aa.trans ab
 have hYX : ∀ a ∈ Y,a ∈ own env ++ (Y ++ X):=fun a ha=>List.mem_append.mpr (.inr (List.mem_append.mpr (.inl ha)))
 have hYo : ∀ a ∈ Y,a ∉ own env:=fun a ha ho=>(hexs P0 a ha).elim fun o e=>by
  have e0 : h'.get? a = none:=Z.fresh a ho
  rw [e0] at e; cases e
 have hYE : ∀ a ∈ Y,a ∉ fE cx env:=fun a ha hE=>(List.mem_append.mp hE).elim (fun h=>hYo a ha (sq a h)) (hNt a ha)
 have hYl : ∀ {ρ h H},Inv cx ρ H (own env ++ (Y ++ X)) h -> ∀ a ∈ Y,a ∉ dk ρ:=fun I a ha hl=>I.dx a hl (hYX a ha)
 refine wpAny_execs_cons (plainObj_wpAny_Assign_Attribute ?_)
 refine (br (cx:=cx) (b:=true) (n:=n + 1) (x:=S "headers") (lo:=[(S "headers",.loc H.length),(S "self",.raw (.ref x)),(S "headers",.d .none)]) ky (by k_upd)).run henv Z.rm ab.inv Fb fun ρc rv sc ac qc=>?_
 refine (br (cx:=cx) (b:=true) (n:=n + 1) (x:=S "self") (lo:=[(S "headers",.loc H.length),(S "self",.raw (.ref x)),(S "headers",.d .none)]) (de (by k_upd) ky) (by k_upd)).run henv Z.rm ac.inv (ac.fr ab.inv Fb) fun ρd rx sd ad qd=>?_
 obtain rfl : rx = .ref x:=qd
 have a24:=ac.trans ad
 have a04:=a02.trans (a24.mono (tE (env:=env)))
 have Fd:=a24.fr ab.inv Fb
 obtain ⟨lh,vs,elh,_⟩:=ad.inv.ob _ _ ay
 obtain rfl:=(ad.v qc).2 lh elh
 have hkd : ∀ a ∈ Y,∀ o,h'.get? a = some o -> sd.heap.get? a = some o:=fun a ha o e=>a04.ext.pres a o (Z.keep a o e) (hYl Z.inv a ha) (hYE a ha)
 have P1:=P0.keep (hkd x hYx) (hkd dx hYd)
 refine J4 (T.cls _ ad.inv.gh) T.q3 T.q4 fx (fun e=>?_) (P1.inst hne) fun h5 tk5 Pu=>?_
 ·obtain ⟨nm,q,bs,sn,sub,col,dd,k0,k1,k2,k3,k5,e'⟩:=hcls.obj
  rw [<- e,Mk.newX] at e'; cases e'
 have P2:=P1.put Pu
 have hb5:=P1.but Pu hYx hYd
 have hex5:=hexs P2
 have I5:=ad.inv.hid hb5 hYX hNt hex5
 refine (Mb (cx:=cx) (n:=n + 1) (v:=.raw (.ref x)) ay).runN henv Z.rm I5 (Fd.hid hb5 hYX hYo) fun ρe se ae Fe=>?_
 have hke : ∀ a ∈ Y,∀ o,h5.get? a = some o -> se.heap.get? a = some o:=fun a ha o e=>ae.ext.pres a o e (hYl I5 a ha) (hYE a ha)
 have P3:=P2.keep (hke x hYx) (hke dx hYd)
 have mid : Aft cx (Y ++ fE cx env) (own env ++ (Y ++ X)) ρ s₁ (H ++ [.lst []]) ρe se :=
  ⟨a04.fin.trans (Fin.trans ⟨_,_,rfl⟩ ae.fin),ae.inv,(a04.ext.mono fun a ha=>List.mem_append.mpr (.inr ha)).trans ((Ext.hid (ρ:=ρd) hb5 (fun a ha=>List.mem_append.mpr (.inl ha)) hex5).trans (ae.ext.mono fun a ha=>List.mem_append.mpr (.inr ha)))⟩
 have out:=Z.back (Y:=Y) (fun a ha=>List.mem_append.mpr (.inr (I.xt a ha))) mid
 refine hQ .next _ ⟨rfl,ρe ++ [some x],⟨Fin.trans ⟨h',s.toks,rfl⟩ out.fin,?_,?_⟩,?_⟩
 ·have Ix : Inv cx ρe (H ++ [.lst []]) (x :: X) se.heap:=out.inv.show_ (fun a ha=>by
   rcases List.mem_cons.mp ha with h | h
   ·exact List.mem_append.mpr (.inl (h ▸ hYx))
   ·exact List.mem_append.mpr (.inr h)) fun a ha=>.tail _ (I.xt a ha)
  have:=Ix.bear (hNX x hYx) (hNt x hYx) (.ins H.length) (by
   refine ⟨x,.ref lh,by rw [List.getElem?_append_right (Nat.le_refl _),Nat.sub_self]; rfl,?_,?_⟩
   ·rw [T.ins]
    refine P3.ok hne (fun o e=>ax.mpr ⟨e,fun q=>?_,hNX dx hYd⟩) (if_pos rfl) fun y hy=>if_neg hy
    rcases gf.mp q with q | q
    ·exact out.inv.dx dx q (List.mem_append.mpr (.inl hYd))
    ·exact hne q
   ·have hl : H.length < ρe.length:=by rw [out.inv.len,List.length_append]; exact Nat.lt_succ_self _
    refine ⟨by rw [List.length_append]; exact Nat.lt_succ_of_lt hl,fun a e=>?_⟩
    rw [List.getElem?_append_left hl] at e
    have e1:=ae.ext.idx H.length a (by rw [I5.len,List.length_append]; exact Nat.lt_succ_self _) e
    rw [elh] at e1; cases e1; rfl)
  rw [List.append_assoc] at this
  exact this
 ·have e1 : Ext (x :: dx :: cx.tabs) ρ s.heap ρe se.heap:=((Ext.grow Mk.keeps).trans out.ext).mono fun a ha=>(List.mem_append.mp ha).elim (fun h=>(hYc a h).elim (fun e=>e ▸ .head _) fun e=>e ▸ .tail _ (.head _)) fun h=>.tail _ (.tail _ h)
  exact ((e1.shrink Mk.newX).shrink Mk.newD).bear Mk.newX
 ·have hl : ρe.length = H.length + 1:=by rw [out.inv.len,List.length_append]; rfl
  refine ⟨by rw [List.length_append,hl]; exact Nat.lt_succ_self _,fun a e=>?_⟩
  rw [<- hl,List.getElem?_append_right (Nat.le_refl _),Nat.sub_self] at e
  cases e; rfl
end
section
variable {cx : Cx} {B : Bool} {n : Nat} {H : Hp}
section
variable {a b : Int}
theorem sm (h0 : 0 <= b) : OpV cx B n (bin .RShift) [.d (.int a),.d (.int b)] H (.d (.int (a.fdiv (2 ^ b.toNat)))) H:=.mk fun A X ρ s rvs J I q=>by
 obtain ⟨u,v,rfl,q1,q2⟩:=two q; obtain ⟨t,rfl⟩:=c9 q1; obtain ⟨t',rfl⟩:=c9 q2
 exact rshift_int h0 (dm I _ (.int _ _))
theorem sj (h0 : 0 <= b) (hsz : (Builtin.Int.intBits a : Int) + b <= 2 ^ 27) : OpV cx B n (bin .LShift) [.d (.int a),.d (.int b)] H (.d (.int (a * 2 ^ b.toNat))) H:=.mk fun A X ρ s rvs J I q=>by
 obtain ⟨u,v,rfl,q1,q2⟩:=two q; obtain ⟨t,rfl⟩:=c9 q1; obtain ⟨t',rfl⟩:=c9 q2
 exact lshift_int h0 hsz (dm I _ (.int _ _))
theorem Oy : OpV cx B n (bin .BitXor) [.d (.int a),.d (.int b)] H (.d (.int (Builtin.bitXor a b))) H:=.mk fun A X ρ s rvs J I q=>by
 obtain ⟨u,v,rfl,q1,q2⟩:=two q; obtain ⟨t,rfl⟩:=c9 q1; obtain ⟨t',rfl⟩:=c9 q2
 exact xor_int (dm I _ (.int _ _))
theorem sh : OpV cx B n (un .Invert) [.d (.int a)] H (.d (.int (Builtin.bitNot a))) H:=.mk fun A X ρ s rvs J I q=>by
 obtain ⟨u,rfl,q1⟩:=one q; obtain ⟨t,rfl⟩:=c9 q1
 exact invert_int (dm I _ (.int _ _))
theorem ry : OpV cx B n (fun rvs=>call (.builtin "int.bit_length") rvs []) [.d (.int a)] H (.d (.int (Builtin.Int.intBits a))) H:=.mk fun A X ρ s rvs J I q=>by
 obtain ⟨u,rfl,q1⟩:=one q; obtain ⟨t,rfl⟩:=c9 q1
 exact call_int_bit_length (dm I _ (.int _ _))
theorem Fm (h0 : b ≠ 0) (hp : Builtin.divisionGoesByPylong a b = false) : OpV cx B n (fun rvs=>call (.builtin "divmod") rvs []) [.d (.int a),.d (.int b)] H (.d (.tuple [.int (a.fdiv b),.int (a.fmod b)])) H:=.mk fun A X ρ s rvs J I q=>by
 obtain ⟨u,v,rfl,q1,q2⟩:=two q; obtain ⟨t,rfl⟩:=c9 q1; obtain ⟨t',rfl⟩:=c9 q2
 refine divmod_int h0 ?_ (.inl hp)
 exact wv (vs:=#[.int (a.fdiv b) s.toks,.int (a.fmod b) (s.toks + 1)]) I (.cons (.int _ _) (.cons (.int _ _) .nil)) (s.toks + 1 + 1)
end
theorem DRs.reverse {P : PW} {z : Heap} : ∀ {vs xs},DRs P z vs xs -> DRs P z vs.reverse xs.reverse
 | _,_,.nil=>.nil
 | _,_,.cons h r=>by
  rw [List.reverse_cons,List.reverse_cons]
  exact (DRs.reverse r).append (.cons h .nil)
theorem Bt {i : Nat} {xs : List D} (hi : H[i]? = some (.lst xs)) (hsz : xs.length <= 2 ^ 20) : OpV cx B n (fun rvs=>call (.builtin "list.reverse") rvs []) [.loc i] H (.d .none) (H.set i (.lst xs.reverse)):=.mk fun A X ρ s rvs J I q=>by
 refine al fun Gq kq=>?_
 obtain ⟨u,rfl,q1⟩:=one q
 obtain ⟨a,vs,e,⟨k,hl⟩,r⟩:=I.ob _ _ hi
 refine kq ?_
 have:=q1.2 a e
 subst this
 refine call_meets PySem.F.slot_list_reverse ⟨_,hl,rfl⟩ PySem.F.entry_list_reverse (PySem.F.args_list_reverse_1 _) (AutoListH.list_reverse_list_0 a vs k (by rw [Ls.size r]; exact Nat.le_trans hsz (by decide))) ⟨hl,?_⟩
 have hl':=IsL.update hl (·.reverse)
 have hs : Heap.SameBut a s.heap (s.heap.update a (Obj.mapSeq (·.reverse))):=i6
 have hb:=fq (ρ:=ρ) (X:=X) hs (b9 e)
 refine ⟨ρ,⟨⟨_,_,rfl⟩,I.upd e hs ⟨_,hl'⟩ _ ⟨a,_,e,⟨_,hl'⟩,?_⟩,.upd e hs ⟨_,hl'⟩⟩,.none⟩
 rw [Array.toList_reverse]
 exact (r.sub hb).reverse
theorem y3 {v : V} {xs : List D} (L : Ls H v xs) (hsz : xs.length <= 2 ^ 20) : OpB cx B n tru [v] H (!xs.isEmpty) H:=.mk fun A X ρ s rvs J I q=>by
 obtain ⟨u,rfl,q1⟩:=one q
 obtain ⟨a,vs,rfl,hl,r⟩:=L.src I q1
 have e:=Ls.size r
 refine wpAny_truthy_list hl.isList (by rw [e]; omega) ?_
 refine ⟨?_,ρ,.tok I _⟩
 have : vs.isEmpty = xs.isEmpty:=by rw [Bool.eq_iff_iff,Array.isEmpty_iff_size_eq_zero,List.isEmpty_iff_length_eq_zero,e]
 rw [this]
section
variable {sc : Scope} {lo : Lo} {H1 : Hp} {e tgt : Expr}
theorem Mf {xs : List D} {p pos : Pos} (h : Ev cx true n sc e lo H (.d (.list xs)) H1) (hx : sc.names.lookup (Str.ofString "reversed") = some .globalImplicit) (hg : cx.gl (Str.ofString "reversed") = some (.type "reversed")) (hp : cq e = true) (ht : A3 tgt) :
  jx cx true n sc (.Call (.Name (Str.ofString "reversed") p) [e] [] pos) tgt lo H (xs.reverse.map .d) (fun J=>True) H1:=.mk fun A env X ρ s hs hr I F=>by
 refine wpAny_Call_Name_kw (cg I F (by rw [ao,hs]; exact hx) hg ?_ (by decide))
 refine PySem.callWith_type (by rw [kg]; exact i4 (by simp [hp])) (il (vs:=[.d (.list xs)]) (H1:=H1) (by simp [hp]) ((af hp h ag).go A env X ρ s pos hs hr I F) fun rvs s1 q=>?_)
 refine al fun Gq kq=>?_
 obtain ⟨ρ1,a1,q1⟩:=q
 obtain ⟨u,rfl,q2⟩:=one q1
 refine kq ?_
 cases q2 with
 | @list a vs _ hl hq =>
 have hsz:=Ls.size hq
 refine call_reversed_list (IsList.of_z hl).isList ?_
 have hrv : (s1.heap.push (revObj a ((vs.size : Int) - 1))).IsRevIter s1.heap.objs.size a ((vs.size : Int) - 1):=⟨_,Heap.get?_push_size _ rfl,rfl,rfl⟩
 refine wpAny_pyIter_revIter hrv ?_
 refine Ab (fun j h=>j <= xs.length /\ h.IsRevIter s1.heap.objs.size a ((xs.length : Int) - 1 - j)) (LsZ cx a vs xs) (a1.fin.trans ⟨_,_,rfl⟩) (f9 a1.ext (dr _)) (a1.ext.trans .push) (a1.inv.hide _)
  ⟨Nat.zero_le _,?_⟩ ⟨IsList.sub ia hl,hq.sub ia⟩ (fun j h h' k st=>⟨st.1,st.2.at k⟩) (fun j h st=>st.2.imp fun J q=>q.1) LsZ.mono (fun j s Q st hQ=>wpAny_pyIter_revIter st.2 hQ) (fun Y j x ρ H s P hP hx st fz J=>?_) fun Y ρ s st fz=>?_
 ·have:=hrv; rw [show ((vs.size : Int) - 1) = (xs.length : Int) - 1 - ((0 : Nat) : Int) by omega] at this ⊢; exact this
 ·obtain ⟨v,y,hv,rfl,hd⟩:=DRs.item (vs:=vs.reverse) (by rw [Array.toList_reverse]; exact fz.rs.reverse) hx
  have hjl : j < xs.length:=by have:=aq hx; rwa [List.length_map,List.length_reverse] at this
  have e1 : (xs.length : Int) - 1 - (j : Int) = ((xs.length - 1 - j : Nat) : Int):=by omega
  rw [Array.getElem?_reverse (by exact Nat.lt_of_lt_of_le hjl (Nat.le_of_eq hsz.symm)),hsz] at hv
  exact wpAny_pyNext_rev_item (e1 ▸ st.2) (IsList.of_z fz.at_).isList hv fun h' hit' hs'=>⟨v,rfl,z8 ht ⟨⟨_,_,rfl⟩,hP _ hs'.extBut ⟨hjl,by rw [<- e1] at hit'; rw [show (xs.length : Int) - 1 - ((j + 1 : Nat) : Int) = (xs.length : Int) - 1 - j - 1 by omega]; exact hit'⟩,hs'.extBut,hit'.imp fun J q=>q.1,hd.sub (gm hs' (.head _))⟩⟩
 ·obtain ⟨_,st⟩:=st
  rw [List.length_map,List.length_reverse,show (xs.length : Int) - 1 - (xs.length : Int) = -1 by omega] at st
  exact wpAny_pyNext_rev_end (hr.1 rfl) st fun h' he=>⟨rfl,⟨_,_,rfl⟩,he⟩
end
end
section
variable {cx : Cx} {b : Bool} {n : Nat} {H : Hp}
noncomputable def TabAtP (z : Heap) (P : Addr) (pos : Pos) (qual : Str) : Prop:=∃ ps,z.get? P = some (tabObj ps) /\ (ps = #[] \/ ∃ c',ps = #[rawInt pos.line,rawInt pos.col,.ref c'] /\ z.CodeRec (.ref c') qual)
theorem CodeRec.sub {z z' : Heap} (hs : Sub z z') {c : Value} {q : Str} (x : z.CodeRec c q) : z'.CodeRec c q:=let ⟨c,oc,vs,tq,h1,h2,r⟩:=x; ⟨c,oc,vs,tq,h1,hs _ _ h2,r⟩
theorem TabAtP.sub {z z' : Heap} (hs : Sub z z') {P : Addr} {pos : Pos} {q : Str} (x : TabAtP z P pos q) : TabAtP z' P pos q:=let ⟨ps,h1,h2⟩:=x; ⟨ps,hs _ _ h1,h2.imp id fun ⟨c',h3,h4⟩=>⟨c',h3,CodeRec.sub hs h4⟩⟩
section tabs
variable {ρ : Rh} {X : List Addr} {h h' : Heap} {P : Addr}
theorem Inv.tabs (I : Inv cx ρ H X h) (hP : P ∈ cx.tabs) (hs : But P h h') (he : ∃ o,h'.get? P = some o) (ht : ∃ g,cx.tabOk g (zT cx h' ρ X)) : Inv cx ρ H X h':=by
 have hX:=I.xt P hP
 have hz : Sub (zH h ρ X) (zH h' ρ X):=du hs hX
 have ne : ∀ b ∈ dk ρ,b ≠ P:=fun b hb q=>I.dx b hb (q ▸ hX)
 refine ⟨cx.gmono _ _ hz I.g,ht,I.len,I.nd,fun c hc=>?_,I.dx,fun c hc=>?_,I.xt,fun j ob e=>?_⟩
 ·obtain ⟨o',e⟩:=I.ex c hc; exact ⟨o',hs c o' (ne c hc) e⟩
 ·by_cases q : c = P
  ·exact q ▸ he
  ·obtain ⟨o',e⟩:=I.xe c hc; exact ⟨o',hs c o' q e⟩
 ·have q:=I.ob j ob e
  have hh : ∀ a ob,ρ[j]? = some (some a) -> h.get? a = some ob -> h'.get? a = some ob:=fun a ob e1 e2=>hs a ob (ne a (b9 e1)) e2
  cases ob with
  | lst xs=>obtain ⟨a,vs,e,⟨n,e1⟩,r⟩:=q; exact ⟨a,vs,e,⟨n,hh a _ e e1⟩,r.sub hz⟩
  | lsl ls=>obtain ⟨a,vs,e,⟨n,e1⟩,r⟩:=q; exact ⟨a,vs,e,⟨n,hh a _ e e1⟩,r.move hz (Nat.le_refl _) fun J J J e=>e⟩
  | dct es=>obtain ⟨a,vs,e,⟨m,ob,n,ep,e1,e2⟩,r⟩:=q; exact ⟨a,vs,e,⟨m,ob,n,ep,hh a ob e e1,e2⟩,r.sub hz⟩
  | ins l=>obtain ⟨a,rv,e,x,r⟩:=q; exact ⟨a,rv,e,cx.imono _ _ _ _ _ _ hz (fun ob e1=>hh a ob e e1) x,VOk.move hz (Nat.le_refl _) (fun J J J e=>e) r⟩
  | dead=>exact q
end tabs
structure Nest (cx : Cx) (c P : Addr) (pos : Pos) (qual : Str) : Prop where
 cd : ∀ z,cx.G z -> CodeHd z c P
 bm : ∀ z,cx.G z -> ∃ mg,z.Ns mainGlobals mg /\ z.BuiltinsAt mg P
 gP : mainGlobals ≠ P
 lim : ∀ z,cx.G z -> z.NoLimit
 mem : P ∈ cx.tabs
 get : ∀ g z,cx.tabOk g z -> TabAtP z P pos qual
 tb : ∀ g z,cx.tabOk g z -> ∀ Q ∈ cx.tabs,∃ o,z.get? Q = some o /\ ∀ vs : Array Value,o.data = .fields vs -> ∀ q t,vs[1]? ≠ some (.str q t)
 put : ∀ g z z',cx.tabOk g z -> But P z z' -> TabAtP z' P pos qual -> ∃ g',cx.tabOk g' z'
noncomputable def IsFn (z : Heap) (f : Addr) (name qual : Str) (params : Arguments) (body : List Stmt) (scope : Scope) (clos : List (Str × Addr)) : Prop :=
 ∃ doc pm cv ctv,z.get? f = some { cls:=.type "function",data:=.func (fnX name qual params body scope clos .none .none doc pm none cv ctv) } /\ z.CodeRec cv qual
theorem IsFn.sub {z z' : Heap} (hs : Sub z z') {f : Addr} {name qual : Str} {params : Arguments} {body : List Stmt} {scope : Scope} {clos : List (Str × Addr)} (x : IsFn z f name qual params body scope clos) : IsFn z' f name qual params body scope clos :=
 x.imp fun d x=>x.imp fun p x=>x.imp fun c x=>x.imp fun t h=>⟨hs _ _ h.1,CodeRec.sub hs h.2⟩
theorem fc {h : Heap} {ρ : Rh} {X : List Addr} {b : Addr} {o : Obj} : (zT cx h ρ X).get? b = some o ↔ h.get? b = some o /\ b ∉ dk ρ /\ ¬ (b ∈ X /\ b ∉ cx.tabs):=by
 unfold zT
 rw [ax,jp]
theorem Ds {name qual : Str} {params : Arguments} {body : List Stmt} {scope : Scope} {pos : Pos} {c P : Addr} {clos : List (Str × Addr)} (N : Nest cx c P pos qual) {A : Around} {env : Env} {lo : Lo} {X : List Addr} {ρ : Rh} {s : Shared} (I : Inv cx ρ H X s.heap) (F : FrOk cx env lo ρ X s.heap)
  (hd0 : params.defaults = []) (hk0 : params.kw_defaults = []) (ha : annTrees params none env = []) (hq : qualnameIn env name name = qual) (hcode : env.code = .ref c) (hcl : closureFor scope env = pure clos) (hk : env.kindOf name = some .local \/ env.kindOf name = some .cell) :
  wpAny (M cx) A (exec (.FunctionDef name params body [] none [] scope none name pos) env) (fun fl s'=>fl = .next /\ ∃ f,Aft cx (fE cx env) X ρ s H ρ s' /\ FrOk cx env ((name,.raw (.ref f)) :: lo) ρ X s'.heap /\ IsFn (zH s'.heap ρ X) f name qual params body scope clos) No s:=by
 refine wpG fun Q' kQ=>?_
 refine al fun Gq kq=>?_
 obtain ⟨mg,hmg,hbm⟩:=N.bm _ I.gh
 obtain ⟨g,hg⟩:=I.tb
 obtain ⟨ps,hps,hcase⟩:=N.get g _ hg
 obtain ⟨hps0,hpl,_⟩:=fc.mp hps
 refine kq ?_
 have hPX:=I.xt P N.mem
 have fin : ∀ (h1 h2 : Heap) (tk : Nat) (f : Addr) (cv ctv doc pm : Value),h1.objs.size = f -> h2 = h1.push { cls:=.type "function",data:=.func (fnX name qual params body scope clos .none .none doc pm none cv ctv) } -> (∀ b o,b ≠ P -> s.heap.get? b = some o -> h1.get? b = some o) -> (zH h1 ρ X).CodeRec cv qual -> s.heap.objs.size <= h1.objs.size ->
   Inv cx ρ H X h1 -> wpAny (M cx) A (storeName env name (.ref f)) (fun J=>Q' .next) No { s with heap:=h2,toks:=tk }:=by
  intro h1 h2 tk f cv ctv doc pm hf h2e hk1 hrec hsz I1
  subst hf
  generalize hob : ({ cls:=.type "function",data:=.func (fnX name qual params body scope clos .none .none doc pm none cv ctv) } : Obj) = ob at h2e
  subst h2e
  have I2:=I1.push ob
  have hPo : P ∉ own env:=fun q=>by
   rcases fe.mp q with h | ⟨x,e⟩
   ·exact F.lt (h ▸ N.mem)
   ·exact (F.ce x P e).2.1 N.mem
  have F1 : FrOk cx env lo ρ X h1:=F.touch hk1 hPX hPo
  have F2:=Ext.fr (cx:=cx) (.grow (E:=cx.tabs) fun b o e=>Heap.get?_push_of_some ob e) I1 F1
  have x2 : Ext cx.tabs ρ s.heap ρ (h1.push ob):=by
   refine Ext.trans (ρ':=ρ) (h':=h1) ⟨Nat.le_refl _,fun J J J e=>e,fun c o e J h2=>hk1 c o (fun q=>h2 (q ▸ N.mem)) e,fun c o e=>?_,fun J h1 h2=>absurd h1 h2⟩ .push
   by_cases q : c = P
   ·exact q ▸ I1.xe P hPX
   ·exact ⟨o,hk1 c o q e⟩
  have hfn : s.heap.get? h1.objs.size = none:=Heap.get?_none_of_le hsz
  have hfX : h1.objs.size ∉ X:=fun q=>by obtain ⟨o,e⟩:=I1.xe _ q; exact absurd (Heap.lt_size e) (Nat.lt_irrefl _)
  have hfl : h1.objs.size ∉ dk ρ:=fun q=>by obtain ⟨o,e⟩:=I1.ex _ q; exact absurd (Heap.lt_size e) (Nat.lt_irrefl _)
  refine wpAny_mono (Aq I2 F2 hk (v:=.raw (.ref h1.objs.size)) rfl) (fun J s' q=>?_) fun J J x=>x
  obtain ⟨a3,F3⟩:=q
  refine kQ _ _ ⟨rfl,h1.objs.size,⟨Fin.trans ⟨_,_,rfl⟩ a3.fin,a3.inv,(x2.mono tE).trans a3.ext⟩,F3,?_⟩
  have hE : ∀ a ∈ fE cx env,a ∈ X:=Bj I F
  refine ⟨doc,pm,cv,ctv,hob ▸ ax.mpr ⟨a3.ext.pres _ _ (Heap.get?_push_size _ (hob ▸ rfl)) hfl fun q=>hfX (hE _ q),hfl,hfX⟩,?_⟩
  refine al fun Gq kq=>?_
  obtain ⟨cc,oc,vs,tq,hc,hoc,r⟩:=hrec
  obtain ⟨hoc,hn1,hn2⟩:=ax.mp hoc
  refine kq ?_
  exact ⟨cc,oc,vs,tq,hc,ax.mpr ⟨a3.ext.pres _ _ (Heap.get?_push_of_some _ hoc) hn1 fun q=>hn2 (hE _ q),hn1,hn2⟩,r⟩
 refine nestDef_K hd0 hk0 ha ?_
 rw [hq]
 rcases hcase with rfl | ⟨c',rfl,hrec⟩
 ·refine makeFunction_K hcl F.gl hmg hcode (N.cd _ I.gh) hps0 trivial rfl N.gP hbm fun c' ctv doc h' tk hx hge hlt hrec htb=>?_
  have I1 : Inv cx ρ H X h':=I.tabs N.mem (fun b o hb e=>hx b o hb e) ⟨_,htb⟩ (N.put g _ _ hg (fun b o hb e=>by
   refine al fun Gq kq=>?_
   obtain ⟨e1,e2,e3⟩:=fc.mp e
   refine kq ?_
   exact fc.mpr ⟨hx b o hb e1,e2,e3⟩) ⟨_,fc.mpr ⟨htb,hpl,fun q=>q.2 N.mem⟩,.inr ⟨c',rfl,?_⟩⟩)
  ·refine fin h' _ tk h'.objs.size (.ref c') ctv doc _ rfl rfl (fun b o hb e=>hx b o hb e) ?_ (Nat.le_trans hge (Nat.le_of_lt hlt)) I1
   refine al fun Gq kq=>?_
   obtain ⟨cc,oc,vs,tq,hc,hoc,r⟩:=hrec
   refine kq ?_
   cases hc
   refine ⟨_,oc,vs,tq,rfl,ax.mpr ⟨hoc,fun q=>?_,fun q=>?_⟩,r⟩
   ·obtain ⟨o,e⟩:=I.ex _ q; exact absurd (Heap.lt_size e) (Nat.not_lt.mpr hge)
   ·obtain ⟨o,e⟩:=I.xe _ q; exact absurd (Heap.lt_size e) (Nat.not_lt.mpr hge)
  ·refine al fun Gq kq=>?_
   obtain ⟨cc,oc,vs,tq,hc,hoc,r⟩:=hrec
   refine kq ?_
   cases hc
   refine ⟨_,oc,vs,tq,rfl,fc.mpr ⟨hoc,fun q=>?_,fun q=>?_⟩,r⟩
   ·obtain ⟨o,e⟩:=I.ex _ q; exact absurd (Heap.lt_size e) (Nat.not_lt.mpr hge)
   ·obtain ⟨o,e⟩:=I.xe _ q.1; exact absurd (Heap.lt_size e) (Nat.not_lt.mpr hge)
 ·have hcr : (zH s.heap ρ X).CodeRec (.ref c') qual:=by
   refine al fun Gq kq=>?_
   obtain ⟨cc,oc,vs,tq,hc,hoc,hd,r⟩:=hrec
   obtain ⟨e1,e2,e3⟩:=fc.mp hoc
   refine kq ?_
   refine ⟨cc,oc,vs,tq,hc,ax.mpr ⟨e1,e2,fun q=>e3 ⟨q,fun ht=>?_⟩⟩,hd,r⟩
   refine al fun Gq kq=>?_
   obtain ⟨o',e',hps'⟩:=N.tb g _ hg cc ht
   refine kq ?_
   rw [hoc] at e'
   have e2:=Option.some.inj e'
   exact hps' _ (e2 ▸ hd) _ _ r
  refine makeFunction_hit (cv:=.ref c') hcl F.gl hmg hcode (N.cd _ I.gh) hps0 trivial (by simp [codeAmong,rawInt]) hbm fun ctv doc h' tk hk' hsz=>?_
  exact fin h' _ tk h'.objs.size (.ref c') ctv doc _ rfl rfl (fun b o J e=>hk' b o e) (CodeRec.sub (jv hk') hcr) hsz (I.grow hk')
end
section
variable {cx : Cx} {b : Bool} {n : Nat} {H : Hp}
structure EnteredC (cx : Cx) (b : Bool) (n : Nat) (sc : Scope) (clos : List (Str × Addr)) (lo : Lo) (H : Hp) (X : List Addr) (ρ : Rh) (s : Shared) (A' : Around) (env : Env) (s₁ : Shared) : Prop where
 sc : env.scope = sc
 cells : env.cells = clos
 rm : Rm b n A'
 inv : Inv cx ρ H (env.locals :: X) s₁.heap
 fr : FrOk cx env lo ρ (env.locals :: X) s₁.heap
 keep : ∀ b o,s.heap.get? b = some o -> s₁.heap.get? b = some o
 fresh : s.heap.get? env.locals = none
 own : vm env = [env.locals]
 fin : Fin s s₁
theorem EnteredC.back {sc : Scope} {clos : List (Str × Addr)} {lo : Lo} {H' : Hp} {X : List Addr} {ρ ρ' : Rh} {s s₁ s' : Shared} {A' : Around} {env : Env} (x : EnteredC cx b n sc clos lo H X ρ s A' env s₁) (hX : ∀ a ∈ cx.tabs,a ∈ X) (a1 : Aft cx (fE cx env) (env.locals :: X) ρ s₁ H' ρ' s') : Aft cx cx.tabs X ρ s H' ρ' s' :=
 ⟨x.fin.trans a1.fin,a1.inv.show_ (fun a ha=>.tail _ ha) hX,.outN (N:=[env.locals]) x.keep (fun a ha=>List.mem_singleton.mp ha ▸ x.fresh) (a1.ext.mono fun a ha=>by
  unfold fE at ha
  rw [x.own] at ha
  exact ha) fun c h1 h2=>j6 x.keep (a1.ext.new c h1 h2)⟩
theorem ri {α : Type} {l m : List (Str × α)} {x : Str} : (l ++ m).lookup x = (l.lookup x).or (m.lookup x):=List.lookup_append
theorem wj {f : Addr} {name qual : Str} {params : Arguments} {body : List Stmt} {scope : Scope} {clos : List (Str × Addr)} {ps : List Str} {vs : List V} {cap : Lo} {args : Args} {rvs : List Value} {A : Around} {X : List Addr} {ρ : Rh} {s : Shared} {Q : Value -> Shared -> Prop}
  (hfn : IsFn s.heap f name qual params body scope clos) (hbind : ∀ doc pm cv ctv,BindsTo s (fnX name qual params body scope clos .none .none doc pm none cv ctv) args (ps.zip rvs)) (hlen : rvs.length = ps.length) (hnd : ps.Nodup) (hnc : ∀ x ∈ scope.names,x.2 ≠ .cell) (hloc : ∀ x ∈ ps,scope.names.lookup x = some .local)
  (hco : scope.isCoroutine = false) (hgen : scope.isGenerator = false) (hk : scope.kind = .function) (hlim : s.heap.NoLimit)
  (hcells : ∀ x c,clos.lookup x = some c -> c ∈ X /\ c ∉ cx.tabs /\ ∃ v,s.heap.IsCell c v) (hinj : ∀ x y c,clos.lookup x = some c -> clos.lookup y = some c -> x = y)
  (hcap : ∀ x v,cap.lookup x = some v -> scope.names.lookup x = some .free /\ ∃ c rv,clos.lookup x = some c /\ s.heap.IsCell c (some rv) /\ VOk cx (zH s.heap ρ X) ρ rv v)
  (hr : Rm b (n + 1) A) (I : Inv cx ρ H X s.heap) (q : VsOk cx (zH s.heap ρ X) ρ rvs vs)
  (hx : ∀ env s₁,EnteredC cx b n scope clos (ps.zip vs ++ cap) H X ρ s (A.deeper env) env s₁ -> wpAny (M cx) (A.deeper env) (execs body env) (fun fl s'=>Q (match fl with | .ret v=>v | _=>.none) s') No s₁) : wpAny (M cx) A (call (.ref f) args.pos args.kw) Q No s:=by
 refine al fun Gq kq=>?_
 obtain ⟨doc,pm,cv,ctv,ho,hcd⟩:=hfn
 refine kq ?_
 have hfst : (ps.zip rvs).map (·.1) = ps:=lg hlen
 refine wpAny_call (codeAny_call_function (by have:=hr.2.1; show _ < 1000; omega) ho rfl hco hgen rfl hcd (hbind doc pm cv ctv _ _ _ _ ?_))
 refine wpAny_newFunctionEnv hnc (fun x hx=>hloc _ (hfst ▸ List.mem_map.mpr ⟨x,hx,rfl⟩)) (fun h1 hns hsb=>⟨hlim.fresh _ hsb,codeAny_func ?_⟩) hk
 have hkeep : ∀ b o,s.heap.get? b = some o -> h1.get? b = some o:=fun b o e=>hsb.extBut b o (Nat.ne_of_lt (Heap.lt_size e)) (Heap.get?_push_of_some _ e)
 have hex : ∃ o,h1.get? s.heap.objs.size = some o:=by obtain ⟨o,_,_,e,_⟩:=hns; exact ⟨o,e⟩
 have I1 : Inv cx ρ H ([s.heap.objs.size] ++ X) h1:=I.hideN hkeep (fun a ha=>List.mem_singleton.mp ha ▸ dr _) fun a ha=>List.mem_singleton.mp ha ▸ hex
 have hz:=iq (ρ:=ρ) (X:=X) (N:=[s.heap.objs.size]) hkeep (fun a ha=>List.mem_singleton.mp ha ▸ dr _)
 have hLX : s.heap.objs.size ∉ X:=fun hX=>by obtain ⟨o,e⟩:=I.xe _ hX; exact absurd (Heap.lt_size e) (Nat.lt_irrefl _)
 have q1 : VsOk cx (zH h1 ρ (s.heap.objs.size :: X)) ρ rvs vs:=q.move hz (Nat.le_refl _) fun J J J e=>e
 generalize hE : newEnv scope s.heap.objs.size mainGlobals clos (qual ++ ".<locals>.") (some f) cv none builtinsNs = env
 have hsc : env.scope = scope:=hE ▸ rfl
 have hL : env.locals = s.heap.objs.size:=hE ▸ rfl
 have hCl : env.cells = clos:=hE ▸ rfl
 have hr1 : Rm b n (A.deeper env):=⟨hr.1,by show A.depth + 1 + n <= 600; have:=hr.2.1; omega,by show A.units + 3 + 40 * n <= 5000; have:=hr.2.2; omega⟩
 have hmem : ∀ x,(x,NameKind.free) ∈ scope.names -> True:=fun J J=>trivial
 have hnk : ∀ x,env.kindOf x ≠ some .cell:=fun x e=>by
  rw [ao,hsc] at e
  exact hnc _ (bf e) rfl
 have F1 : FrOk cx env (ps.zip vs ++ cap) ρ (s.heap.objs.size :: X) h1:=by
  refine ⟨hsc ▸ hk,hE ▸ rfl,hE ▸ rfl,hL ▸ .head _,fun ht=>hLX (I.xt _ (hL ▸ ht)),fun x c e=>?_,fun x y c e1 e2=>hinj x y c (hCl ▸ e1) (hCl ▸ e2),fun x k=>absurd k (hnk x),⟨_,hL ▸ hns,fun x v' e k=>?_⟩,fun x v' e k=>?_⟩
  ·rw [hCl] at e
   refine al fun Gq kq=>?_
   obtain ⟨h1',h2',v,o,ho,hd⟩:=hcells x c e
   refine kq ?_
   exact ⟨.tail _ h1',h2',fun e=>hLX (hL ▸ e ▸ h1'),v,o,hkeep _ _ ho,hd⟩
  ·rw [ao,hsc] at k
   rw [ri] at e
   cases h3 : (ps.zip vs).lookup x with
   | some w =>
    rw [h3] at e; cases e
    refine al fun Gq kq=>?_
    obtain ⟨rv,e1,e2⟩:=i7 q1 h3
    refine kq ?_
    exact ⟨rv,by rw [lookup_reverse_of_nodup _ (by rw [hfst]; exact hnd)]; exact e1,e2⟩
   | none =>
    rw [h3] at e
    have:=(hcap x v' e).1
    rw [this] at k; cases k
  ·rw [ao,hsc] at k
   rw [ri] at e
   cases h3 : (ps.zip vs).lookup x with
   | some w =>
    have hm : x ∈ ps:=by
     refine al fun Gq kq=>?_
     obtain ⟨rv,e1,_⟩:=i7 q1 h3
     refine kq ?_
     exact hfst ▸ gs e1
    rw [hloc x hm] at k
    rcases k with k | k <;> cases k
   | none =>
    rw [h3] at e
    refine al fun Gq kq=>?_
    obtain ⟨_,c,rv,e1,⟨o,ho,hd⟩,e2⟩:=hcap x v' e
    refine kq ?_
    exact ⟨c,rv,by rw [hCl]; exact e1,⟨o,hkeep _ _ ho,hd⟩,VOk.move hz (Nat.le_refl _) (fun J J J e=>e) e2⟩
 have hown : vm env = [env.locals]:=Bz fun x J=>hnk x.1
 have:=hx env { s with heap:=h1,toks:=s.toks + (ps.zip rvs).length } ⟨hsc,hCl,hr1,hL ▸ I1,hL ▸ F1,hkeep,hL ▸ dr _,hown,⟨_,_,rfl⟩⟩
 exact wpAny_mono this (fun fl s' h=>h) nn
structure Caps (cx : Cx) (z : Heap) (h : Heap) (X : List Addr) (ρ : Rh) (clos : List (Str × Addr)) (cap : Lo) : Prop where
 cells : ∀ x c,clos.lookup x = some c -> c ∈ X /\ c ∉ cx.tabs /\ ∃ v,h.IsCell c v
 inj : ∀ x y c,clos.lookup x = some c -> clos.lookup y = some c -> x = y
 cap : ∀ x v,cap.lookup x = some v -> ∃ c rv,clos.lookup x = some c /\ h.IsCell c (some rv) /\ VOk cx z ρ rv v
theorem Caps.aft {E X : List Addr} {ρ ρ' : Rh} {H H' : Hp} {s s' : Shared} {clos : List (Str × Addr)} {cap : Lo} (c : Caps cx (zH s.heap ρ X) s.heap X ρ clos cap) (I : Inv cx ρ H X s.heap) (a : Aft cx E X ρ s H' ρ' s') (hE : ∀ a ∈ E,a ∈ X) (hc : ∀ x c,clos.lookup x = some c -> c ∉ E) : Caps cx (zH s'.heap ρ' X) s'.heap X ρ' clos cap:=by
 have keep : ∀ x c',clos.lookup x = some c' -> ∀ o,s.heap.get? c' = some o -> s'.heap.get? c' = some o:=fun x c' e o ho=>a.ext.pres c' o ho (fun q=>I.dx c' q (c.cells x c' e).1) (hc x c' e)
 refine ⟨fun x c' e=>?_,c.inj,fun x v e=>?_⟩
 ·refine al fun Gq kq=>?_
  obtain ⟨h1,h2,v,o,ho,hd⟩:=c.cells x c' e
  refine kq ?_
  exact ⟨h1,h2,v,o,keep x c' e o ho,hd⟩
 ·refine al fun Gq kq=>?_
  obtain ⟨c',rv,e1,⟨o,ho,hd⟩,q⟩:=c.cap x v e
  refine kq ?_
  exact ⟨c',rv,e1,⟨o,keep x c' e1 o ho,hd⟩,a.ext.v hE q⟩
theorem Caps.enter {sc : Scope} {X : List Addr} {ρ : Rh} {s s₁ : Shared} {clos : List (Str × Addr)} {cap lo : Lo} {A' : Around} {env : Env} (c : Caps cx (zH s.heap ρ X) s.heap X ρ clos cap) (I : Inv cx ρ H X s.heap) (x : EnteredC cx b n sc clos lo H X ρ s A' env s₁) : Caps cx (zH s₁.heap ρ (env.locals :: X)) s₁.heap (env.locals :: X) ρ clos cap:=by
 have hz:=iq (ρ:=ρ) (X:=X) (N:=[env.locals]) x.keep (fun a ha=>List.mem_singleton.mp ha ▸ x.fresh)
 refine ⟨fun y c' e=>?_,c.inj,fun y v e=>?_⟩
 ·refine al fun Gq kq=>?_
  obtain ⟨h1,h2,v,o,ho,hd⟩:=c.cells y c' e
  refine kq ?_
  exact ⟨.tail _ h1,h2,v,o,x.keep _ _ ho,hd⟩
 ·refine al fun Gq kq=>?_
  obtain ⟨c',rv,e1,⟨o,ho,hd⟩,q⟩:=c.cap y v e
  refine kq ?_
  exact ⟨c',rv,e1,⟨o,x.keep _ _ ho,hd⟩,VOk.move hz (Nat.le_refl _) (fun J J J e=>e) q⟩
theorem EnteredC.z {sc : Scope} {X : List Addr} {ρ : Rh} {s s₁ : Shared} {clos : List (Str × Addr)} {lo : Lo} {A' : Around} {env : Env} (x : EnteredC cx b n sc clos lo H X ρ s A' env s₁) : Sub (zH s.heap ρ X) (zH s₁.heap ρ (env.locals :: X)) :=
 iq (ρ:=ρ) (X:=X) (N:=[env.locals]) x.keep (fun a ha=>List.mem_singleton.mp ha ▸ x.fresh)
theorem jk {A : Around} {env : Env} {sc : Scope} {lo : Lo} {X : List Addr} {ρ : Rh} {s : Shared} {x : Str} {f : Addr} {args : List Expr} {p pos : Pos} {vs : List V} {name qual : Str} {params : Arguments} {body : List Stmt} {scope : Scope} {clos : List (Str × Addr)} {Q : Value -> Shared -> Prop}
  (hs : env.scope = sc) (hr : Rm b n A) (I : Inv cx ρ H X s.heap) (F : FrOk cx env lo ρ X s.heap) (hx : lo.lookup x = some (.raw (.ref f))) (hk : Jf (sc.names.lookup x) = true) (hn : (x == ("__classdict__" : Str)) = false) (hd : (x == ("__debug__" : Str)) = false) (hp : args.all cq = true)
  (hfn : IsFn (zH s.heap ρ X) f name qual params body scope clos) (h : Evs cx b n sc args lo H vs H)
  (hc : ∀ ρ' s' rvs,Aft cx cx.tabs X ρ s H ρ' s' -> VsOk cx (zH s'.heap ρ' X) ρ' rvs vs -> wpAny (M cx) A (call (.ref f) rvs []) Q No s') : wpAny (M cx) A (eval (.Call (.Name x p) args [] pos) env) Q No s:=by
 refine wpAny_Call_Name_kw ?_
 refine (wr (cx:=cx) (b:=b) (n:=n) hx hk hn hd).run hs hr I F fun ρ1 rv s1 a1 q1=>?_
 obtain rfl : rv = .ref f:=q1
 refine al fun Gq kq=>?_
 obtain ⟨doc,pm,cv,ctv,ho,_⟩:=hfn.sub (a1.ext.sub I.xt)
 refine kq ?_
 refine callWith_function (o:={ cls:=.type "function",data:=.func (fnX name qual params body scope clos .none .none doc pm none cv ctv) }) (fd:=fnX name qual params body scope clos .none .none doc pm none cv ctv) (il hp (h.go A env X ρ1 s1 pos hs hr a1.inv (a1.fr I F)) fun rvs s2 q=>?_)
 refine al fun Gq kq=>?_
 obtain ⟨ρ2,a2,q2⟩:=q
 refine kq ?_
 exact ⟨⟨(ax.mp (a2.ext.sub a1.inv.xt _ _ ho)).1,rfl⟩,hc ρ2 s2 rvs (a1.trans a2) q2⟩
noncomputable def inn (n : Nat) : Nat -> Int -> Nat -> Nat -> List Int -> Option (List Int)
 | 0,_,_,_,_=>none
 | k + 1,x,L,R,ds =>
  if L + 1 = R then (if L < ds.length then some (ds.set L x) else none)
  else if (L + R) / 2 < L then none else
   if (Builtin.Int.intBits (x.fdiv (2 ^ (((L + R) / 2 - L) * n))) : Int) + (((L + R) / 2 - L) * n : Nat) <= 2 ^ 27 then
    (inn n k (Builtin.bitXor x (x.fdiv (2 ^ (((L + R) / 2 - L) * n)) * 2 ^ (((L + R) / 2 - L) * n))) L ((L + R) / 2) ds).bind (inn n k (x.fdiv (2 ^ (((L + R) / 2 - L) * n))) ((L + R) / 2) R)
   else none
noncomputable def Kn : Stmt -> Arguments × List Stmt × Scope × Pos
 | .FunctionDef _ ps body _ _ _ sc _ _ pos=>(ps,body,sc,pos)
 | _=>(⟨[],[],none,[],[],none,[]⟩,[],⟨.function,[],false,false,[]⟩,⟨0,0,0,0⟩)
noncomputable def in6 : Arguments × List Stmt × Scope × Pos:=Kn (nth 1 (ar 6))
noncomputable def in7 : Arguments × List Stmt × Scope × Pos:=Kn (nth 0 (ar 7))
noncomputable abbrev lo6 (x : Int) (L R n i : Nat) (f : Addr) : Lo:=[(S "x",.d (.int x)),(S "L",.d (.int L)),(S "R",.d (.int R)),(S "a_digits",.loc i),(S "n",.d (.int n)),(S "inner",.raw (.ref f))]
theorem Eo {x : Int} {L n i : Nat} {f : Addr} {ds : List Int} (hi : H[i]? = some (.lst (ds.map .int))) (hL : L < ds.length) (hL2 : L < 2 ^ 60) {m : Nat} : Ex cx b m in6.2.2.1 in6.2.1 (lo6 x L (L + 1) n i f) H (.ret (.d .none)) (H.set i (.lst ((ds.set L x).map .int))):=by
 apply bb
 apply bp (c:=true)
 case h =>
  apply am
  case h1 =>
   apply an
   case h1=>kd_p
   case h2=>kd_p
   exact e7
  case h2=>kd_p
  case ho =>
   have:=pg (cx:=cx) (B:=b) (n:=m) (H:=H) (a:=(L : Int) + 1) (b:=((L + 1 : Nat) : Int))
   rw [show ((L : Int) + 1 == ((L + 1 : Nat) : Int)) = true from by rw [beq_iff_eq]; exact rfl] at this
   exact this
  rfl
 rw [if_pos rfl]
 apply ah
 case h1 =>
  apply c7
  case h1=>kd_p
  case h2=>kd_p
  case h3=>kd_p
  case h4 =>
   have:=uh (cx:=cx) (B:=b) (n:=m) (k:=L) (x:=.int x) hi (by simpa using hL) (by exact Nat.le_trans hL2 (by decide))
   rw [<- List.map_set] at this
   exact this
  exact fun J=>rfl
 apply bb
 exact pd
theorem w7 (L R : Nat) : ((L : Int) + (R : Int)).fdiv (2 ^ (1 : Int).toNat) = (((L + R) / 2 : Nat) : Int):=by
 rw [show (2 : Int) ^ (1 : Int).toNat = 2 from rfl,Int.fdiv_eq_ediv_of_nonneg _ (by decide)]
 exact rfl
theorem us {mid L n : Nat} (h : L <= mid) : ((mid : Int) - (L : Int)) * (n : Int) = (((mid - L) * n : Nat) : Int):=by
 rw [Int.natCast_mul,Int.ofNat_sub h]
noncomputable abbrev lo6b (x : Int) (L R n i : Nat) (f : Addr) : Lo :=
 (S "lower",.d (.int (Builtin.bitXor x (x.fdiv (2 ^ (((L + R) / 2 - L) * n)) * 2 ^ (((L + R) / 2 - L) * n))))) :: (S "upper",.d (.int (x.fdiv (2 ^ (((L + R) / 2 - L) * n))))) :: (S "shift",.d (.int ((((L + R) / 2 - L) * n : Nat) : Int))) :: (S "mid",.d (.int (((L + R) / 2 : Nat) : Int))) :: lo6 x L R n i f
theorem Bl {x : Int} {L R n i : Nat} {f : Addr} (hne : L + 1 ≠ R) (hm : L <= (L + R) / 2) (hn : Builtin.Int.intBits (n : Int) <= 64) (hsz : (Builtin.Int.intBits (x.fdiv (2 ^ (((L + R) / 2 - L) * n))) : Int) + (((L + R) / 2 - L) * n : Nat) <= 2 ^ 27) {m : Nat} :
  ∃ ss,in6.2.1 = ss ++ [.Expr (.Call (.Name (S "inner") ⟨44,8,44,13⟩) [.Name (S "lower") ⟨44,14,44,19⟩,.Name (S "L") ⟨44,21,44,22⟩,.Name (S "mid") ⟨44,24,44,27⟩] [] ⟨44,8,44,28⟩) ⟨44,8,44,28⟩,.Expr (.Call (.Name (S "inner") ⟨45,8,45,13⟩) [.Name (S "upper") ⟨45,14,45,19⟩,.Name (S "mid") ⟨45,21,45,24⟩,.Name (S "R") ⟨45,26,45,27⟩] [] ⟨45,8,45,28⟩) ⟨45,8,45,28⟩] /\
  Pre cx b m in6.2.2.1 ss (lo6 x L R n i f) H (lo6b x L R n i f) H:=by
 refine ⟨[_,_,_,_,_],rfl,?_⟩
 apply cy
 case h1 =>
  apply bp (c:=false)
  case h =>
   apply am
   case h1 =>
    apply an
    case h1=>kd_p
    case h2=>kd_p
    exact e7
   case h2=>kd_p
   case ho =>
    have:=pg (cx:=cx) (B:=b) (n:=m) (H:=H) (a:=(L : Int) + 1) (b:=(R : Int))
    rw [show ((L : Int) + 1 == (R : Int)) = false from by rw [beq_eq_false_iff_ne]; omega] at this
    exact this
   rfl
  rw [if_neg (by decide)]
  exact bj
 case h2 =>
  apply cy
  case h1 =>
   apply ai (v:=.d (.int (((L + R) / 2 : Nat) : Int)))
   case h =>
    apply an
    case h1 =>
     apply an
     case h1=>kd_p
     case h2=>kd_p
     exact e7
    case h2=>kd_p
    rw [<- w7]
    exact sm (by decide)
   exact .inl (by k_upd)
  apply cy
  case h1 =>
   apply ai (v:=.d (.int ((((L + R) / 2 - L) * n : Nat) : Int)))
   case h =>
    apply an
    case h1 =>
     apply an
     case h1=>kd_p
     case h2=>kd_p
     exact ox
    case h2=>kd_p
    rw [<- us hm]
    exact Fv (IntMulOk.of_right hn)
   exact .inl (by k_upd)
  apply cy
  case h1 =>
   apply ai (v:=.d (.int (x.fdiv (2 ^ (((L + R) / 2 - L) * n)))))
   case h =>
    apply an
    case h1=>kd_p
    case h2=>kd_p
    have:=sm (cx:=cx) (B:=b) (n:=m) (H:=H) (a:=x) (b:=((((L + R) / 2 - L) * n : Nat) : Int)) (by exact Int.ofNat_nonneg _)
    rw [Int.toNat_natCast] at this
    exact this
   exact .inl (by k_upd)
  apply cy
  case h1 =>
   apply ai
   case h =>
    apply an
    case h1=>kd_p
    case h2 =>
     apply an
     case h1=>kd_p
     case h2=>kd_p
     have:=sj (cx:=cx) (B:=b) (n:=m) (H:=H) (a:=x.fdiv (2 ^ (((L + R) / 2 - L) * n))) (b:=((((L + R) / 2 - L) * n : Nat) : Int)) (by exact Int.ofNat_nonneg _) hsz
     rw [Int.toNat_natCast] at this
     exact this
    exact Oy
   case hk=>exact .inl (by k_upd)
   exact fun J J=>rfl
  exact p6
noncomputable def Ku : Str:=S "inner"
noncomputable def uk : Str:=S "_int2digits.<locals>.inner"
theorem vf {i n : Nat} {f : Addr} {clos : List (Str × Addr)} (hn : Builtin.Int.intBits (n : Int) <= 64) (hlim : ∀ z,cx.G z -> z.NoLimit) : ∀ (k : Nat) (x : Int) (L R : Nat) (ds ds' : List Int) (H : Hp) (A : Around) (X : List Addr) (ρ : Rh) (s : Shared) (rvs : List Value),inn n k x L R ds = some ds' -> H[i]? = some (.lst (ds.map .int)) -> L < 2 ^ 60 /\ R < 2 ^ 60 -> Rm b (k + 1) A -> Inv cx ρ H X s.heap ->
  IsFn (zH s.heap ρ X) f Ku uk in6.1 in6.2.1 in6.2.2.1 clos -> Caps cx (zH s.heap ρ X) s.heap X ρ clos [(S "a_digits",.loc i),(S "n",.d (.int n)),(S "inner",.raw (.ref f))] -> VsOk cx (zH s.heap ρ X) ρ rvs [.d (.int x),.d (.int L),.d (.int R)] ->
  wpAny (M cx) A (call (.ref f) rvs []) (ig cx X ρ s (.d .none) (H.set i (.lst (ds'.map .int)))) No s:=by
 intro k
 induction k with
 | zero=>exact fun x L R ds ds' H A X ρ s rvs h=>nomatch h
 | succ k vf =>
  intro x L R ds ds' H A X ρ s rvs h hi hL hr I hfn hcap q
  have hlen : rvs.length = 3:=VsOk.length q
  refine wj (b:=b) (n:=k + 1) (args:=⟨rvs,[]⟩) (ps:=[S "x",S "L",S "R"]) (cap:=[(S "a_digits",.loc i),(S "n",.d (.int n)),(S "inner",.raw (.ref f))]) (hfn.sub sy) (fun doc pm cv ctv=>?_) hlen (by decide +kernel) (by decide +kernel) (by decide +kernel) (by k_upd) (by k_upd) (by k_upd) (hlim _ I.gh) hcap.cells hcap.inj (fun y v e=>?_) hr I q fun env s₁ Z=>?_
  ·obtain ⟨u,v,w,rfl,_⟩:=uw q; exact .of_eq rfl
  ·refine ⟨?_,hcap.cap y v e⟩
   have hm:=gs e
   simp only [List.map_cons,List.map_nil,List.mem_cons,List.not_mem_nil,or_false] at hm
   rcases hm with rfl | rfl | rfl <;> decide +kernel
  ·have hlo : ([S "x",S "L",S "R"] : List Str).zip [V.d (.int x),.d (.int L),.d (.int R)] ++ [(S "a_digits",.loc i),(S "n",.d (.int n)),(S "inner",.raw (.ref f))] = lo6 x L R n i f:=rfl
   have F1:=Z.fr
   rw [hlo] at F1
   have hfn1:=hfn.sub Z.z
   have hcap1:=hcap.enter I Z
   unfold inn at h
   by_cases hc : L + 1 = R
   ·rw [if_pos hc] at h
    subst hc
    by_cases hl : L < ds.length
    ·rw [if_pos hl] at h
     cases h
     refine (Eo (cx:=cx) (b:=b) (m:=k + 1) hi hl hL.1).runR Z.sc Z.rm Z.inv F1 fun ρ' rv s2 a1 q2=>?_
     exact ⟨ρ',Z.back I.xt a1,VOk.move (fb fun J h=>.tail _ h) (Nat.le_refl _) (fun J J J e=>e) q2⟩
    ·rw [if_neg hl] at h; cases h
   ·rw [if_neg hc] at h
    by_cases hm : (L + R) / 2 < L
    ·rw [if_pos hm] at h; cases h
    rw [if_neg hm] at h
    by_cases hsz : (Builtin.Int.intBits (x.fdiv (2 ^ (((L + R) / 2 - L) * n))) : Int) + (((L + R) / 2 - L) * n : Nat) <= 2 ^ 27
    ·rw [if_pos hsz] at h
     obtain ⟨d1,h1,h2⟩:=Option.bind_eq_some_iff.mp h
     obtain ⟨ss,hbody,hpre⟩:=Bl (cx:=cx) (b:=b) (H:=H) (x:=x) (L:=L) (R:=R) (n:=n) (i:=i) (f:=f) hc (by exact Nat.le_of_not_lt hm) hn hsz (m:=k + 1)
     rw [hbody]
     refine hpre.go _ env _ ρ s₁ [_,_] _ No Z.sc Z.rm Z.inv F1 fun ρ2 s2 a2 F2=>?_
     have hE : ∀ a ∈ fE cx env,a ∈ env.locals :: X:=Bj Z.inv F1
     have hcE : ∀ x c,clos.lookup x = some c -> c ∉ fE cx env:=fun x c e hc=>by
      unfold fE at hc
      rw [Z.own] at hc
      rcases List.mem_append.mp hc with h | h
      ·obtain ⟨o,eo⟩:=I.xe c (hcap.cells x c e).1
       rw [List.mem_singleton.mp h,Z.fresh] at eo; cases eo
      ·exact (hcap.cells x c e).2.1 h
     have hcT : ∀ x c,clos.lookup x = some c -> c ∉ cx.tabs:=fun x c e=>(hcap.cells x c e).2.1
     have hcap2:=hcap1.aft Z.inv a2 hE hcE
     have hfn2:=hfn1.sub (a2.ext.sub hE)
     refine wpAny_execs_cons (wpAny_Expr_any (jk (b:=b) (n:=k + 1) (vs:=[.d (.int _),.d (.int L),.d (.int (((L + R) / 2 : Nat) : Int))]) (H:=H) Z.sc Z.rm a2.inv F2 (x:=S "inner") (f:=f) (by kd_in) (by k_upd) (by k_upd) (by k_upd) (by rfl) hfn2 (by kd_p1) fun ρ3 s3 rvs3 a3 q3=>?_) (df F2.kind) rfl)
     have hcap3:=hcap2.aft a2.inv a3 a2.inv.xt hcT
     have hfn3:=hfn2.sub (a3.ext.sub a2.inv.xt)
     refine wpAny_mono (vf _ L ((L + R) / 2) ds d1 H _ _ ρ3 s3 rvs3 h1 hi ⟨hL.1,by omega⟩ Z.rm a3.inv hfn3 hcap3 q3) (fun r4 s4 qq=>?_) fun J J x=>x
     obtain ⟨ρ4,a4,_⟩:=qq
     have a24:=a3.trans a4
     have F4:=a24.fr a2.inv F2
     have hcap4:=hcap3.aft a3.inv a4 a3.inv.xt hcT
     have hfn4:=hfn3.sub (a4.ext.sub a3.inv.xt)
     have hi4 : (H.set i (.lst (d1.map .int)))[i]? = some (.lst (d1.map .int)):=by rw [List.getElem?_set,if_pos rfl,if_pos (aq hi)]
     refine wpAny_execs_cons (wpAny_Expr_any (jk (b:=b) (n:=k + 1) (vs:=[.d (.int _),.d (.int (((L + R) / 2 : Nat) : Int)),.d (.int R)]) (H:=H.set i (.lst (d1.map .int))) Z.sc Z.rm a4.inv F4 (x:=S "inner") (f:=f) (by kd_in) (by k_upd) (by k_upd) (by k_upd) (by rfl) hfn4 (by kd_p1) fun ρ5 s5 rvs5 a5 q5=>?_) (df F4.kind) rfl)
     have hcap5:=hcap4.aft a4.inv a5 a4.inv.xt hcT
     have hfn5:=hfn4.sub (a5.ext.sub a4.inv.xt)
     refine wpAny_mono (vf _ ((L + R) / 2) R d1 ds' (H.set i (.lst (d1.map .int))) _ _ ρ5 s5 rvs5 h2 hi4 ⟨by omega,hL.2⟩ Z.rm a5.inv hfn5 hcap5 q5) (fun r6 s6 qq=>?_) fun J J x=>x
     obtain ⟨ρ6,a6,_⟩:=qq
     have all:=a2.trans ((a24.trans (a5.trans a6)).mono tE)
     rw [List.set_set] at all
     exact wpAny_execs_nil ⟨ρ6,Z.back I.xt all,.none⟩
    ·rw [if_neg hsz] at h; cases h
structure FunN (cx : Cx) (a : Addr) (i : Nat) (ps : List Str) (c : Addr) (q : Str) : Prop where
 ex : ∃ fd,tn cx a fd /\ Sig fd ps (ar i) /\ fd.scope = ak i /\ fd.code = .ref c /\ fd.qualname = q
noncomputable def ul : Str:=S "_digits2int.<locals>.inner"
structure DTop (cx : Cx) : Prop where
 f59 : FunN cx 59 6 [S "a",S "n"] 58 (S "_int2digits")
 f66 : FunN cx 66 7 [S "digits",S "n"] 65 (S "_digits2int")
 n6 : Nest cx 58 54 in6.2.2.2 uk
 n7 : Nest cx 65 61 in7.2.2.2 ul
noncomputable def nh (n : Nat) (a : Int) : Nat:=(((Builtin.Int.intBits a : Int) + n - 1).fdiv n).toNat
noncomputable def i2d (n : Nat) (a : Int) : Option (List Int):=if nh n a <= 1000 then (if a = 0 then some (List.replicate (nh n a) 0) else inn n 20 a 0 (nh n a) (List.replicate (nh n a) 0)) else none
theorem Ok {a : Int} {n m : Nat} (hn : 0 < n) (hn2 : n < 2 ^ 20) (hD : nh n a <= 1000) (h0 : 0 <= ((Builtin.Int.intBits a : Int) + n - 1).fdiv n) : ∃ s1,ar 6 = [s1,.FunctionDef (S "inner") in6.1 in6.2.1 [] none [] in6.2.2.1 none (S "inner") in6.2.2.2,.If (.Name (S "a") ⟨46,7,46,8⟩) [.Expr (.Call (.Name (S "inner") ⟨47,8,47,13⟩) [.Name (S "a") ⟨47,14,47,15⟩,.Constant (.int 0) 0 ⟨47,17,47,18⟩,.Call (.Name (S "len") ⟨47,20,47,23⟩) [.Name (S "a_digits") ⟨47,24,47,32⟩] [] ⟨47,20,47,33⟩] [] ⟨47,8,47,34⟩) ⟨47,8,47,34⟩] [] ⟨46,4,47,34⟩,.Return (some (.Name (S "a_digits") ⟨48,11,48,19⟩)) ⟨48,4,48,19⟩] /\
  Ex1 cx b m (ak 6) s1 [(S "a",.d (.int a)),(S "n",.d (.int n))] H (.nxt [(S "a_digits",.loc H.length),(S "a",.d (.int a)),(S "n",.d (.int n))]) (H ++ [.lst (List.replicate (nh n a) (.int 0))]):=by
 refine ⟨_,rfl,?_⟩
 apply ai
 case h =>
  apply an
  case h1 =>
   apply cn (xs:=[.int 0])
   case h=>exact af (v:=.d (.int 0)) (vs:=[]) rfl j0 ag
   simp
  case h2 =>
   apply an (x:=.d (.int ((Builtin.Int.intBits a : Int) + n - 1))) (v:=.d (.int (nh n a : Nat)))
   case h1 =>
    apply an
    case h1 =>
     apply an
     case h1 =>
      apply ba
      case h0=>kd_p
      case h=>kd_p1
      case ht=>exact zc
      case pa=>exact PySem.F.plainAttrs_int
      case slot=>exact PySem.F.slot_int_bit_length
      case hty=>exact PySem.F.type_int_bit_length
      case hp=>rfl
      case hline=>rfl
      case hbase=>exact fun J=>rfl
      case hfew=>exact fun J=>rfl
      exact ry
     case h2=>kd_p
     exact e7
    case h2=>kd_p
    exact ox
   case h2=>kd_p
   have e : ((nh n a : Nat) : Int) = ((Builtin.Int.intBits a : Int) + n - 1).fdiv n:=Int.toNat_of_nonneg h0
   rw [e]
   exact iy (by omega) (PyProof.noPylong_small (by omega))
  exact y2 hD
 case hk=>exact .inr (by k_upd)
 case hs=>exact fun J J=>rfl
theorem y1 : (∀ x ∈ in6.2.2.1.names,x.2 = .free -> x.1 = S "a_digits" \/ x.1 = S "n" \/ x.1 = S "inner"):=by decide +kernel
theorem zt {cl : List (Str × Addr)} {env : Env} {lo caps : List (Str × V)} {names : List (Str × NameKind)} {ρ : Rh} {Y : List Addr} {h : Heap} (F : FrOk cx env lo ρ Y h) (h1 : ∀ x c,cl.lookup x = some c -> env.cells.lookup x = some c) (h2 : ∀ x,(x,NameKind.free) ∈ names -> cl.lookup x = env.cells.lookup x)
  (hl : ∀ x v,List.lookup x caps = some v -> List.lookup x lo = some v /\ env.kindOf x = some .cell /\ (x,NameKind.free) ∈ names) : Caps cx (zH h ρ Y) h Y ρ cl caps :=
 ⟨fun x c e=>⟨(F.ce x c (h1 x c e)).1,(F.ce x c (h1 x c e)).2.1,(F.ce x c (h1 x c e)).2.2.2⟩,fun x y c e1 e2=>F.ci x y c (h1 x c e1) (h1 y c e2),fun x v e =>
  (F.cl x v (hl x v e).1 (.inl (hl x v e).2.1)).imp fun J q=>q.imp fun J q=>⟨(h2 x (hl x v e).2.2).trans q.1,q.2⟩⟩
theorem Df (T : DTop cx) (Tt : Top cx) {a : Int} {n m : Nat} {ds : List Int} (hn : 0 < n) (hn2 : n < 2 ^ 20) (hn3 : Builtin.Int.intBits (n : Int) <= 64) (h0 : 0 <= ((Builtin.Int.intBits a : Int) + n - 1).fdiv n) (hi : i2d n a = some ds) :
  OpV cx b (m + 22) (fun rvs=>call (.ref 59) rvs []) [.d (.int a),.d (.int n)] H (.loc H.length) (H ++ [.lst (ds.map .int)]):=.mk fun A X ρ s rvs hr I q=>by
 obtain ⟨fd,hf,S0,hsc,hcode,hqual⟩:=T.f59.ex
 have hlen : rvs.length = 2:=VsOk.length q
 have hD : nh n a <= 1000:=by
  unfold i2d at hi
  by_cases h : nh n a <= 1000
  ·exact h
  ·rw [if_neg h] at hi; cases hi
 refine kh (b:=b) (n:=m + 21) (args:=⟨rvs,[]⟩) (E:=No) hf S0.toSig0 (.of_eq (S0.bind rvs hlen)) hlen (by rw [hsc]; exact fi (by k_upd)) hr I q fun env s₁ A' Q' Z hQ=>?_
 obtain ⟨s1,hb,e1⟩:=Ok (cx:=cx) (b:=b) (H:=H) (m:=m + 21) hn hn2 hD h0
 rw [hb]
 have henv : env.scope = ak 6:=Z.sc.trans hsc
 have F1 : FrOk cx env [(S "a",.d (.int a)),(S "n",.d (.int n))] _ _ _:=Z.fr
 refine wpAny_execs_cons (e1.runN henv Z.rm Z.inv F1 fun ρa sa aa Fa=>?_)
 have hcs : ∀ x,env.kindOf x = some .cell -> (env.cells.lookup x).isSome = true:=Z.fr.cs
 have hk3 : env.kindOf (S "a_digits") = some .cell /\ env.kindOf (S "n") = some .cell /\ env.kindOf (S "inner") = some .cell:=by
  rw [ao,ao,ao,henv]
  exact ⟨by k_upd,by k_upd,by k_upd⟩
 obtain ⟨cl,hcl,hcl1,hcl2⟩:=mi (scope:=in6.2.2.1) (env:=env) (fun x hx hf=>by
  rcases y1 x hx hf with h | h | h <;> rw [h]
  ·exact hcs _ hk3.1
  ·exact hcs _ hk3.2.1
  ·exact hcs _ hk3.2.2)
 have hq6 : qualnameIn env (S "inner") (S "inner") = uk:=by
  unfold qualnameIn
  rw [hk3.2.2,if_neg (by decide),Z.qual,hqual]
  k_upd
 refine wpAny_execs_cons (wpAny_mono (Ds (cx:=cx) (name:=S "inner") (qual:=uk) T.n6 aa.inv Fa (by k_upd) (by k_upd) (by k_upd) hq6 (Z.code.trans hcode) hcl (.inr hk3.2.2)) (fun fl sb qb=>?_) nn)
 obtain ⟨rfl,f,ab,Fb,hfn⟩:=qb
 have hE : ∀ a ∈ fE cx env,a ∈ own env ++ X:=Bj ab.inv Fb
 have hcap : Caps cx (zH sb.heap ρa (own env ++ X)) sb.heap (own env ++ X) ρa cl [(S "a_digits",.loc H.length),(S "n",.d (.int n)),(S "inner",.raw (.ref f))]:=zt Fb hcl1 hcl2 fun x v e=>by
  have hm:=gs e
  simp only [List.map_cons,List.map_nil,List.mem_cons,List.not_mem_nil,or_false] at hm
  rcases hm with rfl | rfl | rfl
  ·exact ⟨e,hk3.1,by decide +kernel⟩
  ·exact ⟨e,hk3.2.1,by decide +kernel⟩
  ·exact ⟨e,hk3.2.2,by decide +kernel⟩
 have hcE : ∀ x c,cl.lookup x = some c -> c ∉ cx.tabs:=fun x c e=>(hcap.cells x c e).2.1
 have hH : (H ++ [O.lst (List.replicate (nh n a) (.int 0))])[H.length]? = some (.lst ((List.replicate (nh n a) 0).map .int)):=by rw [List.map_replicate]; exact ay
 have a0b:=aa.trans ab
 have henv':=henv
 have finish : ∀ (ρc : Rh) (sc : Shared) (ds' : List Int),Aft cx (fE cx env) (own env ++ X) ρ s₁ (H ++ [.lst (ds'.map .int)]) ρc sc -> FrOk cx env [(S "inner",.raw (.ref f)),(S "a_digits",.loc H.length),(S "a",.d (.int a)),(S "n",.d (.int n))] ρc (own env ++ X) sc.heap -> ds' = ds ->
   wpAny (M cx) A' (execs [.Return (some (.Name (S "a_digits") ⟨48,11,48,19⟩)) ⟨48,4,48,19⟩] env) Q' No sc:=by
  rintro ρc sc ds' ac Fc rfl
  refine (bb (ss:=[]) (az (br (cx:=cx) (b:=b) (n:=m + 21) (x:=S "a_digits") (lo:=[(S "inner",.raw (.ref f)),(S "a_digits",.loc H.length),(S "a",.d (.int a)),(S "n",.d (.int n))]) (v:=.loc H.length) (by kd_in) (by k_upd)))).runR henv Z.rm ac.inv Fc fun ρd rv s2 ad qd=>?_
  exact hQ (.ret rv) _ ⟨ρd,Z.back (Y:=[]) I.xt (ac.trans ad),VOk.move (fb fun J h=>List.mem_append.mpr (.inr h)) (Nat.le_refl _) (fun J J J e=>e) qd⟩
 refine wpAny_execs_cons (wpAny_If ((dw (cx:=cx) (b:=b) (n:=m + 21) (sc:=ak 6) (by exact fun J J=>rfl) (br (x:=S "a") (lo:=[(S "inner",.raw (.ref f)),(S "a_digits",.loc H.length),(S "a",.d (.int a)),(S "n",.d (.int n))]) (v:=.d (.int a)) (by kd_in) (by k_upd)) Bw).runB henv Z.rm ab.inv Fb fun ρc sc ac=>?_))
 have Fc:=ac.fr ab.inv Fb
 have hfnc:=hfn.sub (ac.ext.sub ab.inv.xt)
 have hcapc:=hcap.aft ab.inv ac ab.inv.xt hcE
 have a0c:=a0b.trans (ac.mono tE)
 unfold i2d at hi
 rw [if_pos hD] at hi
 by_cases ha : a = 0
 ·rw [if_pos ha] at hi
  cases hi
  rw [show (a != 0) = false from by simpa using ha]
  refine wpAny_execs_nil (finish ρc sc _ ?_ Fc rfl)
  rw [List.map_replicate]
  exact a0c
 ·rw [if_neg ha] at hi
  rw [show (a != 0) = true from by simpa using ha]
  rw [if_pos rfl]
  refine wpAny_execs_cons (wpAny_Expr_any (ie (jk (b:=b) (n:=m + 21) (vs:=[.d (.int a),.d (.int (0 : Nat)),.d (.int (nh n a : Nat))]) henv Z.rm ac.inv Fc (x:=S "inner") (f:=f) (by kd_in) (by k_upd) (by k_upd) (by k_upd) (by rfl) hfnc ?_ fun ρd sd rvd ad qd=>?_)) (df Fc.kind) rfl)
  ·apply af
   case hp=>rfl
   case h=>kd_p
   apply af
   case hp=>rfl
   case h=>exact j0
   refine af (vs:=[]) rfl ?_ ag
   apply bo
   case hx=>k_upd
   case hg=>kd_adr
   case hd=>k_upd
   case hp=>k_upd
   case h=>kd_p1
   have:=b8 (cx:=cx) (B:=b) (n:=m + 21) (Ls.loc hH) (by simp; exact Nat.le_trans hD (by decide))
   simpa using this
  ·have hfnd:=hfnc.sub (ad.ext.sub ac.inv.xt)
   have hcapd:=hcapc.aft ac.inv ad ac.inv.xt hcE
   have hrm : Rm b 21 A':=⟨Z.rm.1,by have:=Z.rm.2.1; exact Nat.le_trans (Nat.add_le_add_left (Nat.le_add_left _ _) _) this,by have:=Z.rm.2.2; omega⟩
   refine wpAny_mono (vf hn3 T.n6.lim 20 a 0 (nh n a) _ ds _ _ _ ρd sd rvd hi hH ⟨by decide,by exact Nat.lt_of_le_of_lt hD (by decide)⟩ hrm ad.inv hfnd hcapd qd) (fun re se qe=>?_) nn
   obtain ⟨ρe,ae,_⟩:=qe
   refine wpAny_execs_nil (finish ρe se ds ?_ ((ad.trans ae).fr ac.inv Fc) rfl)
   have:=a0c.trans ((ad.trans ae).mono tE)
   rw [cr] at this
   exact this
noncomputable def d2i (n : Nat) (ds : List Int) : Nat -> Nat -> Nat -> Option Int
 | 0,_,_=>none
 | k + 1,L,R =>
  if L + 1 = R then ds[L]?
  else if (L + R) / 2 < L then none else
   (d2i n ds k ((L + R) / 2) R).bind fun hi=>(d2i n ds k L ((L + R) / 2)).bind fun lw =>
    if (Builtin.Int.intBits hi : Int) + (((L + R) / 2 - L) * n : Nat) <= 2 ^ 27 then some (hi * 2 ^ (((L + R) / 2 - L) * n) + lw) else none
noncomputable abbrev lo7 (L R n : Nat) (dv : V) (f : Addr) : Lo:=[(S "L",.d (.int L)),(S "R",.d (.int R)),(S "digits",dv),(S "n",.d (.int n)),(S "inner",.raw (.ref f))]
theorem Ep {L n : Nat} {dv : V} {f : Addr} {ds : List Int} {v : Int} (hi : Ls H dv (ds.map .int)) (hL : ds[L]? = some v) (hL2 : L < 2 ^ 60) {m : Nat} : Ex cx b m in7.2.2.1 in7.2.1 (lo7 L (L + 1) n dv f) H (.ret (.d (.int v))) H:=by
 apply bb
 apply bp (c:=true)
 case h =>
  apply am
  case h1 =>
   apply an
   case h1=>kd_p
   case h2=>kd_p
   exact e7
  case h2=>kd_p
  case ho =>
   have:=pg (cx:=cx) (B:=b) (n:=m) (H:=H) (a:=(L : Int) + 1) (b:=((L + 1 : Nat) : Int))
   rw [show ((L : Int) + 1 == ((L + 1 : Nat) : Int)) = true from by rw [beq_iff_eq]; exact rfl] at this
   exact this
  rfl
 rw [if_pos rfl]
 apply bb
 apply az
 apply av
 case h1=>kd_p
 case h2=>kd_p
 case ht=>exact bq hi
 case ho =>
  refine oi hi (j:=L) ?_ ?_ ?_
  ·unfold seqIndex?
   have h0 : ¬ ((L : Int) < 0):=by omega
   have hlt:=aq hL
   simp only [h0,if_false]
   rw [if_pos (by rw [Bool.and_eq_true,decide_eq_true_eq,decide_eq_true_eq]; simp; exact hlt)]
   rfl
  ·unfold fitsSsize; simp; omega
  ·rw [List.getElem?_map,hL]; rfl
 exact fun J J=>⟨_,rfl⟩
noncomputable abbrev Oq (L R n : Nat) (dv : V) (f : Addr) : Lo:=(S "shift",.d (.int ((((L + R) / 2 - L) * n : Nat) : Int))) :: (S "mid",.d (.int (((L + R) / 2 : Nat) : Int))) :: lo7 L R n dv f
theorem Bm {L R n : Nat} {dv : V} {f : Addr} (hne : L + 1 ≠ R) (hm : L <= (L + R) / 2) (hn : Builtin.Int.intBits (n : Int) <= 64) {m : Nat} :
  ∃ ss,in7.2.1 = ss ++ [.Return (some (.BinOp (.BinOp (.Call (.Name (S "inner") ⟨56,16,56,21⟩) [.Name (S "mid") ⟨56,22,56,25⟩,.Name (S "R") ⟨56,27,56,28⟩] [] ⟨56,16,56,29⟩) .LShift (.Name (S "shift") ⟨56,33,56,38⟩) ⟨56,16,56,38⟩) .Add (.Call (.Name (S "inner") ⟨56,42,56,47⟩) [.Name (S "L") ⟨56,48,56,49⟩,.Name (S "mid") ⟨56,51,56,54⟩] [] ⟨56,42,56,55⟩) ⟨56,15,56,55⟩)) ⟨56,8,56,55⟩] /\
  Pre cx b m in7.2.2.1 ss (lo7 L R n dv f) H (Oq L R n dv f) H:=by
 refine ⟨[_,_,_],rfl,?_⟩
 apply cy
 case h1 =>
  apply bp (c:=false)
  case h =>
   apply am
   case h1 =>
    apply an
    case h1=>kd_p
    case h2=>kd_p
    exact e7
   case h2=>kd_p
   case ho =>
    have:=pg (cx:=cx) (B:=b) (n:=m) (H:=H) (a:=(L : Int) + 1) (b:=(R : Int))
    rw [show ((L : Int) + 1 == (R : Int)) = false from by rw [beq_eq_false_iff_ne]; omega] at this
    exact this
   rfl
  rw [if_neg (by decide)]
  exact bj
 case h2 =>
  apply cy
  case h1 =>
   apply ai (v:=.d (.int (((L + R) / 2 : Nat) : Int)))
   case h =>
    apply an
    case h1 =>
     apply an
     case h1=>kd_p
     case h2=>kd_p
     exact e7
    case h2=>kd_p
    rw [<- w7]
    exact sm (by decide)
   exact .inl (by k_upd)
  apply cy
  case h1 =>
   apply ai (v:=.d (.int ((((L + R) / 2 - L) * n : Nat) : Int)))
   case h =>
    apply an
    case h1 =>
     apply an
     case h1=>kd_p
     case h2=>kd_p
     exact ox
    case h2=>kd_p
    rw [<- us hm]
    exact Fv (IntMulOk.of_right hn)
   exact .inl (by k_upd)
  exact p6
theorem vg {n : Nat} {dv : V} {f : Addr} {clos : List (Str × Addr)} {ds : List Int} (hdv : Ls H dv (ds.map .int)) (hn : Builtin.Int.intBits (n : Int) <= 64) (hlim : ∀ z,cx.G z -> z.NoLimit) : ∀ (k : Nat) (L R : Nat) (v : Int) (A : Around) (X : List Addr) (ρ : Rh) (s : Shared) (rvs : List Value),d2i n ds k L R = some v -> L < 2 ^ 60 /\ R < 2 ^ 60 -> Rm b (k + 1) A -> Inv cx ρ H X s.heap ->
  IsFn (zH s.heap ρ X) f Ku ul in7.1 in7.2.1 in7.2.2.1 clos -> Caps cx (zH s.heap ρ X) s.heap X ρ clos [(S "digits",dv),(S "n",.d (.int n)),(S "inner",.raw (.ref f))] -> VsOk cx (zH s.heap ρ X) ρ rvs [.d (.int L),.d (.int R)] ->
  wpAny (M cx) A (call (.ref f) rvs []) (ig cx X ρ s (.d (.int v)) H) No s:=by
 intro k
 induction k with
 | zero=>exact fun L R v A X ρ s rvs h=>nomatch h
 | succ k vg =>
  intro L R v A X ρ s rvs h hL hr I hfn hcap q
  have hlen : rvs.length = 2:=VsOk.length q
  refine wj (b:=b) (n:=k + 1) (args:=⟨rvs,[]⟩) (ps:=[S "L",S "R"]) (cap:=[(S "digits",dv),(S "n",.d (.int n)),(S "inner",.raw (.ref f))]) (hfn.sub sy) (fun doc pm cv ctv=>?_) hlen (by decide +kernel) (by decide +kernel) (by decide +kernel) (by k_upd) (by k_upd) (by k_upd) (hlim _ I.gh) hcap.cells hcap.inj (fun y v e=>?_) hr I q fun env s₁ Z=>?_
  ·obtain ⟨u,v,rfl,_⟩:=two q; exact .of_eq rfl
  ·refine ⟨?_,hcap.cap y v e⟩
   have hm:=gs e
   simp only [List.map_cons,List.map_nil,List.mem_cons,List.not_mem_nil,or_false] at hm
   rcases hm with rfl | rfl | rfl <;> decide +kernel
  ·have hlo : ([S "L",S "R"] : List Str).zip [V.d (.int L),.d (.int R)] ++ [(S "digits",dv),(S "n",.d (.int n)),(S "inner",.raw (.ref f))] = lo7 L R n dv f:=rfl
   have F1:=Z.fr
   rw [hlo] at F1
   have hfn1:=hfn.sub Z.z
   have hcap1:=hcap.enter I Z
   unfold d2i at h
   have fin : ∀ ρ' (s' : Shared) rv,Aft cx (fE cx env) (env.locals :: X) ρ s₁ H ρ' s' -> VOk cx (zH s'.heap ρ' (env.locals :: X)) ρ' rv (.d (.int v)) -> ig cx X ρ s (.d (.int v)) H rv s':=fun ρ' s' rv a1 q2 =>
    ⟨ρ',Z.back I.xt a1,VOk.move (fb fun J h=>.tail _ h) (Nat.le_refl _) (fun J J J e=>e) q2⟩
   by_cases hc : L + 1 = R
   ·rw [if_pos hc] at h
    subst hc
    refine (Ep (cx:=cx) (b:=b) (m:=k + 1) hdv h hL.1).runR Z.sc Z.rm Z.inv F1 fun ρ' rv s2 a1 q2=>?_
    exact fin ρ' s2 rv a1 q2
   ·rw [if_neg hc] at h
    by_cases hm : (L + R) / 2 < L
    ·rw [if_pos hm] at h; cases h
    rw [if_neg hm] at h
    obtain ⟨v1,h1,h⟩:=Option.bind_eq_some_iff.mp h
    obtain ⟨v2,h2,h⟩:=Option.bind_eq_some_iff.mp h
    by_cases hsz : (Builtin.Int.intBits v1 : Int) + (((L + R) / 2 - L) * n : Nat) <= 2 ^ 27
    ·rw [if_pos hsz] at h
     cases h
     obtain ⟨ss,hbody,hpre⟩:=Bm (cx:=cx) (b:=b) (H:=H) (L:=L) (R:=R) (n:=n) (dv:=dv) (f:=f) hc (by exact Nat.le_of_not_lt hm) hn (m:=k + 1)
     rw [hbody]
     refine hpre.go _ env _ ρ s₁ [_] _ No Z.sc Z.rm Z.inv F1 fun ρ2 s2 a2 F2=>?_
     have hE : ∀ a ∈ fE cx env,a ∈ env.locals :: X:=Bj Z.inv F1
     have hcE : ∀ x c,clos.lookup x = some c -> c ∉ fE cx env:=fun x c e hc=>by
      unfold fE at hc
      rw [Z.own] at hc
      rcases List.mem_append.mp hc with h | h
      ·obtain ⟨o,eo⟩:=I.xe c (hcap.cells x c e).1
       rw [List.mem_singleton.mp h,Z.fresh] at eo; cases eo
      ·exact (hcap.cells x c e).2.1 h
     have hcT : ∀ x c,clos.lookup x = some c -> c ∉ cx.tabs:=fun x c e=>(hcap.cells x c e).2.1
     have hcap2:=hcap1.aft Z.inv a2 hE hcE
     have hfn2:=hfn1.sub (a2.ext.sub hE)
     refine wpAny_execs_cons (wpAny_Return_some ?_)
     refine wpAny_BinOp (wpAny_BinOp (jk (b:=b) (n:=k + 1) (vs:=[.d (.int (((L + R) / 2 : Nat) : Int)),.d (.int R)]) (H:=H) Z.sc Z.rm a2.inv F2 (x:=S "inner") (f:=f) (by kd_in) (by k_upd) (by k_upd) (by k_upd) (by rfl) hfn2 (by kd_p1) fun ρ3 s3 rvs3 a3 q3=>?_))
     have hcap3:=hcap2.aft a2.inv a3 a2.inv.xt hcT
     have hfn3:=hfn2.sub (a3.ext.sub a2.inv.xt)
     refine wpAny_mono (vg ((L + R) / 2) R v1 _ _ ρ3 s3 rvs3 h1 ⟨by omega,hL.2⟩ Z.rm a3.inv hfn3 hcap3 q3) (fun r4 s4 qq=>?_) fun J J x=>x
     obtain ⟨ρ4,a4,q4⟩:=qq
     have a24:=a3.trans a4
     have F4:=a24.fr a2.inv F2
     have hcap4:=hcap3.aft a3.inv a4 a3.inv.xt hcT
     have hfn4:=hfn3.sub (a4.ext.sub a3.inv.xt)
     refine (br (cx:=cx) (b:=b) (n:=k + 1) (x:=S "shift") (lo:=Oq L R n dv f) (v:=.d (.int ((((L + R) / 2 - L) * n : Nat) : Int))) (by kd_in) (by k_upd)).run Z.sc Z.rm a4.inv F4 fun ρ5 r5 s5 a5 q5=>?_
     have hsh:=sj (cx:=cx) (B:=b) (n:=k + 1) (H:=H) (a:=v1) (b:=((((L + R) / 2 - L) * n : Nat) : Int)) (by exact Int.ofNat_nonneg _) hsz
     rw [Int.toNat_natCast] at hsh
     refine hsh.run [r4,r5] Z.rm a5.inv ⟨a5.v q4,q5,trivial⟩ fun ρ6 r6 s6 a6 q6=>?_
     have a26:=a24.trans (a5.trans a6)
     have F6:=a26.fr a2.inv F2
     have hcap6:=(hcap4.aft a4.inv a5 a4.inv.xt hcT).aft a5.inv a6 a5.inv.xt hcT
     have hfn6:=(hfn4.sub (a5.ext.sub a4.inv.xt)).sub (a6.ext.sub a5.inv.xt)
     refine jk (b:=b) (n:=k + 1) (vs:=[.d (.int L),.d (.int (((L + R) / 2 : Nat) : Int))]) (H:=H) Z.sc Z.rm a6.inv F6 (x:=S "inner") (f:=f) (by kd_in) (by k_upd) (by k_upd) (by k_upd) (by rfl) hfn6 (by kd_p1) fun ρ7 s7 rvs7 a7 q7=>?_
     have hcap7:=hcap6.aft a6.inv a7 a6.inv.xt hcT
     have hfn7:=hfn6.sub (a7.ext.sub a6.inv.xt)
     refine wpAny_mono (vg L ((L + R) / 2) v2 _ _ ρ7 s7 rvs7 h2 ⟨hL.1,by omega⟩ Z.rm a7.inv hfn7 hcap7 q7) (fun r8 s8 qq=>?_) fun J J x=>x
     obtain ⟨ρ8,a8,q8⟩:=qq
     refine e7.run [r6,r8] Z.rm a8.inv ⟨(a7.trans a8).v q6,q8,trivial⟩ fun ρ9 r9 s9 a9 q9=>?_
     exact fin ρ9 s9 r9 (a2.trans ((a26.trans (a7.trans (a8.trans a9))).mono tE)) q9
    ·rw [if_neg hsz] at h; cases h
noncomputable def Lj (n : Nat) (ds : List Int) : Option Int:=if ds = [] then some 0 else d2i n ds 20 0 ds.length
theorem N0 : ar 7 = [.FunctionDef (S "inner") in7.1 in7.2.1 [] none [] in7.2.2.1 none (S "inner") in7.2.2.2,.Return (some (.IfExp (.Name (S "digits") ⟨57,36,57,42⟩) (.Call (.Name (S "inner") ⟨57,11,57,16⟩) [.Constant (.int 0) 0 ⟨57,17,57,18⟩,.Call (.Name (S "len") ⟨57,20,57,23⟩) [.Name (S "digits") ⟨57,24,57,30⟩] [] ⟨57,20,57,31⟩] [] ⟨57,11,57,32⟩) (.Constant (.int 0) 0 ⟨57,48,57,49⟩) ⟨57,11,57,49⟩)) ⟨57,4,57,49⟩]:=by k_upd
theorem xi : (∀ x ∈ in7.2.2.1.names,x.2 = .free -> x.1 = S "digits" \/ x.1 = S "n" \/ x.1 = S "inner"):=by decide +kernel
theorem De (T : DTop cx) (Tt : Top cx) {n m : Nat} {dv : V} {ds : List Int} {v : Int} (hdv : Ls H dv (ds.map .int)) (hn3 : Builtin.Int.intBits (n : Int) <= 64) (hD : ds.length <= 1000) (hi : Lj n ds = some v) :
  OpV cx b (m + 22) (fun rvs=>call (.ref 66) rvs []) [dv,.d (.int n)] H (.d (.int v)) H:=.mk fun A X ρ s rvs hr I q=>by
 obtain ⟨fd,hf,S0,hsc,hcode,hqual⟩:=T.f66.ex
 have hlen : rvs.length = 2:=VsOk.length q
 refine kh (b:=b) (n:=m + 21) (args:=⟨rvs,[]⟩) (E:=No) hf S0.toSig0 (.of_eq (S0.bind rvs hlen)) hlen (by rw [hsc]; exact fi (by k_upd)) hr I q fun env s₁ A' Q' Z hQ=>?_
 rw [N0]
 have henv : env.scope = ak 7:=Z.sc.trans hsc
 have F1 : FrOk cx env [(S "digits",dv),(S "n",.d (.int n))] _ _ _:=Z.fr
 have hcs : ∀ x,env.kindOf x = some .cell -> (env.cells.lookup x).isSome = true:=Z.fr.cs
 have hk3 : env.kindOf (S "digits") = some .cell /\ env.kindOf (S "n") = some .cell /\ env.kindOf (S "inner") = some .cell:=by
  rw [ao,ao,ao,henv]
  exact ⟨by k_upd,by k_upd,by k_upd⟩
 obtain ⟨cl,hcl,hcl1,hcl2⟩:=mi (scope:=in7.2.2.1) (env:=env) (fun x hx hf=>by
  rcases xi x hx hf with h | h | h <;> rw [h]
  ·exact hcs _ hk3.1
  ·exact hcs _ hk3.2.1
  ·exact hcs _ hk3.2.2)
 have hq7 : qualnameIn env (S "inner") (S "inner") = ul:=by
  unfold qualnameIn
  rw [hk3.2.2,if_neg (by decide),Z.qual,hqual]
  k_upd
 refine wpAny_execs_cons (wpAny_mono (Ds (cx:=cx) (name:=S "inner") (qual:=ul) T.n7 Z.inv F1 (by k_upd) (by k_upd) (by k_upd) hq7 (Z.code.trans hcode) hcl (.inr hk3.2.2)) (fun fl sb qb=>?_) nn)
 obtain ⟨rfl,f,ab,Fb,hfn⟩:=qb
 have hcap : Caps cx (zH sb.heap ρ (own env ++ X)) sb.heap (own env ++ X) ρ cl [(S "digits",dv),(S "n",.d (.int n)),(S "inner",.raw (.ref f))]:=zt Fb hcl1 hcl2 fun x v e=>by
  have hm:=gs e
  simp only [List.map_cons,List.map_nil,List.mem_cons,List.not_mem_nil,or_false] at hm
  rcases hm with rfl | rfl | rfl
  ·exact ⟨e,hk3.1,by decide +kernel⟩
  ·exact ⟨e,hk3.2.1,by decide +kernel⟩
  ·exact ⟨e,hk3.2.2,by decide +kernel⟩
 have hcE : ∀ x c,cl.lookup x = some c -> c ∉ cx.tabs:=fun x c e=>(hcap.cells x c e).2.1
 have fin : ∀ ρ' (s' : Shared) rv,Aft cx (fE cx env) (own env ++ X) ρ s₁ H ρ' s' -> VOk cx (zH s'.heap ρ' (own env ++ X)) ρ' rv (.d (.int v)) -> Q' (.ret rv) s':=fun ρ' s' rv a1 q2 =>
  hQ (.ret rv) s' ⟨ρ',Z.back (Y:=[]) I.xt a1,VOk.move (fb fun J h=>List.mem_append.mpr (.inr h)) (Nat.le_refl _) (fun J J J e=>e) q2⟩
 refine wpAny_execs_cons (wpAny_Return_some (IfExp_ ((dw (cx:=cx) (b:=b) (n:=m + 21) (sc:=ak 7) (by exact fun J J=>rfl) (br (x:=S "digits") (lo:=[(S "inner",.raw (.ref f)),(S "digits",dv),(S "n",.d (.int n))]) (v:=dv) (by kd_in) (by k_upd)) (y3 hdv (by simp; exact Nat.le_trans hD (by decide)))).runB henv Z.rm ab.inv Fb fun ρc sc ac=>?_)))
 have Fc:=ac.fr ab.inv Fb
 have hfnc:=hfn.sub (ac.ext.sub ab.inv.xt)
 have hcapc:=hcap.aft ab.inv ac ab.inv.xt hcE
 have a0c:=ab.trans (ac.mono tE)
 unfold Lj at hi
 cases ds with
 | nil =>
  rw [if_pos rfl] at hi
  cases hi
  refine wpAny_mono (ie (j0 (cx:=cx) (b:=b) (n:=m + 21) (sc:=ak 7) (lo:=[(S "inner",.raw (.ref f)),(S "digits",dv),(S "n",.d (.int n))]) (H:=H) (i:=0) (k:=0) |>.go _ env _ ρc sc henv Z.rm ac.inv Fc)) (fun rv sd qd=>?_) fun J J x=>x
  obtain ⟨ρd,ad,qd⟩:=qd
  exact fin ρd sd rv (a0c.trans (ad.mono tE)) qd
 | cons d ds =>
  rw [if_neg (by simp)] at hi
  rw [if_pos (by simp)]
  refine ie (jk (b:=b) (n:=m + 21) (vs:=[.d (.int (0 : Nat)),.d (.int ((d :: ds).length : Nat))]) henv Z.rm ac.inv Fc (x:=S "inner") (f:=f) (by kd_in) (by k_upd) (by k_upd) (by k_upd) (by rfl) hfnc ?_ fun ρd sd rvd ad qd=>?_)
  ·apply af
   case hp=>rfl
   case h=>exact j0
   refine af (vs:=[]) rfl ?_ ag
   apply bo
   case hx=>k_upd
   case hg=>kd_adr
   case hd=>k_upd
   case hp=>k_upd
   case h=>kd_p1
   have:=b8 (cx:=cx) (B:=b) (n:=m + 21) hdv (by simp only [List.length_map]; exact Nat.le_trans hD (by decide))
   rw [List.length_map] at this
   exact this
  ·have hfnd:=hfnc.sub (ad.ext.sub ac.inv.xt)
   have hcapd:=hcapc.aft ac.inv ad ac.inv.xt hcE
   have hrm : Rm b 21 A':=⟨Z.rm.1,by have:=Z.rm.2.1; exact Nat.le_trans (Nat.add_le_add_left (Nat.le_add_left _ _) _) this,by have:=Z.rm.2.2; omega⟩
   refine wpAny_mono (vg hdv hn3 T.n7.lim 20 0 (d :: ds).length v _ _ ρd sd rvd hi ⟨by decide,by exact Nat.lt_of_le_of_lt hD (by decide)⟩ hrm ad.inv hfnd hcapd qd) (fun re se qe=>?_) nn
   obtain ⟨ρe,ae,qe⟩:=qe
   exact fin ρe se re (a0c.trans ((ad.trans ae).mono tE)) qe
end
section
variable {cx : Cx} {b : Bool} {n : Nat} {H H1 H2 : Hp} {sc : Scope} {lo : Lo}
theorem N2 (T : Top cx) {p : Str} {k : Int} (h : List.lookup p [(S "b",(PyData.int 0)),(S "c",.int 1),(S "d",.int 2)] = some (.int k)) : OpV cx b (n + 1) (fun rvs=>call (.ref 257) rvs []) [.d (.str p)] H (.d (.int k)) H :=
 c5 T.f257 rfl (by k_upd) (Mh h)
theorem Am {k m : Nat} (h : k < m) : seqIndex? (k : Int) m = some k:=by
 unfold seqIndex?
 have h0 : ¬ ((k : Int) < 0):=by omega
 simp only [h0,if_false]
 rw [if_pos (by rw [Bool.and_eq_true,decide_eq_true_eq,decide_eq_true_eq]; omega)]
 rfl
theorem seql {m : Nat} (h : 0 < m) : ((-1 : Int) + m).toNat = m - 1:=by
 cases m with
 | zero=>cases h
 | succ m=>rw [Int.natCast_succ,Int.add_comm,Int.add_assoc]; rfl
theorem Gt {m : Nat} (h : 0 < m) : seqIndex? (-1) m = some (m - 1):=by
 unfold seqIndex?
 have h0 : ((-1 : Int) < 0):=by exact Int.ofNat_nonneg _
 simp only [h0,if_true]
 rw [if_pos (by rw [Bool.and_eq_true,decide_eq_true_eq,decide_eq_true_eq]; omega)]
 congr 1; exact seql h
theorem ww {k : Nat} (h : k < 2 ^ 62) : fitsSsize (k : Int) = true:=by unfold fitsSsize; simp; omega
theorem ly {v : V} {xs : List D} {x : D} (L : Ls H v xs) (h : xs.getLast? = some x) : OpV cx b n gi [v,.d (.int (-1))] H (.d x) H:=by
 have h0 : 0 < xs.length:=by cases xs with | nil=>cases h | cons=>simp
 exact oi L (j:=xs.length - 1) (Gt h0) (by decide) (by rw [List.getLast?_eq_getElem?] at h; exact h)
theorem gj {v : V} {xs : List D} {x : D} {k : Nat} (L : Ls H v xs) (h : xs[k]? = some x) (hk : k < 2 ^ 62) : OpV cx b n gi [v,.d (.int k)] H (.d x) H:=oi L (Am (aq h)) (ww hk) h
theorem dt {i l k : Nat} {ls : List Nat} (hi : H[i]? = some (.lsl ls)) (h : ls[k]? = some l) (hk : k < 2 ^ 62) : OpV cx b n gi [.loc i,.d (.int k)] H (.loc l) H:=Fr hi (Am (aq h)) (ww hk) h
theorem Oe (m : Int) (h0 : 0 <= m) (h1 : m < 4) : m = 0 \/ m = 1 \/ m = 2 \/ m = 3:=by
 obtain ⟨k,rfl⟩:=Int.eq_ofNat_of_zero_le h0
 have h:=(by decide : ∀ k < 4,k = 0 \/ k = 1 \/ k = 2 \/ k = 3) k (Int.ofNat_lt.mp h1)
 exact h.imp (congrArg _) fun h=>h.imp (congrArg _) fun h=>h.imp (congrArg _) (congrArg _)
theorem yf {r : Int} : fitsSsize (r.fmod 4) = true /\ (Txt.charAt (S "abcd") (r.fmod 4)).isSome = true:=by
 have h0:=Int.fmod_nonneg_of_pos r (b:=4) (by decide)
 have h1:=Int.fmod_lt_of_pos r (b:=4) (by decide)
 generalize r.fmod 4 = m at h0 h1
 rcases Oe m h0 h1 with rfl | rfl | rfl | rfl <;> exact ⟨by k_upd,by k_upd⟩
theorem Bo (T : Top cx) {p : Str} {k : Nat} {i l : Nat} {ls : List Nat} {xs : List D} {q r : Int} (h : List.lookup p [(S "b",(PyData.int 0)),(S "c",.int 1),(S "d",.int 2)] = some (.int k))
  (hi : H[i]? = some (.lsl ls)) (hl : ls[k]? = some l) (hxs : H[l]? = some (.lst xs)) (hlast : xs.getLast? = some (.tuple [.int q,.int r])) (hsz : xs.length <= 1000) (hk : k < 4) :
  Ex cx b (n + 1) (ak 25) (ar 25) [(S "due",.loc i),(S "place",.d (.str p))] H (.ret (.d (.tuple [.str p,.int (xs.length - 1),.str (Txt.item (S "abcd") ((if r < 0 then -r else r).fmod 4))]))) H:=by
 apply ah
 case h1 =>
  apply ai
  case h =>
   apply bd T
   case hx=>k_upd
   case hg=>exact (by k_upd : cb.lookup _ = some (.ref 257))
   case hd=>k_upd
   case F=>exact T.f257
   case hp=>k_upd
   case h=>kd_p1
   exact N2 T h
  case hk=>exact .inl (by k_upd)
  exact fun J J=>rfl
 case h2 =>
  apply bb
  apply az
  apply bt
  case hsz=>simp
  apply af
  case hp=>k_upd
  case h=>kd_p
  apply af
  case hp=>k_upd
  case h =>
   apply an
   case h1 =>
    apply bo
    case hx=>k_upd
    case hg=>kd_adr
    case hd=>k_upd
    case hp=>k_upd
    case h =>
     apply af
     case hp=>k_upd
     case h =>
      apply av
      case h1=>kd_p
      case h2=>kd_p
      case ht=>exact ft hi
      case ho=>exact dt hi hl (by exact Nat.le_trans hk (by decide))
      exact fun J J=>⟨_,rfl⟩
     kd_p1
    exact b8 (.loc hxs) (by exact Nat.le_trans hsz (by decide))
   case h2=>kd_p
   exact ox
  apply af
  case hp=>k_upd
  case h =>
   apply av
   case h1=>kd_p
   case h2 =>
    apply an
    case h1 =>
     apply bo
     case hx=>k_upd
     case hg=>kd_adr
     case hd=>k_upd
     case hp=>k_upd
     case h =>
      apply af
      case hp=>k_upd
      case h =>
       apply av
       case h1 =>
        apply av
        case h1 =>
         apply av
         case h1=>kd_p
         case h2=>kd_p
         case ht=>exact ft hi
         case ho=>exact dt hi hl (by exact Nat.le_trans hk (by decide))
         exact fun J J=>⟨_,rfl⟩
        case h2=>kd_p
        case ht=>exact bq (.loc hxs)
        case ho=>exact ly (.loc hxs) hlast
        exact fun J J=>⟨_,rfl⟩
       case h2=>kd_p
       case ht=>exact ca
       case ho=>exact cp (j:=1) (by rfl) (by decide) rfl
       exact fun J J=>⟨_,rfl⟩
      kd_p1
     exact Fk
    case h2=>kd_p
    exact jf (by decide)
   case ht=>exact kc
   case ho=>exact k8 yf.1 yf.2
   exact fun J J=>⟨_,rfl⟩
  kd_p1
end
section
variable {cx : Cx} {b : Bool} {n : Nat} {H : Hp}
theorem D2 (T : Top cx) {sc : Scope} {lo : Lo} {x : Str} {pos : Pos} {i : Int} {t : Tok} (hx : sc.names.lookup x = some .globalImplicit) (hg : cb.lookup x = some (.int i t)) (hd : (x == ("__debug__" : Str)) = false) : Ev cx b n sc (.Name x pos) lo H (.d (.int i)) H:=by
 rcases T.nm x _ hg with h | ⟨j,t1,t2,h1,h2⟩
 ·exact ua hx h hd
 ·cases h1; exact ua hx h2 hd
theorem Ib (T : Top cx) {a c : Int} {k : Nat} (hc : c ≠ 0) (hp : Builtin.divisionGoesByPylong a c = false) (hk : (Builtin.Int.intBits a : Int) - k <= 4000) : Ex cx b n (ak 4) (ar 4) [(S "a",.d (.int a)),(S "b",.d (.int c)),(S "n",.d (.int k))] H (.ret (.d (.tuple [.int (a.fdiv c),.int (a.fmod c)]))) H:=by
 apply bb
 apply bp (c:=true)
 case h =>
  apply am
  case h1 =>
   apply an
   case h1 =>
    apply ba
    case h0=>kd_p
    case h=>kd_p1
    case ht=>exact zc
    case pa=>exact PySem.F.plainAttrs_int
    case slot=>exact PySem.F.slot_int_bit_length
    case hty=>exact PySem.F.type_int_bit_length
    case hp=>rfl
    case hline=>rfl
    case hbase=>exact fun J=>rfl
    case hfew=>exact fun J=>rfl
    exact ry
   case h2=>kd_p
   exact ox
  case h2 =>
   apply D2 T
   case hx=>k_upd
   case hg=>exact (by k_upd : cb.lookup _ = some (.int 4000 0))
   k_upd
  case ho =>
   have:=Ow (cx:=cx) (B:=b) (n:=n) (H:=H) (a:=(Builtin.Int.intBits a : Int) - k) (b:=4000)
   rw [decide_eq_true hk] at this
   exact this
  rfl
 rw [if_pos rfl]
 apply bb
 apply az
 apply bo
 case hx=>k_upd
 case hg=>exact T.g_divmod
 case hd=>k_upd
 case hp=>k_upd
 case h=>kd_p1
 exact Fm hc hp
theorem Le (T : Top cx) {a c : Int} {k : Nat} (hc : c ≠ 0) (hp : Builtin.divisionGoesByPylong a c = false) (hk : (Builtin.Int.intBits a : Int) - k <= 4000) : OpV cx b (n + 1) (fun rvs=>call (.ref 45) rvs []) [.d (.int a),.d (.int c),.d (.int k)] H (.d (.tuple [.int (a.fdiv c),.int (a.fmod c)])) H :=
 c5 T.f45 rfl (by k_upd) (Ib T hc hp hk)
noncomputable def zz (n : Nat) (c : Int) : List Int -> Int -> List Int -> Option (Int × List Int)
 | [],r,qs=>some (r,qs)
 | d :: ds,r,qs=>if (Builtin.Int.intBits r : Int) + (n : Nat) <= 2 ^ 27 /\ (Builtin.Int.intBits (r * 2 ^ n + d) : Int) - n <= 4000 /\ qs.length <= 1000 then zz n c ds ((r * 2 ^ n + d).fmod c) (qs ++ [(r * 2 ^ n + d).fdiv c]) else none
noncomputable def dmp (a c : Int) : Option (Int × Int) :=
 (i2d (Builtin.Int.intBits c) a).bind fun ds=>if ds.length <= 1000 /\ 0 <= ((Builtin.Int.intBits a : Int) + (Builtin.Int.intBits c : Nat) - 1).fdiv (Builtin.Int.intBits c : Nat) then (zz (Builtin.Int.intBits c) c ds.reverse 0 []).bind fun rq=>if rq.2.length <= 1000 then (Lj (Builtin.Int.intBits c) rq.2.reverse).map fun q=>(q,rq.1) else none else none
theorem D7 (T : Top cx) {a c : Int} {m i : Nat} {k : Nat} (hc : c ≠ 0) (hcs : c.natAbs < 1073741824) (tgt : Expr) (body : List Stmt) (hfor : ∃ p1 e p2 rest,(ar 8)[4]? = some (.For tgt e body rest p2) /\ p1 = (0 : Nat)) :
  ∀ (ds : List Int) (r : Int) (qs : List Int) (lo : Lo) (H : Hp) (r' : Int) (qs' : List Int),zz k c ds r qs = some (r',qs') -> H[i]? = some (.lst (qs.map .int)) -> lo.lookup (S "b") = some (.d (.int c)) -> lo.lookup (S "n") = some (.d (.int k)) -> lo.lookup (S "r") = some (.d (.int r)) -> lo.lookup (S "q_digits") = some (.loc i) ->
  ∃ lo',lo'.lookup (S "n") = some (.d (.int k)) /\ lo'.lookup (S "r") = some (.d (.int r')) /\ lo'.lookup (S "q_digits") = some (.loc i) /\ Fo cx true (m + 1) (ak 8) tgt body (fun J=>True) ((ds.map .int).map .d) lo H (.nxt lo') (H.set i (.lst (qs'.map .int)))
 | [],r,qs,lo,H,r',qs',h,hi,h1,h2,h3,h4=>by
  cases h
  refine ⟨lo,h2,h3,h4,?_⟩
  rw [show H.set i (.lst (qs.map .int)) = H from by
   apply List.ext_getElem?
   intro j
   rw [List.getElem?_set]
   split
   ·rename_i e; subst e; rw [if_pos (aq hi),hi]
   ·rfl]
  exact .nil trivial
 | d :: ds,r,qs,lo,H,r',qs',h,hi,h1,h2,h3,h4=>by
  unfold zz at h
  by_cases hok : (Builtin.Int.intBits r : Int) + (k : Nat) <= 2 ^ 27 /\ (Builtin.Int.intBits (r * 2 ^ k + d) : Int) - k <= 4000 /\ qs.length <= 1000
  ·rw [if_pos hok] at h
   obtain ⟨ha,hb,hq⟩:=hok
   have hi2 : (H.set i (.lst ((qs ++ [(r * 2 ^ k + d).fdiv c]).map .int)))[i]? = some (.lst ((qs ++ [(r * 2 ^ k + d).fdiv c]).map .int)):=by rw [List.getElem?_set,if_pos rfl,if_pos (aq hi)]
   obtain ⟨lo',g1,g2,g3,W⟩:=D7 (m:=m) (i:=i) T (a:=a) hc hcs tgt body hfor ds ((r * 2 ^ k + d).fmod c) (qs ++ [(r * 2 ^ k + d).fdiv c]) ((S "r",.d (.int ((r * 2 ^ k + d).fmod c))) :: (S "q_digit",.d (.int ((r * 2 ^ k + d).fdiv c))) :: (S "a_digit",.d (.int d)) :: lo) _ r' qs' h hi2
    (by rw [List.lookup_cons,show (S "b" == S "r") = false by decide +kernel,List.lookup_cons,show (S "b" == S "q_digit") = false by decide +kernel,List.lookup_cons,show (S "b" == S "a_digit") = false by decide +kernel]; exact h1)
    (by rw [List.lookup_cons,show (S "n" == S "r") = false by decide +kernel,List.lookup_cons,show (S "n" == S "q_digit") = false by decide +kernel,List.lookup_cons,show (S "n" == S "a_digit") = false by decide +kernel]; exact h2)
    ky
    (by rw [List.lookup_cons,show (S "q_digits" == S "r") = false by decide +kernel,List.lookup_cons,show (S "q_digits" == S "q_digit") = false by decide +kernel,List.lookup_cons,show (S "q_digits" == S "a_digit") = false by decide +kernel]; exact h4)
   rw [List.set_set] at W
   refine ⟨lo',g1,g2,g3,?_⟩
   obtain ⟨_,e,p2,rest,hf,_⟩:=hfor
   cases hf
   refine .step trivial (bw (by k_upd)) ?_ .refl W
   apply ah
   case h1 =>
    apply eg (ys:=[.int ((r * 2 ^ k + d).fdiv c),.int ((r * 2 ^ k + d).fmod c)])
    case h =>
     apply bd T
     case hx=>k_upd
     case hg=>exact (by k_upd : cb.lookup _ = some (.ref 45))
     case hd=>k_upd
     case F=>exact T.f45
     case hp=>k_upd
     case h =>
      apply af
      case hp=>rfl
      case h =>
       apply an (v:=.d (.int (r * 2 ^ k + d)))
       case h1 =>
        apply an (v:=.d (.int (r * 2 ^ k)))
        case h1 =>
         apply br
         case hx=>exact de (by k_upd) h3
         k_upd
        case h2 =>
         apply br
         case hx=>exact de (by k_upd) h2
         k_upd
        have:=sj (cx:=cx) (B:=true) (n:=m + 1) (H:=H) (a:=r) (b:=(k : Nat)) (by exact Int.ofNat_nonneg _) ha
        rw [Int.toNat_natCast] at this
        exact this
       case h2=>kd_p
       exact e7
      apply af
      case hp=>rfl
      case h =>
       apply br
       case hx=>exact de (by k_upd) h1
       k_upd
      apply af
      case hp=>rfl
      case h =>
       apply br
       case hx=>exact de (by k_upd) h2
       k_upd
      exact ag
     exact Le T hc (PyProof.noPylong_small hcs) hb
    exact .cons (by k_upd) (.cons (by k_upd) .nil)
   apply ah
   case h2=>exact bj
   apply c8
   case h =>
    apply ba
    case h0 =>
     apply br
     case hx=>exact de (by k_upd) (de (by k_upd) (de (by k_upd) h4))
     k_upd
    case h=>kd_p1
    case ht=>exact dy hi
    case pa=>exact PySem.F.plainAttrs_list
    case slot=>exact PySem.F.slot_list_append
    case hty=>exact PySem.F.type_list_append
    case hp=>rfl
    case hline=>rfl
    case hbase=>exact fun J=>rfl
    case hfew=>exact fun J=>rfl
    have:=app_lst (cx:=cx) (B:=true) (n:=m + 1) (x:=.int ((r * 2 ^ k + d).fdiv c)) hi (by simp; exact Nat.le_trans hq (by decide))
    rw [show (qs.map PyData.int ++ [PyData.int ((r * 2 ^ k + d).fdiv c)]) = (qs ++ [(r * 2 ^ k + d).fdiv c]).map PyData.int by simp] at this
    exact this
   exact fun J=>rfl
  ·rw [if_neg hok] at h; cases h
theorem Cnv.frzH {k : Nat} {x : Str} {rest : Lo} {i : Nat} {xs : List D} (hi : H[i]? = some (.lst xs)) (hr : rest.map (fun e=>(e.1,Mine.frz i xs e.2)) = rest) : Cnv cx k ((x,.loc i) :: rest) H ((x,.d (.list xs)) :: rest) (H.set i .dead):=by
 have:=Cnv.frz (cx:=cx) (k:=k) (lo:=(x,.loc i) :: rest) hi
 rw [List.map_cons,hr] at this
 have e : Mine.frz i xs (.loc i) = .d (.list xs):=if_pos rfl
 rw [e] at this
 exact this
theorem Ao {H : Hp} {o o' o2 : O} : ((H ++ [o]) ++ [o']).set (H.length + 1) o2 = (H ++ [o]) ++ [o2]:=by
 have:=cr (H:=H ++ [o]) (o:=o') (o':=o2)
 rwa [List.length_append] at this
theorem m0 {H : Hp} {o o' : O} : ((H ++ [o]) ++ [o'])[H.length + 1]? = some o':=by
 have:=ay (H:=H ++ [o]) (o:=o')
 rwa [List.length_append] at this
theorem for8 : ∃ p1 e p2 rest tgt body,(ar 8)[4]? = some (.For tgt e body rest p2) /\ p1 = (0 : Nat):=⟨_,_,_,_,_,_,rfl,rfl⟩
theorem C2 {c : Int} (hc : 0 < c) : 0 < Builtin.Int.intBits c:=by
 unfold Builtin.Int.intBits
 rw [if_neg (by simp; omega)]
 exact Nat.succ_pos _
theorem Lq (T : Top cx) (Td : DTop cx) {a c q r : Int} {m : Nat} (hc : 0 < c) (hcs : c < 1000) (hb : Builtin.Int.intBits c <= 16) (h : dmp a c = some (q,r)) :
  ∃ qs,Ex cx true (m + 23) (ak 8) (ar 8) [(S "a",.d (.int a)),(S "b",.d (.int c))] H (.ret (.d (.tuple [.int q,.int r]))) ((H ++ [.dead]) ++ [.lst qs]):=by
 unfold dmp at h
 refine al fun Gq kq=>?_
 obtain ⟨ds,h1,h⟩:=Option.bind_eq_some_iff.mp h
 refine kq ?_
 by_cases hok : ds.length <= 1000 /\ 0 <= ((Builtin.Int.intBits a : Int) + (Builtin.Int.intBits c : Nat) - 1).fdiv (Builtin.Int.intBits c : Nat)
 case neg=>rw [if_neg hok] at h; cases h
 rw [if_pos hok] at h
 refine al fun Gq kq=>?_
 obtain ⟨hl,h0⟩:=hok
 obtain ⟨⟨r',qs⟩,h2,h⟩:=Option.bind_eq_some_iff.mp h
 refine kq ?_
 by_cases hq : qs.length <= 1000
 case neg=>rw [if_neg hq] at h; cases h
 rw [if_pos hq] at h
 refine al fun Gq kq=>?_
 obtain ⟨q',h3,h4⟩:=Option.map_eq_some_iff.mp h
 refine kq ?_
 cases h4
 generalize hk : Builtin.Int.intBits c = k at *
 have hkp : 0 < k:=hk ▸ C2 hc
 have hk64 : Builtin.Int.intBits (k : Int) <= 64:=by
  unfold Builtin.Int.intBits
  rw [if_neg (by simp; exact Nat.ne_of_gt hkp)]
  have : Nat.log2 ((k : Int).natAbs) < 10:=(Nat.log2_lt (by exact Nat.ne_of_gt hkp)).mpr (by show (k : Int).natAbs < 1024; exact Nat.lt_of_le_of_lt hb (by decide))
  exact Nat.le_trans this (by decide)
 refine ⟨qs.reverse.map .int,?_⟩
 apply ah
 case h1 =>
  apply ai
  case h =>
   apply ba
   case h0=>kd_p
   case h=>kd_p1
   case ht=>exact zc
   case pa=>exact PySem.F.plainAttrs_int
   case slot=>exact PySem.F.slot_int_bit_length
   case hty=>exact PySem.F.type_int_bit_length
   case hp=>rfl
   case hline=>rfl
   case hbase=>exact fun J=>rfl
   case hfew=>exact fun J=>rfl
   exact ry
  case hk=>exact .inl (by k_upd)
  exact fun J J=>rfl
 case h2 =>
  rw [hk]
  apply ah
  case h1 =>
   apply u9
   case h =>
    apply ai
    case h =>
     apply bd T
     case hx=>k_upd
     case hg=>exact (by k_upd : cb.lookup _ = some (.ref 59))
     case hd=>k_upd
     case F=>exact (by obtain ⟨fd,a1,a2,a3,_⟩:=Td.f59.ex; exact ⟨fd,a1,a2,a3⟩ : Fun cx 59 6 [S "a",S "n"])
     case hp=>k_upd
     case h=>kd_p1
     exact Df Td T (m:=m + 1) hkp (by omega) hk64 h0 h1
    case hk=>exact .inl (by k_upd)
    exact fun J J=>rfl
   exact Cnv.frzH ay rfl
  rw [cr]
  apply ah
  case h1 =>
   apply ai
   case h=>kd_p
   case hk=>exact .inl (by k_upd)
   exact fun J J=>rfl
  apply ah
  case h1 =>
   apply ai
   case h =>
    apply fh (xs:=[])
    case h=>exact ag
    decide
   case hk=>exact .inl (by k_upd)
   exact fun J J=>rfl
  refine al fun Gq kq=>?_
  obtain ⟨p1,e,p2,rest,tgt,body,hfor,_⟩:=for8
  have hlenH : (H ++ [O.dead]).length = H.length + 1:=by rw [List.length_append]; rfl
  obtain ⟨lo',g1,g2,g3,W⟩:=D7 (m:=m + 22) (a:=a) (i:=H.length + 1) (c:=c) (k:=k) T (by omega) (by omega) tgt body ⟨0,e,p2,rest,hfor,rfl⟩ ds.reverse 0 [] [(S "q_digits",.loc (H.length + 1)),(S "r",.d (.int 0)),(S "a_digits",.d (.list (ds.map .int))),(S "n",.d (.int k)),(S "a",.d (.int a)),(S "b",.d (.int c))] ((H ++ [.dead]) ++ [.lst []]) r' qs h2 m0 (by kd_in) (by kd_in) (by kd_in) (by kd_in)
  refine kq ?_
  rw [Ao,show (ds.reverse.map PyData.int) = (ds.map PyData.int).reverse from List.map_reverse ..] at W
  rw [hlenH]
  have hd : ∃ s0 s1 s2 s3 sf s5 s6 s7,ar 8 = [s0,s1,s2,s3,sf,s5,s6,s7]:=⟨_,_,_,_,_,_,_,_,rfl⟩
  cases hfor
  apply ah
  case h1 =>
   apply dp
   case hit =>
    apply Mf
    case h=>kd_p
    case hx=>k_upd
    case hg=>exact T.g_reversed
    case hp=>rfl
    first | exact ik | exact ld | exact fun J J=>rfl
   case W=>exact W
   exact fun J J=>rfl
  apply ah
  case h1 =>
   apply c8
   case h =>
    apply ba
    case h0 =>
     apply br
     case hx=>exact g3
     k_upd
    case h=>kd_p1
    case ht=>exact dy m0
    case pa=>exact PySem.F.plainAttrs_list
    case slot=>exact PySem.F.slot_list_reverse
    case hty=>exact PySem.F.type_list_reverse
    case hp=>rfl
    case hline=>rfl
    case hbase=>exact fun J=>rfl
    case hfew=>exact fun J=>rfl
    exact Bt m0 (by simp; exact Nat.le_trans hq (by decide))
   exact fun J=>rfl
  rw [Ao,<- List.map_reverse]
  apply ah
  case h1 =>
   apply ai
   case h =>
    apply bd T
    case hx=>k_upd
    case hg=>exact (by k_upd : cb.lookup _ = some (.ref 66))
    case hd=>k_upd
    case F=>exact (by obtain ⟨fd,a1,a2,a3,_⟩:=Td.f66.ex; exact ⟨fd,a1,a2,a3⟩ : Fun cx 66 7 [S "digits",S "n"])
    case hp=>k_upd
    case h =>
     apply af
     case hp=>rfl
     case h =>
      apply br
      case hx=>exact g3
      k_upd
     apply af
     case hp=>rfl
     case h =>
      apply br
      case hx=>exact g1
      k_upd
     exact ag
    exact De Td T (m:=m + 1) (.loc m0) hk64 (by simp; exact hq) h3
   case hk=>exact .inl (by k_upd)
   exact fun J J=>rfl
  apply bb
  apply az
  apply bt
  case h =>
   apply af (v:=.d (.int q)) (vs:=[.d (.int r')])
   case hp=>rfl
   case h=>kd_p
   apply af (vs:=[])
   case hp=>rfl
   case h =>
    apply br
    case hx=>exact de (by k_upd) g2
    k_upd
   exact ag
  simp
end
section
set_option profiler.threshold 1000
variable {cx : Cx} {b : Bool} {n : Nat} {H : Hp}
theorem B9 {H : Hp} {o o' : O} : ((H ++ [o]) ++ [o']).take H.length = H:=by
 rw [List.append_assoc,List.take_append_of_le_length (Nat.le_refl _),List.take_length]
theorem N4 (T : Top cx) (Td : DTop cx) {a c q r : Int} {m : Nat} (hcl : Clo H H.length) (hc : 0 < c) (hcs : c < 1000) (hb : Builtin.Int.intBits c <= 16) (h : dmp a c = some (q,r)) :
  OpV cx true (m + 24) (fun rvs=>call (.ref 73) rvs []) [.d (.int a),.d (.int c)] H (.d (.tuple [.int q,.int r])) H:=by
 obtain ⟨qs,hx⟩:=Lq (m:=m) (H:=H) T Td hc hcs hb h
 have:=(c5 (vs:=[.d (.int a),.d (.int c)]) T.f73 rfl (by k_upd) hx).take (m:=H.length) (Nat.le_refl _) ((hcl.app (Nat.le_refl _)).app (by rw [List.length_append]; exact Nat.le_succ _)) trivial
 rw [B9] at this
 exact this
noncomputable def okA (l : Nat) : Bool:=(List.range 100).all fun a=>[12,8,7].all fun c=>dmp (l * 100 + a : Nat) (c : Nat) == some (((l * 100 + a : Nat) : Int).fdiv (c : Nat),((l * 100 + a : Nat) : Int).fmod (c : Nat))
theorem Mq : (okA 0 && (okA 1 && (okA 2 && (okA 3 && (okA 4 && (okA 5 && (okA 6 && (okA 7 && (okA 8 && (okA 9 && true)))))))))) = true:=by
 repeat' with_reducible refine look_both ?_ ?_
 all_goals decide +kernel
theorem Lk {a : Int} {c : Nat} (h0 : 0 <= a) (h1 : a < 1000) (hc : c = 12 \/ c = 8 \/ c = 7) : dmp a c = some (a.fdiv c,a.fmod c):=by
 have h2 : (List.range 10).all okA = true:=Mq
 have:=List.all_eq_true.mp h2 (a.toNat / 100) (List.mem_range.mpr (by omega))
 have:=List.all_eq_true.mp this (a.toNat % 100) (List.mem_range.mpr (Nat.mod_lt _ (by decide)))
 have:=List.all_eq_true.mp this c (by simp; exact hc)
 rw [beq_iff_eq,Nat.div_add_mod',Int.toNat_of_nonneg h0] at this
 exact this
noncomputable abbrev Cd (cx : Cx) (b : Bool) (n : Nat) (H : Hp) (a c q r : Int) : Prop:=OpV cx b n (fun rvs=>call (.ref 80) rvs []) [.d (.int a),.d (.int c)] H (.d (.tuple [.int q,.int r])) H
theorem Em (T : Top cx) (Td : DTop cx) {a : Int} {c : Nat} {m : Nat} (hcl : Clo H H.length) (h0 : 0 <= a) (h1 : a < 1000) (hc : c = 12 \/ c = 8 \/ c = 7) : Cd cx true (m + 25) H a c (a.fdiv c) (a.fmod c):=by
 have hb : Builtin.Int.intBits (c : Int) <= 16:=by rcases hc with rfl | rfl | rfl <;> decide +kernel
 refine c5 T.f80 rfl (by k_upd) ?_
 show Ex cx true _ (ak 9) (ar 9) [(S "a",.d (.int a)),(S "b",.d (.int _))] H _ H
 apply bb
 apply bp (c:=false)
 case h =>
  apply am
  case h1=>kd_p
  case h2=>kd_p
  case ho =>
   have:=pg (cx:=cx) (B:=true) (n:=m + 24) (H:=H) (a:=(c : Int)) (b:=0)
   rw [show ((c : Int) == 0) = false from by rw [beq_eq_false_iff_ne]; omega] at this
   exact this
  rfl
 rw [if_neg (by decide)]
 apply bb
 apply bp (c:=false)
 case h =>
  apply am
  case h1=>kd_p
  case h2=>kd_p
  case ho =>
   have:=Br (cx:=cx) (B:=true) (n:=m + 24) (H:=H) (a:=(c : Int)) (b:=0)
   rw [decide_eq_false (by omega)] at this
   exact this
  rfl
 rw [if_neg (by decide)]
 apply bb
 apply bp (c:=false)
 case h =>
  apply am
  case h1=>kd_p
  case h2=>kd_p
  case ho =>
   have:=Br (cx:=cx) (B:=true) (n:=m + 24) (H:=H) (a:=a) (b:=0)
   rw [decide_eq_false (by omega)] at this
   exact this
  rfl
 rw [if_neg (by decide)]
 apply bb
 apply az
 apply bd T
 case hx=>k_upd
 case hg=>exact (by k_upd : cb.lookup _ = some (.ref 73))
 case hd=>k_upd
 case F=>exact T.f73
 case hp=>k_upd
 case h=>kd_p1
 exact N4 T Td hcl (by omega) (by omega) hb (Lk h0 h1 hc)
theorem Lu {a c : Int} (hc : 0 < c) : Builtin.bitNot ((Builtin.bitNot a).fdiv c) = a.fdiv c /\ c + Builtin.bitNot ((Builtin.bitNot a).fmod c) = a.fmod c:=by
 have h0:=Int.le_of_lt hc
 rw [Int.fdiv_eq_ediv_of_nonneg _ h0,Int.fdiv_eq_ediv_of_nonneg _ h0,Int.fmod_eq_emod_of_nonneg _ h0,Int.fmod_eq_emod_of_nonneg _ h0]
 have e:=Int.emod_add_mul_ediv (Builtin.bitNot a) c
 have l:=Int.emod_lt_of_pos (Builtin.bitNot a) hc
 have g:=Int.emod_nonneg (Builtin.bitNot a) (Int.ne_of_gt hc)
 have k : c * (-(Builtin.bitNot a / c) - 1) = -(c * (Builtin.bitNot a / c)) - c:=by rw [Int.mul_sub,Int.mul_neg,Int.mul_one]
 generalize Builtin.bitNot a / c = q at *
 generalize Builtin.bitNot a % c = r at *
 have:=(Int.ediv_emod_unique (a:=a) (r:=c + Builtin.bitNot r) (q:=Builtin.bitNot q) hc).mpr ⟨by unfold Builtin.bitNot at *; rw [k]; omega,by unfold Builtin.bitNot; omega,by unfold Builtin.bitNot; omega⟩
 exact ⟨this.1.symm,this.2.symm⟩
theorem L8 (T : Top cx) (Td : DTop cx) {a : Int} {c : Nat} {m : Nat} (hcl : Clo H H.length) (h0 : a < 0) (h1 : -1000 < a) (hc : c = 12 \/ c = 8 \/ c = 7) : Cd cx true (m + 26) H a c (a.fdiv c) (a.fmod c):=by
 have e1:=Lu (a:=a) (c:=(c : Int)) (by rcases hc with rfl | rfl | rfl <;> decide)
 refine c5 T.f80 rfl (by k_upd) ?_
 show Ex cx true _ (ak 9) (ar 9) [(S "a",.d (.int a)),(S "b",.d (.int _))] H _ H
 apply bb
 apply bp (c:=false)
 case h =>
  apply am
  case h1=>kd_p
  case h2=>kd_p
  case ho =>
   have:=pg (cx:=cx) (B:=true) (n:=m + 25) (H:=H) (a:=(c : Int)) (b:=0)
   rw [show ((c : Int) == 0) = false from by rw [beq_eq_false_iff_ne]; omega] at this
   exact this
  rfl
 rw [if_neg (by decide)]
 apply bb
 apply bp (c:=false)
 case h =>
  apply am
  case h1=>kd_p
  case h2=>kd_p
  case ho =>
   have:=Br (cx:=cx) (B:=true) (n:=m + 25) (H:=H) (a:=(c : Int)) (b:=0)
   rw [decide_eq_false (by omega)] at this
   exact this
  rfl
 rw [if_neg (by decide)]
 apply bb
 apply bp (c:=true)
 case h =>
  apply am
  case h1=>kd_p
  case h2=>kd_p
  case ho =>
   have:=Br (cx:=cx) (B:=true) (n:=m + 25) (H:=H) (a:=a) (b:=0)
   rw [decide_eq_true (by exact h0)] at this
   exact this
  rfl
 rw [if_pos rfl]
 apply ah
 case h1 =>
  apply eg (ys:=[.int ((Builtin.bitNot a).fdiv c),.int ((Builtin.bitNot a).fmod c)])
  case h =>
   apply bd T
   case hx=>k_upd
   case hg=>exact (by k_upd : cb.lookup _ = some (.ref 80))
   case hd=>k_upd
   case F=>exact T.f80
   case hp=>k_upd
   case h =>
    apply af
    case hp=>rfl
    case h =>
     apply bn
     case h1=>kd_p
     exact sh
    kd_p1
   exact Em T Td hcl (by unfold Builtin.bitNot; omega) (by unfold Builtin.bitNot; omega) hc
  exact .cons (by k_upd) (.cons (by k_upd) .nil)
 apply bb
 apply az
 apply bt
 case h =>
  apply af (v:=.d (.int (a.fdiv c))) (vs:=[.d (.int (a.fmod c))])
  case hp=>rfl
  case h =>
   apply bn
   case h1=>kd_p
   rw [<- e1.1]; exact sh
  apply af (vs:=[])
  case hp=>rfl
  case h =>
   apply an
   case h1=>kd_p
   case h2 =>
    apply bn
    case h1=>kd_p
    exact sh
   rw [<- e1.2]; exact e7
  exact ag
 simp
theorem El (T : Top cx) (Td : DTop cx) {a : Int} {c : Nat} {m : Nat} (hcl : Clo H H.length) (h1 : -1000 < a /\ a < 1000) (hc : c = 12 \/ c = 8 \/ c = 7) : Cd cx true (m + 26) H a c (a.fdiv c) (a.fmod c):=by
 by_cases h : a < 0
 ·exact L8 T Td hcl h h1.1 hc
 ·exact Em (m:=m + 1) T Td hcl (by omega) h1.2 hc
theorem Ol (T : Top cx) (Td : DTop cx) {a : Int} {m : Nat} (hcl : Clo H H.length) (h1 : -1000 < a /\ a < 1000) : Cd cx true (m + 27) H a (-7) (a.fdiv (-7)) (a.fmod (-7)):=by
 have e1 : (-a).fdiv (7 : Nat) = a.fdiv (-7) /\ -((-a).fmod (7 : Nat)) = a.fmod (-7):=by
  have h1:=Int.neg_fdiv_neg a (-7)
  have h2 : (-a).fdiv (7 : Nat) = a.fdiv (-7):=h1
  refine ⟨h2,?_⟩
  have h3:=Int.fmod_def (-a) (7 : Nat)
  have h4:=Int.fmod_def a (-7)
  rw [h3,h4,h2]
  omega
 refine c5 T.f80 rfl (by k_upd) ?_
 show Ex cx true _ (ak 9) (ar 9) [(S "a",.d (.int a)),(S "b",.d (.int _))] H _ H
 apply bb
 apply bp (c:=false)
 case h =>
  apply am
  case h1=>kd_p
  case h2=>kd_p
  case ho=>exact pg
  rfl
 rw [if_neg (by decide)]
 apply bb
 apply bp (c:=true)
 case h =>
  apply am
  case h1=>kd_p
  case h2=>kd_p
  case ho=>exact Br
  rfl
 rw [if_pos rfl]
 apply ah
 case h1 =>
  apply eg (ys:=[.int ((-a).fdiv (7 : Nat)),.int ((-a).fmod (7 : Nat))])
  case h =>
   apply bd T
   case hx=>k_upd
   case hg=>exact (by k_upd : cb.lookup _ = some (.ref 80))
   case hd=>k_upd
   case F=>exact T.f80
   case hp=>k_upd
   case h =>
    apply af
    case hp=>rfl
    case h =>
     apply bn
     case h1=>kd_p
     exact gn
    apply af (v:=.d (.int ((7 : Nat) : Int))) (vs:=[])
    case hp=>rfl
    case h =>
     apply bn
     case h1=>kd_p
     exact gn (a:=-7)
    exact ag
   exact El T Td hcl ⟨by omega,by omega⟩ (.inr (.inr rfl))
  exact .cons (by k_upd) (.cons (by k_upd) .nil)
 apply bb
 apply az
 apply bt
 case h =>
  apply af (v:=.d (.int (a.fdiv (-7)))) (vs:=[.d (.int (a.fmod (-7)))])
  case hp=>rfl
  case h=>rw [<- e1.1]; kd_p
  apply af (vs:=[])
  case hp=>rfl
  case h =>
   apply bn
   case h1=>kd_p
   rw [<- e1.2]; exact gn
  exact ag
 simp
theorem N7 (T : Top cx) (Td : DTop cx) {a c : Int} {m : Nat} (hcl : Clo H H.length) (h1 : -1000 < a /\ a < 1000) (hc : c = 12 \/ c = 8 \/ c = -7) : Cd cx true (m + 27) H a c (a.fdiv c) (a.fmod c):=by
 rcases hc with rfl | rfl | rfl
 ·exact El (c:=12) (m:=m + 1) T Td hcl h1 (.inl rfl)
 ·exact El (c:=8) (m:=m + 1) T Td hcl h1 (.inr (.inl rfl))
 ·exact Ol T Td hcl h1
end
section
variable {cx : Cx} {b : Bool} {n : Nat} {H : Hp}
variable {N : Addr} {mN : Str -> Option Value} {fI fC fS fD fG fK fT : Addr}
noncomputable def dvs : Nat -> Int
 | 0=>12
 | 1=>8
 | _=>-7
noncomputable def stk (num : Nat -> Int) (k : Nat) : Nat -> Int
 | 0=>num k
 | m + 1=>(stk num k m).fdiv (dvs k)
noncomputable abbrev qt (num : Nat -> Int) (k m : Nat) : Int:=(stk num k m).fdiv (dvs k)
noncomputable abbrev rs (num : Nat -> Int) (k m : Nat) : Int:=(stk num k m).fmod (dvs k)
noncomputable def prD (num : Nat -> Int) (k m : Nat) : D:=.tuple [.int (qt num k m),.int (rs num k m)]
noncomputable def tt (r : Int) : Int:=if r < 0 then -r else r
noncomputable def tgt (num : Nat -> Int) (k m : Nat) : Nat:=((tt (rs num k m)).fmod 4).toNat
noncomputable def ck : Nat -> Str
 | 0=>S "b"
 | 1=>S "c"
 | _=>S "d"
noncomputable def t5 : Nat -> Str
 | 0=>S "B"
 | 1=>S "C"
 | _=>S "D"
noncomputable def cdL : Nat -> Str
 | 0=>S "a"
 | 1=>S "b"
 | 2=>S "c"
 | _=>S "d"
noncomputable def nmL (k m : Nat) : Str:=if m % 2 = 0 then t5 k else ck k
noncomputable def iz (num : Nat -> Int) (k m : Nat) : Row:=(nmL k m,cdL (tgt num k m))
noncomputable def bh (num : Nat -> Int) (k d : Nat) : List D:=(List.range d).map (prD num k)
theorem oj {num : Nat -> Int} {k d : Nat} : bh num k (d + 1) = bh num k d ++ [prD num k d]:=by unfold bh; rw [List.range_succ,List.map_append]; rfl
theorem fj {num : Nat -> Int} {k d : Nat} : (bh num k d).length = d:=by simp [bh]
theorem l0 {num : Nat -> Int} {k d : Nat} : (bh num k (d + 1)).getLast? = some (prD num k d):=by rw [oj]; simp
theorem cu {num : Nat -> Int} {k m : Nat} : tgt num k m < 4:=by
 unfold tgt
 have h0:=Int.fmod_nonneg_of_pos (tt (rs num k m)) (b:=4) (by decide)
 have h1:=Int.fmod_lt_of_pos (tt (rs num k m)) (b:=4) (by decide)
 omega
noncomputable def et (num : Nat -> Int) : Prop:=∀ k,-1000 < num k /\ num k < 1000
theorem yw {x : Int} {d : Int} (hd : 0 < d) (h : -1000 < x /\ x < 1000) : -1000 < x / d /\ x / d < 1000:=by
 exact ⟨Int.lt_of_lt_of_le (by decide : (-1000 : Int) < -999) (Int.le_ediv_of_mul_le hd (Int.le_trans (Int.mul_le_mul_of_nonpos_left (b:=d) (c:=1) (by decide) hd) h.1)),
  Int.ediv_lt_of_lt_mul hd (Int.lt_of_lt_of_le h.2 (Int.mul_le_mul_of_nonneg_left (a:=1) (b:=d) (c:=1000) hd (by decide)))⟩
theorem uu {num : Nat -> Int} (h : et num) {k : Nat} : ∀ m,-1000 < stk num k m /\ stk num k m < 1000
 | 0=>h k
 | m + 1=>by
  have ih:=uu h (k:=k) m
  unfold stk
  have : dvs k = 12 \/ dvs k = 8 \/ dvs k = -7:=by unfold dvs; split <;> simp
  rcases this with e | e | e <;> rw [e]
  ·rw [Int.fdiv_eq_ediv_of_nonneg _ (by decide)]; exact yw (by decide) ih
  ·rw [Int.fdiv_eq_ediv_of_nonneg _ (by decide)]; exact yw (by decide) ih
  ·have:=Int.neg_fdiv_neg (-(stk num k m)) 7
   rw [Int.neg_neg] at this
   rw [this,Int.fdiv_eq_ediv_of_nonneg _ (by decide)]; exact yw (by decide) ⟨Int.neg_lt_neg ih.2,Int.neg_lt_neg ih.1⟩
theorem yo (k : Nat) : dvs k = 12 \/ dvs k = 8 \/ dvs k = -7:=by unfold dvs; split <;> simp
theorem pi (m : Nat) : cdL m ∈ good:=by unfold cdL; split <;> decide +kernel
theorem pu (k m : Nat) : nmL k m ∈ good:=by unfold nmL t5 ck; split <;> split <;> decide +kernel
theorem G5 (k : Nat) : t5 k ∈ good:=by unfold t5; split <;> decide +kernel
theorem rn (k m : Nat) : Txt.lower (nmL k m) = ck k:=by
 unfold nmL t5 ck
 split <;> split <;> k_upd
theorem Jn (k : Nat) : Txt.lower (ck k) = ck k:=by unfold ck; split <;> k_upd
theorem Jo (k : Nat) : Txt.lower (t5 k) = ck k:=by unfold ck t5; split <;> k_upd
theorem bx {p : Nat} (h : p < 3) : p = 0 \/ p = 1 \/ p = 2:=(by decide : ∀ p < 3,p = 0 \/ p = 1 \/ p = 2) p h
theorem or3 {p : Nat} (h1 : 1 <= p) (h4 : p < 4) : p = 1 \/ p = 2 \/ p = 3:=(by decide : ∀ p < 4,1 <= p -> p = 1 \/ p = 2 \/ p = 3) p h4 h1
theorem of3 {p : Nat} (h : p = 1 \/ p = 2 \/ p = 3) : 1 <= p /\ p < 4:=by rcases h with rfl | rfl | rfl <;> decide
theorem Ob {m : Nat} : ((m : Int) + 1) % 2 = if m % 2 = 0 then 1 else 0:=by
 rw [show ((m : Int) + 1) % 2 = ((m + 1) % 2 : Nat) from rfl,Nat.add_mod]
 rcases Nat.mod_two_eq_zero_or_one m with h | h <;> rw [h] <;> rfl
theorem Jp {k m : Nat} (hk : k < 3) : fitsSsize ((k : Int) + ((m : Int) + 1).fmod 2 * 3) = true /\ (Txt.charAt (S "bcdBCD") ((k : Int) + ((m : Int) + 1).fmod 2 * 3)).isSome = true /\ Txt.item (S "bcdBCD") ((k : Int) + ((m : Int) + 1).fmod 2 * 3) = nmL k m:=by
 unfold nmL
 have e : ((m : Int) + 1).fmod 2 = if m % 2 = 0 then 1 else 0:=by
  rw [Int.fmod_eq_emod_of_nonneg _ (by decide)]
  exact Ob
 rw [e]
 rcases bx hk with rfl | rfl | rfl <;> split <;> exact ⟨by k_upd,by k_upd,by k_upd⟩
theorem zu {r : Int} : Txt.item (S "abcd") ((tt r).fmod 4) = cdL ((tt r).fmod 4).toNat:=by
 have h0:=Int.fmod_nonneg_of_pos (tt r) (b:=4) (by decide)
 have h1:=Int.fmod_lt_of_pos (tt r) (b:=4) (by decide)
 generalize (tt r).fmod 4 = m at h0 h1
 rcases Oe m h0 h1 with rfl | rfl | rfl | rfl <;> k_upd
theorem bv {xs : List D} {k : Nat} {x : D} {v : V} (L : Ls H v xs) (h : xs[k]? = some x) (hk : k < 1000) : OpV cx b n gi [v,.d (.int k)] H (.d x) H:=gj L h (by exact Nat.le_trans hk (by decide))
theorem Dw {k : Nat} (hk : k < 3) : ([.int 12,.int 8,.int (-7),.int 0] : List D)[k]? = some (.int (dvs k)):=by
 rcases bx hk with rfl | rfl | rfl <;> rfl
theorem Jg (T : Top cx) (Td : DTop cx) (HT : HTop cx N mN fI fC fS fD fG fK fT) (R : Regs cx) {num : Nat -> Int} (hs : et num) {k d iI iL iC iT lk : Nat} {ls : List Nat} {es cm : List Row} (hk : k < 3) (hI : H[iI]? = some (.ins iL)) (hL : H[iL]? = some (.lst (bg es))) (hes : ij es) (hC : H[iC]? = some (.lst (bg cm))) (hcm : cm.length <= 100)
  (hT : H[iT]? = some (.lsl ls)) (hls : ls[k]? = some lk) (hlk : H[lk]? = some (.lst (bh num k d))) (hd : d <= 100) (hcl : Clo H H.length) (h1 : iL ≠ iC) (h2 : lk ≠ iL) (h3 : lk ≠ iC) :
  ∃ lo',Ex cx true (n + 28) (ak 22) (ar 22) [(S "table",.loc iI),(S "came",.loc iC),(S "told",.loc iT),(S "left",.d (.int (stk num k d))),(S "k",.d (.int k))] H (.nxt lo')
   (((H.set lk (.lst (bh num k (d + 1)))).set iL (.lst (bg (jc es (nmL k d) ++ [iz num k d])))).set iC (.lst (bg (cm ++ [iz num k d])))):=by
 have hI1 : (H.set lk (.lst (bh num k (d + 1))))[iI]? = some (.ins iL):=aw hI (fun e=>by subst e; rw [hI] at hlk; cases hlk)
 have hL1 : (H.set lk (.lst (bh num k (d + 1))))[iL]? = some (.lst (bg es)):=aw hL h2
 have hT1 : (H.set lk (.lst (bh num k (d + 1))))[iT]? = some (.lsl ls):=aw hT (fun e=>by subst e; rw [hT] at hlk; cases hlk)
 have hlk1 : (H.set lk (.lst (bh num k (d + 1))))[lk]? = some (.lst (bh num k (d + 1))):=ge (aq hlk)
 have hcl1 : Clo (H.set lk (.lst (bh num k (d + 1)))) (H.set lk (.lst (bh num k (d + 1)))).length:=by rw [List.length_set]; exact hcl.set
 have hC2 : ((H.set lk (.lst (bh num k (d + 1)))).set iL (.lst (bg (jc es (nmL k d) ++ [iz num k d]))))[iC]? = some (.lst (bg cm)):=aw (aw hC h3) h1
 have hkk : (k : Nat) < 1000:=by exact Nat.le_trans hk (by decide)
 refine ⟨?lo,?ex⟩
 case ex =>
  apply ah
  case h1 =>
   apply c8
   case h =>
    apply ba
    case h0 =>
     apply av
     case h1=>kd_p
     case h2=>kd_p
     case ht=>exact ft hT
     case ho=>exact dt hT hls (by exact Nat.le_trans hkk (by decide))
     exact fun J J=>⟨_,rfl⟩
    case h =>
     apply af (vs:=[])
     case hp=>rfl
     case h =>
      apply bd T
      case hx=>k_upd
      case hg=>exact (by k_upd : cb.lookup _ = some (.ref 80))
      case hd=>k_upd
      case F=>exact T.f80
      case hp=>k_upd
      case h =>
       apply af (vs:=[.d (.int (dvs k))])
       case hp=>rfl
       case h=>kd_p
       apply af (vs:=[])
       case hp=>rfl
       case h =>
        apply av
        case h1 =>
         apply cn (xs:=[.int 12,.int 8,.int (-7),.int 0])
         case h =>
          apply af (v:=.d (.int 12)) (vs:=[.d (.int 8),.d (.int (-7)),.d (.int 0)])
          case hp=>rfl
          case h=>kd_p
          apply af (v:=.d (.int 8)) (vs:=[.d (.int (-7)),.d (.int 0)])
          case hp=>rfl
          case h=>kd_p
          apply af (v:=.d (.int (-7))) (vs:=[.d (.int 0)])
          case hp=>rfl
          case h =>
           apply bn
           case h1=>kd_p
           exact gn
          apply af (v:=.d (.int 0)) (vs:=[])
          case hp=>rfl
          case h=>kd_p
          exact ag
         decide
        case h2=>kd_p
        case ht=>exact bq .d
        case ho=>exact bv .d (Dw hk) hkk
        exact fun J J=>⟨_,rfl⟩
       exact ag
      exact N7 (m:=n + 1) T Td hcl (uu hs d) (yo k)
     exact ag
    case ht=>exact dy hlk
    case pa=>exact PySem.F.plainAttrs_list
    case slot=>exact PySem.F.slot_list_append
    case hty=>exact PySem.F.type_list_append
    case hp=>rfl
    case hline=>rfl
    case hbase=>exact fun J=>rfl
    case hfew=>exact fun J=>rfl
    have:=app_lst (cx:=cx) (B:=true) (n:=n + 28) (x:=prD num k d) hlk (by rw [fj]; exact Nat.le_trans hd (by decide))
    rw [<- oj] at this
    exact this
   exact fun J=>rfl
  apply ah
  case h1 =>
   apply ai (v:=.d (.str (nmL k d)))
   case h =>
    apply av
    case h1=>kd_p
    case h2 =>
     apply an (v:=.d (.int ((k : Int) + ((d : Int) + 1).fmod 2 * 3)))
     case h1=>kd_p
     case h2 =>
      apply an (v:=.d (.int (((d : Int) + 1).fmod 2 * 3)))
      case h1 =>
       apply an (v:=.d (.int (((d : Int) + 1).fmod 2)))
       case h1 =>
        apply bo
        case hx=>k_upd
        case hg=>kd_adr
        case hd=>k_upd
        case hp=>k_upd
        case h =>
         apply af (vs:=[])
         case hp=>rfl
         case h =>
          apply av
          case h1=>kd_p
          case h2=>kd_p
          case ht=>exact ft hT1
          case ho=>exact dt hT1 hls (by exact Nat.le_trans hkk (by decide))
          exact fun J J=>⟨_,rfl⟩
         exact ag
        have:=b8 (cx:=cx) (B:=true) (n:=n + 28) (Ls.loc hlk1) (by rw [fj]; exact Nat.lt_of_le_of_lt hd (by decide))
        rw [fj] at this
        exact this
       case h2=>kd_p
       exact jf (by decide)
      case h2=>kd_p
      exact Fv (IntMulOk.of_right (by decide +kernel))
     exact e7
    case ht=>exact kc
    case ho =>
     have h:=Jp (k:=k) (m:=d) hk
     rw [<- h.2.2]
     exact k8 h.1 h.2.1
    exact fun J J=>⟨_,rfl⟩
   exact .inl (by k_upd)
  apply ah
  case h1 =>
   apply ai (v:=.d (.str (cdL (tgt num k d))))
   case h =>
    apply av
    case h1=>kd_p
    case h2 =>
     apply an (v:=.d (.int ((tt (rs num k d)).fmod 4)))
     case h1 =>
      apply bo
      case hx=>k_upd
      case hg=>kd_adr
      case hd=>k_upd
      case hp=>k_upd
      case h =>
       apply af (vs:=[])
       case hp=>rfl
       case h =>
        apply av
        case h1 =>
         apply av
         case h1 =>
          apply av
          case h1=>kd_p
          case h2=>kd_p
          case ht=>exact ft hT1
          case ho=>exact dt hT1 hls (by exact Nat.le_trans hkk (by decide))
          exact fun J J=>⟨_,rfl⟩
         case h2=>kd_p
         case ht=>exact bq (.loc hlk1)
         case ho=>exact ly (.loc hlk1) l0
         exact fun J J=>⟨_,rfl⟩
        case h2=>kd_p
        case ht=>exact ca
        case ho=>exact cp (j:=1) (by rfl) (by decide) rfl
        exact fun J J=>⟨_,rfl⟩
       exact ag
      exact Fk
     case h2=>kd_p
     exact jf (by decide)
    case ht=>exact kc
    case ho =>
     have h:=yf (r:=tt (rs num k d))
     unfold tgt
     rw [<- zu]
     exact k8 h.1 h.2
    exact fun J J=>⟨_,rfl⟩
   exact .inl (by k_upd)
  apply ah
  case h1 =>
   apply c7
   case h1=>kd_p
   case h2=>kd_p
   case h3=>kd_p
   case h4=>exact Ga HT R (pu k d) (pi _) hI1 hL1 hes hcl1
   exact fun J=>rfl
  apply ah
  case h1 =>
   apply c8
   case h =>
    apply ba
    case h0=>kd_p
    case h =>
     apply af (vs:=[])
     case hp=>rfl
     case h =>
      apply bt (xs:=[.str (nmL k d),.str (cdL (tgt num k d))])
      case h =>
       apply af (vs:=[.d (.str (cdL (tgt num k d)))])
       case hp=>rfl
       case h=>kd_p
       apply af (vs:=[])
       case hp=>rfl
       case h=>kd_p
       exact ag
      simp
     exact ag
    case ht=>exact dy hC2
    case pa=>exact PySem.F.plainAttrs_list
    case slot=>exact PySem.F.slot_list_append
    case hty=>exact PySem.F.type_list_append
    case hp=>rfl
    case hline=>rfl
    case hbase=>exact fun J=>rfl
    case hfew=>exact fun J=>rfl
    have:=app_lst (cx:=cx) (B:=true) (n:=n + 28) (x:=k9 (iz num k d)) hC2 (by simp only [bg,List.length_map]; exact Nat.le_trans hcm (by decide))
    rw [show bg cm ++ [k9 (iz num k d)] = bg (cm ++ [iz num k d]) by simp [bg]] at this
    exact this
   exact fun J=>rfl
  exact bj
end
section
variable {cx : Cx} {b : Bool} {n : Nat} {H H1 H2 : Hp} {sc : Scope} {lo : Lo}
theorem ni {ρ : Rh} {X : List Addr} {h : Heap} {i : Nat} {a : Addr} (I : Inv cx ρ H X h) (e : ρ[i]? = some (some a)) : a ∉ dk (ρ.set i none):=fun hb=>by
 obtain ⟨j,ej⟩:=gg.mp hb
 rw [List.getElem?_set] at ej
 split at ej
 ·split at ej <;> cases ej
 ·rename_i hne; exact hne (I.nd i j a e ej)
theorem VOk.frzD {ρ : Rh} {X : List Addr} {h : Heap} {i : Nat} {es : List (Str × D)} {rv : Value} (I : Inv cx ρ H X h) (hi : H[i]? = some (.dct es)) (q : VOk cx (zH h ρ X) ρ rv (.loc i)) :
  VOk cx (zH h (ρ.set i none) X) (ρ.set i none) rv (.d (.dict (es.map enc))):=by
 refine al fun Gq kq=>?_
 obtain ⟨a,vs,e,⟨ns,o,ents,ep,ho,r1⟩,r⟩:=I.ob i _ hi
 refine kq ?_
 have hrv:=q.2 a e
 subst hrv
 exact .dict ⟨ns,o,ents,ep,ax.mpr ⟨ho,ni I e,I.dx a (b9 e)⟩,r1⟩ (r.sub d8)
theorem Ev.frzL {e : Expr} {i : Nat} {xs : List D} (h : Ev cx b n sc e lo H (.loc i) H1) (hi : H1[i]? = some (.lst xs)) : Ev cx b n sc e lo H (.d (.list xs)) (H1.set i .dead):=.mk fun A env X ρ s hs hr I F =>
 h.run hs hr I F fun ρ1 rv s1 a1 q1=>by
  have q2:=VOk.frz a1.inv hi q1
  rw [show frz i xs (.loc i) = .d (.list xs) from if_pos rfl] at q2
  exact ⟨ρ1.set i none,⟨a1.fin,a1.inv.freeze i,a1.ext.trans .freeze⟩,q2⟩
theorem Ev.frzD {e : Expr} {i : Nat} {es : List (Str × D)} (h : Ev cx b n sc e lo H (.loc i) H1) (hi : H1[i]? = some (.dct es)) : Ev cx b n sc e lo H (.d (.dict (es.map enc))) (H1.set i .dead):=.mk fun A env X ρ s hs hr I F =>
 h.run hs hr I F fun ρ1 rv s1 a1 q1=>by
  exact ⟨ρ1.set i none,⟨a1.fin,a1.inv.freeze i,a1.ext.trans .freeze⟩,VOk.frzD a1.inv hi q1⟩
noncomputable def l7 : List Nat -> Hp -> Hp
 | [],H=>H
 | l :: ls,H=>l7 ls (H.set l .dead)
noncomputable def frs (ls : List Nat) (f : Nat -> List D) : V -> V
 | .loc n=>if n ∈ ls then .d (.list (f n)) else .loc n
 | v=>v
theorem VsOk.frz {ρ : Rh} {X : List Addr} {h : Heap} {i : Nat} {xs : List D} (I : Inv cx ρ H X h) (hi : H[i]? = some (.lst xs)) : ∀ {rvs : List Value} {ws : List V},VsOk cx (zH h ρ X) ρ rvs ws -> VsOk cx (zH h (ρ.set i none) X) (ρ.set i none) rvs (ws.map (Mine.frz i xs))
 | [],[],_=>trivial
 | _ :: _,_ :: _,⟨q,r⟩=>⟨VOk.frz I hi q,VsOk.frz I hi r⟩
 | [],_ :: _,h=>h.elim
 | _ :: _,[],h=>h.elim
theorem z4 {X : List Addr} {h : Heap} {f : Nat -> List D} : ∀ (ls : List Nat) {ρ : Rh} {H : Hp} {rvs : List Value} {ws : List V},ls.Nodup -> (∀ l ∈ ls,H[l]? = some (.lst (f l))) -> Inv cx ρ H X h -> VsOk cx (zH h ρ X) ρ rvs ws ->
  ∃ ρ',Inv cx ρ' (l7 ls H) X h /\ Ext [] ρ h ρ' h /\ VsOk cx (zH h ρ' X) ρ' rvs (ws.map (frs ls f)) /\ ∀ j,j ∉ ls -> ρ'[j]? = ρ[j]?
 | [],ρ,H,rvs,ws,_,_,I,q=>⟨ρ,I,.refl _ _ _,by
   rw [show frs [] f = id from funext fun v=>by cases v <;> simp [frs]]; simpa using q,fun J J=>rfl⟩
 | l :: ls,ρ,H,rvs,ws,nd,hl,I,q=>by
  have nd':=List.nodup_cons.mp nd
  obtain ⟨ρ',I',e',q',k'⟩:=z4 ls (ρ:=ρ.set l none) (H:=H.set l .dead) nd'.2 (fun m hm=>by
   rw [List.getElem?_set,if_neg (fun e : l = m=>nd'.1 (e ▸ hm))]; exact hl m (.tail _ hm)) (I.freeze l) (VsOk.frz I (hl l (.head _)) q)
  refine ⟨ρ',I',Ext.trans .freeze e',?_,fun j hj=>?_⟩
  ·rw [List.map_map] at q'
   have : (frs ls f) ∘ (Mine.frz l (f l)) = frs (l :: ls) f:=funext fun v=>by
    cases v with
    | d x=>rfl
    | raw x=>rfl
    | loc m =>
     show frs ls f (if m = l then _ else _) = if m ∈ l :: ls then _ else _
     by_cases hm : m = l
     ·subst hm; simp [frs]
     ·simp [hm,frs]
   rwa [this] at q'
  ·rw [k' j fun h=>hj (.tail _ h),List.getElem?_set,if_neg (fun e : l = j=>hj (e ▸ .head _))]
theorem VOk.frzLL {ρ : Rh} {X : List Addr} {h : Heap} {i : Nat} {ls : List Nat} {f : Nat -> List D} {rv : Value} (I : Inv cx ρ H X h) (hi : H[i]? = some (.lsl ls)) (nd : ls.Nodup) (hl : ∀ l ∈ ls,H[l]? = some (.lst (f l))) (q : VOk cx (zH h ρ X) ρ rv (.loc i)) :
  ∃ ρ',Inv cx ρ' ((l7 ls H).set i .dead) X h /\ Ext [] ρ h ρ' h /\ VOk cx (zH h ρ' X) ρ' rv (.d (.list (ls.map fun l=>.list (f l)))):=by
 refine al fun Gq kq=>?_
 obtain ⟨a,vs,e,l,r⟩:=I.ob i _ hi
 refine kq ?_
 have hrv:=q.2 a e
 subst hrv
 have hni : i ∉ ls:=fun h=>by have:=hl i h; rw [hi] at this; cases this
 refine al fun Gq kq=>?_
 obtain ⟨ρ',I',e',q',k'⟩:=z4 ls nd hl I r
 refine kq ?_
 have e2 : ρ'[i]? = some (some a):=(k' i hni).trans e
 refine ⟨ρ'.set i none,I'.freeze i,e'.trans .freeze,?_⟩
 obtain ⟨k,ho⟩:=l
 have : (ls.map V.loc).map (frs ls f) = (ls.map fun l=>PyData.list (f l)).map .d:=by
  rw [List.map_map,List.map_map]
  refine List.map_congr_left fun l hl=>?_
  show (if l ∈ ls then _ else _) = _
  rw [if_pos hl]; rfl
 rw [this] at q'
 exact .list ⟨k,ax.mpr ⟨ho,ni I' e2,I'.dx a (b9 e2)⟩⟩ (q'.ds.sub d8)
theorem Ev.frzLL {e : Expr} {i : Nat} {ls : List Nat} {f : Nat -> List D} (h : Ev cx b n sc e lo H (.loc i) H1) (hi : H1[i]? = some (.lsl ls)) (nd : ls.Nodup) (hl : ∀ l ∈ ls,H1[l]? = some (.lst (f l))) :
  Ev cx b n sc e lo H (.d (.list (ls.map fun l=>.list (f l)))) ((l7 ls H1).set i .dead):=.mk fun A env X ρ s hs hr I F =>
 h.run hs hr I F fun ρ1 rv s1 a1 q1=>by
  obtain ⟨ρ',I',e',q'⟩:=VOk.frzLL a1.inv hi nd hl q1
  exact ⟨ρ',⟨a1.fin,I',a1.ext.trans (e'.mono fun J h=>nomatch h)⟩,q'⟩
theorem Ew {ls : List Nat} {i : Nat} (hi : i ∉ ls) : ∀ {H : Hp},(l7 ls H)[i]? = H[i]?:=by
 induction ls with
 | nil=>intro H; rfl
 | cons l ls ih=>intro H; show (l7 ls _)[i]? = _; rw [ih fun h=>hi (.tail _ h),List.getElem?_set,if_neg (fun e : l = i=>hi (e ▸ .head _))]
theorem OpV.frzL {t : List Value -> Sem Value} {vs : List V} {i : Nat} {xs : List D} (h : OpV cx b n t vs H (.loc i) H1) (hi : H1[i]? = some (.lst xs)) : OpV cx b n t vs H (.d (.list xs)) (H1.set i .dead):=.mk fun A X ρ s rvs hrm I q =>
 h.run rvs hrm I q fun ρ1 rv s1 a1 q1=>by
  have q2:=VOk.frz a1.inv hi q1
  rw [show Mine.frz i xs (.loc i) = .d (.list xs) from if_pos rfl] at q2
  exact ⟨ρ1.set i none,⟨a1.fin,a1.inv.freeze i,a1.ext.trans .freeze⟩,q2⟩
theorem OpV.frzD {t : List Value -> Sem Value} {vs : List V} {i : Nat} {es : List (Str × D)} (h : OpV cx b n t vs H (.loc i) H1) (hi : H1[i]? = some (.dct es)) : OpV cx b n t vs H (.d (.dict (es.map enc))) (H1.set i .dead):=.mk fun A X ρ s rvs hrm I q =>
 h.run rvs hrm I q fun ρ1 rv s1 a1 q1=>by
  exact ⟨ρ1.set i none,⟨a1.fin,a1.inv.freeze i,a1.ext.trans .freeze⟩,VOk.frzD a1.inv hi q1⟩
theorem fo {H : Hp} {K : Hp} : (H ++ K).take H.length = H:=by simp
noncomputable def dz : Nat -> Str
 | 0=>S "b"
 | 1=>S "c"
 | _=>S "~"
noncomputable def anL : Nat -> Str
 | 1=>S "<b>"
 | 2=>S "c>"
 | _=>S "<d"
noncomputable def an0 : Nat -> Str
 | 1=>S "{b}"
 | 2=>S "c>"
 | _=>S "<d"
noncomputable def ti (k m j : Nat) : Str:=if k = 2 /\ m = 0 then an0 j else dz k ++ Str.ofString ":" ++ Str.ofString (toString (m : Int)) ++ Str.ofString "(" ++ anL j ++ Str.ofString ")"
theorem lj {x y : Str} {i j : Int} : PyData.eqv (.tuple [.str x,.int i]) (.tuple [.str y,.int j]) = (x == y && i == j):=by
 simp [PyData.eqv,PyData.eqvAll]
theorem g7 (s : String) : PyData.strOk (Str.ofString s) = true:=by
 rw [Str.ofString_eq_toList]
 unfold PyData.strOk
 simp only [Array.all_eq_true']
 intro c hc
 simp only [List.mem_toArray,List.mem_map] at hc
 obtain ⟨d,_,rfl⟩:=hc
 have:=d.valid
 simp only [decide_eq_true_eq]
 show d.val.toNat < _
 rcases this with h | h
 ·have : d.val.toNat < 0xd800:=h
  exact Nat.le_trans this (by decide)
 ·exact h.2
theorem mo {x y : Str} (hx : PyData.strOk x = true) (hy : PyData.strOk y = true) : PyData.strOk (x ++ y) = true:=by
 unfold PyData.strOk at *
 show (x.cps ++ y.cps).all _ = true
 rw [Array.all_append,hx,hy]; rfl
theorem c4 {x : Str} {i : Int} (h : PyData.strOk x = true) : SeqAt.shaped (.tuple [.str x,.int i]) = true:=by
 simp [SeqAt.shaped,PyData.canLay0,PyData.canLayAll0,PyData.depth,PyData.depthAll,h]
theorem mz {k : Nat} : PyData.strOk (dz k) = true:=by unfold dz; split <;> exact g7 _
theorem Ms : Str.ofString "{%s}" = ⟨#[123,37,115,125]⟩:=by k_upd
theorem Ci {j : Nat} : (anL j).length <= 1000:=by unfold anL; split <;> decide +kernel
theorem kl {k : Nat} : (dz k).length <= 1000:=by unfold dz; split <;> decide +kernel
theorem u2 {k m : Nat} (hk : k < 3) : (dz k == S "~" && (m : Int) == 0) = decide (k = 2 /\ m = 0):=by
 have e : ((m : Int) == 0) = decide (m = 0):=by rw [Bool.eq_iff_iff]; simp
 rw [e]
 rcases bx hk with rfl | rfl | rfl
 ·rw [show (dz 0 == S "~") = false by k_upd]; simp
 ·rw [show (dz 1 == S "~") = false by k_upd]; simp
 ·rw [show (dz 2 == S "~") = true by k_upd]; simp
theorem Oj {k : Nat} (hk : k < 3) {j m : Nat} (hm : m < 1000) (hc : ¬(k = 2 /\ m = 0)) : Ex cx b n (ak 11) (ar 11) [(S "func_name",.d (.tuple [.str (dz k),.int m,.str (anL j)]))] H (.ret (.d (.str (dz k ++ Str.ofString ":" ++ Str.ofString (toString (m : Int)) ++ Str.ofString "(" ++ anL j ++ Str.ofString ")")))) H:=by
 apply bb
 apply bp (c:=false)
 case h =>
  apply am (c:=false)
  case h1 =>
   apply dh
   case h1=>kd_p
   case h2=>exact di
   case h3 =>
    apply dj
    kd_p
   case ht=>exact ca
   exact ol (k:=2) (by simp) (by simp)
  case h2 =>
   apply bt (xs:=[.str (S "~"),.int 0])
   case h =>
    apply af (v:=.d (.str (S "~"))) (vs:=[.d (.int 0)])
    case hp=>exact rfl
    case h=>kd_p
    apply af (v:=.d (.int 0)) (vs:=[])
    case hp=>exact rfl
    case h=>kd_p
    exact ag
   simp
  case ho =>
   have:=ix (cx:=cx) (B:=b) (n:=n) (H:=H) (Cm.d (x:=.tuple [.str (dz k),.int m])) (Cm.d (x:=.tuple [.str (S "~"),.int 0])) (c4 mz) (c4 (g7 _))
   rw [lj,u2 hk,decide_eq_false hc] at this
   exact this
  rfl
 rw [if_neg (by decide)]
 apply bb
 apply az
 apply an
 case h1=>kd_p
 case h2=>kd_p
 rw [Ie]
 exact Mp (by exact Int.ofNat_nonneg _) (by omega) kl Ci
theorem Og {k m : Nat} (hk : k < 3) (hc : k = 2 /\ m = 0) : Ex cx b n (ak 11) (ar 11) [(S "func_name",.d (.tuple [.str (dz k),.int m,.str (S "<b>")]))] H (.ret (.d (.str (S "{b}")))) H:=by
 apply bb
 apply bp (c:=true)
 case h =>
  apply am (c:=true)
  case h1 =>
   apply dh
   case h1=>kd_p
   case h2=>exact di
   case h3 =>
    apply dj
    kd_p
   case ht=>exact ca
   exact ol (k:=2) (by simp) (by simp)
  case h2 =>
   apply bt (xs:=[.str (S "~"),.int 0])
   case h =>
    apply af (v:=.d (.str (S "~"))) (vs:=[.d (.int 0)])
    case hp=>exact rfl
    case h=>kd_p
    apply af (v:=.d (.int 0)) (vs:=[])
    case hp=>exact rfl
    case h=>kd_p
    exact ag
   simp
  case ho =>
   have:=ix (cx:=cx) (B:=b) (n:=n) (H:=H) (Cm.d (x:=.tuple [.str (dz k),.int m])) (Cm.d (x:=.tuple [.str (S "~"),.int 0])) (c4 mz) (c4 (g7 _))
   rw [lj,u2 hk,decide_eq_true hc] at this
   exact this
  rfl
 rw [if_pos rfl]
 apply ah
 case h1 =>
  apply ai (v:=_)
  case h =>
   apply av
   case h1=>kd_p
   case h2=>kd_p
   case ht=>exact ca
   case ho=>exact cp (j:=2) (by rfl) (by decide) rfl
   exact fun J J=>⟨_,rfl⟩
  exact .inl (by k_upd)
 apply bb
 apply bp (c:=true)
 case h =>
  apply ir
  case h =>
   apply dw
   case hp=>exact fun J J=>rfl
   case h =>
    apply ba
    case h0=>kd_p
    case h =>
     apply af
     case hp=>exact rfl
     case h=>kd_p
     exact ag
    case ht=>exact d9
    case pa=>exact PySem.F.plainAttrs_str
    case slot=>exact PySem.F.slot_str_startswith
    case hty=>exact PySem.F.type_str_startswith
    case hp=>exact rfl
    case hline=>exact rfl
    case hbase=>exact fun J=>rfl
    case hfew=>exact fun J=>rfl
    exact j7
   rw [show Txt.startswith (S "<b>") (Str.ofString "<") = true by k_upd]
   exact fa
  apply ir
  case h =>
   apply dw
   case hp=>exact fun J J=>rfl
   case h =>
    apply ba
    case h0=>kd_p
    case h =>
     apply af
     case hp=>exact rfl
     case h=>kd_p
     exact ag
    case ht=>exact d9
    case pa=>exact PySem.F.plainAttrs_str
    case slot=>exact PySem.F.slot_str_endswith
    case hty=>exact PySem.F.type_str_endswith
    case hp=>exact rfl
    case hline=>exact rfl
    case hbase=>exact fun J=>rfl
    case hfew=>exact fun J=>rfl
    exact rz
   rw [show Txt.endswith (S "<b>") (Str.ofString ">") = true by k_upd]
   exact fa
  exact o8
 rw [if_pos rfl]
 apply bb
 apply az
 rw [show (S "{b}") = Str.ofString "{" ++ S "b" ++ Str.ofString "}" by k_upd]
 apply an
 case h1=>kd_p
 case h2 =>
  apply dh
  case h1=>kd_p
  case h2 =>
   apply dj
   kd_p
  case h3 =>
   apply dj
   kd_p
  case ht=>exact kc
  exact M1 (by decide +kernel)
 rw [Ms,show Txt.slice (S "<b>") (some 1) (some (-1)) = S "b" by k_upd]
 exact Fl (z:=S "b") (by decide +kernel)
theorem Oh {k m : Nat} (hk : k < 3) (hc : k = 2 /\ m = 0) : Ex cx b n (ak 11) (ar 11) [(S "func_name",.d (.tuple [.str (dz k),.int m,.str (S "c>")]))] H (.ret (.d (.str (S "c>")))) H:=by
 apply bb
 apply bp (c:=true)
 case h =>
  apply am (c:=true)
  case h1 =>
   apply dh
   case h1=>kd_p
   case h2=>exact di
   case h3 =>
    apply dj
    kd_p
   case ht=>exact ca
   exact ol (k:=2) (by simp) (by simp)
  case h2 =>
   apply bt (xs:=[.str (S "~"),.int 0])
   case h =>
    apply af (v:=.d (.str (S "~"))) (vs:=[.d (.int 0)])
    case hp=>exact rfl
    case h=>kd_p
    apply af (v:=.d (.int 0)) (vs:=[])
    case hp=>exact rfl
    case h=>kd_p
    exact ag
   simp
  case ho =>
   have:=ix (cx:=cx) (B:=b) (n:=n) (H:=H) (Cm.d (x:=.tuple [.str (dz k),.int m])) (Cm.d (x:=.tuple [.str (S "~"),.int 0])) (c4 mz) (c4 (g7 _))
   rw [lj,u2 hk,decide_eq_true hc] at this
   exact this
  rfl
 rw [if_pos rfl]
 apply ah
 case h1 =>
  apply ai (v:=_)
  case h =>
   apply av
   case h1=>kd_p
   case h2=>kd_p
   case ht=>exact ca
   case ho=>exact cp (j:=2) (by rfl) (by decide) rfl
   exact fun J J=>⟨_,rfl⟩
  exact .inl (by k_upd)
 apply bb
 apply bp (c:=false)
 case h =>
  apply l6
  apply dw
  case hp=>exact fun J J=>rfl
  case h =>
   apply ba
   case h0=>kd_p
   case h =>
    apply af
    case hp=>exact rfl
    case h=>kd_p
    exact ag
   case ht=>exact d9
   case pa=>exact PySem.F.plainAttrs_str
   case slot=>exact PySem.F.slot_str_startswith
   case hty=>exact PySem.F.type_str_startswith
   case hp=>exact rfl
   case hline=>exact rfl
   case hbase=>exact fun J=>rfl
   case hfew=>exact fun J=>rfl
   exact j7
  rw [show Txt.startswith (S "c>") (Str.ofString "<") = false by k_upd]
  exact fa
 rw [if_neg (by decide)]
 apply bb
 apply az
 kd_p
theorem Oi {k m : Nat} (hk : k < 3) (hc : k = 2 /\ m = 0) : Ex cx b n (ak 11) (ar 11) [(S "func_name",.d (.tuple [.str (dz k),.int m,.str (S "<d")]))] H (.ret (.d (.str (S "<d")))) H:=by
 apply bb
 apply bp (c:=true)
 case h =>
  apply am (c:=true)
  case h1 =>
   apply dh
   case h1=>kd_p
   case h2=>exact di
   case h3 =>
    apply dj
    kd_p
   case ht=>exact ca
   exact ol (k:=2) (by simp) (by simp)
  case h2 =>
   apply bt (xs:=[.str (S "~"),.int 0])
   case h =>
    apply af (v:=.d (.str (S "~"))) (vs:=[.d (.int 0)])
    case hp=>exact rfl
    case h=>kd_p
    apply af (v:=.d (.int 0)) (vs:=[])
    case hp=>exact rfl
    case h=>kd_p
    exact ag
   simp
  case ho =>
   have:=ix (cx:=cx) (B:=b) (n:=n) (H:=H) (Cm.d (x:=.tuple [.str (dz k),.int m])) (Cm.d (x:=.tuple [.str (S "~"),.int 0])) (c4 mz) (c4 (g7 _))
   rw [lj,u2 hk,decide_eq_true hc] at this
   exact this
  rfl
 rw [if_pos rfl]
 apply ah
 case h1 =>
  apply ai (v:=_)
  case h =>
   apply av
   case h1=>kd_p
   case h2=>kd_p
   case ht=>exact ca
   case ho=>exact cp (j:=2) (by rfl) (by decide) rfl
   exact fun J J=>⟨_,rfl⟩
  exact .inl (by k_upd)
 apply bb
 apply bp (c:=false)
 case h =>
  apply ir
  case h =>
   apply dw
   case hp=>exact fun J J=>rfl
   case h =>
    apply ba
    case h0=>kd_p
    case h =>
     apply af
     case hp=>exact rfl
     case h=>kd_p
     exact ag
    case ht=>exact d9
    case pa=>exact PySem.F.plainAttrs_str
    case slot=>exact PySem.F.slot_str_startswith
    case hty=>exact PySem.F.type_str_startswith
    case hp=>exact rfl
    case hline=>exact rfl
    case hbase=>exact fun J=>rfl
    case hfew=>exact fun J=>rfl
    exact j7
   rw [show Txt.startswith (S "<d") (Str.ofString "<") = true by k_upd]
   exact fa
  apply l6
  apply dw
  case hp=>exact fun J J=>rfl
  case h =>
   apply ba
   case h0=>kd_p
   case h =>
    apply af
    case hp=>exact rfl
    case h=>kd_p
    exact ag
   case ht=>exact d9
   case pa=>exact PySem.F.plainAttrs_str
   case slot=>exact PySem.F.slot_str_endswith
   case hty=>exact PySem.F.type_str_endswith
   case hp=>exact rfl
   case hline=>exact rfl
   case hbase=>exact fun J=>rfl
   case hfew=>exact fun J=>rfl
   exact rz
  rw [show Txt.endswith (S "<d") (Str.ofString ">") = false by k_upd]
  exact fa
 rw [if_neg (by decide)]
 apply bb
 apply az
 kd_p
theorem N6 (T : Top cx) {k j m : Nat} (hk : k < 3) (hj : j = 1 \/ j = 2 \/ j = 3) (hm : m < 1000) : OpV cx b (n + 1) (fun rvs=>call (.ref 87) rvs []) [.d (.tuple [.str (dz k),.int m,.str (anL j)])] H (.d (.str (ti k m j))) H:=by
 refine c5 T.f87 rfl (by k_upd) ?_
 unfold ti
 by_cases hc : k = 2 /\ m = 0
 ·rw [if_pos hc]
  rcases hj with rfl | rfl | rfl
  ·exact Og hk hc
  ·exact Oh hk hc
  ·exact Oi hk hc
 ·rw [if_neg hc]
  exact Oj hk hm hc
inductive qh (cx : Cx) (n : Nat) (sc : Scope) (tgt : Expr) (body : List Stmt) (x : V) (lo : Lo) (H : Hp) (lo' : Lo) (H' : Hp) : Prop
 | mk {lo1 lo2 H2} (ha : As cx true sc tgt x lo lo1) (hb : Ex cx true n sc body lo1 H (.nxt lo2) H2) (hc : Cnv cx H.length lo2 H2 lo' H') : qh cx n sc tgt body x lo H lo' H'
theorem im {α σ : Type} {tgt : Expr} {body : List Stmt} {C : Hp -> Prop} (f : α -> D) (step : σ -> α -> σ) (P : List α -> σ -> Prop) (lo : σ -> Lo) (HS : σ -> Hp)
  (hs : ∀ a es s,P (a :: es) s -> C (HS s) /\ P es (step s a) /\ qh cx n sc tgt body (.d (f a)) (lo s) (HS s) (lo (step s a)) (HS (step s a)))
  (h0 : ∀ s,P [] s -> C (HS s)) : ∀ es s,P es s -> Fo cx true n sc tgt body C ((es.map f).map .d) (lo s) (HS s) (.nxt (lo (es.foldl step s))) (HS (es.foldl step s))
 | [],s,h=>.nil (h0 s h)
 | a :: es,s,h=>by
  refine al fun Gq kq=>?_
  obtain ⟨h1,h2,h3,h4,h5⟩:=hs a es s h
  refine kq ?_
  exact .step h1 h3 h4 h5 (im f step P lo HS hs h0 es (step s a) h2)
theorem Fo.one {tgt : Expr} {body : List Stmt} {C : Hp -> Prop} {x : V} {lo lo' : Lo} {H H' : Hp} (h : C H) (t : qh cx n sc tgt body x lo H lo' H') (h' : C H') : Fo cx true n sc tgt body C [x] lo H (.nxt lo') H':=by
 obtain ⟨h1,h2,h3⟩:=t
 exact .step h h1 h2 h3 (.nil h')
noncomputable def csD (cs : List (Str × Int)) : List (Str × D):=cs.map fun p=>(p.1,(.int p.2 : D))
noncomputable def kf (es : List (Str × Int)) (k : Str) (x : Int) : List (Str × Int):=if es.any (fun e=>e.1 = k) then es.map (fun e=>if e.1 = k then (e.1,x) else e) else es ++ [(k,x)]
theorem pn {cs : List (Str × Int)} {k : Str} {x : Int} : ym (csD cs) k (.int x) = csD (kf cs k x):=by
 unfold ym kf csD
 rw [List.any_map]
 have : ((fun e : Str × D=>decide (e.1 = k)) ∘ fun p : Str × Int=>(p.1,(PyData.int p.2 : D))) = fun e=>decide (e.1 = k):=rfl
 rw [this]
 split
 ·rw [List.map_map,List.map_map]
  refine List.map_congr_left fun e J=>?_
  show (if e.1 = k then _ else _) = _
  by_cases h : e.1 = k <;> simp [h]
 ·rw [List.map_append]; rfl
theorem ml {cs : List (Str × Int)} {k : Str} : (csD cs).lookup k = (cs.lookup k).map fun i=>(.int i : D):=by
 unfold csD
 exact je
theorem pj {cs : List (Str × Int)} : (csD cs).length = cs.length:=by simp [csD]
noncomputable def bump (cs : List (Str × Int)) (p : Str) : List (Str × Int):=kf cs p ((cs.lookup p).getD 0 + 1)
theorem Er {cs : List (Str × Int)} {k : Str} {x : Int} (h : k ∉ cs.map (·.1)) : kf cs k x = cs ++ [(k,x)]:=by
 unfold kf
 rw [if_neg]
 intro hh
 obtain ⟨e,he,hk⟩:=List.any_eq_true.mp hh
 exact h (List.mem_map.mpr ⟨e,he,of_decide_eq_true hk⟩)
theorem zx : ∀ {es acc : List (Str × Int)},((acc ++ es).map (·.1)).Nodup -> es.foldl (fun a e=>kf a e.1 e.2) acc = acc ++ es
 | [],acc,_=>by simp
 | (k,x) :: es,acc,h=>by
  rw [List.foldl_cons]
  have hn : k ∉ acc.map (·.1):=fun hk=>by
   rw [List.map_append,List.nodup_append] at h
   exact h.2.2 k hk k (by simp) rfl
  show es.foldl _ (kf acc k x) = _
  rw [Er hn,zx (by rw [List.append_assoc]; exact h),List.append_assoc]; rfl
theorem B0 {cs : List (Str × Int)} : (csD cs).map Gg = cs.map fun p=>PyData.tuple [.str p.1,.int p.2]:=by
 unfold csD
 rw [List.map_map]; rfl
noncomputable abbrev aLo (t s : List (Str × Int)) (i : Nat) : Lo:=[(S "new_callers",.loc i),(S "target",.d (.dict ((csD t).map enc))),(S "source",.d (.dict ((csD s).map enc)))]
theorem K6 {x y : Str} {u w : V} {lo : Lo} (hx : lo.lookup x = none) (hy : lo.lookup y = none) (hxy : x ≠ y) : ∀ z v,lo.lookup z = some v -> List.lookup z ((x,u) :: (y,w) :: lo) = some v:=fun z v e=>by
 refine cj ?_ z v (cj hy z v e)
 rw [List.lookup_cons]
 rw [beq_eq_false_iff_ne.mpr hxy]
 exact hx
theorem G8 {x y : Str} {u u' w : V} {lo : Lo} (hxy : y ≠ x) (hy : lo.lookup y = none) : ∀ z v,List.lookup z ((x,u) :: lo) = some v -> List.lookup z ((x,u) :: (y,w) :: (x,u') :: lo) = some v:=fun z v e=>by
 rw [List.lookup_cons] at e ⊢
 cases c : z == x with
 | true=>rw [c] at e; exact e
 | false =>
  rw [c] at e
  show List.lookup z ((y,w) :: (x,u') :: lo) = some v
  refine cj (by rw [List.lookup_cons,beq_eq_false_iff_ne.mpr hxy]; exact hy) z v ?_
  rw [List.lookup_cons,c]; exact e
theorem i9 {t : List (Str × Int)} {p : Str} (T : Top cx) (hnd : (t.map (·.1)).Nodup) (hsz : t.length <= 1000) : Ex cx true n (ak 13) (ar 13) [(S "target",.d (.dict ((csD t).map enc))),(S "source",.d (.dict ((csD [(p,1)]).map enc)))] H (.ret (.loc H.length)) (H ++ [.dct (csD (bump t p))]):=by
 apply ah
 case h1 =>
  apply ai (v:=_)
  case h=>apply qr
  exact .inl (by k_upd)
 apply ah
 case h1 =>
  apply dp (C:=fun J=>True) (xs:=((t.map fun p=>PyData.tuple [.str p.1,.int p.2]).map .d))
  case hit =>
   rw [<- B0]
   exact xb (x:=S "target") (es:=csD t) (by kd_in) (.inl (by k_upd)) (by k_upd) (by k_upd) rfl
  refine im (C:=fun J=>True) (σ:=List (Str × Int)) (fun p : Str × Int=>PyData.tuple [.str p.1,.int p.2]) (fun a e=>kf a e.1 e.2) (fun es a=>a.length + es.length <= 1000) (fun J=>aLo t [(p,1)] H.length) (fun a=>H ++ [.dct (csD a)]) (fun e es a ha=>⟨trivial,?_,?turn⟩) (fun J J=>trivial) t [] (by simpa using hsz)
  ·have : (kf a e.1 e.2).length <= a.length + 1:=by unfold kf; split <;> simp
   have ha : a.length + (es.length + 1) <= 1000:=ha
   show (kf a e.1 e.2).length + es.length <= 1000
   omega
  apply qh.mk
  case ha=>exact eu (.cons (by k_upd) (.cons (by k_upd) .nil))
  case hb =>
   apply ah
   case h1 =>
    apply c7
    case h1=>kd_p
    case h2=>kd_p
    case h3=>kd_p
    case h4=>exact jr ay (by have ha : a.length + (es.length + 1) <= 1000:=ha; rw [pj]; exact Nat.le_trans (Nat.le_add_right _ _) (Nat.le_trans ha (by decide)))
    exact fun J=>rfl
   exact bj
  rw [cr,pn]
  exact .weak (K6 (by k_upd) (by k_upd) (by decide +kernel))
 rw [show t.foldl (fun a e=>kf a e.1 e.2) [] = t from zx (acc:=[]) hnd]
 apply ah
 case h1 =>
  apply dp (C:=fun J=>True) (xs:=[.d (.tuple [.str p,.int 1])])
  case hit =>
   rw [show [V.d (.tuple [.str p,.int 1])] = ((csD [(p,1)]).map Gg).map .d from rfl]
   exact xb (x:=S "source") (es:=csD [(p,1)]) (by kd_in) (.inl (by k_upd)) (by k_upd) (by k_upd) rfl
  refine Fo.one (lo':=aLo t [(p,1)] H.length) (H':=H ++ [.dct (csD (bump t p))]) trivial ?trn trivial
  apply qh.mk
  case ha=>exact eu (.cons (by k_upd) (.cons (by k_upd) .nil))
  case hb =>
   have hin : ((csD t).lookup p).isSome = (t.lookup p).isSome:=by rw [ml]; cases t.lookup p <;> rfl
   apply ah (H1:=H ++ [.dct (csD (bump t p))])
   case h1 =>
    cases hq : t.lookup p with
    | none =>
     have hi : ((csD t).lookup p).isSome = false:=by rw [hin,hq]; rfl
     have hb : bump t p = kf t p 1:=by unfold bump; rw [hq]; rfl
     rw [hb]
     apply bp (c:=false)
     case h =>
      apply am (c:=false)
      case h1=>kd_p
      case h2=>kd_p
      case ho =>
       have:=ug (cx:=cx) (B:=true) (n:=n) (k:=p) (Dc.loc (ay (H:=H) (o:=.dct (csD t))))
       rw [hi] at this
       exact this
      rfl
     rw [if_neg (by decide)]
     apply ah
     case h1 =>
      apply c7
      case h1=>kd_p
      case h2=>kd_p
      case h3=>kd_p
      case h4 =>
       have:=jr (cx:=cx) (B:=true) (n:=n) (k:=p) (x:=.int 1) (ay (H:=H) (o:=.dct (csD t))) (by rw [pj]; exact Nat.le_trans hsz (by decide))
       rw [cr,pn] at this
       exact this
      exact fun J=>rfl
     exact bj
    | some w =>
     have hi : ((csD t).lookup p).isSome = true:=by rw [hin,hq]; rfl
     have hb : bump t p = kf t p (w + 1):=by unfold bump; rw [hq]; rfl
     rw [hb]
     apply bp (c:=true)
     case h =>
      apply am (c:=true)
      case h1=>kd_p
      case h2=>kd_p
      case ho =>
       have:=ug (cx:=cx) (B:=true) (n:=n) (k:=p) (Dc.loc (ay (H:=H) (o:=.dct (csD t))))
       rw [hi] at this
       exact this
      rfl
     rw [if_pos rfl]
     apply ah
     case h1 =>
      apply bp (c:=false)
      case h =>
       apply dw (v:=.d (.bool false))
       case hp=>exact fun J J=>rfl
       case h =>
        apply D3
        case hx=>k_upd
        case hg=>exact T.g_isinstance
        case hx2=>k_upd
        case hg2=>exact T.g_tuple
        case hp=>rfl
        kd_p
       exact fa
      rw [if_neg (by decide)]
      apply ah
      case h1 =>
       apply yr (v3:=.d (.int w)) (v5:=.d (.int (w + 1)))
       case h1=>kd_p
       case h2=>kd_p
       case h3=>exact gt (Dc.loc ay) (by rw [ml,hq]; rfl)
       case h4=>kd_p
       case h5=>exact Fs
       have:=jr (cx:=cx) (B:=true) (n:=n) (k:=p) (x:=.int (w + 1)) (ay (H:=H) (o:=.dct (csD t))) (by rw [pj]; exact Nat.le_trans hsz (by decide))
       rw [cr,pn] at this
       exact this
      exact bj
     exact bj
   exact bj
  exact .weak (K6 (by k_upd) (by k_upd) (by decide +kernel))
 apply bb
 apply az
 kd_p
theorem Lc (T : Top cx) {t : List (Str × Int)} {p : Str} (hnd : (t.map (·.1)).Nodup) (hsz : t.length <= 1000) (hc : Clo H H.length) : OpV cx true (n + 1) (fun rvs=>call (.ref 101) rvs []) [.d (.dict ((csD t).map enc)),.d (.dict ((csD [(p,1)]).map enc))] H (.d (.dict ((csD (bump t p)).map enc))) H:=by
 have h1:=(c5 (vs:=[.d (.dict ((csD t).map enc)),.d (.dict ((csD [(p,1)]).map enc))]) T.f101 rfl (by k_upd) (i9 (cx:=cx) (n:=n) (H:=H) (p:=p) T hnd hsz)).frzD ay
 rw [cr] at h1
 have h2:=h1.take (m:=H.length) (Nat.le_refl _) (hc.app (Nat.le_refl _)) trivial
 rw [fo] at h2
 exact h2
theorem G6 {cs : List (Str × Int)} : (csD cs).map (·.2) = cs.map fun p=>(.int p.2 : D):=by unfold csD; rw [List.map_map]; rfl
theorem xy : ∀ {cs : List (Str × Int)} {a : Int},cs.foldl (fun a e=>a + e.2) a = a + (cs.map (·.2)).sum
 | [],a=>by simp
 | e :: cs,a=>by rw [List.foldl_cons,xy,List.map_cons,List.sum_cons]; omega
theorem jb {t : List (Str × Int)} (T : Top cx) : Ex cx true n (ak 14) (ar 14) [(S "callers",.d (.dict ((csD t).map enc)))] H (.ret (.d (.int (t.map (·.2)).sum))) H:=by
 apply ah
 case h1 =>
  apply ai (v:=_)
  case h=>kd_p
  exact .inl (by k_upd)
 apply ah
 case h1 =>
  apply dp (C:=fun J=>True) (xs:=((t.map fun p=>(.int p.2 : D)).map .d))
  case hit =>
   rw [<- G6]
   exact Je (x:=S "callers") (y:=S "calls") (es:=csD t) (by kd_in) (.inl (by k_upd)) (by k_upd) (by k_upd) rfl
  refine im (C:=fun J=>True) (σ:=Int) (fun p : Str × Int=>(.int p.2 : D)) (fun a e=>a + e.2) (fun J J=>True) (fun a=>[(S "nc",.d (.int a)),(S "callers",.d (.dict ((csD t).map enc)))]) (fun J=>H) (fun e es a ha=>⟨trivial,trivial,?turn⟩) (fun J J=>trivial) t 0 trivial
  apply qh.mk
  case ha=>exact bw (by k_upd)
  case hb =>
   apply ah
   case h1 =>
    apply wt (x0:=.d (.int a))
    case hx=>kd_in
    case h=>kd_p
    case hk=>k_upd
    case hn=>k_upd
    exact Fs
   exact bj
  exact .weak (G8 (by decide +kernel) (by k_upd))
 rw [xy,Int.zero_add]
 apply bb
 apply az
 kd_p
theorem Ho (T : Top cx) {t : List (Str × Int)} : OpV cx true (n + 1) (fun rvs=>call (.ref 108) rvs []) [.d (.dict ((csD t).map enc))] H (.d (.int (t.map (·.2)).sum)) H:=c5 T.f108 rfl (by k_upd) (jb T)
noncomputable abbrev Sts:=Int × Int × Int × Int × List (Str × Int)
noncomputable def uy (t : Sts) (s : Int × Int × Int × Int) (p : Str) : Sts:=(s.1 + t.1,s.2.1 + t.2.1,s.2.2.1 + t.2.2.1,s.2.2.2 + t.2.2.2.1,bump t.2.2.2.2 p)
theorem A5 (T : Top cx) {t : Sts} {s : Int × Int × Int × Int} {p : Str} (hnd : (t.2.2.2.2.map (·.1)).Nodup) (hsz : t.2.2.2.2.length <= 1000) (hc : Clo H H.length) :
  Ex cx true (n + 1) (ak 12) (ar 12) [(S "target",.d (gb t)),(S "source",.d (gb (s.1,s.2.1,s.2.2.1,s.2.2.2,[(p,1)])))] H (.ret (.d (gb (uy t s p)))) H:=by
 unfold gb
 apply ah
 case h1 =>
  apply eg
  case h=>kd_p
  case N=>exact .cons (by k_upd) (.cons (by k_upd) (.cons (by k_upd) (.cons (by k_upd) (.cons (by k_upd) .nil))))
  case hs=>exact fun J=>rfl
  exact fun J=>rfl
 case h2 =>
  apply ah
  case h1 =>
   apply eg
   case h=>kd_p
   case N=>exact .cons (by k_upd) (.cons (by k_upd) (.cons (by k_upd) (.cons (by k_upd) (.cons (by k_upd) .nil))))
   case hs=>exact fun J=>rfl
   exact fun J=>rfl
  apply bb
  apply az
  apply bt (xs:=[.int (s.1 + t.1),.int (s.2.1 + t.2.1),.int (s.2.2.1 + t.2.2.1),.int (s.2.2.2 + t.2.2.2.1),.dict ((csD (bump t.2.2.2.2 p)).map enc)])
  case h =>
   apply af (v:=.d (.int (s.1 + t.1))) (vs:=[.d (.int (s.2.1 + t.2.1)),.d (.int (s.2.2.1 + t.2.2.1)),.d (.int (s.2.2.2 + t.2.2.2.1)),.d (.dict ((csD (bump t.2.2.2.2 p)).map enc))])
   case hp=>exact rfl
   case h =>
    apply an
    case h1=>kd_p
    case h2=>kd_p
    exact e7
   apply af (v:=.d (.int (s.2.1 + t.2.1))) (vs:=[.d (.int (s.2.2.1 + t.2.2.1)),.d (.int (s.2.2.2 + t.2.2.2.1)),.d (.dict ((csD (bump t.2.2.2.2 p)).map enc))])
   case hp=>exact rfl
   case h =>
    apply an
    case h1=>kd_p
    case h2=>kd_p
    exact e7
   apply af (v:=.d (.int (s.2.2.1 + t.2.2.1))) (vs:=[.d (.int (s.2.2.2 + t.2.2.2.1)),.d (.dict ((csD (bump t.2.2.2.2 p)).map enc))])
   case hp=>exact rfl
   case h =>
    apply an
    case h1=>kd_p
    case h2=>kd_p
    exact e7
   apply af (v:=.d (.int (s.2.2.2 + t.2.2.2.1))) (vs:=[.d (.dict ((csD (bump t.2.2.2.2 p)).map enc))])
   case hp=>exact rfl
   case h =>
    apply an
    case h1=>kd_p
    case h2=>kd_p
    exact e7
   apply af (v:=.d (.dict ((csD (bump t.2.2.2.2 p)).map enc))) (vs:=[])
   case hp=>exact rfl
   case h =>
    apply bd T
    case hx=>k_upd
    case hg=>exact (by k_upd : cb.lookup _ = some (.ref 101))
    case hd=>k_upd
    case F=>exact T.f101
    case hp=>k_upd
    case h =>
     apply af
     case hp=>exact rfl
     case h=>kd_p
     apply af
     case hp=>exact rfl
     case h=>kd_p
     exact ag
    exact Lc T hnd hsz hc
   exact ag
  simp
theorem Ld (T : Top cx) {t : Sts} {s : Int × Int × Int × Int} {p : Str} (hnd : (t.2.2.2.2.map (·.1)).Nodup) (hsz : t.2.2.2.2.length <= 1000) (hc : Clo H H.length) :
  OpV cx true (n + 2) (fun rvs=>call (.ref 94) rvs []) [.d (gb t),.d (gb (s.1,s.2.1,s.2.2.1,s.2.2.2,[(p,1)]))] H (.d (gb (uy t s p))) H:=c5 T.f94 rfl (by k_upd) (A5 T hnd hsz hc)
end
section
variable {cx : Cx} {b : Bool} {n : Nat} {H H1 H2 : Hp} {sc : Scope} {lo : Lo}
variable {N : Addr} {mN : Str -> Option Value} {fI fC fS fD fG fK fT : Addr}
noncomputable def nx (f : Nat -> Nat) (m : Nat) : Option Nat:=if m = 0 then none else some (f m)
noncomputable def wk (f : Nat -> Nat) : Nat -> List Nat -> Option Nat -> Option (List Nat × Option Nat)
 | 0,_,_=>none
 | _ + 1,w,none=>some (w,none)
 | k + 1,w,some m=>if w.contains m then some (w,some m) else wk f k (w ++ [m]) (nx f m)
noncomputable def rg (f : Nat -> Nat) : List Nat -> Option (List Nat)
 | []=>some []
 | s :: ss=>match wk f 6 [] (some s) with
  | some (w,some m)=>some (w.drop (w.idxOf m))
  | some (_,none)=>rg f ss
  | none=>none
noncomputable def cdD (w : List Nat) : List D:=(w.map cdL).map .str
noncomputable def hD : Option Nat -> D
 | none=>.none
 | some m=>.str (cdL m)
theorem my {a b : Nat} (ha : a < 4) (hb : b < 4) (h : cdL a = cdL b) : a = b:=by
 have k : (List.range 4).all (fun a=>(List.range 4).all fun b=>cdL a != cdL b || a == b) = true:=by k_upd
 have:=List.all_eq_true.mp (List.all_eq_true.mp k a (List.mem_range.mpr ha)) b (List.mem_range.mpr hb)
 rw [h] at this
 simpa using this
theorem gz {m : Nat} (hm : m < 4) : ∀ {w : List Nat},(∀ x ∈ w,x < 4) -> (w.map cdL).contains (cdL m) = w.contains m
 | [],_=>rfl
 | x :: w,h=>by
  rw [List.map_cons,List.contains_cons,List.contains_cons,gz hm fun y hy=>h y (.tail _ hy)]
  congr 1
  rw [Bool.eq_iff_iff,beq_iff_eq,beq_iff_eq]
  exact ⟨fun e=>my hm (h x (.head _)) e,fun e=>by rw [e]⟩
structure Hb (es : List Row) (f : Nat -> Nat) : Prop where
 lt : ∀ m,f m < 4
 at_ : ∀ m,m < 4 -> vc es (cdL m) = hD (nx f m)
noncomputable abbrev rLo (i1 : Nat) (iI : Nat) (first : Int) : Lo:=[(S "names",.loc i1),(S "table",.loc iI),(S "first",.d (.int first))]
noncomputable abbrev Gl (i1 iw iI : Nat) (first j : Int) (h : D) : Lo:=(S "here",.d h) :: (S "way",.loc iw) :: (S "j",.d (.int j)) :: rLo i1 iI first
noncomputable def Nf : Stmt -> Expr × List Stmt
 | .While t b _ _=>(t,b)
 | _=>(.Constant .none 0 ⟨0,0,0,0⟩,[])
noncomputable def gc : Stmt -> List Stmt
 | .For _ _ b _ _=>b
 | _=>[]
noncomputable def t6 : Expr × List Stmt:=Nf (nth 2 (gc (nth 1 (ar 23))))
theorem qf (T : Top cx) (HT : HTop cx N mN fI fC fS fD fG fK fT) (R : Regs cx) {iI iL i1 iw : Nat} {es : List Row} {f : Nat -> Nat} {first j : Int} (hes : ij es) (hf : Hb es f) {t : Expr} {wb : List Stmt} (ht : (t,wb) = t6) :
  ∀ (k : Nat) (w : List Nat) (h : Option Nat) (H : Hp),H[iI]? = some (.ins iL) -> H[iL]? = some (.lst (bg es)) -> H[iw]? = some (.lst (cdD w)) -> iw ≠ iI -> iw ≠ iL -> (∀ x ∈ w,x < 4) -> (∀ m,h = some m -> m < 4) -> w.length + k <= 1000 ->
  ∀ w' h',wk f k w h = some (w',h') -> (∀ x ∈ w',x < 4) /\ (∀ m,h' = some m -> m < 4 /\ w'.contains m = true) /\ w'.length <= 1000 /\ ∃ c,Wh cx true (n + 2) (ak 23) t wb c (Gl i1 iw iI first j (hD h)) H (.nxt (Gl i1 iw iI first j (hD h'))) (H.set iw (.lst (cdD w'))):=by
 have he : t6 = (_,_):=rfl
 rw [he] at ht
 cases ht
 intro k
 induction k with
 | zero=>intro w h H _ _ _ _ _ _ _ _ w' h' e; cases e
 | succ k ih =>
  intro w h H hI hL hw n1 n2 hws hhs hlen w' h' e
  have hset : H.set iw (.lst (cdD w)) = H:=by
   refine List.ext_getElem? fun q=>?_
   rw [List.getElem?_set]
   split
   ·rename_i hq; subst hq; rw [if_pos (aq hw),hw]
   ·rfl
  cases h with
  | none =>
   cases e
   refine ⟨hws,(fun m h=>nomatch h),by exact Nat.le_of_add_right_le hlen,0,?_⟩
   rw [hset]
   refine .done ?_
   show Tst cx true (n + 2) (ak 23) _ ((S "here",.d .none) :: (S "way",.loc iw) :: (S "j",.d (.int j)) :: rLo i1 iI first) H false H
   apply l6
   apply am
   case h1=>kd_p
   case h2=>kd_p
   case ho =>
    rw [show (false : Bool) = !(isN PyData.none) from rfl]
    exact dl
   exact rfl
  | some m =>
   have hm : m < 4:=hhs m rfl
   unfold wk at e
   by_cases hc : w.contains m = true
   ·rw [if_pos hc] at e
    cases e
    refine ⟨hws,fun x hx=>by cases hx; exact ⟨hm,hc⟩,by exact Nat.le_of_add_right_le hlen,0,?_⟩
    rw [hset]
    refine .done ?_
    show Tst cx true (n + 2) (ak 23) _ ((S "here",.d (.str (cdL m))) :: (S "way",.loc iw) :: (S "j",.d (.int j)) :: rLo i1 iI first) H false H
    apply ir
    case h =>
     apply am
     case h1=>kd_p
     case h2=>kd_p
     case ho =>
      rw [show (true : Bool) = !(isN (PyData.str (cdL m))) from rfl]
      exact dl
     exact rfl
    apply l6
    apply am
    case h1=>kd_p
    case h2=>kd_p
    case ho =>
     have:=pz (cx:=cx) (B:=true) (n:=n + 2) (v:=.loc iw) (ss:=w.map cdL) (y:=cdL m) (H:=H) (Ls.loc hw)
     rw [gz hm hws,hc] at this
     exact this
    exact rfl
   ·rw [if_neg hc] at e
    have hc : w.contains m = false:=by simpa using hc
    have hlw : iw < H.length:=aq hw
    have hI2 : (H.set iw (.lst (cdD (w ++ [m]))))[iI]? = some (.ins iL):=aw hI n1
    have hL2 : (H.set iw (.lst (cdD (w ++ [m]))))[iL]? = some (.lst (bg es)):=aw hL n2
    have hws2 : ∀ x ∈ w ++ [m],x < 4:=fun x hx=>(List.mem_append.mp hx).elim (hws x) fun h=>List.mem_singleton.mp h ▸ hm
    obtain ⟨g1,g2,g3,c,W⟩:=ih (w ++ [m]) (nx f m) (H.set iw (.lst (cdD (w ++ [m])))) hI2 hL2 (ge hlw) n1 n2 hws2 (fun x hx=>by unfold nx at hx; split at hx <;> cases hx; exact hf.lt m) (by simp; omega) w' h' e
    rw [List.set_set] at W
    refine ⟨g1,g2,g3,c + 1,?_⟩
    refine Wh.step (lo1:=(S "here",.d (hD (nx f m))) :: Gl i1 iw iI first j (.str (cdL m))) (H1:=H) (H2:=H.set iw (.lst (cdD (w ++ [m])))) ?_ ?_ ?_ W
    ·show Tst cx true (n + 2) (ak 23) _ ((S "here",.d (.str (cdL m))) :: (S "way",.loc iw) :: (S "j",.d (.int j)) :: rLo i1 iI first) H true H
     apply ir
     case h =>
      apply am
      case h1=>kd_p
      case h2=>kd_p
      case ho =>
       rw [show (true : Bool) = !(isN (PyData.str (cdL m))) from rfl]
       exact dl
      exact rfl
     apply ir
     case h =>
      apply am
      case h1=>kd_p
      case h2=>kd_p
      case ho =>
       have:=pz (cx:=cx) (B:=true) (n:=n + 2) (v:=.loc iw) (ss:=w.map cdL) (y:=cdL m) (H:=H) (Ls.loc hw)
       rw [gz hm hws,hc] at this
       exact this
      exact rfl
     exact o8
    ·show Ex cx true (n + 2) (ak 23) _ ((S "here",.d (.str (cdL m))) :: (S "way",.loc iw) :: (S "j",.d (.int j)) :: rLo i1 iI first) H _ _
     apply ah
     case h1 =>
      apply c8
      case h =>
       apply ba
       case h0=>kd_p
       case h =>
        apply af
        case hp=>exact rfl
        case h=>kd_p
        exact ag
       case ht=>exact dy hw
       case pa=>exact PySem.F.plainAttrs_list
       case slot=>exact PySem.F.slot_list_append
       case hty=>exact PySem.F.type_list_append
       case hp=>exact rfl
       case hline=>exact rfl
       case hbase=>exact fun J=>rfl
       case hfew=>exact fun J=>rfl
       have:=app_lst (cx:=cx) (B:=true) (n:=n + 2) (x:=PyData.str (cdL m)) hw (by simp [cdD]; exact Nat.le_trans (Nat.le_add_right _ _) (Nat.le_trans hlen (by decide)))
       rw [show cdD w ++ [PyData.str (cdL m)] = cdD (w ++ [m]) by simp [cdD]] at this
       exact this
      exact fun J=>rfl
     apply ah
     case h1 =>
      apply ai (v:=_)
      case h =>
       apply kt HT
       case h0=>kd_p
       case h =>
        apply af
        case hp=>exact rfl
        case h=>kd_p
        exact ag
       case hi=>exact hI2
       case hl=>exact hL2
       case hn=>exact HT.n5
       case hne=>decide +kernel
       case m=>exact HT.m5
       case hB=>exact kz.2.2.2.1
       case hp=>exact rfl
       case ho =>
        have:=Kk (n:=n) HT R (pi m) hI2 hL2 hes
        rw [hf.at_ m hm] at this
        exact this
       exact rfl
      exact .inl (by k_upd)
     exact bj
    ·exact .weak (fun z v e=>by
      rw [List.lookup_cons] at e ⊢
      cases c : z == S "here" with
      | true=>rw [c] at e; exact e
      | false=>rw [c] at e; show List.lookup z ((S "here",_) :: _) = _; rw [List.lookup_cons,c]; exact e)
theorem Fi {j l : Nat} : (max 0 (min (j : Int) l)).toNat = min j l:=by
 rcases Nat.le_total j l with h | h
 ·rw [Nat.min_eq_left h,Int.min_eq_left (Int.ofNat_le.mpr h),Int.max_eq_right (Int.natCast_nonneg _)]; rfl
 ·rw [Nat.min_eq_right h,Int.min_eq_right (Int.ofNat_le.mpr h),Int.max_eq_right (Int.natCast_nonneg _)]; rfl
theorem i3 {α : Type} {xs : List α} {j : Nat} : jj xs (some (j : Int)) none = xs.drop j:=by
 unfold jj clipAt
 simp only [Option.elim]
 rw [if_neg (by omega),Fi,List.take_of_length_le (by simp)]
 by_cases h : j <= xs.length
 ·rw [Nat.min_eq_left h]
 ·rw [Nat.min_eq_right (by exact Nat.le_of_not_le h),List.drop_of_length_le (Nat.le_refl _),List.drop_of_length_le (by exact Nat.le_of_not_le h)]
theorem Gv {α : Type} {xs : List α} {j : Nat} : jj xs none (some (j : Int)) = xs.take j:=by
 unfold jj clipAt
 simp only [Option.elim]
 rw [if_neg (by omega),show (max 0 (min (j : Int) xs.length)).toNat = min j xs.length by omega,List.drop_zero,Nat.sub_zero]
 by_cases h : j <= xs.length
 ·rw [Nat.min_eq_left h]
 ·rw [Nat.min_eq_right (by exact Nat.le_of_not_le h),List.take_of_length_le (Nat.le_refl _),List.take_of_length_le (by exact Nat.le_of_not_le h)]
theorem qy {m : Nat} : ∀ {w : List Nat},w.contains m = true -> w[w.idxOf m]? = some m /\ ∀ q,q < w.idxOf m -> w[q]? ≠ some m
 | [],h=>by cases h
 | x :: w,h=>by
  rw [List.idxOf_cons]
  cases hx : x == m with
  | true=>rw [beq_iff_eq] at hx; subst hx; exact ⟨rfl,fun q hq=>absurd hq (Nat.not_lt_zero _)⟩
  | false =>
   rw [List.contains_cons,show (m == x) = false by rw [beq_eq_false_iff_ne] at hx ⊢; exact fun e=>hx e.symm,Bool.false_or] at h
   obtain ⟨h1,h2⟩:=qy h
   refine ⟨by simpa using h1,fun q hq=>?_⟩
   cases q with
   | zero=>rw [beq_eq_false_iff_ne] at hx; simpa using hx
   | succ q=>simpa using h2 q (by simpa using hq)
theorem yv {m : Nat} {w : List Nat} (hm : m < 4) (hw : ∀ x ∈ w,x < 4) (h : w.contains m = true) : (w.map cdL)[w.idxOf m]? = some (cdL m) /\ ∀ q,q < w.idxOf m -> (w.map cdL)[q]? ≠ some (cdL m):=by
 obtain ⟨h1,h2⟩:=qy h
 refine ⟨by rw [List.getElem?_map,h1]; rfl,fun q hq e=>h2 q hq ?_⟩
 rw [List.getElem?_map] at e
 obtain ⟨x,hx,e⟩:=Option.map_eq_some_iff.mp e
 rw [hx,my (hw x (List.mem_of_getElem? hx)) hm e]
theorem OpSl.none_ {v v' : V} {H' : Hp} {lw : Option Int} {h : OpSl cx b n v lw none H v' H'} : OpSl cx b n v lw none H v' H':=h
structure K7 (es : List Row) (st : Nat -> Nat) : Prop where
 len : es.length = 3
 at_ : ∀ i,i < 3 -> ∃ e,es[i]? = some e /\ e.1 ∈ good /\ Txt.lower e.1 = cdL (st i) /\ st i < 4
noncomputable def at3 (first j : Int) : Nat:=((first + j).fmod 3).toNat
theorem ei {first j : Int} : (first + j).fmod 3 = (at3 first j : Nat) /\ at3 first j < 3:=by
 have h0:=Int.fmod_nonneg_of_pos (first + j) (b:=3) (by decide)
 exact ⟨(Int.toNat_of_nonneg h0).symm,(Int.toNat_lt h0).mpr (Int.fmod_lt_of_pos _ (by decide))⟩
theorem Ck {first : Int} {j : Nat} : at3 first j = (at3 first 0 + j) % 3:=by
 have a0:=(ei (first:=first) (j:=0)).1
 have aj:=(ei (first:=first) (j:=j)).1
 rw [Int.fmod_eq_emod_of_nonneg _ (by decide)] at a0 aj
 refine Int.ofNat_inj.mp ?_
 rw [<- aj,Int.natCast_emod,Int.natCast_add,<- a0,Int.add_zero]
 exact (Int.emod_add_emod first 3 j).symm
theorem st3 : ∀ f < 3,∀ i < 3,i = f \/ i = (f + 1) % 3 \/ i = (f + 2) % 3:=by decide
theorem vy {lo : Lo} {m : Nat} (h : ∀ p ∈ lo,vlt m p.2) : ∀ x v,lo.lookup x = some v -> vlt m v:=fun J J e=>h _ (bf e)
theorem Clo.apps {H K : Hp} {m : Nat} (h : Clo H m) (hm : m <= H.length) : Clo (H ++ K) m:=fun i o hi e=>by
 rw [List.getElem?_append_left (by exact Nat.le_trans hi hm)] at e
 exact h i o hi e
theorem Ko {ss : List Stmt} {K : Hp} {v : V} (hc : Clo H H.length) (hv : vlt H.length v) (h : Ex cx b n sc ss lo H (.ret v) (H ++ K)) : Ex cx b n sc ss lo H (.ret v) H:=by
 have:=h.take (m:=H.length) (Nat.le_refl _) (hc.apps (Nat.le_refl _)) hv
 rwa [fo] at this
noncomputable def way (f : Nat -> Nat) (s : Nat):=wk f 6 [] (some s)
noncomputable def rR (lo : Lo) : List Nat -> R
 | []=>.nxt lo
 | x :: r=>.ret (.d (.list (cdD (x :: r))))
inductive zg (cx : Cx) (n : Nat) (sc : Scope) (tgt : Expr) (body : List Stmt) (x : V) (lo : Lo) (H : Hp) (v : V) : Prop
 | mk {lo1} (ha : As cx true sc tgt x lo lo1) (hb : Ex cx true n sc body lo1 H (.ret v) H) : zg cx n sc tgt body x lo H v
theorem D9 {f : Nat -> Nat} {s : Int -> Nat} {tgt : Expr} {body : List Stmt} {C : Hp -> Prop} (hC : C H) (hgo : ∀ j w,wk f 6 [] (some (s j)) = some (w,none) -> qh cx n sc tgt body (.d (.int j)) lo H lo H)
  (hret : ∀ j w m,wk f 6 [] (some (s j)) = some (w,some m) -> w.drop (w.idxOf m) ≠ [] /\ zg cx n sc tgt body (.d (.int j)) lo H (.d (.list (cdD (w.drop (w.idxOf m)))))) : ∀ (js : List Int) (R : List Nat),rg f (js.map s) = some R ->
  Fo cx true n sc tgt body C (js.map fun j=>.d (.int j)) lo H (rR lo R) H
 | [],R,h=>by cases h; exact .nil hC
 | j :: js,R,h=>by
  unfold rg at h
  rw [List.map_cons] at h
  rcases hw : wk f 6 [] (some (s j)) with _ | ⟨w,_ | m⟩
  ·simp only [hw] at h; cases h
  ·simp only [hw] at h
   obtain ⟨a,b,c⟩:=hgo j w hw
   exact .step hC a b c (D9 hC hgo hret js R h)
  ·simp only [hw] at h
   cases h
   obtain ⟨h0,a,b⟩:=hret j w m hw
   cases hq : w.drop (w.idxOf m) with
   | nil=>exact absurd hq h0
   | cons x r=>rw [hq] at b; exact .ret hC a b
theorem Clo.app_lst {H : Hp} {xs : List D} (h : Clo H H.length) : Clo (H ++ [O.lst xs]) (H ++ [O.lst xs]).length:=fun i o hi e l hl=>by
 rw [List.length_append] at *
 by_cases q : i < H.length
 ·rw [List.getElem?_append_left q] at e
  have:=h i o q e l hl
  exact Nat.le_succ_of_le this
 ·rw [List.getElem?_append_right (by exact Nat.le_of_not_lt q)] at e
  cases q2 : i - H.length with
  | zero=>rw [q2] at e; cases e; cases hl
  | succ k=>rw [q2] at e; cases e
theorem z0 {w : List Nat} {m : Nat} (h : w.contains m = true) : w.drop (w.idxOf m) ≠ []:=fun e=>by
 obtain ⟨h1,_⟩:=qy h
 have:=aq h1
 have:=congrArg List.length e
 simp at this
 omega
theorem Ez (T : Top cx) (HT : HTop cx N mN fI fC fS fD fG fK fT) (R : Regs cx) {iI iL : Nat} {es : List Row} {f st : Nat -> Nat} {first : Int} {rr : List Nat} (hcl : Clo H H.length) (hes : ij es) (hk : K7 es st) (hf : Hb es f) (hI : H[iI]? = some (.ins iL)) (hL : H[iL]? = some (.lst (bg es)))
  (hr : rg f ([0,1,2].map fun j=>st (at3 first j)) = some rr) :
  Ex cx true (n + 2) (ak 23) (ar 23) [(S "table",.loc iI),(S "first",.d (.int first))] H (.ret (.d (.list (cdD rr)))) (H ++ [O.lst (es.map fun e=>.str e.1)]):=by
 have hN : (H ++ [O.lst (es.map fun e=>.str e.1)])[H.length]? = some (.lst (es.map fun e=>.str e.1)):=ay
 obtain ⟨H0,hH0⟩ : ∃ H0,H0 = H ++ [O.lst (es.map fun e=>.str e.1)]:=⟨_,rfl⟩
 rw [<- hH0] at hN
 have hI0 : H0[iI]? = some (.ins iL):=by rw [hH0]; exact au hI
 have hL0 : H0[iL]? = some (.lst (bg es)):=by rw [hH0]; exact au hL
 have hcl0 : Clo H0 H0.length:=by rw [hH0]; exact hcl.app_lst
 have hlen0 : H0.length = H.length + 1:=by rw [hH0,List.length_append]; rfl
 have hiI : iI < H.length:=aq hI
 have hiL : iL < H.length:=aq hL
 have hW : ∀ w : List Nat,(H0 ++ [O.lst (cdD w)])[H0.length]? = some (.lst (cdD w)):=fun w=>ay
 cases rr with
 | nil =>
  apply ah
  case h1 =>
   apply ai (v:=_)
   case h =>
    apply kt HT
    case h0=>kd_p
    case h=>exact ag
    case hi=>exact hI
    case hl=>exact hL
    case hn=>exact HT.n6
    case hne=>decide +kernel
    case m=>exact HT.m6
    case hB=>exact kz.2.2.2.2.1
    case hp=>exact rfl
    case ho=>exact Da (n:=n + 1) HT hI hL hes
    exact rfl
   exact .inl (by k_upd)
  rw [<- hH0]
  apply ah
  case h1 =>
   apply dp (C:=fun J=>True) (xs:=[(0 : Int),1,2].map fun j=>.d (.int j))
   case hit =>
    exact lz (m:=3) j0 (by k_upd) T.g_range (by decide) rfl (fun J J=>rfl)
   refine D9 (f:=f) (s:=fun j=>st (at3 first j)) trivial ?hgo1 ?hret1 [0,1,2] [] hr
   case hgo1 =>
    intro j w hw
    refine al fun Gq kq=>?_
    obtain ⟨e,he,hgood,hlow,hst4⟩:=hk.at_ (at3 first j) ei.2
    obtain ⟨hwl,hmm,hwn,c,W⟩:=qf (cx:=cx) (n:=n) (i1:=H.length) (iw:=H0.length) (j:=j) T HT R hes hf (first:=first) (t:=t6.1) (wb:=t6.2) rfl 6 [] (some (st (at3 first j))) (H0 ++ [.lst []]) (au hI0) (au hL0) ay (by omega) (by omega) (fun J h=>nomatch h) (fun m h=>by cases h; exact hst4) (by decide) w none hw
    refine kq ?_
    rw [cr] at W
    apply qh.mk
    case ha=>exact bw (by k_upd)
    case hb =>
     apply ah
     case h1 =>
      apply ai (v:=_)
      case h =>
       apply fh (xs:=[])
       case h=>exact ag
       decide
      exact .inl (by k_upd)
     apply ah
     case h1 =>
      apply ai (v:=.d (.str (cdL (st (at3 first j)))))
      case h =>
       apply ba
       case h0 =>
        apply av
        case h1=>kd_p
        case h2 =>
         apply an (v:=.d (.int (at3 first j : Nat)))
         case h1 =>
          apply an
          case h1=>kd_p
          case h2=>kd_p
          exact e7
         case h2=>kd_p
         rw [<- ei.1]
         exact jf (by decide)
        case ht=>exact bq (.loc (au hN))
        case ho=>exact gj (.loc (au hN)) (x:=.str e.1) (by rw [List.getElem?_map,he]; rfl) (by have:=(ei (first:=first) (j:=j)).2; exact Nat.le_trans this (by decide))
        exact fun J J=>⟨_,rfl⟩
       case h=>exact ag
       case ht=>exact d9
       case pa=>exact PySem.F.plainAttrs_str
       case slot=>exact PySem.F.slot_str_lower
       case hty=>exact PySem.F.type_str_lower
       case hp=>exact rfl
       case hline=>exact rfl
       case hbase=>exact fun J=>rfl
       case hfew=>exact fun J=>rfl
       rw [<- hlow]
       exact gx (ev hgood).1
      exact .inl (by k_upd)
     apply ah
     case h1 =>
      apply ip
      exact W
     apply ah
     case h1 =>
      apply bp (c:=false)
      case h =>
       apply am
       case h1=>kd_p
       case h2=>kd_p
       case ho =>
        rw [show (false : Bool) = !(isN PyData.none) from rfl]
        exact dl
       exact rfl
      rw [if_neg (by decide)]
      exact bj
     exact bj
    have hcv : Cnv cx H0.length (Gl H.length H0.length iI first j .none) (H0 ++ [.lst (cdD w)]) (rLo H.length iI first) (H0 ++ [.lst (cdD w)]):=.weak (fun z v hz=>cj (x:=S "here") (by k_upd) z v (cj (x:=S "way") (by k_upd) z v (cj (x:=S "j") (by k_upd) z v hz)))
    have hct:=Cnv.take (cx:=cx) (k:=H0.length) (m:=H0.length) (lo:=rLo H.length iI first) (H:=H0 ++ [.lst (cdD w)]) (Nat.le_refl _) (hcl0.app (Nat.le_refl _)) (vy (List.forall_mem_cons.mpr ⟨(by exact Nat.le_of_eq hlen0.symm : H.length < H0.length),List.forall_mem_cons.mpr ⟨(by omega : iI < H0.length),List.forall_mem_cons.mpr ⟨trivial,fun J h=>nomatch h⟩⟩⟩))
    rw [fo] at hct
    exact hcv.trans hct
   intro j w m hw
   refine al fun Gq kq=>?_
   obtain ⟨e,he,hgood,hlow,hst4⟩:=hk.at_ (at3 first j) ei.2
   obtain ⟨hwl,hmm,hwn,c,W⟩:=qf (cx:=cx) (n:=n) (i1:=H.length) (iw:=H0.length) (j:=j) T HT R hes hf (first:=first) (t:=t6.1) (wb:=t6.2) rfl 6 [] (some (st (at3 first j))) (H0 ++ [.lst []]) (au hI0) (au hL0) ay (by omega) (by omega) (fun J h=>nomatch h) (fun m h=>by cases h; exact hst4) (by decide) w (some m) hw
   refine kq ?_
   rw [cr] at W
   obtain ⟨hm,hc⟩:=hmm m rfl
   refine ⟨z0 hc,?_⟩
   apply zg.mk
   case ha=>exact bw (by k_upd)
   refine Ko (K:=[.lst (cdD w)]) hcl0 trivial ?_
   apply ah
   case h1 =>
    apply ai (v:=_)
    case h =>
     apply fh (xs:=[])
     case h=>exact ag
     decide
    exact .inl (by k_upd)
   apply ah
   case h1 =>
    apply ai (v:=.d (.str (cdL (st (at3 first j)))))
    case h =>
     apply ba
     case h0 =>
      apply av
      case h1=>kd_p
      case h2 =>
       apply an (v:=.d (.int (at3 first j : Nat)))
       case h1 =>
        apply an
        case h1=>kd_p
        case h2=>kd_p
        exact e7
       case h2=>kd_p
       rw [<- ei.1]
       exact jf (by decide)
      case ht=>exact bq (.loc (au hN))
      case ho=>exact gj (.loc (au hN)) (x:=.str e.1) (by rw [List.getElem?_map,he]; rfl) (by have:=(ei (first:=first) (j:=j)).2; exact Nat.le_trans this (by decide))
      exact fun J J=>⟨_,rfl⟩
     case h=>exact ag
     case ht=>exact d9
     case pa=>exact PySem.F.plainAttrs_str
     case slot=>exact PySem.F.slot_str_lower
     case hty=>exact PySem.F.type_str_lower
     case hp=>exact rfl
     case hline=>exact rfl
     case hbase=>exact fun J=>rfl
     case hfew=>exact fun J=>rfl
     rw [<- hlow]
     exact gx (ev hgood).1
    exact .inl (by k_upd)
   apply ah
   case h1 =>
    apply ip
    exact W
   apply bb
   apply bp (c:=true)
   case h =>
    apply am
    case h1=>kd_p
    case h2=>kd_p
    case ho =>
     rw [show (true : Bool) = !(isN (PyData.str (cdL m))) from rfl]
     exact dl
    exact rfl
   rw [if_pos rfl]
   apply bb
   apply az
   apply dh
   case h1=>kd_p
   case h2 =>
    apply dj
    apply ba
    case h0=>kd_p
    case h =>
     apply af
     case hp=>exact rfl
     case h=>kd_p
     exact ag
    case ht=>exact dy (hW w)
    case pa=>exact PySem.F.plainAttrs_list
    case slot=>exact PySem.F.slot_list_index
    case hty=>exact PySem.F.type_list_index
    case hp=>exact rfl
    case hline=>exact rfl
    case hbase=>exact fun J=>rfl
    case hfew=>exact fun J=>rfl
    have hix:=yv hm hwl hc
    exact px (v:=.loc H0.length) (ss:=w.map cdL) (.loc (hW w)) hix.1 hix.2 (by rw [List.length_map]; exact Nat.le_trans hwn (by decide))
   case h3=>exact di
   case ht=>exact bq (.loc (hW w))
   have:=lb (cx:=cx) (B:=true) (n:=n + 2) (lw:=some (w.idxOf m : Nat)) (hi:=none) (Ls.loc (hW w)) (by simp [cdD]; exact Nat.le_trans hwn (by decide))
   rw [i3,show (cdD w).drop (w.idxOf m) = cdD (w.drop (w.idxOf m)) by simp [cdD,List.map_drop]] at this
   exact this
  apply bb
  apply az
  apply cn (xs:=[])
  case h=>exact ag
  decide
 | cons x rr =>
  apply ah
  case h1 =>
   apply ai (v:=_)
   case h =>
    apply kt HT
    case h0=>kd_p
    case h=>exact ag
    case hi=>exact hI
    case hl=>exact hL
    case hn=>exact HT.n6
    case hne=>decide +kernel
    case m=>exact HT.m6
    case hB=>exact kz.2.2.2.2.1
    case hp=>exact rfl
    case ho=>exact Da (n:=n + 1) HT hI hL hes
    exact rfl
   exact .inl (by k_upd)
  rw [<- hH0]
  apply bb
  apply dp (C:=fun J=>True) (xs:=[(0 : Int),1,2].map fun j=>.d (.int j))
  case hit =>
   exact lz (m:=3) j0 (by k_upd) T.g_range (by decide) rfl (fun J J=>rfl)
  refine D9 (f:=f) (s:=fun j=>st (at3 first j)) trivial ?hgo0 ?hret0 [0,1,2] (x :: rr) hr
  case hgo0 =>
   intro j w hw
   refine al fun Gq kq=>?_
   obtain ⟨e,he,hgood,hlow,hst4⟩:=hk.at_ (at3 first j) ei.2
   obtain ⟨hwl,hmm,hwn,c,W⟩:=qf (cx:=cx) (n:=n) (i1:=H.length) (iw:=H0.length) (j:=j) T HT R hes hf (first:=first) (t:=t6.1) (wb:=t6.2) rfl 6 [] (some (st (at3 first j))) (H0 ++ [.lst []]) (au hI0) (au hL0) ay (by omega) (by omega) (fun J h=>nomatch h) (fun m h=>by cases h; exact hst4) (by decide) w none hw
   refine kq ?_
   rw [cr] at W
   apply qh.mk
   case ha=>exact bw (by k_upd)
   case hb =>
    apply ah
    case h1 =>
     apply ai (v:=_)
     case h =>
      apply fh (xs:=[])
      case h=>exact ag
      decide
     exact .inl (by k_upd)
    apply ah
    case h1 =>
     apply ai (v:=.d (.str (cdL (st (at3 first j)))))
     case h =>
      apply ba
      case h0 =>
       apply av
       case h1=>kd_p
       case h2 =>
        apply an (v:=.d (.int (at3 first j : Nat)))
        case h1 =>
         apply an
         case h1=>kd_p
         case h2=>kd_p
         exact e7
        case h2=>kd_p
        rw [<- ei.1]
        exact jf (by decide)
       case ht=>exact bq (.loc (au hN))
       case ho=>exact gj (.loc (au hN)) (x:=.str e.1) (by rw [List.getElem?_map,he]; rfl) (by have:=(ei (first:=first) (j:=j)).2; exact Nat.le_trans this (by decide))
       exact fun J J=>⟨_,rfl⟩
      case h=>exact ag
      case ht=>exact d9
      case pa=>exact PySem.F.plainAttrs_str
      case slot=>exact PySem.F.slot_str_lower
      case hty=>exact PySem.F.type_str_lower
      case hp=>exact rfl
      case hline=>exact rfl
      case hbase=>exact fun J=>rfl
      case hfew=>exact fun J=>rfl
      rw [<- hlow]
      exact gx (ev hgood).1
     exact .inl (by k_upd)
    apply ah
    case h1 =>
     apply ip
     exact W
    apply ah
    case h1 =>
     apply bp (c:=false)
     case h =>
      apply am
      case h1=>kd_p
      case h2=>kd_p
      case ho =>
       rw [show (false : Bool) = !(isN PyData.none) from rfl]
       exact dl
      exact rfl
     rw [if_neg (by decide)]
     exact bj
    exact bj
   have hcv : Cnv cx H0.length (Gl H.length H0.length iI first j .none) (H0 ++ [.lst (cdD w)]) (rLo H.length iI first) (H0 ++ [.lst (cdD w)]):=.weak (fun z v hz=>cj (x:=S "here") (by k_upd) z v (cj (x:=S "way") (by k_upd) z v (cj (x:=S "j") (by k_upd) z v hz)))
   have hct:=Cnv.take (cx:=cx) (k:=H0.length) (m:=H0.length) (lo:=rLo H.length iI first) (H:=H0 ++ [.lst (cdD w)]) (Nat.le_refl _) (hcl0.app (Nat.le_refl _)) (vy (List.forall_mem_cons.mpr ⟨(by exact Nat.le_of_eq hlen0.symm : H.length < H0.length),List.forall_mem_cons.mpr ⟨(by omega : iI < H0.length),List.forall_mem_cons.mpr ⟨trivial,fun J h=>nomatch h⟩⟩⟩))
   rw [fo] at hct
   exact hcv.trans hct
  intro j w m hw
  refine al fun Gq kq=>?_
  obtain ⟨e,he,hgood,hlow,hst4⟩:=hk.at_ (at3 first j) ei.2
  obtain ⟨hwl,hmm,hwn,c,W⟩:=qf (cx:=cx) (n:=n) (i1:=H.length) (iw:=H0.length) (j:=j) T HT R hes hf (first:=first) (t:=t6.1) (wb:=t6.2) rfl 6 [] (some (st (at3 first j))) (H0 ++ [.lst []]) (au hI0) (au hL0) ay (by omega) (by omega) (fun J h=>nomatch h) (fun m h=>by cases h; exact hst4) (by decide) w (some m) hw
  refine kq ?_
  rw [cr] at W
  obtain ⟨hm,hc⟩:=hmm m rfl
  refine ⟨z0 hc,?_⟩
  apply zg.mk
  case ha=>exact bw (by k_upd)
  refine Ko (K:=[.lst (cdD w)]) hcl0 trivial ?_
  apply ah
  case h1 =>
   apply ai (v:=_)
   case h =>
    apply fh (xs:=[])
    case h=>exact ag
    decide
   exact .inl (by k_upd)
  apply ah
  case h1 =>
   apply ai (v:=.d (.str (cdL (st (at3 first j)))))
   case h =>
    apply ba
    case h0 =>
     apply av
     case h1=>kd_p
     case h2 =>
      apply an (v:=.d (.int (at3 first j : Nat)))
      case h1 =>
       apply an
       case h1=>kd_p
       case h2=>kd_p
       exact e7
      case h2=>kd_p
      rw [<- ei.1]
      exact jf (by decide)
     case ht=>exact bq (.loc (au hN))
     case ho=>exact gj (.loc (au hN)) (x:=.str e.1) (by rw [List.getElem?_map,he]; rfl) (by have:=(ei (first:=first) (j:=j)).2; exact Nat.le_trans this (by decide))
     exact fun J J=>⟨_,rfl⟩
    case h=>exact ag
    case ht=>exact d9
    case pa=>exact PySem.F.plainAttrs_str
    case slot=>exact PySem.F.slot_str_lower
    case hty=>exact PySem.F.type_str_lower
    case hp=>exact rfl
    case hline=>exact rfl
    case hbase=>exact fun J=>rfl
    case hfew=>exact fun J=>rfl
    rw [<- hlow]
    exact gx (ev hgood).1
   exact .inl (by k_upd)
  apply ah
  case h1 =>
   apply ip
   exact W
  apply bb
  apply bp (c:=true)
  case h =>
   apply am
   case h1=>kd_p
   case h2=>kd_p
   case ho =>
    rw [show (true : Bool) = !(isN (PyData.str (cdL m))) from rfl]
    exact dl
   exact rfl
  rw [if_pos rfl]
  apply bb
  apply az
  apply dh
  case h1=>kd_p
  case h2 =>
   apply dj
   apply ba
   case h0=>kd_p
   case h =>
    apply af
    case hp=>exact rfl
    case h=>kd_p
    exact ag
   case ht=>exact dy (hW w)
   case pa=>exact PySem.F.plainAttrs_list
   case slot=>exact PySem.F.slot_list_index
   case hty=>exact PySem.F.type_list_index
   case hp=>exact rfl
   case hline=>exact rfl
   case hbase=>exact fun J=>rfl
   case hfew=>exact fun J=>rfl
   have hix:=yv hm hwl hc
   exact px (v:=.loc H0.length) (ss:=w.map cdL) (.loc (hW w)) hix.1 hix.2 (by rw [List.length_map]; exact Nat.le_trans hwn (by decide))
  case h3=>exact di
  case ht=>exact bq (.loc (hW w))
  have:=lb (cx:=cx) (B:=true) (n:=n + 2) (lw:=some (w.idxOf m : Nat)) (hi:=none) (Ls.loc (hW w)) (by simp [cdD]; exact Nat.le_trans hwn (by decide))
  rw [i3,show (cdD w).drop (w.idxOf m) = cdD (w.drop (w.idxOf m)) by simp [cdD,List.map_drop]] at this
  exact this
theorem Db (T : Top cx) (HT : HTop cx N mN fI fC fS fD fG fK fT) (R : Regs cx) {iI iL : Nat} {es : List Row} {f st : Nat -> Nat} {first : Int} {rr : List Nat} (hcl : Clo H H.length) (hes : ij es) (hk : K7 es st) (hf : Hb es f) (hI : H[iI]? = some (.ins iL)) (hL : H[iL]? = some (.lst (bg es)))
  (hr : rg f ([0,1,2].map fun j=>st (at3 first j)) = some rr) : OpV cx true (n + 3) (fun rvs=>call (.ref 271) rvs []) [.loc iI,.d (.int first)] H (.d (.list (cdD rr))) H:=by
 have h1:=(c5 (vs:=[.loc iI,.d (.int first)]) T.f271 rfl (by k_upd) (Ez (n:=n) T HT R hcl hes hk hf hI hL hr)).take (m:=H.length) (Nat.le_refl _) (hcl.apps (Nat.le_refl _)) trivial
 rwa [fo] at h1
noncomputable def o9 (x : Int) : Int:=if x >= 0 then x.fmod 1000 else -((-x).fmod 1000)
noncomputable def k7 (xs : List Int) (s : List Int) (k : Nat) : List Int:=s.set k (s.getD k 0 + xs.getD k 0)
noncomputable def nums (xs : List Int) : List Int:=(List.range (min 3 xs.length)).foldl (k7 xs) [282,-99,-69,1]
theorem yh {x : Int} : -1000 < o9 x /\ o9 x < 1000:=by
 unfold o9
 have h0:=Int.fmod_nonneg_of_pos x (b:=1000) (by decide)
 have h1:=Int.fmod_lt_of_pos x (b:=1000) (by decide)
 have h2:=Int.fmod_nonneg_of_pos (-x) (b:=1000) (by decide)
 have h3:=Int.fmod_lt_of_pos (-x) (b:=1000) (by decide)
 split <;> omega
theorem vk {xs : List Int} : ∀ (ks : List Nat) (s : List Int),(∀ k ∈ ks,k < 3) -> s.length = 4 -> s[3]? = some 1 -> (ks.foldl (k7 xs) s).length = 4 /\ (ks.foldl (k7 xs) s)[3]? = some 1
 | [],s,_,h1,h2=>⟨h1,h2⟩
 | k :: ks,s,h,h1,h2=>vk ks (k7 xs s k) (fun x hx=>h x (.tail _ hx)) (by simp [k7,h1]) (by
   unfold k7; rw [List.getElem?_set,if_neg (by have:=h k (.head _); exact Nat.ne_of_lt this)]; exact h2)
theorem xg (T : Top cx) {xs : List Int} (hx : xs.length <= 1000) : Ex cx true n (ak 20) (ar 20) [(S "script",.d (.list (xs.map .int)))] H (.ret (.d (.list ((nums xs).map fun x=>.int (o9 x))))) (((H ++ [O.lst ((nums xs).map .int)]) ++ [O.lst ((nums xs).map fun x=>.int (o9 x))]).set (H.length + 1) .dead):=by
 apply ah
 case h1 =>
  apply ai (v:=_)
  case h =>
   apply fh (xs:=[.int 282,.int (-99),.int (-69),.int 1])
   case h =>
    apply af (v:=.d (.int 282)) (vs:=[.d (.int (-99)),.d (.int (-69)),.d (.int 1)])
    case hp=>exact rfl
    case h=>kd_p
    apply af (v:=.d (.int (-99))) (vs:=[.d (.int (-69)),.d (.int 1)])
    case hp=>exact rfl
    case h =>
     apply bn
     case h1=>kd_p
     exact gn
    apply af (v:=.d (.int (-69))) (vs:=[.d (.int 1)])
    case hp=>exact rfl
    case h =>
     apply bn
     case h1=>kd_p
     exact gn
    apply af (v:=.d (.int 1)) (vs:=[])
    case hp=>exact rfl
    case h=>kd_p
    exact ag
   decide
  exact .inl (by k_upd)
 apply ah
 case h1 =>
  apply dp (C:=fun J=>True) (xs:=((List.range (min 3 xs.length)).map fun i : Nat=>(.int (i : Int) : D)).map .d)
  case hit =>
   rw [List.map_map]
   refine lz (m:=min 3 xs.length) (H1:=H ++ [O.lst [.int 282,.int (-99),.int (-69),.int 1]]) ?_ (by k_upd) T.g_range (by omega) rfl (fun J J=>rfl)
   apply bo
   case hx=>k_upd
   case hg=>kd_adr
   case hd=>k_upd
   case hp=>k_upd
   case h =>
    apply af
    case hp=>exact rfl
    case h=>kd_p
    apply af
    case hp=>exact rfl
    case h =>
     apply bo
     case hx=>k_upd
     case hg=>kd_adr
     case hd=>k_upd
     case hp=>k_upd
     case h =>
      apply af
      case hp=>exact rfl
      case h=>kd_p
      exact ag
     have:=b8 (cx:=cx) (B:=true) (n:=n) (H:=H ++ [O.lst [.int 282,.int (-99),.int (-69),.int 1]]) (v:=.d (.list (xs.map .int))) .d (by simp; exact Nat.le_trans hx (by decide))
     rw [List.length_map] at this
     exact this
    exact ag
   have:=Ox (cx:=cx) (n:=n) (H:=H ++ [O.lst [.int 282,.int (-99),.int (-69),.int 1]]) (a:=3) (c:=(xs.length : Int))
   rw [show (if (xs.length : Int) < 3 then (xs.length : Int) else 3) = ((min 3 xs.length : Nat) : Int) by split <;> omega] at this
   exact this
  refine im (C:=fun J=>True) (σ:=List Int) (fun i : Nat=>(.int (i : Int) : D)) (k7 xs) (fun ks s=>s.length = 4 /\ ∀ k ∈ ks,k < 3 /\ k < xs.length) (fun J=>[(S "numbers",.loc H.length),(S "script",.d (.list (xs.map .int)))]) (fun s=>H ++ [.lst (s.map .int)]) (fun k ks s hs=>⟨trivial,⟨by unfold k7; rw [List.length_set]; exact hs.1,fun x hx=>hs.2 x (.tail _ hx)⟩,?_⟩) (fun J J=>trivial) (List.range (min 3 xs.length)) [282,-99,-69,1] ⟨rfl,fun k hk=>by have:=List.mem_range.mp hk; omega⟩
  refine al fun Gq kq=>?_
  obtain ⟨hlen,hks⟩:=hs
  obtain ⟨hk3,hkx⟩:=hks k (.head _)
  refine kq ?_
  have g1 : (s.map PyData.int)[k]? = some (.int (s.getD k 0)):=by rw [List.getElem?_map,List.getD_eq_getElem?_getD,List.getElem?_eq_getElem (by omega)]; rfl
  have g2 : (xs.map PyData.int)[k]? = some (.int (xs.getD k 0)):=by rw [List.getElem?_map,List.getD_eq_getElem?_getD,List.getElem?_eq_getElem (by exact hkx)]; rfl
  apply qh.mk
  case ha=>exact bw (by k_upd)
  case hb =>
   apply ah
   case h1 =>
    apply c7
    case h1 =>
     apply an
     case h1 =>
      apply av
      case h1=>kd_p
      case h2=>kd_p
      case ht=>exact bq (.loc ay)
      case ho=>exact bv (.loc ay) g1 (by exact Nat.le_trans hk3 (by decide))
      exact fun J J=>⟨_,rfl⟩
     case h2 =>
      apply av
      case h1=>kd_p
      case h2=>kd_p
      case ht=>exact bq .d
      case ho=>exact bv .d g2 (by exact Nat.le_trans hk3 (by decide))
      exact fun J J=>⟨_,rfl⟩
     exact e7
    case h2=>kd_p
    case h3=>kd_p
    case h4=>exact uh ay (by rw [List.length_map]; omega) (by exact Nat.le_trans hk3 (by decide))
    exact fun J=>rfl
   exact bj
  rw [cr,show (s.map PyData.int).set k (.int (s.getD k 0 + xs.getD k 0)) = (k7 xs s k).map .int by unfold k7; rw [List.map_set]]
  exact .weak (cj (x:=S "k") (by k_upd))
 apply bb
 apply az
 rw [show List.foldl (k7 xs) [282,-99,-69,1] (List.range (min 3 xs.length)) = nums xs from rfl]
 refine Ev.frzL (i:=H.length + 1) ?_ m0
 have hl : H.length + 1 = (H ++ [O.lst ((nums xs).map .int)]).length:=by rw [List.length_append]; rfl
 rw [hl]
 apply cf
 case S=>exact ⟨by decide +kernel,rfl,by decide +kernel⟩
 case hfi=>exact ct (by k_upd)
 case hit =>
  apply qz
  case h=>kd_p
  case hi=>exact ay
  first | exact ik | exact ld | exact fun J J=>rfl
 case W =>
  apply ja (lo':=[])
  case h=>k_upd
  apply jz (f:=fun x : Int=>(.int x : D)) (g:=fun x=>.int (o9 x)) (bnd:=fun x=>[(S "x",.d (.int x))])
  case hC=>exact fun ys=>au ay
  case has=>exact fun e=>bw (by k_upd)
  case hw=>exact fun e y v h=>nomatch h
  case hv =>
   intro x hx ys
   unfold o9
   by_cases hc : x >= 0
   ·rw [if_pos hc]
    apply jm (c:=true)
    case h =>
     apply am
     case h1=>kd_p
     case h2=>kd_p
     case ho =>
      have:=Mn (cx:=cx) (B:=true) (n:=n) (H:=(H ++ [O.lst ((nums xs).map .int)]) ++ [O.lst ys]) (a:=x) (b:=0)
      rw [decide_eq_true hc] at this
      exact this
     exact rfl
    rw [if_pos rfl]
    apply an
    case h1=>kd_p
    case h2=>kd_p
    exact jf (by decide)
   ·rw [if_neg hc]
    apply jm (c:=false)
    case h =>
     apply am
     case h1=>kd_p
     case h2=>kd_p
     case ho =>
      have:=Mn (cx:=cx) (B:=true) (n:=n) (H:=(H ++ [O.lst ((nums xs).map .int)]) ++ [O.lst ys]) (a:=x) (b:=0)
      rw [decide_eq_false hc] at this
      exact this
     exact rfl
    rw [if_neg (by decide)]
    apply bn (x:=.d (.int ((-x).fmod 1000)))
    case h1 =>
     apply an
     case h1 =>
      apply bn
      case h1=>kd_p
      exact gn
     case h2=>kd_p
     exact jf (by decide)
    exact gn
  have:=(vk (xs:=xs) (List.range (min 3 xs.length)) [282,-99,-69,1] (fun k hk=>by have:=List.mem_range.mp hk; exact Nat.lt_of_lt_of_le this (Nat.min_le_left _ _)) rfl rfl).1
  show (nums xs).length <= _
  unfold nums
  omega
 exact fun J J=>rfl
theorem A8 (T : Top cx) {xs : List Int} (hx : xs.length <= 1000) (hcl : Clo H H.length) : ∃ num : Nat -> Int,et num /\ OpV cx true (n + 1) (fun rvs=>call (.ref 250) rvs []) [.d (.list (xs.map .int))] H (.d (.list [.int (num 0),.int (num 1),.int (num 2),.int 1])) H:=by
 have h4:=vk (xs:=xs) (List.range (min 3 xs.length)) [282,-99,-69,1] (fun k hk=>by have:=List.mem_range.mp hk; exact Nat.lt_of_lt_of_le this (Nat.min_le_left _ _)) rfl rfl
 refine ⟨fun k=>o9 ((nums xs).getD k 0),fun k=>yh,?_⟩
 have h1:=(c5 (vs:=[.d (.list (xs.map .int))]) T.f250 rfl (by k_upd) (xg (n:=n) (H:=H) T hx)).take (m:=H.length) (Nat.le_refl _) (by
  rw [List.append_assoc,List.set_append_right _ _ (by exact Nat.le_succ _)]; exact hcl.apps (Nat.le_refl _)) trivial
 rw [List.append_assoc,List.set_append_right _ _ (by exact Nat.le_succ _),fo] at h1
 have e : (nums xs).map (fun x=>PyData.int (o9 x)) = [.int (o9 ((nums xs).getD 0 0)),.int (o9 ((nums xs).getD 1 0)),.int (o9 ((nums xs).getD 2 0)),.int 1]:=by
  change (nums xs).length = 4 /\ (nums xs)[3]? = some 1 at h4
  generalize nums xs = l at h4
  obtain ⟨h4,h5⟩:=h4
  cases l with
  | nil=>cases h4
  | cons p l =>
   cases l with
   | nil=>cases h4
   | cons q l =>
    cases l with
    | nil=>cases h4
    | cons r l =>
     cases l with
     | nil=>cases h4
     | cons t l =>
      cases l with
      | nil=>cases h5; rfl
      | cons u l=>exact nomatch h4
 rw [e] at h1
 exact h1
end
section
variable {cx : Cx} {b : Bool} {n : Nat} {H H1 H2 : Hp} {sc : Scope} {lo : Lo}
theorem Cl {k : Nat} (hk : k < 3) : List.lookup (ck k) [(S "b",(PyData.int 0)),(S "c",.int 1),(S "d",.int 2)] = some (.int k):=by
 rcases bx hk with rfl | rfl | rfl <;> k_upd
theorem wi (T : Top cx) {k : Nat} (hk : k < 3) : OpV cx b (n + 1) (fun rvs=>call (.ref 257) rvs []) [.d (.str (ck k))] H (.d (.int k)) H:=N2 T (Cl hk)
noncomputable def par : Nat -> Str
 | 1=>S "(<b>)"
 | 2=>S "(c>)"
 | _=>S "(<d)"
theorem Dt {j : Nat} (hj : j = 1 \/ j = 2 \/ j = 3) : List.lookup (cdL j) [(S "b",(PyData.str (S "{b}"))),(S "c",.str (S "c>")),(S "d",.str (S "<d"))] = some (.str (an0 j)):=by
 rcases hj with rfl | rfl | rfl <;> k_upd
theorem Dv {j : Nat} (hj : j = 1 \/ j = 2 \/ j = 3) : List.lookup (cdL j) [(S "b",(PyData.str (S "(<b>)"))),(S "c",.str (S "(c>)")),(S "d",.str (S "(<d)"))] = some (.str (par j)):=by
 rcases hj with rfl | rfl | rfl <;> k_upd
theorem Hu {j : Nat} (hj : j = 1 \/ j = 2 \/ j = 3) : List.lookup (cdL j) [(S "b",(PyData.str (S "<b>"))),(S "c",.str (S "c>")),(S "d",.str (S "<d"))] = some (.str (anL j)):=by
 rcases hj with rfl | rfl | rfl <;> k_upd
theorem Mr {j : Nat} (hj : j = 1 \/ j = 2 \/ j = 3) : par j = Str.ofString "(" ++ anL j ++ Str.ofString ")":=by
 rcases hj with rfl | rfl | rfl <;> k_upd
theorem l4 {x y z : Str} : x ++ y ++ z = x ++ (y ++ z):=by
 show Str.mk _ = Str.mk _
 congr 1
 exact Array.append_assoc
theorem J7 {k m j : Nat} (hj : j = 1 \/ j = 2 \/ j = 3) : dz k ++ Str.ofString ":" ++ Str.ofString (toString (m : Int)) ++ par j = dz k ++ Str.ofString ":" ++ Str.ofString (toString (m : Int)) ++ Str.ofString "(" ++ anL j ++ Str.ofString ")":=by
 rw [Mr hj,l4 (z:=Str.ofString ")"),l4 (z:=Str.ofString ")"),<- l4,<- l4]
theorem pr {x y : Str} : (x ++ y).length = x.length + y.length:=Array.size_append
theorem pv {m : Nat} (hm : m < 100) : (Str.ofString (toString (m : Int))).length <= 10:=by
 have k : (List.range 100).all (fun m=>decide ((Str.ofString (toString (m : Int))).length <= 10)) = true:=by k_upd
 exact of_decide_eq_true (List.all_eq_true.mp k m (List.mem_range.mpr hm))
theorem vn {j : Nat} : (par j).length <= 1000:=by unfold par; split <;> decide +kernel
theorem Kt {k m : Nat} (hk : k < 3) : (ck k == S "d" && (m : Int) == 0) = decide (k = 2 /\ m = 0):=by
 have e : ((m : Int) == 0) = decide (m = 0):=by rw [Bool.eq_iff_iff]; simp
 rw [e]
 rcases bx hk with rfl | rfl | rfl
 ·rw [show (ck 0 == S "d") = false by k_upd]; simp
 ·rw [show (ck 1 == S "d") = false by k_upd]; simp
 ·rw [show (ck 2 == S "d") = true by k_upd]; simp
theorem yz {k : Nat} : PyData.strOk (ck k) = true:=by unfold ck; split <;> exact g7 _
theorem zk {k : Nat} (hk : k < 3) : fitsSsize (k : Int) = true /\ (Txt.charAt (S "bc~") (k : Int)).isSome = true /\ Txt.item (S "bc~") (k : Int) = dz k:=by
 rcases bx hk with rfl | rfl | rfl <;> exact ⟨by k_upd,by k_upd,by k_upd⟩
noncomputable def fg (k m j : Nat) : D:=.tuple [.str (ck k),.int m,.str (cdL j)]
theorem E1 (T : Top cx) {k j m : Nat} (hk : k < 3) (hj : j = 1 \/ j = 2 \/ j = 3) (hm : m < 100) : Ex cx b (n + 1) (ak 27) (ar 27) [(S "arrow",.d (fg k m j))] H (.ret (.d (.str (ti k m j)))) H:=by
 unfold fg ti
 by_cases hc : k = 2 /\ m = 0
 ·rw [if_pos hc]
  apply bb
  apply bp (c:=true)
  case h =>
   apply am (c:=true)
   case h1 =>
    apply dh
    case h1=>kd_p
    case h2=>exact di
    case h3 =>
     apply dj
     kd_p
    case ht=>exact ca
    exact ol (k:=2) (by simp) (by simp)
   case h2 =>
    apply bt (xs:=[.str (S "d"),.int 0])
    case h =>
     apply af (v:=.d (.str (S "d"))) (vs:=[.d (.int 0)])
     case hp=>exact rfl
     case h=>kd_p
     apply af (v:=.d (.int 0)) (vs:=[])
     case hp=>exact rfl
     case h=>kd_p
     exact ag
    simp
   case ho =>
    have:=ix (cx:=cx) (B:=b) (n:=n + 1) (H:=H) (Cm.d (x:=.tuple [.str (ck k),.int m])) (Cm.d (x:=.tuple [.str (S "d"),.int 0])) (c4 yz) (c4 (g7 _))
    rw [lj,Kt hk,decide_eq_true hc] at this
    exact this
   rfl
  rw [if_pos rfl]
  apply bb
  apply az
  apply av
  case h1 =>
   apply lq (es:=[(S "b",.str (S "{b}")),(S "c",.str (S "c>")),(S "d",.str (S "<d"))])
   case h=>kst_p
   case hnd=>decide +kernel
   case hall=>k_upd
   case hl=>rfl
   case h0=>exact fun h=>nomatch h
   decide
  case h2 =>
   apply av
   case h1=>kd_p
   case h2=>kd_p
   case ht=>exact ca
   case ho=>exact cp (j:=2) (by rfl) (by decide) rfl
   exact fun J J=>⟨_,rfl⟩
  case ht=>exact lf
  case ho=>exact gt Dc.d (Dt hj)
  exact fun J J=>⟨_,rfl⟩
 ·rw [if_neg hc,<- J7 hj]
  apply ah
  case h1 =>
   apply bp (c:=false)
   case h =>
    apply am (c:=false)
    case h1 =>
     apply dh
     case h1=>kd_p
     case h2=>exact di
     case h3 =>
      apply dj
      kd_p
     case ht=>exact ca
     exact ol (k:=2) (by simp) (by simp)
    case h2 =>
     apply bt (xs:=[.str (S "d"),.int 0])
     case h =>
      apply af (v:=.d (.str (S "d"))) (vs:=[.d (.int 0)])
      case hp=>exact rfl
      case h=>kd_p
      apply af (v:=.d (.int 0)) (vs:=[])
      case hp=>exact rfl
      case h=>kd_p
      exact ag
     simp
    case ho =>
     have:=ix (cx:=cx) (B:=b) (n:=n + 1) (H:=H) (Cm.d (x:=.tuple [.str (ck k),.int m])) (Cm.d (x:=.tuple [.str (S "d"),.int 0])) (c4 yz) (c4 (g7 _))
     rw [lj,Kt hk,decide_eq_false hc] at this
     exact this
    rfl
   rw [if_neg (by decide)]
   exact bj
  apply bb
  apply az
  apply an
  case h1 =>
   apply an
   case h1 =>
    apply an
    case h1 =>
     apply av (v:=.d (.str (dz k)))
     case h1=>kd_p
     case h2 =>
      apply bd T
      case hx=>k_upd
      case hg=>exact (by k_upd : cb.lookup _ = some (.ref 257))
      case hd=>k_upd
      case F=>exact T.f257
      case hp=>k_upd
      case h =>
       apply af
       case hp=>exact rfl
       case h =>
        apply av
        case h1=>kd_p
        case h2=>kd_p
        case ht=>exact ca
        case ho=>exact cp (j:=0) (by rfl) (by decide) rfl
        exact fun J J=>⟨_,rfl⟩
       exact ag
      exact wi T hk
     case ht=>exact kc
     have h:=zk hk
     rw [<- h.2.2]
     exact k8 h.1 h.2.1
    case h2=>kd_p
    have h1:=kl (k:=k); have h2:=pv hm; have h3:=vn (j:=j); have h4 : (Str.ofString ":").length = 1:=by k_upd
    apply oh
    simp only [pr,sizeLine]
    omega
   case h2 =>
    apply qp
    case hx=>k_upd
    case hg=>kd_adr
    case hd=>k_upd
    case hp=>k_upd
    case h =>
     apply af
     case hp=>exact rfl
     case h =>
      apply av
      case h1=>kd_p
      case h2=>kd_p
      case ht=>exact ca
      case ho=>exact cp (j:=1) (by rfl) (by decide) rfl
      exact fun J J=>⟨_,rfl⟩
     exact ag
    apply Bv
    ·
     have : (List.range 100).all (fun m=>decide ((m : Int).natAbs.log2 < 1920)) = true:=by k_upd
     exact of_decide_eq_true (List.all_eq_true.mp this m (List.mem_range.mpr hm))
   have h1:=kl (k:=k); have h2:=pv hm; have h3:=vn (j:=j); have h4 : (Str.ofString ":").length = 1:=by k_upd
   apply oh
   simp only [pr,sizeLine]
   omega
  case h2 =>
   apply av
   case h1 =>
    apply lq (es:=[(S "b",.str (S "(<b>)")),(S "c",.str (S "(c>)")),(S "d",.str (S "(<d)"))])
    case h=>kst_p
    case hnd=>decide +kernel
    case hall=>k_upd
    case hl=>rfl
    case h0=>exact fun h=>nomatch h
    decide
   case h2 =>
    apply av
    case h1=>kd_p
    case h2=>kd_p
    case ht=>exact ca
    case ho=>exact cp (j:=2) (by rfl) (by decide) rfl
    exact fun J J=>⟨_,rfl⟩
   case ht=>exact lf
   case ho=>exact gt Dc.d (Dv hj)
   exact fun J J=>⟨_,rfl⟩
  have h1:=kl (k:=k); have h2:=pv hm; have h3:=vn (j:=j); have h4 : (Str.ofString ":").length = 1:=by k_upd
  apply oh
  simp only [pr,sizeLine]
  omega
theorem Lf (T : Top cx) {k j m : Nat} (hk : k < 3) (hj : j = 1 \/ j = 2 \/ j = 3) (hm : m < 100) : OpV cx b (n + 2) (fun rvs=>call (.ref 297) rvs []) [.d (fg k m j)] H (.d (.str (ti k m j))) H:=c5 T.f297 rfl (by k_upd) (E1 T hk hj hm)
end
section
variable {cx : Cx} {L : Addr} {m : Str -> Option Value} {n : Nat} {b : Bool} {H : Hp}
noncomputable def vd (z : Heap) (L : Addr) : Heap:=hideAll z [L]
theorem ew {z : Heap} {L b : Addr} {o : Obj} : (vd z L).get? b = some o ↔ z.get? b = some o /\ b ≠ L:=by
 unfold vd
 constructor
 ·intro e
  refine ⟨of_hideAll _ e,fun hb=>?_⟩
  rw [hideAll_none _ (List.mem_singleton.mpr hb)] at e; cases e
 ·rintro ⟨e,h1⟩
  exact hideAll_get _ e fun hb=>h1 (List.mem_singleton.mp hb)
theorem Ek {z : Heap} : Sub (vd z L) z:=fun J J e=>(ew.mp e).1
theorem Bk {z z' : Heap} (hs : Sub z z') : Sub (vd z L) (vd z' L):=fun b o e=>by
 obtain ⟨h1,h2⟩:=ew.mp e
 exact ew.mpr ⟨hs _ _ h1,h2⟩
noncomputable def Cx.out (cx : Cx) (L : Addr) (m : Str -> Option Value) : Cx:={ cx with
 tabs:=L :: cx.tabs
 tabOk:=fun g z=>cx.tabOk g (vd z L) /\ z.Ns L m
 tmono:=fun g J J hs h=>⟨cx.tmono g _ _ (Bk hs) h.1,Heap.Ns.at' h.2 fun o e=>hs _ o e⟩ }
section
variable {ρ : Rh} {X : List Addr} {h : Heap}
theorem G9 (hL : L ∈ X) (ht : L ∉ cx.tabs) : (∀ b o,(vd (zT (cx.out L m) h ρ X) L).get? b = some o ↔ (zT cx h ρ X).get? b = some o):=fun b o=>by
 rw [ew,fc,fc]
 show (_ /\ _ /\ ¬(b ∈ X /\ b ∉ L :: cx.tabs)) /\ _ ↔ _
 constructor
 ·rintro ⟨⟨h1,h2,h3⟩,h4⟩
  exact ⟨h1,h2,fun q=>h3 ⟨q.1,fun k=>(List.mem_cons.mp k).elim h4 q.2⟩⟩
 ·rintro ⟨h1,h2,h3⟩
  exact ⟨⟨h1,h2,fun q=>h3 ⟨q.1,fun k=>q.2 (.tail _ k)⟩⟩,fun e=>h3 ⟨e ▸ hL,e ▸ ht⟩⟩
theorem VOk.out {z : Heap} {rv : Value} {v : V} : VOk (cx.out L m) z ρ rv v ↔ VOk cx z ρ rv v:=by cases v <;> exact Iff.rfl
theorem VsOk.out {z : Heap} : ∀ {rvs : List Value} {vs : List V},VsOk (cx.out L m) z ρ rvs vs ↔ VsOk cx z ρ rvs vs
 | [],[]=>Iff.rfl
 | _ :: _,_ :: _=>and_congr VOk.out VsOk.out
 | [],_ :: _=>Iff.rfl
 | _ :: _,[]=>Iff.rfl
theorem ObOk.out {i : Nat} {o : O} : ObOk (cx.out L m) h ρ X i o ↔ ObOk cx h ρ X i o:=by
 cases o with
 | lsl ls=>exact ⟨fun ⟨a,vs,e,l,r⟩=>⟨a,vs,e,l,VsOk.out.mp r⟩,fun ⟨a,vs,e,l,r⟩=>⟨a,vs,e,l,VsOk.out.mpr r⟩⟩
 | _=>exact Iff.rfl
theorem Inv.into (I : Inv cx ρ H X h) (hL : L ∈ X) (ht : L ∉ cx.tabs) (hn : h.Ns L m) : Inv (cx.out L m) ρ H X h :=
 ⟨I.g,I.tb.imp fun g hg=>⟨cx.tmono g _ _ (fun b o e=>(G9 hL ht b o).mpr e) hg,Heap.Ns.at' hn fun o e=>fc.mpr ⟨e,fun q=>I.dx L q hL,fun q=>q.2 (.head _)⟩⟩,I.len,I.nd,I.ex,I.dx,I.xe,fun a ha=>(List.mem_cons.mp ha).elim (fun e=>e ▸ hL) (I.xt a),fun i o e=>ObOk.out.mpr (I.ob i o e)⟩
theorem Inv.outof (I : Inv (cx.out L m) ρ H X h) (ht : L ∉ cx.tabs) : Inv cx ρ H X h /\ h.Ns L m :=
 ⟨⟨I.g,I.tb.imp fun g hg=>cx.tmono g _ _ (fun b o e=>(G9 (I.xt L (.head _)) ht b o).mp e) hg.1,I.len,I.nd,I.ex,I.dx,I.xe,fun a ha=>I.xt a (.tail _ ha),fun i o e=>ObOk.out.mp (I.ob i o e)⟩,let ⟨_,hg⟩:=I.tb; Heap.Ns.at' hg.2 fun J e=>(fc.mp e).1⟩
end
theorem Fun.out {a : Addr} {i : Nat} {ps : List Str} (F : Fun cx a i ps) : Fun (cx.out L m) a i ps:=⟨F.ex⟩
theorem Top.out (T : Top cx) : Top (cx.out L m):=⟨T.nm,T.f45.out,T.f73.out,T.f80.out,T.f87.out,T.f94.out,T.f101.out,T.f108.out,T.f250.out,T.f257.out,T.f264.out,T.f271.out,T.f278.out,T.f285.out,T.f290.out,T.f297.out,T.f302.out⟩
theorem uf {z : Heap} {vs : Array Value} {o : Obj} (hn : z.Ns L m) (e : z.get? L = some o) : o.data ≠ .fields vs:=fun h=>by
 obtain ⟨o',es,ep,e',hd,_⟩:=hn
 rw [e] at e'
 cases e'
 rw [h] at hd
 cases hd
theorem Nest.out {c P : Addr} {pos : Pos} {qual : Str} (N : Nest cx c P pos qual) (ht : L ∉ cx.tabs) : Nest (cx.out L m) c P pos qual where
 cd:=N.cd
 bm:=N.bm
 gP:=N.gP
 lim:=N.lim
 mem:=.tail _ N.mem
 get:=fun g z h=>(N.get g _ h.1).sub Ek
 tb:=fun g z h Q hQ=>by
  rcases List.mem_cons.mp hQ with rfl | hQ
  ·refine al fun Gq kq=>?_
   obtain ⟨o,es,ep,e,hd,_⟩:=h.2
   refine kq ?_
   exact ⟨o,e,fun vs hv=>absurd hv (uf h.2 e)⟩
  ·refine al fun Gq kq=>?_
   obtain ⟨o,e,r⟩:=N.tb g _ h.1 Q hQ
   refine kq ?_
   exact ⟨o,(ew.mp e).1,r⟩
 put:=fun g z z' h hb hP=>by
  have hPL : L ≠ P:=fun e=>ht (e ▸ N.mem)
  refine al fun Gq kq=>?_
  obtain ⟨o,es,ep,eL,hd,r⟩:=h.2
  have eL':=hb L o hPL eL
  have hn' : z'.Ns L m:=⟨o,es,ep,eL',hd,r⟩
  obtain ⟨g',hg⟩:=N.put g (vd z L) (vd z' L) h.1 (fun c o hc e=>by
   obtain ⟨e1,e2⟩:=ew.mp e
   exact ew.mpr ⟨hb c o hc e1,e2⟩) (by
   obtain ⟨ps,h1,h2⟩:=hP
   refine ⟨ps,ew.mpr ⟨h1,Ne.symm hPL⟩,h2.imp id fun ⟨c',h3,cc,oc,vs,tq,h4,h5,h6,h7⟩=>⟨c',h3,cc,oc,vs,tq,h4,ew.mpr ⟨h5,fun e=>?_⟩,h6,h7⟩⟩
   exact uf hn' (e ▸ h5) h6)
  refine kq ?_
  exact ⟨g',hg,hn'⟩
theorem FunN.out {a : Addr} {i : Nat} {ps : List Str} {c : Addr} {q : Str} (F : FunN cx a i ps c q) : FunN (cx.out L m) a i ps c q:=⟨F.ex⟩
theorem DTop.out (T : DTop cx) (ht : L ∉ cx.tabs) : DTop (cx.out L m):=⟨T.f59.out,T.f66.out,T.n6.out ht,T.n7.out ht⟩
theorem Regs.out (T : Regs cx) : Regs (cx.out L m):=⟨T.r1,T.r2⟩
theorem MethAt.out {f : Addr} {j k : Nat} {ps : List Str} {mk : List Value -> Args} {fill : List Value} (M : MethAt cx f j ps k mk fill) : MethAt (cx.out L m) f j ps k mk fill:=⟨M.ex,M.fn⟩
theorem HTop.out {N : Addr} {mN : Str -> Option Value} {fI fC fS fD fG fK fT : Addr} (T : HTop cx N mN fI fC fS fD fG fK fT) : HTop (cx.out L m) N mN fI fC fS fD fG fK fT :=
 { ins:=T.ins,cls:=T.cls,q1:=T.q1,q2:=T.q2,q3:=T.q3,q4:=T.q4,n1:=T.n1,n2:=T.n2,n3:=T.n3,n4:=T.n4,n5:=T.n5,n6:=T.n6,n7:=T.n7,m1:=T.m1.out,m2:=T.m2.out,m3:=T.m3.out,m4:=T.m4.out,m5:=T.m5.out,m6:=T.m6.out,m7:=T.m7.out,g1:=T.g1,g2:=T.g2,g3:=T.g3,g4:=T.g4,g5:=T.g5 }
end
section
variable {cx : Cx} {n : Nat} {b : Bool} {H : Hp}
noncomputable abbrev ZD : Value:=.type "ZeroDivisionError"
noncomputable def Fr1 (h : Heap) (env : Env) : Prop:=env.scope.kind ≠ .module /\ env.frame = some env.locals /\ ∃ m,h.Ns env.locals m
theorem qw {h : Heap} {Ls : List Addr} : ∀ {l : List Env},(∀ env ∈ l,env.locals ∈ Ls /\ Fr1 h env) -> h.FunFrames (hideAll h Ls) l
 | [],_=>trivial
 | env :: l,hh=>by
  refine al fun Gq kq=>?_
  obtain ⟨h1,h2,h3,m,o,es,ep,ho,hd,r⟩:=hh env (.head _)
  refine kq ?_
  exact ⟨h2,⟨env.locals,o,h3,hideAll_none _ h1,ho,fun vs q=>by rw [hd] at q; cases q⟩,qw fun e he=>hh e (.tail _ he)⟩
theorem Al : isSubtype (.type "ZeroDivisionError") (.type "ZeroDivisionError") = pure true:=by rw [isSubtype_type]; k_upd
theorem Lr : isSubtype (.type "ZeroDivisionError") (.type "BaseException") = pure true:=by rw [isSubtype_type]; k_upd
structure Flew (cx : Cx) (Ls0 : List Addr) (l : List Env) (X : List Addr) (ρ : Rh) (s : Shared) (H : Hp) (e : Value) (s' : Shared) : Prop where
 ex : ∃ hc ρc Y a x0,e = .ref a /\ Fin s s' /\ (∀ y ∈ Y,s.heap.get? y = none) /\ Inv cx ρc H (Y ++ X) hc /\ Ext cx.tabs ρ s.heap ρc hc /\ Heap.FlyingW (hideAll hc (Y ++ Ls0)) l a ZD x0 s'.heap /\ hc.UpToSlots s'.heap
theorem jn {s s' : Shared} {h' : Heap} (x : Fin s s') : Fin s { s' with heap:=h' }:=by
 obtain ⟨h,t,rfl⟩:=x
 exact ⟨h',t,rfl⟩
theorem b80 {cx : Cx} {b : Bool} {n : Nat} {H : Hp} {a : Int} : ∃ t y,ar 9 = [.If t [.Raise (some (.Name (S "ZeroDivisionError") ⟨71,14,71,31⟩)) none ⟨71,8,71,31⟩] y ⟨70,4,79,32⟩] /\ Tst cx b n (ak 9) t [(S "a",.d (.int a)),(S "b",.d (.int 0))] H true H:=by
 refine ⟨_,_,rfl,?_⟩
 apply am (c:=true)
 case h1=>kd_p
 case h2=>kd_p
 case ho =>
  have:=pg (cx:=cx) (B:=b) (n:=n) (H:=H) (a:=0) (b:=0)
  exact this
 rfl
theorem En (T : Top cx) {a : Int} {A : Around} {outer : List Env} {X : List Addr} {ρ : Rh} {s : Shared} {rvs : List Value} {Ls0 : List Addr} {Q : Value -> Shared -> Prop} (hfr : A.frames = some outer) (hr : Rm true (n + 1) A) (I : Inv cx ρ H X s.heap)
  (q : VsOk cx (zH s.heap ρ X) ρ rvs [.d (.int a),.d (.int 0)]) (hl : ∀ ρ' s',Aft cx cx.tabs X ρ s H ρ' s' -> ∀ env ∈ outer,env.locals ∈ Ls0 /\ Fr1 s'.heap env) :
  wpAny (M cx) A (call (.ref 80) rvs []) Q (fun e s'=>Flew cx Ls0 outer X ρ s H e s') s:=by
 obtain ⟨fd,hf,Sg,hsc⟩:=T.f80.ex
 have hlen : rvs.length = ([S "a",S "b"] : List Str).length:=VsOk.length q
 refine gp (args:=⟨rvs,[]⟩) hf Sg.toSig0 (.of_eq (Sg.bind rvs hlen)) hlen (by rw [hsc]; exact fi (by k_upd)) hr I q fun env s₁ Z=>?_
 obtain ⟨t,y,hb,ht⟩:=b80 (cx:=cx) (b:=true) (n:=n) (H:=H) (a:=a)
 rw [hb]
 have henv : env.scope = ak 9:=Z.sc.trans hsc
 refine wpAny_execs_cons (wpAny_If (ht.runB henv Z.rm Z.inv Z.fr fun ρ2 s2 a2=>?_))
 have F2:=a2.fr Z.inv Z.fr
 have bk:=Z.back (Y:=[]) I.xt (a2.mono tE)
 refine wpAny_execs_cons (Raise_classB (Z.rm.1 rfl) excClass_ZeroDivisionError Al (ie (cg a2.inv F2 (by rw [ao,henv]; k_upd) (T.ty (by k_upd)) ⟨rfl,rfl⟩ (by k_upd))) fun h' e hn=>?_)
 obtain ⟨ob,t0,he,hcls,hd⟩:=hn.there
 have hall : ∀ env' ∈ env :: outer,env'.locals ∈ own env ++ Ls0 /\ Fr1 s2.heap env':=fun env' hm=>by
  rcases List.mem_cons.mp hm with rfl | hm
  ·exact ⟨List.mem_append.mpr (.inl (.head _)),by rw [F2.kind]; decide,Z.frame,let ⟨m,h,_⟩:=F2.ns; ⟨m,h⟩⟩
  ·obtain ⟨h1,h2⟩:=hl ρ2 s2 bk env' hm
   exact ⟨List.mem_append.mpr (.inr h1),h2⟩
 have hkb : (hideAll s2.heap (own env ++ Ls0)).StaysIn h':=fun b o hb=>hn.keeps b o (of_hideAll _ hb)
 have hen : (hideAll s2.heap (own env ++ Ls0)).get? e = none:=by
  cases hq : (hideAll s2.heap (own env ++ Ls0)).get? e with
  | none=>rfl
  | some o=>have:=of_hideAll _ hq; rw [hn.new] at this; cases this
 refine wpAny_leaving_firstW (base:=hideAll s2.heap (own env ++ Ls0)) (outer:=outer) (oe:=ob) (a0:=t0) (by show A.frames.map _ = _; rw [hfr]; rfl) ((qw hall).of_keeps fun b o hb J=>⟨o,hn.keeps b o hb,rfl⟩) Z.frame he hkb hen hd rfl rfl fun h'' hL=>?_
 obtain ⟨k1,⟨_,_,k2⟩,k3,k4⟩:=hL
 refine ⟨s2.heap,ρ2,own env,e,t0,rfl,?_,Z.fresh,a2.inv,bk.ext,⟨k1,hen,k2,by rw [hcls] at k3; exact k3⟩,(Heap.UpToSlots.of_keeps hn.keeps).trans k4⟩
 exact jn (jn bk.fin)
end
section
variable {cx : Cx} {n : Nat} {b : Bool} {H H1 : Hp} {sc : Scope} {lo : Lo}
theorem nw {f : Str} {a : Addr} {i : Nat} {ps : List Str} {args : List Expr} {p pos : Pos} {vs : List V} {A : Around} {env : Env} {X : List Addr} {ρ : Rh} {s : Shared} {Q : Value -> Shared -> Prop} {E : Value -> Shared -> Prop} (T : Top cx) (hx : sc.names.lookup f = some .globalImplicit) (hg : cb.lookup f = some (.ref a)) (hd : (f == ("__debug__" : Str)) = false) (Fn : Fun cx a i ps) (hp : args.all cq = true)
  (h : Evs cx b n sc args lo H vs H1) (hs : env.scope = sc) (hr : Rm b n A) (I : Inv cx ρ H X s.heap) (F : FrOk cx env lo ρ X s.heap)
  (k : ∀ ρ1 s1 rvs,Aft cx cx.tabs X ρ s H1 ρ1 s1 -> VsOk cx (zH s1.heap ρ1 X) ρ1 rvs vs -> wpAny (M cx) A (call (.ref a) rvs []) Q E s1) : wpAny (M cx) A (eval (.Call (.Name f p) args [] pos) env) Q E s:=by
 refine al fun Gq kq=>?_
 obtain ⟨fd,hf,_,_⟩:=Fn.ex
 refine kq ?_
 refine wpAny_Call_Name_kw (ie (cg I F (by rw [ao,hs]; exact hx) (T.ref hg) ?_ hd))
 refine al fun Gq kq=>?_
 obtain ⟨_,_,o,ho1,ho2⟩:=hf _ I.g
 obtain ⟨e0,h1,h2⟩:=ax.mp ho1
 refine kq ?_
 refine callWith_function (o:=o) (fd:=fd) (ie (il hp (h.go A env X ρ s pos hs hr I F) fun rvs s1 q=>⟨?_,?_⟩))
 ·refine al fun Gq kq=>?_
  obtain ⟨ρ1,a1,q1⟩:=q
  refine kq ?_
  exact ⟨a1.ext.pres a o e0 h1 fun q=>h2 (a1.inv.xt _ q),ho2⟩
 ·refine al fun Gq kq=>?_
  obtain ⟨ρ1,a1,q1⟩:=q
  refine kq ?_
  exact k ρ1 s1 rvs a1 q1
theorem Flew.back {fd : FuncData} {lo : Lo} {Ls0 : List Addr} {l : List Env} {X : List Addr} {ρ ρ1 : Rh} {s s₁ s1 : Shared} {A' : Around} {env : Env} {e : Value} {s' : Shared} (Z : Entered cx b n fd lo H X ρ s A' env s₁) (hX : ∀ a ∈ cx.tabs,a ∈ X) (a1 : Aft cx cx.tabs (own env ++ X) ρ s₁ H1 ρ1 s1) (f : Flew cx (env.locals :: Ls0) l (own env ++ X) ρ1 s1 H1 e s') :
  ∃ hc ρc Y a x0,e = .ref a /\ Fin s s' /\ (∀ y ∈ Y,s.heap.get? y = none) /\ Inv cx ρc H1 (Y ++ X) hc /\ Ext cx.tabs ρ s.heap ρc hc /\ Heap.FlyingW (hideAll hc (Y ++ Ls0)) l a ZD x0 s'.heap /\ hc.UpToSlots s'.heap:=by
 obtain ⟨hc,ρc,Y,a,x0,rfl,f1,fy,f2,f3,f4,f5⟩:=f.ex
 have hcs : Aft cx (fE cx env) (own env ++ X) ρ s₁ H1 ρc { s1 with heap:=hc }:=⟨a1.fin.trans ⟨_,_,rfl⟩,f2.show_ (fun a ha=>List.mem_append.mpr (.inr ha)) (fun a ha=>List.mem_append.mpr (.inr (hX a ha))),(a1.ext.trans f3).mono tE⟩
 have bk:=Z.back (Y:=[]) hX hcs
 have fresh : ∀ y ∈ Y ++ own env,s.heap.get? y = none:=fun y hy=>by
  rcases List.mem_append.mp hy with h | h
  ·cases hq : s.heap.get? y with
   | none=>rfl
   | some o =>
    obtain ⟨o',e'⟩:=a1.ext.stay y o (Z.keep y o hq)
    rw [fy y h] at e'; cases e'
  ·exact Z.fresh y h
 refine ⟨hc,ρc,Y ++ own env,a,x0,rfl,Z.fin.trans (a1.fin.trans f1),fresh,by rw [List.append_assoc]; exact f2,bk.ext,?_,f5⟩
 obtain ⟨k1,k2,k3,k4⟩:=f4
 have sub : ∀ c o,(hideAll hc (Y ++ own env ++ Ls0)).get? c = some o -> (hideAll hc (Y ++ env.locals :: Ls0)).get? c = some o:=fun c o e=>by
  have hn : c ∉ Y ++ own env ++ Ls0:=fun q=>by rw [hideAll_none _ q] at e; cases e
  exact hideAll_get _ (of_hideAll _ e) fun q=>hn (by
   rcases List.mem_append.mp q with q | q
   ·exact List.mem_append.mpr (.inl (List.mem_append.mpr (.inl q)))
   ·rcases List.mem_cons.mp q with q | q
    ·exact List.mem_append.mpr (.inl (List.mem_append.mpr (.inr (q ▸ .head _))))
    ·exact List.mem_append.mpr (.inr q))
 have none_ : ∀ c,(hideAll hc (Y ++ env.locals :: Ls0)).get? c = none -> (hideAll hc (Y ++ own env ++ Ls0)).get? c = none:=fun c e=>by
  cases q : (hideAll hc (Y ++ own env ++ Ls0)).get? c with
  | none=>rfl
  | some o=>rw [sub c o q] at e; cases e
 refine ⟨fun c o e=>k1 c o (sub c o e),none_ _ k2,?_,?_⟩
 ·generalize s'.heap = h' at k3
  clear k1 k2 k4 sub f1 f
  induction l with
  | nil=>trivial
  | cons env' rest ih =>
   obtain ⟨q1,⟨L,o,q2,q3,q4⟩,q5⟩:=k3
   exact ⟨q1,⟨L,o,q2,none_ _ q3,q4⟩,ih q5⟩
 ·obtain ⟨oe,vs,T,oT,ts,r1,r2,r3,r4,r5,r6⟩:=k4
  exact ⟨oe,vs,T,oT,ts,r1,r2,r3,r4,none_ _ r5,r6⟩
theorem b22 (T : Top cx) {iT l3 : Nat} {ls : List Nat} {left : Int} {v1 v2 : V} (hT : H[iT]? = some (.lsl ls)) (hls : ls[3]? = some l3) (h3 : H[l3]? = some (.lst [])) : ∃ o args rest,ar 22 = (.Expr (.Call (.Attribute o (S "append") ⟨194,4,194,18⟩) [.Call (.Name (S "int_divmod") ⟨194,19,194,29⟩) args [] ⟨194,19,194,54⟩] [] ⟨194,4,194,55⟩) ⟨194,4,194,55⟩) :: rest /\
  Ev cx b n (ak 22) o [(S "table",v1),(S "came",v2),(S "told",.loc iT),(S "left",.d (.int left)),(S "k",.d (.int 3))] H (.loc l3) H /\
  Evs cx b n (ak 22) args [(S "table",v1),(S "came",v2),(S "told",.loc iT),(S "left",.d (.int left)),(S "k",.d (.int 3))] H [.d (.int left),.d (.int 0)] H /\
  args.all cq = true /\ (∀ env,attributeBase o (S "append") env (eval o env) = eval o env) /\
  (∀ env,((backTo ⟨194,4,194,55⟩ (starEach [.Call (.Name (S "int_divmod") ⟨194,19,194,29⟩) args [] ⟨194,19,194,54⟩] env)).all (fun x=>!x.1) && (backToKw ⟨194,4,194,55⟩ (keywordEach [] env)).all (fun x=>x.1.isSome) && decide (([.Call (.Name (S "int_divmod") ⟨194,19,194,29⟩) args [] ⟨194,19,194,54⟩] : List Expr).length + ([] : List Keyword).length + (if ([] : List Keyword).isEmpty then 0 else 1) < 30)) = true) /\
  (∀ env,swapsWith (.Call (.Attribute o (S "append") ⟨194,4,194,18⟩) [.Call (.Name (S "int_divmod") ⟨194,19,194,29⟩) args [] ⟨194,19,194,54⟩] [] ⟨194,4,194,55⟩) none 194 env = pure false) /\ (∀ env,starEach [.Call (.Name (S "int_divmod") ⟨194,19,194,29⟩) args [] ⟨194,19,194,54⟩] env = [(false,eval (.Call (.Name (S "int_divmod") ⟨194,19,194,29⟩) args [] ⟨194,19,194,54⟩) env)]):=by
 refine ⟨_,_,_,rfl,?_,?_,rfl,fun J=>rfl,fun J=>rfl,fun J=>rfl,fun env=>?_⟩
 ·apply av
  case h1=>kd_p
  case h2=>kd_p
  case ht=>exact ft hT
  case ho=>exact dt (k:=3) hT hls (by decide)
  exact fun J J=>⟨_,rfl⟩
 ·apply af (v:=.d (.int left)) (vs:=[.d (.int 0)])
  case hp=>rfl
  case h=>kd_p
  apply af (v:=.d (.int 0)) (vs:=[])
  case hp=>rfl
  case h =>
   apply av
   case h1 =>
    apply cn (xs:=[.int 12,.int 8,.int (-7),.int 0])
    case h =>
     apply af (v:=.d (.int 12)) (vs:=[.d (.int 8),.d (.int (-7)),.d (.int 0)])
     case hp=>rfl
     case h=>kd_p
     apply af (v:=.d (.int 8)) (vs:=[.d (.int (-7)),.d (.int 0)])
     case hp=>rfl
     case h=>kd_p
     apply af (v:=.d (.int (-7))) (vs:=[.d (.int 0)])
     case hp=>rfl
     case h =>
      apply bn
      case h1=>kd_p
      exact gn
     apply af (v:=.d (.int 0)) (vs:=[])
     case hp=>rfl
     case h=>kd_p
     exact ag
    decide
   case h2=>kd_p
   case ht=>exact bq .d
   case ho=>exact bv (k:=3) .d rfl (by decide)
   exact fun J J=>⟨_,rfl⟩
  exact ag
 ·rw [eh rfl]; rfl
theorem E2 (T : Top cx) {iT l3 : Nat} {ls : List Nat} {left : Int} {v1 v2 : V} {A : Around} {outer : List Env} {X : List Addr} {ρ : Rh} {s : Shared} {rvs : List Value} {Ls0 : List Addr} {Q : Value -> Shared -> Prop} (hT : H[iT]? = some (.lsl ls)) (hls : ls[3]? = some l3) (h3 : H[l3]? = some (.lst []))
  (hfr : A.frames = some outer) (hr : Rm true (n + 2) A) (I : Inv cx ρ H X s.heap) (q : VsOk cx (zH s.heap ρ X) ρ rvs [v1,v2,.loc iT,.d (.int left),.d (.int 3)]) (hl : ∀ ρ' s',Aft cx cx.tabs X ρ s H ρ' s' -> ∀ env ∈ outer,env.locals ∈ Ls0 /\ Fr1 s'.heap env) :
  wpAny (M cx) A (call (.ref 264) rvs []) Q (fun e s'=>Flew cx Ls0 outer X ρ s H e s') s:=by
 refine al fun Gq kq=>?_
 obtain ⟨fd,hf,Sg,hsc⟩:=T.f264.ex
 refine kq ?_
 have hlen : rvs.length = ([S "table",S "came",S "told",S "left",S "k"] : List Str).length:=VsOk.length q
 refine gp (args:=⟨rvs,[]⟩) hf Sg.toSig0 (.of_eq (Sg.bind rvs hlen)) hlen (by rw [hsc]; exact fi (by k_upd)) hr I q fun env s₁ Z=>?_
 refine al fun Gq kq=>?_
 obtain ⟨o,args,rest,hb,ho,ha,hpl,hbase,hfew,hsw,hst⟩:=b22 (cx:=cx) (b:=true) (n:=n + 1) (v1:=v1) (v2:=v2) (left:=left) T hT hls h3
 refine kq ?_
 rw [hb]
 have henv : env.scope = ak 22:=Z.sc.trans hsc
 refine wpAny_execs_cons (wpAny_Expr_any (wpAny_Call_method (hbase env) (hfew env) rfl PySem.F.plainAttrs_list PySem.F.slot_list_append PySem.F.type_list_append (ie (ho.run henv Z.rm Z.inv Z.fr fun ρ1 rv s1 a1 q1=>?_))) (df Z.fr.kind) (hsw env))
 have F1:=a1.fr Z.inv Z.fr
 refine ⟨(dy h3 ρ1 _ s1 rv a1.inv q1).1,(dy h3 ρ1 _ s1 rv a1.inv q1).2,?_⟩
 rw [hst env]
 refine callWith_builtin rfl (evalArgs_plain (spliced_cons ?_))
 refine nw (E:=_) T (by k_upd) (by k_upd : cb.lookup _ = some (.ref 80)) (by k_upd) T.f80 hpl ha henv Z.rm a1.inv F1 fun ρ2 s2 rvs2 a2 q2=>?_
 have a12:=a1.trans a2
 refine wpAny_mono (En (n:=n) (outer:=env :: outer) (Ls0:=env.locals :: Ls0) (Q:=fun J J=>False) T (by show A.frames.map _ = _; rw [hfr]; rfl) Z.rm a2.inv q2 fun ρ3 s3 a3 env' hm=>?_) (nn) fun e s' f=>?_
 ·have a13:=a12.trans a3
  rcases List.mem_cons.mp hm with rfl | hm
  ·have F3:=a13.fr Z.inv Z.fr
   exact ⟨.head _,by rw [F3.kind]; decide,Z.frame,let ⟨m,h,_⟩:=F3.ns; ⟨m,h⟩⟩
  ·obtain ⟨h1,h2⟩:=hl ρ3 s3 (Z.back (Y:=[]) I.xt (a13.mono tE)) env' hm
   exact ⟨.tail _ h1,h2⟩
 ·refine al fun Gq kq=>?_
  obtain ⟨hc,ρc,Y,a,x0,rfl,f1,fy,f2,f3,f4,f5⟩:=f.back Z I.xt a12
  refine kq ?_
  refine wpAny_leaves_onW (outer:=outer) (by show A.frames.map _ = _; rw [hfr]; rfl) Z.frame f4 fun h' g1 g2=>?_
  exact ⟨hc,ρc,Y,a,x0,rfl,jn f1,fy,f2,f3,g1,f5.trans g2⟩
end
section
variable {cx : Cx} {n : Nat} {b : Bool} {H H1 : Hp} {sc : Scope} {lo : Lo} {L : Addr} {m : Str -> Option Value}
theorem ObOk.moveX {h h' : Heap} {ρ : Rh} {X X' : List Addr} {i : Nat} {o : O} (hz : Sub (zH h ρ X) (zH h' ρ X')) (ho : ∀ a ob,ρ[i]? = some (some a) -> h.get? a = some ob -> h'.get? a = some ob) (q : ObOk cx h ρ X i o) : ObOk cx h' ρ X' i o:=by
 cases o with
 | lst xs=>obtain ⟨a,vs,e,⟨n,e1⟩,r⟩:=q; exact ⟨a,vs,e,⟨n,ho a _ e e1⟩,r.sub hz⟩
 | lsl ls=>obtain ⟨a,vs,e,⟨n,e1⟩,r⟩:=q; exact ⟨a,vs,e,⟨n,ho a _ e e1⟩,r.move hz (Nat.le_refl _) fun J J J e=>e⟩
 | dct es=>obtain ⟨a,vs,e,⟨m,ob,n,ep,e1,e2⟩,r⟩:=q; exact ⟨a,vs,e,⟨m,ob,n,ep,ho a ob e e1,e2⟩,r.sub hz⟩
 | ins l=>obtain ⟨a,rv,e,x,r⟩:=q; exact ⟨a,rv,e,cx.imono _ _ _ _ _ _ hz (fun ob e1=>ho a ob e e1) x,VOk.move hz (Nat.le_refl _) (fun J J J e=>e) r⟩
 | dead=>exact q
theorem Om {env : Env} {X Y : List Addr} {ρ ρc : Rh} {s : Shared} {hc h5 : Heap} (I : Inv (cx.out L m) ρ H X s.heap) (F : FrOk (cx.out L m) env lo ρ X s.heap) (Ic : Inv (cx.out L m) ρc H1 (Y ++ X) hc) (xc : Ext (cx.out L m).tabs ρ s.heap ρc hc) (fy : ∀ y ∈ Y,s.heap.get? y = none)
  (st : ∀ c o,hc.get? c = some o -> c ∉ Y ++ [env.locals,L] -> h5.get? c = some o) (up : hc.UpToSlots h5) : Inv (cx.out L m) ρc H1 X h5 /\ FrOk (cx.out L m) env lo ρc X h5 /\ Ext (fE (cx.out L m) env) ρ s.heap ρc h5:=by
 have hLX : L ∈ X:=I.xt L (.head _)
 have hnY : ∀ c o,s.heap.get? c = some o -> c ∉ Y:=fun c o e q=>by rw [fy c q] at e; cases e
 have hXY : ∀ c ∈ X,c ∉ Y:=fun c hc q=>by obtain ⟨o,e⟩:=I.xe c hc; exact hnY c o e q
 obtain ⟨mf,hmf,hmv⟩:=F.ns
 have nsL : hc.Ns L m:=let ⟨g,hg⟩:=Ic.tb; Heap.Ns.at' hg.2 fun J e=>(fc.mp e).1
 have nsF : hc.Ns env.locals mf:=Heap.Ns.at' hmf fun o e=>xc.pres _ _ e (fun q=>I.dx _ q F.lx) F.lt
 have nsL5 : h5.Ns L m:=up.ns nsL
 have nsF5 : h5.Ns env.locals mf:=up.ns nsF
 have exX : ∀ c o,hc.get? c = some o -> c ∉ Y -> ∃ o',h5.get? c = some o':=fun c o e hy=>by
  by_cases h1 : c = env.locals
  ·obtain ⟨o,_,_,e,_⟩:=nsF5; exact ⟨o,h1 ▸ e⟩
  ·by_cases h2 : c = L
   ·obtain ⟨o,_,_,e,_⟩:=nsL5; exact ⟨o,h2 ▸ e⟩
   ·exact ⟨o,st c o e fun q=>(List.mem_append.mp q).elim hy fun q=>by
     rcases List.mem_cons.mp q with q | q
     ·exact h1 q
     ·exact h2 (List.mem_singleton.mp q)⟩
 have hz : Sub (zH hc ρc (Y ++ X)) (zH h5 ρc X):=fun c o e=>by
  obtain ⟨e,h1,h2⟩:=ax.mp e
  refine ax.mpr ⟨st c o e fun q=>h2 ?_,h1,fun q=>h2 (List.mem_append.mpr (.inr q))⟩
  rcases List.mem_append.mp q with q | q
  ·exact List.mem_append.mpr (.inl q)
  ·rcases List.mem_cons.mp q with q | q
   ·exact List.mem_append.mpr (.inr (q ▸ F.lx))
   ·exact List.mem_append.mpr (.inr (List.mem_singleton.mp q ▸ hLX))
 have hzs : Sub (zH s.heap ρ X) (zH h5 ρc X):=fun c o e=>by
  obtain ⟨e,h1,h2⟩:=ax.mp e
  have e2:=xc.pres c o e h1 fun q=>h2 (I.xt c q)
  refine hz c o (ax.mpr ⟨e2,fun q=>?_,fun q=>(List.mem_append.mp q).elim (hnY c o e) h2⟩)
  rw [xc.new c q h1] at e; cases e
 have keepX : ∀ c o,c ∈ X -> c ∉ (cx.out L m).tabs -> c ≠ env.locals -> s.heap.get? c = some o -> h5.get? c = some o:=fun c o hX ht hl e =>
  st c o (xc.pres c o e (fun q=>I.dx c q hX) ht) fun q=>(List.mem_append.mp q).elim (hnY c o e) fun q=>by
   rcases List.mem_cons.mp q with q | q
   ·exact hl q
   ·exact ht (List.mem_singleton.mp q ▸ .head _)
 refine ⟨⟨cx.gmono _ _ hz Ic.g,?_,Ic.len,Ic.nd,fun a ha=>?_,fun a ha q=>Ic.dx a ha (List.mem_append.mpr (.inr q)),fun a ha=>?_,I.xt,fun i o e=>?_⟩,?_,?_⟩
 ·obtain ⟨g,hg1,hg2⟩:=Ic.tb
  refine ⟨g,cx.tmono g _ _ (fun c o e=>?_) hg1,Heap.Ns.at' nsL5 fun o e=>fc.mpr ⟨e,fun q=>Ic.dx L q (List.mem_append.mpr (.inr hLX)),fun q=>q.2 (.head _)⟩⟩
  obtain ⟨e,hL⟩:=ew.mp e
  obtain ⟨e,h1,h2⟩:=fc.mp e
  have nY : c ∉ Y:=fun q=>h2 ⟨List.mem_append.mpr (.inl q),fun ht=>by obtain ⟨o',e'⟩:=I.xe c (I.xt c ht); exact hnY c o' e' q⟩
  refine ew.mpr ⟨fc.mpr ⟨st c o e fun q=>(List.mem_append.mp q).elim nY fun q=>?_,h1,fun q=>h2 ⟨List.mem_append.mpr (.inr q.1),q.2⟩⟩,hL⟩
  rcases List.mem_cons.mp q with q | q
  ·exact h2 ⟨List.mem_append.mpr (.inr (q ▸ F.lx)),q ▸ F.lt⟩
  ·exact hL (List.mem_singleton.mp q)
 ·obtain ⟨o,e⟩:=Ic.ex a ha
  exact exX a o e fun q=>Ic.dx a ha (List.mem_append.mpr (.inl q))
 ·obtain ⟨o,e⟩:=Ic.xe a (List.mem_append.mpr (.inr ha))
  exact exX a o e (hXY a ha)
 ·refine (Ic.ob i o e).moveX hz fun a ob e1 e2=>st a ob e2 fun q=>Ic.dx a (b9 e1) ?_
  rcases List.mem_append.mp q with q | q
  ·exact List.mem_append.mpr (.inl q)
  ·rcases List.mem_cons.mp q with q | q
   ·exact List.mem_append.mpr (.inr (q ▸ F.lx))
   ·exact List.mem_append.mpr (.inr (List.mem_singleton.mp q ▸ hLX))
 ·exact F.chg F.lx (fun y c e=>(F.ce y c e).1) (fun y c o e=>have q:=F.ce y c e; keepX c o q.1 q.2.1 q.2.2.1) (fun J J=>VOk.move hzs xc.len xc.idx) (fun J J e J=>e) ⟨mf,nsF5,fun y v e k=>(hmv y v e k).imp fun J q=>⟨q.1,VOk.move hzs xc.len xc.idx q.2⟩⟩
 ·refine ⟨xc.len,xc.idx,fun c o e h1 h2=>?_,fun c o e=>?_,xc.new⟩
  ·have ht : c ∉ (cx.out L m).tabs:=fun q=>h2 (tE c q)
   refine st c o (xc.pres c o e h1 ht) fun q=>(List.mem_append.mp q).elim (hnY c o e) fun q=>?_
   rcases List.mem_cons.mp q with q | q
   ·exact h2 (List.mem_append.mpr (.inl (q ▸ .head _)))
   ·exact ht (List.mem_singleton.mp q ▸ .head _)
  ·obtain ⟨o',e'⟩:=xc.stay c o e
   exact exX c o' e' (hnY c o e)
noncomputable def w0 : List Stmt:=gc (nth 6 (ar 24))
noncomputable abbrev tLo (iT iC iI iR iB : Nat) (nD : D) (nums picks : D) : Lo:=[(S "none",.d nD),(S "book",.loc iB),(S "rings",.loc iR),(S "told",.loc iT),(S "came",.loc iC),(S "table",.loc iI),(S "numbers",.d nums),(S "picks",.d picks)]
theorem b24 {iT iC iI iR iB l3 : Nat} {nD picks x0 x1 x2 : D} {ls : List Nat} (hT : H[iT]? = some (.lsl ls)) (hls : ls[3]? = some l3) (h3 : H[l3]? = some (.lst [])) : ∃ args b0,w0 = [.Try [.Expr (.Call (.Name (S "_law_lay") ⟨219,12,219,20⟩) args [] ⟨219,12,219,54⟩) ⟨219,12,219,54⟩] [.ExceptHandler (some (.Name (S "ZeroDivisionError") ⟨220,15,220,32⟩)) none [b0] ⟨220,8,221,32⟩] [] [] ⟨218,8,221,32⟩] /\
  Evs cx true n (ak 24) args ((S "k",.d (.int 3)) :: tLo iT iC iI iR iB nD (.list [x0,x1,x2,.int 1]) picks) H [.loc iI,.loc iC,.loc iT,.d (.int 1),.d (.int 3)] H /\ args.all cq = true /\ (∀ env,swapsWith (.Call (.Name (S "_law_lay") ⟨219,12,219,20⟩) args [] ⟨219,12,219,54⟩) none 219 env = pure false) /\
  Ex cx false n (ak 24) [b0] ((S "k",.d (.int 3)) :: tLo iT iC iI iR iB nD (.list [x0,x1,x2,.int 1]) picks) H (.nxt ((S "k",.d (.int 3)) :: tLo iT iC iI iR iB nD (.list [x0,x1,x2,.int 1]) picks)) (H.set l3 (.lst [.none])):=by
 refine ⟨_,_,rfl,?_,rfl,fun J=>rfl,?_⟩
 ·apply af (v:=.loc iI) (vs:=[.loc iC,.loc iT,.d (.int 1),.d (.int 3)])
  case hp=>rfl
  case h=>kd_p
  apply af (v:=.loc iC) (vs:=[.loc iT,.d (.int 1),.d (.int 3)])
  case hp=>rfl
  case h=>kd_p
  apply af (v:=.loc iT) (vs:=[.d (.int 1),.d (.int 3)])
  case hp=>rfl
  case h=>kd_p
  apply af (v:=.d (.int 1)) (vs:=[.d (.int 3)])
  case hp=>rfl
  case h =>
   apply av
   case h1=>kd_p
   case h2=>kd_p
   case ht=>exact bq .d
   case ho=>exact bv (k:=3) .d rfl (by decide)
   exact fun J J=>⟨_,rfl⟩
  kd_p1
 ·apply ah
  case h1 =>
   apply c8
   case h =>
    apply ba
    case h0 =>
     apply av
     case h1=>kd_p
     case h2=>kd_p
     case ht=>exact ft hT
     case ho=>exact dt (k:=3) hT hls (by decide)
     exact fun J J=>⟨_,rfl⟩
    case h=>kd_p1
    case ht=>exact dy h3
    case pa=>exact PySem.F.plainAttrs_list
    case slot=>exact PySem.F.slot_list_append
    case hty=>exact PySem.F.type_list_append
    case hp=>rfl
    case hline=>rfl
    case hbase=>exact fun J=>rfl
    case hfew=>exact fun J=>rfl
    exact app_lst h3 (by decide)
   exact fun J=>rfl
  exact bj
theorem Ov : isSubtype (.type ((Manifest.find? "ZeroDivisionError").elim "type" fun x=>x.metatype)) (.type "tuple") = pure false:=by
 rw [show ((Manifest.find? "ZeroDivisionError").elim "type" fun x=>x.metatype) = "type" from by k_upd,isSubtype_type]; k_upd
theorem G1 (T : Top cx) (hLt : L ∉ cx.tabs) {iT iC iI iR iB l3 : Nat} {nD picks x0 x1 x2 : D} {ls : List Nat} {A : Around} {env envL : Env} {X : List Addr} {ρ : Rh} {s : Shared} (hT : H[iT]? = some (.lsl ls)) (hls : ls[3]? = some l3) (h3 : H[l3]? = some (.lst [])) (hs : env.scope = ak 24) (hf : env.frame = some env.locals) (hL : envL.locals = L) (hLf : envL.frame = some L) (hLk : envL.scope.kind ≠ .module)
  (hfr : A.frames = some [env,envL]) (hr : Rm true (n + 2) A) (I : Inv (cx.out L m) ρ H X s.heap) (F : FrOk (cx.out L m) env ((S "k",.d (.int 3)) :: tLo iT iC iI iR iB nD (.list [x0,x1,x2,.int 1]) picks) ρ X s.heap) :
  wpAny (M cx) A (execs w0 env) (kd (cx.out L m) env X ρ s (.nxt ((S "k",.d (.int 3)) :: tLo iT iC iI iR iB nD (.list [x0,x1,x2,.int 1]) picks)) (H.set l3 (.lst [.none]))) No s:=by
 refine al fun Gq kq=>?_
 obtain ⟨args,b0,hb,ha,hpl,hsw,hx⟩:=b24 (cx:=cx.out L m) (n:=n + 2) (iC:=iC) (iI:=iI) (iR:=iR) (iB:=iB) (nD:=nD) (picks:=picks) (x0:=x0) (x1:=x1) (x2:=x2) hT hls h3
 refine kq ?_
 rw [hb]
 have T':=T.out (L:=L) (m:=m)
 refine wpAny_execs_cons (wpAny_Try_except ?_)
 refine wpAny_execs_cons (wpAny_Expr_any (nw (cx:=cx.out L m) (E:=_) T' (by k_upd) (by k_upd : cb.lookup _ = some (.ref 264)) (by k_upd) T'.f264 hpl ha hs hr I F fun ρ1 s1 rvs a1 q1=>?_) (df F.kind) (hsw env))
 have F1:=a1.fr I F
 refine wpAny_mono (E2 (cx:=cx.out L m) (n:=n) (outer:=[env,envL]) (Ls0:=[env.locals,L]) (Q:=fun J J=>False) T' hT hls h3 hfr hr a1.inv q1 fun ρ3 s3 a3 env' hm=>?_) (nn) fun e s' f=>?_
 ·have F3:=a3.fr a1.inv F1
  rcases List.mem_cons.mp hm with rfl | hm
  ·exact ⟨.head _,by rw [F3.kind]; decide,hf,let ⟨m,h,_⟩:=F3.ns; ⟨m,h⟩⟩
  ·rw [List.mem_singleton.mp hm]
   exact ⟨by rw [hL]; exact .tail _ (.head _),hLk,by rw [hL]; exact hLf,m,by rw [hL]; exact (a3.inv.outof hLt).2⟩
 ·refine al fun Gq kq=>?_
  obtain ⟨hc,ρc,Y,a,x0',rfl,f1,fy,f2,f3,f4,f5⟩:=f.ex
  refine kq ?_
  refine wpAny_looks_onW hfr hf f4 fun h4 g1 g2=>?_
  refine wpAny_landsW g1 fun h5 g3 g4=>?_
  have up5:=f5.trans (g2.trans g4)
  have hTy : ∀ (tk : Nat),True:=fun J=>trivial
  refine wpAny_handleBy_builtin Lr Ov Al ?_
  refine al fun Gq kq=>?_
  obtain ⟨I5,F5,x5⟩:=Om a1.inv F1 f2 f3 fy (fun c o e hn=>g3.1 c o (hideAll_get _ e hn)) up5
  refine kq ?_
  refine ie (cg (cx:=cx.out L m) I5 F5 (by rw [ao,hs]; k_upd) (T'.ty (by k_upd)) ⟨rfl,?_,?_⟩ (by k_upd))
  ·refine al fun Gq kq=>?_
   obtain ⟨ob,e1,e2⟩:=g3.there
   refine kq ?_
   exact ⟨ob,e1,e2⟩
  ·rw [if_pos rfl]
   refine wpAny_setFlight_noneW g3.1 g3.2.2.1 g3.2.2.2.at fun h6 k1 k2 k3 k4=>?_
   have up6 : hc.UpToSlots h6:=up5.trans fun c o e hn=>⟨o.slots,k4 c o e hn⟩
   refine al fun Gq kq=>?_
   obtain ⟨I6,F6,x6⟩:=Om a1.inv F1 f2 f3 fy (fun c o e hn=>k1 c o (hideAll_get _ e hn)) up6
   refine kq ?_
   refine ie (hx.runN hs ⟨(fun h=>nomatch h),hr.2⟩ I6 F6 fun ρ7 s7 a7 F7=>?_)
   refine wpAny_execs_nil ⟨ρ7,⟨?_,a7.inv,(a1.ext.mono tE).trans (x6.trans a7.ext)⟩,rfl,F7⟩
   exact a1.fin.trans ((jn (jn (jn f1))).trans a7.fin)
end
section
variable {cx : Cx} {n : Nat} {b : Bool} {H H1 H2 : Hp} {sc : Scope} {lo lo1 : Lo}
structure ExA (cx : Cx) (A : Around) (env : Env) (ss : List Stmt) (lo : Lo) (H : Hp) (r : R) (H' : Hp) : Prop where
 go : ∀ X ρ s,Inv cx ρ H X s.heap -> FrOk cx env lo ρ X s.heap -> wpAny (M cx) A (execs ss env) (kd cx env X ρ s r H') No s
theorem Ex.at_ {A : Around} {env : Env} {ss : List Stmt} {r : R} {H' : Hp} (h : Ex cx b n sc ss lo H r H') (hs : env.scope = sc) (hr : Rm b n A) : ExA cx A env ss lo H r H':=.mk fun X ρ s I F=>h.go A env X ρ s hs hr I F
noncomputable abbrev FoA (cx : Cx) (A : Around) (env : Env) (sc : Scope) (tgt : Expr) (body : List Stmt) (C : Hp -> Prop) (xs : List V) (lo : Lo) (H : Hp) (lo' : Lo) (H' : Hp) : Prop:=FoG cx sc tgt (fun lo H r H'=>ExA cx A env body lo H r H') C xs lo H (.nxt lo') H'
theorem Lv {e tgt : Expr} {body : List Stmt} {pos : Pos} {lo' : Lo} {xs : List V} {C : Hp -> Prop} {H' : Hp} {A : Around} {env : Env} {X : List Addr} {ρ : Rh} {s : Shared} (hit : jx cx true n sc e tgt lo H xs C H1) (W : FoA cx A env sc tgt body C xs lo H1 lo' H')
  (hs : env.scope = sc) (hr : Rm true n A) (I : Inv cx ρ H X s.heap) (F : FrOk cx env lo ρ X s.heap) (hfs : ∀ env x,foldedSetIterable e env x = pure x:=by intro _ _; rfl) : wpAny (M cx) A (exec (.For tgt e body [] pos) env) (kd cx env X ρ s (.nxt lo') H') No s :=
 Kq (fun h X ρ s I F=>h.go X ρ s I F) hit W hs hr I F hfs
theorem H8 {body : List Stmt} {h0 : ExceptHandler} {hs : List ExceptHandler} {pos : Pos} (h : Ex cx b n sc body lo H (.nxt lo1) H1) : Ex1 cx b n sc (.Try body (h0 :: hs) [] [] pos) lo H (.nxt lo1) H1:=.mk fun A env X ρ s hs' hr I F =>
 wpAny_Try_except (h.runN hs' hr I F fun ρ1 s1 a1 F1=>by
  exact wpAny_execs_nil ⟨ρ1,a1,rfl,F1⟩)
theorem bz {H K : Hp} {i : Nat} : (H ++ K)[H.length + i]? = K[i]?:=by rw [List.getElem?_append_right (by exact Nat.le_add_right _ _)]; congr 1; omega
theorem cz {H K : Hp} {i : Nat} {o : O} : (H ++ K).set (H.length + i) o = H ++ K.set i o:=by rw [List.set_append_right _ _ (by exact Nat.le_add_right _ _)]; congr 2; omega
structure TS where
 cnt : Nat -> Nat
 sg : List Nat
 cm : List Row
 rs : List Str
 bk : List (Str × Sts)
 last : List D
noncomputable def TS.es (num : Nat -> Int) (s : TS) : List Row:=s.sg.map fun k=>iz num k (s.cnt k - 1)
noncomputable def TS.pl (num : Nat -> Int) (s : TS) (k : Nat) : List D:=bh num k (s.cnt k)
noncomputable def TS.hp (num : Nat -> Int) (H : Hp) (s : TS) : Hp:=H ++ [.lst (bg (s.es num)),.ins (H.length + 0),.lst (bg s.cm),.lst (s.pl num 0),.lst (s.pl num 1),.lst (s.pl num 2),.lst s.last,.lsl [H.length + 3,H.length + 4,H.length + 5,H.length + 6],.lst (s.rs.map .str),.dct (bkD s.bk)]
noncomputable def TS.lay (num : Nat -> Int) (s : TS) (k : Nat) : TS:={ s with cnt:=fun i=>if i = k then s.cnt k + 1 else s.cnt i,sg:=s.sg.filter (· != k) ++ [k],cm:=s.cm ++ [iz num k (s.cnt k)] }
theorem E9 {i k : Nat} (hi : i < 3) (hk : k < 3) : (ck i == ck k) = (i == k):=by
 have h : (List.range 3).all (fun i=>(List.range 3).all fun k=>(ck i == ck k) == (i == k)) = true:=by k_upd
 have:=List.all_eq_true.mp (List.all_eq_true.mp h i (List.mem_range.mpr hi)) k (List.mem_range.mpr hk)
 simpa using this
theorem Dz {num : Nat -> Int} {s : TS} {k : Nat} (hk : k < 3) (hs : ∀ i ∈ s.sg,i < 3) : jc (s.es num) (nmL k (s.cnt k)) ++ [iz num k (s.cnt k)] = (s.lay num k).es num:=by
 unfold TS.es TS.lay
 rw [List.map_append]
 congr 1
 ·unfold jc
  rw [List.filter_map]
  have e : ((fun e : Row=>!(Txt.lower e.1 == Txt.lower (nmL k (s.cnt k)))) ∘ fun i=>iz num i (s.cnt i - 1)) = fun i=>!(ck i == ck k):=by
   funext i
   show (!(Txt.lower (nmL i _) == Txt.lower (nmL k _))) = _
   rw [rn,rn]
  rw [e]
  have e2 : s.sg.filter (fun i=>!(ck i == ck k)) = s.sg.filter (· != k):=List.filter_congr fun i hi=>by rw [E9 (hs i hi) hk]; rfl
  rw [e2]
  refine List.map_congr_left fun i hi=>?_
  have : i ≠ k:=by have:=(List.mem_filter.mp hi).2; simpa using this
  show iz num i _ = iz num i ((if i = k then _ else _) - 1)
  rw [if_neg this]
 ·show [iz num k (s.cnt k)] = [iz num k ((if k = k then _ else _) - 1)]
  rw [if_pos rfl]; rfl
theorem ji {num : Nat -> Int} {s : TS} : (s.hp num H).length = H.length + 10:=by unfold TS.hp; rw [List.length_append]; rfl
theorem Ja {B : Nat} {a b c d e f g : List D} {h : List (Str × D)} (o : O) : ∀ l ∈ refs o,o ∈ ([.lst a,.ins (B + 0),.lst b,.lst c,.lst d,.lst e,.lst f,.lsl [B + 3,B + 4,B + 5,B + 6],.lst g,.dct h] : Hp) -> l < B + 10:=fun l hl hm=>by
 have hlt : ∀ k,k < 10 -> B + k < B + 10:=fun k hk=>Nat.add_lt_add_left hk B
 simp only [List.mem_cons,List.not_mem_nil,or_false] at hm
 rcases hm with hm | hm | hm | hm | hm | hm | hm | hm | hm | hm <;> subst hm
 case inr.inl=>rw [List.mem_singleton.mp hl]; exact hlt 0 (by decide)
 case inr.inr.inr.inr.inr.inr.inr.inl =>
  have hl : l ∈ [B + 3,B + 4,B + 5,B + 6]:=hl
  simp only [List.mem_cons,List.not_mem_nil,or_false] at hl
  rcases hl with hl | hl | hl | hl <;> rw [hl] <;> exact hlt _ (by decide)
 all_goals cases hl
theorem qn {num : Nat -> Int} {s : TS} (hc : Clo H H.length) : Clo (s.hp num H) (s.hp num H).length:=fun i o hi e l hl=>by
 rw [ji] at *
 unfold TS.hp at e
 by_cases q : i < H.length
 ·rw [List.getElem?_append_left q] at e
  exact Nat.lt_of_lt_of_le (hc i o q e l hl) (Nat.le_add_right _ _)
 ·rw [List.getElem?_append_right (Nat.le_of_not_lt q)] at e
  exact Ja o l hl (List.mem_of_getElem? e)
theorem L5 {num : Nat -> Int} {s : TS} {k : Nat} (hk : k < 3) (hs : ∀ i ∈ s.sg,i < 3) : (((s.hp num H).set (H.length + (3 + k)) (.lst (bh num k (s.cnt k + 1)))).set (H.length + 0) (.lst (bg (jc (s.es num) (nmL k (s.cnt k)) ++ [iz num k (s.cnt k)])))).set (H.length + 2) (.lst (bg (s.cm ++ [iz num k (s.cnt k)]))) = (s.lay num k).hp num H:=by
 rw [Dz hk hs]
 unfold TS.hp
 rw [cz,cz,cz]
 congr 1
 have other : ∀ i,i ≠ k -> (s.lay num k).pl num i = s.pl num i:=fun i hi=>by
  show bh num i (if i = k then _ else _) = _
  rw [if_neg hi]; rfl
 have here : (s.lay num k).pl num k = bh num k (s.cnt k + 1):=by
  show bh num k (if k = k then _ else _) = _
  rw [if_pos rfl]
 rcases bx hk with rfl | rfl | rfl
 ·rw [other 1 (by decide),other 2 (by decide),here]; rfl
 ·rw [other 0 (by decide),other 2 (by decide),here]; rfl
 ·rw [other 0 (by decide),other 1 (by decide),here]; rfl
theorem io : ∀ (n : Nat) (l : List Nat),l.Nodup -> (∀ x ∈ l,x < n) -> l.length <= n
 | 0,l,_,h=>by
  cases l with
  | nil=>exact Nat.le_refl _
  | cons x l=>exact absurd (h x (.head _)) (Nat.not_lt_zero _)
 | n + 1,l,hn,h=>by
  have h1:=io n (l.filter (· != n)) (hn.filter _) fun x hx=>by
   have:=List.mem_filter.mp hx
   have h2:=h x this.1
   have h3 : x ≠ n:=by simpa using this.2
   exact Nat.lt_of_le_of_ne (Nat.le_of_lt_succ h2) (by assumption)
  have h2 : l.length = (l.filter (· != n)).length + (l.filter (· == n)).length:=by
   clear hn h h1
   induction l with
   | nil=>rfl
   | cons x l ih =>
    by_cases hx : x = n
    ·subst hx; simp; exact congrArg _ ih
    ·simp [hx]; omega
  have h3 : (l.filter (· == n)).length <= 1:=by
   have h4:=List.nodup_iff_count.mp hn n
   rw [List.count_eq_countP,List.countP_eq_length_filter] at h4
   exact h4
  omega
structure TOk (j : Nat) (s : TS) : Prop where
 sg : ∀ i ∈ s.sg,i < 3
 nd : s.sg.Nodup
 cnt : ∀ k,s.cnt k <= s.cm.length
 cm : s.cm.length <= j
theorem TOk.sgl {j : Nat} {s : TS} (h : TOk j s) : s.sg.length <= 3:=io 3 _ h.nd h.sg
theorem lm {num : Nat -> Int} {j : Nat} {s : TS} (h : TOk j s) : ij (s.es num):=by
 refine ⟨fun e he=>?_,by unfold TS.es; rw [List.length_map]; have:=h.sgl; exact Nat.le_trans this (by decide)⟩
 obtain ⟨i,_,rfl⟩:=List.mem_map.mp he
 exact ⟨pu _ _,pi _⟩
variable {N : Addr} {mN : Str -> Option Value} {fI fC fS fD fG fK fT : Addr}
theorem A9 {a : Addr} {i : Nat} {ps : List Str} {vs : List V} (F : Fun cx a i ps) (hl : vs.length = ps.length) (hp : zh (ak i) ps = true) (hx : ∃ lo',Ex cx b n (ak i) (ar i) (ps.zip vs) H (.nxt lo') H1) :
  OpV cx b (n + 1) (fun rvs=>call (.ref a) rvs []) vs H (.d .none) H1:=by
 refine al fun Gq kq=>?_
 obtain ⟨fd,h1,h2,h3⟩:=F.ex
 refine kq ?_
 exact zr h1 h2 hl (by rw [h3]; exact fi hp) (.inr ⟨rfl,by rw [h3]; exact hx⟩)
theorem Kl (T : Top cx) (Td : DTop cx) (HT : HTop cx N mN fI fC fS fD fG fK fT) (R : Regs cx) {num : Nat -> Int} (hs : et num) {s : TS} {k j : Nat} (hk : k < 3) (ok : TOk j s) (hj : j <= 100) (hc : Clo H H.length) :
  OpV cx true (n + 29) (fun rvs=>call (.ref 264) rvs []) [.loc (H.length + 1),.loc (H.length + 2),.loc (H.length + 7),.d (.int (stk num k (s.cnt k))),.d (.int k)] (s.hp num H) (.d .none) ((s.lay num k).hp num H):=by
 refine A9 T.f264 rfl (by k_upd) ?_
 have h:=Jg (cx:=cx) (n:=n) (H:=s.hp num H) (iI:=H.length + 1) (iL:=H.length + 0) (iC:=H.length + 2) (iT:=H.length + 7) (lk:=H.length + (3 + k)) (es:=s.es num) (cm:=s.cm) (d:=s.cnt k) (ls:=[H.length + 3,H.length + 4,H.length + 5,H.length + 6]) T Td HT R hs hk bz bz (lm ok) bz (by have:=ok.cm; exact Nat.le_trans this hj) bz (by
   rcases bx hk with rfl | rfl | rfl <;> rfl) (by
   unfold TS.hp; rw [bz]; rcases bx hk with rfl | rfl | rfl <;> rfl) (by have:=ok.cnt k; have:=ok.cm; omega) (qn hc) (by omega) (by omega) (by omega)
 rw [L5 hk ok.sg] at h
 exact h
theorem TOk.lay {num : Nat -> Int} {j j' : Nat} {s : TS} {k : Nat} (hk : k < 3) (h : TOk j s) (hm : s.cm.length + 1 <= j') : TOk j' (s.lay num k) where
 sg:=fun i hi=>by
  rcases List.mem_append.mp hi with hi | hi
  ·exact h.sg i (List.mem_filter.mp hi).1
  ·rw [List.mem_singleton.mp hi]; exact hk
 nd:=by
  show (s.sg.filter (· != k) ++ [k]).Nodup
  rw [List.nodup_append]
  refine ⟨h.nd.filter _,by simp,fun x hx y hy e=>?_⟩
  rw [List.mem_singleton.mp hy] at e
  have:=(List.mem_filter.mp hx).2
  rw [e] at this
  simp at this
 cnt:=fun i=>by
  show (if i = k then _ else _) <= (s.cm ++ [iz num k (s.cnt k)]).length
  rw [List.length_append]
  split
  ·have:=h.cnt k; show _ <= _ + 1; exact Nat.succ_le_succ this
  ·have:=h.cnt i; show _ <= _ + 1; exact Nat.le_succ_of_le this
 cm:=by show (s.cm ++ [iz num k (s.cnt k)]).length <= _; rw [List.length_append]; exact hm
end
section
variable {cx : Cx} {n : Nat} {b : Bool} {H H1 H2 : Hp} {sc : Scope} {lo lo1 : Lo} {L : Addr} {m : Str -> Option Value}
variable {N : Addr} {mN : Str -> Option Value} {fI fC fS fD fG fK fT : Addr}
theorem Lm (T : Top cx) (HT : HTop cx N mN fI fC fS fD fG fK fT) {p pos : Pos} (hx : sc.names.lookup (S "Headers") = some .globalImplicit) : Ev cx true (n + 3) sc (.Call (.Name (S "Headers") p) [] [] pos) lo H (.loc (H.length + 1)) (H ++ [O.lst [],.ins H.length]):=.mk fun A env X ρ s hs hr I F =>
 wpAny_Call_Name_kw (cg I F (by rw [ao,hs]; exact hx) (T.ref (by k_upd : cb.lookup _ = some (.ref 241))) (callWith_cls0 (HT.cls _ I.gh) (fun J J e=>e) ((N8 (n:=n) HT).go A X ρ s [] hr I trivial)) (by k_upd))
theorem dq {es : List Expr} {pos : Pos} {xs : List D} {K : Hp} (h : Evs cx b n sc es lo (H ++ K) (xs.map .d) (H ++ K)) (hsz : xs.length <= 2 ^ 24) : Ev cx b n sc (.List es pos) lo (H ++ K) (.loc (H.length + K.length)) (H ++ (K ++ [.lst xs])):=by
 have:=fh (cx:=cx) (pos:=pos) h hsz
 rwa [List.length_append,List.append_assoc] at this
theorem yq {es : List Expr} {pos : Pos} {ls : List Nat} {K K1 : Hp} (h : Evs cx b n sc es lo (H ++ K) (ls.map .loc) (H ++ K1)) (hsz : ls.length <= 2 ^ 24) : Ev cx b n sc (.List es pos) lo (H ++ K) (.loc (H.length + K1.length)) (H ++ (K1 ++ [.lsl ls])):=by
 have:=Bh (cx:=cx) (pos:=pos) h hsz
 rwa [List.length_append,List.append_assoc] at this
theorem t9 {pos : Pos} {K : Hp} : Ev cx b n sc (.Dict [] [] pos) lo (H ++ K) (.loc (H.length + K.length)) (H ++ (K ++ [.dct []])):=by
 have:=qr (cx:=cx) (b:=b) (n:=n) (sc:=sc) (lo:=lo) (H:=H ++ K) (pos:=pos)
 rwa [List.length_append,List.append_assoc] at this
noncomputable def jq : Sts:=(0,0,0,0,[])
noncomputable abbrev kLo (B : Nat) (nums picks : D) : Lo:=tLo (B + 7) (B + 2) (B + 1) (B + 8) (B + 9) (gb jq) nums picks
noncomputable def TS.zero : TS:=⟨fun J=>0,[],[],[],[],[]⟩
noncomputable def Gh : List Stmt:=(ar 24).take 6
theorem Gi : ar 24 = Gh ++ (ar 24).drop 6:=rfl
theorem J1 (T : Top cx) (HT : HTop cx N mN fI fC fS fD fG fK fT) {num : Nat -> Int} {nums picks : D} : Pre cx true (n + 3) (ak 24) Gh [(S "numbers",.d nums),(S "picks",.d picks)] H (kLo H.length nums picks) (TS.zero.hp num H):=by
 show Pre cx true (n + 3) (ak 24) Gh [(S "numbers",.d nums),(S "picks",.d picks)] H (kLo H.length nums picks) (H ++ [.lst [],.ins H.length,.lst [],.lst [],.lst [],.lst [],.lst [],.lsl [H.length + 3,H.length + 4,H.length + 5,H.length + 6],.lst [],.dct []])
 apply cy
 case h1 =>
  apply ai (v:=_)
  case h=>exact Lm T HT (by k_upd)
  exact .inl (by k_upd)
 apply cy
 case h1 =>
  apply ai (v:=_)
  case h=>exact dq (K:=[O.lst [],.ins H.length]) (xs:=[]) ag (by decide)
  exact .inl (by k_upd)
 apply cy
 case h1 =>
  apply ai (v:=_)
  case h =>
   apply yq (K:=[O.lst [],.ins H.length,.lst []]) (K1:=[O.lst [],.ins H.length,.lst [],.lst [],.lst [],.lst [],.lst []]) (ls:=[H.length + 3,H.length + 4,H.length + 5,H.length + 6])
   case h =>
    apply af (v:=.loc (H.length + 3)) (vs:=[.loc (H.length + 4),.loc (H.length + 5),.loc (H.length + 6)]) (H1:=H ++ [O.lst [],.ins H.length,.lst [],.lst []])
    case hp=>rfl
    case h=>exact dq (K:=[O.lst [],.ins H.length,.lst []]) (xs:=[]) ag (by decide)
    apply af (v:=.loc (H.length + 4)) (vs:=[.loc (H.length + 5),.loc (H.length + 6)]) (H1:=H ++ [O.lst [],.ins H.length,.lst [],.lst [],.lst []])
    case hp=>rfl
    case h=>exact dq (K:=[O.lst [],.ins H.length,.lst [],.lst []]) (xs:=[]) ag (by decide)
    apply af (v:=.loc (H.length + 5)) (vs:=[.loc (H.length + 6)]) (H1:=H ++ [O.lst [],.ins H.length,.lst [],.lst [],.lst [],.lst []])
    case hp=>rfl
    case h=>exact dq (K:=[O.lst [],.ins H.length,.lst [],.lst [],.lst []]) (xs:=[]) ag (by decide)
    apply af (v:=.loc (H.length + 6)) (vs:=[]) (H1:=H ++ [O.lst [],.ins H.length,.lst [],.lst [],.lst [],.lst [],.lst []])
    case hp=>rfl
    case h=>exact dq (K:=[O.lst [],.ins H.length,.lst [],.lst [],.lst [],.lst []]) (xs:=[]) ag (by decide)
    exact ag
   simp
  exact .inl (by k_upd)
 apply cy
 case h1 =>
  apply ai (v:=_)
  case h=>exact dq (K:=[O.lst [],.ins H.length,.lst [],.lst [],.lst [],.lst [],.lst [],.lsl [H.length + 3,H.length + 4,H.length + 5,H.length + 6]]) (xs:=[]) ag (by decide)
  exact .inl (by k_upd)
 apply cy
 case h1 =>
  apply ai (v:=_)
  case h=>exact t9 (K:=[O.lst [],.ins H.length,.lst [],.lst [],.lst [],.lst [],.lst [],.lsl [H.length + 3,H.length + 4,H.length + 5,H.length + 6],.lst []])
  exact .inl (by k_upd)
 apply cy
 case h1 =>
  apply ai (v:=_)
  case h =>
   apply bt (xs:=[.int 0,.int 0,.int 0,.int 0,.dict []])
   case h =>
    apply af (v:=.d (.int 0)) (vs:=[.d (.int 0),.d (.int 0),.d (.int 0),.d (.dict [])])
    case hp=>exact rfl
    case h=>kd_p
    apply af (v:=.d (.int 0)) (vs:=[.d (.int 0),.d (.int 0),.d (.dict [])])
    case hp=>exact rfl
    case h=>kd_p
    apply af (v:=.d (.int 0)) (vs:=[.d (.int 0),.d (.dict [])])
    case hp=>exact rfl
    case h=>kd_p
    apply af (v:=.d (.int 0)) (vs:=[.d (.dict [])])
    case hp=>exact rfl
    case h=>kd_p
    apply af (v:=.d (.dict [])) (vs:=[])
    case hp=>exact rfl
    case h=>exact D1
    exact ag
   simp
  exact .inl (by k_upd)
 exact p6
theorem Fj {num : Nat -> Int} {k : Nat} (hk : k < 3) : ([.int (num 0),.int (num 1),.int (num 2),.int 1] : List D)[k]? = some (.int (num k)):=by
 rcases bx hk with rfl | rfl | rfl <;> rfl
noncomputable abbrev nmD (num : Nat -> Int) : D:=.list [.int (num 0),.int (num 1),.int (num 2),.int 1]
theorem rd (T : Top cx) (Td : DTop cx) (HT : HTop cx N mN fI fC fS fD fG fK fT) (R : Regs cx) {num : Nat -> Int} (hs : et num) {s : TS} {k j : Nat} {picks : D} (hk : k < 3) (h0 : s.cnt k = 0) (ok : TOk j s) (hj : j <= 100) (hc : Clo H H.length) :
  Ex cx true (n + 29) (ak 24) w0 ((S "k",.d (.int k)) :: kLo H.length (nmD num) picks) (s.hp num H) (.nxt ((S "k",.d (.int k)) :: kLo H.length (nmD num) picks)) ((s.lay num k).hp num H):=by
 apply ah
 case h1 =>
  apply H8
  apply ah
  case h1 =>
   apply c8
   case h =>
    apply bd T
    case hx=>k_upd
    case hg=>exact (by k_upd : cb.lookup _ = some (.ref 264))
    case hd=>k_upd
    case F=>exact T.f264
    case hp=>k_upd
    case h =>
     apply af (v:=.loc (H.length + 1)) (vs:=[.loc (H.length + 2),.loc (H.length + 7),.d (.int (num k)),.d (.int k)])
     case hp=>exact rfl
     case h=>kd_p
     apply af (v:=.loc (H.length + 2)) (vs:=[.loc (H.length + 7),.d (.int (num k)),.d (.int k)])
     case hp=>exact rfl
     case h=>kd_p
     apply af (v:=.loc (H.length + 7)) (vs:=[.d (.int (num k)),.d (.int k)])
     case hp=>exact rfl
     case h=>kd_p
     apply af (v:=.d (.int (num k))) (vs:=[.d (.int k)])
     case hp=>exact rfl
     case h =>
      apply av
      case h1=>kd_p
      case h2=>kd_p
      case ht=>exact bq .d
      case ho=>exact bv .d (Fj hk) (by exact Nat.le_trans hk (by decide))
      exact fun J J=>⟨_,rfl⟩
     apply af (v:=.d (.int k)) (vs:=[])
     case hp=>exact rfl
     case h=>kd_p
     exact ag
    have:=Kl (cx:=cx) (n:=n) T Td HT R hs hk ok hj hc
    rw [h0] at this
    exact this
   exact fun J=>rfl
  exact bj
 case h2=>exact bj
theorem ga {k : Nat} {x : Str} {w : V} (h : lo.lookup x = none) : Cnv cx k ((x,w) :: lo) H lo H:=.weak (cj h)
noncomputable def TS.start (num : Nat -> Int) : TS:={ ((TS.zero.lay num 0).lay num 1).lay num 2 with last:=[.none] }
theorem ju {num : Nat -> Int} : TOk 0 TS.zero /\ TOk 1 (TS.zero.lay num 0) /\ TOk 2 ((TS.zero.lay num 0).lay num 1) /\ TOk 3 (((TS.zero.lay num 0).lay num 1).lay num 2):=by
 have h0 : TOk 0 TS.zero:=⟨(fun i h=>nomatch h),List.Pairwise.nil,fun J=>Nat.le_refl _,Nat.le_refl _⟩
 have h1 : TOk 1 (TS.zero.lay num 0):=h0.lay (by decide) (Nat.le_refl 1)
 have h2 : TOk 2 ((TS.zero.lay num 0).lay num 1):=h1.lay (by decide) (Nat.le_refl 2)
 exact ⟨h0,h1,h2,h2.lay (by decide) (Nat.le_refl 3)⟩
structure At2 (cx : Cx) (L : Addr) (A : Around) (env envL : Env) (n : Nat) : Prop where
 Lt : L ∉ cx.tabs
 sc : env.scope = ak 24
 fr : env.frame = some env.locals
 eL : envL.locals = L
 fL : envL.frame = some L
 kL : envL.scope.kind ≠ .module
 fs : A.frames = some [env,envL]
 rm : Rm true n A
theorem Cb (T : Top cx) {num : Nat -> Int} {s : TS} {picks : D} {A : Around} {env envL : Env} (P : At2 cx L A env envL (n + 2)) (hl : s.last = []) :
  ExA (cx.out L m) A env w0 ((S "k",.d (.int 3)) :: kLo H.length (nmD num) picks) (s.hp num H) (.nxt ((S "k",.d (.int 3)) :: kLo H.length (nmD num) picks)) ({ s with last:=[.none] }.hp num H):=.mk fun X ρ st I F=>by
 have h:=G1 (cx:=cx) (n:=n) (H:=s.hp num H) (iT:=H.length + 7) (l3:=H.length + 6) (ls:=[H.length + 3,H.length + 4,H.length + 5,H.length + 6]) T P.Lt (bz) rfl (by unfold TS.hp; rw [bz,hl]; rfl) P.sc P.fr P.eL P.fL P.kL P.fs P.rm I F
 have e : (s.hp num H).set (H.length + 6) (.lst [.none]) = { s with last:=[.none] }.hp num H:=by unfold TS.hp; rw [cz]; rfl
 rw [e] at h
 exact h
theorem J0 (T : Top cx) (Td : DTop cx) (HT : HTop cx N mN fI fC fS fD fG fK fT) (R : Regs cx) {num : Nat -> Int} (hs : et num) {picks : D} {A : Around} {env envL : Env} (P : At2 cx L A env envL (n + 29)) (hc : Clo H H.length) {tgt : Expr} (ht : ∃ p,tgt = .Name (S "k") p) :
  FoA (cx.out L m) A env (ak 24) tgt w0 (fun J=>True) [.d (.int 0),.d (.int 1),.d (.int 2),.d (.int 3)] (kLo H.length (nmD num) picks) (TS.zero.hp num H) (kLo H.length (nmD num) picks) ((TS.start num).hp num H):=by
 refine al fun Gq kq=>?_
 obtain ⟨p,rfl⟩:=ht
 have T':=T.out (L:=L) (m:=m)
 have Td':=Td.out (L:=L) (m:=m) P.Lt
 have HT':=HT.out (L:=L) (m:=m)
 have R':=R.out (L:=L) (m:=m)
 obtain ⟨o0,o1,o2,o3⟩:=ju (num:=num)
 refine kq ?_
 refine .step trivial (bw (by k_upd)) ((rd (n:=n) T' Td' HT' R' hs (k:=0) (by decide) rfl o0 (by decide) hc).at_ P.sc P.rm) (ga (by k_upd)) ?_
 refine .step trivial (bw (by k_upd)) ((rd (n:=n) T' Td' HT' R' hs (k:=1) (by decide) rfl o1 (by decide) hc).at_ P.sc P.rm) (ga (by k_upd)) ?_
 refine .step trivial (bw (by k_upd)) ((rd (n:=n) T' Td' HT' R' hs (k:=2) (by decide) rfl o2 (by decide) hc).at_ P.sc P.rm) (ga (by k_upd)) ?_
 exact .step trivial (bw (by k_upd)) (Cb (n:=n + 27) (s:=((TS.zero.lay num 0).lay num 1).lay num 2) T P rfl) (ga (by k_upd)) (.nil trivial)
end
section
variable {cx : Cx} {n : Nat} {b : Bool} {H H1 H2 : Hp} {sc : Scope} {lo lo1 : Lo} {L : Addr} {m : Str -> Option Value}
noncomputable def ic {α : Type} (es : List (Str × α)) (k : Str) (x : α) : List (Str × α):=if es.any (fun e=>e.1 = k) then es.map (fun e=>if e.1 = k then (e.1,x) else e) else es ++ [(k,x)]
theorem zl {bk : List (Str × Sts)} {k : Str} {v : Sts} : ym (bkD bk) k (gb v) = bkD (ic bk k v):=by
 unfold ym ic
 show (if (List.map _ bk).any _ = true then _ else _) = _
 rw [List.any_map]
 have : ((fun e : Str × D=>decide (e.1 = k)) ∘ fun p : Str × Sts=>(p.1,gb p.2)) = fun e=>decide (e.1 = k):=rfl
 rw [this]
 split
 ·show List.map _ (List.map _ bk) = List.map _ (List.map _ bk)
  rw [List.map_map,List.map_map]
  refine List.map_congr_left fun e J=>?_
  show (if e.1 = k then _ else _) = _
  by_cases h : e.1 = k <;> simp [h]
 ·show _ ++ _ = List.map _ (bk ++ _)
  rw [List.map_append]; rfl
theorem qi {bk : List (Str × Sts)} {k : Str} : (bkD bk).lookup k = (bk.lookup k).map gb:=je
theorem C3 {bk : List (Str × Sts)} {k : Str} {v : Sts} : ((bkD bk).lookup k).getD (gb v) = gb ((bk.lookup k).getD v):=by
 rw [qi]; cases bk.lookup k <;> rfl
theorem w6 {α : Type} {es : List (Str × α)} {k : Str} {x : α} : (ic es k x).length <= es.length + 1:=by
 unfold ic; split <;> simp
theorem Ej {α : Type} {es : List (Str × α)} {k : Str} {x : α} {e : Str × α} (h : e ∈ ic es k x) : e.2 = x \/ e ∈ es:=by
 unfold ic at h
 split at h
 ·obtain ⟨y,hy,rfl⟩:=List.mem_map.mp h
  by_cases q : y.1 = k
  ·simp [q]
  ·simp only [if_neg q]; exact .inr hy
 ·rcases List.mem_append.mp h with h | h
  ·exact .inr h
  ·rw [List.mem_singleton.mp h]; exact .inl rfl
theorem Bn {es : List (Str × Int)} {k : Str} {x : Int} (h : (es.map (·.1)).Nodup) : ((kf es k x).map (·.1)).Nodup:=by
 unfold kf
 split
 ·rw [List.map_map]
  have : ((fun x : Str × Int=>x.1) ∘ fun e=>if e.1 = k then (e.1,x) else e) = fun e=>e.1:=by
   funext e
   show Prod.fst (if e.1 = k then (e.1,x) else e) = e.1
   split <;> rfl
  rw [this]; exact h
 ·rename_i hn
  rw [List.map_append,List.nodup_append]
  refine ⟨h,by simp,fun a ha b hb e=>hn ?_⟩
  obtain ⟨y,hy,rfl⟩:=List.mem_map.mp ha
  refine List.any_eq_true.mpr ⟨y,hy,?_⟩
  have hb : b = k:=by simpa using hb
  exact decide_eq_true (e.trans hb)
theorem xa {es : List (Str × Int)} {k : Str} {x : Int} : (kf es k x).length <= es.length + 1:=by
 unfold kf; split <;> simp
noncomputable def BkOk (N : Nat) (bk : List (Str × Sts)) : Prop:=bk.length <= N /\ ∀ e ∈ bk,(e.2.2.2.2.2.map (·.1)).Nodup /\ e.2.2.2.2.2.length <= N
theorem BkOk.get {N : Nat} {bk : List (Str × Sts)} (h : BkOk N bk) (k : Str) : (((bk.lookup k).getD jq).2.2.2.2.map (·.1)).Nodup /\ ((bk.lookup k).getD jq).2.2.2.2.length <= N:=by
 cases q : bk.lookup k with
 | none=>exact ⟨List.Pairwise.nil,Nat.zero_le _⟩
 | some v=>exact h.2 _ (bf q)
theorem BkOk.step {N : Nat} {bk : List (Str × Sts)} (h : BkOk N bk) {k p : Str} {e : Int × Int × Int × Int} : BkOk (N + 1) (ic bk k (uy ((bk.lookup k).getD jq) e p)):=by
 refine ⟨Nat.le_trans w6 (Nat.succ_le_succ h.1),fun x hx=>?_⟩
 rcases Ej hx with hx | hx
 ·rw [hx]
  obtain ⟨h1,h2⟩:=h.get k
  exact ⟨Bn h1,Nat.le_trans xa (Nat.succ_le_succ h2)⟩
 ·obtain ⟨h1,h2⟩:=h.2 x hx
  exact ⟨h1,Nat.le_succ_of_le h2⟩
noncomputable def fn (a b c : Nat) : Nat -> Nat
 | 1=>a
 | 2=>b
 | 3=>c
 | _=>0
noncomputable def TS.f (num : Nat -> Int) (s : TS) : Nat -> Nat:=fn (tgt num 0 (s.cnt 0 - 1)) (tgt num 1 (s.cnt 1 - 1)) (tgt num 2 (s.cnt 2 - 1))
theorem f_at {num : Nat -> Int} {s : TS} {k : Nat} (hk : k < 3) : s.f num (k + 1) = tgt num k (s.cnt k - 1):=by
 rcases bx hk with rfl | rfl | rfl <;> rfl
theorem f_lt {num : Nat -> Int} {s : TS} (p : Nat) : s.f num p < 4:=by
 unfold TS.f fn
 split
 ·exact cu
 ·exact cu
 ·exact cu
 ·decide
structure TFull (s : TS) : Prop where
 sg : ∀ k,k < 3 -> k ∈ s.sg
 cnt : ∀ k,k < 3 -> 1 <= s.cnt k
theorem TFull.lay {num : Nat -> Int} {s : TS} (h : TFull s) {k : Nat} : TFull (s.lay num k) where
 sg:=fun i hi=>by
  show i ∈ s.sg.filter (· != k) ++ [k]
  by_cases q : i = k
  ·exact List.mem_append.mpr (.inr (by simp [q]))
  ·exact List.mem_append.mpr (.inl (List.mem_filter.mpr ⟨h.sg i hi,by simp [q]⟩))
 cnt:=fun i hi=>by
  show 1 <= if i = k then _ else _
  split
  ·exact Nat.succ_pos _
  ·exact h.cnt i hi
theorem jy {k : Nat} (hk : k < 3) : cdL (k + 1) = ck k:=by rcases bx hk with rfl | rfl | rfl <;> rfl
theorem Dg {k : Nat} (hk : k < 3) : Txt.upper (cdL (k + 1)) = t5 k /\ Builtin.Str.tooLong (Txt.upper (cdL (k + 1))).length = false:=by
 rcases bx hk with rfl | rfl | rfl <;> exact ⟨by k_upd,by k_upd⟩
theorem Ot {i : Nat} (hi : i < 3) : (ck i == Txt.lower (cdL 0)) = false:=by rcases bx hi with rfl | rfl | rfl <;> k_upd
theorem z6 {num : Nat -> Int} {j : Nat} {s : TS} (h : TOk j s) (hf : TFull s) {k : Nat} (hk : k < 3) {x : Str} (hx : Txt.lower x = ck k) : vc (s.es num) x = .str (cdL (s.f num (k + 1))):=by
 unfold vc TS.es
 rw [List.find?_map]
 have e : ((fun e : Row=>Txt.lower e.1 == Txt.lower x) ∘ fun i=>iz num i (s.cnt i - 1)) = fun i=>ck i == ck k:=by
  funext i
  show (Txt.lower (nmL i _) == Txt.lower x) = _
  rw [rn,hx]
 rw [e]
 have e2 : s.sg.find? (fun i=>ck i == ck k) = some k:=by
  have hm:=hf.sg k hk
  have hsg:=h.sg
  generalize s.sg = l at hm hsg
  clear h hf
  induction l with
  | nil=>cases hm
  | cons i l ih =>
   rw [List.find?_cons]
   rw [E9 (hsg i (.head _)) hk]
   cases q : i == k with
   | true=>rw [beq_iff_eq] at q; subst q; rfl
   | false =>
    rw [beq_eq_false_iff_ne] at q
    exact ih ((List.mem_cons.mp hm).resolve_left fun e=>q e.symm) fun y hy=>hsg y (.tail _ hy)
 rw [e2,f_at hk]
 rfl
theorem L4 {num : Nat -> Int} {j : Nat} {s : TS} (h : TOk j s) : vc (s.es num) (cdL 0) = .none:=by
 unfold vc TS.es
 rw [List.find?_map]
 have e2 : s.sg.find? ((fun e : Row=>Txt.lower e.1 == Txt.lower (cdL 0)) ∘ fun i=>iz num i (s.cnt i - 1)) = none:=by
  rw [List.find?_eq_none]
  intro i hi
  show ¬ (Txt.lower (nmL i _) == Txt.lower (cdL 0)) = true
  rw [rn,Ot (h.sg i hi)]
  decide
 rw [e2]; rfl
theorem z5 {num : Nat -> Int} {j : Nat} {s : TS} (h : TOk j s) (hf : TFull s) : Hb (s.es num) (s.f num) where
 lt:=f_lt
 at_:=fun m hm=>by
  cases m with
  | zero=>rw [L4 h]; rfl
  | succ k =>
   rw [z6 h hf (by exact Nat.le_of_lt_succ hm : k < 3) (by rw [jy (by exact Nat.le_of_lt_succ hm),Jn])]
   rfl
noncomputable def TS.st (s : TS) (i : Nat) : Nat:=s.sg.getD i 0 + 1
theorem qv {j : Nat} {s : TS} (h : TOk j s) (hf : TFull s) : s.sg.length = 3:=by
 have h1:=h.sgl
 have h2 : ∀ l : List Nat,(∀ k,k < 3 -> k ∈ l) -> 3 <= l.length:=fun l hl=>by
  have a:=hl 0 (by decide); have b:=hl 1 (by decide); have c:=hl 2 (by decide)
  cases l with
  | nil=>cases a
  | cons x l =>
   cases l with
   | nil=>exact absurd ((List.mem_singleton.mp a).trans (List.mem_singleton.mp b).symm) (by decide)
   | cons y l =>
    cases l with
    | nil=>simp at a b c; omega
    | cons z l=>exact Nat.le_add_left 3 _
 have:=h2 _ hf.sg
 exact Nat.le_antisymm h1 (by assumption)
theorem na {num : Nat -> Int} {j : Nat} {s : TS} (h : TOk j s) (hf : TFull s) : K7 (s.es num) s.st where
 len:=by unfold TS.es; rw [List.length_map]; exact qv h hf
 at_:=fun i hi=>by
  have hl:=qv h hf
  have hi' : i < s.sg.length:=by (rw [hl]; exact hi)
  have e : s.sg[i]? = some s.sg[i]:=List.getElem?_eq_getElem hi'
  have h3:=h.sg _ (List.getElem_mem hi')
  refine ⟨iz num s.sg[i] (s.cnt s.sg[i] - 1),by unfold TS.es; rw [List.getElem?_map,e]; rfl,pu _ _,?_,?_⟩
  ·show Txt.lower (nmL _ _) = cdL (s.sg.getD i 0 + 1)
   rw [rn,List.getD_eq_getElem?_getD,e]
   exact (jy h3).symm
  ·show s.sg.getD i 0 + 1 < 4
   rw [List.getD_eq_getElem?_getD,e]
   show s.sg[i] + 1 < 4
   exact Nat.succ_le_succ h3
noncomputable def TS.ring (num : Nat -> Int) (s : TS) (first : Int) : Option (List Nat):=rg (s.f num) ([0,1,2].map fun j=>s.st (at3 first j))
noncomputable def c6 (ss : List Str) : List Str:=by
 classical exact if h : ∃ l : List Str,l.Perm ss /\ sortedS l = true then h.choose else []
noncomputable def TS.ent (s : TS) (rr : List Nat) (p : Nat) : Int × Int × Int × Int:=(if rr.length = 1 then 1 else 0,1,((s.cnt (p - 1) - 1 : Nat) : Int),(rr.length : Int))
noncomputable def TS.tx (num : Nat -> Int) (s : TS) (p : Nat) : Str:=ti (p - 1) (s.cnt (p - 1) - 1) (s.f num p)
noncomputable def TS.bkS (num : Nat -> Int) (s : TS) (rr : List Nat) (bk : List (Str × Sts)) (p : Nat) : List (Str × Sts):=ic bk (cdL (s.f num p)) (uy ((bk.lookup (cdL (s.f num p))).getD jq) (s.ent rr p) (cdL p))
noncomputable def np (ts : List Str) : Str:=Txt.join (S " ") (c6 ts)
noncomputable def TS.told (num : Nat -> Int) (rr : List Nat) (s : TS) : TS:={ s with rs:=s.rs ++ [np (rr.map (s.tx num))],bk:=rr.foldl (s.bkS num rr) s.bk }
noncomputable def TS.pop (num : Nat -> Int) (rr : List Nat) (s : TS) : TS:=rr.foldl (fun s p=>s.lay num (p - 1)) (s.told num rr)
end
section
variable {cx : Cx} {n : Nat} {b : Bool} {H H1 H2 : Hp} {sc : Scope} {lo lo1 : Lo} {L : Addr} {m : Str -> Option Value}
variable {N : Addr} {mN : Str -> Option Value} {fI fC fS fD fG fK fT : Addr}
noncomputable def v6 : Expr × List Stmt:=Nf (nth 8 (ar 24))
noncomputable def E5 : List Stmt:=gc (nth 1 v6.2)
noncomputable def E6 : List Stmt:=gc (nth 3 v6.2)
noncomputable def TS.hx (num : Nat -> Int) (H : Hp) (s : TS) (bk : List (Str × Sts)) (ts : List Str) : Hp:=({ s with bk:=bk } : TS).hp num H ++ [.lst (ts.map .str)]
noncomputable abbrev wLo (B : Nat) (nums picks : D) (rr : List Nat) : Lo:=(S "texts",.loc (B + 10)) :: (S "ring",.d (.list (cdD rr))) :: kLo B nums picks
theorem n8 {num : Nat -> Int} {s : TS} {bk : List (Str × Sts)} {ts : List Str} {i : Nat} (hi : i < 10) : (s.hx num H bk ts)[H.length + i]? = (({ s with bk:=bk } : TS).hp num H)[H.length + i]?:=by
 unfold TS.hx
 rw [List.getElem?_append_left (by rw [ji]; exact Nat.add_le_add_left hi _)]
theorem qx {num : Nat -> Int} {s : TS} {bk : List (Str × Sts)} {ts : List Str} : (s.hx num H bk ts)[H.length + 10]? = some (.lst (ts.map .str)):=by
 unfold TS.hx
 rw [show H.length + 10 = (({ s with bk:=bk } : TS).hp num H).length by rw [ji]]
 exact ay
theorem fw {num : Nat -> Int} {s : TS} {i : Nat} : (s.hp num H)[H.length + i]? = ([.lst (bg (s.es num)),.ins (H.length + 0),.lst (bg s.cm),.lst (s.pl num 0),.lst (s.pl num 1),.lst (s.pl num 2),.lst s.last,.lsl [H.length + 3,H.length + 4,H.length + 5,H.length + 6],.lst (s.rs.map .str),.dct (bkD s.bk)] : Hp)[i]?:=by
 unfold TS.hp; rw [bz]
theorem L6 {num : Nat -> Int} {s : TS} {bk : List (Str × Sts)} {ts : List Str} {x : Str} : (s.hx num H bk ts).set (H.length + 10) (.lst (ts.map .str ++ [.str x])) = s.hx num H bk (ts ++ [x]):=by
 unfold TS.hx
 rw [show H.length + 10 = (({ s with bk:=bk } : TS).hp num H).length by rw [ji],cr]
 simp
theorem Jc {num : Nat -> Int} {s : TS} {bk bk' : List (Str × Sts)} {ts : List Str} : (s.hx num H bk ts).set (H.length + 9) (.dct (bkD bk')) = s.hx num H bk' ts:=by
 unfold TS.hx
 rw [List.set_append_left _ _ (by rw [ji]; exact Nat.le_refl _)]
 congr 1
 unfold TS.hp
 rw [cz]
 rfl
theorem L7 {num : Nat -> Int} {s : TS} {bk : List (Str × Sts)} {ts : List Str} (hc : Clo H H.length) : Clo (s.hx num H bk ts) (s.hx num H bk ts).length:=(qn hc).app_lst
theorem Az {k : Nat} (hk : k < 3) : ([H.length + 3,H.length + 4,H.length + 5,H.length + 6] : List Nat)[k]? = some (H.length + (3 + k)):=by
 rcases bx hk with rfl | rfl | rfl <;> rfl
theorem Ak {num : Nat -> Int} {s : TS} {k : Nat} (hk : k < 3) : ([.lst (bg (s.es num)),.ins (H.length + 0),.lst (bg s.cm),.lst (s.pl num 0),.lst (s.pl num 1),.lst (s.pl num 2),.lst s.last,.lsl [H.length + 3,H.length + 4,H.length + 5,H.length + 6],.lst (s.rs.map .str),.dct (bkD s.bk)] : Hp)[3 + k]? = some (.lst (s.pl num k)):=by
 rcases bx hk with rfl | rfl | rfl <;> rfl
structure RingOk (f : Nat -> Nat) (rr : List Nat) : Prop where
 nd : rr.Nodup
 at_ : ∀ p ∈ rr,1 <= p /\ p < 4 /\ 1 <= f p /\ f p < 4
theorem RingOk.len {f : Nat -> Nat} {rr : List Nat} (h : RingOk f rr) : rr.length <= 4:=io 4 rr h.nd fun x hx=>(h.at_ x hx).2.1
theorem J6 {c : Nat} (h : 1 <= c) : (c : Int) - 1 = ((c - 1 : Nat) : Int):=by omega
noncomputable def cLo (B : Nat) (nums picks : D) (rr : List Nat) (k p d t : Nat) (e : D) : Lo:=(S "entry",.d e) :: (S "target",.d (.str (cdL t))) :: (S "depth",.d (.int (d : Nat))) :: (S "k",.d (.int (k : Nat))) :: (S "place",.d (.str (cdL p))) :: wLo B nums picks rr
theorem Pa {B : Nat} {nums picks : D} {rr : List Nat} {k p d t : Nat} {e : D} {q : Nat} : Cnv cx q (cLo B nums picks rr k p d t e) H (wLo B nums picks rr) H:=by
 unfold cLo
 exact ((ga (by k_upd)).trans (ga (by k_upd))).trans ((ga (by k_upd)).trans ((ga (by k_upd)).trans (ga (by k_upd))))
theorem O3 (T : Top cx) (HT : HTop cx N mN fI fC fS fD fG fK fT) (R : Regs cx) {num : Nat -> Int} {s : TS} {j : Nat} {nums picks : D} {rr : List Nat} (ok : TOk j s) (hf : TFull s) (hj : j <= 99) (hc : Clo H H.length) (hr : RingOk (s.f num) rr) {p : Nat} (hp : p ∈ rr) {M : Nat} {bk : List (Str × Sts)} {ts : List Str} (hbk : BkOk M bk) (hM : M <= 999) (hts : ts.length <= 1000) :
  Ex cx true (n + 10) (ak 24) E5 ((S "place",.d (.str (cdL p))) :: wLo H.length nums picks rr) (s.hx num H bk ts) (.nxt (cLo H.length nums picks rr (p - 1) p (s.cnt (p - 1) - 1) (s.f num p) (gb ((s.ent rr p).1,(s.ent rr p).2.1,(s.ent rr p).2.2.1,(s.ent rr p).2.2.2,[(cdL p,1)])))) (s.hx num H (s.bkS num rr bk p) (ts ++ [s.tx num p])):=by
 refine al fun Gq kq=>?_
 obtain ⟨h1,h4,hq1,hq4⟩:=hr.at_ p hp
 obtain ⟨k,rfl⟩ : ∃ k,p = k + 1:=⟨p - 1,by exact (Nat.sub_add_cancel h1).symm⟩
 refine kq ?_
 have hk : k < 3:=by exact Nat.le_of_lt_succ h4
 rw [Nat.add_sub_cancel]
 have hcnt:=hf.cnt k hk
 have hcl:=ok.cnt k
 have hcm:=ok.cm
 have gT : (s.hx num H bk ts)[H.length + 7]? = some (.lsl [H.length + 3,H.length + 4,H.length + 5,H.length + 6]):=by rw [n8 (by decide),fw]; rfl
 have gP : (s.hx num H bk ts)[H.length + (3 + k)]? = some (.lst (s.pl num k)):=by rw [n8 (by omega),fw]; exact Ak hk
 have gI : (s.hx num H bk ts)[H.length + 1]? = some (.ins (H.length + 0)):=by rw [n8 (by decide),fw]; rfl
 have gL : (s.hx num H bk ts)[H.length + 0]? = some (.lst (bg (s.es num))):=by rw [n8 (by decide),fw]; rfl
 have gB : (s.hx num H bk (ts ++ [s.tx num (k + 1)]))[H.length + 9]? = some (.dct (bkD bk)):=by rw [n8 (by decide),fw]; rfl
 have hj3 : s.f num (k + 1) = 1 \/ s.f num (k + 1) = 2 \/ s.f num (k + 1) = 3:=by omega
 have hget : vc (s.es num) (t5 k) = .str (cdL (s.f num (k + 1))):=z6 ok hf hk (Jo k)
 apply ah
 case h1 =>
  apply ai (v:=.d (.int (k : Nat)))
  case h =>
   apply bd T
   case hx=>k_upd
   case hg=>exact (by k_upd : cb.lookup _ = some (.ref 257))
   case hd=>k_upd
   case F=>exact T.f257
   case hp=>k_upd
   case h =>
    apply af
    case hp=>exact rfl
    case h=>kd_p
    exact ag
   rw [jy hk]
   exact wi T hk
  exact .inl (by k_upd)
 case h2 =>
  apply ah
  case h1 =>
   apply ai (v:=.d (.int ((s.cnt k - 1 : Nat) : Int)))
   case h =>
    apply an
    case h1 =>
     apply bo
     case hx=>k_upd
     case hg=>kd_adr
     case hd=>k_upd
     case hp=>k_upd
     case h =>
      apply af
      case hp=>exact rfl
      case h =>
       apply av
       case h1=>kd_p
       case h2=>kd_p
       case ht=>exact ft gT
       case ho=>exact dt gT (Az hk) (by exact Nat.le_trans hk (by decide))
       exact fun J J=>⟨_,rfl⟩
      exact ag
     have:=b8 (cx:=cx) (B:=true) (n:=n + 10) (Ls.loc gP) (by unfold TS.pl; rw [fj]; omega)
     rw [show (s.pl num k).length = s.cnt k from fj] at this
     exact this
    case h2=>kd_p
    rw [<- J6 hcnt]
    exact ox
   exact .inl (by k_upd)
  apply ah
  case h1 =>
   apply ai (v:=.d (.str (cdL (s.f num (k + 1)))))
   case h =>
    apply kt HT
    case h0=>kd_p
    case h =>
     apply af (v:=.d (.str (t5 k))) (vs:=[])
     case hp=>exact rfl
     case h =>
      apply ba
      case h0=>kd_p
      case h=>exact ag
      case ht=>exact d9
      case pa=>exact PySem.F.plainAttrs_str
      case slot=>exact PySem.F.slot_str_upper
      case hty=>exact PySem.F.type_str_upper
      case hp=>exact rfl
      case hline=>exact rfl
      case hbase=>exact fun J=>rfl
      case hfew=>exact fun J=>rfl
      rw [<- (Dg hk).1]
      exact Jr (Dg hk).2
     exact ag
    case hi=>exact gI
    case hl=>exact gL
    case hn=>exact HT.n5
    case hne=>decide +kernel
    case m=>exact HT.m5
    case hB=>exact kz.2.2.2.1
    case hp=>exact rfl
    case ho =>
     rw [<- hget]
     exact Kk (n:=n + 8) HT R (G5 k) gI gL (lm ok)
    exact rfl
   exact .inl (by k_upd)
  apply ah
  case h1 =>
   apply c8
   case h =>
    apply ba
    case h0=>kd_p
    case h =>
     apply af
     case hp=>exact rfl
     case h =>
      apply bd T
      case hx=>k_upd
      case hg=>exact (by k_upd : cb.lookup _ = some (.ref 87))
      case hd=>k_upd
      case F=>exact T.f87
      case hp=>k_upd
      case h =>
       apply af
       case hp=>exact rfl
       case h =>
        apply bt (xs:=[.str (dz k),.int ((s.cnt k - 1 : Nat) : Int),.str (anL (s.f num (k + 1)))])
        case h =>
         apply af (v:=.d (.str (dz k))) (vs:=[.d (.int ((s.cnt k - 1 : Nat) : Int)),.d (.str (anL (s.f num (k + 1))))])
         case hp=>exact rfl
         case h =>
          apply av (v:=.d (.str (dz k)))
          case h1=>kd_p
          case h2=>kd_p
          case ht=>exact kc
          have h:=zk hk
          rw [<- h.2.2]
          exact k8 h.1 h.2.1
         apply af (v:=.d (.int ((s.cnt k - 1 : Nat) : Int))) (vs:=[.d (.str (anL (s.f num (k + 1))))])
         case hp=>exact rfl
         case h=>kd_p
         apply af (v:=.d (.str (anL (s.f num (k + 1))))) (vs:=[])
         case hp=>exact rfl
         case h =>
          apply av
          case h1 =>
           apply lq (es:=[(S "b",.str (S "<b>")),(S "c",.str (S "c>")),(S "d",.str (S "<d"))])
           case h=>kst_p
           case hnd=>decide +kernel
           case hall=>k_upd
           case hl=>rfl
           case h0=>exact fun h=>nomatch h
           decide
          case h2=>kd_p
          case ht=>exact lf
          case ho=>exact gt Dc.d (Hu hj3)
          exact fun J J=>⟨_,rfl⟩
         exact ag
        simp
       exact ag
      exact N6 T hk hj3 (by omega)
     exact ag
    case ht=>exact dy qx
    case pa=>exact PySem.F.plainAttrs_list
    case slot=>exact PySem.F.slot_list_append
    case hty=>exact PySem.F.type_list_append
    case hp=>exact rfl
    case hline=>exact rfl
    case hbase=>exact fun J=>rfl
    case hfew=>exact fun J=>rfl
    have:=app_lst (cx:=cx) (B:=true) (n:=n + 10) (x:=PyData.str (s.tx num (k + 1))) (qx (H:=H) (num:=num) (s:=s) (bk:=bk) (ts:=ts)) (by rw [List.length_map]; exact Nat.le_trans hts (by decide))
    rw [L6] at this
    exact this
   exact fun J=>rfl
  apply ah
  case h1 =>
   apply ai (v:=.d (gb ((s.ent rr (k + 1)).1,(s.ent rr (k + 1)).2.1,(s.ent rr (k + 1)).2.2.1,(s.ent rr (k + 1)).2.2.2,[(cdL (k + 1),1)])))
   case h =>
    apply bt (xs:=[.int (if rr.length = 1 then 1 else 0),.int 1,.int ((s.cnt k - 1 : Nat) : Int),.int (rr.length : Int),.dict (([(cdL (k + 1),(1 : Int))].map fun p=>(p.1,(.int p.2 : D))).map enc)])
    case h =>
     apply af (v:=.d (.int (if rr.length = 1 then 1 else 0))) (vs:=[.d (.int 1),.d (.int ((s.cnt k - 1 : Nat) : Int)),.d (.int (rr.length : Int)),.d (.dict (([(cdL (k + 1),(1 : Int))].map fun p=>(p.1,(.int p.2 : D))).map enc))])
     case hp=>exact rfl
     case h =>
      by_cases h1r : rr.length = 1
      ·rw [if_pos h1r]
       apply jm (c:=true)
       case h =>
        apply am
        case h1 =>
         apply bo
         case hx=>k_upd
         case hg=>kd_adr
         case hd=>k_upd
         case hp=>k_upd
         case h =>
          apply af
          case hp=>exact rfl
          case h=>kd_p
          exact ag
         have:=b8 (cx:=cx) (B:=true) (n:=n + 10) (H:=s.hx num H bk (ts ++ [s.tx num (k + 1)])) (v:=.d (.list (cdD rr))) .d (by have:=hr.len; simp [cdD]; exact Nat.le_trans this (by decide))
         rw [show (cdD rr).length = rr.length by simp [cdD]] at this
         exact this
        case h2=>kd_p
        case ho =>
         have:=pg (cx:=cx) (B:=true) (n:=n + 10) (H:=s.hx num H bk (ts ++ [s.tx num (k + 1)])) (a:=(rr.length : Int)) (b:=1)
         rw [show ((rr.length : Int) == 1) = true by rw [beq_iff_eq]; exact congrArg _ h1r] at this
         exact this
        exact rfl
       rw [if_pos rfl]
       kd_p
      ·rw [if_neg h1r]
       apply jm (c:=false)
       case h =>
        apply am
        case h1 =>
         apply bo
         case hx=>k_upd
         case hg=>kd_adr
         case hd=>k_upd
         case hp=>k_upd
         case h =>
          apply af
          case hp=>exact rfl
          case h=>kd_p
          exact ag
         have:=b8 (cx:=cx) (B:=true) (n:=n + 10) (H:=s.hx num H bk (ts ++ [s.tx num (k + 1)])) (v:=.d (.list (cdD rr))) .d (by have:=hr.len; simp [cdD]; exact Nat.le_trans this (by decide))
         rw [show (cdD rr).length = rr.length by simp [cdD]] at this
         exact this
        case h2=>kd_p
        case ho =>
         have:=pg (cx:=cx) (B:=true) (n:=n + 10) (H:=s.hx num H bk (ts ++ [s.tx num (k + 1)])) (a:=(rr.length : Int)) (b:=1)
         rw [show ((rr.length : Int) == 1) = false by rw [beq_eq_false_iff_ne]; omega] at this
         exact this
        exact rfl
       rw [if_neg (by decide)]
       kd_p
     apply af (v:=.d (.int 1)) (vs:=[.d (.int ((s.cnt k - 1 : Nat) : Int)),.d (.int (rr.length : Int)),.d (.dict (([(cdL (k + 1),(1 : Int))].map fun p=>(p.1,(.int p.2 : D))).map enc))])
     case hp=>exact rfl
     case h=>kd_p
     apply af (v:=.d (.int ((s.cnt k - 1 : Nat) : Int))) (vs:=[.d (.int (rr.length : Int)),.d (.dict (([(cdL (k + 1),(1 : Int))].map fun p=>(p.1,(.int p.2 : D))).map enc))])
     case hp=>exact rfl
     case h=>kd_p
     apply af (v:=.d (.int (rr.length : Int))) (vs:=[.d (.dict (([(cdL (k + 1),(1 : Int))].map fun p=>(p.1,(.int p.2 : D))).map enc))])
     case hp=>exact rfl
     case h =>
      apply bo
      case hx=>k_upd
      case hg=>kd_adr
      case hd=>k_upd
      case hp=>k_upd
      case h =>
       apply af
       case hp=>exact rfl
       case h=>kd_p
       exact ag
      have:=b8 (cx:=cx) (B:=true) (n:=n + 10) (H:=s.hx num H bk (ts ++ [s.tx num (k + 1)])) (v:=.d (.list (cdD rr))) .d (by have:=hr.len; simp [cdD]; exact Nat.le_trans this (by decide))
      rw [show (cdD rr).length = rr.length by simp [cdD]] at this
      exact this
     apply af (v:=.d (.dict (([(cdL (k + 1),(1 : Int))].map fun p=>(p.1,(.int p.2 : D))).map enc))) (vs:=[])
     case hp=>exact rfl
     case h =>
      apply lq (es:=[(cdL (k + 1),.int 1)])
      case h=>kst_p
      case hnd=>exact List.pairwise_singleton _ _
      case hall=>k_upd
      case hl=>rfl
      case h0=>exact fun h=>nomatch h
      decide
     exact ag
    simp
   exact .inl (by k_upd)
  apply ah
  case h1 =>
   apply c7
   case h1 =>
    apply bd T
    case hx=>k_upd
    case hg=>exact (by k_upd : cb.lookup _ = some (.ref 94))
    case hd=>k_upd
    case F=>exact T.f94
    case hp=>k_upd
    case h =>
     apply af (v:=.d (gb ((bk.lookup (cdL (s.f num (k + 1)))).getD jq))) (vs:=[.d (gb ((s.ent rr (k + 1)).1,(s.ent rr (k + 1)).2.1,(s.ent rr (k + 1)).2.2.1,(s.ent rr (k + 1)).2.2.2,[(cdL (k + 1),1)]))])
     case hp=>exact rfl
     case h =>
      apply ba
      case h0=>kd_p
      case h =>
       apply af (v:=.d (.str (cdL (s.f num (k + 1))))) (vs:=[.d (gb jq)])
       case hp=>exact rfl
       case h=>kd_p
       apply af (v:=.d (gb jq)) (vs:=[])
       case hp=>exact rfl
       case h=>kd_p
       exact ag
      case ht=>exact zb gB
      case pa=>exact PySem.F.plainAttrs_dict
      case slot=>exact PySem.F.slot_dict_get
      case hty=>exact PySem.F.type_dict_get
      case hp=>exact rfl
      case hline=>exact rfl
      case hbase=>exact fun J=>rfl
      case hfew=>exact fun J=>rfl
      have:=Fq (cx:=cx) (B:=true) (n:=n + 10) (k:=cdL (s.f num (k + 1))) (y:=gb jq) (Dc.loc gB)
      rw [C3] at this
      exact this
     apply af (v:=.d (gb ((s.ent rr (k + 1)).1,(s.ent rr (k + 1)).2.1,(s.ent rr (k + 1)).2.2.1,(s.ent rr (k + 1)).2.2.2,[(cdL (k + 1),1)]))) (vs:=[])
     case hp=>exact rfl
     case h=>kd_p
     exact ag
    exact Ld (n:=n + 8) T (hbk.get _).1 (by have:=(hbk.get (cdL (s.f num (k + 1)))).2; exact Nat.le_trans this (Nat.le_trans hM (by decide))) (L7 hc)
   case h2=>kd_p
   case h3=>kd_p
   case h4 =>
    have:=jr (cx:=cx) (B:=true) (n:=n + 10) (k:=cdL (s.f num (k + 1))) (x:=gb (uy ((bk.lookup (cdL (s.f num (k + 1)))).getD jq) (s.ent rr (k + 1)) (cdL (k + 1)))) gB (by have:=hbk.1; simp; exact Nat.le_trans this (Nat.le_trans hM (by decide)))
    rw [zl,Jc] at this
    exact this
   exact fun J=>rfl
  exact bj
end
theorem Af : ∀ {a b : List Nat},ltCps a b = false -> ltCps b a = false -> a = b
 | [],[],_,_=>rfl
 | [],_ :: _,h,_=>by simp [ltCps] at h
 | _ :: _,[],_,h=>by simp [ltCps] at h
 | x :: a,y :: b,h1,h2=>by
  simp only [ltCps] at h1 h2
  by_cases h : x = y
  ·subst h
   simp at h1 h2
   rw [Af h1 h2]
  ·rcases Nat.lt_or_gt_of_ne h with h | h
   ·simp [h] at h1
   ·simp [h] at h2
theorem ud : ∀ {a b c : List Nat},ltCps b a = false -> ltCps c b = false -> ltCps c a = false
 | [],[],[],_,_=>rfl
 | [],_,_ :: _,_,_=>by simp [ltCps]
 | [],_ :: _,[],_,h=>by simp [ltCps] at h
 | _ :: _,[],_,h,_=>by simp [ltCps] at h
 | _ :: _,_ :: _,[],_,h=>by simp [ltCps] at h
 | x :: a,y :: b,z :: c,h1,h2=>by
  simp only [ltCps] at h1 h2 ⊢
  by_cases h : y = x
  ·subst h
   by_cases h' : z = y
   ·subst h'
    simp at h1 h2 ⊢
    exact ud h1 h2
   ·rcases Nat.lt_or_gt_of_ne h' with h' | h'
    ·simp [h'] at h2
    ·have e1 : ¬ z < y:=by omega
     have e2 : ¬ z = y:=by exact Nat.ne_of_gt h'
     simp [e1,e2]
  ·rcases Nat.lt_or_gt_of_ne h with h | h
   ·simp [h] at h1
   ·by_cases h' : z = y
    ·subst h'
     have e1 : ¬ z < x:=by omega
     have e2 : ¬ z = x:=by exact Nat.ne_of_gt h
     simp [e1,e2]
    ·rcases Nat.lt_or_gt_of_ne h' with h' | h'
     ·simp [h'] at h2
     ·have e1 : ¬ z < x:=by omega
      have e2 : ¬ z = x:=by omega
      simp [e1,e2]
theorem J5 {x y : Str} (h : x.cps.toList = y.cps.toList) : x = y:=by
 obtain ⟨⟨a⟩⟩:=x
 obtain ⟨⟨b⟩⟩:=y
 exact congrArg (fun l=>Str.mk (Array.mk l)) h
noncomputable def leS (a b : Str) : Prop:=ltCps b.cps.toList a.cps.toList = false
theorem uq : ∀ {l : List Str} {p : Str},risingS p l = true -> (∀ x ∈ l,leS p x) /\ l.Pairwise leS
 | [],_,_=>⟨(fun J h=>nomatch h),.nil⟩
 | x :: l,p,h=>by
  unfold risingS at h
  rw [Bool.and_eq_true,Bool.not_eq_true'] at h
  obtain ⟨h1,h2⟩:=uq h.2
  refine ⟨fun y hy=>?_,List.pairwise_cons.mpr ⟨h1,h2⟩⟩
  rcases List.mem_cons.mp hy with rfl | hy
  ·exact h.1
  ·exact ud (show leS p x from h.1) (h1 y hy)
theorem uv {l : List Str} (h : sortedS l = true) : l.Pairwise leS:=by
 cases l with
 | nil=>exact .nil
 | cons x r=>obtain ⟨h1,h2⟩:=uq h; exact List.pairwise_cons.mpr ⟨h1,h2⟩
theorem ui : ∀ {l l' : List Str},l.Perm l' -> l.Pairwise leS -> l'.Pairwise leS -> l = l'
 | [],l',h,_,_=>(List.nil_perm.mp h).symm
 | x :: l,[],h,_,_=>absurd h.length_eq (by simp)
 | x :: l,y :: l',h,h1,h2=>by
  have a1:=List.pairwise_cons.mp h1
  have a2:=List.pairwise_cons.mp h2
  have e : x = y:=by
   rcases List.mem_cons.mp (h.mem_iff.mp (List.mem_cons_self (a:=x) (l:=l))) with e | m1
   ·exact e
   ·rcases List.mem_cons.mp (h.mem_iff.mpr (List.mem_cons_self (a:=y) (l:=l'))) with e | m2
    ·exact e.symm
    ·exact J5 (Af (a2.1 x m1) (a1.1 y m2))
  subst e
  rw [ui (List.Perm.cons_inv h) a1.2 a2.2]
theorem f6 {ss l : List Str} (h : l.Perm ss) (hs : sortedS l = true) : l = c6 ss:=by
 have hex : ∃ l : List Str,l.Perm ss /\ sortedS l = true:=⟨l,h,hs⟩
 unfold c6
 rw [dif_pos hex]
 exact ui (h.trans hex.choose_spec.1.symm) (uv hs) (uv hex.choose_spec.2)
theorem sx {ss ss' : List Str} (h : ss.Perm ss') : c6 ss = c6 ss':=by
 have e : (fun l : List Str=>l.Perm ss /\ sortedS l = true) = fun l=>l.Perm ss' /\ sortedS l = true:=funext fun l=>propext ⟨fun q=>⟨q.1.trans h,q.2⟩,fun q=>⟨q.1.trans h.symm,q.2⟩⟩
 by_cases hex : ∃ l : List Str,l.Perm ss /\ sortedS l = true
 ·obtain ⟨l,h1,h2⟩:=hex
  rw [<- f6 h1 h2,<- f6 (h1.trans h) h2]
 ·have hex' : ¬ ∃ l : List Str,l.Perm ss' /\ sortedS l = true:=by rw [<- e]; exact hex
  unfold c6
  rw [dif_neg hex,dif_neg hex']
theorem jt {ss : List Str} : ∀ x ∈ c6 ss,x ∈ ss:=fun x hx=>by
 unfold c6 at hx
 split at hx
 ·rename_i hex
  exact hex.choose_spec.1.mem_iff.mp hx
 ·cases hx
theorem om {ss : List Str} : (c6 ss).length <= ss.length:=by
 unfold c6
 split
 ·rename_i hex
  exact Nat.le_of_eq hex.choose_spec.1.length_eq
 ·exact Nat.zero_le _
theorem Ac {ts : List Str} (h1 : ts.length <= 1000) (h2 : ∀ t ∈ ts,t.length <= 10000) : JoinOk (S " ") ts = true:=by
 have e1 : (S " ").length = 1:=by k_upd
 have key : ∀ (l : List Str) (a : Nat),(∀ t ∈ l,t.length <= 10000) -> l.foldl (· + ·.length + (S " ").length) a <= a + l.length * 10001:=by
  intro l
  induction l with
  | nil=>intro a _; simp
  | cons x l ih =>
   intro a h
   rw [List.foldl_cons]
   have:=ih (a + x.length + (S " ").length) fun t ht=>h t (.tail _ ht)
   have hx:=h x (.head _)
   rw [List.length_cons]
   omega
 unfold JoinOk
 rw [List.foldl_toArray]
 have:=key ts 0 h2
 have : ¬ (ts.foldl (· + ·.length + (S " ").length) 0 > sizeLine):=by
  have e2 : sizeLine = 16777216:=rfl
  have : ts.length * 10001 <= 1000 * 10001:=Nat.mul_le_mul_right _ h1
  omega
 unfold Builtin.Str.tooLong
 rw [decide_eq_false this]; rfl
theorem Hc {j : Nat} : (an0 j).length <= 1000:=by unfold an0; split <;> decide +kernel
theorem G3 {k m j : Nat} (hm : m < 100) : (ti k m j).length <= 3000:=by
 unfold ti
 split
 ·have:=Hc (j:=j); exact Nat.le_trans this (by decide)
 ·have h1:=kl (k:=k)
  have h2:=pv hm
  have h3:=Ci (j:=j)
  have h4 : (Str.ofString ":").length = 1:=by k_upd
  have h5 : (Str.ofString "(").length = 1:=by k_upd
  have h6 : (Str.ofString ")").length = 1:=by k_upd
  simp only [pr]
  omega
section
variable {cx : Cx} {n : Nat} {b : Bool} {H H1 H2 : Hp} {sc : Scope} {lo lo1 : Lo} {L : Addr} {m : Str -> Option Value}
variable {N : Addr} {mN : Str -> Option Value} {fI fC fS fD fG fK fT : Addr}
noncomputable abbrev vLo (B : Nat) (nums picks : D) (rr : List Nat) : Lo:=(S "ring",.d (.list (cdD rr))) :: kLo B nums picks
theorem O4 (T : Top cx) (Td : DTop cx) (HT : HTop cx N mN fI fC fS fD fG fK fT) (R : Regs cx) {num : Nat -> Int} (hs : et num) {s : TS} {j : Nat} {nums picks : D} {rr : List Nat} (ok : TOk j s) (hf : TFull s) (hj : j <= 99) (hc : Clo H H.length) {p : Nat} (hp1 : 1 <= p) (hp4 : p < 4) :
  Ex cx true (n + 29) (ak 24) E6 ((S "place",.d (.str (cdL p))) :: vLo H.length nums picks rr) (s.hp num H) (.nxt ((S "k",.d (.int ((p - 1 : Nat) : Int))) :: (S "place",.d (.str (cdL p))) :: vLo H.length nums picks rr)) ((s.lay num (p - 1)).hp num H):=by
 obtain ⟨k,rfl⟩ : ∃ k,p = k + 1:=⟨p - 1,by exact (Nat.sub_add_cancel hp1).symm⟩
 have hk : k < 3:=by exact Nat.le_of_lt_succ hp4
 rw [Nat.add_sub_cancel]
 have hcnt:=hf.cnt k hk
 have gT : (s.hp num H)[H.length + 7]? = some (.lsl [H.length + 3,H.length + 4,H.length + 5,H.length + 6]):=by rw [fw]; rfl
 have gP : (s.hp num H)[H.length + (3 + k)]? = some (.lst (s.pl num k)):=by rw [fw]; exact Ak hk
 obtain ⟨d,hd⟩ : ∃ d,s.cnt k = d + 1:=⟨s.cnt k - 1,by exact (Nat.sub_add_cancel hcnt).symm⟩
 have hlast : (s.pl num k).getLast? = some (prD num k d):=by unfold TS.pl; rw [hd]; exact l0
 apply ah
 case h1 =>
  apply ai (v:=.d (.int (k : Nat)))
  case h =>
   apply bd T
   case hx=>k_upd
   case hg=>exact (by k_upd : cb.lookup _ = some (.ref 257))
   case hd=>k_upd
   case F=>exact T.f257
   case hp=>k_upd
   case h =>
    apply af
    case hp=>exact rfl
    case h=>kd_p
    exact ag
   rw [jy hk]
   exact wi T hk
  exact .inl (by k_upd)
 case h2 =>
  apply ah
  case h1 =>
   apply c8
   case h =>
    apply bd T
    case hx=>k_upd
    case hg=>exact (by k_upd : cb.lookup _ = some (.ref 264))
    case hd=>k_upd
    case F=>exact T.f264
    case hp=>k_upd
    case h =>
     apply af (v:=.loc (H.length + 1)) (vs:=[.loc (H.length + 2),.loc (H.length + 7),.d (.int (qt num k d)),.d (.int k)])
     case hp=>exact rfl
     case h=>kd_p
     apply af (v:=.loc (H.length + 2)) (vs:=[.loc (H.length + 7),.d (.int (qt num k d)),.d (.int k)])
     case hp=>exact rfl
     case h=>kd_p
     apply af (v:=.loc (H.length + 7)) (vs:=[.d (.int (qt num k d)),.d (.int k)])
     case hp=>exact rfl
     case h=>kd_p
     apply af (v:=.d (.int (qt num k d))) (vs:=[.d (.int k)])
     case hp=>exact rfl
     case h =>
      apply av
      case h1 =>
       apply av
       case h1 =>
        apply av
        case h1=>kd_p
        case h2=>kd_p
        case ht=>exact ft gT
        case ho=>exact dt gT (Az hk) (by exact Nat.le_trans hk (by decide))
        exact fun J J=>⟨_,rfl⟩
       case h2=>kd_p
       case ht=>exact bq (.loc gP)
       case ho=>exact ly (.loc gP) hlast
       exact fun J J=>⟨_,rfl⟩
      case h2=>kd_p
      case ht=>exact ca
      case ho=>exact cp (j:=0) (by rfl) (by decide) rfl
      exact fun J J=>⟨_,rfl⟩
     apply af (v:=.d (.int k)) (vs:=[])
     case hp=>exact rfl
     case h=>kd_p
     exact ag
    have:=Kl (cx:=cx) (n:=n) T Td HT R hs hk ok (by exact Nat.le_succ_of_le hj) hc
    rw [hd] at this
    exact this
   exact fun J=>rfl
  exact bj
theorem u1 {rr : List Nat} : cdD rr = rr.map fun p=>(.str (cdL p) : D):=by simp [cdD]
theorem for1 (T : Top cx) (HT : HTop cx N mN fI fC fS fD fG fK fT) (R : Regs cx) {num : Nat -> Int} {s : TS} {j M0 : Nat} {nums picks : D} {rr : List Nat} (ok : TOk j s) (hf : TFull s) (hj : j <= 99) (hc : Clo H H.length) (hr : RingOk (s.f num) rr) (hbk : BkOk M0 s.bk) (hM : M0 + rr.length <= 999) {tgt : Expr} (ht : ∃ p,tgt = .Name (S "place") p) :
  Fo cx true (n + 10) (ak 24) tgt E5 (fun J=>True) ((rr.map fun p=>(.str (cdL p) : D)).map .d) (wLo H.length nums picks rr) (s.hx num H s.bk []) (.nxt (wLo H.length nums picks rr)) (s.hx num H (rr.foldl (s.bkS num rr) s.bk) (rr.map (s.tx num))):=by
 obtain ⟨tp,rfl⟩:=ht
 have hrl:=hr.len
 have e : ∀ (l : List Nat) (bk : List (Str × Sts)) (ts : List Str),l.foldl (fun (σ : List (Str × Sts) × List Str) p=>(s.bkS num rr σ.1 p,σ.2 ++ [s.tx num p])) (bk,ts) = (l.foldl (s.bkS num rr) bk,ts ++ l.map (s.tx num)):=by
  intro l
  induction l with
  | nil=>intro bk ts; simp
  | cons x l ih=>intro bk ts; rw [List.foldl_cons,ih,List.foldl_cons,List.append_assoc]; rfl
 have:=im (cx:=cx) (n:=n + 10) (sc:=ak 24) (tgt:=.Name (S "place") tp) (body:=E5) (C:=fun J=>True) (fun p=>(.str (cdL p) : D)) (fun (σ : List (Str × Sts) × List Str) p=>(s.bkS num rr σ.1 p,σ.2 ++ [s.tx num p])) (fun es σ=>∃ M,BkOk M σ.1 /\ M + es.length <= 999 /\ σ.2.length + es.length <= 4 /\ ∀ p ∈ es,p ∈ rr) (fun J=>wLo H.length nums picks rr) (fun σ=>s.hx num H σ.1 σ.2) (fun p es σ hP=>by
  refine al fun Gq kq=>?_
  obtain ⟨M,h1,h2,h3,h4⟩:=hP
  refine kq ?_
  have h2' : M + (es.length + 1) <= 999:=h2
  have h3' : σ.2.length + (es.length + 1) <= 4:=h3
  refine ⟨trivial,⟨M + 1,h1.step,by omega,by rw [List.length_append]; show _ + 1 + _ <= _; omega,fun q hq=>h4 q (.tail _ hq)⟩,?_⟩
  exact .mk (bw (by k_upd)) (O3 (n:=n) T HT R ok hf hj hc hr (h4 p (.head _)) h1 (by exact Nat.le_of_add_right_le h2') (by exact Nat.le_trans (Nat.le_add_right _ _) (Nat.le_trans h3' (by decide)))) Pa) (fun J J=>trivial) rr (s.bk,[]) ⟨M0,hbk,hM,by simpa using hrl,fun J h=>h⟩
 rw [e] at this
 simpa using this
theorem for2 (T : Top cx) (Td : DTop cx) (HT : HTop cx N mN fI fC fS fD fG fK fT) (R : Regs cx) {num : Nat -> Int} (hs : et num) {nums picks : D} {rr0 : List Nat} (hc : Clo H H.length) {tgt : Expr} (ht : ∃ p,tgt = .Name (S "place") p) (rr : List Nat) (s : TS)
  (h : ∃ j,TOk j s /\ j + rr.length <= 99 /\ TFull s /\ ∀ p ∈ rr,1 <= p /\ p < 4) :
  Fo cx true (n + 29) (ak 24) tgt E6 (fun J=>True) ((rr.map fun p=>(.str (cdL p) : D)).map .d) (vLo H.length nums picks rr0) (s.hp num H) (.nxt (vLo H.length nums picks rr0)) ((rr.foldl (fun s p=>s.lay num (p - 1)) s).hp num H):=by
 obtain ⟨tp,rfl⟩:=ht
 exact im (cx:=cx) (n:=n + 29) (sc:=ak 24) (tgt:=.Name (S "place") tp) (body:=E6) (C:=fun J=>True) (fun p=>(.str (cdL p) : D)) (fun (s : TS) p=>s.lay num (p - 1)) (fun es s=>∃ j,TOk j s /\ j + es.length <= 99 /\ TFull s /\ ∀ p ∈ es,1 <= p /\ p < 4) (fun J=>vLo H.length nums picks rr0) (fun s=>s.hp num H) (fun p es s hP=>by
  refine al fun Gq kq=>?_
  obtain ⟨j,h1,h2,h3,h4⟩:=hP
  have h2' : j + (es.length + 1) <= 99:=h2
  obtain ⟨q1,q2⟩:=h4 p (.head _)
  refine kq ?_
  refine ⟨trivial,⟨j + 1,h1.lay (by exact Nat.sub_lt_left_of_lt_add (by assumption) q2) (by have:=h1.cm; exact Nat.succ_le_succ this),by omega,h3.lay,fun q hq=>h4 q (.tail _ hq)⟩,?_⟩
  exact .mk (bw (by k_upd)) (O4 (n:=n) T Td HT R hs h1 h3 (by exact Nat.le_of_add_right_le h2') hc q1 q2) ((ga (by k_upd)).trans (ga (by k_upd)))) (fun J J=>trivial) rr s h
theorem nr {num : Nat -> Int} {j : Nat} {s : TS} {rr : List Nat} (h : TOk j s) : TOk j (s.told num rr):=⟨h.sg,h.nd,h.cnt,h.cm⟩
theorem pp {num : Nat -> Int} : ∀ (rr : List Nat) (s : TS) (j : Nat),TOk j s -> TFull s -> (∀ p ∈ rr,1 <= p /\ p < 4) -> TOk (j + rr.length) (rr.foldl (fun s p=>s.lay num (p - 1)) s) /\ TFull (rr.foldl (fun s p=>s.lay num (p - 1)) s)
 | [],s,j,h,hf,_=>⟨h,hf⟩
 | p :: rr,s,j,h,hf,hp=>by
  have:=pp (num:=num) rr (s.lay num (p - 1)) (j + 1) (h.lay (by have:=hp p (.head _); omega) (by have:=h.cm; exact Nat.succ_le_succ this)) hf.lay fun q hq=>hp q (.tail _ hq)
  rw [show j + 1 + rr.length = j + (p :: rr).length by rw [List.length_cons]; exact Nat.add_right_comm _ _ _] at this
  exact this
noncomputable def j8 (ps : List Int) (i : Nat) : Int:=ps.getD (i % ps.length) 0
theorem Aj {ps : List Int} {i : Nat} (h : ps ≠ []) : (ps.map PyData.int)[i % ps.length]? = some (.int (j8 ps i)):=by
 have hl : 0 < ps.length:=List.length_pos_iff.mpr h
 have:=Nat.mod_lt i hl
 unfold j8
 rw [List.getElem?_map,List.getD_eq_getElem?_getD,List.getElem?_eq_getElem this]
 rfl
theorem pq {num : Nat -> Int} : ∀ (rr : List Nat) (s : TS),(rr.foldl (fun s p=>s.lay num (p - 1)) s).rs = s.rs /\ (rr.foldl (fun s p=>s.lay num (p - 1)) s).bk = s.bk /\ (rr.foldl (fun s p=>s.lay num (p - 1)) s).last = s.last
 | [],s=>⟨rfl,rfl,rfl⟩
 | p :: rr,s=>pq rr (s.lay num (p - 1))
theorem Jv {ss : List Stmt} {lo lo1 lo2 : Lo} {H H1 H2 : Hp} (h : Pre cx b n sc ss lo H lo1 H1) (c : Cnv cx H.length lo1 H1 lo2 H2) : Pre cx b n sc ss lo H lo2 H2:=.mk fun A env X ρ s rest Q E hs hr I F k =>
 h.go A env X ρ s rest Q E hs hr I F fun ρ1 s1 a1 F1=>by
  obtain ⟨ρ2,e2,I2,F2⟩:=c env ρ1 X s1.heap a1.inv F1
  exact k ρ2 s1 ⟨a1.fin,I2,e2 _ _ _ (Nat.le_of_eq I.len) a1.ext⟩ F2
theorem Na {B M : Nat} {nums picks : D} {rr : List Nat} (h : B + 10 <= M) : ∀ p ∈ vLo B nums picks rr,vlt M p.2 :=
 List.forall_mem_cons.mpr ⟨trivial,List.forall_mem_cons.mpr ⟨trivial,List.forall_mem_cons.mpr ⟨(by exact h : B + 9 < M),List.forall_mem_cons.mpr ⟨(by exact Nat.le_of_lt h : B + 8 < M),List.forall_mem_cons.mpr ⟨(by exact Nat.lt_of_le_of_lt (Nat.add_le_add_left (by decide) _) h : B + 7 < M),List.forall_mem_cons.mpr ⟨(by exact Nat.lt_of_le_of_lt (Nat.add_le_add_left (by decide) _) h : B + 2 < M),List.forall_mem_cons.mpr ⟨(by exact Nat.lt_of_le_of_lt (Nat.add_le_add_left (by decide) _) h : B + 1 < M),List.forall_mem_cons.mpr ⟨trivial,List.forall_mem_cons.mpr ⟨trivial,fun J h=>nomatch h⟩⟩⟩⟩⟩⟩⟩⟩⟩
theorem Ke {x : Str} {u w : V} {lo : Lo} : ∀ z v,List.lookup z ((x,u) :: lo) = some v -> List.lookup z ((x,u) :: (x,w) :: lo) = some v:=fun z v e=>by
 rw [List.lookup_cons] at e ⊢
 cases c : z == x with
 | true=>rw [c] at e; exact e
 | false =>
  rw [c] at e
  show List.lookup z ((x,w) :: lo) = some v
  rw [List.lookup_cons,c]; exact e
theorem Lb (T : Top cx) (Td : DTop cx) (HT : HTop cx N mN fI fC fS fD fG fK fT) (R : Regs cx) {num : Nat -> Int} (hs : et num) {s : TS} {j M0 : Nat} {nums : D} {ps : List Int} {rr rr' : List Nat} (ok : TOk j s) (hf : TFull s) (hj : j + rr.length <= 99) (hc : Clo H H.length) (hr : RingOk (s.f num) rr) (hbk : BkOk M0 s.bk) (hM : M0 + rr.length <= 999) (hrs : s.rs.length <= 100) (hps : ps ≠ []) (hpl : ps.length <= 1000)
  (hn : (s.pop num rr).ring num (j8 ps (s.rs.length + 1)) = some rr') :
  ∃ lo',Ex cx true (n + 29) (ak 24) v6.2 (vLo H.length nums (.list (ps.map .int)) rr) (s.hp num H) (.nxt lo') ((s.pop num rr).hp num H) /\ ∀ q,Cnv cx q lo' ((s.pop num rr).hp num H) (vLo H.length nums (.list (ps.map .int)) rr') ((s.pop num rr).hp num H):=by
 have hrl:=hr.len
 have hp14 : ∀ p ∈ rr,1 <= p /\ p < 4:=fun p hp=>⟨(hr.at_ p hp).1,(hr.at_ p hp).2.1⟩
 have hE : s.hp num H ++ [O.lst []] = s.hx num H s.bk []:=rfl
 refine al fun Gq kq=>?_
 obtain ⟨okp,hfp⟩:=pp (num:=num) rr (s.told num rr) j (nr ok) ⟨hf.sg,hf.cnt⟩ hp14
 have okP : TOk (j + rr.length) (s.pop num rr):=okp
 have hfP : TFull (s.pop num rr):=hfp
 obtain ⟨r1,_,_⟩:=pq (num:=num) rr (s.told num rr)
 refine kq ?_
 have hrsP : (s.pop num rr).rs = s.rs ++ [np (rr.map (s.tx num))]:=r1
 have hlen : (s.hp num H).length = H.length + 10:=ji
 have g8 : ((s.hx num H (rr.foldl (s.bkS num rr) s.bk) (rr.map (s.tx num))))[H.length + 8]? = some (.lst (s.rs.map .str)):=by rw [n8 (by decide),fw]; rfl
 have e8 : (s.hx num H (rr.foldl (s.bkS num rr) s.bk) (rr.map (s.tx num))).set (H.length + 8) (.lst (s.rs.map .str ++ [.str (np (rr.map (s.tx num)))])) = (s.told num rr).hp num H ++ [.lst ((rr.map (s.tx num)).map .str)]:=by
  unfold TS.hx
  rw [List.set_append_left _ _ (by rw [ji]; exact Nat.le_succ _)]
  congr 1
  unfold TS.hp
  rw [cz]
  congr 1
  show _ = ([.lst (bg (s.es num)),.ins (H.length + 0),.lst (bg s.cm),.lst (s.pl num 0),.lst (s.pl num 1),.lst (s.pl num 2),.lst s.last,.lsl [H.length + 3,H.length + 4,H.length + 5,H.length + 6],.lst ((s.rs ++ [np (rr.map (s.tx num))]).map .str),.dct (bkD (rr.foldl (s.bkS num rr) s.bk))] : Hp)
  rw [List.map_append]
  rfl
 have htl : ∀ t ∈ rr.map (s.tx num),t.length <= 3000:=fun t ht=>by
  refine al fun Gq kq=>?_
  obtain ⟨p,hp,rfl⟩:=List.mem_map.mp ht
  refine kq ?_
  exact G3 (by have:=ok.cnt (p - 1); have:=ok.cm; omega)
 have g8P : ((s.pop num rr).hp num H)[H.length + 8]? = some (.lst ((s.pop num rr).rs.map .str)):=by rw [fw]; rfl
 have gI : ((s.pop num rr).hp num H)[H.length + 1]? = some (.ins (H.length + 0)):=by rw [fw]; rfl
 have gL : ((s.pop num rr).hp num H)[H.length + 0]? = some (.lst (bg ((s.pop num rr).es num))):=by rw [fw]; rfl
 refine ⟨?lo,?ex,?cv⟩
 case ex =>
  rw [show v6.2 = v6.2.take 3 ++ v6.2.drop 3 from rfl]
  apply Mt (lo1:=vLo H.length nums (.list (ps.map .int)) rr) (H1:=(s.told num rr).hp num H)
  case h =>
   apply Jv (lo1:=wLo H.length nums (.list (ps.map .int)) rr) (H1:=(s.told num rr).hp num H ++ [.lst ((rr.map (s.tx num)).map .str)])
   case h =>
    apply cy
    case h1 =>
     apply ai (v:=.loc (s.hp num H).length)
     case h =>
      apply fh (xs:=[])
      case h=>exact ag
      decide
     exact .inl (by k_upd)
    rw [hE,hlen]
    apply cy
    case h1 =>
     apply dp (C:=fun J=>True) (xs:=(rr.map fun p=>(.str (cdL p) : D)).map .d)
     case hit =>
      rw [<- u1]
      exact d4 (xs:=cdD rr) (by kd_p) ik
     exact for1 (n:=n + 19) T HT R ok hf (by exact Nat.le_of_add_right_le hj) hc hr hbk hM ⟨_,rfl⟩
    apply cy (lo1:=wLo H.length nums (.list (ps.map .int)) rr) (H1:=(s.told num rr).hp num H ++ [.lst ((rr.map (s.tx num)).map .str)])
    case h1 =>
     apply c8
     case h =>
      apply ba
      case h0=>kd_p
      case h =>
       apply af
       case hp=>exact rfl
       case h =>
        apply ba
        case h0=>kd_p
        case h =>
         apply af
         case hp=>exact rfl
         case h =>
          apply bo
          case hx=>k_upd
          case hg=>kd_adr
          case hd=>k_upd
          case hp=>k_upd
          case h =>
           apply af
           case hp=>exact rfl
           case h=>kd_p
           exact ag
          exact nl (.loc qx) (by rw [List.length_map]; exact Nat.lt_of_le_of_lt hrl (by decide)) (c6 (rr.map (s.tx num))) (fun l h1 h2=>f6 h1 h2)
         exact ag
        case ht=>exact d9
        case pa=>exact PySem.F.plainAttrs_str
        case slot=>exact PySem.F.slot_str_join
        case hty=>exact PySem.F.type_str_join
        case hp=>exact rfl
        case hline=>exact rfl
        case hbase=>exact fun J=>rfl
        case hfew=>exact fun J=>rfl
        exact Fu .d (Ac (Nat.le_trans om (by rw [List.length_map]; exact Nat.le_trans hrl (by decide))) (fun t ht=>Nat.le_trans (htl t (jt t ht)) (by decide)))
       exact ag
      case ht=>exact dy g8
      case pa=>exact PySem.F.plainAttrs_list
      case slot=>exact PySem.F.slot_list_append
      case hty=>exact PySem.F.type_list_append
      case hp=>exact rfl
      case hline=>exact rfl
      case hbase=>exact fun J=>rfl
      case hfew=>exact fun J=>rfl
      have:=app_lst (cx:=cx) (B:=true) (n:=n + 29) (x:=PyData.str (np (rr.map (s.tx num)))) g8 (by rw [List.length_map]; exact Nat.le_trans hrs (by decide))
      rw [e8] at this
      exact this
     exact fun J=>rfl
    exact p6
   refine (ga (lo:=vLo H.length nums (.list (ps.map .int)) rr) (by k_upd)).trans ?_
   have:=Cnv.take (cx:=cx) (k:=(s.hp num H).length) (m:=((s.told num rr).hp num H).length) (lo:=vLo H.length nums (.list (ps.map .int)) rr) (H:=(s.told num rr).hp num H ++ [.lst ((rr.map (s.tx num)).map .str)]) (by rw [ji,ji]; exact Nat.le_refl _) ((qn hc).app (Nat.le_refl _)) (vy (Na (by rw [ji]; exact Nat.le_refl _)))
   rw [fo] at this
   exact this
  apply ah
  case h1 =>
   apply dp (C:=fun J=>True) (xs:=(rr.map fun p=>(.str (cdL p) : D)).map .d)
   case hit =>
    rw [<- u1]
    exact d4 (xs:=cdD rr) (by kd_p) ik
   exact for2 (n:=n) T Td HT R hs (rr0:=rr) hc ⟨_,rfl⟩ rr (s.told num rr) ⟨j,nr ok,hj,⟨hf.sg,hf.cnt⟩,hp14⟩
  apply ah
  case h1 =>
   apply ai (v:=.d (.list (cdD rr')))
   case h =>
    apply bd T
    case hx=>k_upd
    case hg=>exact (by k_upd : cb.lookup _ = some (.ref 271))
    case hd=>k_upd
    case F=>exact T.f271
    case hp=>k_upd
    case h =>
     apply af (v:=.loc (H.length + 1)) (vs:=[.d (.int (j8 ps (s.rs.length + 1)))])
     case hp=>exact rfl
     case h=>kd_p
     apply af (v:=.d (.int (j8 ps (s.rs.length + 1)))) (vs:=[])
     case hp=>exact rfl
     case h =>
      apply av
      case h1=>kd_p
      case h2 =>
       apply an (v:=.d (.int (((s.rs.length + 1) % ps.length : Nat) : Int)))
       case h1 =>
        apply bo
        case hx=>k_upd
        case hg=>kd_adr
        case hd=>k_upd
        case hp=>k_upd
        case h =>
         apply af
         case hp=>exact rfl
         case h=>kd_p
         exact ag
        have:=b8 (cx:=cx) (B:=true) (n:=n + 29) (Ls.loc g8P) (by rw [List.length_map,hrsP,List.length_append]; show _ + 1 <= _; exact Nat.lt_of_le_of_lt hrs (by decide))
        rw [List.length_map,hrsP,List.length_append] at this
        exact this
       case h2 =>
        apply bo
        case hx=>k_upd
        case hg=>kd_adr
        case hd=>k_upd
        case hp=>k_upd
        case h =>
         apply af
         case hp=>exact rfl
         case h=>kd_p
         exact ag
        have:=b8 (cx:=cx) (B:=true) (n:=n + 29) (H:=(s.pop num rr).hp num H) (v:=.d (.list (ps.map .int))) .d (by rw [List.length_map]; exact Nat.le_trans hpl (by decide))
        rw [List.length_map] at this
        exact this
       have:=jf (cx:=cx) (B:=true) (n:=n + 29) (H:=(s.pop num rr).hp num H) (a:=((s.rs.length + 1 : Nat) : Int)) (b:=(ps.length : Int)) (by have:=List.length_pos_iff.mpr hps; omega)
       rw [show ((s.rs.length + 1 : Nat) : Int).fmod (ps.length : Int) = (((s.rs.length + 1) % ps.length : Nat) : Int) by rw [Int.fmod_eq_emod_of_nonneg _ (by exact Int.ofNat_nonneg _)]; rfl] at this
       exact this
      case ht=>exact bq .d
      case ho=>exact gj .d (Aj (i:=s.rs.length + 1) hps) (by have:=Nat.mod_lt (s.rs.length + 1) (List.length_pos_iff.mpr hps); exact Nat.le_trans this (Nat.le_trans hpl (by decide)))
      exact fun J J=>⟨_,rfl⟩
     exact ag
    exact Db (n:=n + 26) T HT R (qn hc) (lm okP) (na okP hfP) (z5 okP hfP) gI gL hn
   exact .inl (by k_upd)
  exact bj
 case cv=>exact fun q=>.weak Ke
noncomputable def Jq : List Nat -> Bool
 | []=>true
 | x :: l=>!l.contains x && Jq l
theorem Ai : ∀ {l : List Nat},Jq l = true -> l.Nodup
 | [],_=>.nil
 | x :: l,h=>by
  unfold Jq at h
  rw [Bool.and_eq_true,Bool.not_eq_true'] at h
  exact List.nodup_cons.mpr ⟨fun q=>by rw [List.contains_iff_mem.mpr q] at h; exact absurd h.1 (by decide),Ai h.2⟩
noncomputable def Gn (f : Nat -> Nat) (rr : List Nat) : Bool:=Jq rr && rr.all fun p=>decide (1 <= p) && decide (p < 4) && decide (1 <= f p) && decide (f p < 4)
theorem Go {f : Nat -> Nat} {rr : List Nat} (h : Gn f rr = true) : RingOk f rr:=by
 unfold Gn at h
 rw [Bool.and_eq_true] at h
 refine ⟨Ai h.1,fun p hp=>?_⟩
 have:=List.all_eq_true.mp h.2 p hp
 simpa [and_assoc] using this
noncomputable def wkB (a b c s : Nat) : Bool:=match wk (fn a b c) 6 [] (some s) with
 | some (w,some m)=>Gn (fn a b c) (w.drop (w.idxOf m))
 | some (_,none)=>true
 | none=>false
theorem Ng : ((List.range 4).all fun a=>(List.range 4).all fun b=>(List.range 4).all fun c=>wkB a b c 1 && wkB a b c 2 && wkB a b c 3) = true:=by k_upd
theorem Pc {a b c s : Nat} (ha : a < 4) (hb : b < 4) (hc : c < 4) (h1 : 1 <= s) (h4 : s < 4) : wkB a b c s = true:=by
 have:=List.all_eq_true.mp (List.all_eq_true.mp (List.all_eq_true.mp Ng a (List.mem_range.mpr ha)) b (List.mem_range.mpr hb)) c (List.mem_range.mpr hc)
 rw [Bool.and_eq_true,Bool.and_eq_true] at this
 rcases or3 h1 h4 with rfl | rfl | rfl
 ·exact this.1.1
 ·exact this.1.2
 ·exact this.2
theorem Kx {a b c : Nat} (ha : a < 4) (hb : b < 4) (hc : c < 4) : ∀ (st : List Nat),(∀ s ∈ st,1 <= s /\ s < 4) -> ∃ rr,rg (fn a b c) st = some rr /\ RingOk (fn a b c) rr
 | [],_=>⟨[],rfl,.nil,fun J h=>nomatch h⟩
 | s :: st,h=>by
  have h1:=Pc ha hb hc (h s (.head _)).1 (h s (.head _)).2
  obtain ⟨rr,h2,h3⟩:=Kx ha hb hc st fun s hs=>h s (.tail _ hs)
  unfold wkB at h1
  unfold rg
  rcases hw : wk (fn a b c) 6 [] (some s) with _ | ⟨w,_ | m⟩
  ·rw [hw] at h1; cases h1
  ·exact ⟨rr,h2,h3⟩
  ·rw [hw] at h1
   exact ⟨_,rfl,Go h1⟩
theorem p7 {num : Nat -> Int} {j : Nat} {s : TS} (ok : TOk j s) (hf : TFull s) (first : Int) : ∃ rr,s.ring num first = some rr /\ RingOk (s.f num) rr:=by
 refine Kx cu cu cu _ fun x hx=>?_
 obtain ⟨i,hi,rfl⟩:=List.mem_map.mp hx
 have h3:=(ei (first:=first) (j:=i)).2
 obtain ⟨e,_,_,_,h4⟩:=(na (num:=num) ok hf).at_ _ h3
 refine ⟨?_,h4⟩
 show 1 <= _ + 1
 exact Nat.succ_pos _
noncomputable def TS.run (num : Nat -> Int) (ps : List Int) : Nat -> TS -> List Nat -> Option TS
 | 0,_,_=>none
 | _ + 1,s,[]=>some s
 | k + 1,s,p :: rr=>((s.pop num (p :: rr)).ring num (j8 ps (s.rs.length + 1))).bind fun rr'=>TS.run num ps k (s.pop num (p :: rr)) rr'
theorem g9 {ss : List Str} (h : ∀ x ∈ ss,PyData.strOk x = true) : SeqAt.shaped (.list (ss.map .str)) = true:=by
 have d : ∀ ss : List Str,PyData.depthAll (ss.map .str) = 0:=fun ss=>by
  induction ss with
  | nil=>rfl
  | cons x l ih=>simp [PyData.depthAll,PyData.depth,ih]
 unfold SeqAt.shaped
 rw [Bool.and_eq_true]
 constructor
 ·show PyData.canLayAll0 (ss.map .str) = true
  rw [canLayAll_strs']
  exact List.all_eq_true.mpr h
 ·rw [decide_eq_true_eq]
  show PyData.depthAll (ss.map .str) + 1 <= 64
  rw [d]; decide
theorem Km {k : Nat} : PyData.strOk (cdL k) = true:=by unfold cdL; split <;> exact g7 _
theorem B7 {rr : List Nat} : SeqAt.shaped (.list (cdD rr)) = true:=g9 fun x hx=>by
 obtain ⟨k,_,rfl⟩:=List.mem_map.mp hx
 exact Km
theorem Kz {B : Nat} {nums picks : D} {rr : List Nat} : Tst cx b n (ak 24) v6.1 (vLo B nums picks rr) H (!rr.isEmpty) H:=by
 apply am (c:=!rr.isEmpty)
 case h1=>kd_p
 case h2 =>
  apply cn (xs:=[])
  case h=>exact ag
  decide
 case ho =>
  have:=nk (cx:=cx) (B:=b) (n:=n) (H:=H) (Cm.d (x:=.list (cdD rr))) (Cm.d (x:=.list [])) B7 (g9 (ss:=[]) fun J h=>nomatch h)
  have e : (!PyData.eqv (.list (cdD rr)) (.list [])) = !rr.isEmpty:=by
   cases rr with
   | nil=>simp [cdD,PyData.eqv,PyData.eqvAll]
   | cons x l=>simp [cdD,PyData.eqv,PyData.eqvAll]
  rw [e] at this
  exact this
 rfl
theorem zm {num : Nat -> Int} {s : TS} {rr0 : List Nat} : ∀ (rr : List Nat) (bk : List (Str × Sts)) (M : Nat),BkOk M bk -> BkOk (M + rr.length) (rr.foldl (s.bkS num rr0) bk)
 | [],_,_,h=>h
 | p :: rr,bk,M,h=>by
  have:=zm (num:=num) (s:=s) (rr0:=rr0) rr _ (M + 1) (h.step (k:=cdL (s.f num p)) (p:=cdL p) (e:=s.ent rr0 p))
  rw [show M + 1 + rr.length = M + (p :: rr).length by rw [List.length_cons]; exact Nat.add_right_comm _ _ _] at this
  exact this
theorem yc (T : Top cx) (Td : DTop cx) (HT : HTop cx N mN fI fC fS fD fG fK fT) (R : Regs cx) {num : Nat -> Int} (hs : et num) {nums : D} {ps : List Int} (hc : Clo H H.length) (hps : ps ≠ []) (hpl : ps.length <= 1000) {s' : TS} : ∀ (k : Nat) (s : TS) (rr : List Nat) (j M0 : Nat),TOk j s -> TFull s -> RingOk (s.f num) rr -> BkOk M0 s.bk -> j + 4 * k <= 99 -> M0 + 4 * k <= 99 -> s.rs.length + k <= 50 -> TS.run num ps k s rr = some s' ->
  (∃ c,Wh cx true (n + 29) (ak 24) v6.1 v6.2 c (vLo H.length nums (.list (ps.map .int)) rr) (s.hp num H) (.nxt (vLo H.length nums (.list (ps.map .int)) [])) (s'.hp num H)) /\ TOk 99 s' /\ TFull s' /\ BkOk 99 s'.bk /\ s'.rs.length <= 50 /\ s'.last = s.last
 | 0,_,_,_,_,_,_,_,_,_,_,_,e=>by cases e
 | k + 1,s,[],j,M0,ok,hf,_,hb,h1,h2,h3,e=>by
  cases e
  exact ⟨⟨0,.done Kz⟩,⟨ok.sg,ok.nd,ok.cnt,by have:=ok.cm; exact Nat.le_trans this (Nat.le_trans (Nat.le_add_right _ _) h1)⟩,hf,⟨by have:=hb.1; exact Nat.le_trans this (Nat.le_trans (Nat.le_add_right _ _) h2),fun e he=>⟨(hb.2 e he).1,by have:=(hb.2 e he).2; exact Nat.le_trans this (Nat.le_trans (Nat.le_add_right _ _) h2)⟩⟩,by exact Nat.le_of_add_right_le h3,rfl⟩
 | k + 1,s,p :: rr,j,M0,ok,hf,hr,hb,h1,h2,h3,e=>by
  have hl:=hr.len
  refine al fun Gq kq=>?_
  obtain ⟨rr',hn,e⟩:=Option.bind_eq_some_iff.mp e
  have hp14 : ∀ q ∈ p :: rr,1 <= q /\ q < 4:=fun q hq=>⟨(hr.at_ q hq).1,(hr.at_ q hq).2.1⟩
  obtain ⟨okP,hfP⟩:=pp (num:=num) (p :: rr) (s.told num (p :: rr)) j (nr ok) ⟨hf.sg,hf.cnt⟩ hp14
  obtain ⟨r1,r2,r3⟩:=pq (num:=num) (p :: rr) (s.told num (p :: rr))
  have hbP : BkOk (M0 + (p :: rr).length) (s.pop num (p :: rr)).bk:=by
   show BkOk _ ((p :: rr).foldl (fun s p=>s.lay num (p - 1)) (s.told num (p :: rr))).bk
   rw [r2]
   exact zm (p :: rr) s.bk M0 hb
  have hrsP : (s.pop num (p :: rr)).rs.length = s.rs.length + 1:=by
   show ((p :: rr).foldl (fun s p=>s.lay num (p - 1)) (s.told num (p :: rr))).rs.length = _
   rw [r1]
   show (s.rs ++ [_]).length = _
   rw [List.length_append]; rfl
  obtain ⟨lo',hx,hcv⟩:=Lb (cx:=cx) (n:=n) (nums:=nums) T Td HT R hs ok hf (by omega) hc hr hb (by omega) (by exact Nat.le_trans (Nat.le_add_right _ _) (Nat.le_trans h3 (by decide))) hps hpl hn
  obtain ⟨rr2,hn2,hr2⟩:=p7 (num:=num) okP hfP (j8 ps (s.rs.length + 1))
  refine kq ?_
  have : rr2 = rr':=Option.some.inj (hn2.symm.trans hn)
  subst this
  refine al fun Gq kq=>?_
  obtain ⟨⟨c,W⟩,g1,g2,g3,g4,g5⟩:=yc T Td HT R hs hc hps hpl k (s.pop num (p :: rr)) rr2 _ _ okP hfP hr2 hbP (by omega) (by omega) (by omega) e
  refine kq ?_
  exact ⟨⟨c + 1,.step Kz hx (hcv _) W⟩,g1,g2,g3,g4,g5.trans r3⟩
noncomputable def TS.ret (num : Nat -> Int) (s : TS) : D:=.tuple [.list (bg (s.es num)),.list (bg s.cm),.list [.list (s.pl num 0),.list (s.pl num 1),.list (s.pl num 2),.list s.last],.list ((c6 s.rs).map .str),.dict ((bkD s.bk).map enc)]
noncomputable def Ay (num : Nat -> Int) (s : TS) (B : Nat) (l : Nat) : List D:=if l = B + 3 then s.pl num 0 else if l = B + 4 then s.pl num 1 else if l = B + 5 then s.pl num 2 else s.last
theorem B5 (T : Top cx) (HT : HTop cx N mN fI fC fS fD fG fK fT) {num : Nat -> Int} {s : TS} {nums picks : D} (ok : TOk 99 s) (hrs : s.rs.length <= 50) {e1 e2 e3 e4 e5 : Expr} {k : Nat} {pos rp : Pos} (he : nth 9 (ar 24) = .Return (some (.Tuple [e1,e2,e3,e4,e5] k pos)) rp) :
  ∃ K,Ex cx b (n + 1) (ak 24) [nth 9 (ar 24)] (vLo H.length nums picks []) (s.hp num H) (.ret (.d (s.ret num))) (H ++ K):=by
 have hw : nth 9 (ar 24) = _:=rfl
 rw [hw] at he
 cases he
 rw [hw]
 have gI : (s.hp num H)[H.length + 1]? = some (.ins (H.length + 0)):=by rw [fw]; rfl
 have gL : (s.hp num H)[H.length + 0]? = some (.lst (bg (s.es num))):=by rw [fw]; rfl
 let K0 : Hp:=[.lst (bg (s.es num)),.ins (H.length + 0),.lst (bg s.cm),.lst (s.pl num 0),.lst (s.pl num 1),.lst (s.pl num 2),.lst s.last,.lsl [H.length + 3,H.length + 4,H.length + 5,H.length + 6],.lst (s.rs.map .str),.dct (bkD s.bk)]
 let K1 : Hp:=K0 ++ [.dead]
 let K2 : Hp:=K1.set 2 .dead
 let K3 : Hp:=((((K2.set 3 .dead).set 4 .dead).set 5 .dead).set 6 .dead).set 7 .dead
 let K4 : Hp:=K3.set 9 .dead
 refine ⟨K4,?_⟩
 apply bb
 apply az
 apply bt (xs:=[.list (bg (s.es num)),.list (bg s.cm),.list [.list (s.pl num 0),.list (s.pl num 1),.list (s.pl num 2),.list s.last],.list ((c6 s.rs).map .str),.dict ((bkD s.bk).map enc)])
 case hsz=>simp
 case h =>
  apply af (v:=.d (.list (bg (s.es num)))) (vs:=[.d (.list (bg s.cm)),.d (.list [.list (s.pl num 0),.list (s.pl num 1),.list (s.pl num 2),.list s.last]),.d (.list ((c6 s.rs).map .str)),.d (.dict ((bkD s.bk).map enc))]) (H1:=H ++ K1)
  case hp=>rfl
  case h =>
   rw [show H ++ K1 = (s.hp num H ++ [O.lst (bg (s.es num))]).set (s.hp num H).length .dead by rw [cr]; show H ++ (K0 ++ [.dead]) = (H ++ K0) ++ [.dead]; rw [List.append_assoc]]
   refine Ev.frzL (i:=(s.hp num H).length) ?_ ay
   apply kt HT
   case h0=>kd_p
   case h=>exact ag
   case hi=>exact gI
   case hl=>exact gL
   case hn=>exact HT.n7
   case hne=>decide +kernel
   case m=>exact HT.m7
   case hB=>exact kz.2.2.2.2.2
   case hp=>exact rfl
   case ho=>exact Hq HT gI gL (lm ok)
   exact rfl
  apply af (v:=.d (.list (bg s.cm))) (vs:=[.d (.list [.list (s.pl num 0),.list (s.pl num 1),.list (s.pl num 2),.list s.last]),.d (.list ((c6 s.rs).map .str)),.d (.dict ((bkD s.bk).map enc))]) (H1:=H ++ K2)
  case hp=>rfl
  case h =>
   rw [show H ++ K2 = (H ++ K1).set (H.length + 2) .dead from cz.symm]
   exact Ev.frzL (i:=H.length + 2) (by kd_p) (by rw [bz]; rfl)
  apply af (v:=.d (.list [.list (s.pl num 0),.list (s.pl num 1),.list (s.pl num 2),.list s.last])) (vs:=[.d (.list ((c6 s.rs).map .str)),.d (.dict ((bkD s.bk).map enc))]) (H1:=H ++ K3)
  case hp=>rfl
  case h =>
   have hk : H ++ K3 = (l7 [H.length + 3,H.length + 4,H.length + 5,H.length + 6] (H ++ K2)).set (H.length + 7) .dead:=by
    unfold l7 l7 l7 l7 l7
    rw [cz,cz,cz,cz,cz]
   rw [hk]
   have e : ([H.length + 3,H.length + 4,H.length + 5,H.length + 6].map fun l=>PyData.list (Ay num s H.length l)) = [.list (s.pl num 0),.list (s.pl num 1),.list (s.pl num 2),.list s.last]:=by simp [Ay]
   rw [<- e]
   refine Ev.frzLL (f:=Ay num s H.length) (by kd_p) (by rw [bz]; rfl) (by simp) (fun l hl=>?_)
   ·simp only [List.mem_cons,List.not_mem_nil,or_false] at hl
    rcases hl with rfl | rfl | rfl | rfl <;> rw [bz] <;> simp [Ay] <;> rfl
  apply af (v:=.d (.list ((c6 s.rs).map .str))) (vs:=[.d (.dict ((bkD s.bk).map enc))]) (H1:=H ++ K3)
  case hp=>rfl
  case h =>
   apply bo
   case hx=>k_upd
   case hg=>kd_adr
   case hd=>k_upd
   case hp=>k_upd
   case h =>
    apply af
    case hp=>exact rfl
    case h=>kd_p
    exact ag
   exact nl (.loc (by rw [bz]; rfl)) (by exact Nat.lt_of_le_of_lt hrs (by decide)) (c6 s.rs) (fun l h1 h2=>f6 h1 h2)
  apply af (v:=.d (.dict ((bkD s.bk).map enc))) (vs:=[]) (H1:=H ++ K4)
  case hp=>rfl
  case h =>
   rw [show H ++ K4 = (H ++ K3).set (H.length + 9) .dead from cz.symm]
   exact Ev.frzD (i:=H.length + 9) (by kd_p) (by rw [bz]; rfl)
  exact ag
theorem gu {num : Nat -> Int} : TFull (TS.start num) where
 sg:=fun k hk=>by rcases bx hk with rfl | rfl | rfl <;> simp [TS.start,TS.lay,TS.zero]
 cnt:=fun k hk=>by rcases bx hk with rfl | rfl | rfl <;> simp [TS.start,TS.lay,TS.zero]
theorem gv {num : Nat -> Int} : TOk 3 (TS.start num):=⟨ju.2.2.2.sg,ju.2.2.2.nd,ju.2.2.2.cnt,ju.2.2.2.cm⟩
theorem Mv (T : Top cx) (Td : DTop cx) (HT : HTop cx N mN fI fC fS fD fG fK fT) (R : Regs cx) {num : Nat -> Int} (hs : et num) {nums : D} {ps : List Int} (hc : Clo H H.length) (hps : ps ≠ []) (hpl : ps.length <= 1000) {rr0 : List Nat} {st' : TS} (h0 : (TS.start num).ring num (j8 ps 0) = some rr0) (hrun : TS.run num ps 20 (TS.start num) rr0 = some st') :
  ∃ K,Ex cx true (n + 29) (ak 24) ((ar 24).drop 7) (kLo H.length nums (.list (ps.map .int))) ((TS.start num).hp num H) (.ret (.d (st'.ret num))) (H ++ K):=by
 refine al fun Gq kq=>?_
 obtain ⟨rr2,hn2,hr2⟩:=p7 (num:=num) gv gu (j8 ps 0)
 refine kq ?_
 have : rr2 = rr0:=Option.some.inj (hn2.symm.trans h0)
 subst this
 refine al fun Gq kq=>?_
 obtain ⟨⟨c,W⟩,g1,g2,g3,g4,g5⟩:=yc (cx:=cx) (n:=n) (nums:=nums) (H:=H) T Td HT R hs hc hps hpl 20 (TS.start num) rr2 3 0 gv gu hr2 ⟨Nat.le_refl _,(fun J h=>nomatch h)⟩ (by decide) (by decide) (by show ([] : List Str).length + 20 <= 50; decide) hrun
 obtain ⟨K,hx⟩:=B5 (cx:=cx) (b:=true) (n:=n + 28) (H:=H) (nums:=nums) (picks:=.list (ps.map .int)) T HT g1 g4 rfl
 refine kq ?_
 have gI : ((TS.start num).hp num H)[H.length + 1]? = some (.ins (H.length + 0)):=by rw [fw]; rfl
 have gL : ((TS.start num).hp num H)[H.length + 0]? = some (.lst (bg ((TS.start num).es num))):=by rw [fw]; rfl
 refine ⟨K,?_⟩
 apply ah
 case h1 =>
  apply ai (v:=.d (.list (cdD rr2)))
  case h =>
   apply bd T
   case hx=>k_upd
   case hg=>exact (by k_upd : cb.lookup _ = some (.ref 271))
   case hd=>k_upd
   case F=>exact T.f271
   case hp=>k_upd
   case h =>
    apply af (v:=.loc (H.length + 1)) (vs:=[.d (.int (j8 ps 0))])
    case hp=>exact rfl
    case h=>kd_p
    apply af (v:=.d (.int (j8 ps 0))) (vs:=[])
    case hp=>exact rfl
    case h =>
     apply av
     case h1=>kd_p
     case h2=>kd_p
     case ht=>exact bq .d
     case ho=>exact gj (k:=0) .d (by have:=Aj (i:=0) hps; rw [Nat.zero_mod] at this; exact this) (by decide)
     exact fun J J=>⟨_,rfl⟩
    exact ag
   exact Db (n:=n + 26) T HT R (qn hc) (lm gv) (na gv gu) (z5 gv gu) gI gL h0
  exact .inl (by k_upd)
 case h2 =>
  apply ah
  case h1 =>
   apply ip
   exact W
  exact hx
theorem Hr (T : Top cx) (Td : DTop cx) (HT : HTop cx N mN fI fC fS fD fG fK fT) (R : Regs cx) {num : Nat -> Int} (hs : et num) {ps : List Int} (hc : Clo H H.length) (hps : ps ≠ []) (hpl : ps.length <= 1000) {rr0 : List Nat} {st' : TS} (h0 : (TS.start num).ring num (j8 ps 0) = some rr0) (hrun : TS.run num ps 20 (TS.start num) rr0 = some st')
  {A : Around} {envL : Env} {X : List Addr} {ρ : Rh} {s : Shared} {rvs : List Value} (hLt : L ∉ cx.tabs) (eL : envL.locals = L) (fL : envL.frame = some L) (kL : envL.scope.kind ≠ .module) (hfr : A.frames = some [envL]) (hr : Rm true (n + 30) A) (I : Inv (cx.out L m) ρ H X s.heap)
  (q : VsOk (cx.out L m) (zH s.heap ρ X) ρ rvs [.d (nmD num),.d (.list (ps.map .int))]) : wpAny (M cx) A (call (.ref 278) rvs []) (ig (cx.out L m) X ρ s (.d (st'.ret num)) H) No s:=by
 have T':=T.out (L:=L) (m:=m)
 have Td':=Td.out (L:=L) (m:=m) hLt
 have HT':=HT.out (L:=L) (m:=m)
 have R':=R.out (L:=L) (m:=m)
 obtain ⟨fd,hf,Sg,hsc⟩:=T'.f278.ex
 have hlen : rvs.length = ([S "numbers",S "picks"] : List Str).length:=VsOk.length q
 refine gp (cx:=cx.out L m) (args:=⟨rvs,[]⟩) hf Sg.toSig0 (.of_eq (Sg.bind rvs hlen)) hlen (by rw [hsc]; exact fi (by k_upd)) hr I q fun env s₁ Z=>?_
 have henv : env.scope = ak 24:=Z.sc.trans hsc
 have P2 : At2 cx L (A.deeper env) env envL (n + 29):=⟨hLt,henv,Z.frame,eL,fL,kL,by show A.frames.map _ = _; rw [hfr]; rfl,Z.rm⟩
 rw [Gi]
 refine (J1 (cx:=cx.out L m) (n:=n + 26) (num:=num) (nums:=nmD num) (picks:=.list (ps.map .int)) T' HT').go _ env _ ρ s₁ _ _ _ henv Z.rm Z.inv Z.fr fun ρ1 s1 a1 F1=>?_
 refine wpAny_execs_cons (wpAny_mono (Lv (cx:=cx.out L m) (xs:=[.d (.int 0),.d (.int 1),.d (.int 2),.d (.int 3)]) (lz (m:=4) j0 (by k_upd) T'.g_range (by decide) rfl (fun J J=>rfl)) (J0 (cx:=cx) (L:=L) (m:=m) (n:=n) (H:=H) (picks:=.list (ps.map .int)) T Td HT R hs P2 hc ⟨_,rfl⟩) henv Z.rm a1.inv F1 (fun J J=>rfl)) (fun f s2 q2=>?_) nn)
 obtain ⟨ρ2,a2,rfl,F2⟩:=q2
 obtain ⟨K,hx⟩:=Mv (cx:=cx.out L m) (n:=n) (H:=H) (nums:=nmD num) T' Td' HT' R' hs hc hps hpl h0 hrun
 refine hx.runR henv Z.rm a2.inv F2 fun ρ3 rv s3 a3 q3=>?_
 have aa:=(a1.trans a2).trans a3
 have bk:=Z.back (Y:=[]) I.xt aa
 have hXN : ∀ a ∈ X,a ∈ own env ++ X:=fun a ha=>List.mem_append.mpr (.inr ha)
 have q4 : VOk (cx.out L m) (zH s3.heap ρ3 X) ρ3 rv (.d (st'.ret num)):=VOk.move (fb hXN) (Nat.le_refl _) (fun J J J e=>e) q3
 have hI:=bk.inv.take (n:=H.length) (hc.apps (Nat.le_refl _))
 rw [fo] at hI
 exact ⟨ρ3.take H.length,⟨bk.fin,hI,bk.ext.take (by rw [I.len]; exact Nat.le_refl _)⟩,VOk.tk trivial q4⟩
end
section
variable {cx : Cx} {n : Nat} {b : Bool} {H H1 H2 : Hp} {sc : Scope} {lo lo1 : Lo}
theorem wp {k : Nat} (hk : k < 3) : ([.int 12,.int 8,.int (-7)] : List D)[k]? = some (.int (dvs k)):=by rcases bx hk with rfl | rfl | rfl <;> rfl
theorem km {k : Nat} : dvs k ≠ 0:=by rcases yo k with e | e | e <;> rw [e] <;> decide
theorem u6 {a : Int} {k : Nat} : Builtin.divisionGoesByPylong a (dvs k) = false:=by rcases yo k with e | e | e <;> rw [e] <;> rfl
theorem Bq {num : Nat -> Int} {k : Nat} (hk : k < 3) : ([.int (num 0),.int (num 1),.int (num 2),.int 1] : List D)[k]? = some (.int (stk num k 0)):=Fj hk
theorem tf {elt : Expr} {gens : List Comprehension} {scope : Scope} {p1 p2 : Pos} {t : Str} {line : Nat} {env : Env} (hs : env.scope = sc) (h : (sc.names.lookup t == some .local) = false) : swapsWith (.ListComp elt gens scope p1) (some (.Name t p2)) line env = pure false:=by
 show (pure (env.blockKind == .function && env.kindOf t == some .local && p2.line == p1.line && !(scope.names.any fun (n,k)=>n == t && (k == .local || k == .cell))) : Sem Bool) = pure false
 rw [ao,hs,h]
 simp
theorem ld_w (T : Top cx) {num : Nat -> Int} : Ex1 cx true n (ak 26) (nth 0 (ar 26)) [(S "numbers",.d (nmD num))] H (.nxt [(S "due",.loc H.length),(S "numbers",.d (nmD num))]) (H ++ [.lsl [H.length + 1,H.length + 2,H.length + 3],.lst (bh num 0 1),.lst (bh num 1 1),.lst (bh num 2 1)]):=by
 show Ex1 cx true n (ak 26) _ [(S "numbers",.d (nmD num))] H (.nxt [(S "due",.loc H.length),(S "numbers",.d (nmD num))]) _
 apply ai
 case h =>
  apply cf (C:=fun J=>True) (H1:=H) (xs:=[.d (.int 0),.d (.int 1),.d (.int 2)])
  case S=>exact ⟨by decide +kernel,rfl,by decide +kernel⟩
  case hfi=>exact ct (by k_upd)
  case hit=>exact lz (m:=3) j0 (by k_upd) T.g_range (by decide) rfl (fun J J=>rfl)
  apply ja (lo':=[(S "numbers",.d (nmD num))])
  case h=>k_upd
  refine Cf.take (lo2:=[(S "numbers",.d (nmD num))]) (lo1:=(S "k",.d (.int 0)) :: [(S "numbers",.d (nmD num))]) (H1:=H ++ [O.lst []]) (v:=.loc (H.length + 1)) (H2:=H ++ ([O.lst []] ++ [.lst [prD num 0 0]])) (H3:=H ++ [O.lsl [H.length + 1],.lst (bh num 0 1)]) (H4:=H ++ [O.lsl [H.length + 1],.lst (bh num 0 1)]) trivial (bw (by k_upd)) le ?_ ?_ (ga (by k_upd)) ?_
  ·apply dq (xs:=[prD num 0 0]) (K:=[O.lst []])
   case h =>
    apply af (v:=.d (prD num 0 0)) (vs:=[])
    case hp=>exact rfl
    case h =>
     apply bt (xs:=[.int (qt num 0 0),.int (rs num 0 0)])
     case h =>
      apply af (v:=.d (.int (qt num 0 0))) (vs:=[.d (.int (rs num 0 0))])
      case hp=>exact rfl
      case h =>
       apply an
       case h1 =>
        apply av
        case h1=>kd_p
        case h2=>kd_p
        case ht=>exact bq .d
        case ho=>exact bv (k:=0) .d (Bq (by decide)) (by decide)
        exact fun J J=>⟨_,rfl⟩
       case h2 =>
        apply av
        case h1 =>
         apply cn (xs:=[.int 12,.int 8,.int (-7)])
         case h =>
          apply af (v:=.d (.int 12)) (vs:=[.d (.int 8),.d (.int (-7))])
          case hp=>rfl
          case h=>kd_p
          apply af (v:=.d (.int 8)) (vs:=[.d (.int (-7))])
          case hp=>rfl
          case h=>kd_p
          apply af (v:=.d (.int (-7))) (vs:=[])
          case hp=>rfl
          case h =>
           apply bn
           case h1=>kd_p
           exact gn
          exact ag
         decide
        case h2=>kd_p
        case ht=>exact bq .d
        case ho=>exact bv (k:=0) .d (wp (by decide)) (by decide)
        exact fun J J=>⟨_,rfl⟩
       exact iy km u6
      apply af (v:=.d (.int (rs num 0 0))) (vs:=[])
      case hp=>exact rfl
      case h =>
       apply an
       case h1 =>
        apply av
        case h1=>kd_p
        case h2=>kd_p
        case ht=>exact bq .d
        case ho=>exact bv (k:=0) .d (Bq (by decide)) (by decide)
        exact fun J J=>⟨_,rfl⟩
       case h2 =>
        apply av
        case h1 =>
         apply cn (xs:=[.int 12,.int 8,.int (-7)])
         case h =>
          apply af (v:=.d (.int 12)) (vs:=[.d (.int 8),.d (.int (-7))])
          case hp=>rfl
          case h=>kd_p
          apply af (v:=.d (.int 8)) (vs:=[.d (.int (-7))])
          case hp=>rfl
          case h=>kd_p
          apply af (v:=.d (.int (-7))) (vs:=[])
          case hp=>rfl
          case h =>
           apply bn
           case h1=>kd_p
           exact gn
          exact ag
         decide
        case h2=>kd_p
        case ht=>exact bq .d
        case ho=>exact bv (k:=0) .d (wp (by decide)) (by decide)
        exact fun J J=>⟨_,rfl⟩
       exact jf km
      exact ag
     simp
    exact ag
   simp
  ·have:=Cj (cx:=cx) (B:=true) (n:=n) (i:=H.length + 0) (j:=H.length + 1) (H:=H ++ ([O.lst []] ++ [.lst [prD num 0 0]])) (by rw [bz]; rfl)
   rw [cz] at this
   exact this
  ·refine Cf.take (lo2:=[(S "numbers",.d (nmD num))]) (lo1:=(S "k",.d (.int 1)) :: [(S "numbers",.d (nmD num))]) (H1:=H ++ [O.lsl [H.length + 1],.lst (bh num 0 1)]) (v:=.loc (H.length + 2)) (H2:=H ++ ([O.lsl [H.length + 1],.lst (bh num 0 1)] ++ [.lst [prD num 1 0]])) (H3:=H ++ [O.lsl [H.length + 1,H.length + 2],.lst (bh num 0 1),.lst (bh num 1 1)]) (H4:=H ++ [O.lsl [H.length + 1,H.length + 2],.lst (bh num 0 1),.lst (bh num 1 1)]) trivial (bw (by k_upd)) le ?_ ?_ (ga (by k_upd)) ?_
   ·apply dq (xs:=[prD num 1 0]) (K:=[O.lsl [H.length + 1],.lst (bh num 0 1)])
    case h =>
     apply af (v:=.d (prD num 1 0)) (vs:=[])
     case hp=>exact rfl
     case h =>
      apply bt (xs:=[.int (qt num 1 0),.int (rs num 1 0)])
      case h =>
       apply af (v:=.d (.int (qt num 1 0))) (vs:=[.d (.int (rs num 1 0))])
       case hp=>exact rfl
       case h =>
        apply an
        case h1 =>
         apply av
         case h1=>kd_p
         case h2=>kd_p
         case ht=>exact bq .d
         case ho=>exact bv (k:=1) .d (Bq (by decide)) (by decide)
         exact fun J J=>⟨_,rfl⟩
        case h2 =>
         apply av
         case h1 =>
          apply cn (xs:=[.int 12,.int 8,.int (-7)])
          case h =>
           apply af (v:=.d (.int 12)) (vs:=[.d (.int 8),.d (.int (-7))])
           case hp=>rfl
           case h=>kd_p
           apply af (v:=.d (.int 8)) (vs:=[.d (.int (-7))])
           case hp=>rfl
           case h=>kd_p
           apply af (v:=.d (.int (-7))) (vs:=[])
           case hp=>rfl
           case h =>
            apply bn
            case h1=>kd_p
            exact gn
           exact ag
          decide
         case h2=>kd_p
         case ht=>exact bq .d
         case ho=>exact bv (k:=1) .d (wp (by decide)) (by decide)
         exact fun J J=>⟨_,rfl⟩
        exact iy km u6
       apply af (v:=.d (.int (rs num 1 0))) (vs:=[])
       case hp=>exact rfl
       case h =>
        apply an
        case h1 =>
         apply av
         case h1=>kd_p
         case h2=>kd_p
         case ht=>exact bq .d
         case ho=>exact bv (k:=1) .d (Bq (by decide)) (by decide)
         exact fun J J=>⟨_,rfl⟩
        case h2 =>
         apply av
         case h1 =>
          apply cn (xs:=[.int 12,.int 8,.int (-7)])
          case h =>
           apply af (v:=.d (.int 12)) (vs:=[.d (.int 8),.d (.int (-7))])
           case hp=>rfl
           case h=>kd_p
           apply af (v:=.d (.int 8)) (vs:=[.d (.int (-7))])
           case hp=>rfl
           case h=>kd_p
           apply af (v:=.d (.int (-7))) (vs:=[])
           case hp=>rfl
           case h =>
            apply bn
            case h1=>kd_p
            exact gn
           exact ag
          decide
         case h2=>kd_p
         case ht=>exact bq .d
         case ho=>exact bv (k:=1) .d (wp (by decide)) (by decide)
         exact fun J J=>⟨_,rfl⟩
        exact jf km
       exact ag
      simp
     exact ag
    simp
   ·have:=zi (cx:=cx) (B:=true) (n:=n) (i:=H.length + 0) (j:=H.length + 2) (ls:=[H.length + 1]) (H:=H ++ ([O.lsl [H.length + 1],.lst (bh num 0 1)] ++ [.lst [prD num 1 0]])) (by rw [bz]; rfl) (by simp)
    rw [cz] at this
    exact this
   ·refine Cf.take (lo2:=[(S "numbers",.d (nmD num))]) (lo1:=(S "k",.d (.int 2)) :: [(S "numbers",.d (nmD num))]) (H1:=H ++ [O.lsl [H.length + 1,H.length + 2],.lst (bh num 0 1),.lst (bh num 1 1)]) (v:=.loc (H.length + 3)) (H2:=H ++ ([O.lsl [H.length + 1,H.length + 2],.lst (bh num 0 1),.lst (bh num 1 1)] ++ [.lst [prD num 2 0]])) (H3:=H ++ [O.lsl [H.length + 1,H.length + 2,H.length + 3],.lst (bh num 0 1),.lst (bh num 1 1),.lst (bh num 2 1)]) (H4:=H ++ [O.lsl [H.length + 1,H.length + 2,H.length + 3],.lst (bh num 0 1),.lst (bh num 1 1),.lst (bh num 2 1)]) trivial (bw (by k_upd)) le ?_ ?_ (ga (by k_upd)) ?_
    ·apply dq (xs:=[prD num 2 0]) (K:=[O.lsl [H.length + 1,H.length + 2],.lst (bh num 0 1),.lst (bh num 1 1)])
     case h =>
      apply af (v:=.d (prD num 2 0)) (vs:=[])
      case hp=>exact rfl
      case h =>
       apply bt (xs:=[.int (qt num 2 0),.int (rs num 2 0)])
       case h =>
        apply af (v:=.d (.int (qt num 2 0))) (vs:=[.d (.int (rs num 2 0))])
        case hp=>exact rfl
        case h =>
         apply an
         case h1 =>
          apply av
          case h1=>kd_p
          case h2=>kd_p
          case ht=>exact bq .d
          case ho=>exact bv (k:=2) .d (Bq (by decide)) (by decide)
          exact fun J J=>⟨_,rfl⟩
         case h2 =>
          apply av
          case h1 =>
           apply cn (xs:=[.int 12,.int 8,.int (-7)])
           case h =>
            apply af (v:=.d (.int 12)) (vs:=[.d (.int 8),.d (.int (-7))])
            case hp=>rfl
            case h=>kd_p
            apply af (v:=.d (.int 8)) (vs:=[.d (.int (-7))])
            case hp=>rfl
            case h=>kd_p
            apply af (v:=.d (.int (-7))) (vs:=[])
            case hp=>rfl
            case h =>
             apply bn
             case h1=>kd_p
             exact gn
            exact ag
           decide
          case h2=>kd_p
          case ht=>exact bq .d
          case ho=>exact bv (k:=2) .d (wp (by decide)) (by decide)
          exact fun J J=>⟨_,rfl⟩
         exact iy km u6
        apply af (v:=.d (.int (rs num 2 0))) (vs:=[])
        case hp=>exact rfl
        case h =>
         apply an
         case h1 =>
          apply av
          case h1=>kd_p
          case h2=>kd_p
          case ht=>exact bq .d
          case ho=>exact bv (k:=2) .d (Bq (by decide)) (by decide)
          exact fun J J=>⟨_,rfl⟩
         case h2 =>
          apply av
          case h1 =>
           apply cn (xs:=[.int 12,.int 8,.int (-7)])
           case h =>
            apply af (v:=.d (.int 12)) (vs:=[.d (.int 8),.d (.int (-7))])
            case hp=>rfl
            case h=>kd_p
            apply af (v:=.d (.int 8)) (vs:=[.d (.int (-7))])
            case hp=>rfl
            case h=>kd_p
            apply af (v:=.d (.int (-7))) (vs:=[])
            case hp=>rfl
            case h =>
             apply bn
             case h1=>kd_p
             exact gn
            exact ag
           decide
          case h2=>kd_p
          case ht=>exact bq .d
          case ho=>exact bv (k:=2) .d (wp (by decide)) (by decide)
          exact fun J J=>⟨_,rfl⟩
         exact jf km
        exact ag
       simp
      exact ag
     simp
    ·have:=zi (cx:=cx) (B:=true) (n:=n) (i:=H.length + 0) (j:=H.length + 3) (ls:=[H.length + 1,H.length + 2]) (H:=H ++ ([O.lsl [H.length + 1,H.length + 2],.lst (bh num 0 1),.lst (bh num 1 1)] ++ [.lst [prD num 2 0]])) (by rw [bz]; rfl) (by simp)
     rw [cz] at this
     exact this
    ·exact .nil trivial
 case hk=>exact .inr (by k_upd)
 exact fun env h=>tf h (by k_upd)
end
section
variable {cx : Cx} {n : Nat} {b : Bool} {H H1 H2 Hs : Hp} {sc : Scope} {lo lo1 : Lo}
theorem tj {q : Nat} {lo lo' : Lo} (h : ∀ p ∈ lo',lo.lookup p.1 = some p.2) : Cnv cx q lo H lo' H:=.weak fun x v e=>h (x,v) (bf e)
theorem zp (T : Top cx) {num : Nat -> Int} {k d iT lk : Nat} {ls : List Nat} (hk : k < 3) (hT : H[iT]? = some (.lsl ls)) (hl : ls[k]? = some lk) (hP : H[lk]? = some (.lst (bh num k (d + 1)))) (hd : d < 1000) :
  OpV cx b (n + 2) (fun rvs=>call (.ref 285) rvs []) [.loc iT,.d (.str (ck k))] H (.d (fg k d (tgt num k d))) H:=by
 have h:=Bo (cx:=cx) (b:=b) (n:=n) T (Cl hk) hT hl hP l0 (by rw [fj]; exact hd) (by exact Nat.le_succ_of_le hk)
 rw [fj] at h
 have e1 : ((d + 1 : Nat) : Int) - 1 = (d : Int):=by omega
 have e2 : Txt.item (S "abcd") ((if rs num k d < 0 then -rs num k d else rs num k d).fmod 4) = cdL (tgt num k d):=zu
 rw [e1,e2] at h
 exact c5 T.f285 rfl (by k_upd) h
structure WS where
 cnt : Nat -> Nat
 rg : List (List (Nat × Nat × Nat))
 way : List Nat
 here : Nat
noncomputable def dg (r : List (Nat × Nat × Nat)) : D:=.list (r.map fun a=>fg a.1 a.2.1 a.2.2)
noncomputable def upc (cnt : Nat -> Nat) (k : Nat) : Nat -> Nat:=fun i=>if i = k then cnt k + 1 else cnt i
noncomputable def cF (num : Nat -> Int) (cnt : Nat -> Nat) : Nat -> Nat:=fn (tgt num 0 (cnt 0 - 1)) (tgt num 1 (cnt 1 - 1)) (tgt num 2 (cnt 2 - 1))
theorem zn {num : Nat -> Int} {cnt : Nat -> Nat} {k : Nat} (hk : k < 3) : cF num cnt (k + 1) = tgt num k (cnt k - 1):=by
 rcases bx hk with rfl | rfl | rfl <;> rfl
noncomputable def gy (num : Nat -> Int) (cnt : Nat -> Nat) (p : Nat) : Nat × Nat × Nat:=(p - 1,cnt (p - 1) - 1,cF num cnt p)
noncomputable def WS.popd (num : Nat -> Int) (s : WS) : WS:=if s.way.contains s.here then { s with cnt:=(s.way.drop (s.way.idxOf s.here)).foldl (fun c p=>upc c (p - 1)) s.cnt,rg:=s.rg ++ [(s.way.drop (s.way.idxOf s.here)).map (gy num s.cnt)],way:=s.way.take (s.way.idxOf s.here) } else s
noncomputable def WS.step (num : Nat -> Int) (s : WS) : WS:={ s.popd num with way:=(s.popd num).way ++ [s.here],here:=cF num (s.popd num).cnt s.here }
structure PWt (num : Nat -> Int) (H : Hp) (s : WS) (rt : List Nat) (iw : Nat) (Hs : Hp) : Prop where
 pre : ∃ K,Hs = H ++ K
 due : Hs[H.length]? = some (.lsl [H.length + 1,H.length + 2,H.length + 3])
 pl : ∀ k,k < 3 -> Hs[H.length + (1 + k)]? = some (.lst (bh num k (s.cnt k)))
 rg : Hs[H.length + 4]? = some (.lst (s.rg.map dg))
 rt : Hs[H.length + 5]? = some (.lst (cdD rt))
 wy : Hs[iw]? = some (.lst (cdD s.way))
 iw : H.length + 6 <= iw
section
variable {num : Nat -> Int} {s : WS} {rt : List Nat} {iw : Nat} {o : O}
theorem jg (h : ∃ K,Hs = H ++ K) {i : Nat} (hi : H.length <= i) : ∃ K,Hs.set i o = H ++ K:=by
 obtain ⟨K,rfl⟩:=h
 exact ⟨K.set (i - H.length) o,by rw [List.set_append_right _ _ hi]⟩
theorem PWt.setw (h : PWt num H s rt iw Hs) (w : List Nat) (x : Nat) : PWt num H { s with way:=w,here:=x } rt iw (Hs.set iw (.lst (cdD w))):=by
 have hw:=h.iw
 exact ⟨jg h.pre (by exact Nat.le_of_add_right_le hw),aw h.due (by omega),fun k hk=>aw (h.pl k hk) (by omega),aw h.rg (by omega),aw h.rt (by exact Nat.ne_of_gt hw),ge (aq h.wy),hw⟩
theorem PWt.here (h : PWt num H s rt iw Hs) (x : Nat) : PWt num H { s with here:=x } rt iw Hs:=⟨h.pre,h.due,h.pl,h.rg,h.rt,h.wy,h.iw⟩
theorem PWt.setp (h : PWt num H s rt iw Hs) {k : Nat} (hk : k < 3) : PWt num H { s with cnt:=upc s.cnt k } rt iw (Hs.set (H.length + (1 + k)) (.lst (bh num k (s.cnt k + 1)))):=by
 have hw:=h.iw
 refine ⟨jg h.pre (by exact Nat.le_add_right _ _),aw h.due (by omega),fun i hi=>?_,aw h.rg (by omega),aw h.rt (by omega),aw h.wy (by omega),hw⟩
 show _ = some (O.lst (bh num i (if i = k then _ else _)))
 by_cases e : i = k
 ·subst e
  rw [if_pos rfl]
  exact ge (aq (h.pl i hi))
 ·rw [if_neg e]
  exact aw (h.pl i hi) (by omega)
theorem PWt.setr (h : PWt num H s rt iw Hs) (r : List (Nat × Nat × Nat)) : PWt num H { s with rg:=s.rg ++ [r] } rt iw (Hs.set (H.length + 4) (.lst (s.rg.map dg ++ [dg r]))):=by
 have hw:=h.iw
 refine ⟨jg h.pre (by exact Nat.le_add_right _ _),aw h.due (by omega),fun k hk=>aw (h.pl k hk) (by omega),?_,aw h.rt (by omega),aw h.wy (by omega),hw⟩
 rw [ge (aq h.rg)]
 show _ = some (O.lst ((s.rg ++ [r]).map dg))
 rw [List.map_append]; rfl
theorem PWt.sett (h : PWt num H s rt iw Hs) (r : List Nat) : PWt num H s r iw (Hs.set (H.length + 5) (.lst (cdD r))):=by
 have hw:=h.iw
 exact ⟨jg h.pre (by exact Nat.le_add_right _ _),aw h.due (by omega),fun k hk=>aw (h.pl k hk) (by omega),aw h.rg (by omega),ge (aq h.rt),aw h.wy (by exact Nat.ne_of_lt hw),hw⟩
theorem PWt.app (h : PWt num H s rt iw Hs) (o : O) : PWt num H s rt iw (Hs ++ [o]):=⟨let ⟨K,e⟩:=h.pre; ⟨K ++ [o],by rw [e,List.append_assoc]⟩,au h.due,fun k hk=>au (h.pl k hk),au h.rg,au h.rt,au h.wy,h.iw⟩
theorem PWt.neww (h : PWt num H s rt iw Hs) (w : List Nat) : PWt num H { s with way:=w } rt Hs.length (Hs ++ [.lst (cdD w)]):=⟨let ⟨K,e⟩:=h.pre; ⟨K ++ [.lst (cdD w)],by rw [e,List.append_assoc]⟩,au h.due,fun k hk=>au (h.pl k hk),au h.rg,au h.rt,ay,by have:=aq h.wy; have:=h.iw; omega⟩
theorem PWt.dead (h : PWt num H s rt iw Hs) {i : Nat} (hi : H.length + 6 <= i) (hn : i ≠ iw) : PWt num H s rt iw (Hs.set i .dead) :=
 ⟨jg h.pre (by exact Nat.le_of_add_right_le hi),aw h.due (by omega),fun k hk=>aw (h.pl k hk) (by omega),aw h.rg (by omega),aw h.rt (by exact Nat.ne_of_gt hi),aw h.wy hn,h.iw⟩
end
noncomputable def Ea : List Stmt:=gc (nth 3 (ar 26))
noncomputable def v7 : Expr × List Stmt:=Nf (nth 2 Ea)
noncomputable abbrev qLo (B iw : Nat) (nums st : D) (h : Nat) : Lo:=[(S "here",.d (.str (cdL h))),(S "way",.loc iw),(S "start",.d st),(S "rooted",.loc (B + 5)),(S "rings",.loc (B + 4)),(S "due",.loc B),(S "numbers",.d nums)]
noncomputable def wOk (s : WS) (c : Nat) : Prop:=(∀ p ∈ s.way,1 <= p /\ p < 4) /\ s.way.Nodup /\ s.here < 4 /\ (∀ k,k < 3 -> 1 <= s.cnt k /\ s.cnt k <= c) /\ s.rg.length <= c
theorem A0 : ∀ (l : List Nat) (cnt : Nat -> Nat) (k : Nat),cnt k <= (l.foldl (fun c p=>upc c (p - 1)) cnt) k /\ (l.foldl (fun c p=>upc c (p - 1)) cnt) k <= cnt k + l.length
 | [],cnt,k=>⟨Nat.le_refl _,Nat.le_refl _⟩
 | p :: l,cnt,k=>by
  have:=A0 l (upc cnt (p - 1)) k
  rw [List.foldl_cons,List.length_cons]
  have e : upc cnt (p - 1) k = cnt k + 1 \/ upc cnt (p - 1) k = cnt k:=by
   unfold upc
   split
   ·rename_i h; rw [h]; exact .inl rfl
   ·exact .inr rfl
  omega
theorem wOk.popd {num : Nat -> Int} {s : WS} {c : Nat} (h : wOk s c) : wOk (s.popd num) (c + 4) /\ (s.popd num).here = s.here /\ s.here ∉ (s.popd num).way:=by
 refine al fun Gq kq=>?_
 obtain ⟨h1,h2,h3,h4,h5⟩:=h
 refine kq ?_
 unfold WS.popd
 split
 ·rename_i hc
  have hl : (s.way.drop (s.way.idxOf s.here)).length <= 4:=Nat.le_trans (by simp) (io 4 s.way h2 fun x hx=>(h1 x hx).2)
  refine ⟨⟨fun p hp=>h1 p (List.mem_of_mem_take hp),h2.sublist (List.take_sublist _ _),h3,fun k hk=>?_,by show (s.rg ++ [_]).length <= _; rw [List.length_append]; show _ + 1 <= _; omega⟩,rfl,fun hm=>?_⟩
  ·have:=A0 (s.way.drop (s.way.idxOf s.here)) s.cnt k
   have:=h4 k hk
   show 1 <= ((s.way.drop (s.way.idxOf s.here)).foldl (fun c p=>upc c (p - 1)) s.cnt) k /\ ((s.way.drop (s.way.idxOf s.here)).foldl (fun c p=>upc c (p - 1)) s.cnt) k <= c + 4
   omega
  ·obtain ⟨i,hi⟩:=List.mem_iff_getElem?.mp hm
   have hlt : i < s.way.idxOf s.here:=by
    have:=aq hi
    rw [List.length_take] at this
    exact Nat.lt_of_lt_of_le this (Nat.min_le_left _ _)
   rw [List.getElem?_take,if_pos hlt] at hi
   exact (qy hc).2 i hlt hi
 ·rename_i hc
  refine ⟨⟨h1,h2,h3,fun k hk=>⟨(h4 k hk).1,by have:=(h4 k hk).2; exact Nat.le_trans this (Nat.le_add_right _ _)⟩,by exact Nat.le_trans h5 (Nat.le_add_right _ _)⟩,rfl,fun hm=>hc (List.contains_iff_mem.mpr hm)⟩
theorem N1 {num : Nat -> Int} {cnt : Nat -> Nat} (p : Nat) : cF num cnt p < 4:=by
 unfold cF fn
 split
 ·exact cu
 ·exact cu
 ·exact cu
 ·decide
theorem wOk.step {num : Nat -> Int} {s : WS} {c : Nat} (h : wOk s c) (hh : 1 <= s.here) : wOk (s.step num) (c + 4):=by
 refine al fun Gq kq=>?_
 obtain ⟨⟨h1,h2,h3,h4,h5⟩,h6,h7⟩:=h.popd (num:=num)
 refine kq ?_
 refine ⟨fun p hp=>?_,?_,N1 _,h4,h5⟩
 ·rcases List.mem_append.mp hp with hp | hp
  ·exact h1 p hp
  ·rw [List.mem_singleton.mp hp]; exact ⟨hh,h.2.2.1⟩
 ·show ((s.popd num).way ++ [s.here]).Nodup
  rw [List.nodup_append]
  exact ⟨h2,by simp,fun x hx y hy e=>h7 (by rw [List.mem_singleton.mp hy] at e; exact e ▸ hx)⟩
end
section
variable {cx : Cx} {n : Nat} {b : Bool} {H H1 H2 Hs : Hp} {sc : Scope} {lo lo1 : Lo}
theorem za {num : Nat -> Int} {s : WS} {rt : List Nat} {iw : Nat} {nums st : D} (h : PWt num H s rt iw Hs) (hh : s.here < 4) (hr : ∀ x ∈ rt,x < 4) : Tst cx b n (ak 26) v7.1 (qLo H.length iw nums st s.here) Hs (!rt.contains s.here) Hs:=by
 apply am (c:=!rt.contains s.here)
 case h1=>kd_p
 case h2=>kd_p
 case ho =>
  have:=pz (cx:=cx) (B:=b) (n:=n) (H:=Hs) (v:=.loc (H.length + 5)) (ss:=rt.map cdL) (y:=cdL s.here) (Ls.loc h.rt)
  rw [gz hh hr] at this
  exact this
 rfl
theorem u5 {k : Nat} (hk : k < 3) : ([H.length + 1,H.length + 2,H.length + 3] : List Nat)[k]? = some (H.length + (1 + k)):=by rcases bx hk with rfl | rfl | rfl <;> rfl
theorem M5 (T : Top cx) {num : Nat -> Int} {s : WS} {rt : List Nat} {iw h0 : Nat} {nums st : D} {lo : Lo} (h : PWt num H s rt iw Hs) (ok : wOk s 900) (hh : 1 <= s.here) (hlo : ∀ p ∈ qLo H.length iw nums st s.here,lo.lookup p.1 = some p.2) : ∃ lo',Ex cx true (n + 3) (ak 26) (v7.2.drop 1) lo Hs (.nxt lo') (Hs.set iw (.lst (cdD (s.way ++ [s.here])))) /\ (∀ q,Cnv cx q lo' (Hs.set iw (.lst (cdD (s.way ++ [s.here])))) (qLo H.length iw nums st (cF num s.cnt s.here)) (Hs.set iw (.lst (cdD (s.way ++ [s.here]))))):=by
 refine al fun Gq kq=>?_
 obtain ⟨k,hk1⟩ : ∃ k,s.here = k + 1:=⟨s.here - 1,by exact (Nat.sub_add_cancel hh).symm⟩
 have hk : k < 3:=by have:=ok.2.2.1; omega
 obtain ⟨d,hd⟩ : ∃ d,s.cnt k = d + 1:=⟨s.cnt k - 1,by have:=(ok.2.2.2.1 k hk).1; exact (Nat.sub_add_cancel this).symm⟩
 refine kq ?_
 have hd9 : d < 1000:=by have:=(ok.2.2.2.1 k hk).2; omega
 have h2:=h.setw (s.way ++ [s.here]) s.here
 have hP:=h2.pl k hk
 rw [show ({ s with way:=s.way ++ [s.here],here:=s.here } : WS).cnt k = d + 1 from hd] at hP
 have hway : s.way.length <= 4:=io 4 _ ok.2.1 fun x hx=>(ok.1 x hx).2
 have l1 : lo.lookup (S "here") = some (.d (.str (cdL s.here))):=hlo (S "here",_) (.head _)
 have l2 : lo.lookup (S "way") = some (.loc iw):=hlo (S "way",_) (.tail _ (.head _))
 have l3 : lo.lookup (S "due") = some (.loc H.length):=hlo (S "due",_) (.tail _ (.tail _ (.tail _ (.tail _ (.tail _ (.head _))))))
 have ef : cF num s.cnt s.here = tgt num k d:=by rw [hk1,zn hk,hd]; rfl
 have el : cdL s.here = ck k:=by rw [hk1]; exact jy hk
 refine ⟨?lo,?ex,?cv⟩
 case ex =>
  apply ah
  case h1 =>
   apply c8
   case h =>
    apply ba
    case h0=>exact br l2 (by k_upd)
    case h =>
     apply af (v:=.d (.str (cdL s.here))) (vs:=[])
     case hp=>exact rfl
     case h=>exact br l1 (by k_upd)
     exact ag
    case ht=>exact dy h.wy
    case pa=>exact PySem.F.plainAttrs_list
    case slot=>exact PySem.F.slot_list_append
    case hty=>exact PySem.F.type_list_append
    case hp=>exact rfl
    case hline=>exact rfl
    case hbase=>exact fun J=>rfl
    case hfew=>exact fun J=>rfl
    have:=app_lst (cx:=cx) (B:=true) (n:=n + 3) (x:=PyData.str (cdL s.here)) h.wy (by simp [cdD]; exact Nat.le_trans hway (by decide))
    rw [show cdD s.way ++ [PyData.str (cdL s.here)] = cdD (s.way ++ [s.here]) by simp [cdD]] at this
    exact this
   exact fun J=>rfl
  apply ah
  case h1 =>
   apply ai (v:=.d (.str (cdL (tgt num k d))))
   case h =>
    apply av
    case h1 =>
     apply bd T
     case hx=>k_upd
     case hg=>exact (by k_upd : cb.lookup _ = some (.ref 285))
     case hd=>k_upd
     case F=>exact T.f285
     case hp=>k_upd
     case h =>
      apply af (v:=.loc H.length) (vs:=[.d (.str (cdL s.here))])
      case hp=>exact rfl
      case h=>exact br l3 (by k_upd)
      apply af (v:=.d (.str (cdL s.here))) (vs:=[])
      case hp=>exact rfl
      case h=>exact br l1 (by k_upd)
      exact ag
     rw [el]
     exact zp (n:=n + 1) T hk h2.due (u5 hk) hP hd9
    case h2=>kd_p
    case ht=>exact ca
    case ho=>exact cp (j:=2) (x:=.str (cdL (tgt num k d))) (by rfl) (by decide) rfl
    exact fun J J=>⟨_,rfl⟩
   exact .inl (by k_upd)
  exact bj
 intro q
 rw [ef]
 refine tj fun p hp=>?_
 rcases List.mem_cons.mp hp with rfl | hp
 ·exact ky
 ·have hn : ∀ x ∈ [S "way",S "start",S "rooted",S "rings",S "due",S "numbers"],x ≠ S "here":=by decide +kernel
  have hne : p.1 ≠ S "here":=hn p.1 (show p.1 ∈ (qLo H.length iw nums st s.here).tail.map (·.1) from List.mem_map.mpr ⟨p,hp,rfl⟩)
  exact de (beq_eq_false_iff_ne.mpr hne) (hlo p (.tail _ hp))
noncomputable def E7 : List Stmt:=match nth 0 v7.2 with
 | .If _ x _ _=>gc (nth 3 x)
 | _=>[]
noncomputable def vp (iw : Nat) (ring : D) (lo : Lo) : Lo:=(S "way",.loc iw) :: (S "ring",.d ring) :: lo
theorem O5 (T : Top cx) {num : Nat -> Int} {s : WS} {rt : List Nat} {iw i2 p : Nat} {nums st ring : D} {hh : Nat} (h : PWt num H s rt iw Hs) (hc : ∀ k,k < 3 -> 1 <= s.cnt k /\ s.cnt k <= 950) (hp1 : 1 <= p) (hp4 : p < 4) :
  Ex cx true (n + 2) (ak 26) E7 ((S "place",.d (.str (cdL p))) :: vp iw ring (qLo H.length i2 nums st hh)) Hs (.nxt ((S "left",.d (.int (stk num (p - 1) (s.cnt (p - 1))))) :: (S "k",.d (.int ((p - 1 : Nat) : Int))) :: (S "place",.d (.str (cdL p))) :: vp iw ring (qLo H.length i2 nums st hh))) (Hs.set (H.length + (1 + (p - 1))) (.lst (bh num (p - 1) (s.cnt (p - 1) + 1)))):=by
 obtain ⟨k,rfl⟩ : ∃ k,p = k + 1:=⟨p - 1,by exact (Nat.sub_add_cancel hp1).symm⟩
 have hk : k < 3:=by exact Nat.le_of_lt_succ hp4
 rw [Nat.add_sub_cancel]
 obtain ⟨d,hd⟩ : ∃ d,s.cnt k = d + 1:=⟨s.cnt k - 1,by have:=(hc k hk).1; exact (Nat.sub_add_cancel this).symm⟩
 have hP:=h.pl k hk
 have hcl:=(hc k hk).2
 rw [hd] at hP ⊢
 unfold vp
 apply ah
 case h1 =>
  apply ai (v:=.d (.int (k : Nat)))
  case h =>
   apply bd T
   case hx=>k_upd
   case hg=>exact (by k_upd : cb.lookup _ = some (.ref 257))
   case hd=>k_upd
   case F=>exact T.f257
   case hp=>k_upd
   case h =>
    apply af
    case hp=>exact rfl
    case h=>kd_p
    exact ag
   rw [jy hk]
   exact wi T hk
  exact .inl (by k_upd)
 case h2 =>
  apply ah
  case h1 =>
   apply ai (v:=.d (.int (stk num k (d + 1))))
   case h =>
    apply av
    case h1 =>
     apply av
     case h1 =>
      apply av
      case h1=>kd_p
      case h2=>kd_p
      case ht=>exact ft h.due
      case ho=>exact dt h.due (u5 hk) (by exact Nat.le_trans hk (by decide))
      exact fun J J=>⟨_,rfl⟩
     case h2=>kd_p
     case ht=>exact bq (.loc hP)
     case ho=>exact ly (.loc hP) l0
     exact fun J J=>⟨_,rfl⟩
    case h2=>kd_p
    case ht=>exact ca
    case ho=>exact cp (j:=0) (by rfl) (by decide) rfl
    exact fun J J=>⟨_,rfl⟩
   exact .inl (by k_upd)
  apply ah
  case h1 =>
   apply c8
   case h =>
    apply ba
    case h0 =>
     apply av
     case h1=>kd_p
     case h2=>kd_p
     case ht=>exact ft h.due
     case ho=>exact dt h.due (u5 hk) (by exact Nat.le_trans hk (by decide))
     exact fun J J=>⟨_,rfl⟩
    case h =>
     apply af (v:=.d (prD num k (d + 1))) (vs:=[])
     case hp=>exact rfl
     case h =>
      apply bt (xs:=[.int (qt num k (d + 1)),.int (rs num k (d + 1))])
      case h =>
       apply af (v:=.d (.int (qt num k (d + 1)))) (vs:=[.d (.int (rs num k (d + 1)))])
       case hp=>exact rfl
       case h =>
        apply an
        case h1=>kd_p
        case h2 =>
         apply av
         case h1 =>
          apply cn (xs:=[.int 12,.int 8,.int (-7)])
          case h =>
           apply af (v:=.d (.int 12)) (vs:=[.d (.int 8),.d (.int (-7))])
           case hp=>rfl
           case h=>kd_p
           apply af (v:=.d (.int 8)) (vs:=[.d (.int (-7))])
           case hp=>rfl
           case h=>kd_p
           apply af (v:=.d (.int (-7))) (vs:=[])
           case hp=>rfl
           case h =>
            apply bn
            case h1=>kd_p
            exact gn
           exact ag
          decide
         case h2=>kd_p
         case ht=>exact bq .d
         case ho=>exact bv .d (wp hk) (by exact Nat.le_trans hk (by decide))
         exact fun J J=>⟨_,rfl⟩
        exact iy km u6
       apply af (v:=.d (.int (rs num k (d + 1)))) (vs:=[])
       case hp=>exact rfl
       case h =>
        apply an
        case h1=>kd_p
        case h2 =>
         apply av
         case h1 =>
          apply cn (xs:=[.int 12,.int 8,.int (-7)])
          case h =>
           apply af (v:=.d (.int 12)) (vs:=[.d (.int 8),.d (.int (-7))])
           case hp=>rfl
           case h=>kd_p
           apply af (v:=.d (.int 8)) (vs:=[.d (.int (-7))])
           case hp=>rfl
           case h=>kd_p
           apply af (v:=.d (.int (-7))) (vs:=[])
           case hp=>rfl
           case h =>
            apply bn
            case h1=>kd_p
            exact gn
           exact ag
          decide
         case h2=>kd_p
         case ht=>exact bq .d
         case ho=>exact bv .d (wp hk) (by exact Nat.le_trans hk (by decide))
         exact fun J J=>⟨_,rfl⟩
        exact jf km
       exact ag
      simp
     exact ag
    case ht=>exact dy hP
    case pa=>exact PySem.F.plainAttrs_list
    case slot=>exact PySem.F.slot_list_append
    case hty=>exact PySem.F.type_list_append
    case hp=>exact rfl
    case hline=>exact rfl
    case hbase=>exact fun J=>rfl
    case hfew=>exact fun J=>rfl
    have:=app_lst (cx:=cx) (B:=true) (n:=n + 2) (x:=prD num k (d + 1)) hP (by rw [fj]; omega)
    rw [<- oj] at this
    exact this
   exact fun J=>rfl
  exact bj
theorem Gk {B iw h : Nat} {nums st : D} : ∀ p ∈ qLo B iw nums st h,(qLo B iw nums st h).lookup p.1 = some p.2 :=
 List.forall_mem_cons.mpr ⟨by kd_in,List.forall_mem_cons.mpr ⟨by kd_in,List.forall_mem_cons.mpr ⟨by kd_in,List.forall_mem_cons.mpr ⟨by kd_in,List.forall_mem_cons.mpr ⟨by kd_in,List.forall_mem_cons.mpr ⟨by kd_in,List.forall_mem_cons.mpr ⟨by kd_in,fun J h=>nomatch h⟩⟩⟩⟩⟩⟩⟩
theorem B3 {B iw iw' h : Nat} {nums st r : D} : ∀ p ∈ qLo B iw' nums st h,(vp iw' r (qLo B iw nums st h)).lookup p.1 = some p.2:=by
 unfold vp
 exact List.forall_mem_cons.mpr ⟨by kd_in,List.forall_mem_cons.mpr ⟨by kd_in,List.forall_mem_cons.mpr ⟨by kd_in,List.forall_mem_cons.mpr ⟨by kd_in,List.forall_mem_cons.mpr ⟨by kd_in,List.forall_mem_cons.mpr ⟨by kd_in,List.forall_mem_cons.mpr ⟨by kd_in,fun J h=>nomatch h⟩⟩⟩⟩⟩⟩⟩
theorem Kp {num : Nat -> Int} {B : Nat} : ∀ (l : List Nat) (s : WS) (h : Hp),(l.foldl (fun (σ : WS × Hp) p=>({ σ.1 with cnt:=upc σ.1.cnt (p - 1) },σ.2.set (B + (1 + (p - 1))) (.lst (bh num (p - 1) (σ.1.cnt (p - 1) + 1))))) (s,h)).1 = { s with cnt:=l.foldl (fun c p=>upc c (p - 1)) s.cnt }
 | [],_,_=>rfl
 | p :: l,s,h=>by rw [List.foldl_cons,Kp l]; rfl
theorem for4 (T : Top cx) {num : Nat -> Int} {s : WS} {rt : List Nat} {iw i2 hh : Nat} {nums st ring : D} (h : PWt num H s rt iw Hs) {rr : List Nat} (hr : ∀ p ∈ rr,1 <= p /\ p < 4) (hc : ∀ k,k < 3 -> 1 <= s.cnt k /\ s.cnt k + rr.length <= 950) {tgt : Expr} (ht : ∃ p,tgt = .Name (S "place") p) :
  ∃ H',Fo cx true (n + 2) (ak 26) tgt E7 (fun J=>True) ((rr.map fun p=>(.str (cdL p) : D)).map .d) (vp iw ring (qLo H.length i2 nums st hh)) Hs (.nxt (vp iw ring (qLo H.length i2 nums st hh))) H' /\ PWt num H { s with cnt:=rr.foldl (fun c p=>upc c (p - 1)) s.cnt } rt iw H':=by
 obtain ⟨tp,rfl⟩:=ht
 have hP : ∀ (es : List Nat) (σ : WS × Hp),(PWt num H σ.1 rt iw σ.2 /\ (∀ k,k < 3 -> 1 <= σ.1.cnt k /\ σ.1.cnt k + es.length <= 950) /\ ∀ p ∈ es,1 <= p /\ p < 4) -> PWt num H (es.foldl (fun (σ : WS × Hp) p=>({ σ.1 with cnt:=upc σ.1.cnt (p - 1) },σ.2.set (H.length + (1 + (p - 1))) (.lst (bh num (p - 1) (σ.1.cnt (p - 1) + 1))))) σ).1 rt iw (es.foldl (fun (σ : WS × Hp) p=>({ σ.1 with cnt:=upc σ.1.cnt (p - 1) },σ.2.set (H.length + (1 + (p - 1))) (.lst (bh num (p - 1) (σ.1.cnt (p - 1) + 1))))) σ).2:=by
  intro es
  induction es with
  | nil=>intro σ q; exact q.1
  | cons p es ih =>
   intro σ q
   obtain ⟨q1,q2,q3⟩:=q
   rw [List.foldl_cons]
   refine ih _ ⟨q1.setp (by have:=q3 p (.head _); omega),fun k hk=>?_,fun x hx=>q3 x (.tail _ hx)⟩
   obtain ⟨a1,a2⟩:=q2 k hk
   rw [List.length_cons] at a2
   show 1 <= upc σ.1.cnt (p - 1) k /\ upc σ.1.cnt (p - 1) k + _ <= _
   unfold upc
   split
   ·rename_i e; rw [<- e]; omega
   ·omega
 have hfin:=hP rr (s,Hs) ⟨h,hc,hr⟩
 rw [Kp] at hfin
 refine ⟨_,?_,hfin⟩
 exact im (cx:=cx) (n:=n + 2) (sc:=ak 26) (tgt:=.Name (S "place") tp) (body:=E7) (C:=fun J=>True) (fun p=>(.str (cdL p) : D)) (fun (σ : WS × Hp) p=>({ σ.1 with cnt:=upc σ.1.cnt (p - 1) },σ.2.set (H.length + (1 + (p - 1))) (.lst (bh num (p - 1) (σ.1.cnt (p - 1) + 1))))) (fun es σ=>PWt num H σ.1 rt iw σ.2 /\ (∀ k,k < 3 -> 1 <= σ.1.cnt k /\ σ.1.cnt k + es.length <= 950) /\ ∀ p ∈ es,1 <= p /\ p < 4) (fun J=>vp iw ring (qLo H.length i2 nums st hh)) (fun σ=>σ.2) (fun p es σ q=>by
  obtain ⟨q1,q2,q3⟩:=q
  obtain ⟨b1,b2⟩:=q3 p (.head _)
  refine ⟨trivial,⟨q1.setp (by exact Nat.sub_lt_left_of_lt_add (by assumption) b2),fun k hk=>?_,fun x hx=>q3 x (.tail _ hx)⟩,?_⟩
  ·obtain ⟨a1,a2⟩:=q2 k hk
   rw [List.length_cons] at a2
   show 1 <= upc σ.1.cnt (p - 1) k /\ upc σ.1.cnt (p - 1) k + _ <= _
   unfold upc
   split
   ·rename_i e; rw [<- e]; omega
   ·omega
  ·exact .mk (bw (by k_upd)) (O5 (n:=n) (H:=H) T q1 (fun k hk=>⟨(q2 k hk).1,by have:=(q2 k hk).2; exact Nat.le_of_add_right_le this⟩) b1 b2) (((ga (by k_upd)).trans (ga (by k_upd))).trans (ga (by k_upd)))) (fun J J=>trivial) rr (s,Hs) ⟨h,hc,hr⟩
theorem O0 (T : Top cx) {num : Nat -> Int} {s : WS} {rt : List Nat} {iw c : Nat} {nums st : D} (h : PWt num H s rt iw Hs) (ok : wOk s c) (hc9 : c <= 900) :
  ∃ lo' H' iw',Ex1 cx true (n + 3) (ak 26) (nth 0 v7.2) (qLo H.length iw nums st s.here) Hs (.nxt lo') H' /\ PWt num H (s.popd num) rt iw' H' /\ ∀ p ∈ qLo H.length iw' nums st s.here,lo'.lookup p.1 = some p.2:=by
 refine al fun Gq kq=>?_
 obtain ⟨o1,o2,o3,o4,o5⟩:=ok
 refine kq ?_
 have hin:=o_in (cx:=cx) (B:=true) (n:=n + 3) (H:=Hs) (v:=.loc iw) (ss:=s.way.map cdL) (y:=cdL s.here) (Ls.loc h.wy)
 rw [gz o3 fun x hx=>(o1 x hx).2] at hin
 have hway : s.way.length <= 4:=io 4 _ o2 fun x hx=>(o1 x hx).2
 by_cases hq : s.way.contains s.here = true
 ·rw [hq] at hin
  let w':=s.way.take (s.way.idxOf s.here)
  let rr:=s.way.drop (s.way.idxOf s.here)
  have hrr : ∀ p ∈ rr,1 <= p /\ p < 4:=fun p hp=>o1 p (List.mem_of_mem_drop hp)
  have hrl : rr.length <= 4:=by show (s.way.drop _).length <= 4; rw [List.length_drop]; exact Nat.le_trans (Nat.sub_le _ _) hway
  let r:=rr.map (gy num s.cnt)
  let ys : List D:=rr.map fun p=>fg (p - 1) (s.cnt (p - 1) - 1) (cF num s.cnt p)
  have hys : dg r = .list ys:=by show PyData.list ((rr.map (gy num s.cnt)).map _) = _; rw [List.map_map]; rfl
  have h1:=h.neww w'
  have h2:=h1.app (.lst ys)
  have hj : (Hs ++ [O.lst (cdD w')]).length = Hs.length + 1:=by rw [List.length_append]; rfl
  have hHs : H.length + 6 <= Hs.length:=by have:=aq h.wy; have:=h.iw; omega
  have h3:=h2.dead (i:=(Hs ++ [O.lst (cdD w')]).length) (by omega) (by omega)
  have h4:=h3.setr r
  rw [hys] at h4
  refine al fun Gq kq=>?_
  obtain ⟨H',W,h5⟩:=for4 (cx:=cx) (n:=n + 1) (i2:=iw) (hh:=s.here) (nums:=nums) (st:=st) (ring:=.list (cdD rr)) T h4 hrr (fun k hk=>⟨(o4 k hk).1,by have:=(o4 k hk).2; show s.cnt k + _ <= _; omega⟩) ⟨_,rfl⟩
  refine kq ?_
  have hix:=yv o3 (fun x hx=>(o1 x hx).2) hq
  have hpop : s.popd num = { ({ s with way:=w',rg:=s.rg ++ [r] } : WS) with cnt:=rr.foldl (fun c p=>upc c (p - 1)) s.cnt }:=by unfold WS.popd; rw [if_pos hq]
  refine ⟨vp Hs.length (.list (cdD rr)) (qLo H.length iw nums st s.here),H',Hs.length,?_,by rw [hpop]; exact h5,B3⟩
  apply bp (c:=true)
  case h =>
   apply am (c:=true)
   case h1=>kd_p
   case h2=>kd_p
   case ho=>exact hin
   exact rfl
  rw [if_pos rfl]
  apply ah
  case h1 =>
   apply ai (v:=.d (.list (cdD rr)))
   case h =>
    apply dh
    case h1=>kd_p
    case h2 =>
     apply dj
     apply ba
     case h0=>kd_p
     case h =>
      apply af (v:=.d (.str (cdL s.here))) (vs:=[])
      case hp=>exact rfl
      case h=>kd_p
      exact ag
     case ht=>exact dy h.wy
     case pa=>exact PySem.F.plainAttrs_list
     case slot=>exact PySem.F.slot_list_index
     case hty=>exact PySem.F.type_list_index
     case hp=>exact rfl
     case hline=>exact rfl
     case hbase=>exact fun J=>rfl
     case hfew=>exact fun J=>rfl
     exact px (v:=.loc iw) (ss:=s.way.map cdL) (.loc h.wy) hix.1 hix.2 (by rw [List.length_map]; exact Nat.le_trans hway (by decide))
    case h3=>exact di
    case ht=>exact bq (.loc h.wy)
    have:=lb (cx:=cx) (B:=true) (n:=n + 3) (lw:=some (s.way.idxOf s.here : Nat)) (hi:=none) (Ls.loc h.wy) (by simp [cdD]; exact Nat.le_trans hway (by decide))
    rw [i3,show (cdD s.way).drop (s.way.idxOf s.here) = cdD rr by simp [cdD,List.map_drop,rr]] at this
    exact this
   exact .inl (by k_upd)
  apply ah
  case h1 =>
   apply ai (v:=.loc Hs.length)
   case h =>
    apply dh
    case h1=>kd_p
    case h2=>exact di
    case h3 =>
     apply dj
     apply ba
     case h0=>kd_p
     case h =>
      apply af (v:=.d (.str (cdL s.here))) (vs:=[])
      case hp=>exact rfl
      case h=>kd_p
      exact ag
     case ht=>exact dy h.wy
     case pa=>exact PySem.F.plainAttrs_list
     case slot=>exact PySem.F.slot_list_index
     case hty=>exact PySem.F.type_list_index
     case hp=>exact rfl
     case hline=>exact rfl
     case hbase=>exact fun J=>rfl
     case hfew=>exact fun J=>rfl
     exact px (v:=.loc iw) (ss:=s.way.map cdL) (.loc h.wy) hix.1 hix.2 (by rw [List.length_map]; exact Nat.le_trans hway (by decide))
    case ht=>exact bq (.loc h.wy)
    have:=Ap (cx:=cx) (B:=true) (n:=n + 3) (lw:=none) (hi:=some (s.way.idxOf s.here : Nat)) (Ls.loc h.wy) (by simp [cdD]; exact Nat.le_trans hway (by decide))
    rw [Gv,show (cdD s.way).take (s.way.idxOf s.here) = cdD w' by simp [cdD,List.map_take,w']] at this
    exact this
   exact .inl (by k_upd)
  apply ah
  case h1 =>
   apply c8
   case h =>
    apply ba
    case h0=>kd_p
    case h =>
     apply af (v:=.loc (Hs ++ [O.lst (cdD w')]).length) (vs:=[])
     case hp=>exact rfl
     case h =>
      apply cf (C:=fun J=>True) (H1:=Hs ++ [O.lst (cdD w')]) (xs:=(rr.map fun p=>(.str (cdL p) : D)).map .d)
      case S=>exact ⟨by decide +kernel,rfl,by decide +kernel⟩
      case hfi=>exact ct (by k_upd)
      case hit =>
       rw [<- u1]
       exact d4 (xs:=cdD rr) (by kd_p) ik
      apply ja (lo':=[(S "due",.loc H.length)])
      case h=>k_upd
      apply jz (f:=fun p=>(.str (cdL p) : D)) (g:=fun p=>fg (p - 1) (s.cnt (p - 1) - 1) (cF num s.cnt p)) (bnd:=fun p=>[(S "place",.d (.str (cdL p))),(S "due",.loc H.length)]) (es:=rr)
      case hC=>exact fun J=>trivial
      case has=>exact fun e=>bw (by k_upd)
      case hw=>exact fun e=>cj (by k_upd)
      case hv =>
       intro p hp ys
       apply bd T
       case hx=>k_upd
       case hg=>exact (by k_upd : cb.lookup _ = some (.ref 285))
       case hd=>k_upd
       case F=>exact T.f285
       case hp=>k_upd
       case h =>
        apply af (v:=.loc H.length) (vs:=[.d (.str (cdL p))])
        case hp=>exact rfl
        case h=>kd_p
        apply af (v:=.d (.str (cdL p))) (vs:=[])
        case hp=>exact rfl
        case h=>kd_p
        exact ag
       refine al fun Gq kq=>?_
       obtain ⟨b1,b4⟩:=hrr p hp
       obtain ⟨k,rfl⟩ : ∃ k,p = k + 1:=⟨p - 1,by exact (Nat.sub_add_cancel b1).symm⟩
       have hk : k < 3:=by exact Nat.le_of_lt_succ b4
       obtain ⟨d,hd⟩ : ∃ d,s.cnt k = d + 1:=⟨s.cnt k - 1,by have:=(o4 k hk).1; exact (Nat.sub_add_cancel this).symm⟩
       refine kq ?_
       have hd9 : d < 1000:=by have:=(o4 k hk).2; omega
       have hP:=(h1.app (.lst ys)).pl k hk
       rw [show ({ s with way:=w' } : WS).cnt k = d + 1 from hd] at hP
       have ea : fg (k + 1 - 1) (s.cnt (k + 1 - 1) - 1) (cF num s.cnt (k + 1)) = fg k d (tgt num k d):=by rw [Nat.add_sub_cancel,zn hk,hd]; rfl
       rw [ea,jy hk]
       exact zp (n:=n + 1) T hk (h1.app (.lst ys)).due (u5 hk) hP hd9
      exact Nat.le_trans hrl (by decide)
     exact ag
    case ht=>exact dy h1.rg
    case pa=>exact PySem.F.plainAttrs_list
    case slot=>exact PySem.F.slot_list_append
    case hty=>exact PySem.F.type_list_append
    case hp=>exact rfl
    case hline=>exact rfl
    case hbase=>exact fun J=>rfl
    case hfew=>exact fun J=>rfl
    have:=Hd (cx:=cx) (B:=true) (n:=n + 3) (i:=H.length + 4) (j:=(Hs ++ [O.lst (cdD w')]).length) (by omega) h2.rg ay (by rw [List.length_map]; show s.rg.length <= _; exact Nat.le_trans o5 (Nat.le_trans hc9 (by decide)))
    exact this
   exact fun J=>rfl
  apply ah
  case h1 =>
   apply dp (C:=fun J=>True) (xs:=(rr.map fun p=>(.str (cdL p) : D)).map .d)
   case hit =>
    rw [<- u1]
    exact d4 (xs:=cdD rr) (by kd_p) ik
   exact W
  exact bj
 ·have hq' : s.way.contains s.here = false:=by simpa using hq
  rw [hq'] at hin
  refine ⟨qLo H.length iw nums st s.here,Hs,iw,?_,?_,Gk⟩
  ·skip
   apply bp (c:=false)
   case h =>
    apply am (c:=false)
    case h1=>kd_p
    case h2=>kd_p
    case ho=>exact hin
    exact rfl
   rw [if_neg (by decide)]
   exact bj
  ·have : s.popd num = s:=by unfold WS.popd; rw [if_neg hq]
   rw [this]; exact h
noncomputable def yd (num : Nat -> Int) (rt : List Nat) : Nat -> WS -> Option WS
 | 0,_=>none
 | k + 1,s=>if rt.contains s.here then some s else yd num rt k (s.step num)
theorem Pb (T : Top cx) {num : Nat -> Int} {rt : List Nat} {nums st : D} (h0 : 0 ∈ rt) (hr4 : ∀ x ∈ rt,x < 4) {s' : WS} : ∀ (k : Nat) (s : WS) (iw c : Nat) (Hs : Hp),PWt num H s rt iw Hs -> wOk s c -> c + 4 * k <= 900 -> yd num rt k s = some s' ->
  ∃ c' H' iw',Wh cx true (n + 3) (ak 26) v7.1 v7.2 c' (qLo H.length iw nums st s.here) Hs (.nxt (qLo H.length iw' nums st s'.here)) H' /\ PWt num H s' rt iw' H' /\ wOk s' (c + 4 * k)
 | 0,_,_,_,_,_,_,_,e=>by cases e
 | k + 1,s,iw,c,Hs,h,ok,hc,e=>by
  unfold yd at e
  have ht:=za (cx:=cx) (b:=true) (n:=n + 3) (nums:=nums) (st:=st) h ok.2.2.1 hr4
  by_cases hq : rt.contains s.here = true
  ·rw [if_pos hq] at e
   cases e
   rw [hq] at ht
   refine al fun Gq kq=>?_
   obtain ⟨o1,o2,o3,o4,o5⟩:=ok
   refine kq ?_
   exact ⟨0,Hs,iw,.done ht,h,o1,o2,o3,fun k hk=>⟨(o4 k hk).1,by have:=(o4 k hk).2; exact Nat.le_trans this (Nat.le_add_right _ _)⟩,by exact Nat.le_trans o5 (Nat.le_add_right _ _)⟩
  ·rw [if_neg hq] at e
   rw [show rt.contains s.here = false by simpa using hq] at ht
   have hh : 1 <= s.here:=by
    cases q : s.here with
    | zero=>rw [q] at hq; exact absurd (List.contains_iff_mem.mpr h0) hq
    | succ m=>exact Nat.succ_pos _
   refine al fun Gq kq=>?_
   obtain ⟨lo1,H1,iw1,x1,p1,l1⟩:=O0 (cx:=cx) (n:=n) (nums:=nums) (st:=st) T h ok (by exact Nat.le_of_add_right_le hc)
   obtain ⟨ok1,e1,_⟩:=ok.popd (num:=num)
   refine kq ?_
   rw [<- e1] at l1
   refine al fun Gq kq=>?_
   obtain ⟨o1,o2,o3,o4,o5⟩:=ok1
   obtain ⟨lo2,x2,c2⟩:=M5 (cx:=cx) (n:=n) (h0:=0) T p1 ⟨o1,o2,o3,fun k hk=>⟨(o4 k hk).1,by have:=(o4 k hk).2; omega⟩,by omega⟩ (by rw [e1]; exact hh) l1
   refine kq ?_
   have p2:=p1.setw ((s.popd num).way ++ [s.here]) (cF num (s.popd num).cnt s.here)
   have ok2:=ok.step (num:=num) hh
   rw [e1] at x2 c2
   refine al fun Gq kq=>?_
   obtain ⟨c',H',iw',W,p3,ok3⟩:=Pb T h0 hr4 k (s.step num) iw1 (c + 4) _ p2 ok2 (by omega) e
   refine kq ?_
   refine ⟨c' + 1,H',iw',.step ht ?_ (c2 _) W,p3,?_⟩
   ·rw [show v7.2 = nth 0 v7.2 :: v7.2.drop 1 from rfl]
    exact ah x1 x2
   ·rw [show c + 4 + 4 * k = c + 4 * (k + 1) by exact Nat.add_right_comm _ _ _] at ok3
    exact ok3
structure PB (num : Nat -> Int) (H : Hp) (s : WS) (rt : List Nat) (Hs : Hp) : Prop where
 pre : ∃ K,Hs = H ++ K
 due : Hs[H.length]? = some (.lsl [H.length + 1,H.length + 2,H.length + 3])
 pl : ∀ k,k < 3 -> Hs[H.length + (1 + k)]? = some (.lst (bh num k (s.cnt k)))
 rg : Hs[H.length + 4]? = some (.lst (s.rg.map dg))
 rt : Hs[H.length + 5]? = some (.lst (cdD rt))
theorem PWt.pb {num : Nat -> Int} {s : WS} {rt : List Nat} {iw : Nat} (h : PWt num H s rt iw Hs) : PB num H s rt Hs:=⟨h.pre,h.due,h.pl,h.rg,h.rt⟩
theorem PB.neww {num : Nat -> Int} {s : WS} {rt : List Nat} (h : PB num H s rt Hs) (x : Nat) : PWt num H { s with way:=[],here:=x } rt Hs.length (Hs ++ [.lst (cdD [])]) :=
 ⟨let ⟨K,e⟩:=h.pre; ⟨K ++ [.lst (cdD [])],by rw [e,List.append_assoc]⟩,au h.due,fun k hk=>au (h.pl k hk),au h.rg,au h.rt,ay,by have:=aq h.rt; exact this⟩
noncomputable abbrev bLo (B : Nat) (nums : D) : Lo:=[(S "rooted",.loc (B + 5)),(S "rings",.loc (B + 4)),(S "due",.loc B),(S "numbers",.d nums)]
noncomputable def oo (num : Nat -> Int) : List Nat -> WS -> List Nat -> Option (WS × List Nat)
 | [],s,rt=>some (s,rt)
 | p :: ps,s,rt=>(yd num rt 64 { s with way:=[],here:=p }).bind fun s'=>oo num ps s' (rt ++ s'.way)
theorem M9 (T : Top cx) {num : Nat -> Int} {s s' : WS} {rt : List Nat} {nums : D} {p c : Nat} (hp : p < 4) (h : PB num H s rt Hs) (ok : wOk s c) (hc : c + 256 <= 900) (h0 : 0 ∈ rt) (hr4 : ∀ x ∈ rt,x < 4) (hrl : rt.length <= 1000) (hrun : yd num rt 64 { s with way:=[],here:=p } = some s') :
  ∃ lo' H',Ex cx true (n + 3) (ak 26) Ea ((S "start",.d (.str (cdL p))) :: bLo H.length nums) Hs (.nxt lo') H' /\ PB num H s' (rt ++ s'.way) H' /\ wOk s' (c + 256) /\ (∀ q,Cnv cx q lo' H' (bLo H.length nums) H'):=by
 have h1:=h.neww p
 refine al fun Gq kq=>?_
 obtain ⟨c',H',iw',W,p1,ok1⟩:=Pb (cx:=cx) (n:=n) (nums:=nums) (st:=.str (cdL p)) T h0 hr4 64 _ _ c _ h1 ⟨(fun J h=>nomatch h),.nil,hp,ok.2.2.2.1,ok.2.2.2.2⟩ (by exact hc) hrun
 refine kq ?_
 have p2:=p1.sett (rt ++ s'.way)
 have hway : s'.way.length <= 4:=io 4 _ ok1.2.1 fun x hx=>(ok1.1 x hx).2
 refine ⟨qLo H.length iw' nums (.str (cdL p)) s'.here,_,?_,p2.pb,ok1,fun q=>?_⟩
 ·skip
  apply ah
  case h1 =>
   apply ai (v:=.loc Hs.length)
   case h =>
    apply fh (xs:=cdD [])
    case h=>exact ag
    decide
   exact .inl (by k_upd)
  apply ah
  case h1 =>
   apply ai (v:=.d (.str (cdL p)))
   case h=>kd_p
   exact .inl (by k_upd)
  apply ah
  case h1 =>
   apply ip
   exact W
  apply ah
  case h1 =>
   apply c8
   case h =>
    apply ba
    case h0=>kd_p
    case h =>
     apply af (v:=.loc iw') (vs:=[])
     case hp=>exact rfl
     case h=>kd_p
     exact ag
    case ht=>exact dy p1.rt
    case pa=>exact PySem.F.plainAttrs_list
    case slot=>exact PySem.F.slot_list_extend
    case hty=>exact PySem.F.type_list_extend
    case hp=>exact rfl
    case hline=>exact rfl
    case hbase=>exact fun J=>rfl
    case hfew=>exact fun J=>rfl
    have:=Fp (cx:=cx) (B:=true) (n:=n + 3) p1.rt (Ls.loc p1.wy) (by simp [cdD]; omega)
    rw [show cdD rt ++ cdD s'.way = cdD (rt ++ s'.way) by simp [cdD]] at this
    exact this
   exact fun J=>rfl
  exact bj
 ·exact tj (List.forall_mem_cons.mpr ⟨by kd_in,List.forall_mem_cons.mpr ⟨by kd_in,List.forall_mem_cons.mpr ⟨by kd_in,List.forall_mem_cons.mpr ⟨by kd_in,fun J h=>nomatch h⟩⟩⟩⟩)
theorem wx (T : Top cx) {num : Nat -> Int} {nums : D} {tgt : Expr} (ht : ∃ p,tgt = .Name (S "start") p) {s' : WS} {rt' : List Nat} : ∀ (ps : List Nat) (s : WS) (rt : List Nat) (c : Nat) (Hs : Hp),(∀ p ∈ ps,p < 4) -> PB num H s rt Hs -> wOk s c -> c + 256 * ps.length <= 900 -> 0 ∈ rt -> (∀ x ∈ rt,x < 4) -> rt.length + 4 * ps.length <= 1000 -> oo num ps s rt = some (s',rt') ->
  ∃ H',Fo cx true (n + 3) (ak 26) tgt Ea (fun J=>True) ((ps.map fun p=>(.str (cdL p) : D)).map .d) (bLo H.length nums) Hs (.nxt (bLo H.length nums)) H' /\ PB num H s' rt' H'
 | [],s,rt,c,Hs,_,h,_,_,_,_,_,e=>by cases e; exact ⟨Hs,.nil trivial,h⟩
 | p :: ps,s,rt,c,Hs,hp,h,ok,hc,h0,hr4,hrl,e=>by
  refine al fun Gq kq=>?_
  obtain ⟨tp,rfl⟩:=ht
  obtain ⟨s1,hrun,e⟩:=Option.bind_eq_some_iff.mp e
  refine kq ?_
  rw [List.length_cons] at hc hrl
  refine al fun Gq kq=>?_
  obtain ⟨lo1,H1,x1,p1,ok1,c1⟩:=M9 (cx:=cx) (n:=n) (nums:=nums) T (hp p (.head _)) h ok (by omega) h0 hr4 (by exact Nat.le_of_add_right_le hrl) hrun
  have hway : s1.way.length <= 4:=io 4 _ ok1.2.1 fun x hx=>(ok1.1 x hx).2
  obtain ⟨H',W,p2⟩:=wx T ⟨tp,rfl⟩ ps s1 (rt ++ s1.way) (c + 256) H1 (fun q hq=>hp q (.tail _ hq)) p1 ok1 (by omega) (List.mem_append.mpr (.inl h0)) (fun x hx=>(List.mem_append.mp hx).elim (hr4 x) fun h=>(ok1.1 x h).2) (by rw [List.length_append]; omega) e
  refine kq ?_
  exact ⟨H',.step trivial (bw (by k_upd)) x1 (c1 _) W,p2⟩
noncomputable def WS.zero : WS:=⟨fun J=>1,[],[],0⟩
noncomputable def WS.ret (num : Nat -> Int) (s : WS) : D:=.tuple [.list [.list (bh num 0 (s.cnt 0)),.list (bh num 1 (s.cnt 1)),.list (bh num 2 (s.cnt 2)),.list [.none]],.list (s.rg.map dg)]
noncomputable def yn (num : Nat -> Int) (s : WS) (B l : Nat) : List D:=if l = B + 1 then bh num 0 (s.cnt 0) else if l = B + 2 then bh num 1 (s.cnt 1) else bh num 2 (s.cnt 2)
theorem Jl : nf (S "dcb") = [3,2,1].map fun p=>(.str (cdL p) : D):=by k_upd
theorem yx (T : Top cx) {num : Nat -> Int} {s' : WS} {rt' : List Nat} (hrun : oo num [3,2,1] WS.zero [0] = some (s',rt')) :
  ∃ H',Ex cx true (n + 3) (ak 26) (ar 26) [(S "numbers",.d (nmD num))] H (.ret (.d (s'.ret num))) H' /\ ∃ K,H' = H ++ K:=by
 let K4 : Hp:=[.lsl [H.length + 1,H.length + 2,H.length + 3],.lst (bh num 0 1),.lst (bh num 1 1),.lst (bh num 2 1)]
 have pb : PB num H WS.zero [0] (H ++ ((K4 ++ [O.lst []]) ++ [O.lst (cdD [0])])):=by
  refine ⟨⟨_,rfl⟩,bz (i:=0),fun k hk=>?_,bz,bz⟩
  rw [bz]
  rcases bx hk with rfl | rfl | rfl <;> rfl
 refine al fun Gq kq=>?_
 obtain ⟨H',W,p⟩:=wx (cx:=cx) (n:=n) (nums:=nmD num) T (tgt:=(match nth 3 (ar 26) with | .For t _ _ _ _=>t | _=>.Constant .none 0 ⟨0,0,0,0⟩)) ⟨_,rfl⟩ [3,2,1] WS.zero [0] 1 _ (by decide) pb ⟨(fun J h=>nomatch h),.nil,by decide,fun J J=>⟨Nat.le_refl _,Nat.le_refl _⟩,by decide⟩ (by decide) (.head _) (by decide) (by decide) hrun
 obtain ⟨K,rfl⟩:=p.pre
 refine kq ?_
 have hlen : H.length + 5 < (H ++ K).length:=aq p.rt
 have hg4 : ((l7 [H.length + 1,H.length + 2,H.length + 3] (H ++ K)).set H.length .dead)[H.length + 4]? = some (.lst (s'.rg.map dg)):=aw (by rw [Ew (by simp)]; exact p.rg) (by omega)
 have hk : ∀ (ls : List Nat) (Hx : Hp),(∃ K,Hx = H ++ K) -> (∀ l ∈ ls,H.length <= l) -> ∃ K,l7 ls Hx = H ++ K:=by
  intro ls
  induction ls with
  | nil=>intro Hx h _; exact h
  | cons l ls ih=>intro Hx h hl; exact ih _ (jg h (hl l (.head _))) fun x hx=>hl x (.tail _ hx)
 refine ⟨((l7 [H.length + 1,H.length + 2,H.length + 3] (H ++ K)).set H.length .dead).set (H.length + 4) .dead,?ex,jg (jg (hk _ _ ⟨K,rfl⟩ (by simp)) (Nat.le_refl _)) (by exact Nat.le_add_right _ _)⟩
 case ex =>
  rw [show ar 26 = nth 0 (ar 26) :: (ar 26).drop 1 from rfl]
  apply ah (lo1:=[(S "due",.loc H.length),(S "numbers",.d (nmD num))]) (H1:=H ++ K4)
  case h1=>exact ld_w T
  apply ah
  case h1 =>
   apply ai (v:=.loc (H.length + 4))
   case h=>exact dq (xs:=[]) (K:=K4) ag (by decide)
   exact .inl (by k_upd)
  apply ah
  case h1 =>
   apply ai (v:=.loc (H.length + 5))
   case h =>
    apply dq (xs:=cdD [0]) (K:=K4 ++ [O.lst []])
    case h =>
     apply af (v:=.d (.str (S "a"))) (vs:=[])
     case hp=>exact rfl
     case h=>kd_p
     exact ag
    decide
   exact .inl (by k_upd)
  apply ah
  case h1 =>
   apply dp (C:=fun J=>True) (xs:=([3,2,1].map fun p=>(.str (cdL p) : D)).map .d)
   case hit =>
    rw [<- Jl]
    exact Eu (x:=S "dcb") (by kd_p) (by decide +kernel) fun J J=>rfl
   exact W
  apply bb
  apply az
  unfold WS.ret
  apply bt (xs:=[.list [.list (bh num 0 (s'.cnt 0)),.list (bh num 1 (s'.cnt 1)),.list (bh num 2 (s'.cnt 2)),.list [.none]],.list (s'.rg.map dg)])
  case hsz=>simp
  apply af (v:=.d (.list [.list (bh num 0 (s'.cnt 0)),.list (bh num 1 (s'.cnt 1)),.list (bh num 2 (s'.cnt 2)),.list [.none]])) (vs:=[.d (.list (s'.rg.map dg))]) (H1:=(l7 [H.length + 1,H.length + 2,H.length + 3] (H ++ K)).set H.length .dead)
  case hp=>rfl
  case h =>
   rw [show (PyData.list [.list (bh num 0 (s'.cnt 0)),.list (bh num 1 (s'.cnt 1)),.list (bh num 2 (s'.cnt 2)),.list [.none]]) = .list (([H.length + 1,H.length + 2,H.length + 3].map fun l=>PyData.list (yn num s' H.length l)) ++ [.list [.none]]) by simp [yn]]
   apply an (x:=.d (.list ([H.length + 1,H.length + 2,H.length + 3].map fun l=>PyData.list (yn num s' H.length l)))) (y:=.d (.list [.list [.none]]))
   case h1 =>
    refine Ev.frzLL (i:=H.length) (f:=yn num s' H.length) (by kd_p) p.due (by simp) (fun l hl=>?_)
    simp only [List.mem_cons,List.not_mem_nil,or_false] at hl
    rcases hl with rfl | rfl | rfl
    ·have:=p.pl 0 (by decide); simpa [yn] using this
    ·have:=p.pl 1 (by decide); simpa [yn] using this
    ·have:=p.pl 2 (by decide); simpa [yn] using this
   case h2 =>
    apply cn (xs:=[.list [.none]])
    case h =>
     apply af (v:=.d (.list [.none])) (vs:=[])
     case hp=>exact rfl
     case h =>
      apply cn (xs:=[.none])
      case h =>
       apply af (v:=.d .none) (vs:=[])
       case hp=>exact rfl
       case h=>kd_p
       exact ag
      simp
     exact ag
    simp
   exact ru .d .d (by simp)
  apply af (v:=.d (.list (s'.rg.map dg))) (vs:=[])
  case hp=>rfl
  case h=>exact Ev.frzL (i:=H.length + 4) (by kd_p) hg4
  exact ag
theorem Dd (T : Top cx) {num : Nat -> Int} {s' : WS} {rt' : List Nat} (hrun : oo num [3,2,1] WS.zero [0] = some (s',rt')) (hc : Clo H H.length) : OpV cx true (n + 4) (fun rvs=>call (.ref 290) rvs []) [.d (nmD num)] H (.d (s'.ret num)) H:=by
 refine al fun Gq kq=>?_
 obtain ⟨H',h,K,rfl⟩:=yx (cx:=cx) (n:=n) (H:=H) T hrun
 refine kq ?_
 have h1:=(c5 (vs:=[.d (nmD num)]) T.f290 rfl (by k_upd) h).take (m:=H.length) (Nat.le_refl _) (hc.apps (Nat.le_refl _)) trivial
 rwa [fo] at h1
end
section
variable {cx : Cx}
theorem wl (elt target iter t0 i0 : Expr) (ifs f0 : List Expr) (scope : Scope) (pos : Pos) (it acc : Value) (env : Env) :
  compTurn (.ListComp elt [⟨t0,i0,f0,0⟩,⟨target,iter,ifs,0⟩] scope pos) 1 it acc env = (do
   standAt iter.pos
   match <- pyNext it with
   | none=>pure (.done .next)
   | some v =>
    letOwnedTupleGo target it v
    assign target env v
    let mut ok:=true
    for c in ifs do
     if ok then ok <- isTrue c env (eval c env)
    if ok then
     (do let _ <- call (.builtin "list.append") [acc,<- eval elt env])
    again (.compLoop (.ListComp elt [⟨t0,i0,f0,0⟩,⟨target,iter,ifs,0⟩] scope pos) 1 it acc env)):=by rfl
theorem Bp {A : Around} {R : Result -> Shared -> Prop} {s : Shared} {elt target iter t0 i0 : Expr} {ifs f0 : List Expr} {scope : Scope} {pos : Pos} {it acc : Value} {env : Env} (I : Nat -> Shared -> Prop)
  (turn : ∀ n s,I n s -> wpAny (M cx) A (pyNext it) (fun r s₁=>match r with
   | none=>R (.ok .next) s₁
   | some v=>wpAny (M cx) A (letOwnedTupleGo target it v) (fun J s₁'=>wpAny (M cx) A (assign target env v) (fun J s₂=>wpAny (M cx) A (p9 ifs env) (fun ok s₃ =>
      if ok = true then wpAny (M cx) A (eval elt env) (fun x s₄=>wpAny (M cx) A (call (.builtin "list.append") [acc,x]) (fun J s₅=>∃ m,m < n /\ I m s₅) No s₄) No s₃
      else ∃ m,m < n /\ I m s₃) No s₂) No s₁') No s₁) No s)
  (n : Nat) (h : I n s) : codeAny (M cx) A (.compLoop (.ListComp elt [⟨t0,i0,f0,0⟩,⟨target,iter,ifs,0⟩] scope pos) 1 it acc env) R s:=by
 refine codeAny_loop rfl I (fun n s hI=>?_) n h
 show wpAny _ A ((compTurn (.ListComp elt [⟨t0,i0,f0,0⟩,⟨target,iter,ifs,0⟩] scope pos) 1 it acc env).onRaise (fun x=>do noteFrame x env; theTreesLotGoes x)) _ _ s
 refine wpAny_noted ?_
 rw [wl]
 refine wpAny_bind (wpAny_standAt (wpAny_bind (wpAny_mono (turn n s hI) (fun r s₁ h₁=>?_) fun J J h'=>h'.elim)))
 cases r with
 | none=>exact wpAny_pure h₁
 | some v =>
  refine wpAny_bind (wpAny_mono h₁ (fun J s₁' h₁'=>?_) fun J J h'=>h'.elim)
  refine wpAny_bind (wpAny_mono h₁' (fun J s₂ h₂=>wpAny_bind (wpAny_mono h₂ (fun ok s₃ h₃=>?_) fun J J h'=>h'.elim)) fun J J h'=>h'.elim)
  cases ok with
  | false=>exact wpAny_pure ⟨rfl,h₃⟩
  | true =>
   exact wpAny_bind (wpAny_bind (wpAny_mono h₃ (fun x s₄ h₄=>wpAny_bind (wpAny_mono h₄ (fun J s₅ h₅=>wpAny_pure (wpAny_pure ⟨rfl,h₅⟩)) fun J J h'=>h'.elim)) fun J J h'=>h'.elim))
theorem u3 (elt target iter t0 i0 : Expr) (ifs : List Expr) (scope : Scope) (pos : Pos) (it acc : Value) (env : Env) :
  compTurn (.ListComp elt [⟨t0,i0,[],0⟩,⟨target,iter,ifs,0⟩] scope pos) 0 it acc env = (do
   standAt i0.pos
   match <- pyNext it with
   | none=>pure (.done .next)
   | some v =>
    letOwnedTupleGo t0 it v
    assign t0 env v
    let x <- eval iter env
    standAt iter.pos
    let x <- foldedSetIterable iter env x
    let _ <- runOwn (.compStart (.ListComp elt [⟨t0,i0,[],0⟩,⟨target,iter,ifs,0⟩] scope pos) 1 (<- holding [x] (pyIter x)) acc env) env
    again (.compLoop (.ListComp elt [⟨t0,i0,[],0⟩,⟨target,iter,ifs,0⟩] scope pos) 0 it acc env)):=by rfl
theorem M3 {A : Around} {elt t0 i0 target iter : Expr} {f0 ifs : List Expr} {scope : Scope} {pos : Pos} {it acc : Value} {env : Env} {R : Result -> Shared -> Prop} {s : Shared}
  (h0 : codeAny (M cx) A (.compLoop (.ListComp elt [⟨t0,i0,f0,0⟩,⟨target,iter,ifs,0⟩] scope pos) 1 it acc env) R s)
  (h : wpAny (M cx) A (pyIter it) (fun it' s'=>codeAny (M cx) A (.compLoop (.ListComp elt [⟨t0,i0,f0,0⟩,⟨target,iter,ifs,0⟩] scope pos) 1 it' acc env) R s') No s) :
  codeAny (M cx) A (.compStart (.ListComp elt [⟨t0,i0,f0,0⟩,⟨target,iter,ifs,0⟩] scope pos) 1 it acc env) R s:=by
 refine codeAny_of_tree ?_
 show wpAny _ _ ((compStart (.ListComp elt [⟨t0,i0,f0,0⟩,⟨target,iter,ifs,0⟩] scope pos) 1 it acc env).onRaise (fun x=>do noteFrame x env; standAt theWindowsPlace)) _ _ s
 refine wpAny_notedAt ?_
 unfold compStart
 show wpAny _ _ (ask >>= _) _ _ s
 refine wpAny_bind (wpAny_askSetting (wpAny_ite ?_))
 split
 ·first
   | exact wpAny_bind (wpAny_pure (wpAny_pure (And.intro rfl h0)))
   | exact wpAny_pure (And.intro rfl h0)
 ·refine wpAny_bind (wpAny_rule ?_)
  show wpAny _ _ (standAt iter.pos >>= _) _ _ s
  exact wpAny_bind (wpAny_standAt (wpAny_bind (wpAny_mono h (fun it' s' h'=>wpAny_pure (And.intro rfl h')) nn)))
inductive Cg (cx : Cx) (n : Nat) (sc : Scope) (t0 iter tgt : Expr) (ifs : List Expr) (elt : Expr) (acc : Nat) (lo : Lo) : List V -> Hp -> Hp -> Prop
 | nil {H : Hp} : Cg cx n sc t0 iter tgt ifs elt acc lo [] H H
 | step {x : V} {xs : List V} {lo1 : Lo} {H : Hp} {ys : List V} {C : Hp -> Prop} {H1 H' : Hp} : As cx false sc t0 x lo lo1 -> jx cx true n sc iter tgt lo1 H ys C H -> Cf cx n sc tgt ifs elt C acc ys lo1 H H1 -> Cg cx n sc t0 iter tgt ifs elt acc lo xs H1 H' -> Cg cx n sc t0 iter tgt ifs elt acc lo (x :: xs) H H'
theorem FrOk.rebase {env : Env} {lo lo' : Lo} {ρ ρ' : Rh} {H : Hp} {X : List Addr} {h h' : Heap} (I : Inv cx ρ H X h) (F1 : FrOk cx env lo ρ X h) (F2 : FrOk cx env lo' ρ' X h') (x : Ext (env.locals :: cx.tabs) ρ h ρ' h') (hn : ∀ p ∈ lo,env.kindOf p.1 ≠ some .local) : FrOk cx env lo ρ' X h':=by
 have hE : ∀ a ∈ env.locals :: cx.tabs,a ∈ X:=fun a ha=>(List.mem_cons.mp ha).elim (fun e=>e ▸ F1.lx) (I.xt a)
 refine ⟨F1.kind,F1.gl,F1.bu,F1.lx,F1.lt,F2.ce,F1.ci,F1.cs,?_,fun y v e k=>?_⟩
 ·refine al fun Gq kq=>?_
  obtain ⟨m,h1,_⟩:=F2.ns
  refine kq ?_
  exact ⟨m,h1,fun y v e k=>absurd k (hn (y,v) (bf e))⟩
 ·refine al fun Gq kq=>?_
  obtain ⟨c,rv,e1,⟨o,ho,hd⟩,e2⟩:=F1.cl y v e k
  obtain ⟨h1,h2,h3,_⟩:=F1.ce y c e1
  refine kq ?_
  refine ⟨c,rv,e1,⟨o,x.pres c o ho (fun q=>I.dx c q h1) (fun q=>?_),hd⟩,x.v hE e2⟩
  rcases List.mem_cons.mp q with q | q
  ·exact h3 q
  ·exact h2 q
theorem Cg.inv0 {n : Nat} {sc : Scope} {t0 iter tgt elt : Expr} {ifs : List Expr} {acc : Nat} {lo : Lo} {H H' : Hp} (W : Cg cx n sc t0 iter tgt ifs elt acc lo [] H H') : H = H':=by cases W; rfl
theorem Cg.inv1 {n : Nat} {sc : Scope} {t0 iter tgt elt : Expr} {ifs : List Expr} {acc : Nat} {lo : Lo} {x : V} {xs : List V} {H H' : Hp} (W : Cg cx n sc t0 iter tgt ifs elt acc lo (x :: xs) H H') : ∃ lo1 ys C H1,As cx false sc t0 x lo lo1 /\ jx cx true n sc iter tgt lo1 H ys C H /\ Cf cx n sc tgt ifs elt C acc ys lo1 H H1 /\ Cg cx n sc t0 iter tgt ifs elt acc lo xs H1 H':=by
 cases W with
 | step ha hit hcf W=>exact ⟨_,_,_,_,ha,hit,hcf,W⟩
structure CgI (cx : Cx) (n : Nat) (sc : Scope) (t0 iter tgt : Expr) (ifs : List Expr) (elt : Expr) (acc : Nat) (lo : Lo) (xs : List V) (H' : Hp) (cenv : Env) (Y : List Addr) (Ia : Addr) (accv : Value) (St : Nat -> Rh -> Heap -> Prop) (h₀ : Heap) (ρ₀ : Rh) (s₀ s' : Shared) (j : Nat) (H1 : Hp) (ρ1 : Rh) : Prop where
 hj : j <= xs.length
 W : Cg cx n sc t0 iter tgt ifs elt acc lo (xs.drop j) H1 H'
 fin : Fin s₀ s'
 ext : Ext (cenv.locals :: cx.tabs) ρ₀ h₀ ρ1 s'.heap
 inv : Inv cx ρ1 H1 (Ia :: Y) s'.heap
 fr : FrOk cx cenv lo ρ1 (Ia :: Y) s'.heap
 st : St j ρ1 s'.heap
 v : VOk cx (zH s'.heap ρ1 (Ia :: Y)) ρ1 accv (.loc acc)
noncomputable def CgK (cx : Cx) (n : Nat) (sc : Scope) (t0 iter tgt : Expr) (ifs : List Expr) (elt : Expr) (acc : Nat) (lo : Lo) (xs : List V) (H' : Hp) (cenv : Env) (Y : List Addr) (Ia : Addr) (accv : Value) (St : Nat -> Rh -> Heap -> Prop) (h₀ : Heap) (ρ₀ : Rh) (s₀ : Shared) (k : Nat) (s' : Shared) : Prop :=
 ∃ j,k = xs.length - j /\ ∃ H1 ρ1,CgI cx n sc t0 iter tgt ifs elt acc lo xs H' cenv Y Ia accv St h₀ ρ₀ s₀ s' j H1 ρ1
noncomputable def AgR (cx : Cx) (A : Around) (R : Result -> Shared -> Prop) (c : Code) (I : Nat -> Shared -> Prop) (k : Nat) (r : Result) (s' : Shared) : Prop:=match r with
 | .ok _=>wpAny (M cx) A (again c) (fun fin s'=>match fin with | .done f=>R (.ok f) s' | .again c'=>c' = c /\ ∃ m,m < k /\ I m s') No s'
 | .error _=>False
theorem yi {A : Around} {n : Nat} {sc : Scope} {t0 i0 tgt iter elt : Expr} {ifs : List Expr} {scope : Scope} {pos : Pos} {acc : Nat} {xs : List V} {lo : Lo} {H H' : Hp} {cenv : Env} {Y : List Addr} {ρ : Rh} {s : Shared} {Ia : Addr} {accv : Value}
  {St : Nat -> Rh -> Heap -> Prop} {R : Result -> Shared -> Prop} {h₀ : Heap} {ρ₀ : Rh} {s₀ : Shared} (hr : Rm true n A) (hs : cenv.scope = sc) (W : Cg cx n sc t0 iter tgt ifs elt acc lo xs H H') (T : It cx A t0 Ia Y (fun J=>True) xs St)
  (I : Inv cx ρ H (Ia :: Y) s.heap) (F : FrOk cx cenv lo ρ (Ia :: Y) s.heap) (st : St 0 ρ s.heap) (q : VOk cx (zH s.heap ρ (Ia :: Y)) ρ accv (.loc acc)) (hIY : Ia ∉ Y) (hown : ∀ a ∈ own cenv,a ∈ Y) (htY : ∀ a ∈ cx.tabs,a ∈ Y)
  (fin : Fin s₀ s) (x₀ : Ext (cenv.locals :: cx.tabs) ρ₀ h₀ ρ s.heap) (hI0 : h₀.get? Ia = none) (hn : ∀ p ∈ lo,cenv.kindOf p.1 ≠ some .local) (hfs : ∀ x,foldedSetIterable iter cenv x = pure x)
  (hR : ∀ ρ' lo' s',Fin s₀ s' -> Ext (cenv.locals :: cx.tabs) ρ₀ h₀ ρ' s'.heap -> Inv cx ρ' H' Y s'.heap -> FrOk cx cenv lo' ρ' Y s'.heap -> VOk cx (zH s'.heap ρ' Y) ρ' accv (.loc acc) -> R (.ok .next) s')
  (Fy : ∃ lo0 ρ0 h0,FrOk cx cenv lo0 ρ0 Y h0) :
  codeAny (M cx) A (.compLoop (.ListComp elt [⟨t0,i0,[],0⟩,⟨tgt,iter,ifs,0⟩] scope pos) 0 (.ref Ia) accv cenv) R s:=by
 have hIo : Ia ∉ own cenv:=fun q=>hIY (hown _ q)
 have hIt : Ia ∉ cx.tabs:=fun q=>hIY (htY _ q)
 have hE : ∀ a ∈ aE cx false cenv,a ∈ Y:=fun a ha=>by
  rcases List.mem_cons.mp ha with h | h
  ·exact hown _ (h ▸ .head _)
  ·exact htY _ h
 have hIE : Ia ∉ aE cx false cenv:=fun q=>hIY (hE _ q)
 have hTX : ∀ a ∈ Y,a ∈ Ia :: Y:=fun J h=>.tail _ h
 have tA : ∀ a ∈ cx.tabs,a ∈ aE cx false cenv:=fun J h=>.tail _ h
 refine codeAny_loop rfl (CgK cx n sc t0 iter tgt ifs elt acc lo xs H' cenv Y Ia accv St h₀ ρ₀ s₀) (fun k s3 hI=>?_) _ ⟨0,rfl,H,ρ,Nat.zero_le _,W,fin,x₀,I,F,st,q⟩
 refine al fun Gq kq=>?_
 obtain ⟨j,hk,H3,ρ3,hj,W3,fin3,x3,I3,F3,st3,q3⟩:=hI
 refine kq ?_
 show wpAny _ A ((compTurn (.ListComp elt [⟨t0,i0,[],0⟩,⟨tgt,iter,ifs,0⟩] scope pos) 0 (.ref Ia) accv cenv).onRaise (fun x=>do noteFrame x cenv; theTreesLotGoes x)) _ _ s3
 refine wpAny_noted ?_
 rw [u3]
 refine wpAny_bind (wpAny_standAt (wpAny_bind ?_))
 rcases Nat.lt_or_ge j xs.length with hlt | hge
 ·refine al fun Gq kq=>?_
  obtain ⟨x,hx,hd⟩:=u4 hlt
  obtain ⟨lo1,ys,C,H4,ha,hit,hcf,W4⟩:=Cg.inv1 (hd ▸ W3)
  refine kq ?_
  refine wpAny_mono (T.item j x ρ3 H3 s3 hx st3 I3 trivial) (fun rr s4 qq=>qq.elim fun rv qq=>qq.1 ▸ wpAny_bind (wpAny_mono qq.2 (fun J s5 qq=>?_) nn)) nn
  refine al fun Gq kq=>?_
  obtain ⟨fin5,st5,but5,ex5,v5⟩:=qq
  refine kq ?_
  have I5:=I3.touch but5 (.head _) hIt ex5
  have F5:=F3.touch but5 (.head _) hIo
  have x5:=x3.touch but5 hI0
  have q5 : VOk cx (zH s5.heap ρ3 (Ia :: Y)) ρ3 accv (.loc acc):=VOk.move (du but5 (.head _)) (Nat.le_refl _) (fun J J J e=>e) q3
  refine wpAny_bind (wpAny_mono (ha.go A cenv (Ia :: Y) ρ3 H3 s5 rv hs (hr.1 rfl) I5 F5 v5) (fun J s6 q6=>?_) nn)
  refine wpAny_bind (wpAny_mono (hit.go A cenv (Ia :: Y) ρ3 s6 hs hr q6.1.inv q6.2) (fun xv s7 qq=>?_) nn)
  refine wpAny_bind (wpAny_standAt ?_)
  rw [hfs]
  refine wpAny_bind (wpAny_pure (wpAny_bind (wpAny_holding (wpAny_mono qq (fun it s8 qq=>?_) nn))))
  refine al fun Gq kq=>?_
  obtain ⟨I2,ρ8,St2,hit2,fin8,hnone,x8,I8,T2,st8,_⟩:=qq
  refine kq ?_
  rw [hit2]
  replace T2:=T2 (Ia :: Y) (fun J h=>h) q6.1.inv.xt
  have hIX : I2 ∉ Ia :: Y:=fun hb=>by obtain ⟨o,e⟩:=q6.1.inv.xe _ hb; rw [hnone] at e; cases e
  have hz8:=ve x8 q6.1.inv.xt hnone
  have F8 : FrOk cx cenv lo1 ρ8 (I2 :: Ia :: Y) s8.heap:=FrOk.mv x8 q6.1.inv q6.2 (fun J h=>.tail _ h) hz8
  have q8 : VOk cx (zH s8.heap ρ8 (I2 :: Ia :: Y)) ρ8 accv (.loc acc):=VOk.move hz8 x8.len x8.idx (q6.1.ext.v (X:=Ia :: Y) (fun a ha=>.tail _ (hE a ha)) q5)
  have loop : codeAny (M cx) A (.compLoop (.ListComp elt [⟨t0,i0,[],0⟩,⟨tgt,iter,ifs,0⟩] scope pos) 1 (.ref I2) accv cenv) (AgR cx A R (.compLoop (.ListComp elt [⟨t0,i0,[],0⟩,⟨tgt,iter,ifs,0⟩] scope pos) 0 (.ref Ia) accv cenv) (CgK cx n sc t0 iter tgt ifs elt acc lo xs H' cenv Y Ia accv St h₀ ρ₀ s₀) k) s8:=by
   refine qo (h₀:=s5.heap) (ρ₀:=ρ3) (s₀:=s5) (fun R I turn n s h=>Bp I turn n h) hr hs hcf T2 I8 F8 st8 q8 hIX (fun a ha=>.tail _ (hown a ha)) q6.1.inv.xt (q6.1.fin.trans fin8) (q6.1.ext.trans (x8.mono tA)) (f9 q6.1.ext hnone) (fun ρ9 lo9 s9 fin9 x9 I9 F9 q9=>?_) ⟨_,_,_,q6.2⟩
   exact wpAny_pure ⟨rfl,_,hk ▸ te hlt,j + 1,rfl,_,ρ9,hlt,W4,(fin3.trans fin5).trans fin9,x5.trans x9,I9,F5.rebase I5 F9 x9 hn,T.frame (j + 1) ρ3 s5.heap ρ9 _ s9.heap _ st5 hE hIE (fun q=>I5.dx _ q (.head _)) x9 I9 trivial,q9⟩
  refine wpAny_bind (wpAny_runOwn (codeAny_mono (M3 loop (T2.self 0 ρ8 s8 _ st8 loop)) fun r s9 h9=>?_))
  cases r with
  | error e=>exact h9.elim
  | ok f=>exact ie h9
 ·have hj' : xs.length = j:=Nat.le_antisymm hge hj
  have hdn : xs.drop j = []:=by rw [<- hj',List.drop_length]
  have h2:=Cg.inv0 (hdn ▸ W3)
  refine wpAny_mono (T.done ρ3 H3 s3 (hj' ▸ st3) I3 trivial) (fun rr s4 qq=>?_) nn
  refine al fun Gq kq=>?_
  obtain ⟨hrr,fin4,but4⟩:=qq
  refine kq ?_
  rw [hrr]
  refine al fun Gq kq=>?_
  obtain ⟨lo0,ρ0,h0,Fy⟩:=Fy
  refine kq ?_
  exact wpAny_pure (hR ρ3 _ s4 (fin3.trans fin4) (x3.touch but4 hI0) (h2 ▸ I3.drop but4 hIY htY) (F3.drop Fy but4 hIo) (VOk.move (ee but4) (Nat.le_refl _) (fun J J J e=>e) q3))
theorem Bc {A : Around} {n : Nat} {sc : Scope} {i0 t0 iter tgt elt : Expr} {ifs : List Expr} {scope : Scope} {pos p0 : Pos} {xs : List V} {lo : Lo} {H H1 H' : Hp} {env : Env} {X : List Addr} {ρ : Rh} {s : Shared}
  {use : Option (Value -> Sem Unit)} {Q : Value -> Shared -> Prop}
  (S : nv scope) (hfi : md scope sc lo) (hit : jx cx true n sc i0 t0 lo H xs (fun J=>True) H1) (W : Cg cx n (mr scope sc) t0 iter tgt ifs elt H1.length (ny scope lo) xs (H1 ++ [.lst []]) H') (hfs2 : ∀ env x,foldedSetIterable iter env x = pure x)
  (hs : env.scope = sc) (hr : Rm true n A) (I : Inv cx ρ H X s.heap) (F : FrOk cx env lo ρ X s.heap)
  (hQ : ∀ ρ' s' m Ca acc,Fin s s' -> s.heap.get? Ca = none -> Ca ∉ X -> Ext cx.tabs ρ s.heap ρ' s'.heap -> Inv cx ρ' H' (Ca :: X) s'.heap -> FrOk cx env lo ρ' (Ca :: X) s'.heap -> s'.heap.Ns Ca m -> VOk cx (zH s'.heap ρ' (Ca :: X)) ρ' acc (.loc H1.length) ->
   compPost (M cx) A No use Q acc Ca (.ok .next) s')
  (hfs : ∀ x,foldedSetIterable i0 env x = pure x) :
  wpAny (M cx) A (comprehension (.ListComp elt [⟨t0,i0,[],0⟩,⟨tgt,iter,ifs,0⟩] scope pos) scope env p0 (newList []) false (eval i0 env) use) Q No s :=
 wn S hfi hit trivial (fun hsc T I F st q h1 h2 h3 f x h0 hn hR Fy=>yi hr hsc W T I F st q h1 h2 h3 f x h0 hn (hfs2 _) hR Fy) hs hr I F hQ hfs
theorem pc {n : Nat} {sc : Scope} {i0 t0 iter tgt elt : Expr} {ifs : List Expr} {scope : Scope} {pos p spos : Pos} {y : Str} {xs : List V} {lo : Lo} {H H1 H' : Hp}
  (S : nv scope) (hfi : md scope sc lo) (hit : jx cx true n sc i0 t0 lo H xs (fun J=>True) H1) (W : Cg cx n (mr scope sc) t0 iter tgt ifs elt H1.length (ny scope lo) xs (H1 ++ [.lst []]) H') (hfs2 : ∀ env x,foldedSetIterable iter env x = pure x)
  (hk : sc.names.lookup y = some .local) (hsw : ∀ env,env.scope = sc -> swapsWith (.ListComp elt [⟨t0,i0,[],0⟩,⟨tgt,iter,ifs,0⟩] scope pos) (some (.Name y p)) spos.line env = pure true)
  (hfs : ∀ env x,foldedSetIterable i0 env x = pure x:=by intro _ _; rfl) : Ex1 cx true n sc (.Assign [.Name y p] (.ListComp elt [⟨t0,i0,[],0⟩,⟨tgt,iter,ifs,0⟩] scope pos) spos) lo H (.nxt ((y,.loc H1.length) :: lo)) H':=.mk fun A env X ρ s hs hr I F=>by
 rw [exec_Assign_Name_used _ _ _ _ (hsw env hs)]
 refine wpAny_bind (wpAny_standAt (wpAny_bind ?_))
 show wpAny _ A (do let _ <- comprehension (.ListComp elt [⟨t0,i0,[],0⟩,⟨tgt,iter,ifs,0⟩] scope pos) scope env _ (newList []) false (eval i0 env) (some (assign (.Name y p) env))) _ _ s
 refine wpAny_bind (wpAny_mono (Bc (use:=some (assign (.Name y p) env)) (Q:=fun J s'=>kd cx env X ρ s (.nxt ((y,.loc H1.length) :: lo)) H' .next s') S hfi hit W hfs2 hs hr I F (fun ρ' s' m Ca acc fin hn hX x I' F' hm q=>?_) (hfs env)) (fun J s' hq=>wpAny_pure (wpAny_pure hq)) fun J J e=>e)
 have hLC : env.locals ≠ Ca:=fun e=>hX (e ▸ F.lx)
 refine wpAny_mono (PyProof.Rows.assign_Name (p8 I' F' (by rw [ao,hs]; exact hk) q)) (fun J s2 q2=>?_) fun J J x=>x
 obtain ⟨a2,F2⟩:=q2
 have hm2 : s2.heap.Ns Ca m:=Heap.Ns.at' hm fun o e=>a2.ext.pres Ca o e (fun q=>I'.dx _ q (.head _)) fun q=>by
  rcases List.mem_cons.mp q with q | q
  ·exact hLC q.symm
  ·exact hX (I.xt _ q)
 refine ⟨m,hm2,fun h' hs'=>⟨ρ',⟨fin.trans (a2.fin.trans ⟨_,_,rfl⟩),a2.inv.drop hs'.extBut hX I.xt,?_⟩,rfl,F2.drop F hs'.extBut ?_⟩⟩
 ·refine Ext.touch ?_ hs'.extBut hn
  exact (x.mono tE).trans (a2.ext.mono (v8 (c:=false)))
 ·intro q
  rcases fe.mp q with q | ⟨z,q⟩
  ·exact hLC q.symm
  ·exact hX (F.ce z Ca q).1
end
section
variable {cx : Cx} {n : Nat} {b : Bool} {H H1 H2 : Hp} {sc : Scope} {lo lo1 : Lo}
noncomputable abbrev Ar:=(Nat × Nat × Nat) × Nat
noncomputable def arD (e : Ar) : D:=.tuple [fg e.1.1 e.1.2.1 e.1.2.2,.int (e.2 : Nat)]
noncomputable def into (t : Nat) (R : List (List (Nat × Nat × Nat))) : List Ar:=R.flatMap fun r=>(r.filter fun a=>a.2.2 == t).map fun a=>(a,r.length)
noncomputable def fk (l : List Ar) : Sts:=(((l.filter fun e=>e.2 == 1).length : Int),(l.length : Int),(l.map fun e=>(e.1.2.1 : Int)).sum,(l.map fun e=>(e.2 : Int)).sum,l.foldl (fun cs e=>bump cs (ck e.1.1)) [])
noncomputable def i8 (R : List (List (Nat × Nat × Nat))) (bk : List (Str × Sts)) (t : Nat) : List (Str × Sts):=if (into t R).isEmpty then bk else ic bk (cdL t) (fk (into t R))
noncomputable abbrev mx (B : Nat) (R : List (List (Nat × Nat × Nat))) : Lo:=[(S "book",.loc B),(S "rings",.d (.list (R.map dg)))]
noncomputable def okR (R : List (List (Nat × Nat × Nat))) : Prop:=(∀ r ∈ R,∀ a ∈ r,a.1 < 3 /\ 1 <= a.2.2 /\ a.2.2 < 4) /\ (R.flatMap fun r=>r).length <= 1000
theorem w8 {t : Nat} : ∀ {R : List (List (Nat × Nat × Nat))},(into t R).length <= (R.flatMap fun r=>r).length
 | []=>Nat.le_refl _
 | r :: R=>by
  unfold into
  rw [List.flatMap_cons,List.flatMap_cons,List.length_append,List.length_append,List.length_map]
  have:=w8 (t:=t) (R:=R)
  unfold into at this
  have:=List.length_filter_le (fun a : Nat × Nat × Nat=>a.2.2 == t) r
  omega
theorem Lg {a t : Nat} (ha : a < 4) (ht : t < 4) : ((cdL a).cps.toList == (cdL t).cps.toList) = (a == t):=by
 rw [y8,Bool.eq_iff_iff,beq_iff_eq,beq_iff_eq]
 exact ⟨my ha ht,fun e=>by rw [e]⟩
noncomputable def Ff : Expr × Expr × Expr × List Expr × Expr:=match nth 0 (gc (nth 1 (ar 28))) with
 | .Assign _ (.ListComp elt [⟨t0,_,_,_⟩,⟨t1,i1,f1,_⟩] _ _) _=>(t0,i1,t1,f1,elt)
 | _=>(.Constant .none 0 ⟨0,0,0,0⟩,.Constant .none 0 ⟨0,0,0,0⟩,.Constant .none 0 ⟨0,0,0,0⟩,[],.Constant .none 0 ⟨0,0,0,0⟩)
theorem zv (T : Top cx) {sc2 : Scope} (hs2 : sc2 = mr (match nth 0 (gc (nth 1 (ar 28))) with | .Assign _ (.ListComp _ _ s _) _=>s | _=>ak 28) (ak 28)) {t : Nat} (ht : t < 4) {lo : Lo} (hlt : lo.lookup (S "target") = some (.d (.str (cdL t)))) (hl1 : lo.lookup (S "ring") = none) (hl2 : lo.lookup (S "arrow") = none) : ∀ (R : List (List (Nat × Nat × Nat))) (ys : List D),(∀ r ∈ R,∀ a ∈ r,a.1 < 3 /\ 1 <= a.2.2 /\ a.2.2 < 4) -> ys.length + (R.flatMap fun r=>r).length <= 2000 ->
  Cg cx n sc2 Ff.1 Ff.2.1 Ff.2.2.1 Ff.2.2.2.1 Ff.2.2.2.2 H.length lo ((R.map dg).map .d) (H ++ [.lst ys]) (H ++ [.lst (ys ++ (into t R).map arD)])
 | [],ys,_,_=>by
  simp only [into,List.flatMap_nil,List.map_nil,List.append_nil]
  exact .nil
 | r :: R,ys,hR,hl=>by
  subst hs2
  rw [List.map_cons,List.map_cons]
  rw [List.flatMap_cons,List.length_append] at hl
  have e : ys ++ (into t (r :: R)).map arD = (ys ++ ((r.filter fun a=>a.2.2 == t).map fun a=>arD (a,r.length))) ++ (into t R).map arD:=by
   unfold into
   rw [List.flatMap_cons,List.map_append,List.map_map,List.append_assoc]
   rfl
  rw [e]
  have ih:=zv T rfl ht hlt hl1 hl2 R (ys ++ ((r.filter fun a=>a.2.2 == t).map fun a=>arD (a,r.length))) (fun r' h=>hR r' (.tail _ h)) (by
   rw [List.length_append,List.length_map]
   have:=List.length_filter_le (fun a : Nat × Nat × Nat=>a.2.2 == t) r
   omega)
  refine Cg.step (bw (by k_upd)) (ys:=(r.map fun a=>fg a.1 a.2.1 a.2.2).map .d) (C:=fun J=>True) ?_ ?_ ih
  ·refine d4 (xs:=r.map fun a=>fg a.1 a.2.1 a.2.2) ?_ ?_
   ·exact br ky (by k_upd)
   ·exact ik
  ·refine me (fun a : Nat × Nat × Nat=>fg a.1 a.2.1 a.2.2) (fun a=>arD (a,r.length)) (fun a=>a.2.2 == t) (fun a=>(S "arrow",.d (fg a.1 a.2.1 a.2.2)) :: (S "ring",.d (dg r)) :: lo) (fun J=>trivial) (fun a=>bw (by k_upd)) (fun a=>cj (by rw [List.lookup_cons,show (S "arrow" == S "ring") = false by k_upd]; exact hl2)) r (fun a ha zs=>?_) (fun a ha J zs=>?_) ys (by omega)
   ·obtain ⟨q1,q2,q3⟩:=hR r (.head _) a ha
    have e2:=Lg q3 ht
    refine nt ?_
    unfold fg
    apply am (c:=(a.2.2 == t))
    case h1 =>
     apply av
     case h1=>kd_p
     case h2=>kd_p
     case ht=>exact ca
     case ho=>exact cp (j:=2) (x:=.str (cdL a.2.2)) (by rfl) (by decide) rfl
     exact fun J J=>⟨_,rfl⟩
    case h2=>exact br (de (by k_upd) (de (by k_upd) hlt)) (by k_upd)
    case ho =>
     rw [<- e2]
     exact r7
    exact rfl
   ·unfold arD
    apply bt (xs:=[fg a.1 a.2.1 a.2.2,.int (r.length : Nat)])
    case h =>
     apply af (v:=.d (fg a.1 a.2.1 a.2.2)) (vs:=[.d (.int (r.length : Nat))])
     case hp=>exact rfl
     case h=>kd_p
     apply af (v:=.d (.int (r.length : Nat))) (vs:=[])
     case hp=>exact rfl
     case h =>
      apply bo
      case hx=>k_upd
      case hg=>kd_adr
      case hd=>k_upd
      case hp=>k_upd
      case h =>
       apply af
       case hp=>exact rfl
       case h=>kd_p
       exact ag
      have:=b8 (cx:=cx) (B:=true) (n:=n) (H:=H ++ [O.lst zs]) (v:=.d (dg r)) (xs:=r.map fun a=>fg a.1 a.2.1 a.2.2) .d (by rw [List.length_map]; omega)
      rw [List.length_map] at this
      exact this
     exact ag
    simp
theorem sv {l : List Ar} : SeqAt.shaped (.list (l.map arD)) = true:=by
 have c : ∀ l : List Ar,PyData.canLayAll0 (l.map arD) = true:=fun l=>by
  induction l with
  | nil=>rfl
  | cons e l ih=>simp [PyData.canLayAll0,arD,fg,PyData.canLay0,ih,yz,Km]
 have d : ∀ l : List Ar,PyData.depthAll (l.map arD) <= 2:=fun l=>by
  induction l with
  | nil=>exact Nat.zero_le _
  | cons e l ih=>simp [PyData.depthAll,arD,fg,PyData.depth]; exact Nat.max_le.mpr ⟨by decide,ih⟩
 unfold SeqAt.shaped
 rw [Bool.and_eq_true,decide_eq_true_eq]
 have:=d l
 exact ⟨c l,by show PyData.depthAll _ + 1 <= 64; exact Nat.lt_of_le_of_lt this (by decide)⟩
theorem z1 {xs : List D} : PyData.eqv (.list xs) (.list []) = xs.isEmpty:=by
 cases xs <;> simp [PyData.eqv,PyData.eqvAll]
noncomputable def ke : List Stmt:=gc (nth 1 (ar 28))
noncomputable abbrev iLo (B : Nat) (RR : List (List (Nat × Nat × Nat))) (t : Nat) (l : List Ar) : Lo:=(S "callers",.loc (B + 2)) :: (S "into",.d (.list (l.map arD))) :: (S "target",.d (.str (cdL t))) :: mx B RR
theorem o7 {elt : Expr} {gens : List Comprehension} {scope : Scope} {p1 p2 : Pos} {t : Str} {line : Nat} {env : Env} (hs : env.scope = sc) (h : (sc.names.lookup t == some .local) = true) (hk : (sc.kind == .function) = true) (hl : (p2.line == p1.line) = true) (hn : (scope.names.any fun (n,k)=>n == t && (k == .local || k == .cell)) = false) : swapsWith (.ListComp elt gens scope p1) (some (.Name t p2)) line env = pure true:=by
 show (pure (env.blockKind == .function && env.kindOf t == some .local && p2.line == p1.line && !(scope.names.any fun (n,k)=>n == t && (k == .local || k == .cell))) : Sem Bool) = pure true
 rw [ao,hs,h,hl,hn]
 have hk' : sc.kind = .function:=by
  cases q : sc.kind <;> rw [q] at hk <;> first | rfl | cases hk
 have : env.blockKind = .function:=by unfold Env.blockKind; rw [hs,hk']; rfl
 rw [this]
 rfl
theorem st1 (T : Top cx) {RR : List (List (Nat × Nat × Nat))} {t : Nat} (ht : t < 4) (hR : okR RR) {o : O} : Ex1 cx true n (ak 28) (nth 0 ke) ((S "target",.d (.str (cdL t))) :: mx H.length RR) (H ++ [o]) (.nxt ((S "into",.d (.list ((into t RR).map arD))) :: (S "target",.d (.str (cdL t))) :: mx H.length RR)) (H ++ [o,.dead]):=by
 refine u9 (lo1:=(S "into",.loc (H ++ [o]).length) :: (S "target",.d (.str (cdL t))) :: mx H.length RR) (H1:=(H ++ [o]) ++ [.lst ((into t RR).map arD)]) ?_ ?_
 ·refine pc (H1:=H ++ [o]) (xs:=(RR.map dg).map .d) ⟨by decide +kernel,rfl,by decide +kernel⟩ (ct (by k_upd)) ?hit ?W (fun J J=>rfl) (by k_upd) (fun env h=>o7 h (by k_upd) (by k_upd) rfl (by k_upd)) (fun J J=>rfl)
  case hit=>exact d4 (xs:=RR.map dg) (by kd_p) ik
  have:=zv (cx:=cx) (n:=n) (H:=H ++ [o]) T rfl (lo:=ny (match nth 0 (gc (nth 1 (ar 28))) with | .Assign _ (.ListComp _ _ s _) _=>s | _=>ak 28) ((S "target",.d (.str (cdL t))) :: mx H.length RR)) ht (by k_upd) (by k_upd) (by k_upd) RR [] hR.1 (by have:=hR.2; rw [List.length_nil]; omega)
  rw [List.nil_append] at this
  exact this
 ·have e : Mine.frz (H ++ [o]).length ((into t RR).map arD) (.loc H.length) = .loc H.length:=if_neg (by rw [List.length_append]; show ¬ H.length = H.length + 1; omega)
  have:=Cnv.frzH (cx:=cx) (k:=(H ++ [o]).length) (x:=S "into") (rest:=(S "target",.d (.str (cdL t))) :: mx H.length RR) (H:=(H ++ [o]) ++ [.lst ((into t RR).map arD)]) ay (by
   show [(S "target",V.d (PyData.str (cdL t))),(S "book",Mine.frz (H ++ [o]).length ((into t RR).map arD) (.loc H.length)),(S "rings",V.d (.list (RR.map dg)))] = _
   rw [e])
  rw [cr] at this
  rw [show H ++ [o,O.dead] = (H ++ [o]) ++ [.dead] by rw [List.append_assoc]; rfl]
  exact this
end
section
variable {cx : Cx} {n : Nat} {b : Bool} {H H1 H2 Hx : Hp} {sc : Scope} {lo lo1 : Lo}
noncomputable def Os : List Stmt:=gc (nth 2 ke)
noncomputable def O1 : Stmt:=nth 3 ke
noncomputable abbrev fC (cs : List (Str × Int)) (e : Ar) : List (Str × Int):=bump cs (ck e.1.1)
theorem C9 {cs : List (Str × Int)} {p : Str} : (bump cs p).length <= cs.length + 1:=xa
theorem forC (T : Top cx) {RR : List (List (Nat × Nat × Nat))} {t : Nat} {l : List Ar} {o : O} (hl : l.length <= 1000) {tgt : Expr} (ht : ∃ p1 p2 k p3,tgt = .Tuple [.Name (S "arrow") p1,.Name (S "size") p2] k p3) :
  Fo cx true n (ak 28) tgt Os (fun J=>True) ((l.map arD).map .d) (iLo H.length RR t l) (H ++ [o,.dead,.dct (csD [])]) (.nxt (iLo H.length RR t l)) (H ++ [o,.dead,.dct (csD (l.foldl fC []))]):=by
 refine al fun Gq kq=>?_
 obtain ⟨p1,p2,k,p3,rfl⟩:=ht
 refine kq ?_
 refine im (C:=fun J=>True) (σ:=List (Str × Int)) arD fC (fun es cs=>cs.length + es.length <= 1000) (fun J=>iLo H.length RR t l) (fun cs=>H ++ [o,.dead,.dct (csD cs)]) (fun e es cs hc=>⟨trivial,?_,?turn⟩) (fun J J=>trivial) l [] (by simpa using hl)
 ·have h2:=C9 (cs:=cs) (p:=ck e.1.1)
  have hc : cs.length + (es.length + 1) <= 1000:=hc
  show (bump cs (ck e.1.1)).length + es.length <= 1000
  omega
 case turn =>
  have hc : cs.length + (es.length + 1) <= 1000:=hc
  have g2 : (H ++ [o,.dead,.dct (csD cs)])[H.length + 2]? = some (.dct (csD cs)):=by rw [bz]; rfl
  apply qh.mk
  case ha=>unfold arD; exact eu (.cons (by k_upd) (.cons (by k_upd) .nil))
  case hb =>
   unfold fg
   apply ah
   case h1 =>
    apply c7
    case h1 =>
     apply an
     case h1 =>
      apply ba
      case h0=>kd_p
      case h =>
       apply af (v:=.d (.str (ck e.1.1))) (vs:=[.d (.int 0)])
       case hp=>exact rfl
       case h =>
        apply av
        case h1=>kd_p
        case h2=>kd_p
        case ht=>exact ca
        case ho=>exact cp (j:=0) (x:=.str (ck e.1.1)) (by rfl) (by decide) rfl
        exact fun J J=>⟨_,rfl⟩
       apply af (v:=.d (.int 0)) (vs:=[])
       case hp=>exact rfl
       case h=>kd_p
       exact ag
      case ht=>exact zb g2
      case pa=>exact PySem.F.plainAttrs_dict
      case slot=>exact PySem.F.slot_dict_get
      case hty=>exact PySem.F.type_dict_get
      case hp=>exact rfl
      case hline=>exact rfl
      case hbase=>exact fun J=>rfl
      case hfew=>exact fun J=>rfl
      have:=Fq (cx:=cx) (B:=true) (n:=n) (k:=ck e.1.1) (y:=.int 0) (Dc.loc g2)
      rw [ml,show ((cs.lookup (ck e.1.1)).map fun i=>(.int i : D)).getD (.int 0) = .int ((cs.lookup (ck e.1.1)).getD 0) by cases cs.lookup (ck e.1.1) <;> rfl] at this
      exact this
     case h2=>kd_p
     exact e7
    case h2=>kd_p
    case h3 =>
     apply av
     case h1=>kd_p
     case h2=>kd_p
     case ht=>exact ca
     case ho=>exact cp (j:=0) (x:=.str (ck e.1.1)) (by rfl) (by decide) rfl
     exact fun J J=>⟨_,rfl⟩
    case h4 =>
     have:=jr (cx:=cx) (B:=true) (n:=n) (k:=ck e.1.1) (x:=.int ((cs.lookup (ck e.1.1)).getD 0 + 1)) g2 (by rw [pj]; exact Nat.le_trans (Nat.le_add_right _ _) (Nat.le_trans hc (by decide)))
     rw [cz,pn] at this
     exact this
    exact fun J=>rfl
   exact bj
  exact (ga (by k_upd)).trans (ga (by k_upd))
theorem ifF (T : Top cx) {RR : List (List (Nat × Nat × Nat))} {t : Nat} : Ex1 cx true n (ak 28) O1 (iLo H.length RR t []) Hx (.nxt (iLo H.length RR t [])) Hx:=by
 apply bp (c:=false)
 case h =>
  apply am (c:=false)
  case h1=>kd_p
  case h2 =>
   apply cn (xs:=[])
   case h=>exact ag
   decide
  case ho =>
   have:=nk (cx:=cx) (B:=true) (n:=n) (H:=Hx) (Cm.d (x:=.list (([] : List Ar).map arD))) (Cm.d (x:=.list [])) sv (g9 (ss:=[]) fun J h=>nomatch h)
   rw [z1] at this
   exact this
  rfl
 rw [if_neg (by decide)]
 exact bj
theorem Ag {f : Ar -> Int} {l : List Ar} : l.map (fun e=>(.int (f e) : D)) = (l.map f).map .int:=by rw [List.map_map]; rfl
theorem ifT (T : Top cx) {RR : List (List (Nat × Nat × Nat))} {t : Nat} {x : Ar} {r : List Ar} {bk : List (Str × Sts)} (hl : (x :: r).length <= 1000) (hbk : bk.length <= 1000) (hX : Hx = H ++ [.dct (bkD bk),.dead,.dct (csD ((x :: r).foldl fC []))]) :
  ∃ lo2 K,Ex1 cx true n (ak 28) O1 (iLo H.length RR t (x :: r)) Hx (.nxt lo2) (H ++ (.dct (bkD (ic bk (cdL t) (fk (x :: r)))) :: K)) /\ ∀ p ∈ mx H.length RR,lo2.lookup p.1 = some p.2:=by
 let l : List Ar:=x :: r
 let a1 : List D:=(l.filter fun e=>e.2 == 1).map fun e=>.int (e.2 : Nat)
 let a2 : List D:=l.map fun e=>.int ((e.1.2.1 : Nat) : Int)
 let a3 : List D:=l.map fun e=>.int ((e.2 : Nat) : Int)
 have hlen : Hx.length = H.length + 3:=by rw [hX,List.length_append]; rfl
 have g2 : ((((Hx ++ [O.lst a1]) ++ [O.lst a2]) ++ [O.lst a3]))[H.length + 2]? = some (.dct (csD (l.foldl fC []))):=au (au (au (by rw [hX,bz]; rfl)))
 have g0 : ((((Hx ++ [O.lst a1]) ++ [O.lst a2]) ++ [O.lst a3]).set (H.length + 2) .dead)[H.length + 0]? = some (.dct (bkD bk)):=aw (au (au (au (by rw [hX,bz]; rfl)))) (by omega)
 have hfin : ((((Hx ++ [O.lst a1]) ++ [O.lst a2]) ++ [O.lst a3]).set (H.length + 2) .dead).set (H.length + 0) (.dct (bkD (ic bk (cdL t) (fk l)))) = H ++ (.dct (bkD (ic bk (cdL t) (fk l))) :: [.dead,.dead,.lst a1,.lst a2,.lst a3]):=by
  rw [hX,List.append_assoc,List.append_assoc,List.append_assoc,cz,cz]; rfl
 have hf1 : ((l.filter fun e=>e.2 == 1).map fun e=>PyData.int (e.2 : Nat)).length = (l.filter fun e=>e.2 == 1).length:=List.length_map ..
 have hfl:=List.length_filter_le (fun e : Ar=>e.2 == 1) l
 have hl' : l.length <= 1000:=hl
 refine ⟨?lo,[.dead,.dead,.lst a1,.lst a2,.lst a3],?ex,?lk⟩
 case ex =>
  apply bp (c:=true)
  case h =>
   apply am (c:=true)
   case h1=>kd_p
   case h2 =>
    apply cn (xs:=[])
    case h=>exact ag
    decide
   case ho =>
    have:=nk (cx:=cx) (B:=true) (n:=n) (H:=Hx) (Cm.d (x:=.list ((x :: r : List Ar).map arD))) (Cm.d (x:=.list [])) sv (g9 (ss:=[]) fun J h=>nomatch h)
    rw [z1] at this
    exact this
   rfl
  rw [if_pos rfl]
  apply ah
  case h1 =>
   apply ai (v:=.d (.int ((l.filter fun e=>e.2 == 1).length : Nat)))
   case h =>
    apply bo
    case hx=>k_upd
    case hg=>kd_adr
    case hd=>k_upd
    case hp=>k_upd
    case h =>
     apply af (v:=.loc Hx.length) (vs:=[])
     case hp=>exact rfl
     case h =>
      apply cf (C:=fun J=>True) (H1:=Hx) (xs:=(l.map arD).map .d)
      case S=>exact ⟨by decide +kernel,rfl,by decide +kernel⟩
      case hfi=>exact ct (by k_upd)
      case hit=>exact d4 (xs:=l.map arD) (by kd_p) ld
      apply ja (lo':=[])
      case h=>k_upd
      refine me (C:=fun J=>True) arD (fun e=>.int (e.2 : Nat)) (fun e=>e.2 == 1) (fun e=>[(S "size",.d (.int (e.2 : Nat))),(S "arrow",.d (fg e.1.1 e.1.2.1 e.1.2.2))]) (fun J=>trivial) (fun e=>eu (ys:=[fg e.1.1 e.1.2.1 e.1.2.2,.int (e.2 : Nat)]) (.cons (by k_upd) (.cons (by k_upd) .nil))) (fun e y v h=>nomatch h) l (fun e J ys=>?_) (fun e J J ys=>?_) [] (by rw [List.length_nil]; omega)
      ·refine nt ?_
       apply am (c:=(e.2 == 1))
       case h1=>kd_p
       case h2=>kd_p
       case ho =>
        have:=pg (cx:=cx) (B:=true) (n:=n) (H:=Hx ++ [O.lst ys]) (a:=(e.2 : Int)) (b:=1)
        rw [show ((e.2 : Int) == 1) = (e.2 == 1) by rw [Bool.eq_iff_iff,beq_iff_eq,beq_iff_eq]; omega] at this
        exact this
       exact rfl
      ·kd_p
     exact ag
    have:=b8 (cx:=cx) (B:=true) (n:=n) (H:=Hx ++ [O.lst a1]) (v:=.loc Hx.length) (Ls.loc ay) (by show ((l.filter fun e=>e.2 == 1).map fun e=>PyData.int (e.2 : Nat)).length <= _; rw [hf1]; exact Nat.le_trans hfl (Nat.le_trans hl' (by decide)))
    rw [show a1.length = (l.filter fun e=>e.2 == 1).length from hf1] at this
    exact this
   exact .inl (by k_upd)
  apply ah
  case h1 =>
   apply ai (v:=.d (.int (l.map fun e=>(e.1.2.1 : Int)).sum))
   case h =>
    apply bo
    case hx=>k_upd
    case hg=>exact T.g_sum
    case hd=>k_upd
    case hp=>k_upd
    case h =>
     apply af (v:=.loc (Hx ++ [O.lst a1]).length) (vs:=[])
     case hp=>exact rfl
     case h =>
      apply cf (C:=fun J=>True) (H1:=(Hx ++ [O.lst a1])) (xs:=(l.map arD).map .d)
      case S=>exact ⟨by decide +kernel,rfl,by decide +kernel⟩
      case hfi=>exact ct (by k_upd)
      case hit=>exact d4 (xs:=l.map arD) (by kd_p) ld
      apply ja (lo':=[])
      case h=>k_upd
      apply jz (f:=arD) (g:=(fun e=>.int ((e.1.2.1 : Nat) : Int))) (bnd:=fun e=>[(S "size",.d (.int (e.2 : Nat))),(S "arrow",.d (fg e.1.1 e.1.2.1 e.1.2.2))])
      case hC=>exact fun J=>trivial
      case has=>exact fun e=>eu (ys:=[fg e.1.1 e.1.2.1 e.1.2.2,.int (e.2 : Nat)]) (.cons (by k_upd) (.cons (by k_upd) .nil))
      case hw=>exact fun e y v h=>nomatch h
      case hv =>
       intro e he ys
       unfold fg
       apply av
       case h1=>kd_p
       case h2=>kd_p
       case ht=>exact ca
       case ho=>exact cp (j:=1) (by rfl) (by decide) rfl
       exact fun J J=>⟨_,rfl⟩
      exact Nat.le_trans hl' (by decide)
     exact ag
    have:=Kv (cx:=cx) (n:=n) (H:=(Hx ++ [O.lst a1]) ++ [O.lst a2]) (v:=.loc (Hx ++ [O.lst a1]).length) (ns:=l.map (fun e=>(e.1.2.1 : Int))) (Ls.loc (by rw [<- Ag]; exact ay))
    exact this
   exact .inl (by k_upd)
  apply ah
  case h1 =>
   apply c7 (v:=.d (gb (fk l)))
   case h1 =>
    rw [show (V.d (gb (fk l))) = .d (.tuple [.int ((l.filter fun e=>e.2 == 1).length : Nat),.int (l.length : Nat),.int (l.map fun e=>(e.1.2.1 : Int)).sum,.int (l.map fun e=>(e.2 : Int)).sum,.dict ((csD (l.foldl fC [])).map enc)]) from rfl]
    apply bt (xs:=[.int ((l.filter fun e=>e.2 == 1).length : Nat),.int (l.length : Nat),.int (l.map fun e=>(e.1.2.1 : Int)).sum,.int (l.map fun e=>(e.2 : Int)).sum,.dict ((csD (l.foldl fC [])).map enc)])
    case h =>
     apply af (v:=.d (.int ((l.filter fun e=>e.2 == 1).length : Nat))) (vs:=[.d (.int (l.length : Nat)),.d (.int (l.map fun e=>(e.1.2.1 : Int)).sum),.d (.int (l.map fun e=>(e.2 : Int)).sum),.d (.dict ((csD (l.foldl fC [])).map enc))])
     case hp=>exact rfl
     case h=>kd_p
     apply af (v:=.d (.int (l.length : Nat))) (vs:=[.d (.int (l.map fun e=>(e.1.2.1 : Int)).sum),.d (.int (l.map fun e=>(e.2 : Int)).sum),.d (.dict ((csD (l.foldl fC [])).map enc))])
     case hp=>exact rfl
     case h =>
      apply bo
      case hx=>k_upd
      case hg=>kd_adr
      case hd=>k_upd
      case hp=>k_upd
      case h =>
       apply af
       case hp=>exact rfl
       case h=>kd_p
       exact ag
      have:=b8 (cx:=cx) (B:=true) (n:=n) (H:=((Hx ++ [O.lst a1]) ++ [O.lst a2])) (v:=.d (.list (l.map arD))) .d (by rw [List.length_map]; exact Nat.le_trans hl' (by decide))
      rw [List.length_map] at this
      exact this
     apply af (v:=.d (.int (l.map fun e=>(e.1.2.1 : Int)).sum)) (vs:=[.d (.int (l.map fun e=>(e.2 : Int)).sum),.d (.dict ((csD (l.foldl fC [])).map enc))])
     case hp=>exact rfl
     case h=>kd_p
     apply af (v:=.d (.int (l.map fun e=>(e.2 : Int)).sum)) (vs:=[.d (.dict ((csD (l.foldl fC [])).map enc))])
     case hp=>exact rfl
     case h =>
      apply bo
      case hx=>k_upd
      case hg=>exact T.g_sum
      case hd=>k_upd
      case hp=>k_upd
      case h =>
       apply af (v:=.loc ((Hx ++ [O.lst a1]) ++ [O.lst a2]).length) (vs:=[])
       case hp=>exact rfl
       case h =>
        apply cf (C:=fun J=>True) (H1:=((Hx ++ [O.lst a1]) ++ [O.lst a2])) (xs:=(l.map arD).map .d)
        case S=>exact ⟨by decide +kernel,rfl,by decide +kernel⟩
        case hfi=>exact ct (by k_upd)
        case hit=>exact d4 (xs:=l.map arD) (by kd_p) ld
        apply ja (lo':=[])
        case h=>k_upd
        apply jz (f:=arD) (g:=(fun e=>.int ((e.2 : Nat) : Int))) (bnd:=fun e=>[(S "size",.d (.int (e.2 : Nat))),(S "arrow",.d (fg e.1.1 e.1.2.1 e.1.2.2))])
        case hC=>exact fun J=>trivial
        case has=>exact fun e=>eu (ys:=[fg e.1.1 e.1.2.1 e.1.2.2,.int (e.2 : Nat)]) (.cons (by k_upd) (.cons (by k_upd) .nil))
        case hw=>exact fun e y v h=>nomatch h
        case hv =>
         intro e he ys
         kd_p
        exact Nat.le_trans hl' (by decide)
       exact ag
      have:=Kv (cx:=cx) (n:=n) (H:=((Hx ++ [O.lst a1]) ++ [O.lst a2]) ++ [O.lst a3]) (v:=.loc ((Hx ++ [O.lst a1]) ++ [O.lst a2]).length) (ns:=l.map (fun e=>(e.2 : Int))) (Ls.loc (by rw [<- Ag]; exact ay))
      exact this
     apply af (v:=.d (.dict ((csD (l.foldl fC [])).map enc))) (vs:=[])
     case hp=>exact rfl
     case h=>exact Ev.frzD (i:=H.length + 2) (by kd_p) g2
     exact ag
    simp
   case h2=>kd_p
   case h3=>kd_p
   have:=jr (cx:=cx) (B:=true) (n:=n) (k:=cdL t) (x:=gb (fk l)) g0 (by simp; exact Nat.le_trans hbk (by decide))
   rw [zl,hfin] at this
   exact this
  exact bj
 case lk=>exact List.forall_mem_cons.mpr ⟨by kd_in,List.forall_mem_cons.mpr ⟨by kd_in,fun J h=>nomatch h⟩⟩
theorem O6 (T : Top cx) {RR : List (List (Nat × Nat × Nat))} {t : Nat} (ht : t < 4) (hR : okR RR) {bk : List (Str × Sts)} (hbk : bk.length <= 1000) :
  ∃ lo2 K,Ex cx true n (ak 28) ke ((S "target",.d (.str (cdL t))) :: mx H.length RR) (H ++ [.dct (bkD bk)]) (.nxt lo2) (H ++ (.dct (bkD (i8 RR bk t)) :: K)) /\ ∀ p ∈ mx H.length RR,lo2.lookup p.1 = some p.2:=by
 have hl:=w8 (t:=t) (R:=RR)
 have hl':=hR.2
 have h1:=st1 (cx:=cx) (n:=n) (H:=H) T ht hR (o:=.dct (bkD bk))
 have hcl : Ex1 cx true n (ak 28) (nth 1 ke) ((S "into",.d (.list ((into t RR).map arD))) :: (S "target",.d (.str (cdL t))) :: mx H.length RR) (H ++ [.dct (bkD bk),.dead]) (.nxt (iLo H.length RR t (into t RR))) (H ++ [.dct (bkD bk),.dead,.dct (csD [])]):=by
  exact ai (v:=.loc (H.length + 2)) (t9 (K:=[.dct (bkD bk),.dead])) (.inl (by k_upd)) (fun J J=>rfl)
 have hfo : Ex1 cx true n (ak 28) (nth 2 ke) (iLo H.length RR t (into t RR)) (H ++ [.dct (bkD bk),.dead,.dct (csD [])]) (.nxt (iLo H.length RR t (into t RR))) (H ++ [.dct (bkD bk),.dead,.dct (csD ((into t RR).foldl fC []))]):=by
  apply dp (C:=fun J=>True) (xs:=((into t RR).map arD).map .d)
  case hit=>exact d4 (xs:=(into t RR).map arD) (by kd_p) ld
  exact forC T (by exact Nat.le_trans hl hl') ⟨_,_,_,_,rfl⟩
 have hsplit : ke = [nth 0 ke,nth 1 ke,nth 2 ke,nth 3 ke]:=rfl
 rw [hsplit]
 unfold i8
 cases hq : into t RR with
 | nil =>
  rw [hq] at h1 hcl hfo
  refine ⟨_,[.dead,.dct (csD [])],ah h1 (ah hcl (ah hfo (ah (ifF T) bj))),List.forall_mem_cons.mpr ⟨by kd_in,List.forall_mem_cons.mpr ⟨by kd_in,fun J h=>nomatch h⟩⟩⟩
 | cons x r =>
  rw [hq] at h1 hcl hfo hl
  obtain ⟨lo2,K,h4,h5⟩:=ifT (cx:=cx) (n:=n) (H:=H) (RR:=RR) (t:=t) (x:=x) (r:=r) (bk:=bk) T (by exact Nat.le_trans hl hl') hbk rfl
  exact ⟨lo2,K,ah h1 (ah hcl (ah hfo (ah h4 bj))),h5⟩
theorem Jk : nf (S "bcd") = [1,2,3].map fun p=>(.str (cdL p) : D):=by k_upd
theorem Dj {RR : List (List (Nat × Nat × Nat))} {bk : List (Str × Sts)} {t : Nat} : (i8 RR bk t).length <= bk.length + 1:=by
 unfold i8
 split
 ·exact Nat.le_succ _
 ·exact w6
theorem forT (T : Top cx) {RR : List (List (Nat × Nat × Nat))} (hR : okR RR) (hc : Clo H H.length) {tgt : Expr} (ht : ∃ p,tgt = .Name (S "target") p) :
  Fo cx true n (ak 28) tgt ke (fun J=>True) (([1,2,3].map fun p=>(.str (cdL p) : D)).map .d) (mx H.length RR) (H ++ [.dct (bkD [])]) (.nxt (mx H.length RR)) (H ++ [.dct (bkD ([1,2,3].foldl (i8 RR) []))]):=by
 obtain ⟨tp,rfl⟩:=ht
 refine im (C:=fun J=>True) (σ:=List (Str × Sts)) (fun p : Nat=>(.str (cdL p) : D)) (i8 RR) (fun es bk=>bk.length + es.length <= 1000 /\ ∀ p ∈ es,p < 4) (fun J=>mx H.length RR) (fun bk=>H ++ [.dct (bkD bk)]) (fun e es bk h=>?_) (fun J J=>trivial) [1,2,3] [] ⟨by decide,by decide⟩
 obtain ⟨h1,h2⟩:=h
 have h1' : bk.length + (es.length + 1) <= 1000:=h1
 have hl:=Dj (RR:=RR) (bk:=bk) (t:=e)
 refine ⟨trivial,⟨by omega,fun p hp=>h2 p (.tail _ hp)⟩,?_⟩
 refine al fun Gq kq=>?_
 obtain ⟨lo2,K,h3,h4⟩:=O6 (cx:=cx) (n:=n) (H:=H) (RR:=RR) (t:=e) (bk:=bk) T (h2 e (.head _)) hR (by exact Nat.le_of_add_right_le h1')
 refine kq ?_
 refine .mk (bw (by k_upd)) h3 ((tj h4).trans ?_)
 have hcl : Clo (H ++ (O.dct (bkD (i8 RR bk e)) :: K)) (H.length + 1):=fun i o hi eo l hll=>by
  by_cases q : i < H.length
  ·rw [List.getElem?_append_left q] at eo
   have:=hc i o q eo l hll
   exact Nat.le_succ_of_le this
  ·have : i = H.length + 0:=by omega
   rw [this,bz] at eo
   cases eo
   cases hll
 have:=Cnv.take (cx:=cx) (k:=(H ++ [O.dct (bkD bk)]).length) (m:=H.length + 1) (lo:=mx H.length RR) (H:=H ++ (.dct (bkD (i8 RR bk e)) :: K)) (by rw [List.length_append]; exact Nat.le_refl _) hcl (vy (List.forall_mem_cons.mpr ⟨(by show H.length < H.length + 1; exact Nat.le_refl _),List.forall_mem_cons.mpr ⟨trivial,fun J h=>nomatch h⟩⟩))
 rw [show (H ++ (O.dct (bkD (i8 RR bk e)) :: K)).take (H.length + 1) = H ++ [.dct (bkD (i8 RR bk e))] by rw [List.take_length_add_append]; rfl] at this
 exact this
noncomputable def bkW (RR : List (List (Nat × Nat × Nat))) : List (Str × Sts):=[1,2,3].foldl (i8 RR) []
theorem xf (T : Top cx) {RR : List (List (Nat × Nat × Nat))} (hR : okR RR) (hc : Clo H H.length) : Ex cx true n (ak 28) (ar 28) [(S "rings",.d (.list (RR.map dg)))] H (.ret (.d (.dict ((bkD (bkW RR)).map enc)))) (H ++ [.dead]):=by
 apply ah
 case h1 =>
  apply ai (v:=.loc H.length)
  case h=>exact qr
  exact .inl (by k_upd)
 apply ah
 case h1 =>
  apply dp (C:=fun J=>True) (xs:=([1,2,3].map fun p=>(.str (cdL p) : D)).map .d)
  case hit =>
   rw [<- Jk]
   exact Eu (x:=S "bcd") (by kd_p) (by decide +kernel) fun J J=>rfl
  exact forT T hR hc ⟨_,rfl⟩
 apply bb
 apply az
 rw [show List.foldl (i8 RR) [] [1,2,3] = bkW RR from rfl]
 rw [show H ++ [O.dead] = (H ++ [O.dct (bkD (bkW RR))]).set H.length .dead from cr.symm]
 exact Ev.frzD (i:=H.length) (by kd_p) ay
theorem A7 (T : Top cx) {RR : List (List (Nat × Nat × Nat))} (hR : okR RR) (hc : Clo H H.length) : OpV cx true (n + 1) (fun rvs=>call (.ref 302) rvs []) [.d (.list (RR.map dg))] H (.d (.dict ((bkD (bkW RR)).map enc))) H:=by
 have h1:=(c5 (vs:=[.d (.list (RR.map dg))]) T.f302 rfl (by k_upd) (xf (n:=n) T hR hc)).take (m:=H.length) (Nat.le_refl _) (hc.apps (Nat.le_refl _)) trivial
 rwa [fo] at h1
end
section
open PySem PySem.Spec PySem.Calls PyProof PyProof.Rows PySem.W
variable {cx : Cx} {n : Nat} {b : Bool} {H H1 H2 : Hp} {sc : Scope} {lo lo1 : Lo}
theorem Dh {α : Type} {tgt elt : Expr} {C : Hp -> Prop} (f g : α -> D) (bnd : α -> Lo) (hC : ∀ ys,C (H ++ [.lst ys])) (has : ∀ a,As cx false sc tgt (.d (f a)) lo (bnd a))
  (hw : ∀ a x v,lo.lookup x = some v -> (bnd a).lookup x = some v) (hcl : Clo H H.length) (hlt : ∀ x v,lo.lookup x = some v -> vlt H.length v) : ∀ (es : List α),
  (∀ a ∈ es,∀ ys,∃ K,Ev cx true n sc elt (bnd a) (H ++ [.lst ys]) (.d (g a)) (H ++ (.lst ys :: K))) -> ∀ ys : List D,ys.length + es.length <= 2 ^ 20 ->
  Cf cx n sc tgt [] elt C H.length ((es.map f).map .d) lo (H ++ [.lst ys]) (H ++ [.lst (ys ++ es.map g)])
 | [],_,ys,_=>by simpa using Cf.nil (hC ys)
 | a :: es,hv,ys,hl=>by
  have hl' : ys.length + (es.length + 1) <= 2 ^ 20:=hl
  rw [List.map_cons,List.map_cons,List.map_cons]
  obtain ⟨K,hK⟩:=hv a (.head _) ys
  have hg : (H ++ (O.lst ys :: K))[H.length]? = some (.lst ys):=by rw [show H.length = H.length + 0 from rfl,bz]; rfl
  have hap:=app_lst (cx:=cx) (B:=true) (n:=n) (H:=H ++ (.lst ys :: K)) (i:=H.length) (x:=g a) hg (by exact Nat.le_of_add_right_le hl' : ys.length <= 2 ^ 20)
  have es2 : (H ++ (O.lst ys :: K)).set H.length (.lst (ys ++ [g a])) = H ++ (.lst (ys ++ [g a]) :: K):=by
   rw [show H.length = H.length + 0 from rfl,cz]; rfl
  rw [es2] at hap
  have ih:=Dh f g bnd hC has hw hcl hlt es (fun a m=>hv a (.tail _ m)) (ys ++ [g a]) (by rw [List.length_append]; simp; omega)
  rw [List.append_assoc] at ih
  refine .take (hC ys) (has a) le hK hap ?_ ih
  refine (Cnv.weak (hw a)).trans ?_
  have hc2 : Clo (H ++ (O.lst (ys ++ [g a]) :: K)) (H.length + 1):=fun i o hi eo l hll=>by
   by_cases q : i < H.length
   ·rw [List.getElem?_append_left q] at eo
    have:=hcl i o q eo l hll
    exact Nat.le_succ_of_le this
   ·have : i = H.length + 0:=by omega
    rw [this,bz] at eo
    cases eo
    cases hll
  have:=Cnv.take (cx:=cx) (k:=(H ++ [O.lst ys]).length) (m:=H.length + 1) (lo:=lo) (H:=H ++ (O.lst (ys ++ [g a]) :: K)) (by rw [List.length_append]; exact Nat.le_refl _) hc2 (fun x v h=>by
   have:=hlt x v h
   cases v with
   | d=>exact trivial
   | loc i=>exact Nat.lt_succ_of_lt this
   | raw=>exact trivial)
  rw [show (H ++ (O.lst (ys ++ [g a]) :: K)).take (H.length + 1) = H ++ [.lst (ys ++ [g a])] by rw [List.take_length_add_append]; rfl] at this
  exact this
noncomputable abbrev fu:=Nat × Nat × Nat
noncomputable def tx3 (a : fu) : Str:=ti a.1 a.2.1 a.2.2
noncomputable def rtx (r : List fu) : Str:=np (r.map tx3)
structure OkA (RR : List (List fu)) : Prop where
 at_ : ∀ r ∈ RR,∀ a ∈ r,a.1 < 3 /\ a.2.1 < 100 /\ (a.2.2 = 1 \/ a.2.2 = 2 \/ a.2.2 = 3)
 len : ∀ r ∈ RR,r.length <= 20
 num : RR.length <= 60
noncomputable def jh (num : Nat -> Int) (c : Nat -> Nat) : D:=.list [.list (bh num 0 (c 0)),.list (bh num 1 (c 1)),.list (bh num 2 (c 2)),.list [.none]]
noncomputable def ff (e : Row) : Str:=Txt.lower e.1
noncomputable def en : List Row -> List Row
 | []=>[]
 | x :: r=>if (r.map ff).contains (ff x) then en r else x :: en r
noncomputable def jo (cm : List Row) (i : Nat) : Bool:=!((cm.map ff).drop (i + 1)).contains ((cm.map ff).getD i Str.empty)
noncomputable def ma (cm : List Row) (i : Nat) : D:=k9 (cm.getD i (Str.empty,Str.empty))
theorem rb : ∀ cm : List Row,((List.range cm.length).filter (jo cm)).map (ma cm) = bg (en cm)
 | []=>rfl
 | x :: r=>by
  have e1 : ∀ i,jo (x :: r) (i + 1) = jo r i:=fun i=>by unfold jo; rw [List.map_cons,List.drop_succ_cons,List.getD_cons_succ]
  have e2 : ∀ i,ma (x :: r) (i + 1) = ma r i:=fun i=>by unfold ma; rw [List.getD_cons_succ]
  have e0 : jo (x :: r) 0 = !(r.map ff).contains (ff x):=by unfold jo; rw [List.map_cons,List.drop_succ_cons,List.getD_cons_zero,List.drop_zero]
  have ih:=rb r
  rw [List.length_cons,List.range_succ_eq_map,List.filter_cons,List.filter_map,e0]
  have e3 : (jo (x :: r)) ∘ Nat.succ = jo r:=funext fun i=>e1 i
  rw [e3]
  have e4 : (((List.range r.length).filter (jo r)).map Nat.succ).map (ma (x :: r)) = bg (en r):=by
   rw [List.map_map,<- ih]
   exact List.map_congr_left fun i J=>e2 i
  unfold en
  cases hc : (r.map ff).contains (ff x) with
  | true=>rw [Bool.not_true,if_neg (by decide),if_pos rfl,e4]
  | false =>
   rw [Bool.not_false,if_pos rfl,if_neg (by decide),List.map_cons,e4]
   rfl
theorem ki {num : Nat -> Int} {k : Nat} : ∀ {l : List Nat},PyData.canLayAll0 (l.map (prD num k)) = true /\ PyData.depthAll (l.map (prD num k)) <= 1
 | []=>⟨rfl,Nat.zero_le _⟩
 | m :: l=>by
  obtain ⟨h1,h2⟩:=ki (num:=num) (k:=k) (l:=l)
  refine ⟨by simp [PyData.canLayAll0,prD,PyData.canLay0,h1],?_⟩
  simp [PyData.depthAll,prD,PyData.depth]
  exact Nat.max_le.mpr ⟨by decide,h2⟩
theorem xu {num : Nat -> Int} {c : Nat -> Nat} : SeqAt.shaped (jh num c) = true:=by
 have p : ∀ k,PyData.canLay0 (.list (bh num k (c k))) = true:=fun k=>(ki (l:=List.range (c k))).1
 have d : ∀ k,PyData.depth (.list (bh num k (c k))) <= 2:=fun k=>by
  have:=(ki (num:=num) (k:=k) (l:=List.range (c k))).2
  show PyData.depthAll _ + 1 <= 2
  unfold bh
  exact Nat.succ_le_succ this
 unfold SeqAt.shaped jh
 rw [Bool.and_eq_true,decide_eq_true_eq]
 constructor
 ·simp only [PyData.canLay0,PyData.canLayAll0,Bool.and_eq_true]
  exact ⟨p 0,p 1,p 2,by decide⟩
 ·have d3 : PyData.depth (.list [.none]) <= 2:=by decide
  exact Nat.succ_le_succ (Nat.max_le.mpr ⟨Nat.le_trans (d 0) (by decide),Nat.max_le.mpr ⟨Nat.le_trans (d 1) (by decide),Nat.max_le.mpr ⟨Nat.le_trans (d 2) (by decide),Nat.max_le.mpr ⟨Nat.le_trans d3 (by decide),by decide⟩⟩⟩⟩)
theorem xr {l : List Int} : SeqAt.shaped (.list (l.map .int)) = true:=by
 have c : ∀ l : List Int,PyData.canLayAll0 (l.map .int) = true:=fun l=>by
  induction l with
  | nil=>rfl
  | cons e l ih=>simp [PyData.canLayAll0,PyData.canLay0,ih]
 have d : ∀ l : List Int,PyData.depthAll (l.map .int) = 0:=fun l=>by
  induction l with
  | nil=>rfl
  | cons e l ih=>simp [PyData.depthAll,PyData.depth,ih]
 unfold SeqAt.shaped
 rw [Bool.and_eq_true,decide_eq_true_eq]
 have:=d l
 exact ⟨c l,by show PyData.depthAll _ + 1 <= 64; omega⟩
theorem y7 {l : List Row} (h : ∀ e ∈ l,PyData.strOk e.1 = true /\ PyData.strOk e.2 = true) : SeqAt.shaped (.list (bg l)) = true:=by
 have c : ∀ l : List Row,(∀ e ∈ l,PyData.strOk e.1 = true /\ PyData.strOk e.2 = true) -> PyData.canLayAll0 (bg l) = true /\ PyData.depthAll (bg l) <= 1:=fun l=>by
  induction l with
  | nil=>intro _; exact ⟨rfl,Nat.zero_le _⟩
  | cons e l ih =>
   intro h
   obtain ⟨h1,h2⟩:=ih fun x hx=>h x (.tail _ hx)
   obtain ⟨q1,q2⟩:=h e (.head _)
   refine ⟨?_,?_⟩
   ·show PyData.canLayAll0 (k9 e :: bg l) = true
    simp [PyData.canLayAll0,k9,PyData.canLay0,q1,q2,h1]
   ·show PyData.depthAll (k9 e :: bg l) <= 1
    simp [PyData.depthAll,k9,PyData.depth]
    exact Nat.max_le.mpr ⟨by decide,h2⟩
 obtain ⟨h1,h2⟩:=c l h
 unfold SeqAt.shaped
 rw [Bool.and_eq_true,decide_eq_true_eq]
 exact ⟨h1,by show PyData.depthAll _ + 1 <= 64; exact Nat.lt_of_le_of_lt h2 (by decide)⟩
theorem La {j : Nat} : PyData.strOk (an0 j) = true:=by unfold an0; split <;> exact g7 _
theorem Nr {j : Nat} : PyData.strOk (anL j) = true:=by unfold anL; split <;> exact g7 _
theorem O7 {k m j : Nat} : PyData.strOk (ti k m j) = true:=by
 unfold ti
 split
 ·exact La
 ·exact mo (mo (mo (mo (mo mz (g7 _)) (g7 _)) (g7 _)) Nr) (g7 _)
theorem uc {sep : Str} (hs : PyData.strOk sep = true) : ∀ (ts : List Str),(∀ t ∈ ts,PyData.strOk t = true) -> PyData.strOk (Str.join sep ts) = true
 | [],_=>g7 ""
 | [x],h=>h x (.head _)
 | x :: y :: r,h=>mo (mo (h x (.head _)) hs) (uc hs (y :: r) fun a m=>h a (.tail _ m))
theorem Gp {ts : List Str} (h : ∀ t ∈ ts,PyData.strOk t = true) : PyData.strOk (np ts) = true:=by
 show PyData.strOk (PySem.Builtin.Str.glued (S " ") (c6 ts)) = true
 rw [StrLaws.glued_eq_join]
 exact uc (g7 _) _ fun t m=>h t (jt t m)
theorem My {r : List fu} : PyData.strOk (rtx r) = true:=Gp fun t m=>by
 obtain ⟨a,_,rfl⟩:=List.mem_map.mp m
 exact O7
noncomputable abbrev zLo (num : Nat -> Int) (c : Nat -> Nat) (RR : List (List fu)) (bk : List (Str × Sts)) (rs : List Str) (cm es : List Row) (xs : List Int) : Lo :=
 [(S "walked",.d (.list (RR.map dg))),(S "due",.d (jh num c)),(S "book",.d (.dict ((bkD bk).map enc))),(S "rings",.d (.list (rs.map .str))),(S "told",.d (jh num c)),(S "came",.d (.list (bg cm))),(S "items",.d (.list (bg es))),(S "numbers",.d (nmD num)),(S "script",.d (.list (xs.map .int)))]
end
section
variable {cx : Cx} {n : Nat} {b : Bool} {H H1 H2 : Hp} {sc : Scope} {lo lo1 : Lo}
noncomputable def elA : Expr × Scope:=match nth 3 (ar 29) with
 | .If (.BoolOp _ [_,.Compare _ _ [.Call _ [.ListComp e _ s _] _ _] _] _) _ _ _=>(e,s)
 | _=>(.Constant .none 0 ⟨0,0,0,0⟩,ak 29)
theorem Oa (T : Top cx) {sc : Scope} (hsc : sc = mr elA.2 (ak 29)) {r : List fu} (hr : ∀ a ∈ r,a.1 < 3 /\ a.2.1 < 100 /\ (a.2.2 = 1 \/ a.2.2 = 2 \/ a.2.2 = 3)) (hl : r.length <= 20) :
  Ev cx true (n + 2) sc elA.1 [(S "ring",.d (dg r))] H (.d (.str (rtx r))) (H ++ [.lst (r.map fun a=>.str (tx3 a))]):=by
 have e3 : (r.map tx3).map PyData.str = r.map fun a=>.str (tx3 a):=List.map_map
 subst hsc
 have hlen : ∀ t ∈ r.map tx3,t.length <= 3000:=fun t ht=>by
  obtain ⟨a,ha,rfl⟩:=List.mem_map.mp ht
  exact G3 (hr a ha).2.1
 apply ba
 case h0=>kd_p
 case h =>
  apply af
  case hp=>exact rfl
  case h =>
   apply bo
   case hx=>k_upd
   case hg=>kd_adr
   case hd=>k_upd
   case hp=>k_upd
   case h =>
    apply af
    case hp=>exact rfl
    case h =>
     apply cf (H1:=H) (xs:=(r.map fun a=>fg a.1 a.2.1 a.2.2).map .d) (C:=fun J=>True)
     case S=>exact ⟨by decide +kernel,rfl,by decide +kernel⟩
     case hfi=>exact ct (by k_upd)
     case hit =>
      refine d4 (xs:=r.map fun a=>fg a.1 a.2.1 a.2.2) ?_ ?_
      ·exact br ky (by k_upd)
      ·exact ik
     apply ja (lo':=[])
     case h=>k_upd
     apply jz (f:=fun a : fu=>fg a.1 a.2.1 a.2.2) (g:=fun a=>.str (tx3 a)) (bnd:=fun a=>[(S "arrow",.d (fg a.1 a.2.1 a.2.2))])
     case hC=>exact fun J=>trivial
     case has=>exact fun a=>bw (by k_upd)
     case hw=>exact fun a y v h=>nomatch h
     case hv =>
      intro a ha ys
      obtain ⟨q1,q2,q3⟩:=hr a ha
      apply bd T
      case hx=>k_upd
      case hg=>exact (by k_upd : cb.lookup _ = some (.ref 297))
      case hd=>k_upd
      case F=>exact T.f297
      case hp=>k_upd
      case h =>
       apply af
       case hp=>exact rfl
       case h=>kd_p
       exact ag
      exact Lf T q1 q3 q2
     exact Nat.le_trans hl (by decide)
    exact ag
   exact nl (ss:=r.map tx3) (.loc (by rw [e3]; exact ay)) (by rw [List.length_map]; exact Nat.lt_of_le_of_lt hl (by decide)) (c6 (r.map tx3)) (fun l h1 h2=>f6 h1 h2)
  exact ag
 case ht=>exact d9
 case pa=>exact PySem.F.plainAttrs_str
 case slot=>exact PySem.F.slot_str_join
 case hty=>exact PySem.F.type_str_join
 case hp=>exact rfl
 case hline=>exact rfl
 case hbase=>exact fun J=>rfl
 case hfew=>exact fun J=>rfl
 case ho=>exact Fu .d (Ac (Nat.le_trans om (by rw [List.length_map]; exact Nat.le_trans hl (by decide))) (fun t ht=>Nat.le_trans (hlen t (jt t ht)) (by decide)))
end
section
variable {cx : Cx} {n : Nat} {b : Bool} {H H1 H2 : Hp} {sc : Scope} {lo lo1 : Lo}
variable {num : Nat -> Int} {c : Nat -> Nat} {RR : List (List fu)} {bk : List (Str × Sts)} {rs : List Str} {cm es : List Row} {xs : List Int}
theorem vi {v w : V} {x : D} (L1 : Cm H v x) (L2 : Cm H w x) (hx : SeqAt.shaped x = true) : OpV cx b n (cmp .NotEq) [v,w] H (.d (.bool false)) H:=by
 have:=nk (cx:=cx) (B:=b) (n:=n) L1 L2 hx hx
 rwa [wq hx] at this
theorem stA (T : Top cx) (hR : OkA RR) (hc : Clo H H.length) (hrs : rs = c6 (RR.map rtx)) : Ex1 cx true (n + 2) (ak 29) (nth 3 (ar 29)) (zLo num c RR bk rs cm es xs) H (.nxt (zLo num c RR bk rs cm es xs)) (H ++ [.lst (RR.map fun r=>.str (rtx r))]):=by
 have e3 : (RR.map rtx).map PyData.str = RR.map fun r=>.str (rtx r):=List.map_map
 have hl:=hR.num
 apply bp (c:=false)
 case h =>
  apply x7
  case h =>
   apply am (c:=false)
   case h1=>kd_p
   case h2=>kd_p
   case ho=>exact vi .d .d xu
   exact rfl
  apply x7
  case h =>
   apply am (c:=false)
   case h1=>kd_p
   case h2 =>
    apply bo
    case hx=>k_upd
    case hg=>kd_adr
    case hd=>k_upd
    case hp=>k_upd
    case h =>
     apply af
     case hp=>exact rfl
     case h =>
      apply cf (H1:=H) (xs:=(RR.map dg).map .d) (C:=fun J=>True)
      case S=>exact ⟨by decide +kernel,rfl,by decide +kernel⟩
      case hfi=>exact ct (by k_upd)
      case hit=>exact d4 (xs:=RR.map dg) (by kd_p) ik
      apply ja (lo':=[])
      case h=>k_upd
      refine Dh (C:=fun J=>True) dg (fun r=>.str (rtx r)) (fun r=>[(S "ring",.d (dg r))]) (fun J=>trivial) (fun r=>bw (by k_upd)) (fun r y v h=>nomatch h) hc (fun y v h=>nomatch h) RR (fun r hr ys=>⟨[.lst (r.map fun a=>.str (tx3 a))],?_⟩) [] (by rw [List.length_nil]; omega)
      have:=Oa (cx:=cx) (n:=n) (H:=H ++ [.lst ys]) T rfl (hR.at_ r hr) (hR.len r hr)
      rw [List.append_assoc] at this
      exact this
     exact ag
    exact nl (ss:=RR.map rtx) (.loc (by rw [e3]; exact ay)) (by rw [List.length_map]; exact Nat.lt_of_le_of_lt hl (by decide)) (c6 (RR.map rtx)) (fun l h1 h2=>f6 h1 h2)
   case ho =>
    rw [hrs]
    exact vi .d .d (g9 fun x hx=>by obtain ⟨r,_,rfl⟩:=List.mem_map.mp (jt x hx); exact My)
   exact rfl
  exact y9
 rw [if_neg (by decide)]
 exact bj
theorem stB (T : Top cx) (hcm : cm.length <= 1000) (hg : ∀ e ∈ cm,(Builtin.Str.tooLong (Txt.lower e.1).length) = false) : Ex1 cx true n (ak 29) (nth 4 (ar 29)) (zLo num c RR bk rs cm es xs) H (.nxt ((S "places",.d (.list ((cm.map ff).map .str))) :: zLo num c RR bk rs cm es xs)) (H ++ [.dead]):=by
 refine u9 (lo1:=(S "places",.loc H.length) :: zLo num c RR bk rs cm es xs) (H1:=H ++ [.lst ((cm.map ff).map .str)]) ?_ ?_
 ·rw [show (cm.map ff).map PyData.str = cm.map fun e=>.str (ff e) from List.map_map]
  apply ai
  case h =>
   apply cf (H1:=H) (xs:=(cm.map k9).map .d) (C:=fun J=>True)
   case S=>exact ⟨by decide +kernel,rfl,by decide +kernel⟩
   case hfi=>exact ct (by k_upd)
   case hit=>exact d4 (xs:=bg cm) (by kd_p) ld
   apply ja (lo':=[])
   case h=>k_upd
   apply jz (f:=k9) (g:=fun e=>.str (ff e)) (bnd:=fun e=>[(S "value",.d (.str e.2)),(S "name",.d (.str e.1))])
   case hC=>exact fun J=>trivial
   case has=>exact fun e=>eu (ys:=[.str e.1,.str e.2]) (.cons (by k_upd) (.cons (by k_upd) .nil))
   case hw=>exact fun e y v h=>nomatch h
   case hv =>
    intro e he ys
    apply ba
    case h0=>kd_p
    case h=>exact ag
    case ht=>exact d9
    case pa=>exact PySem.F.plainAttrs_str
    case slot=>exact PySem.F.slot_str_lower
    case hty=>exact PySem.F.type_str_lower
    case hp=>exact rfl
    case hline=>exact rfl
    case hbase=>exact fun J=>rfl
    case hfew=>exact fun J=>rfl
    exact gx (hg e he)
   exact Nat.le_trans hcm (by decide)
  case hk=>exact .inr (by k_upd)
  exact fun env h=>tf h (by k_upd)
 ·have:=Cnv.frzH (cx:=cx) (k:=H.length) (x:=S "places") (rest:=zLo num c RR bk rs cm es xs) (H:=H ++ [.lst ((cm.map ff).map .str)]) ay rfl
  rw [cr] at this
  exact this
noncomputable abbrev yLo (num : Nat -> Int) (c : Nat -> Nat) (RR : List (List fu)) (bk : List (Str × Sts)) (rs : List Str) (cm es : List Row) (xs : List Int) : Lo:=(S "places",.d (.list ((cm.map ff).map .str))) :: zLo num c RR bk rs cm es xs
theorem stC (T : Top cx) (hcm : cm.length <= 1000) (hes : es = en cm) (hok : ∀ e ∈ es,PyData.strOk e.1 = true /\ PyData.strOk e.2 = true) : Ex1 cx true n (ak 29) (nth 5 (ar 29)) (yLo num c RR bk rs cm es xs) H (.nxt (yLo num c RR bk rs cm es xs)) (H ++ [.lst (bg es)]):=by
 have hE : ((List.range cm.length).filter (jo cm)).map (ma cm) = bg es:=by rw [hes]; exact rb cm
 have hp : ∀ i,i < cm.length -> ((cm.map ff).map PyData.str)[i]? = some (.str ((cm.map ff).getD i Str.empty)):=fun i hi=>by
  rw [List.getElem?_map,List.getD_eq_getElem?_getD,List.getElem?_eq_getElem (by rw [List.length_map]; exact hi)]; rfl
 have hc : ∀ i,i < cm.length -> (bg cm)[i]? = some (ma cm i):=fun i hi=>by
  unfold bg ma
  rw [List.getElem?_map,List.getD_eq_getElem?_getD,List.getElem?_eq_getElem hi]; rfl
 have key : H ++ [O.lst (bg es)] = H ++ [O.lst ([] ++ ((List.range cm.length).filter (jo cm)).map (ma cm))]:=by rw [List.nil_append,hE]
 rw [key]
 apply bp (c:=false)
 case h =>
  apply am (c:=false)
  case h1=>kd_p
  case h2 =>
   apply cf (H1:=H) (xs:=((List.range cm.length).map fun i : Nat=>(.int (i : Int) : D)).map .d) (C:=fun J=>True)
   case S=>exact ⟨by decide +kernel,rfl,by decide +kernel⟩
   case hfi=>exact ct (by k_upd)
   case hit =>
    rw [List.map_map]
    refine lz (m:=cm.length) (H1:=H) ?_ (by k_upd) T.g_range (by exact Nat.le_trans hcm (by decide)) rfl (fun J J=>rfl)
    apply bo
    case hx=>k_upd
    case hg=>kd_adr
    case hd=>k_upd
    case hp=>k_upd
    case h =>
     apply af
     case hp=>exact rfl
     case h=>kd_p
     exact ag
    have:=b8 (cx:=cx) (B:=true) (n:=n) (H:=H) (v:=.d (.list (bg cm))) (xs:=bg cm) .d (by rw [show (bg cm).length = cm.length from List.length_map ..]; exact Nat.le_trans hcm (by decide))
    rw [show (bg cm).length = cm.length from List.length_map ..] at this
    exact this
   apply ja (lo':=[(S "places",.d (.list ((cm.map ff).map .str))),(S "came",.d (.list (bg cm)))])
   case h=>k_upd
   refine me (C:=fun J=>True) (fun i : Nat=>(.int (i : Int) : D)) (ma cm) (jo cm) (fun i=>[(S "i",.d (.int (i : Int))),(S "places",.d (.list ((cm.map ff).map .str))),(S "came",.d (.list (bg cm)))]) (fun J=>trivial) (fun i=>bw (by k_upd)) (fun i=>cj (by k_upd)) (List.range cm.length) (fun i hi ys=>?_) (fun i hi J ys=>?_) [] (by rw [List.length_nil,List.length_range]; omega)
   ·replace hi:=List.mem_range.mp hi
    refine nt ?_
    apply am (c:=jo cm i)
    case h1 =>
     apply av
     case h1=>kd_p
     case h2=>kd_p
     case ht=>exact bq .d
     case ho=>exact gj .d (hp i hi) (by exact Nat.le_trans hi (Nat.le_trans hcm (by decide)))
     exact fun J J=>⟨_,rfl⟩
    case h2 =>
     apply dh
     case h1=>kd_p
     case h2 =>
      apply dj
      apply an
      case h1=>kd_p
      case h2=>kd_p
      exact e7
     case h3=>exact di
     case ht=>exact bq .d
     have:=lb (cx:=cx) (B:=true) (n:=n) (H:=H ++ [O.lst ys]) (v:=.d (.list ((cm.map ff).map .str))) (lw:=some ((i + 1 : Nat) : Int)) (hi:=none) .d (by rw [List.length_map,List.length_map]; exact Nat.le_trans hcm (by decide))
     rw [i3,<- List.map_drop] at this
     exact this
    case ho=>exact pz .d
    exact rfl
   ·replace hi:=List.mem_range.mp hi
    apply av
    case h1=>kd_p
    case h2=>kd_p
    case ht=>exact bq .d
    case ho=>exact gj .d (hc i hi) (by exact Nat.le_trans hi (Nat.le_trans hcm (by decide)))
    exact fun J J=>⟨_,rfl⟩
  case ho=>exact vi (x:=.list (bg es)) .d (.loc (by rw [<- key]; exact ay)) (y7 hok)
  exact rfl
 rw [if_neg (by decide)]
 exact bj
theorem stD (T : Top cx) (hR : okR RR) (hc : Clo H H.length) (hl : bk.length = (bkW RR).length) (hb : ∀ k e,(k,e) ∈ bk -> ∃ f,(bkW RR).lookup k = some f /\ qg e f) : Ex1 cx true (n + 1) (ak 29) (nth 6 (ar 29)) (yLo num c RR bk rs cm es xs) H (.nxt (yLo num c RR bk rs cm es xs)) H:=by
 apply bp (c:=false)
 case h =>
  apply am (c:=false)
  case h1=>kd_p
  case h2 =>
   apply bd T
   case hx=>k_upd
   case hg=>exact (by k_upd : cb.lookup _ = some (.ref 302))
   case hd=>k_upd
   case F=>exact T.f302
   case hp=>k_upd
   case h =>
    apply af
    case hp=>exact rfl
    case h=>kd_p
    exact ag
   exact A7 T hR hc
  case ho=>exact Bs .d .d hl hb
  exact rfl
 rw [if_neg (by decide)]
 exact bj
noncomputable def oq (bk : List (Str × Sts)) (k : Str) : Int:=(((bk.lookup k).getD jq).2.2.2.2.map (·.2)).sum
structure OkK (bk : List (Str × Sts)) (c : Nat -> Nat) (so : List Str) : Prop where
 eqs : so = c6 (bk.map (·.1))
 len : bk.length <= 60
 at_ : ∀ k ∈ so,∃ e p,bk.lookup k = some e /\ p < 3 /\ k = ck p /\ oq bk k = (c p : Int) - 1
 c : ∀ p,p < 3 -> c p <= 1000
noncomputable abbrev l8 (bk : List (Str × Sts)) (so : List Str) : List D:=so.map fun k=>.int (oq bk k)
theorem OkK.sz {so : List Str} (h : OkK bk c so) : so.length <= 60:=by
 have:=om (ss:=bk.map (·.1))
 rw [List.length_map,<- h.eqs] at this
 exact Nat.le_trans this h.len
theorem OkK.srt {so : List Str} (h : OkK bk c so) (l : List Str) (h1 : l.Perm ((bkD bk).map (·.1))) (h2 : sortedS l = true) : l = so:=by
 rw [h.eqs]
 rw [show (bkD bk).map (·.1) = bk.map (·.1) from List.map_map ..] at h1
 exact f6 h1 h2
theorem stE (T : Top cx) {so : List Str} (hk : OkK bk c so) : Ex1 cx true (n + 1) (ak 29) (nth 7 (ar 29)) (yLo num c RR bk rs cm es xs) H (.nxt ((S "calls",.loc H.length) :: yLo num c RR bk rs cm es xs)) (H ++ [.lst (l8 bk so)]):=by
 refine qu (C:=fun J=>True) (H1:=H) (xs:=(so.map fun k=>(.str k : D)).map .d) ⟨by decide +kernel,rfl,by decide +kernel⟩ (ct (by k_upd)) ?hit ?W (by k_upd) (fun env h=>o7 h (by k_upd) (by k_upd) rfl (by k_upd)) (fun J J=>rfl)
 case hit =>
  refine d4 (xs:=so.map fun k=>(.str k : D)) ?_ ik
  apply bo
  case hx=>k_upd
  case hg=>kd_adr
  case hd=>k_upd
  case hp=>k_upd
  case h =>
   apply af
   case hp=>exact rfl
   case h=>kd_p
   exact ag
  exact l9 (es:=bkD bk) .d (by rw [List.length_map]; have:=hk.len; exact Nat.lt_of_le_of_lt this (by decide)) so hk.srt
 apply ja (lo':=[(S "book",.d (.dict ((bkD bk).map enc)))])
 case h=>k_upd
 refine jz (C:=fun J=>True) (fun k=>(.str k : D)) (fun k=>.int (oq bk k)) (fun k=>[(S "place",.d (.str k)),(S "book",.d (.dict ((bkD bk).map enc)))]) (fun J=>trivial) (fun k=>bw (by k_upd)) (fun k=>cj (by k_upd)) (fun k hm ys=>?_) (Nat.le_trans hk.sz (by decide : 60 <= 2 ^ 20))
 refine al fun Gq kq=>?_
 obtain ⟨e,p,h1,h2,h3,h4⟩:=hk.at_ k hm
 refine kq ?_
 have hl : (bkD bk).lookup k = some (gb e):=by rw [qi,h1]; rfl
 rw [show oq bk k = (e.2.2.2.2.map (·.2)).sum by unfold oq; rw [h1]; rfl]
 apply bd T
 case hx=>k_upd
 case hg=>exact (by k_upd : cb.lookup _ = some (.ref 108))
 case hd=>k_upd
 case F=>exact T.f108
 case hp=>k_upd
 case h =>
  apply af
  case hp=>exact rfl
  case h =>
   apply av
   case h1 =>
    apply av
    case h1=>kd_p
    case h2=>kd_p
    case ht=>exact lf
    case ho=>exact gt .d hl
    exact fun J J=>⟨_,rfl⟩
   case h2=>kd_p
   case ht=>exact ca
   case ho=>exact cp (j:=4) (x:=.dict ((csD e.2.2.2.2).map enc)) rfl (by decide) rfl
   exact fun J J=>⟨_,rfl⟩
  exact ag
 exact Ho T
theorem J9 {p : Nat} (hp : p < 3) : ([.list (bh num 0 (c 0)),.list (bh num 1 (c 1)),.list (bh num 2 (c 2)),.list [.none]] : List D)[p]? = some (.list (bh num p (c p))):=by
 rcases bx hp with rfl | rfl | rfl <;> rfl
theorem stF (T : Top cx) {so : List Str} (hk : OkK bk c so) {A : Hp} (hA : H = A ++ [.lst (l8 bk so)]) : Ex cx true (n + 1) (ak 29) [nth 8 (ar 29)] ((S "calls",.loc A.length) :: yLo num c RR bk rs cm es xs) H (.ret (.d (.bool true))) (H ++ [.lst (l8 bk so)]):=by
 have hsh : SeqAt.shaped (.list (l8 bk so)) = true:=by
  have:=xr (l:=so.map (oq bk))
  rwa [List.map_map] at this
 have hg : (H ++ [O.lst (l8 bk so)])[A.length]? = some (.lst (l8 bk so)):=au (by rw [hA]; exact ay)
 apply bb
 apply az
 apply yp (v:=.d (.bool true))
 case h1=>kd_p
 case h2 =>
  apply cf (H1:=H) (xs:=(so.map fun k=>(.str k : D)).map .d) (C:=fun J=>True)
  case S=>exact ⟨by decide +kernel,rfl,by decide +kernel⟩
  case hfi=>exact ct (by k_upd)
  case hit =>
   refine d4 (xs:=so.map fun k=>(.str k : D)) ?_ ik
   apply bo
   case hx=>k_upd
   case hg=>kd_adr
   case hd=>k_upd
   case hp=>k_upd
   case h =>
    apply af
    case hp=>exact rfl
    case h=>kd_p
    exact ag
   exact l9 (es:=bkD bk) .d (by rw [List.length_map]; have:=hk.len; exact Nat.lt_of_le_of_lt this (by decide)) so hk.srt
  apply ja (lo':=[(S "told",.d (jh num c))])
  case h=>k_upd
  refine jz (C:=fun J=>True) (fun k=>(.str k : D)) (fun k=>.int (oq bk k)) (fun k=>[(S "place",.d (.str k)),(S "told",.d (jh num c))]) (fun J=>trivial) (fun k=>bw (by k_upd)) (fun k=>cj (by k_upd)) (fun k hm ys=>?_) (Nat.le_trans hk.sz (by decide : 60 <= 2 ^ 20))
  refine al fun Gq kq=>?_
  obtain ⟨e,p,h1,h2,h3,h4⟩:=hk.at_ k hm
  refine kq ?_
  rw [h4]
  subst h3
  apply an
  case h1 =>
   apply bo
   case hx=>k_upd
   case hg=>kd_adr
   case hd=>k_upd
   case hp=>k_upd
   case h =>
    apply af
    case hp=>exact rfl
    case h =>
     apply av
     case h1=>exact br (v:=.d (.list [.list (bh num 0 (c 0)),.list (bh num 1 (c 1)),.list (bh num 2 (c 2)),.list [.none]])) (de (by k_upd) ky) (by k_upd)
     case h2 =>
      apply bd T
      case hx=>k_upd
      case hg=>exact (by k_upd : cb.lookup _ = some (.ref 257))
      case hd=>k_upd
      case F=>exact T.f257
      case hp=>k_upd
      case h =>
       apply af
       case hp=>exact rfl
       case h=>kd_p
       exact ag
      exact wi T h2
     case ht=>exact bq .d
     case ho=>exact bv .d (J9 h2) (by exact Nat.le_trans h2 (by decide))
     exact fun J J=>⟨_,rfl⟩
    exact ag
   have:=b8 (cx:=cx) (B:=true) (n:=n + 1) (H:=H ++ [O.lst ys]) (v:=.d (.list (bh num p (c p)))) .d (by rw [fj]; have:=hk.c p h2; exact Nat.le_trans this (by decide))
   rw [fj] at this
   exact this
  case h2=>kd_p
  exact ox
 case ho =>
  have:=ix (cx:=cx) (B:=true) (n:=n + 1) (v:=.loc A.length) (w:=.loc H.length) (.loc hg) (.loc ay) hsh hsh
  rw [wq hsh] at this
  exact this
 exact rfl
theorem E0 (T : Top cx) {so : List Str} (hR : OkA RR) (hR' : okR RR) (hc : Clo H H.length) (hrs : rs = c6 (RR.map rtx)) (hcm : cm.length <= 1000) (hlow : ∀ e ∈ cm,(Builtin.Str.tooLong (Txt.lower e.1).length) = false) (hes : es = en cm) (hok : ∀ e ∈ es,PyData.strOk e.1 = true /\ PyData.strOk e.2 = true) (hl : bk.length = (bkW RR).length) (hb : ∀ k e,(k,e) ∈ bk -> ∃ f,(bkW RR).lookup k = some f /\ qg e f) (hk : OkK bk c so) :
  ∃ K,Ex cx true (n + 2) (ak 29) ((ar 29).drop 3) (zLo num c RR bk rs cm es xs) H (.ret (.d (.bool true))) (H ++ K):=by
 rw [show (ar 29).drop 3 = [nth 3 (ar 29),nth 4 (ar 29),nth 5 (ar 29),nth 6 (ar 29),nth 7 (ar 29),nth 8 (ar 29)] from rfl]
 let K1 : Hp:=[.lst (RR.map fun r=>.str (rtx r))]
 let K2 : Hp:=K1 ++ [.dead]
 let K3 : Hp:=K2 ++ [.lst (bg es)]
 let K4 : Hp:=K3 ++ [.lst (l8 bk so)]
 let K5 : Hp:=K4 ++ [.lst (l8 bk so)]
 have a1 : (H ++ K1) ++ [.dead] = H ++ K2:=List.append_assoc ..
 have a2 : (H ++ K2) ++ [.lst (bg es)] = H ++ K3:=List.append_assoc ..
 have a3 : (H ++ K3) ++ [.lst (l8 bk so)] = H ++ K4:=List.append_assoc ..
 have a4 : (H ++ K4) ++ [.lst (l8 bk so)] = H ++ K5:=List.append_assoc ..
 have c3 : Clo (H ++ K3) (H ++ K3).length:=fun i o hi eo l hll=>by
  rw [List.length_append]
  by_cases q : i < H.length
  ·rw [List.getElem?_append_left q] at eo
   have:=hc i o q eo l hll
   exact Nat.le_trans this (Nat.le_add_right _ _)
  ·obtain ⟨j,rfl⟩ : ∃ j,i = H.length + j:=⟨i - H.length,by omega⟩
   rw [bz] at eo
   have hm : o ∈ ([.lst (RR.map fun r=>.str (rtx r)),.dead,.lst (bg es)] : Hp):=List.mem_of_getElem? eo
   simp only [List.mem_cons,List.not_mem_nil,or_false] at hm
   rcases hm with rfl | rfl | rfl <;> cases hll
 refine ⟨K5,ah (stA T hR hc hrs) (ah (H1:=H ++ K2) (a1 ▸ stB T hcm hlow) (ah (H1:=H ++ K3) (a2 ▸ stC T hcm hes hok) (ah (stD T hR' c3 hl hb) (ah (H1:=H ++ K4) (a3 ▸ stE T hk) ?_))))⟩
 have:=stF (cx:=cx) (n:=n + 1) (H:=H ++ K4) (num:=num) (RR:=RR) (rs:=rs) (cm:=cm) (es:=es) (xs:=xs) T hk (A:=H ++ K3) a3.symm
 rw [a4] at this
 exact this
end
section
open PySem PySem.Spec PySem.Calls PyProof PyProof.Rows PySem.W
variable {cx : Cx} {n : Nat} {b : Bool} {H H1 H2 : Hp} {sc : Scope} {lo lo1 : Lo} {L : Addr} {m : Str -> Option Value}
variable {N : Addr} {mN : Str -> Option Value} {fI fC fS fD fG fK fT : Addr}
theorem Lw {ρ ρ' : Rh} {X : List Addr} {h h' : Heap} {env : Env} (x : Ext (env.locals :: cx.tabs) ρ h ρ' h') (I : Inv cx ρ H X h) (F : FrOk cx env lo ρ X h) (hm : ∀ x v,lo.lookup x = some v -> env.kindOf x = some .local -> ∃ rv,m x = some rv /\ VOk cx (zH h ρ X) ρ rv v) (hn : h'.Ns env.locals m) : FrOk cx env lo ρ' X h':=by
 have hE : ∀ a ∈ env.locals :: cx.tabs,a ∈ X:=fun a ha=>(List.mem_cons.mp ha).elim (fun e=>e ▸ F.lx) (I.xt a)
 have pk : ∀ b o,b ∈ X -> b ∉ cx.tabs -> b ≠ env.locals -> h.get? b = some o -> h'.get? b = some o:=fun b o hb ht hl e=>x.pres b o e (fun q=>I.dx b q hb) (fun q=>(List.mem_cons.mp q).elim hl ht)
 exact F.chg F.lx (fun y c e=>(F.ce y c e).1) (fun y c o e=>have q:=F.ce y c e; pk c o q.1 q.2.1 q.2.2.1) (fun J J=>x.v hE) (fun J J e J=>e) ⟨m,hn,fun y v e k=>(hm y v e k).imp fun J q=>⟨q.1,x.v hE q.2⟩⟩
structure Np (num : Nat -> Int) (ps : List Int) (rr0 : List Nat) (st : TS) (s' : WS) (rt' : List Nat) (so : List Str) : Prop where
 h0 : (TS.start num).ring num (j8 ps 0) = some rr0
 run : TS.run num ps 20 (TS.start num) rr0 = some st
 walk : oo num [3,2,1] WS.zero [0] = some (s',rt')
 last : st.last = [.none]
 cnt : ∀ k,k < 3 -> st.cnt k = s'.cnt k
 okA : OkA s'.rg
 okR : okR s'.rg
 rings : c6 st.rs = c6 (s'.rg.map rtx)
 cm : st.cm.length <= 1000
 low : ∀ e ∈ st.cm,(Builtin.Str.tooLong (Txt.lower e.1).length) = false
 es : st.es num = en st.cm
 ok : ∀ e ∈ st.es num,PyData.strOk e.1 = true /\ PyData.strOk e.2 = true
 bl : st.bk.length = (bkW s'.rg).length
 bs : ∀ k e,(k,e) ∈ st.bk -> ∃ f,(bkW s'.rg).lookup k = some f /\ qg e f
 kk : OkK st.bk st.cnt so
noncomputable abbrev sLo (num : Nat -> Int) (xs : List Int) : Lo:=[(S "numbers",.d (nmD num)),(S "script",.d (.list (xs.map .int)))]
noncomputable abbrev M6 (num : Nat -> Int) (c : Nat -> Nat) (bk : List (Str × Sts)) (rs : List Str) (cm es : List Row) (xs : List Int) : Lo :=
 (S "book",.d (.dict ((bkD bk).map enc))) :: (S "rings",.d (.list (rs.map .str))) :: (S "told",.d (jh num c)) :: (S "came",.d (.list (bg cm))) :: (S "items",.d (.list (bg es))) :: sLo num xs
noncomputable def stT : Expr × List Expr:=match nth 1 (ar 29) with
 | .Assign _ (.Call e as _ _) _=>(e,as)
 | _=>(.Constant .none 0 ⟨0,0,0,0⟩,[])
theorem Nt (num : Nat -> Int) {xs : List Int} (hx : xs.length <= 1000) : Evs cx true n (ak 29) stT.2 (sLo num xs) H [.d (nmD num),.d (.list ((xs.drop 3 ++ [0]).map .int))] H:=by
 have e : (xs.drop 3 ++ [0]).map PyData.int = ((xs.map PyData.int).drop 3) ++ [.int 0]:=by rw [List.map_append,List.map_drop]; rfl
 have e2 : stT.2 = [_,_]:=rfl
 rw [e,e2]
 apply af (v:=.d (nmD num)) (vs:=[.d (.list ((xs.map PyData.int).drop 3 ++ [PyData.int 0]))])
 case hp=>exact rfl
 case h=>kd_p
 apply af (v:=.d (.list ((xs.map PyData.int).drop 3 ++ [PyData.int 0]))) (vs:=[])
 case hp=>exact rfl
 case h =>
  apply an
  case h1 =>
   apply dh
   case h1=>kd_p
   case h2 =>
    apply dj
    kd_p
   case h3=>exact di
   case ht=>exact bq .d
   have:=lb (cx:=cx) (B:=true) (n:=n) (H:=H) (v:=.d (.list (xs.map .int))) (lw:=some ((3 : Nat) : Int)) (hi:=none) .d (by rw [List.length_map]; exact Nat.le_trans hx (by decide))
   rw [i3] at this
   exact this
  case h2 =>
   apply cn (xs:=[.int 0])
   case h =>
    apply af (v:=.d (.int 0)) (vs:=[])
    case hp=>exact rfl
    case h=>kd_p
    exact ag
   simp
  exact ru .d .d (by simp; exact Nat.le_trans hx (by decide))
 exact ag
theorem Oo (T : Top cx) (Td : DTop cx) (HT : HTop cx N mN fI fC fS fD fG fK fT) (R : Regs cx) {num : Nat -> Int} (hs : et num) {xs : List Int} (hx : xs.length <= 1000) (hc : Clo H H.length) {rr0 : List Nat} {st : TS} (h0 : (TS.start num).ring num (j8 (xs.drop 3 ++ [0]) 0) = some rr0) (hrun : TS.run num (xs.drop 3 ++ [0]) 20 (TS.start num) rr0 = some st) (hlast : st.last = [.none])
  {A : Around} {env : Env} {X : List Addr} {ρ : Rh} {s : Shared} (hsc : env.scope = ak 29) (hef : env.frame = some env.locals) (hfr : A.frames = some [env]) (hr : Rm true (n + 30) A) (I : Inv cx ρ H X s.heap) (F : FrOk cx env (sLo num xs) ρ X s.heap) :
  wpAny (M cx) A (exec (nth 1 (ar 29)) env) (kd cx env X ρ s (.nxt (M6 num st.cnt st.bk (c6 st.rs) st.cm (st.es num) xs)) H) No s:=by
 refine Assign_Tuple (nw (cx:=cx) (n:=n + 30) T (by k_upd) (by k_upd : cb.lookup _ = some (.ref 278)) (by k_upd) T.f278 (by k_upd) (Nt num hx) hsc hr I F fun ρ1 s1 rvs a1 q1=>?_) rfl rfl
 have F1:=a1.fr I F
 refine al fun Gq kq=>?_
 obtain ⟨m,hn,hm⟩:=F1.ns
 refine kq ?_
 refine wpAny_mono (Hr (cx:=cx) (L:=env.locals) (m:=m) T Td HT R hs hc (by simp) (by rw [List.length_append,List.length_drop]; simp; exact Nat.le_trans hx (by decide)) h0 hrun F.lt rfl hef (by rw [F.kind]; exact fun q=>nomatch q) hfr hr (a1.inv.into F1.lx F.lt hn) (VsOk.out.mpr q1)) (fun rv s2 q2=>?_) fun J J x=>x
 refine al fun Gq kq=>?_
 obtain ⟨ρ2,a2,v2⟩:=q2
 obtain ⟨I2,n2⟩:=a2.inv.outof F.lt
 refine kq ?_
 have F2 : FrOk cx env (sLo num xs) ρ2 X s2.heap:=Lw a2.ext a1.inv F1 hm n2
 have a3 : Aft cx (fE cx env) X ρ1 s1 H ρ2 s2:=⟨a2.fin,I2,a2.ext.mono fun a ha=>(List.mem_cons.mp ha).elim (fun e=>e ▸ List.mem_append.mpr (.inl (.head _))) (tE a)⟩
 have v3 : VOk cx (zH s2.heap ρ2 X) ρ2 rv (.d (.tuple [.list (bg (st.es num)),.list (bg st.cm),jh num st.cnt,.list ((c6 st.rs).map .str),.dict ((bkD st.bk).map enc)])):=by
  have:=VOk.out.mp v2
  unfold TS.ret at this
  rw [hlast] at this
  exact this
 have N5 : Names true (ak 29) (match nth 1 (ar 29) with | .Assign [.Tuple es _ _] _ _=>es | _=>[]) [.list (bg (st.es num)),.list (bg st.cm),jh num st.cnt,.list ((c6 st.rs).map .str),.dict ((bkD st.bk).map enc)] (sLo num xs) (M6 num st.cnt st.bk (c6 st.rs) st.cm (st.es num) xs) :=
  .cons (by k_upd) (.cons (by k_upd) (.cons (by k_upd) (.cons (by k_upd) (.cons (by k_upd) .nil))))
 refine wpAny_mono ((eu N5).go A env X ρ2 H s2 rv hsc (hr.1 rfl) I2 F2 v3) (fun J s3 q3=>?_) fun J J x=>x
 exact ⟨ρ2,((a1.mono tE).trans a3).trans (q3.1.mono v8),rfl,q3.2⟩
theorem Ey (T : Top cx) (Td : DTop cx) (HT : HTop cx N mN fI fC fS fD fG fK fT) (R : Regs cx) {xs : List Int} (hx : xs.length <= 1000) (hc : Clo H H.length) (PL : ∀ num,et num -> ∃ rr0 st s' rt' so,Np num (xs.drop 3 ++ [0]) rr0 st s' rt' so)
  {A : Around} {env : Env} {X : List Addr} {ρ : Rh} {s : Shared} (hsc : env.scope = ak 29) (hef : env.frame = some env.locals) (hfr : A.frames = some [env]) (hr : Rm true (n + 30) A) (I : Inv cx ρ H X s.heap) (F : FrOk cx env [(S "script",.d (.list (xs.map .int)))] ρ X s.heap) :
  wpAny (M cx) A (execs (ar 29) env) (fun f s'=>∃ K,kd cx env X ρ s (.ret (.d (.bool true))) (H ++ K) f s') No s:=by
 refine al fun Gq kq=>?_
 obtain ⟨num,hs,hnum⟩:=A8 (cx:=cx) (n:=n + 29) T hx hc
 obtain ⟨rr0,st,s',rt',so,p⟩:=PL num hs
 have hcnt : jh num s'.cnt = jh num st.cnt:=by
  unfold jh
  rw [p.cnt 0 (by decide),p.cnt 1 (by decide),p.cnt 2 (by decide)]
 have x0 : Ex1 cx true (n + 30) (ak 29) (nth 0 (ar 29)) [(S "script",.d (.list (xs.map .int)))] H (.nxt (sLo num xs)) H:=by
  apply ai (v:=_)
  case h =>
   apply bd T
   case hx=>k_upd
   case hg=>exact (by k_upd : cb.lookup _ = some (.ref 250))
   case hd=>k_upd
   case F=>exact T.f250
   case hp=>k_upd
   case h =>
    apply af
    case hp=>exact rfl
    case h=>kd_p
    exact ag
   exact hnum
  exact .inl (by k_upd)
 have x2 : Ex1 cx true (n + 30) (ak 29) (nth 2 (ar 29)) (M6 num st.cnt st.bk (c6 st.rs) st.cm (st.es num) xs) H (.nxt (zLo num st.cnt s'.rg st.bk (c6 st.rs) st.cm (st.es num) xs)) H:=by
  refine eg (ys:=[jh num st.cnt,.list (s'.rg.map dg)]) ?_ (.cons (by k_upd) (.cons (by k_upd) .nil)) (fun J=>rfl) (fun J=>rfl)
  have hw:=Dd (cx:=cx) (n:=n + 26) T p.walk hc
  rw [show s'.ret num = .tuple [jh num st.cnt,.list (s'.rg.map dg)] by rw [<- hcnt]; rfl] at hw
  apply bd T
  case hx=>k_upd
  case hg=>exact (by k_upd : cb.lookup _ = some (.ref 290))
  case hd=>k_upd
  case F=>exact T.f290
  case hp=>k_upd
  case h =>
   apply af
   case hp=>exact rfl
   case h=>kd_p
   exact ag
  exact hw
 obtain ⟨K,xt⟩:=E0 (cx:=cx) (n:=n + 28) (H:=H) (num:=num) (xs:=xs) T p.okA p.okR hc p.rings p.cm p.low p.es p.ok p.bl p.bs p.kk
 refine kq ?_
 have hsplit : ar 29 = nth 0 (ar 29) :: nth 1 (ar 29) :: nth 2 (ar 29) :: (ar 29).drop 3:=rfl
 rw [hsplit]
 refine wpAny_execs_cons (x0.runN hsc hr I F fun ρ1 s1 a1 F1=>?_)
 refine wpAny_execs_cons (wpAny_mono (Oo (n:=n) T Td HT R hs hx hc p.h0 p.run p.last hsc hef hfr hr a1.inv F1) (fun f s2 q2=>?_) fun J J x=>x)
 refine al fun Gq kq=>?_
 obtain ⟨ρ2,a2,rfl,F2⟩:=q2
 refine kq ?_
 refine wpAny_mono ((ah x2 xt).go A env X ρ2 s2 hsc hr a2.inv F2) (fun f s3 q3=>?_) fun J J x=>x
 refine al fun Gq kq=>?_
 obtain ⟨ρ3,a3,e3⟩:=q3
 refine kq ?_
 exact ⟨K,ρ3,(a1.trans a2).trans a3,e3⟩
end
section
noncomputable def kr (rr : List Nat) : List Nat:=[1,2,3].filter fun p=>rr.contains p
noncomputable def vx : List (List Nat):=[[1],[2],[3],[1,2],[1,3],[2,3],[1,2,3]]
noncomputable def gr (f : Nat -> Nat) (s : List Nat) : Bool:=vx.contains s && (s.all fun p=>s.contains (f p)) && s.all fun p=>s.all fun q=>q == p || q == f p || q == f (f p)
noncomputable def yj (f : Nat -> Nat) (rr : List Nat) : Bool:=rr.isPerm (kr rr) && gr f (kr rr)
noncomputable def w5 (f : Nat -> Nat) (p : Nat) : Bool:=f p == 0 || f (f p) == 0 || f (f (f p)) == 0
noncomputable def w1B (a b c s : Nat) : Bool:=match wk (fn a b c) 6 [] (some s) with
 | some (w,some m)=>yj (fn a b c) (w.drop (w.idxOf m)) && !(w.drop (w.idxOf m)).isEmpty
 | some (_,none)=>w5 (fn a b c) s
 | none=>false
theorem Nc : ((List.range 4).all fun a=>(List.range 4).all fun b=>(List.range 4).all fun c=>w1B a b c 1 && w1B a b c 2 && w1B a b c 3) = true:=by k_upd
theorem O8 {a b c s : Nat} (ha : a < 4) (hb : b < 4) (hc : c < 4) (h1 : 1 <= s) (h4 : s < 4) : w1B a b c s = true:=by
 have:=List.all_eq_true.mp (List.all_eq_true.mp (List.all_eq_true.mp Nc a (List.mem_range.mpr ha)) b (List.mem_range.mpr hb)) c (List.mem_range.mpr hc)
 rw [Bool.and_eq_true,Bool.and_eq_true] at this
 rcases (by omega : s = 1 \/ s = 2 \/ s = 3) with rfl | rfl | rfl
 ·exact this.1.1
 ·exact this.1.2
 ·exact this.2
theorem y6 {a b c : Nat} (ha : a < 4) (hb : b < 4) (hc : c < 4) : ∀ (st rr : List Nat),(∀ s ∈ st,1 <= s /\ s < 4) -> rg (fn a b c) st = some rr -> (rr ≠ [] /\ yj (fn a b c) rr = true) \/ (rr = [] /\ ∀ s ∈ st,w5 (fn a b c) s = true)
 | [],rr,_,e=>by cases e; exact .inr ⟨rfl,fun J h=>nomatch h⟩
 | s :: st,rr,h,e=>by
  have h1:=O8 ha hb hc (h s (.head _)).1 (h s (.head _)).2
  unfold w1B at h1
  unfold rg at e
  rcases hw : wk (fn a b c) 6 [] (some s) with _ | ⟨w,_ | m⟩
  ·rw [hw] at h1; cases h1
  ·rw [hw] at h1 e
   rcases y6 ha hb hc st rr (fun s hs=>h s (.tail _ hs)) e with q | ⟨q1,q2⟩
   ·exact .inl q
   ·exact .inr ⟨q1,fun x hx=>(List.mem_cons.mp hx).elim (fun e=>e ▸ h1) (q2 x)⟩
  ·rw [hw] at h1 e
   simp only [Option.some.injEq] at e
   subst e
   simp only [Bool.and_eq_true,Bool.not_eq_true',List.isEmpty_eq_false_iff] at h1
   exact .inl ⟨h1.2,h1.1⟩
theorem Fh : ((List.range 4).all fun a=>(List.range 4).all fun b=>(List.range 4).all fun c=>vx.all fun s=>vx.all fun q=>!(gr (fn a b c) s && gr (fn a b c) q && s.any fun x=>q.contains x) || s == q) = true:=by k_upd
theorem fp {f : Nat -> Nat} {s : List Nat} (h : gr f s = true) : s ∈ vx:=by
 unfold gr at h
 simp only [Bool.and_eq_true] at h
 exact List.contains_iff_mem.mp h.1.1
theorem Dr {a b c : Nat} (ha : a < 4) (hb : b < 4) (hc : c < 4) {s q : List Nat} (h1 : gr (fn a b c) s = true) (h2 : gr (fn a b c) q = true) {x : Nat} (hx : x ∈ s) (hy : x ∈ q) : s = q:=by
 have:=List.all_eq_true.mp (List.all_eq_true.mp (List.all_eq_true.mp (List.all_eq_true.mp (List.all_eq_true.mp Fh a (List.mem_range.mpr ha)) b (List.mem_range.mpr hb)) c (List.mem_range.mpr hc)) s (fp h1)) q (fp h2)
 rw [h1,h2,Bool.or_eq_true,Bool.not_eq_true',beq_iff_eq] at this
 rcases this with q | q
 ·rw [Bool.and_eq_false_iff] at q
  rcases q with q | q
  ·cases q
  ·rw [List.any_eq_false] at q
   exact absurd (List.contains_iff_mem.mpr hy) (q x hx)
 ·exact q
theorem Bf {f g : Nat -> Nat} {s : List Nat} (h : gr f s = true) (e : ∀ p ∈ s,f p = g p) : gr g s = true:=by
 unfold gr at h ⊢
 simp only [Bool.and_eq_true,List.all_eq_true,Bool.or_eq_true,beq_iff_eq] at h ⊢
 obtain ⟨⟨h1,h2⟩,h3⟩:=h
 refine ⟨⟨h1,fun p hp=>?_⟩,fun p hp q hq=>?_⟩
 ·rw [<- e p hp]; exact h2 p hp
 ·have:=h3 p hp q hq
  rw [e (f p) (List.contains_iff_mem.mp (h2 p hp)),e p hp] at this
  exact this
theorem mt {s : List Nat} (h : s ∈ vx) : (∀ p ∈ s,1 <= p /\ p < 4) /\ s ≠ [] /\ s.length <= 3:=by
 have : (vx.all fun s=>(s.all fun p=>decide (1 <= p) && decide (p < 4)) && !s.isEmpty && decide (s.length <= 3)) = true:=by k_upd
 have:=List.all_eq_true.mp this s h
 simp only [Bool.and_eq_true,List.all_eq_true,decide_eq_true_eq,Bool.not_eq_true',List.isEmpty_eq_false_iff] at this
 exact ⟨this.1.1,this.1.2,this.2⟩
noncomputable def er (c : Nat -> Nat) (s : List Nat) : Nat -> Nat:=fun k=>if s.contains (k + 1) then c k + 1 else c k
inductive Tr (num : Nat -> Int) : (Nat -> Nat) -> List (List fu) -> (Nat -> Nat) -> Prop
 | nil {c} : Tr num c [] c
 | cons {c s CR c'} : gr (cF num c) s = true -> Tr num (er c s) CR c' -> Tr num c (s.map (gy num c) :: CR) c'
variable {num : Nat -> Int} {c c' : Nat -> Nat}
theorem uz {q : List Nat} {p : Nat} (h1 : 1 <= p) (h4 : p < 4) (hq : p ∉ q) : er c q (p - 1) = c (p - 1) /\ cF num (er c q) p = cF num c p:=by
 have e : er c q (p - 1) = c (p - 1):=by
  unfold er
  rw [if_neg]
  rw [show p - 1 + 1 = p by exact Nat.sub_add_cancel h1]
  exact fun h=>hq (List.contains_iff_mem.mp h)
 refine ⟨e,?_⟩
 have:=zn (num:=num) (cnt:=er c q) (k:=p - 1) (by exact Nat.sub_lt_left_of_lt_add (by assumption) h4)
 have h2:=zn (num:=num) (cnt:=c) (k:=p - 1) (by exact Nat.sub_lt_left_of_lt_add (by assumption) h4)
 rw [show p - 1 + 1 = p by exact Nat.sub_add_cancel h1] at this h2
 rw [this,h2,e]
theorem Bg {s q : List Nat} (h1 : gr (cF num c) s = true) (h2 : gr (cF num c) q = true) {x : Nat} (hx : x ∈ s) (hy : x ∈ q) : s = q :=
 Dr cu cu cu h1 h2 hx hy
theorem zy {s q : List Nat} (h : gr (cF num c) s = true) (hd : ∀ x ∈ s,x ∉ q) : gr (cF num (er c q)) s = true:=by
 have hs:=(mt (fp h)).1
 exact Bf h fun p hp=>((uz (hs p hp).1 (hs p hp).2 (hd p hp)).2).symm
theorem zj {s q : List Nat} (h : s ∈ vx) (hd : ∀ x ∈ s,x ∉ q) : s.map (gy num (er c q)) = s.map (gy num c):=by
 have hs:=(mt h).1
 refine List.map_congr_left fun p hp=>?_
 unfold gy
 rw [(uz (num:=num) (hs p hp).1 (hs p hp).2 (hd p hp)).1,(uz (hs p hp).1 (hs p hp).2 (hd p hp)).2]
theorem B2 {s q : List Nat} : er (er c q) s = er (er c s) q:=by
 funext k
 unfold er
 cases h1 : s.contains (k + 1) <;> cases h2 : q.contains (k + 1) <;> rfl
noncomputable def A2 (num : Nat -> Int) (c : Nat -> Nat) : Prop:=∀ s,gr (cF num c) s = false
theorem Tr.swap {CR : List (List fu)} (t : Tr num c CR c') (hf : A2 num c') : ∀ {s : List Nat},gr (cF num c) s = true -> ∃ CR',Tr num (er c s) CR' c' /\ CR.Perm (s.map (gy num c) :: CR'):=by
 induction t with
 | nil=>intro s hs; rw [hf s] at hs; cases hs
 | @cons c q CR c' hq t ih =>
  intro s hs
  by_cases hm : ∃ x,x ∈ s /\ x ∈ q
  ·obtain ⟨x,h1,h2⟩:=hm
   obtain rfl:=Bg hs hq h1 h2
   exact ⟨CR,t,.refl _⟩
  ·have hd : ∀ x ∈ s,x ∉ q:=fun x h1 h2=>hm ⟨x,h1,h2⟩
   have hd' : ∀ x ∈ q,x ∉ s:=fun x h1 h2=>hm ⟨x,h2,h1⟩
   obtain ⟨CR',t',p⟩:=ih hf (zy hs hd)
   refine ⟨q.map (gy num (er c s)) :: CR',.cons (zy hq hd') (B2 ▸ t'),?_⟩
   rw [zj (fp hq) hd']
   rw [zj (fp hs) hd] at p
   exact (p.cons _).trans (.swap _ _ _)
theorem Tr.conf {CR : List (List fu)} (t : Tr num c CR c') (hf : A2 num c') : ∀ {CW : List (List fu)} {cw : Nat -> Nat},Tr num c CW cw -> A2 num cw -> c' = cw /\ CR.Perm CW:=by
 induction t with
 | nil =>
  intro CW cw t hw
  cases t with
  | nil=>exact ⟨rfl,.refl _⟩
  | cons h _=>rw [hf] at h; cases h
 | @cons c q CR c' hq t ih =>
  intro CW cw t2 hw
  obtain ⟨CW',t3,p⟩:=t2.swap hw hq
  obtain ⟨h1,h2⟩:=ih hf t3 hw
  exact ⟨h1,(h2.cons _).trans p.symm⟩
end
section
variable {num : Nat -> Int} {c c' : Nat -> Nat}
noncomputable def it5 (d x : Int) : Int:=((((x.fdiv d).fdiv d).fdiv d).fdiv d).fdiv d
theorem Me : ((List.range 2000).all fun i=>let x:=(i : Int) - 1000; (it5 12 x == 0 || it5 12 x == -1) && (it5 8 x == 0 || it5 8 x == -1) && it5 (-7) x == 0) = true:=by k_upd
theorem Es {x : Int} (h : -1000 < x /\ x < 1000) : (it5 12 x = 0 \/ it5 12 x = -1) /\ (it5 8 x = 0 \/ it5 8 x = -1) /\ it5 (-7) x = 0:=by
 have:=List.all_eq_true.mp Me (x + 1000).toNat (List.mem_range.mpr (by omega))
 have e : (((x + 1000).toNat : Nat) : Int) - 1000 = x:=by omega
 rw [e] at this
 simp only [Bool.and_eq_true,Bool.or_eq_true,beq_iff_eq] at this
 exact ⟨this.1.1,this.1.2,this.2⟩
theorem xw (h : et num) : ∀ m,(stk num 0 (5 + m) = 0 \/ stk num 0 (5 + m) = -1) /\ (stk num 1 (5 + m) = 0 \/ stk num 1 (5 + m) = -1) /\ stk num 2 (5 + m) = 0
 | 0=>⟨(Es (h 0)).1,(Es (h 1)).2.1,(Es (h 2)).2.2⟩
 | m + 1=>by
  obtain ⟨h0,h1,h2⟩:=xw h m
  have e : ∀ k,stk num k (5 + (m + 1)) = (stk num k (5 + m)).fdiv (dvs k):=fun k=>rfl
  rw [e,e,e,h2]
  refine ⟨?_,?_,by decide⟩
  ·rcases h0 with q | q <;> rw [q] <;> decide
  ·rcases h1 with q | q <;> rw [q] <;> decide
theorem tg (h : et num) {m : Nat} (hm : 5 <= m) : (tgt num 0 m = 0 \/ tgt num 0 m = 3) /\ (tgt num 1 m = 0 \/ tgt num 1 m = 3) /\ tgt num 2 m = 0:=by
 obtain ⟨q,rfl⟩ : ∃ q,m = 5 + q:=⟨m - 5,by exact (Nat.add_sub_cancel' hm).symm⟩
 obtain ⟨h0,h1,h2⟩:=xw h q
 unfold tgt rs
 rw [h2]
 refine ⟨?_,?_,by decide⟩
 ·rcases h0 with q | q <;> rw [q] <;> decide
 ·rcases h1 with q | q <;> rw [q] <;> decide
noncomputable def mu (c : Nat -> Nat) : Nat:=(6 - c 0) + (6 - c 1) + (6 - c 2)
theorem Jm : ((List.range 4).all fun a=>(List.range 4).all fun b=>(List.range 4).all fun d=>vx.all fun s=>!(gr (fn a b d) s) || (s.contains 1 && a != 0 && a != 3) || (s.contains 2 && b != 0 && b != 3) || (s.contains 3 && d != 0)) = true:=by k_upd
theorem sr {s : List Nat} (k : Nat) : c k <= er c s k:=by
 unfold er; split <;> omega
theorem vo {s : List Nat} {k : Nat} (h : s.contains (k + 1) = true) : er c s k = c k + 1:=if_pos h
theorem Gw {a b : Nat} (h : a - 1 < 5) (e : b = a + 1) : 6 - b < 6 - a:=by
 subst e
 exact Nat.sub_lt_sub_left (Nat.lt_of_le_of_lt (Nat.le_add_of_sub_le (Nat.le_of_lt_succ h)) (by decide)) (Nat.lt_succ_self a)
theorem ut {a b : Nat} (h : a <= b) : 6 - b <= 6 - a:=Nat.sub_le_sub_left h 6
theorem y0 (h : et num) {s : List Nat} (hs : gr (cF num c) s = true) : mu (er c s) < mu c:=by
 have:=List.all_eq_true.mp (List.all_eq_true.mp (List.all_eq_true.mp (List.all_eq_true.mp Jm (tgt num 0 (c 0 - 1)) (List.mem_range.mpr cu)) (tgt num 1 (c 1 - 1)) (List.mem_range.mpr cu)) (tgt num 2 (c 2 - 1)) (List.mem_range.mpr cu)) s (fp hs)
 have e : gr (fn (tgt num 0 (c 0 - 1)) (tgt num 1 (c 1 - 1)) (tgt num 2 (c 2 - 1))) s = true:=hs
 rw [e] at this
 simp only [Bool.or_eq_true,Bool.and_eq_true,bne_iff_ne,Bool.not_true,Bool.false_eq_true,false_or] at this
 have g0:=sr (c:=c) (s:=s) 0
 have g1:=sr (c:=c) (s:=s) 1
 have g2:=sr (c:=c) (s:=s) 2
 unfold mu
 rcases this with (⟨⟨q1,q2⟩,q3⟩ | ⟨⟨q1,q2⟩,q3⟩) | ⟨q1,q2⟩
 ·have : c 0 - 1 < 5:=by
   apply Nat.lt_of_not_le; intro hd
   rcases (tg h hd).1 with z | z
   ·exact q2 z
   ·exact q3 z
  exact Nat.add_lt_add_of_lt_of_le (Nat.add_lt_add_of_lt_of_le (Gw this (vo q1)) (ut g1)) (ut g2)
 ·have : c 1 - 1 < 5:=by
   apply Nat.lt_of_not_le; intro hd
   rcases (tg h hd).2.1 with z | z
   ·exact q2 z
   ·exact q3 z
  exact Nat.add_lt_add_of_lt_of_le (Nat.add_lt_add_of_le_of_lt (ut g0) (Gw this (vo q1))) (ut g2)
 ·have : c 2 - 1 < 5:=by
   apply Nat.lt_of_not_le; intro hd
   exact q2 (tg h hd).2.2
  exact Nat.add_lt_add_of_le_of_lt (Nat.add_le_add (ut g0) (ut g1)) (Gw this (vo q1))
theorem Tr.len (h : et num) {CR : List (List fu)} (t : Tr num c CR c') : mu c' + CR.length <= mu c /\ (∀ k,c k <= c' k /\ c' k <= c k + CR.length):=by
 induction t with
 | nil=>exact ⟨Nat.le_refl _,fun J=>⟨Nat.le_refl _,Nat.le_refl _⟩⟩
 | @cons c s CR c' hs t ih =>
  obtain ⟨i1,i2⟩:=ih
  have:=y0 h hs
  refine ⟨by rw [List.length_cons]; exact Nat.lt_of_le_of_lt i1 this,fun k=>?_⟩
  have g:=sr (c:=c) (s:=s) k
  have g' : er c s k <= c k + 1:=by unfold er; split <;> omega
  obtain ⟨j1,j2⟩:=i2 k
  rw [List.length_cons]
  exact ⟨Nat.le_trans g j1,Nat.le_trans j2 (Nat.le_trans (Nat.add_le_add_right g' _) (Nat.le_of_eq (Nat.add_right_comm _ _ _)))⟩
theorem Tr.at_ {CR : List (List fu)} (t : Tr num c CR c') : ∀ r ∈ CR,r.length <= 3 /\ ∀ a ∈ r,a.1 < 3 /\ a.2.1 < c' a.1 /\ (a.2.2 = 1 \/ a.2.2 = 2 \/ a.2.2 = 3):=by
 induction t with
 | nil=>exact fun J h=>nomatch h
 | @cons c s CR c' hs t ih =>
  intro r hr
  rcases List.mem_cons.mp hr with rfl | hr
  ·obtain ⟨s1,_,s3⟩:=mt (fp hs)
   refine ⟨by rw [List.length_map]; exact s3,fun a ha=>?_⟩
   obtain ⟨p,hp,rfl⟩:=List.mem_map.mp ha
   obtain ⟨p1,p4⟩:=s1 p hp
   have hc:=hs
   unfold gr at hc
   simp only [Bool.and_eq_true,List.all_eq_true] at hc
   have hf:=s1 _ (List.contains_iff_mem.mp (hc.1.2 p hp))
   refine ⟨by show p - 1 < 3; exact Nat.sub_lt_left_of_lt_add (by assumption) p4,?_,or3 hf.1 hf.2⟩
   have g : er c s (p - 1) = c (p - 1) + 1:=vo (by rw [show p - 1 + 1 = p by exact Nat.sub_add_cancel p1]; exact List.contains_iff_mem.mpr hp)
   have mono : ∀ {c : Nat -> Nat} {CR : List (List fu)} {c' : Nat -> Nat},Tr num c CR c' -> ∀ k,c k <= c' k:=fun t=>by
    induction t with
    | nil=>exact fun J=>Nat.le_refl _
    | cons _ _ ih=>exact fun k=>Nat.le_trans (sr k) (ih k)
   exact Nat.lt_of_lt_of_le (Nat.lt_of_le_of_lt (Nat.sub_le _ _) (g ▸ Nat.lt_succ_self _)) (mono t (p - 1))
  ·exact ih r hr
theorem Hf : ((List.range 4).all fun a=>(List.range 4).all fun b=>(List.range 4).all fun d=>vx.all fun s=>!(gr (fn a b d) s) || [1,2,3].all fun t=>(s.filter fun p=>fn a b d p == t).length == (if s.contains t then 1 else 0)) = true:=by k_upd
theorem Tr.bal {CR : List (List fu)} (t : Tr num c CR c') {p : Nat} (hp1 : 1 <= p) (hp4 : p < 4) : (into p CR).length + c (p - 1) = c' (p - 1):=by
 induction t with
 | nil=>simp [into]
 | @cons c s CR c' hs t ih =>
  have:=List.all_eq_true.mp (List.all_eq_true.mp (List.all_eq_true.mp (List.all_eq_true.mp Hf (tgt num 0 (c 0 - 1)) (List.mem_range.mpr cu)) (tgt num 1 (c 1 - 1)) (List.mem_range.mpr cu)) (tgt num 2 (c 2 - 1)) (List.mem_range.mpr cu)) s (fp hs)
  have e : gr (fn (tgt num 0 (c 0 - 1)) (tgt num 1 (c 1 - 1)) (tgt num 2 (c 2 - 1))) s = true:=hs
  rw [e,Bool.not_true,Bool.false_or,List.all_eq_true] at this
  have hb:=this p (by rcases or3 hp1 hp4 with rfl | rfl | rfl <;> decide)
  rw [beq_iff_eq] at hb
  have hi : (into p (s.map (gy num c) :: CR)).length = (s.filter fun x=>cF num c x == p).length + (into p CR).length:=by
   unfold into
   rw [List.flatMap_cons,List.length_append,List.length_map,List.filter_map,List.length_map]
   rfl
  have hb' : (s.filter fun x=>cF num c x == p).length = if s.contains p then 1 else 0:=hb
  rw [hi,hb']
  unfold er at ih
  rw [show p - 1 + 1 = p by exact Nat.sub_add_cancel hp1] at ih
  split at ih <;> split <;> first | omega | (rename_i h1 h2; exact absurd h1 h2) | (rename_i h1 h2; exact absurd h2 h1)
theorem xh : ∀ (rr : List Nat) (s : TS),rr.Nodup -> (∀ p ∈ rr,1 <= p) -> (rr.foldl (fun s p=>s.lay num (p - 1)) s).cnt = er s.cnt rr
 | [],s,_,_=>rfl
 | p :: rr,s,hn,h1=>by
  rw [List.foldl_cons,xh rr _ (List.nodup_cons.mp hn).2 fun x hx=>h1 x (.tail _ hx)]
  funext k
  have hp:=h1 p (.head _)
  have hnp : rr.contains p = false:=by
   cases q : rr.contains p with
   | false=>rfl
   | true=>exact absurd (List.contains_iff_mem.mp q) (List.nodup_cons.mp hn).1
  show (if rr.contains (k + 1) then (if k = p - 1 then s.cnt (p - 1) + 1 else s.cnt k) + 1 else (if k = p - 1 then s.cnt (p - 1) + 1 else s.cnt k)) = if (p :: rr).contains (k + 1) then s.cnt k + 1 else s.cnt k
  rw [List.contains_cons]
  by_cases q : k = p - 1
  ·subst q
   rw [show p - 1 + 1 = p by exact Nat.sub_add_cancel hp,hnp,if_pos rfl,beq_self_eq_true]
   rfl
  ·rw [if_neg q,show (k + 1 == p) = false by rw [beq_eq_false_iff_ne]; omega,Bool.false_or]
theorem uj {r s : List Nat} (h : r.Perm s) : er c r = er c s:=by
 funext k
 unfold er
 have : r.contains (k + 1) = s.contains (k + 1):=by
  rw [Bool.eq_iff_iff,List.contains_iff_mem,List.contains_iff_mem]; exact h.mem_iff
 rw [this]
theorem nb {x : Row} : ∀ (cm : List Row),en (cm ++ [x]) = (en cm).filter (fun e=>!(ff e == ff x)) ++ [x]
 | []=>rfl
 | y :: cm=>by
  have ih:=nb (x:=x) cm
  rw [List.cons_append,en,en,List.map_append]
  have e : (cm.map ff ++ [x].map ff).contains (ff y) = ((cm.map ff).contains (ff y) || (ff y == ff x)):=by
   rw [Bool.eq_iff_iff,List.contains_iff_mem,Bool.or_eq_true,List.contains_iff_mem,List.mem_append,beq_iff_eq]
   simp
  rw [e,ih]
  cases h1 : (cm.map ff).contains (ff y) with
  | true=>simp
  | false =>
   cases h2 : ff y == ff x with
   | true=>simp [h2]
   | false=>simp [h2]
structure EsInv (num : Nat -> Int) (s : TS) : Prop where
 es : s.es num = en s.cm
 gd : ∀ e ∈ s.cm,e.1 ∈ good /\ e.2 ∈ good
theorem EsInv.lay {s : TS} {k : Nat} (h : EsInv num s) (hk : k < 3) (hs : ∀ i ∈ s.sg,i < 3) : EsInv num (s.lay num k):=by
 refine ⟨?_,fun e he=>?_⟩
 ·rw [<- Dz hk hs,h.es]
  show _ = en (s.cm ++ [iz num k (s.cnt k)])
  rw [nb]
  rfl
 ·rcases List.mem_append.mp (show e ∈ s.cm ++ [iz num k (s.cnt k)] from he) with q | q
  ·exact h.gd e q
  ·rw [List.mem_singleton.mp q]; exact ⟨pu _ _,pi _⟩
theorem EsInv.lays : ∀ (rr : List Nat) (s : TS) (j : Nat),EsInv num s -> TOk j s -> (∀ p ∈ rr,1 <= p /\ p < 4) -> EsInv num (rr.foldl (fun s p=>s.lay num (p - 1)) s)
 | [],s,_,h,_,_=>h
 | p :: rr,s,j,h,ok,hp=>by
  have hk : p - 1 < 3:=by have:=(hp p (.head _)).2; omega
  exact EsInv.lays rr (s.lay num (p - 1)) (j + 1) (h.lay hk ok.sg) (ok.lay hk (by have:=ok.cm; exact Nat.succ_le_succ this)) fun x hx=>hp x (.tail _ hx)
noncomputable def Ll (e : Ar) : Int × Int × Int × Int:=(if e.2 = 1 then 1 else 0,1,((e.1.2.1 : Nat) : Int),((e.2 : Nat) : Int))
noncomputable def bkA (bk : List (Str × Sts)) (e : Ar) : List (Str × Sts):=ic bk (cdL e.1.2.2) (uy ((bk.lookup (cdL e.1.2.2)).getD jq) (Ll e) (ck e.1.1))
theorem ou {α β : Type} {f g : β -> α -> β} : ∀ {l : List α} {b : β},(∀ b,∀ a ∈ l,f b a = g b a) -> l.foldl f b = l.foldl g b
 | [],_,_=>rfl
 | a :: l,b,h=>by rw [List.foldl_cons,List.foldl_cons,h b a (.head _)]; exact ou fun b x hx=>h b x (.tail _ hx)
theorem J8 {s : TS} {rr : List Nat} (h : ∀ p ∈ rr,1 <= p /\ p < 4) : (s.told num rr).bk = (rr.map fun p=>((gy num s.cnt p,rr.length) : Ar)).foldl bkA s.bk:=by
 rw [List.foldl_map]
 refine ou fun b p hp=>?_
 obtain ⟨h1,h4⟩:=h p hp
 have : cdL p = ck (p - 1):=by
  have:=jy (k:=p - 1) (by exact Nat.sub_lt_left_of_lt_add (by assumption) h4)
  rwa [show p - 1 + 1 = p by exact Nat.sub_add_cancel h1] at this
 show ic b (cdL (s.f num p)) (uy ((b.lookup (cdL (s.f num p))).getD jq) (s.ent rr p) (cdL p)) = _
 rw [this]
 rfl
theorem uo {r s : List fu} (h : r.Perm s) : rtx r = rtx s:=by
 unfold rtx np
 rw [sx (h.map tx3)]
structure Nq (num : Nat -> Int) (s st : TS) (CR : List (List fu)) (LL : List Ar) : Prop where
 tr : Tr num s.cnt CR st.cnt
 rs : st.rs = s.rs ++ CR.map rtx
 fin : ∀ p,1 <= p -> p < 4 -> w5 (cF num st.cnt) p = true
 bk : st.bk = LL.foldl bkA s.bk
 ll : ∀ t,(LL.filter fun e=>e.1.2.2 == t).Perm (into t CR)
 es : EsInv num st
 last : st.last = s.last
 ok : ∃ j,TOk j st
 cml : st.cm.length <= s.cm.length + 3 * CR.length
theorem Ae : ∀ (rr : List Nat) (s : TS),(rr.foldl (fun s p=>s.lay num (p - 1)) s).cm.length = s.cm.length + rr.length
 | [],_=>rfl
 | p :: rr,s=>by
  rw [List.foldl_cons,Ae rr,List.length_cons]
  show (s.cm ++ [_]).length + _ = _
  rw [List.length_append]
  show s.cm.length + 1 + _ = _
  exact Nat.add_right_comm _ _ _
theorem Ks {rr : List Nat} (h : rr.Perm (kr rr)) : rr.Nodup /\ ∀ p ∈ rr,1 <= p /\ p < 4:=by
 have hn : (kr rr).Nodup:=List.Pairwise.filter _ (by decide : ([1,2,3] : List Nat).Nodup)
 refine ⟨h.nodup_iff.mpr hn,fun p hp=>?_⟩
 have:=(List.mem_filter.mp (h.mem_iff.mp hp)).1
 simp only [List.mem_cons,List.not_mem_nil,or_false] at this
 exact of3 this
theorem M2 {j : Nat} {s : TS} (ok : TOk j s) (hf : TFull s) (first : Int) {p : Nat} (h1 : 1 <= p) (h4 : p < 4) : p ∈ [0,1,2].map fun j=>s.st (at3 first j):=by
 have hl:=qv ok hf
 have hm:=hf.sg (p - 1) (by exact Nat.sub_lt_left_of_lt_add (by assumption) h4)
 obtain ⟨i,hi,e⟩:=List.getElem_of_mem hm
 have e2 : s.st i = p:=by
  unfold TS.st
  rw [List.getD_eq_getElem?_getD,List.getElem?_eq_getElem hi,Option.getD_some,e]
  exact Nat.sub_add_cancel h1
 rw [hl] at hi
 have hi' : i = at3 first 0 \/ i = at3 first 1 \/ i = at3 first 2:=by
  have:=st3 _ (ei (first:=first) (j:=0)).2 i hi
  rwa [<- Ck (j:=1),<- Ck (j:=2)] at this
 rcases hi' with rfl | rfl | rfl <;> simp [e2]
theorem Gs (hs : et num) {ps : List Int} : ∀ (k : Nat) (s : TS) (rr : List Nat) (j : Nat) (first : Int),TOk j s -> TFull s -> EsInv num s -> s.ring num first = some rr -> mu s.cnt < k -> ∃ st CR LL,TS.run num ps k s rr = some st /\ Nq num s st CR LL
 | 0,_,_,_,_,_,_,_,_,h=>absurd h (Nat.not_lt_zero _)
 | k + 1,s,[],j,first,ok,hf,he,hr,hm=>by
  refine ⟨s,[],[],rfl,.nil,by simp,fun p h1 h4=>?_,rfl,fun t=>by simp [into],he,rfl,⟨j,ok⟩,Nat.le_refl _⟩
  have hst : ∀ x ∈ [0,1,2].map fun j=>s.st (at3 first j),1 <= x /\ x < 4:=fun x hx=>by
   refine al fun Gq kq=>?_
   obtain ⟨i,hi,rfl⟩:=List.mem_map.mp hx
   obtain ⟨e,_,_,_,h4⟩:=(na (num:=num) ok hf).at_ _ (ei (first:=first) (j:=i)).2
   refine kq ?_
   exact ⟨by show 1 <= _ + 1; exact Nat.succ_pos _,h4⟩
  rcases y6 cu cu cu _ _ hst hr with q | q
  ·exact absurd rfl q.1
  ·exact q.2 p (M2 ok hf first h1 h4)
 | k + 1,s,p :: rr,j,first,ok,hf,he,hr,hm=>by
  have hst : ∀ x ∈ [0,1,2].map fun j=>s.st (at3 first j),1 <= x /\ x < 4:=fun x hx=>by
   refine al fun Gq kq=>?_
   obtain ⟨i,hi,rfl⟩:=List.mem_map.mp hx
   obtain ⟨e,_,_,_,h4⟩:=(na (num:=num) ok hf).at_ _ (ei (first:=first) (j:=i)).2
   refine kq ?_
   exact ⟨by show 1 <= _ + 1; exact Nat.succ_pos _,h4⟩
  have hc : yj (cF num s.cnt) (p :: rr) = true:=by
   rcases y6 cu cu cu _ _ hst hr with q | q
   ·exact q.2
   ·exact absurd q.1 (by simp)
  generalize hR : p :: rr = R at hc
  unfold yj at hc
  rw [Bool.and_eq_true] at hc
  obtain ⟨hp,hcy⟩:=hc
  replace hp:=List.isPerm_iff.mp hp
  refine al fun Gq kq=>?_
  obtain ⟨hnd,hin⟩:=Ks hp
  obtain ⟨ok1,hf1⟩:=pp (num:=num) R (s.told num R) j (nr ok) ⟨hf.sg,hf.cnt⟩ hin
  have hcnt : (s.pop num R).cnt = er s.cnt (kr R):=by
   rw [<- uj hp]
   exact xh R (s.told num R) hnd fun x hx=>(hin x hx).1
  have he1 : EsInv num (s.pop num R):=EsInv.lays R (s.told num R) j ⟨he.es,he.gd⟩ (nr ok) hin
  obtain ⟨l1,l2,l3⟩:=pq (num:=num) R (s.told num R)
  obtain ⟨rr1,hr1,_⟩:=p7 (num:=num) (s:=s.pop num R) ok1 hf1 (j8 ps (s.rs.length + 1))
  obtain ⟨st,CR,LL,h1,h2⟩:=Gs hs (ps:=ps) k (s.pop num R) rr1 (j + R.length) (j8 ps (s.rs.length + 1)) ok1 hf1 he1 hr1 (by rw [hcnt]; have:=y0 hs hcy; omega)
  refine kq ?_
  refine ⟨st,(kr R).map (gy num s.cnt) :: CR,(R.map fun p=>((gy num s.cnt p,R.length) : Ar)) ++ LL,?_,?_⟩
  ·rw [<- hR] at hr1 h1 ⊢
   show ((s.pop num (p :: rr)).ring num (j8 ps (s.rs.length + 1))).bind _ = _
   rw [hr1]
   exact h1
  ·refine ⟨.cons hcy (hcnt ▸ h2.tr),?_,h2.fin,?_,fun t=>?_,h2.es,h2.last.trans l3,h2.ok,?_⟩
   ·rw [h2.rs]
    show (R.foldl (fun s p=>s.lay num (p - 1)) (s.told num R)).rs ++ _ = _
    rw [l1,List.map_cons,<- uo (hp.map (gy num s.cnt))]
    show (s.rs ++ [np (R.map (s.tx num))]) ++ _ = _
    rw [List.append_assoc]
    unfold rtx
    rw [List.map_map]
    rfl
   ·rw [h2.bk,List.foldl_append,<- J8 hin]
    show LL.foldl bkA (R.foldl (fun s p=>s.lay num (p - 1)) (s.told num R)).bk = _
    rw [l2]
   ·rw [List.filter_append]
    have e : into t ((kr R).map (gy num s.cnt) :: CR) = ((((kr R).map (gy num s.cnt)).filter fun a=>a.2.2 == t).map fun a=>(a,((kr R).map (gy num s.cnt)).length)) ++ into t CR:=by
     unfold into; rw [List.flatMap_cons]
    rw [e]
    refine List.Perm.append ?_ (h2.ll t)
    rw [List.length_map,<- hp.length_eq]
    have e2 : (R.map fun p=>((gy num s.cnt p,R.length) : Ar)).filter (fun e=>e.1.2.2 == t) = ((R.map (gy num s.cnt)).filter fun a=>a.2.2 == t).map fun a=>(a,R.length):=by
     rw [List.filter_map,List.filter_map,List.map_map]
     rfl
    rw [e2]
    exact ((hp.map _).filter _).map _
   ·have q1:=h2.cml
    have q2:=Ae (num:=num) R (s.told num R)
    have q3:=(mt (fp hcy)).2.2
    rw [<- hp.length_eq] at q3
    have q4 : (s.pop num R).cm.length = s.cm.length + R.length:=q2
    rw [List.length_cons]
    omega
end
section
variable {num : Nat -> Int} {c c' : Nat -> Nat} {f g : Nat -> Nat} {h : Nat}
noncomputable def d0 (f : Nat -> Nat) : List Nat -> Nat -> Bool
 | [],_=>true
 | x :: w,h=>f x == w.headD h && d0 f w h
theorem mh : ∀ {w : List Nat},d0 f w h = true -> d0 f (w ++ [h]) (f h) = true
 | [],_=>by simp [d0]
 | x :: w,q=>by
  unfold d0 at q
  rw [Bool.and_eq_true] at q
  show (f x == (w ++ [h]).headD (f h) && d0 f (w ++ [h]) (f h)) = true
  rw [mh q.2,Bool.and_true,<- q.1]
  cases w <;> rfl
theorem qm : ∀ {w : List Nat} {i : Nat},d0 f w h = true -> w[i]? = some h -> d0 f (w.take i) h = true
 | _,0,_,_=>rfl
 | [],i + 1,_,e=>by cases e
 | x :: w,i + 1,q,e=>by
  unfold d0 at q
  rw [Bool.and_eq_true] at q
  have e' : w[i]? = some h:=by simpa using e
  show (f x == (w.take i).headD h && d0 f (w.take i) h) = true
  rw [qm q.2 e',Bool.and_true,<- q.1]
  cases w with
  | nil=>cases e'
  | cons y w=>cases i with
   | zero=>cases e'; rfl
   | succ i=>rfl
theorem ot : ∀ {w : List Nat},(∀ x ∈ w,f x = g x) -> d0 f w h = true -> d0 g w h = true
 | [],_,_=>rfl
 | x :: w,e,q=>by
  unfold d0 at q ⊢
  rw [Bool.and_eq_true] at q ⊢
  rw [<- e x (.head _)]
  exact ⟨q.1,ot (fun y hy=>e y (.tail _ hy)) q.2⟩
inductive ii (f : Nat -> Nat) : Nat -> Prop
 | z : ii f 0
 | s {x} : ii f (f x) -> ii f x
theorem qk (hg : ii f h) : ∀ {w : List Nat},d0 f w h = true -> ∀ x ∈ w,ii f x
 | [],_,_,m=>nomatch m
 | x :: w,q,y,m=>by
  unfold d0 at q
  rw [Bool.and_eq_true,beq_iff_eq] at q
  have ih:=qk hg q.2
  rcases List.mem_cons.mp m with rfl | m
  ·refine .s ?_
   rw [q.1]
   cases w with
   | nil=>exact hg
   | cons z w=>exact ih z (.head _)
  ·exact ih y m
theorem z9 {x : Nat} (hg : ii f x) : ∀ {s : List Nat},gr f s = true -> x ∉ s:=by
 induction hg with
 | z=>exact fun hs hm=>by have:=((mt (fp hs)).1 0 hm).1; exact absurd this (Nat.lt_irrefl _)
 | s _ ih =>
  intro s hs hm
  refine ih hs ?_
  unfold gr at hs
  simp only [Bool.and_eq_true,List.all_eq_true] at hs
  exact List.contains_iff_mem.mp (hs.1.2 _ hm)
theorem zo {s : List Nat} {x : Nat} (hx : x ∉ s) : cF num (er c s) x = cF num c x:=by
 by_cases h : 1 <= x /\ x < 4
 ·exact (uz h.1 h.2 hx).2
 ·cases x with
  | zero=>rfl
  | succ x=>cases x with
   | zero=>exact absurd (by decide) h
   | succ x=>cases x with
    | zero=>exact absurd (by decide) h
    | succ x=>cases x with
     | zero=>exact absurd (by decide) h
     | succ x=>rfl
theorem Ei {x : Nat} (hg : ii (cF num c) x) {s : List Nat} (hs : gr (cF num c) s = true) : ii (cF num (er c s)) x:=by
 induction hg with
 | z=>exact .z
 | @s x hx ih=>exact .s (by rw [zo (z9 (.s hx) hs)]; exact ih)
theorem Iz {p : Nat} (h : w5 f p = true) : ii f p:=by
 unfold w5 at h
 simp only [Bool.or_eq_true,beq_iff_eq] at h
 rcases h with (h | h) | h
 ·exact .s (h ▸ .z)
 ·exact .s (.s (h ▸ .z))
 ·exact .s (.s (.s (h ▸ .z)))
theorem D5 (h : ∀ p,1 <= p -> p < 4 -> ii (cF num c) p) : A2 num c:=fun s=>by
 cases q : gr (cF num c) s with
 | false=>rfl
 | true =>
  obtain ⟨h1,h2,_⟩:=mt (fp q)
  cases s with
  | nil=>exact absurd rfl h2
  | cons x s=>exact absurd (.head _) (z9 (h x (h1 x (.head _)).1 (h1 x (.head _)).2) q)
noncomputable def G7 : List (List Nat):=[[],[1],[2],[3],[1,2],[1,3],[2,1],[2,3],[3,1],[3,2],[1,2,3],[1,3,2],[2,1,3],[2,3,1],[3,1,2],[3,2,1]]
theorem Kc : ((List.range 4).all fun a=>(List.range 4).all fun b=>(List.range 4).all fun d=>G7.all fun w=>(List.range 4).all fun h=>!(d0 (fn a b d) w h && w.contains h) || yj (fn a b d) (w.drop (w.idxOf h))) = true:=by k_upd
noncomputable def w3 : List Nat:=[1,2,3]
theorem O9 : ∀ p < 4,1 <= p -> p ∈ w3:=by decide
theorem way1 : ∀ x ∈ w3,[x] ∈ G7:=by decide
theorem way2 : ∀ x ∈ w3,∀ y ∈ w3,[x,y].Nodup -> [x,y] ∈ G7:=by decide
theorem way3 : ∀ x ∈ w3,∀ y ∈ w3,∀ z ∈ w3,[x,y,z].Nodup -> [x,y,z] ∈ G7:=by decide
theorem ze {w : List Nat} (hn : w.Nodup) (h : ∀ p ∈ w,1 <= p /\ p < 4) : w ∈ G7 /\ w.length <= 3:=by
 have hl : w.length <= 3:=Nat.le_of_succ_le_succ (io 4 (0 :: w) (List.nodup_cons.mpr ⟨fun m=>absurd (h 0 m).1 (by decide),hn⟩) fun x hx=>(List.mem_cons.mp hx).elim (fun e=>e ▸ by decide) fun m=>(h x m).2)
 refine ⟨?_,hl⟩
 have d3 : ∀ p ∈ w,p ∈ w3:=fun p hp=>O9 p (h p hp).2 (h p hp).1
 cases w with
 | nil=>decide
 | cons x w =>
  have hx:=d3 x (.head _)
  cases w with
  | nil=>exact way1 x hx
  | cons y w =>
   have hy:=d3 y (.tail _ (.head _))
   cases w with
   | nil=>exact way2 x hx y hy hn
   | cons z w =>
    cases w with
    | nil=>exact way3 x hx y hy z (d3 z (.tail _ (.tail _ (.head _)))) hn
    | cons v w=>exact absurd hl (by rw [List.length_cons,List.length_cons,List.length_cons,List.length_cons]; exact fun q=>absurd (Nat.le_of_succ_le_succ (Nat.le_of_succ_le_succ (Nat.le_of_succ_le_succ q))) (Nat.not_succ_le_zero _))
theorem Kd {w : List Nat} {h : Nat} (hn : w.Nodup) (hw : ∀ p ∈ w,1 <= p /\ p < 4) (h4 : h < 4) (hc : d0 (cF num c) w h = true) (hm : w.contains h = true) : yj (cF num c) (w.drop (w.idxOf h)) = true:=by
 have:=List.all_eq_true.mp (List.all_eq_true.mp (List.all_eq_true.mp (List.all_eq_true.mp (List.all_eq_true.mp Kc (tgt num 0 (c 0 - 1)) (List.mem_range.mpr cu)) (tgt num 1 (c 1 - 1)) (List.mem_range.mpr cu)) (tgt num 2 (c 2 - 1)) (List.mem_range.mpr cu)) w (ze hn hw).1) h (List.mem_range.mpr h4)
 have e : d0 (fn (tgt num 0 (c 0 - 1)) (tgt num 1 (c 1 - 1)) (tgt num 2 (c 2 - 1))) w h = true:=hc
 rw [e,hm] at this
 exact this
inductive P2 : List (List fu) -> List (List fu) -> Prop
 | nil : P2 [] []
 | cons {r s R S} : r.Perm s -> P2 R S -> P2 (r :: R) (s :: S)
theorem P2.app {R S R' S' : List (List fu)} (h : P2 R S) (h' : P2 R' S') : P2 (R ++ R') (S ++ S'):=by
 induction h with
 | nil=>exact h'
 | cons a _ ih=>exact .cons a ih
theorem P2.rtx {R S : List (List fu)} (h : P2 R S) : R.map rtx = S.map rtx:=by
 induction h with
 | nil=>rfl
 | cons a _ ih=>rw [List.map_cons,List.map_cons,ih,uo a]
theorem P2.into {R S : List (List fu)} (h : P2 R S) (t : Nat) : (Mine.into t R).Perm (Mine.into t S):=by
 induction h with
 | nil=>exact .refl _
 | cons a _ ih =>
  unfold Mine.into at ih ⊢
  rw [List.flatMap_cons,List.flatMap_cons,a.length_eq]
  exact ((a.filter _).map _).append ih
theorem P2.mem {R S : List (List fu)} (h : P2 R S) : ∀ r ∈ R,∃ s ∈ S,r.Perm s:=by
 induction h with
 | nil=>exact fun J h=>nomatch h
 | cons a _ ih =>
  intro r hr
  rcases List.mem_cons.mp hr with rfl | hr
  ·exact ⟨_,.head _,a⟩
  ·obtain ⟨s,h1,h2⟩:=ih r hr
   exact ⟨s,.tail _ h1,h2⟩
theorem P2.len {R S : List (List fu)} (h : P2 R S) : R.length = S.length:=by
 induction h with
 | nil=>rfl
 | cons _ _ ih=>rw [List.length_cons,List.length_cons,ih]
theorem Tr.app {CR CS : List (List fu)} {c2 : Nat -> Nat} (t : Tr num c CR c') (t2 : Tr num c' CS c2) : Tr num c (CR ++ CS) c2:=by
 induction t with
 | nil=>exact t2
 | cons h _ ih=>exact .cons h (ih t2)
theorem Tr.good {CR : List (List fu)} (t : Tr num c CR c') {x : Nat} (hg : ii (cF num c) x) : ii (cF num c') x:=by
 induction t with
 | nil=>exact hg
 | cons h _ ih=>exact ih (Ei hg h)
structure Ch (num : Nat -> Int) (s : WS) (p : Nat) : Prop where
 ok : ∃ c,wOk s c
 ch : d0 (cF num s.cnt) s.way s.here = true
 hd : (s.way ++ [s.here]).head? = some p
theorem yb : ∀ (rr : List Nat) (c : Nat -> Nat),rr.Nodup -> (∀ p ∈ rr,1 <= p) -> rr.foldl (fun c p=>upc c (p - 1)) c = er c rr
 | [],c,_,_=>rfl
 | p :: rr,c,hn,h1=>by
  rw [List.foldl_cons,yb rr _ (List.nodup_cons.mp hn).2 fun x hx=>h1 x (.tail _ hx)]
  funext k
  have hp:=h1 p (.head _)
  have hnp : rr.contains p = false:=by
   cases q : rr.contains p with
   | false=>rfl
   | true=>exact absurd (List.contains_iff_mem.mp q) (List.nodup_cons.mp hn).1
  show (if rr.contains (k + 1) then (if k = p - 1 then c (p - 1) + 1 else c k) + 1 else (if k = p - 1 then c (p - 1) + 1 else c k)) = if (p :: rr).contains (k + 1) then c k + 1 else c k
  rw [List.contains_cons]
  by_cases q : k = p - 1
  ·subst q
   rw [show p - 1 + 1 = p by exact Nat.sub_add_cancel hp,hnp,if_pos rfl,beq_self_eq_true]
   rfl
  ·rw [if_neg q,show (k + 1 == p) = false by rw [beq_eq_false_iff_ne]; omega,Bool.false_or]
noncomputable def phi (s : WS) : Nat:=4 * mu s.cnt + 3 - s.way.length
theorem ph {a b x y : Nat} (h : a < b) (hy : y <= 3) (hx : 1 <= x) : 4 * a + 3 - x < 4 * b + 3 - y:=by omega
theorem ph2 {b x y : Nat} (h : y <= 3) (hx : x = y + 1) (h' : x <= 3) : 4 * b + 3 - x < 4 * b + 3 - y:=by
 subst hx
 exact Nat.sub_lt_sub_left (Nat.lt_of_lt_of_le h' (Nat.le_add_left _ _)) (Nat.lt_succ_self y)
theorem Nd (hs : et num) {s : WS} {p : Nat} (h : Ch num s p) (h1 : 1 <= s.here) : ∃ CW RG,Tr num s.cnt CW (s.step num).cnt /\ (s.step num).rg = s.rg ++ RG /\ P2 RG CW /\ Ch num (s.step num) p /\ phi (s.step num) < phi s:=by
 obtain ⟨c,ok⟩:=h.ok
 have ok2:=ok.step (num:=num) h1
 have hl2:=(ze ok2.2.1 ok2.1).2
 have hl:=(ze ok.2.1 ok.1).2
 have hpos:=ok.popd (num:=num)
 by_cases hc : s.way.contains s.here = true
 ·have hcy:=Kd ok.2.1 ok.1 ok.2.2.1 h.ch hc
  unfold yj at hcy
  rw [Bool.and_eq_true] at hcy
  obtain ⟨hp,hcy⟩:=hcy
  replace hp:=List.isPerm_iff.mp hp
  generalize hR : s.way.drop (s.way.idxOf s.here) = R at hp hcy
  obtain ⟨hnd,hin⟩:=Ks hp
  have hidx:=qy hc
  have e1 : s.popd num = { s with cnt:=er s.cnt (kr R),rg:=s.rg ++ [R.map (gy num s.cnt)],way:=s.way.take (s.way.idxOf s.here) }:=by
   unfold WS.popd
   rw [if_pos hc,hR,yb R _ hnd fun x hx=>(hin x hx).1,uj hp]
  have e2 : (s.step num).cnt = er s.cnt (kr R):=by show (s.popd num).cnt = _; rw [e1]
  have e3 : (s.step num).rg = s.rg ++ [R.map (gy num s.cnt)]:=by show (s.popd num).rg = _; rw [e1]
  have e4 : (s.step num).way = s.way.take (s.way.idxOf s.here) ++ [s.here]:=by show (s.popd num).way ++ [s.here] = _; rw [e1]
  have e5 : (s.step num).here = cF num (er s.cnt (kr R)) s.here:=by show cF num (s.popd num).cnt s.here = _; rw [e1]
  have hdis : ∀ x ∈ s.way.take (s.way.idxOf s.here),x ∉ kr R:=fun x hx hk=>by
   have hx2 : x ∈ R:=hp.mem_iff.mpr hk
   have hn:=ok.2.1
   rw [<- List.take_append_drop (s.way.idxOf s.here) s.way,List.nodup_append] at hn
   exact hn.2.2 x hx x (hR ▸ hx2) rfl
  refine ⟨[(kr R).map (gy num s.cnt)],[R.map (gy num s.cnt)],?_,e3,.cons (hp.map _) .nil,⟨⟨_,ok2⟩,?_,?_⟩,?_⟩
  ·rw [e2]; exact .cons hcy .nil
  ·rw [e4,e5,e2]
   exact mh (ot (fun x hx=>(zo (hdis x hx)).symm) (qm h.ch hidx.1))
  ·rw [e4,List.append_assoc]
   have:=h.hd
   cases hi : s.way.idxOf s.here with
   | zero =>
    rw [hi] at hidx
    cases hw : s.way with
    | nil=>rw [hw] at hidx; cases hidx.1
    | cons y w =>
     rw [hw] at this hidx
     have e6 : y = s.here:=by simpa using hidx.1
     rw [<- e6]
     exact this
   | succ i =>
    cases hw : s.way with
    | nil=>rw [hw] at hidx; cases hidx.1
    | cons y w=>rw [hw] at this; exact this
  ·unfold phi
   rw [e2]
   have:=y0 hs hcy
   exact ph this hl (by rw [e4,List.length_append]; exact Nat.le_add_left _ _)
 ·have e1 : s.popd num = s:=by unfold WS.popd; rw [if_neg hc]
  have e2 : (s.step num).cnt = s.cnt:=by show (s.popd num).cnt = _; rw [e1]
  have e3 : (s.step num).rg = s.rg ++ []:=by show (s.popd num).rg = _; rw [e1,List.append_nil]
  have e4 : (s.step num).way = s.way ++ [s.here]:=by show (s.popd num).way ++ [s.here] = _; rw [e1]
  have e5 : (s.step num).here = cF num s.cnt s.here:=by show cF num (s.popd num).cnt s.here = _; rw [e1]
  refine ⟨[],[],e2 ▸ .nil,e3,.nil,⟨⟨_,ok2⟩,?_,?_⟩,?_⟩
  ·rw [e4,e5,e2]; exact mh h.ch
  ·rw [e4,List.append_assoc]
   have:=h.hd
   cases hw : s.way with
   | nil=>rw [hw] at this; exact this
   | cons y w=>rw [hw] at this; exact this
  ·unfold phi
   rw [e2]
   exact ph2 hl (by rw [e4,List.length_append]; rfl) hl2
theorem A1 (hs : et num) {rt : List Nat} (h0 : 0 ∈ rt) {p : Nat} : ∀ (k : Nat) (s : WS),Ch num s p -> phi s < k -> ∃ s' CW RG,yd num rt k s = some s' /\ Tr num s.cnt CW s'.cnt /\ s'.rg = s.rg ++ RG /\ P2 RG CW /\ Ch num s' p /\ s'.here ∈ rt
 | 0,_,_,h=>absurd h (Nat.not_lt_zero _)
 | k + 1,s,h,hp=>by
  unfold yd
  by_cases hc : rt.contains s.here = true
  ·rw [if_pos hc]
   exact ⟨s,[],[],rfl,.nil,by simp,.nil,h,List.contains_iff_mem.mp hc⟩
  ·rw [if_neg hc]
   have h1 : 1 <= s.here:=by
    rcases Nat.eq_zero_or_pos s.here with q | q
    ·rw [q] at hc; exact absurd (List.contains_iff_mem.mpr h0) hc
    ·exact q
   refine al fun Gq kq=>?_
   obtain ⟨CW,RG,t1,e1,p1,i1,m1⟩:=Nd hs h h1
   obtain ⟨s',CW2,RG2,r2,t2,e2,p2,i2,m2⟩:=A1 hs h0 k _ i1 (by omega)
   refine kq ?_
   exact ⟨s',CW ++ CW2,RG ++ RG2,r2,t1.app t2,by rw [e2,e1,List.append_assoc],p1.app p2,i2,m2⟩
theorem ux (hs : et num) : ∀ (ps : List Nat) (s : WS) (rt : List Nat),(∃ c,wOk s c) -> mu s.cnt <= 15 -> (∀ p ∈ ps,p < 4) -> 0 ∈ rt -> (∀ x ∈ rt,ii (cF num s.cnt) x) ->
  ∃ s' rt' CW RG,oo num ps s rt = some (s',rt') /\ Tr num s.cnt CW s'.cnt /\ s'.rg = s.rg ++ RG /\ P2 RG CW /\ (∀ x ∈ rt,x ∈ rt') /\ (∀ p ∈ ps,p ∈ rt') /\ ∀ x ∈ rt',ii (cF num s'.cnt) x
 | [],s,rt,_,_,_,_,hg=>⟨s,rt,[],[],rfl,.nil,by simp,.nil,(fun J h=>h),(fun J h=>nomatch h),hg⟩
 | p :: ps,s,rt,⟨c,ok⟩,hmu,hp,h0,hg=>by
  have i0 : Ch num { s with way:=[],here:=p } p:=⟨⟨c,(fun J h=>nomatch h),.nil,hp p (.head _),ok.2.2.2⟩,rfl,rfl⟩
  have hph : phi { s with way:=[],here:=p } < 64:=by
   show 4 * mu s.cnt + 3 - 0 < 64
   omega
  refine al fun Gq kq=>?_
  obtain ⟨s1,CW,RG,r1,t1,e1,p1,i1,m1⟩:=A1 hs h0 64 _ i0 hph
  have hg1 : ∀ x ∈ rt,ii (cF num s1.cnt) x:=fun x hx=>t1.good (hg x hx)
  have hg2 : ∀ x ∈ rt ++ s1.way,ii (cF num s1.cnt) x:=fun x hx=>by
   rcases List.mem_append.mp hx with hx | hx
   ·exact hg1 x hx
   ·exact qk (hg1 _ m1) i1.ch x hx
  have hmu1 : mu s1.cnt <= 15:=Nat.le_trans (Nat.le_trans (Nat.le_add_right _ _) (t1.len hs).1) hmu
  obtain ⟨s',rt',CW2,RG2,r2,t2,e2,p2,s2,q2,g2⟩:=ux hs ps s1 (rt ++ s1.way) i1.ok hmu1 (fun x hx=>hp x (.tail _ hx)) (List.mem_append.mpr (.inl h0)) hg2
  refine kq ?_
  refine ⟨s',rt',CW ++ CW2,RG ++ RG2,?_,t1.app t2,by rw [e2,e1,List.append_assoc],p1.app p2,fun x hx=>s2 x (List.mem_append.mpr (.inl hx)),fun x hx=>?_,g2⟩
  ·show (yd num rt 64 { s with way:=[],here:=p }).bind _ = _
   rw [r1]
   exact r2
  ·rcases List.mem_cons.mp hx with rfl | hx
   ·have:=i1.hd
    cases hw : s1.way with
    | nil =>
     rw [hw] at this
     have e6 : s1.here = x:=by simpa using this
     exact s2 x (List.mem_append.mpr (.inl (e6 ▸ m1)))
    | cons y w =>
     rw [hw] at this
     have e6 : y = x:=by simpa using this
     exact s2 x (List.mem_append.mpr (.inr (hw ▸ e6 ▸ .head _)))
   ·exact q2 x hx
end
section
section
variable {α : Type} {es : List (Str × α)} {k j : Str} {x : α}
theorem li : (es.any fun e=>e.1 = k) = true ↔ k ∈ es.map (·.1):=by
 rw [List.any_eq_true,List.mem_map]
 exact ⟨fun ⟨e,h1,h2⟩=>⟨e,h1,of_decide_eq_true h2⟩,fun ⟨e,h1,h2⟩=>⟨e,h1,decide_eq_true h2⟩⟩
theorem gw : ∀ {es : List (Str × α)},k ∈ es.map (·.1) -> ∃ v,es.lookup k = some v
 | [],h=>nomatch h
 | (a,v) :: es,h=>by
  rw [List.lookup_cons]
  cases q : k == a with
  | true=>exact ⟨v,rfl⟩
  | false =>
   rcases List.mem_cons.mp h with e | h
   ·rw [show k = a from e,beq_self_eq_true] at q; cases q
   ·exact gw h
theorem k6 : ∀ {es : List (Str × α)},k ∈ es.map (·.1) -> (es.map fun e=>if e.1 = k then (e.1,x) else e).lookup j = if j = k then some x else es.lookup j
 | [],h=>nomatch h
 | (a,v) :: es,h=>by
  rw [List.map_cons]
  by_cases q : a = k
  ·subst q
   rw [if_pos rfl,List.lookup_cons,List.lookup_cons]
   cases q2 : j == a with
   | true=>rw [if_pos (beq_iff_eq.mp q2)]
   | false =>
    have hj : ¬ j = a:=fun e=>by rw [e,beq_self_eq_true] at q2; cases q2
    rw [if_neg hj]
    show (es.map _).lookup j = es.lookup j
    clear h
    induction es with
    | nil=>rfl
    | cons b es ih =>
     obtain ⟨b1,b2⟩:=b
     rw [List.map_cons,List.lookup_cons]
     by_cases q3 : b1 = a
     ·rw [if_pos q3,List.lookup_cons,q3,q2]; exact ih
     ·rw [if_neg q3,List.lookup_cons,ih]
  ·rw [if_neg q,List.lookup_cons,List.lookup_cons]
   have hm : k ∈ es.map (·.1):=(List.mem_cons.mp h).resolve_left fun e=>q e.symm
   rw [k6 hm]
   cases q2 : j == a with
   | false=>rfl
   | true =>
    show some v = if j = k then some x else some v
    rw [if_neg fun e=>q (by rw [<- e]; exact (beq_iff_eq.mp q2).symm)]
theorem E3 : ∀ {es : List (Str × α)},k ∉ es.map (·.1) -> (es ++ [(k,x)]).lookup j = if j = k then some x else es.lookup j
 | [],_=>by
  rw [List.nil_append,List.lookup_cons]
  cases q : j == k with
  | true=>rw [if_pos (beq_iff_eq.mp q)]
  | false=>rw [if_neg fun e=>by rw [e,beq_self_eq_true] at q; cases q]
 | (a,v) :: es,h=>by
  rw [List.cons_append,List.lookup_cons,List.lookup_cons,E3 fun m=>h (.tail _ m)]
  cases q : j == a with
  | false=>rfl
  | true =>
   show some v = if j = k then some x else some v
   rw [if_neg fun e=>h (by rw [<- e,beq_iff_eq.mp q]; exact .head _)]
theorem ku : (ic es k x).lookup j = if j = k then some x else es.lookup j:=by
 unfold ic
 split
 ·rename_i h; exact k6 (li.mp h)
 ·rename_i h; exact E3 fun m=>h (li.mpr m)
theorem Gu : (es.map fun e=>if e.1 = k then (e.1,x) else e).map (·.1) = es.map (·.1):=by
 rw [List.map_map]
 refine List.map_congr_left fun e J=>?_
 show (if e.1 = k then (e.1,x) else e).1 = e.1
 split <;> rfl
theorem lu : (j ∈ (ic es k x).map (·.1) ↔ j = k \/ j ∈ es.map (·.1)) /\ ((es.map (·.1)).Nodup -> ((ic es k x).map (·.1)).Nodup):=by
 unfold ic
 split
 ·rename_i h
  rw [Gu]
  refine ⟨⟨.inr,fun q=>q.elim (fun e=>e ▸ li.mp h) id⟩,id⟩
 ·rename_i h
  have h' : k ∉ es.map (·.1):=fun m=>h (li.mpr m)
  rw [List.map_append]
  refine ⟨?_,fun n=>?_⟩
  ·rw [List.mem_append]
   show _ \/ j ∈ [k] ↔ _
   rw [List.mem_singleton]
   exact or_comm
  ·rw [List.nodup_append]
   exact ⟨n,by simp,fun a ha b hb e=>h' (by rw [show k = b from (List.mem_singleton.mp hb).symm,<- e]; exact ha)⟩
theorem mn : ∀ {es : List (Str × α)},(es.map (·.1)).Nodup -> (k,x) ∈ es -> es.lookup k = some x
 | [],_,h=>nomatch h
 | (a,v) :: es,n,h=>by
  rw [List.map_cons,List.nodup_cons] at n
  rw [List.lookup_cons]
  rcases List.mem_cons.mp h with e | h
  ·cases e; rw [beq_self_eq_true]
  ·have : (k == a) = false:=by
    rw [beq_eq_false_iff_ne]
    exact fun e=>n.1 (e ▸ List.mem_map.mpr ⟨_,h,rfl⟩)
   rw [this]
   exact mn n.2 h
end
theorem lv : ∀ {l l' : List Str},l.Nodup -> (∀ x ∈ l,x ∈ l') -> l.length <= l'.length
 | [],_,_,_=>Nat.zero_le _
 | x :: l,l',n,h=>by
  rw [List.nodup_cons] at n
  have h1:=h x (.head _)
  have:=lv (l':=l'.erase x) n.2 fun y hy=>(List.mem_erase_of_ne fun e=>n.1 (show x ∈ l by rw [<- e]; exact hy)).mpr (h y (.tail _ hy))
  rw [List.length_erase_of_mem h1] at this
  have : 0 < l'.length:=List.length_pos_of_mem h1
  rw [List.length_cons]
  omega
theorem xn {l l' : List Int} (h : l.Perm l') : l.sum = l'.sum:=by
 induction h with
 | nil=>rfl
 | cons x _ ih=>rw [List.sum_cons,List.sum_cons,ih]
 | swap x y l=>simp only [List.sum_cons]; omega
 | trans _ _ a b=>exact a.trans b
structure CsInv (cs : List (Str × Int)) (ns : List Str) : Prop where
 nd : (cs.map (·.1)).Nodup
 at_ : ∀ k,k ∈ ns -> cs.lookup k = some ((ns.count k : Nat) : Int)
 mem : ∀ k,k ∈ cs.map (·.1) ↔ k ∈ ns
 sum : (cs.map (·.2)).sum = (ns.length : Int)
theorem An {k : Str} {v x : Int} : ∀ {cs : List (Str × Int)},(cs.map (·.1)).Nodup -> cs.lookup k = some v -> ((cs.map fun e=>if e.1 = k then (e.1,x) else e).map (·.2)).sum = (cs.map (·.2)).sum - v + x
 | [],_,h=>by cases h
 | (a,w) :: cs,n,h=>by
  rw [List.map_cons,List.nodup_cons] at n
  rw [List.lookup_cons] at h
  rw [List.map_cons,List.map_cons,List.map_cons,List.sum_cons,List.sum_cons]
  cases q : k == a with
  | true =>
   rw [q] at h
   have hwv : w = v:=Option.some.inj h
   obtain rfl:=beq_iff_eq.mp q
   rw [if_pos rfl]
   have e : (cs.map fun e=>if e.1 = k then (e.1,x) else e) = cs:=by
    have : ∀ e ∈ cs,(if e.1 = k then (e.1,x) else e) = e:=fun e he=>if_neg fun (q : e.1 = k)=>n.1 (by rw [<- q]; exact List.mem_map.mpr ⟨e,he,rfl⟩)
    rw [List.map_congr_left this,List.map_id']
   rw [e]
   show x + _ = w + _ - v + x
   omega
  | false =>
   rw [q] at h
   have hk : ¬ a = k:=fun e=>by rw [e,beq_self_eq_true] at q; cases q
   rw [if_neg hk,An n.2 h]
   show w + _ = w + _ - v + x
   omega
theorem CsInv.bump {cs : List (Str × Int)} {ns : List Str} (h : CsInv cs ns) (p : Str) : CsInv (bump cs p) (ns ++ [p]):=by
 refine ⟨(lu (j:=p)).2 h.nd,fun k hk=>?_,fun k=>?_,?_⟩
 ·show (ic cs p ((cs.lookup p).getD 0 + 1)).lookup k = _
  rw [ku,List.count_append]
  by_cases q : k = p
  ·subst q
   rw [if_pos rfl,List.count_singleton_self]
   by_cases hm : k ∈ ns
   ·rw [h.at_ k hm]; simp
   ·have : cs.lookup k = none:=by
     cases hl : cs.lookup k with
     | none=>rfl
     | some v=>exact absurd ((h.mem k).mp (List.mem_map.mpr ⟨_,bf hl,rfl⟩)) hm
    rw [this,List.count_eq_zero_of_not_mem hm]; rfl
  ·rw [if_neg q]
   have hm : k ∈ ns:=(List.mem_append.mp hk).resolve_right fun z=>q (List.mem_singleton.mp z)
   rw [h.at_ k hm,List.count_eq_zero_of_not_mem (l:=[p]) (fun z=>q (List.mem_singleton.mp z))]; simp
 ·have:=(lu (es:=cs) (k:=p) (x:=(cs.lookup p).getD 0 + 1) (j:=k)).1
  rw [show Mine.bump cs p = ic cs p ((cs.lookup p).getD 0 + 1) from rfl,this,h.mem k,List.mem_append,List.mem_singleton]
  exact or_comm
 ·rw [List.length_append]
  show ((ic cs p ((cs.lookup p).getD 0 + 1)).map (·.2)).sum = _
  have hs:=h.sum
  unfold ic
  split
  ·rename_i ha
   obtain ⟨v,hv⟩:=gw (li.mp ha)
   rw [An h.nd hv,hv]
   show _ - v + (v + 1) = _
   rw [hs]
   show _ = ((ns.length + 1 : Nat) : Int)
   omega
  ·rename_i ha
   have : cs.lookup p = none:=by
    cases hl : cs.lookup p with
    | none=>rfl
    | some v=>exact absurd (li.mpr (List.mem_map.mpr ⟨_,bf hl,rfl⟩)) ha
   rw [this,List.map_append,List.sum_append,hs]
   show _ + ((0 + 1) + 0) = ((ns.length + 1 : Nat) : Int)
   exact rfl
theorem Dp : ∀ (l : List Ar) (cs : List (Str × Int)) (ns : List Str),CsInv cs ns -> CsInv (l.foldl (fun cs e=>bump cs (ck e.1.1)) cs) (ns ++ l.map fun e=>ck e.1.1)
 | [],cs,ns,h=>by simpa using h
 | e :: l,cs,ns,h=>by
  have:=Dp l _ _ (h.bump (ck e.1.1))
  rw [List.append_assoc] at this
  exact this
theorem Dq (l : List Ar) : CsInv (fk l).2.2.2.2 (l.map fun e=>ck e.1.1):=by
 have:=Dp l [] [] ⟨.nil,(fun J h=>nomatch h),fun J=>Iff.rfl,rfl⟩
 exact this
theorem Mz {l l' : List Ar} (h : l.Perm l') : qg (fk l) (fk l'):=by
 have c1:=Dq l
 have c2:=Dq l'
 have hn:=h.map fun e : Ar=>ck e.1.1
 refine ⟨?_,?_,xn (h.map _),xn (h.map _),?_,fun k v hm=>?_⟩
 ·show ((l.filter _).length : Int) = ((l'.filter _).length : Int)
  rw [(h.filter _).length_eq]
 ·show (l.length : Int) = (l'.length : Int)
  rw [h.length_eq]
 ·have a:=lv c1.nd (l':=(fk l').2.2.2.2.map (·.1)) fun x hx=>(c2.mem x).mpr (hn.mem_iff.mp ((c1.mem x).mp hx))
  have b:=lv c2.nd (l':=(fk l).2.2.2.2.map (·.1)) fun x hx=>(c1.mem x).mpr (hn.mem_iff.mpr ((c2.mem x).mp hx))
  rw [List.length_map,List.length_map] at a b
  exact Nat.le_antisymm a (by assumption)
 ·have hk : k ∈ l.map fun e : Ar=>ck e.1.1:=(c1.mem k).mp (List.mem_map.mpr ⟨_,hm,rfl⟩)
  have e1:=c1.at_ k hk
  rw [mn c1.nd hm] at e1
  rw [c2.at_ k (hn.mem_iff.mp hk),<- hn.count_eq k]
  exact e1.symm
theorem Gy {l : List Ar} {e : Ar} : fk (l ++ [e]) = uy (fk l) (Ll e) (ck e.1.1):=by
 unfold fk uy Ll
 rw [List.filter_append,List.length_append,List.length_append,List.map_append,List.map_append,List.sum_append,List.sum_append,List.foldl_append]
 refine Prod.ext ?_ (Prod.ext ?_ (Prod.ext ?_ (Prod.ext ?_ rfl)))
 ·show (((l.filter _).length + ([e].filter _).length : Nat) : Int) = (if e.2 = 1 then 1 else 0) + _
  by_cases q : e.2 = 1
  ·rw [if_pos q,List.filter_cons_of_pos (by simpa using q)]
   show (((l.filter _).length + 1 : Nat) : Int) = _
   omega
  ·rw [if_neg q,List.filter_cons_of_neg (by simpa using q)]
   show (((l.filter _).length + 0 : Nat) : Int) = _
   omega
 ·show ((l.length + 1 : Nat) : Int) = 1 + (l.length : Int)
  omega
 ·show _ + (_ + 0) = _
  rw [Int.add_zero]; exact Int.add_comm _ _
 ·show _ + (_ + 0) = _
  rw [Int.add_zero]; exact Int.add_comm _ _
end
section
variable {num : Nat -> Int} {c c' : Nat -> Nat}
noncomputable def keyOk3 (bk : List (Str × Sts)) : Prop:=(bk.map (·.1)).Nodup /\ ∀ k ∈ bk.map (·.1),∃ t,1 <= t /\ t < 4 /\ k = cdL t
theorem keyOk3.set {bk : List (Str × Sts)} (h : keyOk3 bk) {t : Nat} (h1 : 1 <= t) (h4 : t < 4) {v : Sts} : keyOk3 (ic bk (cdL t) v) :=
 ⟨(lu (j:=cdL t)).2 h.1,fun k hk=>(lu.1.mp hk).elim (fun e=>⟨t,h1,h4,e⟩) (h.2 k)⟩
noncomputable def toT (t : Nat) (L : List Ar) : List Ar:=L.filter fun e=>e.1.2.2 == t
structure BkInv (bk : List (Str × Sts)) (L : List Ar) : Prop where
 ks : keyOk3 bk
 at_ : ∀ t,1 <= t -> t < 4 -> bk.lookup (cdL t) = if toT t L = [] then none else some (fk (toT t L))
theorem BkInv.step {bk : List (Str × Sts)} {L : List Ar} {e : Ar} (h : BkInv bk L) (h1 : 1 <= e.1.2.2) (h4 : e.1.2.2 < 4) : BkInv (bkA bk e) (L ++ [e]):=by
 refine ⟨h.ks.set h1 h4,fun t t1 t4=>?_⟩
 unfold bkA
 rw [ku]
 by_cases q : e.1.2.2 = t
 ·subst q
  have ht : toT e.1.2.2 (L ++ [e]) = toT e.1.2.2 L ++ [e]:=by
   unfold toT
   rw [List.filter_append]
   congr 1
   simp
  rw [ht,if_pos rfl,if_neg (by simp),Gy,h.at_ _ h1 h4]
  by_cases q2 : toT e.1.2.2 L = []
  ·rw [if_pos q2,q2]; rfl
  ·rw [if_neg q2]; rfl
 ·have ht : toT t (L ++ [e]) = toT t L:=by
   unfold toT
   rw [List.filter_append]
   simp [q]
  rw [ht,if_neg fun z=>q (my t4 h4 z).symm]
  exact h.at_ t t1 t4
theorem C5 : ∀ (l : List Ar) (bk : List (Str × Sts)) (L : List Ar),BkInv bk L -> (∀ e ∈ l,1 <= e.1.2.2 /\ e.1.2.2 < 4) -> BkInv (l.foldl bkA bk) (L ++ l)
 | [],bk,L,h,_=>by simpa using h
 | e :: l,bk,L,h,hl=>by
  have:=C5 l (bkA bk e) (L ++ [e]) (h.step (hl e (.head _)).1 (hl e (.head _)).2) fun x hx=>hl x (.tail _ hx)
  rw [List.append_assoc] at this
  exact this
variable {RR : List (List fu)} {bk : List (Str × Sts)}
theorem n0 (h : keyOk3 bk) {t : Nat} (h1 : 1 <= t) (h4 : t < 4) : keyOk3 (i8 RR bk t):=by
 unfold i8
 split
 ·exact h
 ·exact h.set h1 h4
theorem kj {t u : Nat} (hu : u < 4) (h4 : t < 4) : (i8 RR bk u).lookup (cdL t) = if t = u /\ into t RR ≠ [] then some (fk (into t RR)) else bk.lookup (cdL t):=by
 have e1 : into u RR = [] -> i8 RR bk u = bk:=fun hi=>by unfold i8; rw [hi]; rfl
 have e2 : into u RR ≠ [] -> i8 RR bk u = ic bk (cdL u) (fk (into u RR)):=fun hi=>by unfold i8; rw [if_neg fun z=>hi (List.isEmpty_iff.mp z)]
 by_cases hi : into u RR = []
 ·rw [e1 hi,if_neg]
  rintro ⟨rfl,z⟩
  exact z hi
 ·rw [e2 hi,ku]
  by_cases q : t = u
  ·subst q
   rw [if_pos rfl,if_pos ⟨rfl,hi⟩]
  ·rw [if_neg fun z=>q (my h4 hu z),if_neg fun z=>q z.1]
theorem C4 {t : Nat} (h1 : 1 <= t) (h4 : t < 4) : (bkW RR).lookup (cdL t) = if into t RR = [] then none else some (fk (into t RR)):=by
 show (i8 RR (i8 RR (i8 RR [] 1) 2) 3).lookup (cdL t) = _
 rw [kj (by decide) h4,kj (by decide) h4,kj (by decide) h4]
 have hn : ([] : List (Str × Sts)).lookup (cdL t) = none:=rfl
 rw [hn]
 by_cases q : into t RR = []
 ·rw [if_pos q,if_neg fun z=>z.2 q,if_neg fun z=>z.2 q,if_neg fun z=>z.2 q]
 ·rw [if_neg q]
  rcases or3 h1 h4 with rfl | rfl | rfl <;> simp [q]
theorem wh : keyOk3 (bkW RR) :=
 n0 (n0 (n0 (show keyOk3 [] from ⟨List.Pairwise.nil,(fun J h=>nomatch h)⟩) (by decide) (by decide)) (by decide) (by decide)) (by decide) (by decide)
theorem Ad (h : keyOk3 bk) {k : Str} : k ∈ bk.map (·.1) ↔ ∃ t,1 <= t /\ t < 4 /\ k = cdL t /\ bk.lookup (cdL t) ≠ none:=by
 constructor
 ·intro hk
  obtain ⟨t,t1,t4,rfl⟩:=h.2 k hk
  obtain ⟨v,hv⟩:=gw hk
  exact ⟨t,t1,t4,rfl,by rw [hv]; exact fun z=>nomatch z⟩
 ·rintro ⟨t,_,_,rfl,hv⟩
  cases hl : bk.lookup (cdL t) with
  | none=>exact absurd hl hv
  | some v=>exact List.mem_map.mpr ⟨_,bf hl,rfl⟩
theorem Hl {L : List Ar} (h : BkInv bk L) (hp : ∀ t,(toT t L).Perm (into t RR)) : bk.length = (bkW RR).length /\ ∀ k e,(k,e) ∈ bk -> ∃ f,(bkW RR).lookup k = some f /\ qg e f:=by
 have hmem : ∀ k,k ∈ bk.map (·.1) ↔ k ∈ (bkW RR).map (·.1):=fun k=>by
  rw [Ad h.ks,Ad wh]
  refine exists_congr fun t=>and_congr_right fun t1=>and_congr_right fun t4=>and_congr_right fun J=>?_
  rw [h.at_ t t1 t4,C4 t1 t4]
  by_cases q : into t RR = []
  ·have : toT t L = []:=by have:=hp t; rw [q] at this; exact this.eq_nil
   rw [if_pos q,if_pos this]
  ·have : toT t L ≠ []:=fun z=>q (by have:=hp t; rw [z] at this; exact this.symm.eq_nil)
   rw [if_neg q,if_neg this]
   simp
 refine ⟨?_,fun k e hm=>?_⟩
 ·have a:=lv h.ks.1 fun x hx=>(hmem x).mp hx
  have b:=lv wh.1 fun x hx=>(hmem x).mpr hx
  rw [List.length_map,List.length_map] at a b
  exact Nat.le_antisymm a (by assumption)
 ·have hk : k ∈ bk.map (·.1):=List.mem_map.mpr ⟨_,hm,rfl⟩
  obtain ⟨t,t1,t4,rfl⟩:=h.ks.2 k hk
  have e1:=mn h.ks.1 hm
  rw [h.at_ t t1 t4] at e1
  split at e1
  ·cases e1
  ·rename_i q
   cases e1
   refine ⟨fk (into t RR),?_,Mz (hp t)⟩
   rw [C4 t1 t4,if_neg fun z=>q (by have:=hp t; rw [z] at this; exact this.eq_nil)]
theorem Tr.ext {CR : List (List fu)} (t : Tr num c CR c') : ∀ {d : Nat -> Nat},(∀ k,k < 3 -> c k = d k) -> ∃ d',Tr num d CR d' /\ ∀ k,k < 3 -> c' k = d' k:=by
 induction t with
 | nil=>exact fun h=>⟨_,.nil,h⟩
 | @cons c s CR c' hs t ih =>
  intro d h
  have e : cF num c = cF num d:=by unfold cF; rw [h 0 (by decide),h 1 (by decide),h 2 (by decide)]
  obtain ⟨d',t2,h2⟩:=ih (d:=er d s) fun k hk=>by unfold er; rw [h k hk]
  have e2 : s.map (gy num c) = s.map (gy num d):=List.map_congr_left fun p hp=>by
   have:=(mt (fp hs)).1 p hp
   unfold gy
   rw [e,h (p - 1) (by omega)]
  exact ⟨d',e2 ▸ .cons (e ▸ hs) t2,h2⟩
theorem Eh : good.all (fun x=>PyData.strOk x && !(Builtin.Str.tooLong (Txt.lower x).length)) = true:=by k_upd
theorem D6 {R : List (List fu)} (h : ∀ r ∈ R,r.length <= 3) : (R.flatMap fun r=>r).length <= 3 * R.length:=by
 induction R with
 | nil=>exact Nat.le_refl _
 | cons r R ih =>
  rw [List.flatMap_cons,List.length_append,List.length_cons]
  have:=ih fun x hx=>h x (.tail _ hx)
  have:=h r (.head _)
  omega
theorem Gx : EsInv num (TS.start num):=by
 obtain ⟨s0,s1,s2,s3⟩:=ju (num:=num)
 have e0 : EsInv num TS.zero:=⟨rfl,fun J h=>nomatch h⟩
 have:=((e0.lay (k:=0) (by decide) s0.sg).lay (k:=1) (by decide) s1.sg).lay (k:=2) (by decide) s2.sg
 exact ⟨this.es,this.gd⟩
theorem Gj (hs : et num) (ps : List Int) : ∃ rr0 st s' rt' so,Np num ps rr0 st s' rt' so:=by
 refine al fun Gq kq=>?_
 obtain ⟨rr0,h0,_⟩:=p7 (num:=num) gv gu (j8 ps 0)
 obtain ⟨st,CR,LL,hrun,ok⟩:=Gs hs (ps:=ps) 20 (TS.start num) rr0 3 (j8 ps 0) gv gu Gx h0 (by show (6 - 1) + (6 - 1) + (6 - 1) < 20; decide)
 obtain ⟨s',rt',CW,RG,hw,tw,erg,p2,_,hps,hgd⟩:=ux hs [3,2,1] WS.zero [0] ⟨1,(fun J h=>nomatch h),.nil,by decide,fun J J=>⟨Nat.le_refl _,Nat.le_refl _⟩,by decide⟩ (by decide) (by decide) (.head _) (fun x hx=>by rw [List.mem_singleton.mp hx]; exact .z)
 have e0 : s'.rg = RG:=erg
 obtain ⟨d',td,hd⟩:=ok.tr.ext (d:=WS.zero.cnt) fun k hk=>by
  rcases bx hk with rfl | rfl | rfl <;> rfl
 have ef : cF num st.cnt = cF num d':=by unfold cF; rw [hd 0 (by decide),hd 1 (by decide),hd 2 (by decide)]
 have f1 : A2 num d':=D5 fun p p1 p4=>ef ▸ Iz (ok.fin p p1 p4)
 have f2 : A2 num s'.cnt:=D5 fun p p1 p4=>hgd p (hps p (by rcases or3 p1 p4 with rfl | rfl | rfl <;> decide))
 obtain ⟨ed,hperm⟩:=td.conf f1 tw f2
 have hcnt : ∀ k,k < 3 -> st.cnt k = s'.cnt k:=fun k hk=>by rw [hd k hk,ed]
 have hlen:=tw.len hs
 have hmu : mu WS.zero.cnt = 15:=rfl
 have hat:=tw.at_
 have hatR : ∀ r ∈ s'.rg,r.length <= 3 /\ ∀ a ∈ r,a.1 < 3 /\ a.2.1 < s'.cnt a.1 /\ (a.2.2 = 1 \/ a.2.2 = 2 \/ a.2.2 = 3):=fun r hr=>by
  obtain ⟨s,m1,m2⟩:=p2.mem r (e0 ▸ hr)
  obtain ⟨q1,q2⟩:=hat s m1
  exact ⟨m2.length_eq ▸ q1,fun a ha=>q2 a (m2.mem_iff.mp ha)⟩
 have hrl : s'.rg.length = CW.length:=by rw [e0]; exact p2.len
 have hb : ∀ k,s'.cnt k <= 1 + CW.length:=fun k=>(hlen.2 k).2
 have hll : ∀ t,(toT t LL).Perm (into t s'.rg):=fun t=>by
  refine (ok.ll t).trans (List.Perm.trans ?_ (e0 ▸ p2.into t).symm)
  unfold into
  exact hperm.flatMap_right _
 have hLt : ∀ e ∈ LL,1 <= e.1.2.2 /\ e.1.2.2 < 4:=fun e he=>by
  have m : e ∈ toT e.1.2.2 LL:=List.mem_filter.mpr ⟨he,beq_self_eq_true _⟩
  have m2:=(hll e.1.2.2).mem_iff.mp m
  unfold into at m2
  obtain ⟨r,hr,m3⟩:=List.mem_flatMap.mp m2
  obtain ⟨a,ha,rfl⟩:=List.mem_map.mp m3
  have:=((hatR r hr).2 a (List.mem_filter.mp ha).1).2.2
  exact of3 this
 have hbk : BkInv st.bk LL:=by
  rw [ok.bk]
  have:=C5 LL (TS.start num).bk [] ⟨⟨.nil,(fun J h=>nomatch h)⟩,fun t J J=>rfl⟩ hLt
  exact this
 obtain ⟨b1,b2⟩:=Hl hbk hll
 have hg : ∀ x ∈ good,PyData.strOk x = true /\ Builtin.Str.tooLong (Txt.lower x).length = false:=fun x hx=>by
  have:=List.all_eq_true.mp Eh x hx
  rw [Bool.and_eq_true,Bool.not_eq_true'] at this
  exact this
 obtain ⟨j,tok⟩:=ok.ok
 refine kq ?_
 have hk3 : (st.bk.map (·.1)).length <= 3:=lv (l':=[cdL 1,cdL 2,cdL 3]) hbk.ks.1 fun x hx=>by
  refine al fun Gq kq=>?_
  obtain ⟨t,t1,t4,rfl⟩:=hbk.ks.2 x hx
  refine kq ?_
  rcases or3 t1 t4 with rfl | rfl | rfl <;> simp
 have hcr:=ok.tr.len hs
 have hmu2 : mu (TS.start num).cnt = 15:=rfl
 refine ⟨rr0,st,s',rt',c6 (st.bk.map (·.1)),h0,hrun,hw,ok.last,hcnt,⟨fun r hr a ha=>?_,fun r hr=>Nat.le_trans (hatR r hr).1 (by decide),by omega⟩,⟨fun r hr a ha=>?_,?_⟩,?_,?_,fun e he=>(hg _ (ok.es.gd e he).1).2,ok.es.es,fun e he=>?_,b1,b2,⟨rfl,by rw [List.length_map] at hk3; exact Nat.le_trans hk3 (by decide),fun k hk=>?_,fun p hp=>?_⟩⟩
 ·refine al fun Gq kq=>?_
  obtain ⟨q1,q2,q3⟩:=(hatR r hr).2 a ha
  refine kq ?_
  have:=hb a.1
  exact ⟨q1,by omega,q3⟩
 ·refine al fun Gq kq=>?_
  obtain ⟨q1,q2,q3⟩:=(hatR r hr).2 a ha
  refine kq ?_
  exact ⟨q1,by omega,by omega⟩
 ·exact Nat.le_trans (D6 fun r hr=>(hatR r hr).1) (by omega)
 ·rw [ok.rs,e0,p2.rtx]
  exact sx (hperm.map rtx)
 ·have:=ok.cml
  have h3 : (TS.start num).cm.length = 3:=rfl
  omega
 ·obtain ⟨g1,g2⟩:=(lm tok).1 e he
  exact ⟨(hg _ g1).1,(hg _ g2).1⟩
 ·have hk':=jt k hk
  refine al fun Gq kq=>?_
  obtain ⟨t,t1,t4,rfl⟩:=hbk.ks.2 k hk'
  obtain ⟨v,hv⟩:=gw hk'
  refine kq ?_
  have e1:=hbk.at_ t t1 t4
  rw [hv] at e1
  split at e1
  ·cases e1
  ·cases e1
   refine ⟨_,t - 1,hv,by exact Nat.sub_lt_left_of_lt_add (by assumption) t4,?_,?_⟩
   ·have:=jy (k:=t - 1) (by exact Nat.sub_lt_left_of_lt_add (by assumption) t4)
    rwa [show t - 1 + 1 = t by exact Nat.sub_add_cancel t1] at this
   ·unfold oq
    rw [hv]
    show ((fk (toT t LL)).2.2.2.2.map (·.2)).sum = _
    rw [(Dq _).sum,List.length_map,(hll t).length_eq,e0,(p2.into t).length_eq]
    have:=tw.bal t1 t4
    have h1 : WS.zero.cnt (t - 1) = 1:=rfl
    rw [hcnt (t - 1) (by exact Nat.sub_lt_left_of_lt_add (by assumption) t4)]
    omega
 ·rw [hcnt p hp]
  have:=hb p
  omega
end
section
noncomputable abbrev base (h : Heap) : Heap:=zH h [] [54,61]
theorem em {h : Heap} (Y : c0 h) {b : Addr} {o : Obj} (e : h.get? b = some o) (hd : o.data ≠ .fields #[]) : (base h).get? b = some o :=
 ax.mpr ⟨e,(by rw [gg]; rintro ⟨i,q⟩; cases q),fun m=>by
  have h1:=Y.1 (54,tabObj #[]) (by unfold objs; exact .head _)
  have h2:=Y.1 (61,tabObj #[]) (by unfold objs; exact .tail _ (.head _))
  rcases List.mem_cons.mp m with rfl | m
  ·rw [h1] at e; cases e; exact hd rfl
  ·rw [List.mem_singleton.mp m] at e
   rw [h2] at e; cases e; exact hd rfl⟩
theorem mw {h : Heap} (Y : c0 h) {a : Addr} {m : Str -> Option Value} (x : h.Ns a m) : (base h).Ns a m:=by
 refine al fun Gq kq=>?_
 obtain ⟨o,es,ep,h1,h2,r⟩:=x
 refine kq ?_
 exact ⟨o,es,ep,em Y h1 (by rw [h2]; exact fun z=>nomatch z),h2,r⟩
theorem t7 {h : Heap} (Y : c0 h) {cd : Value} {q : Str} (x : h.CodeRec cd q) : (base h).CodeRec cd q:=by
 refine al fun Gq kq=>?_
 obtain ⟨c,o,vs,t,h1,h2,h3,h4⟩:=x
 refine kq ?_
 refine ⟨c,o,vs,t,h1,em Y h2 ?_,h3,h4⟩
 rw [h3]
 intro z
 cases z
 cases h4
theorem ro {z z' : Heap} (hs : Sub z z') {a : Addr} {m : Str -> Option Value} (x : z.Ns a m) : z'.Ns a m:=Heap.Ns.at' x fun o e=>hs _ _ e
variable {w : World} {s₀ : Shared} {mg mb : Str -> Option Value} {h : Heap}
noncomputable abbrev Gr (w : World) (s₀ : Shared) (mg mb : Str -> Option Value) (h : Heap) : Prop:=Ground view loose [] XP w s₀ mg mb h
noncomputable def w4 (mg mb : Str -> Option Value) (x : Str) : Option Value:=match mg x with
 | some v=>some v
 | none=>mb x
theorem G0 (G : Gr w s₀ mg mb h) : ∃ o,(base h).get? sysModules = some o:=by
 obtain ⟨o,e⟩:=G.X.2.2
 exact ⟨o,ax.mpr ⟨e,(by rw [gg]; rintro ⟨i,q⟩; cases q),by decide⟩⟩
noncomputable def dn (G : Gr w s₀ mg mb h) (Y : c0 h) : Cx where
 prog:=pw
 w:=w
 G:=fun z=>Sub (base h) z
 gmono:=fun J J hs x=>Sub.trans x hs
 gsys:=fun J x=>let ⟨o,e⟩:=G0 G; ⟨o,x _ _ e⟩
 gl:=w4 mg mb
 glOk:=fun z x=>⟨mg,mb,ro x (mw Y G.T.g),ro x (mw Y G.T.b),fun n v e=>by
  unfold w4 at e
  cases q : mg n with
  | some v'=>rw [q] at e; exact .inl e
  | none=>rw [q] at e; exact .inr ⟨rfl,e⟩⟩
 tabs:=[54,61]
 tabOk:=fun J z=>TabAtP z 54 in6.2.2.2 uk /\ TabAtP z 61 in7.2.2.2 ul
 tmono:=fun J J J hs x=>⟨x.1.sub hs,x.2.sub hs⟩
 insOk:=InsOk
 imono:=InsOk.mono
theorem ng (G : Gr w s₀ mg mb h) (Y : c0 h) {z : Heap} (x : Sub (base h) z) : z.NoLimit:=by
 obtain ⟨mc,h1,h2⟩:=G.T.nolimit
 exact ⟨mc,ro x (mw Y h1),h2⟩
theorem d6 (G : Gr w s₀ mg mb h) (Y : c0 h) {i : Nat} (hi : i ∈ idx) {nm : Str} {a : Addr} (hn : (defRec i).name = nm) (hm : (nm,a) ∈ names \/ mg nm = some (.ref a)) : ∃ pm cd doc,tn (dn G Y) a (docDef nm (defRec i).params (defRec i).body (defRec i).scope pm cd doc) /\ h.get? a ≠ none /\ ∀ o,h.get? a = some o -> o.data = .func (docDef nm (defRec i).params (defRec i).body (defRec i).scope pm cd doc):=by
 have hmem : defRec i ∈ recsOf view:=by rw [Jw]; exact List.mem_map.mpr ⟨i,hi,rfl⟩
 refine al fun Gq kq=>?_
 obtain ⟨a',o,pm,cd,doc,h1,h2,h3,h4⟩:=G.T.fn _ hmem
 refine kq ?_
 rw [hn] at h1 h3 h4
 have ha : a' = a:=by
  have e : mg nm = some (.ref a):=hm.elim (fun q=>G.X.2.1 _ q) id
  rw [h1] at e
  cases e; rfl
 subst ha
 refine ⟨pm,cd,doc,fun z x=>⟨ng G Y x,CodeRec.sub x (t7 Y h4),o,x _ _ (em Y h2 (by rw [h3]; exact fun z=>nomatch z)),h3⟩,(by rw [h2]; exact fun z=>nomatch z),fun o' e=>?_⟩
 rw [h2] at e; cases e; exact h3
noncomputable def f7 (i : Nat) (ps : List Str) : Prop:=∀ (nm : Str) (pm cd doc : Value) (vals : List Value),vals.length = ps.length -> bindArgs (docDef nm (defRec i).params (defRec i).body (defRec i).scope pm cd doc) ⟨vals,[]⟩ = pure (ps.zip vals)
theorem d7 {i : Nat} {ps : List Str} {nm : Str} {pm cd doc : Value} (hb : f7 i ps) (h1 : (ak i).isCoroutine = false) (h2 : (ak i).isGenerator = false) (h3 : (ak i).kind = .function) (h4 : ps.Nodup) (e1 : (defRec i).body = ar i) (e2 : (defRec i).scope = ak i) :
  Sig (docDef nm (defRec i).params (defRec i).body (defRec i).scope pm cd doc) ps (ar i) :=
 { body:=by rw [<- e1]; rfl,clo:=rfl,gl:=rfl,bu:=rfl,co:=by rw [<- h1,<- e2]; rfl,gen:=by rw [<- h2,<- e2]; rfl,kind:=by rw [<- h3,<- e2]; rfl,nd:=h4,bind:=fun vals hl=>hb nm pm cd doc vals hl }
theorem pe {l : List Value} (h : l.length = 1) : ∃ a,l = [a]:=by
 cases l with
 | nil=>cases h
 | cons a r=>exact ⟨a,by rw [List.length_eq_zero_iff.mp (Nat.succ.inj h)]⟩
theorem Jj {l : List Value} {n : Nat} (h : l.length = n + 1) : ∃ a r,l = a :: r /\ r.length = n:=by
 cases l with
 | nil=>cases h
 | cons a r=>exact ⟨a,r,rfl,Nat.succ.inj h⟩
theorem pf {l : List Value} (h : l.length = 2) : ∃ a b,l = [a,b]:=by
 obtain ⟨a,r,e,h1⟩:=Jj h
 obtain ⟨b,e1⟩:=pe h1
 subst e1 e
 exact ⟨a,b,rfl⟩
theorem Ji {l : List Value} (h : l.length = 3) : ∃ a b c,l = [a,b,c]:=by
 refine al fun Gq kq=>?_
 obtain ⟨a,r,e,h1⟩:=Jj h
 obtain ⟨b,c,e1⟩:=pf h1
 refine kq ?_
 subst e1 e
 exact ⟨a,b,c,rfl⟩
theorem len5 {l : List Value} (h : l.length = 5) : ∃ a b c d e,l = [a,b,c,d,e]:=by
 refine al fun Gq kq=>?_
 obtain ⟨a,r,e1,h1⟩:=Jj h
 obtain ⟨b,r2,e2,h2⟩:=Jj h1
 obtain ⟨c,d,e,e3⟩:=Ji h2
 refine kq ?_
 subst e3 e2 e1
 exact ⟨a,b,c,d,e,rfl⟩
theorem Hg : f7 4 [S "a",S "b",S "n"]:=fun nm pm cd doc vals hl=>by
 obtain ⟨v0,v1,v2,rfl⟩:=Ji hl
 k_upd
theorem Hj : f7 8 [S "a",S "b"]:=fun nm pm cd doc vals hl=>by
 obtain ⟨v0,v1,rfl⟩:=pf hl
 k_upd
theorem Hk : f7 9 [S "a",S "b"]:=fun nm pm cd doc vals hl=>by
 obtain ⟨v0,v1,rfl⟩:=pf hl
 k_upd
theorem Cn : f7 11 [S "func_name"]:=fun nm pm cd doc vals hl=>by
 obtain ⟨v0,rfl⟩:=pe hl
 k_upd
theorem Co : f7 12 [S "target",S "source"]:=fun nm pm cd doc vals hl=>by
 obtain ⟨v0,v1,rfl⟩:=pf hl
 k_upd
theorem Cp : f7 13 [S "target",S "source"]:=fun nm pm cd doc vals hl=>by
 obtain ⟨v0,v1,rfl⟩:=pf hl
 k_upd
theorem Cq : f7 14 [S "callers"]:=fun nm pm cd doc vals hl=>by
 obtain ⟨v0,rfl⟩:=pe hl
 k_upd
theorem Cr : f7 20 [S "script"]:=fun nm pm cd doc vals hl=>by
 obtain ⟨v0,rfl⟩:=pe hl
 k_upd
theorem Cs : f7 21 [S "place"]:=fun nm pm cd doc vals hl=>by
 obtain ⟨v0,rfl⟩:=pe hl
 k_upd
theorem Ct : f7 22 [S "table",S "came",S "told",S "left",S "k"]:=fun nm pm cd doc vals hl=>by
 refine al fun Gq kq=>?_
 obtain ⟨v0,v1,v2,v3,v4,rfl⟩:=len5 hl
 refine kq ?_
 k_upd
theorem Cu : f7 23 [S "table",S "first"]:=fun nm pm cd doc vals hl=>by
 obtain ⟨v0,v1,rfl⟩:=pf hl
 k_upd
theorem Cv : f7 24 [S "numbers",S "picks"]:=fun nm pm cd doc vals hl=>by
 obtain ⟨v0,v1,rfl⟩:=pf hl
 k_upd
theorem Cw : f7 25 [S "due",S "place"]:=fun nm pm cd doc vals hl=>by
 obtain ⟨v0,v1,rfl⟩:=pf hl
 k_upd
theorem Cy : f7 26 [S "numbers"]:=fun nm pm cd doc vals hl=>by
 obtain ⟨v0,rfl⟩:=pe hl
 k_upd
theorem Cz : f7 27 [S "arrow"]:=fun nm pm cd doc vals hl=>by
 obtain ⟨v0,rfl⟩:=pe hl
 k_upd
theorem C0 : f7 28 [S "rings"]:=fun nm pm cd doc vals hl=>by
 obtain ⟨v0,rfl⟩:=pe hl
 k_upd
theorem Hh : f7 6 [S "a",S "n"]:=fun nm pm cd doc vals hl=>by
 obtain ⟨v0,v1,rfl⟩:=pf hl
 k_upd
theorem Hi : f7 7 [S "digits",S "n"]:=fun nm pm cd doc vals hl=>by
 obtain ⟨v0,v1,rfl⟩:=pf hl
 k_upd
theorem C1 : f7 29 [S "script"]:=fun nm pm cd doc vals hl=>by
 obtain ⟨v0,rfl⟩:=pe hl
 k_upd
theorem Lx (G : Gr w s₀ mg mb h) (Y : c0 h) : Fun (dn G Y) 45 4 [S "a",S "b",S "n"]:=by
 refine al fun Gq kq=>?_
 obtain ⟨pm,cd,doc,h1,_⟩:=d6 G Y (i:=4) (by decide) (nm:=S "_div2n1n") (a:=45) (by k_upd) (.inl (by decide +kernel))
 refine kq ?_
 exact ⟨_,h1,d7 Hg (by k_upd) (by k_upd) (by k_upd) (by decide +kernel) (by k_upd) (by k_upd),by k_upd⟩
theorem Ly (G : Gr w s₀ mg mb h) (Y : c0 h) : Fun (dn G Y) 73 8 [S "a",S "b"]:=by
 refine al fun Gq kq=>?_
 obtain ⟨pm,cd,doc,h1,_⟩:=d6 G Y (i:=8) (by decide) (nm:=S "_divmod_pos") (a:=73) (by k_upd) (.inl (by decide +kernel))
 refine kq ?_
 exact ⟨_,h1,d7 Hj (by k_upd) (by k_upd) (by k_upd) (by decide +kernel) (by k_upd) (by k_upd),by k_upd⟩
theorem Lz (G : Gr w s₀ mg mb h) (Y : c0 h) : Fun (dn G Y) 80 9 [S "a",S "b"]:=by
 refine al fun Gq kq=>?_
 obtain ⟨pm,cd,doc,h1,_⟩:=d6 G Y (i:=9) (by decide) (nm:=S "int_divmod") (a:=80) (by k_upd) (.inl (by decide +kernel))
 refine kq ?_
 exact ⟨_,h1,d7 Hk (by k_upd) (by k_upd) (by k_upd) (by decide +kernel) (by k_upd) (by k_upd),by k_upd⟩
theorem L0 (G : Gr w s₀ mg mb h) (Y : c0 h) : Fun (dn G Y) 87 11 [S "func_name"]:=by
 refine al fun Gq kq=>?_
 obtain ⟨pm,cd,doc,h1,_⟩:=d6 G Y (i:=11) (by decide) (nm:=S "func_std_string") (a:=87) (by k_upd) (.inl (by decide +kernel))
 refine kq ?_
 exact ⟨_,h1,d7 Cn (by k_upd) (by k_upd) (by k_upd) (by decide +kernel) (by k_upd) (by k_upd),by k_upd⟩
theorem L3 (G : Gr w s₀ mg mb h) (Y : c0 h) : Fun (dn G Y) 94 12 [S "target",S "source"]:=by
 refine al fun Gq kq=>?_
 obtain ⟨pm,cd,doc,h1,_⟩:=d6 G Y (i:=12) (by decide) (nm:=S "add_func_stats") (a:=94) (by k_upd) (.inl (by decide +kernel))
 refine kq ?_
 exact ⟨_,h1,d7 Co (by k_upd) (by k_upd) (by k_upd) (by decide +kernel) (by k_upd) (by k_upd),by k_upd⟩
theorem Ij (G : Gr w s₀ mg mb h) (Y : c0 h) : Fun (dn G Y) 101 13 [S "target",S "source"]:=by
 refine al fun Gq kq=>?_
 obtain ⟨pm,cd,doc,h1,_⟩:=d6 G Y (i:=13) (by decide) (nm:=S "add_callers") (a:=101) (by k_upd) (.inl (by decide +kernel))
 refine kq ?_
 exact ⟨_,h1,d7 Cp (by k_upd) (by k_upd) (by k_upd) (by decide +kernel) (by k_upd) (by k_upd),by k_upd⟩
theorem Ik (G : Gr w s₀ mg mb h) (Y : c0 h) : Fun (dn G Y) 108 14 [S "callers"]:=by
 refine al fun Gq kq=>?_
 obtain ⟨pm,cd,doc,h1,_⟩:=d6 G Y (i:=14) (by decide) (nm:=S "count_calls") (a:=108) (by k_upd) (.inl (by decide +kernel))
 refine kq ?_
 exact ⟨_,h1,d7 Cq (by k_upd) (by k_upd) (by k_upd) (by decide +kernel) (by k_upd) (by k_upd),by k_upd⟩
theorem Il (G : Gr w s₀ mg mb h) (Y : c0 h) : Fun (dn G Y) 250 20 [S "script"]:=by
 refine al fun Gq kq=>?_
 obtain ⟨pm,cd,doc,h1,_⟩:=d6 G Y (i:=20) (by decide) (nm:=S "_law_numbers") (a:=250) (by k_upd) (.inl (by decide +kernel))
 refine kq ?_
 exact ⟨_,h1,d7 Cr (by k_upd) (by k_upd) (by k_upd) (by decide +kernel) (by k_upd) (by k_upd),by k_upd⟩
theorem Im (G : Gr w s₀ mg mb h) (Y : c0 h) : Fun (dn G Y) 257 21 [S "place"]:=by
 refine al fun Gq kq=>?_
 obtain ⟨pm,cd,doc,h1,_⟩:=d6 G Y (i:=21) (by decide) (nm:=S "_law_at") (a:=257) (by k_upd) (.inl (by decide +kernel))
 refine kq ?_
 exact ⟨_,h1,d7 Cs (by k_upd) (by k_upd) (by k_upd) (by decide +kernel) (by k_upd) (by k_upd),by k_upd⟩
theorem Io (G : Gr w s₀ mg mb h) (Y : c0 h) : Fun (dn G Y) 264 22 [S "table",S "came",S "told",S "left",S "k"]:=by
 refine al fun Gq kq=>?_
 obtain ⟨pm,cd,doc,h1,_⟩:=d6 G Y (i:=22) (by decide) (nm:=S "_law_lay") (a:=264) (by k_upd) (.inl (by decide +kernel))
 refine kq ?_
 exact ⟨_,h1,d7 Ct (by k_upd) (by k_upd) (by k_upd) (by decide +kernel) (by k_upd) (by k_upd),by k_upd⟩
theorem Ip (G : Gr w s₀ mg mb h) (Y : c0 h) : Fun (dn G Y) 271 23 [S "table",S "first"]:=by
 refine al fun Gq kq=>?_
 obtain ⟨pm,cd,doc,h1,_⟩:=d6 G Y (i:=23) (by decide) (nm:=S "_law_ring") (a:=271) (by k_upd) (.inl (by decide +kernel))
 refine kq ?_
 exact ⟨_,h1,d7 Cu (by k_upd) (by k_upd) (by k_upd) (by decide +kernel) (by k_upd) (by k_upd),by k_upd⟩
theorem Iq (G : Gr w s₀ mg mb h) (Y : c0 h) : Fun (dn G Y) 278 24 [S "numbers",S "picks"]:=by
 refine al fun Gq kq=>?_
 obtain ⟨pm,cd,doc,h1,_⟩:=d6 G Y (i:=24) (by decide) (nm:=S "_law_taken") (a:=278) (by k_upd) (.inl (by decide +kernel))
 refine kq ?_
 exact ⟨_,h1,d7 Cv (by k_upd) (by k_upd) (by k_upd) (by decide +kernel) (by k_upd) (by k_upd),by k_upd⟩
theorem Ir (G : Gr w s₀ mg mb h) (Y : c0 h) : Fun (dn G Y) 285 25 [S "due",S "place"]:=by
 refine al fun Gq kq=>?_
 obtain ⟨pm,cd,doc,h1,_⟩:=d6 G Y (i:=25) (by decide) (nm:=S "_law_arrow") (a:=285) (by k_upd) (.inl (by decide +kernel))
 refine kq ?_
 exact ⟨_,h1,d7 Cw (by k_upd) (by k_upd) (by k_upd) (by decide +kernel) (by k_upd) (by k_upd),by k_upd⟩
theorem Iu (G : Gr w s₀ mg mb h) (Y : c0 h) : Fun (dn G Y) 290 26 [S "numbers"]:=by
 refine al fun Gq kq=>?_
 obtain ⟨pm,cd,doc,h1,_⟩:=d6 G Y (i:=26) (by decide) (nm:=S "_law_walked") (a:=290) (by k_upd) (.inl (by decide +kernel))
 refine kq ?_
 exact ⟨_,h1,d7 Cy (by k_upd) (by k_upd) (by k_upd) (by decide +kernel) (by k_upd) (by k_upd),by k_upd⟩
theorem Iv (G : Gr w s₀ mg mb h) (Y : c0 h) : Fun (dn G Y) 297 27 [S "arrow"]:=by
 refine al fun Gq kq=>?_
 obtain ⟨pm,cd,doc,h1,_⟩:=d6 G Y (i:=27) (by decide) (nm:=S "_law_text") (a:=297) (by k_upd) (.inl (by decide +kernel))
 refine kq ?_
 exact ⟨_,h1,d7 Cz (by k_upd) (by k_upd) (by k_upd) (by decide +kernel) (by k_upd) (by k_upd),by k_upd⟩
theorem Iw (G : Gr w s₀ mg mb h) (Y : c0 h) : Fun (dn G Y) 302 28 [S "rings"]:=by
 refine al fun Gq kq=>?_
 obtain ⟨pm,cd,doc,h1,_⟩:=d6 G Y (i:=28) (by decide) (nm:=S "_law_counted") (a:=302) (by k_upd) (.inl (by decide +kernel))
 refine kq ?_
 exact ⟨_,h1,d7 C0 (by k_upd) (by k_upd) (by k_upd) (by decide +kernel) (by k_upd) (by k_upd),by k_upd⟩
end
section
variable {w : World} {s₀ : Shared} {mg mb : Str -> Option Value} {h : Heap}
noncomputable def Ny : List (Str × Value):=cb.take 13
theorem Hm : (Ny.all fun p=>decide (bootBuiltins p.1 = some p.2) && !startupNames.contains p.1 && !(looseW view loose).contains p.1 && !((recsOf view).map (·.name)).contains p.1 && !((litsOf view).map (·.1)).contains p.1 && !((clssOf view (looseW view loose)).map (·.name)).contains p.1 && !(p.1 == S "__name__")) = true:=by k_upd
theorem Ed : cb = Ny ++ ((S "_DIV_LIMIT",.int 4000 0) :: (names.take 20).map fun q=>(q.1,.ref q.2)):=by k_upd
theorem Ef (G : Gr w s₀ mg mb h) {x : Str} {v : Value} (hb : (decide (bootBuiltins x = some v) && !startupNames.contains x && !(looseW view loose).contains x && !((recsOf view).map (·.name)).contains x && !((litsOf view).map (·.1)).contains x && !((clssOf view (looseW view loose)).map (·.name)).contains x && !(x == S "__name__")) = true) : w4 mg mb x = some v:=by
 simp only [Bool.and_eq_true,Bool.not_eq_true',decide_eq_true_eq] at hb
 refine al fun Gq kq=>?_
 obtain ⟨⟨⟨⟨⟨⟨b1,b2⟩,b3⟩,b4⟩,b5⟩,b6⟩,b7⟩:=hb
 refine kq ?_
 have nc : ∀ {l : List Str},l.contains x = false -> x ∉ l:=fun q m=>by rw [List.contains_iff_mem.mpr m] at q; cases q
 have e:=G.T.free x (nc b2) (nc b3) (nc b4) (nc b5) (nc b6)
 have e2:=G.T.builtins x (by rw [beq_eq_false_iff_ne] at b7; exact b7)
 unfold w4
 rw [e,e2,b1]
theorem yu (G : Gr w s₀ mg mb h) {x : Str} {a : Addr} (hm : (x,a) ∈ names) : w4 mg mb x = some (.ref a):=by
 unfold w4
 rw [G.X.2.1 _ hm]
theorem M7 (G : Gr w s₀ mg mb h) (Y : c0 h) (x : Str) (v : Value) (e : cb.lookup x = some v) : (dn G Y).gl x = some v \/ ∃ i t t',v = .int i t /\ (dn G Y).gl x = some (.int i t'):=by
 have hm:=bf e
 rw [Ed] at hm
 rcases List.mem_append.mp hm with hm | hm
 ·exact .inl (Ef G (List.all_eq_true.mp Hm _ hm))
 ·rcases List.mem_cons.mp hm with q | hm
  ·cases q
   obtain ⟨v,h1,h2⟩:=G.T.const (S "_DIV_LIMIT") (.int 4000) (by k_upd)
   have h3:=h2 h
   cases h3 with
   | int i t=>exact .inr ⟨4000,0,t,rfl,by show w4 mg mb _ = _; unfold w4; rw [h1]⟩
  ·obtain ⟨q,hq,e2⟩:=List.mem_map.mp hm
   cases e2
   exact .inl (yu G (List.mem_of_mem_take hq))
theorem M8 (G : Gr w s₀ mg mb h) (Y : c0 h) : Top (dn G Y) where
 nm:=M7 G Y
 f45:=Lx G Y
 f73:=Ly G Y
 f80:=Lz G Y
 f87:=L0 G Y
 f94:=L3 G Y
 f101:=Ij G Y
 f108:=Ik G Y
 f250:=Il G Y
 f257:=Im G Y
 f264:=Io G Y
 f271:=Ip G Y
 f278:=Iq G Y
 f285:=Ir G Y
 f290:=Iu G Y
 f297:=Iv G Y
 f302:=Iw G Y
theorem ne0 {vs : Array Value} (hz : vs.size ≠ 0) : Data.fields vs ≠ Data.fields #[]:=fun z=>by
 injection z with z
 rw [z] at hz
 exact hz rfl
theorem at58 (Y : c0 h) : (base h).get? 58 = some Js:=em Y (Y.1 (58,Js) (by unfold objs; exact .tail _ (.tail _ (.head _)))) (ne0 (by decide))
theorem at65 (Y : c0 h) : (base h).get? 65 = some Jt:=em Y (Y.1 (65,Jt) (by unfold objs; exact .tail _ (.tail _ (.tail _ (.head _))))) (ne0 (by decide))
theorem Nv (Y : c0 h) : (base h).get? 113 = some Gd:=em Y (Y.1 (113,Gd) (by unfold objs; exact .tail _ (.tail _ (.tail _ (.tail _ (.head _)))))) (ne0 (by decide))
theorem Nx (Y : c0 h) : (base h).get? 118 = some Gf:=em Y (Y.1 (118,Gf) (by unfold objs; exact .tail _ (.tail _ (.tail _ (.tail _ (.tail _ (.head _))))))) (ne0 (by decide))
theorem Nu (Y : c0 h) : (base h).get? 112 = some Gc:=em Y (Y.1 (112,Gc) (by unfold objs; exact .tail _ (.tail _ (.tail _ (.tail _ (.tail _ (.tail _ (.head _)))))))) (fun z=>nomatch z)
theorem Nw (Y : c0 h) : (base h).get? 117 = some Ge:=em Y (Y.1 (117,Ge) (by unfold objs; exact .tail _ (.tail _ (.tail _ (.tail _ (.tail _ (.tail _ (.tail _ (.head _))))))))) (fun z=>nomatch z)
theorem zw (Y : c0 h) {a : Addr} {c : Addr} (hm : (a,c) ∈ ([(59,58),(66,65)] : List (Addr × Addr))) {fd : FuncData} (hf : ∀ o,h.get? a = some o -> o.data = .func fd) : fd.code = .ref c:=by
 obtain ⟨o,e1,e2⟩:=Y.2 _ hm
 have:=hf o e1
 obtain ⟨oc,od,dd,os⟩:=o
 obtain rfl : dd = _:=this
 exact e2
theorem Ih (G : Gr w s₀ mg mb h) (Y : c0 h) : FunN (dn G Y) 59 6 [S "a",S "n"] 58 (S "_int2digits"):=by
 refine al fun Gq kq=>?_
 obtain ⟨pm,cd,doc,h1,_,h2⟩:=d6 G Y (i:=6) (by decide) (nm:=S "_int2digits") (a:=59) (by k_upd) (.inl (by decide +kernel))
 refine kq ?_
 exact ⟨_,h1,d7 Hh (by k_upd) (by k_upd) (by k_upd) (by decide +kernel) (by k_upd) (by k_upd),by k_upd,zw Y (.head _) h2,rfl⟩
theorem Ii (G : Gr w s₀ mg mb h) (Y : c0 h) : FunN (dn G Y) 66 7 [S "digits",S "n"] 65 (S "_digits2int"):=by
 refine al fun Gq kq=>?_
 obtain ⟨pm,cd,doc,h1,_,h2⟩:=d6 G Y (i:=7) (by decide) (nm:=S "_digits2int") (a:=66) (by k_upd) (.inl (by decide +kernel))
 refine kq ?_
 exact ⟨_,h1,d7 Hi (by k_upd) (by k_upd) (by k_upd) (by decide +kernel) (by k_upd) (by k_upd),by k_upd,zw Y (.tail _ (.head _)) h2,rfl⟩
theorem l5 {z : Heap} {P : Addr} {pos : Pos} {q : Str} (x : TabAtP z P pos q) : ∃ o,z.get? P = some o /\ ∀ vs : Array Value,o.data = .fields vs -> ∀ q t,vs[1]? ≠ some (.str q t):=by
 obtain ⟨ps,h1,h2⟩:=x
 refine ⟨_,h1,fun vs e q t=>?_⟩
 cases e
 rcases h2 with rfl | ⟨c',rfl,_⟩
 ·exact fun z=>nomatch z
 ·exact fun z=>nomatch z
theorem Ax {z z' : Heap} {P Q : Addr} {pos : Pos} {q : Str} (hPQ : Q ≠ P) (hb : But P z z') (hP : ∃ o,z.get? P = some o /\ ∀ vs : Array Value,o.data = .fields vs -> ∀ q t,vs[1]? ≠ some (.str q t)) (x : TabAtP z Q pos q) : TabAtP z' Q pos q:=by
 obtain ⟨ps,h1,h2⟩:=x
 refine ⟨ps,hb _ _ hPQ h1,h2.imp id fun ⟨c',e1,c,o,vs,t,e2,e3,e4,e5⟩=>⟨c',e1,c,o,vs,t,e2,hb _ _ (fun z=>?_) e3,e4,e5⟩⟩
 subst z
 obtain ⟨o',q1,q2⟩:=hP
 rw [e3] at q1; cases q1
 exact q2 vs e4 _ _ e5
theorem Ki (G : Gr w s₀ mg mb h) (Y : c0 h) {P : Addr} (hP : P = 54 \/ P = 61) {z : Heap} (x : Sub (base h) z) : ∃ mg,z.Ns mainGlobals mg /\ z.BuiltinsAt mg P:=by
 obtain ⟨bm,ob,b1,b2,b3,b4,b5,b6⟩:=G.T.bmain
 have h54:=Y.1 (54,tabObj #[]) (by unfold objs; exact .head _)
 have h61:=Y.1 (61,tabObj #[]) (by unfold objs; exact .tail _ (.head _))
 refine ⟨mg,ro x (mw Y G.T.g),bm,ob,b1,b2,?_,?_,x _ _ (em Y b3 (by rw [b6]; exact fun z=>nomatch z)),b4,b5,b6⟩
 ·rintro rfl
  obtain ⟨o,es,ep,q1,q2,_⟩:=G.T.g
  rw [b3] at q1; cases q1
  rw [b6] at q2; cases q2
 ·rintro rfl
  rcases hP with rfl | rfl
  ·rw [h54] at b3; cases b3; cases b6
  ·rw [h61] at b3; cases b3; cases b6
theorem Kr {z : Heap} {c P : Addr} {vs : Array Value} (e : z.get? c = some { cls:=.type "code",data:=.fields vs }) (h1 : vs[11]? = some (.ref P)) (h2 : ∃ f t,vs.getD 18 .none = .str f t) (h3 : ∃ f t,vs.getD 7 .none = .int f t) (h4 : ∃ f,vs.getD 9 .none = .bool f) (h5 : ∃ f t,vs.getD 10 .none = .int f t) (h6 : c ≠ P) : CodeHd z c P:=by
 refine al fun Gq kq=>?_
 obtain ⟨f1,t1,e1⟩:=h2
 obtain ⟨f2,t2,e2⟩:=h3
 obtain ⟨f3,e3⟩:=h4
 obtain ⟨f4,t4,e4⟩:=h5
 refine kq ?_
 exact ⟨_,vs,f1,t1,f2,t2,f3,f4,t4,e,rfl,rfl,h1,by rw [Array.getD_eq_getD_getElem?,h1]; rfl,e1,e2,e3,e4,h6⟩
theorem Ml (G : Gr w s₀ mg mb h) (Y : c0 h) : Nest (dn G Y) 58 54 in6.2.2.2 uk where
 cd:=fun z x=>Kr (x _ _ (at58 Y)) rfl ⟨_,_,rfl⟩ ⟨_,_,rfl⟩ ⟨_,rfl⟩ ⟨_,_,rfl⟩ (by decide)
 bm:=fun z x=>Ki G Y (.inl rfl) x
 gP:=by decide
 lim:=fun z x=>ng G Y x
 mem:=.head _
 get:=fun J z x=>x.1
 tb:=fun J z x Q hQ=>by
  rcases List.mem_cons.mp hQ with rfl | hQ
  ·exact l5 x.1
  ·rw [List.mem_singleton.mp hQ]; exact l5 x.2
 put:=fun J z z' x hb ht=>⟨0,ht,Ax (by decide) hb (l5 x.1) x.2⟩
theorem Mm (G : Gr w s₀ mg mb h) (Y : c0 h) : Nest (dn G Y) 65 61 in7.2.2.2 ul where
 cd:=fun z x=>Kr (x _ _ (at65 Y)) rfl ⟨_,_,rfl⟩ ⟨_,_,rfl⟩ ⟨_,rfl⟩ ⟨_,_,rfl⟩ (by decide)
 bm:=fun z x=>Ki G Y (.inr rfl) x
 gP:=by decide
 lim:=fun z x=>ng G Y x
 mem:=.tail _ (.head _)
 get:=fun J z x=>x.2
 tb:=fun J z x Q hQ=>by
  rcases List.mem_cons.mp hQ with rfl | hQ
  ·exact l5 x.1
  ·rw [List.mem_singleton.mp hQ]; exact l5 x.2
 put:=fun J z z' x hb ht=>⟨0,Ax (by decide) hb (l5 x.2) x.1,ht⟩
theorem Hv (G : Gr w s₀ mg mb h) (Y : c0 h) : DTop (dn G Y):=⟨Ih G Y,Ii G Y,Ml G Y,Mm G Y⟩
theorem Jx (G : Gr w s₀ mg mb h) (Y : c0 h) : Regs (dn G Y) where
 r1:=fun z x=>⟨_,_,112,_,_,_,x _ _ (Nv Y),rfl,rfl,rfl,by k_upd,rfl,x _ _ (Nu Y),rfl,by k_upd,by k_upd⟩
 r2:=fun z x=>⟨_,_,117,_,_,_,x _ _ (Nx Y),rfl,rfl,rfl,by k_upd,rfl,x _ _ (Nw Y),rfl,by k_upd,by k_upd⟩
noncomputable def Ah (j : Nat) : MethRec:=⟨(d5 j).1,(d5 j).2.1,(d5 j).2.2.1,(d5 j).2.2.2⟩
noncomputable def mj : ClsRec:=(dclssOf view loose).headD ⟨Str.empty,none,[],[],0,[]⟩
theorem Lh : dclssOf view loose = [mj]:=by k_upd
theorem Ba : mj.meths = (List.range 17).map Ah:=by k_upd
theorem Di : mj.name = S "Headers":=by k_upd
theorem Bb : ([S "__getattribute__",S "__getattr__",S "__setattr__",S "_headers"].all fun x=>mj.quiet.contains x) = true:=by k_upd
theorem Li (G : Gr w s₀ mg mb h) : ∃ N mN,PlainAtD h mj 241 N mN:=by
 refine al fun Gq kq=>?_
 obtain ⟨C,N,mN,h1,h2⟩:=G.TD mj (by rw [Lh]; exact .head _)
 refine kq ?_
 have e : mg (S "Headers") = some (.ref 241):=G.X.2.1 (S "Headers",241) (by decide +kernel)
 rw [Di,e] at h1
 cases h1
 exact ⟨N,mN,h2⟩
theorem j4 (G : Gr w s₀ mg mb h) (Y : c0 h) {N : Addr} {mN : Str -> Option Value} (p : PlainAtD h mj 241 N mN) {j : Nat} (hj : j < 17) : ∃ f pm cd doc dV,mN (d5 j).1 = some (.ref f) /\ DefaultsOk 0 h (d5 j).2.1 dV /\ tn (dn G Y) f (methDefD (d5 j).1 (mj.name ++ S "." ++ (d5 j).1) (d5 j).2.1 (ez j) (dc j) pm cd doc dV) /\ ∀ z,(dn G Y).G z -> ∃ o,z.get? f = some o /\ o.cls = .type "function":=by
 refine al fun Gq kq=>?_
 obtain ⟨f,o,pm,cd,doc,dV,h1,h2,h3,h4,h5,h6⟩:=p.meths (Ah j) (by rw [Ba]; exact List.mem_map.mpr ⟨j,List.mem_range.mpr hj,rfl⟩)
 refine kq ?_
 have hb : (base h).get? f = some o:=em Y h2 (by rw [h4]; exact fun z=>nomatch z)
 exact ⟨f,pm,cd,doc,dV,h1,h6,fun z x=>⟨ng G Y x,CodeRec.sub x (t7 Y h5),o,x _ _ hb,h4⟩,fun z x=>⟨o,x _ _ hb,h3⟩⟩
noncomputable def KOk (j : Nat) (ps : List Str) : Bool:=!(dc j).isCoroutine && !(dc j).isGenerator && ((dc j).kind == .function) && decide ps.Nodup
theorem j5 {j : Nat} {ps : List Str} (hk : KOk j ps = true) {nm q : Str} {pm cd doc dV : Value} : Sig0 (methDefD nm q (d5 j).2.1 (ez j) (dc j) pm cd doc dV) ps (ez j):=by
 unfold KOk at hk
 simp only [Bool.and_eq_true,Bool.not_eq_true',decide_eq_true_eq] at hk
 refine al fun Gq kq=>?_
 obtain ⟨⟨⟨k1,k2⟩,k3⟩,k4⟩:=hk
 refine kq ?_
 have k3' : (dc j).kind = .function:=by
  cases q : (dc j).kind <;> rw [q] at k3 <;> first | rfl | cases k3
 exact { body:=rfl,clo:=rfl,gl:=rfl,bu:=rfl,co:=k1,gen:=k2,kind:=k3',nd:=k4 }
theorem jl {params : Arguments} {dV : Value} (x : DefaultsOk 0 h params dV) (e : params.defaults.isEmpty = true) : dV = .none:=x.elim (·.2) fun y=>absurd (List.isEmpty_iff.mp e) y.1
theorem Mu {vs : List Value} {as : List Addr} (x : ReadsAll h vs [.none] as) : vs = [.none]:=by
 cases x with
 | cons a b=>cases b; cases a; rfl
theorem wo (Y : c0 h) {params : Arguments} {dV : Value} (x : DefaultsOk 0 h params dV) (e : litsOf? params.defaults = some [.none]) : ∃ T o n,dV = .ref T /\ (base h).get? T = some o /\ o.data = .seq #[.none] n:=by
 rcases x with ⟨h1,_⟩ | ⟨_,T,o,vs,n,ds,h1,_,h2,_,h3,h4,h5⟩
 ·rw [h1] at e; cases e
 ·rw [e] at h4
  cases h4
  have:=h5 h
  obtain ⟨l⟩:=vs
  obtain rfl : l = [.none]:=Mu this
  exact ⟨T,o,n,h1,em Y h2 (by rw [h3]; exact fun z=>nomatch z),h3⟩
theorem m_0 (G : Gr w s₀ mg mb h) (Y : c0 h) {N : Addr} {mN : Str -> Option Value} (p : PlainAtD h mj 241 N mN) : ∃ f,mN (d5 0).1 = some (.ref f) /\ MethAt (dn G Y) f 0 [S "self",S "headers"] 1 mkP [.none]:=by
 refine al fun Gq kq=>?_
 obtain ⟨f,pm,cd,doc,dV,h1,h2,h3,h4⟩:=j4 G Y p (j:=0) (by decide)
 obtain ⟨T,o,n,rfl,e1,e2⟩:=wo Y h2 (by k_upd)
 refine kq ?_
 refine ⟨f,h1,⟨_,h3,j5 (by k_upd),rfl,fun s rvs x hl=>?_⟩,h4⟩
 obtain ⟨v0,rfl⟩:=pe hl
 exact BindsTo.of_defaults (T:=T) rfl (x _ _ e1) e2 rfl rfl
theorem m_1 (G : Gr w s₀ mg mb h) (Y : c0 h) {N : Addr} {mN : Str -> Option Value} (p : PlainAtD h mj 241 N mN) : ∃ f,mN (d5 1).1 = some (.ref f) /\ MethAt (dn G Y) f 1 [S "self",S "value",S "name"] 3 mkK []:=by
 refine al fun Gq kq=>?_
 obtain ⟨f,pm,cd,doc,dV,h1,h2,h3,h4⟩:=j4 G Y p (j:=1) (by decide)
 refine kq ?_
 obtain rfl:=jl h2 (by k_upd)
 refine ⟨f,h1,⟨_,h3,j5 (by k_upd),rfl,fun s rvs x hl=>BindsTo.of_eq ?_⟩,h4⟩
 refine al fun Gq kq=>?_
 obtain ⟨v0,v1,v2,rfl⟩:=Ji hl
 refine kq ?_
 k_upd
theorem m_3 (G : Gr w s₀ mg mb h) (Y : c0 h) {N : Addr} {mN : Str -> Option Value} (p : PlainAtD h mj 241 N mN) : ∃ f,mN (d5 3).1 = some (.ref f) /\ MethAt (dn G Y) f 3 [S "self",S "name",S "val"] 3 mkP []:=by
 refine al fun Gq kq=>?_
 obtain ⟨f,pm,cd,doc,dV,h1,h2,h3,h4⟩:=j4 G Y p (j:=3) (by decide)
 refine kq ?_
 obtain rfl:=jl h2 (by k_upd)
 refine ⟨f,h1,⟨_,h3,j5 (by k_upd),rfl,fun s rvs x hl=>BindsTo.of_eq ?_⟩,h4⟩
 refine al fun Gq kq=>?_
 obtain ⟨v0,v1,v2,rfl⟩:=Ji hl
 refine kq ?_
 k_upd
theorem m_4 (G : Gr w s₀ mg mb h) (Y : c0 h) {N : Addr} {mN : Str -> Option Value} (p : PlainAtD h mj 241 N mN) : ∃ f,mN (d5 4).1 = some (.ref f) /\ MethAt (dn G Y) f 4 [S "self",S "name"] 2 mkP []:=by
 refine al fun Gq kq=>?_
 obtain ⟨f,pm,cd,doc,dV,h1,h2,h3,h4⟩:=j4 G Y p (j:=4) (by decide)
 refine kq ?_
 obtain rfl:=jl h2 (by k_upd)
 refine ⟨f,h1,⟨_,h3,j5 (by k_upd),rfl,fun s rvs x hl=>BindsTo.of_eq ?_⟩,h4⟩
 refine al fun Gq kq=>?_
 obtain ⟨v0,v1,rfl⟩:=pf hl
 refine kq ?_
 k_upd
theorem m_8 (G : Gr w s₀ mg mb h) (Y : c0 h) {N : Addr} {mN : Str -> Option Value} (p : PlainAtD h mj 241 N mN) : ∃ f,mN (d5 8).1 = some (.ref f) /\ MethAt (dn G Y) f 8 [S "self",S "name",S "default"] 2 mkP [.none]:=by
 refine al fun Gq kq=>?_
 obtain ⟨f,pm,cd,doc,dV,h1,h2,h3,h4⟩:=j4 G Y p (j:=8) (by decide)
 obtain ⟨T,o,n,rfl,e1,e2⟩:=wo Y h2 (by k_upd)
 refine kq ?_
 refine ⟨f,h1,⟨_,h3,j5 (by k_upd),rfl,fun s rvs x hl=>?_⟩,h4⟩
 refine al fun Gq kq=>?_
 obtain ⟨v0,v1,rfl⟩:=pf hl
 refine kq ?_
 exact BindsTo.of_defaults (T:=T) rfl (x _ _ e1) e2 rfl rfl
theorem m_9 (G : Gr w s₀ mg mb h) (Y : c0 h) {N : Addr} {mN : Str -> Option Value} (p : PlainAtD h mj 241 N mN) : ∃ f,mN (d5 9).1 = some (.ref f) /\ MethAt (dn G Y) f 9 [S "self"] 1 mkP []:=by
 refine al fun Gq kq=>?_
 obtain ⟨f,pm,cd,doc,dV,h1,h2,h3,h4⟩:=j4 G Y p (j:=9) (by decide)
 refine kq ?_
 obtain rfl:=jl h2 (by k_upd)
 refine ⟨f,h1,⟨_,h3,j5 (by k_upd),rfl,fun s rvs x hl=>BindsTo.of_eq ?_⟩,h4⟩
 obtain ⟨v0,rfl⟩:=pe hl
 k_upd
theorem m_11 (G : Gr w s₀ mg mb h) (Y : c0 h) {N : Addr} {mN : Str -> Option Value} (p : PlainAtD h mj 241 N mN) : ∃ f,mN (d5 11).1 = some (.ref f) /\ MethAt (dn G Y) f 11 [S "self"] 1 mkP []:=by
 refine al fun Gq kq=>?_
 obtain ⟨f,pm,cd,doc,dV,h1,h2,h3,h4⟩:=j4 G Y p (j:=11) (by decide)
 refine kq ?_
 obtain rfl:=jl h2 (by k_upd)
 refine ⟨f,h1,⟨_,h3,j5 (by k_upd),rfl,fun s rvs x hl=>BindsTo.of_eq ?_⟩,h4⟩
 obtain ⟨v0,rfl⟩:=pe hl
 k_upd
theorem Eg (G : Gr w s₀ mg mb h) (Y : c0 h) {x : Str} {v : Value} (hb : (decide (bootBuiltins x = some v) && !startupNames.contains x && !(looseW view loose).contains x && !((recsOf view).map (·.name)).contains x && !((litsOf view).map (·.1)).contains x && !((clssOf view (looseW view loose)).map (·.name)).contains x && !(x == S "__name__")) = true) : (dn G Y).gl x = some v:=Ef G hb
theorem Jb (G : Gr w s₀ mg mb h) (Y : c0 h) : ∃ N mN fI fC fS fD fG fK fT,HTop (dn G Y) N mN fI fC fS fD fG fK fT:=by
 refine al fun Gq kq=>?_
 obtain ⟨N,mN,p⟩:=Li G
 obtain ⟨fI,n1,m1⟩:=m_0 G Y p
 obtain ⟨fC,n2,m2⟩:=m_1 G Y p
 obtain ⟨fS,n3,m3⟩:=m_3 G Y p
 obtain ⟨fD,n4,m4⟩:=m_4 G Y p
 obtain ⟨fG,n5,m5⟩:=m_8 G Y p
 obtain ⟨fK,n6,m6⟩:=m_9 G Y p
 obtain ⟨fT,n7,m7⟩:=m_11 G Y p
 refine kq ?_
 have q : ∀ x ∈ [S "__getattribute__",S "__getattr__",S "__setattr__",S "_headers"],mN x = none:=fun x hx=>p.quiet x (List.contains_iff_mem.mp (List.all_eq_true.mp Bb x hx))
 have hcls : ∀ z,Sub (base h) z -> ClsAt z 241 N mN:=fun z x=>by
  refine al fun Gq kq=>?_
  obtain ⟨nm,q,bs,sn,sub,col,dd,k0,k1,k2,k3,k5,e⟩:=p.cls.obj
  refine kq ?_
  exact ⟨⟨nm,q,bs,sn,sub,col,dd,k0,k1,k2,k3,k5,x _ _ (em Y e (fun z=>nomatch z))⟩,ro x (mw Y p.cls.ns)⟩
 exact ⟨N,mN,fI,fC,fS,fD,fG,fK,fT,{ ins:=rfl,cls:=hcls,q1:=q _ (.head _),q2:=q _ (.tail _ (.head _)),q3:=q _ (.tail _ (.tail _ (.head _))),q4:=q _ (.tail _ (.tail _ (.tail _ (.head _)))),n1:=n1,n2:=n2,n3:=n3,n4:=n4,n5:=n5,n6:=n6,n7:=n7,m1:=m1,m2:=m2,m3:=m3,m4:=m4,m5:=m5,m6:=m6,m7:=m7,g1:=Eg G Y (by k_upd),g2:=Eg G Y (by k_upd),g3:=Eg G Y (by k_upd),g4:=yu G (by decide +kernel),g5:=yu G (by decide +kernel) }⟩
end
noncomputable abbrev row : RowW:=PySem.Challenge.rw_pm0072_01.row.toRowW
theorem Aa {R : WRecords} : ∀ {ds : List WData},WShape.hasItems R ds .int = true -> ∃ xs : List Int,ds = xs.map .int
 | [],_=>⟨[],rfl⟩
 | d :: ds,h=>by
  unfold WShape.hasItems at h
  rw [Bool.and_eq_true] at h
  obtain ⟨i,rfl⟩:=hasW_int h.1
  obtain ⟨xs,rfl⟩:=Aa h.2
  exact ⟨i :: xs,rfl⟩
theorem He {args : List WData} (h : row.claim.pre args = true) : ∃ xs : List Int,args = [.list (xs.map .int)] /\ xs.length <= 63:=by
 obtain ⟨h1,h2⟩:=pre_splitW h
 obtain ⟨d,r,rfl,q1,q2⟩:=hasAllW_cons h1
 obtain rfl:=hasAllW_nil q2
 obtain ⟨ds,rfl,q3⟩:=hasW_list q1
 obtain ⟨xs,rfl⟩:=Aa q3
 refine ⟨xs,rfl,?_⟩
 have e : row.pre = .and (.not (.lt (.lit (.int 63)) (.len (.arg 0)))) (.lit (.bool true)):=rfl
 rw [e] at h2
 have h3:=(holds_andW h2).1
 unfold WTm.holds at h3
 simp [WTm.value] at h3
 rcases Nat.lt_or_ge 63 xs.length with q | q
 ·have e2 : W.less? (WData.int 63) (WData.int (xs.length : Int)) = some true:=by
   have : ((63 : Int) < (xs.length : Int)):=by exact Int.ofNat_le.mpr q
   simp only [W.less?]
   show some (decide ((63 : Int) < (xs.length : Int))) = some true
   rw [decide_eq_true this]
  rw [e2] at h3
  cases h3
 ·exact q
theorem Dy {w : Params} {h : Heap} {P : PW} {z : Heap} : ∀ {xs : List Int} {vs : List Value},WellAll w h vs (xs.map .int) -> DRs P z vs (xs.map .int)
 | [],_,q=>by cases q; exact .nil
 | x :: xs,_,q=>by
  cases q with
  | cons a b =>
   cases a
   exact .cons (.int _ _) (Dy b)
theorem Aw {h h' : Heap} {c P : Addr} {vs ps : Array Value} {o : Obj} (e : h.get? P = some o) (e0 : h.get? P = some (tabObj #[])) (ec : h.get? c = some { cls:=.type "code",data:=.fields vs }) (h11 : vs[11]? = some (.ref P)) (e1 : h'.get? P = some (tabObj ps)) : asItWas h h' P o:=by
 rw [e0] at e
 cases e
 exact .inr (.inl ⟨⟨c,_,vs,ec,rfl,rfl,h11⟩,rfl,#[],ps,rfl,by rw [e1,Array.empty_append]⟩)
theorem Ju {xs : List Int} {ds : List WData} : row.claim.post [.list (xs.map .int)] (.bool true) ds = true:=by
 show (WShape.has row.records (.bool true) row.returns && row.post.holds row.records { args:=[.list (xs.map .int)],res:=some (.bool true),after:=ds }) = true
 have e : row.post = .eq .res (.lit (.bool true)):=rfl
 rw [e]
 rw [show WShape.has row.records (.bool true) row.returns = true from by k_upd]
 unfold WTm.holds
 simp [WTm.value]
 have : W.same (.bool true) (.bool true) = true:=by simp [W.same]
 rw [this]
theorem walk : WalkO view loose XP (Hook.says hook) row (defRec 29) [] (fun f vs=>call f vs):=by
 intro w s₀ s₁ mg mb G Y a o pm cd doc dV kV ho hd hcd hD hmg hg args vals as hpre hlay hrd hwl hlo
 obtain ⟨xs,rfl,hx⟩:=He hpre
 obtain ⟨l,vs,rfl,el,hw⟩ : ∃ l vs,vals = [.ref l] /\ s₁.heap.get? l = some { cls:=.type "list",data:=.seq (List.toArray vs) } /\ WellAll w.params s₁.heap vs (xs.map .int):=by
  cases hwl with
  | cons w1 w2 =>
   cases w2
   cases w1 with
   | list e hw=>exact ⟨_,_,rfl,e,hw⟩
 have G' : Gr w s₀ mg mb s₁.heap:=G
 have Y' : c0 s₁.heap:=Y
 have T:=M8 G' Y'
 have Td:=Hv G' Y'
 have R:=Jx G' Y'
 obtain ⟨N,mN,fI,fC,fS,fD,fG,fK,fT,HT⟩:=Jb G' Y'
 have e54:=Y'.1 (54,tabObj #[]) (by unfold objs; exact .head _)
 have e61:=Y'.1 (61,tabObj #[]) (by unfold objs; exact .tail _ (.head _))
 have e58:=Y'.1 (58,Js) (by unfold objs; exact .tail _ (.tail _ (.head _)))
 have e65:=Y'.1 (65,Jt) (by unfold objs; exact .tail _ (.tail _ (.tail _ (.head _))))
 have hnl : ∀ b,b ∉ dk ([] : Rh):=fun b hb=>by
  obtain ⟨i,q⟩:=gg.mp hb
  cases q
 have hname : (defRec 29).name = S "law":=by k_upd
 obtain ⟨pm',cd',doc',hF,_,_⟩:=d6 G' Y' (i:=29) (by decide) (nm:=S "law") (a:=a) hname (.inr (hname ▸ hmg))
 have Sg:=d7 (nm:=S "law") (pm:=pm') (cd:=cd') (doc:=doc') C1 (by k_upd) (by k_upd) (by k_upd) (by decide +kernel) (by k_upd) (by k_upd)
 have ztab : ∀ {h : Heap} {b : Addr} {o : Obj},h.get? b = some o -> (zT (dn G' Y') h [] [54,61]).get? b = some o:=fun {h b o} e=>fc.mpr ⟨e,hnl b,fun q=>q.2 q.1⟩
 have I : Inv (dn G' Y') [] [] [54,61] s₁.heap:={
  g:=Sub.refl _
  tb:=⟨0,⟨#[],ztab e54,.inl rfl⟩,⟨#[],ztab e61,.inl rfl⟩⟩
  len:=rfl
  nd:=fun i j a e=>by cases e
  ex:=fun a ha=>absurd ha (hnl a)
  dx:=fun a ha=>absurd ha (hnl a)
  xe:=fun a ha=>by
   rcases List.mem_cons.mp ha with rfl | ha
   ·exact ⟨_,e54⟩
   ·rw [List.mem_singleton.mp ha]; exact ⟨_,e61⟩
  xt:=fun a ha=>ha
  ob:=fun i o e=>by cases e }
 have q : VsOk (dn G' Y') (zH s₁.heap [] [54,61]) [] [.ref l] [.d (.list (xs.map .int))] :=
  ⟨.list ⟨_,em Y' el (fun z=>nomatch z)⟩ (Dy hw),trivial⟩
 have hrm : Rm true (30 + 1) callerA:=⟨fun J=>rfl,by decide,by decide⟩
 refine gp (cx:=dn G' Y') (n:=30) (args:=⟨[.ref l],[]⟩) hF Sg.toSig0 (.of_eq (Sg.bind [.ref l] rfl)) rfl (fi (by k_upd)) hrm I q fun env s2 Z=>?_
 have hsc : env.scope = ak 29:=Z.sc.trans (by k_upd)
 refine ie (wpAny_mono (Ey (cx:=dn G' Y') (n:=0) (H:=[]) T Td HT R (Nat.le_trans hx (by decide)) (fun i o hi e=>by cases e) (fun num hs=>Gj hs _) hsc Z.frame rfl Z.rm Z.inv Z.fr) (fun f s3 q3=>?_) nn)
 obtain ⟨K,ρ',aa,rv,rfl,v3⟩:=q3
 obtain rfl:=Kj v3
 have bk:=Z.back (Y:=[]) I.xt aa
 obtain ⟨h3,tk3,e3⟩:=bk.fin
 obtain ⟨_,t54,t61⟩:=bk.inv.tb
 refine ⟨.inl ⟨.bool true,.bool true,[],rfl,fun cls=>rfl,.bool true,Ju,fun J=>⟨.nil,fun J h=>nomatch h⟩⟩,⟨fun b ob eb=>?_,fun b ob eb=>bk.ext.stay b ob eb⟩,by rw [e3],by rw [e3]; exact AllBare.of_eq hg⟩
 by_cases hb : b ∈ [54,61]
 ·rcases List.mem_cons.mp hb with rfl | hb
  ·obtain ⟨ps,p1,_⟩:=t54
   exact Aw eb e54 e58 rfl (fc.mp p1).1
  ·obtain rfl:=List.mem_singleton.mp hb
   obtain ⟨ps,p1,_⟩:=t61
   exact Aw eb e61 e65 rfl (fc.mp p1).1
 ·exact .inl (bk.ext.pres b ob eb (hnl b) hb)
end Mine
theorem PySem.Challenge.cw_pm0072_01_holds : PySem.Challenge.rw_pm0072_01.Holds := by
 refine holds_law Mine.said_ok fun said=>holds_open (q:=Mine.view) (loose:=Mine.loose) (Xt:=Mine.Xt) (XP:=Mine.XP) (Yf:=Hook.obs Mine.hook) (Ya:=Hook.val Mine.hook) (YP:=Hook.says Mine.hook) (N:=3318) (d:=Mine.defRec 29) (kwd:=[]) Mine.left_ok (Hook.of Mine.hook) (Hook.keeps Mine.hook) Mine.xt_xp Mine.xp_keeps (by kernel_rfl) (by kernel_rfl) (by kernel_rfl) Mine.xt_rec (by rfl) (by first | assumption | decide +kernel) (by decide +kernel) ⟨rfl,rfl,rfl,rfl,rfl,by decide +kernel⟩ ⟨[.list []],by decide +kernel,by decide +kernel⟩ Mine.walk
