import PyProof.Rows.All
import Wide.All
import OpenK.AllK
import Wide.FinOn
import PySem.Challenge.RW_in0309_01
set_option Elab.async false
set_option maxRecDepth 100000
set_option linter.all false
set_option linter.unusedVariables false
set_option linter.unusedSimpArgs false
namespace Mine
open PySem PySem.W PyProof.Rows PySem.Calls
noncomputable def keepIx:List Nat:=[0,5,6,15,17,20,21,22,23,24,25,27,29,30,31,32,33,34,35,36,37]
noncomputable def vw:Program:={ PySem.Challenge.pw_in0309_01 with main:={ PySem.Challenge.pw_in0309_01.main with body:=keepIx.filterMap (PySem.Challenge.pw_in0309_01.main.body[·]?) } }
noncomputable def lsNames:List Str:=["_wall", "_twin_re_1", "_ver_stages", "_plain_name", "ABCMeta", "_ABCLike", "_abc_plain_meta", "_check_arg_types", "relpath"]
noncomputable abbrev rowO:OpenRow:=PySem.Challenge.rw_in0309_01.row
noncomputable def relOf:Option PySem.Stmt→Option (Arguments × List PySem.Stmt × Scope)
 | some (PySem.Stmt.FunctionDef _ a b _ _ _ sc _ _ _)=>some (a,b,sc)
 | _=>none
noncomputable def relStmt:Option (Arguments × List PySem.Stmt × Scope):=relOf (PySem.Challenge.pw_in0309_01.main.body[26]?)
noncomputable def relFd:FuncData:=match relStmt with
 | some (a,b,sc)=>{ name := "relpath", qualname := "relpath", params:=a,body:=.stmts b,scope:=sc,globals:=mainGlobals,closure:=[],defaults:=.ref 188,kwdefaults:=.none,doc:=.none,pyModule:=.str "cpy313.posixpath" 512,code:=.ref 194,builtins:=builtinsNs }
 | none=>default
noncomputable def reWords:List Int:=[14,4,0,1,4294967295,17,0,7,14,24,10,1,4294967295,13,5,22,48,57,0,1,15,17,15,13,11,9,0,26624,2147483648,0,0,0,0,0,0,15,2,0,17,1,1]
noncomputable def stageRows:List (Str × Nat × Int × Nat):=[("dev", 338,10,339),("alpha", 340,20,341),("a", 342,20,343),("beta", 344,30,345),("b", 346,30,347),("c", 348,40,349),("RC", 350,50,351),("rc", 352,50,353),("pl", 354,200,355),("p", 356,200,357)]
noncomputable def stageEntries (P:Params):List DictEntry:=stageRows.map fun r=>⟨PyData.keyHash P r.1,.str r.1 r.2.1,.int r.2.2.1 r.2.2.2⟩
noncomputable def hookAddrs:List Addr:=[42,43,44,188,195]
noncomputable def hookObjs (P:Params):List Obj :=
 [⟨.type "tuple", none,.seq (reWords.map fun i=>Value.int i 0).toArray 0,#[]⟩,
  ⟨.type "re.Pattern", none,.fields #[.str "([0-9]+|[._+-])" 292,.int 32 336,.int 1 0,.none,.none,.ref 42,.int 0 0],#[]⟩,
  ⟨.type "dict", none,.dict (stageEntries P).toArray 10,#[]⟩,
  ⟨.type "tuple", none,.seq #[.none] 0,#[]⟩,
  ⟨.type "function", none,.func relFd,#[]⟩]
noncomputable def nameOf (h:Heap) (x:Str):Option Value:=match h.get? mainGlobals with
 | some ⟨_,_,.dict es _,_⟩=>nsFind es x
 | _=>none
noncomputable def hookNames:List Str:=["_twin_re_1", "_ver_stages", "relpath"]
noncomputable def hookVals:List Value:=[.ref 43,.ref 44,.ref 195]
noncomputable def codeName (h:Heap):Option Value:=match h.get? 194 with
 | some ⟨_,_,.fields vs,_⟩=>vs[1]?
 | _=>none
structure Says (w:World) (h:Heap):Prop where
 objs:hookAddrs.map h.get?=(hookObjs w.params).map some
 names:hookNames.map (nameOf h)=hookVals.map some
 code:codeName h=some (.str "relpath" 575)
noncomputable def HK:Hook where
 α:=List (Option Obj) × List (Option Value) × Option Value
 obs:=fun s=>(hookAddrs.map s.heap.get?,hookNames.map (nameOf s.heap),codeName s.heap)
 val:=fun w=>((hookObjs w.params).map some,hookVals.map some,some (.str "relpath" 575))
 says:=Says
 of:=fun w s e=>⟨congrArg (·.1) e,congrArg (·.2.1) e,congrArg (·.2.2) e⟩
 keeps:=fun w h h' x k=>by
  obtain ⟨h1,h2,h3⟩:=x
  have hk:∀ a,a∈hookAddrs→h'.get? a=h.get? a:=by
   intro a ha
   have:h.get? a≠none:=by
    intro e
    have hm:=List.mem_map_of_mem (f:=h.get?) ha
    rw [h1,e] at hm
    obtain ⟨o,_,q⟩:=List.mem_map.mp hm
    cases q
   cases e:h.get? a with
   | none=>exact absurd e this
   | some o=>exact k a o e
  refine ⟨?_,?_,?_⟩
  ·rw [← h1]; exact List.map_congr_left hk
  ·rw [← h2]
   have hg:h.get? mainGlobals≠none:=by
    intro e
    have:nameOf h "_twin_re_1" = none:=by unfold nameOf; rw [e]
    have h2':=congrArg (fun l=>l[0]?) h2
    simp only [hookNames,hookVals,List.map_cons,List.getElem?_cons_zero] at h2'
    rw [this] at h2'
    cases h2'
   have:h'.get? mainGlobals=h.get? mainGlobals:=by
    cases e:h.get? mainGlobals with
    | none=>exact absurd e hg
    | some o=>exact k _ _ e
   refine List.map_congr_left fun x _=>?_
   unfold nameOf
   rw [this]
  ·have hg:h.get? 194≠none:=by
    intro e
    have:codeName h=none:=by unfold codeName; rw [e]
    rw [this] at h3
    cases h3
   have:h'.get? 194=h.get? 194:=by
    cases e:h.get? 194 with
    | none=>exact absurd e hg
    | some o=>exact k _ _ e
   unfold codeName at h3 ⊢
   rw [this]
   exact h3
noncomputable def platCode:Obj:=⟨.type "code", none,.fields #[.str "_platform" 380,.str "_platform" 381,.str "/claim/cut.py" 382,.int 20 0,.int 0 0,.int 0 0,.int 0 0,.int 7 0,.ref 52,.bool true,.int 276 0,.ref 53,.none,.ref 54,.ref 55,.ref 56,.int 386 0,.int 20 0,.str "/claim/cut.py" 387],#[]⟩
noncomputable def platTab:Obj:=⟨.none,none,.fields #[],#[]⟩
noncomputable def codeAt58 (h:Heap):Option Value:=match h.get? 58 with
 | some ⟨_,_,.func fd,_⟩=>some fd.code
 | _=>none
structure SaysP (w:World) (h:Heap):Prop where
 base:Says w h
 c57:h.get? 57=some platCode
 p53:h.get? 53=some platTab
 nm:nameOf h "_platform" = some (.ref 58)
 fc:codeAt58 h=some (.ref 57)
noncomputable def HK2:Hook where
 α:=(List (Option Obj) × List (Option Value) × Option Value) × Option Obj × Option Obj × Option Value × Option Value
 obs:=fun s=>(HK.obs s,s.heap.get? 57,s.heap.get? 53,nameOf s.heap "_platform", codeAt58 s.heap)
 val:=fun w=>(HK.val w,some platCode,some platTab,some (.ref 58),some (.ref 57))
 says:=SaysP
 of:=fun w s e=>⟨HK.of w s (congrArg (·.1) e),congrArg (·.2.1) e,congrArg (·.2.2.1) e,congrArg (·.2.2.2.1) e,congrArg (·.2.2.2.2) e⟩
 keeps:=fun w h h' x k=>by
  obtain ⟨h1,h2,h3,h4,h5⟩:=x
  refine ⟨HK.keeps w h h' h1 k,k _ _ h2,k _ _ h3,?_,?_⟩
  ·unfold nameOf at h4 ⊢
   cases e:h.get? mainGlobals with
   | none=>rw [e] at h4; cases h4
   | some o=>rw [k _ _ e]; rw [e] at h4; exact h4
  ·unfold codeAt58 at h5 ⊢
   cases e:h.get? 58 with
   | none=>rw [e] at h5; cases h5
   | some o=>rw [k _ _ e]; rw [e] at h5; exact h5
set_option maxHeartbeats 0 in
theorem left:LeftO rowO.toRowW.prog vw lsNames (fun s=>xlAt vw [] s && recOk (RowW.records rowO.toRowW) s) (Hook.obs HK2) (Hook.val HK2) 3382:=by
 refine LeftO.of_split "special-get-raises" fun w=>?_
 simp only [fencedOpening,topFrom,topStub,PySem.W.Fast.te14364793385576792824,PySem.W.Fast.te10274390034422433532,PySem.W.Fast.te1435165496053646825,PySem.W.Fast.te14289696077712309145,PySem.W.Fast.te14082659384304107361,PySem.W.Fast.te5923862056798008813,PySem.W.Fast.te4187177175401517315,PySem.W.Fast.te17154629097778926822,PySem.W.Fast.te12822647523644345616]
 kernel_rfl
noncomputable def theLaw:DefRec × List (Str × PySem.Expr):=(defOf vw "law").getD (⟨"", ⟨[],[],none,[],[],none,[]⟩,[],default,default⟩,[])
end Mine
set_option maxHeartbeats 1000000
set_option Elab.async false
set_option maxRecDepth 100000
set_option linter.all false
set_option linter.unusedVariables false
set_option linter.unusedSimpArgs false
set_option bootstrap.genMatcherCode false
set_option tactic.hygienic false
set_option compiler.extract_closed false
namespace Mine
open PySem PySem.W PyProof.Rows PySem.Calls
namespace La
noncomputable def dot (c:List Int):List Nat→Int:=List.rec (fun _=>0) (fun a _ ih l=>List.rec 0 (fun x xs _=>a*x+ih xs) l) c
noncomputable def ladd (a:List Int):List Int→List Int:=List.rec (fun b=>b) (fun x as ih b=>List.rec (x::as) (fun y bs _=>(x+y)::ih bs) b) a
noncomputable def lmul (k:Int) (a:List Int):List Int:=a.map (k*·)
noncomputable def lsub (a b:List Int):List Int:=ladd a (lmul (-1) b)
noncomputable def unit (i:Nat):List Int:=Nat.rec [1] (fun _ ih=>0::ih) i
noncomputable def nth (l:List Nat):Nat→Nat:=List.rec (fun _=>0) (fun x _ ih i=>Nat.rec x (fun j _=>ih j) i) l
theorem dot_nil (a:List Int):dot a []=0:=by cases a <;> rfl
theorem dot_cons (a:Int) (as:List Int) (x:Nat) (l:List Nat):dot (a::as) (x::l)=a*x+dot as l:=rfl
theorem dot_add (a:List Int):∀ b l,dot (ladd a b) l=dot a l+dot b l:=by
 induction a with
 | nil=>exact fun b l=>(Int.zero_add _).symm
 | cons x as ih =>
  intro b l
  cases b with
  | nil=>exact (Int.add_zero _).symm
  | cons y bs =>
   cases l with
   | nil=>rfl
   | cons z l =>
    show (x+y)*z+dot (ladd as bs) l=(x*z+dot as l)+(y*z+dot bs l)
    rw [ih,Int.add_mul,Int.add_assoc,Int.add_assoc,Int.add_left_comm (y*z)]
theorem dot_mul (k:Int) (a:List Int):∀ l,dot (lmul k a) l=k*dot a l:=by
 induction a with
 | nil=>exact fun l=>(Int.mul_zero _).symm
 | cons x as ih =>
  intro l
  cases l with
  | nil=>exact (Int.mul_zero _).symm
  | cons z l =>
   show (k*x)*z+dot (lmul k as) l=k*(x*z+dot as l)
   rw [ih,Int.mul_add,Int.mul_assoc]
theorem dot_sub (a b l):dot (lsub a b) l=dot a l-dot b l:=by
 rw [lsub,dot_add,dot_mul,Int.neg_mul,Int.one_mul]; rfl
theorem dot_unit (i:Nat):∀ l,dot (unit i) l=nth l i:=by
 induction i with
 | zero=>exact fun l=>by cases l with | nil=>rfl | cons x l=>show 1*(x:Int)+dot [] l=x; rw [Int.one_mul]; exact Int.add_zero _
 | succ i ih=>exact fun l=>by cases l with | nil=>rfl | cons x l=>show 0*(x:Int)+dot (unit i) l=nth l i; rw [Int.zero_mul,Int.zero_add]; exact ih l
theorem dot_con (k:Int) (l):dot [k] (1::l)=k:=by
 rw [dot_cons,Int.natCast_one,Int.mul_one]; exact Int.add_zero _
abbrev Cs:=List (List Int × List (List Int))
noncomputable def pr (f:List Int→List Int→Cs) (a b:Cs):Cs:=a.flatMap fun x=>b.flatMap fun y=>(f x.1 y.1).map fun c=>(c.1,c.2++(x.2++y.2))
noncomputable def Ok (l:List Nat) (c:List Int):Prop:=0≤dot c (1::l)
noncomputable def Good (l:List Nat) (k:Int) (c:Cs):Prop:=∃ x∈c,dot x.1 (1::l)=k∧∀ y∈x.2,Ok l y
section
variable {l:List Nat}
theorem one_good {k x} (h:dot x (1::l)=k):Good l k [(x,[])]:=⟨_,.head _,h,fun _ h=>nomatch h⟩
theorem pr_good {k k' r f} (hf:∀ x y,dot x (1::l)=k→dot y (1::l)=k'→Good l r (f x y)) {a b} (ha:Good l k a) (hb:Good l k' b):Good l r (pr f a b):=by
 obtain ⟨x,hx,h2,h3⟩:=ha
 obtain ⟨y,hy,g2,g3⟩:=hb
 obtain ⟨z,hz,q2,q3⟩:=hf x.1 y.1 h2 g2
 exact ⟨_,List.mem_flatMap.mpr ⟨x,hx,List.mem_flatMap.mpr ⟨y,hy,List.mem_map.mpr ⟨z,hz,rfl⟩⟩⟩,q2,
  fun w hw=>(List.mem_append.mp hw).elim (q3 w) fun h=>(List.mem_append.mp h).elim (h3 w) (g3 w)⟩
theorem map_good {a r c} (k:Int) (h:Good l a c) (e:k*a=r):Good l r (c.map fun x=>(lmul k x.1,x.2)):=by
 obtain ⟨x,hx,h2,h3⟩:=h
 exact ⟨_,List.mem_map.mpr ⟨x,hx,rfl⟩,by rw [dot_mul,h2,e],h3⟩
theorem two_good {k x y p q} (h:(dot x (1::l)=k∧Ok l p)∨(dot y (1::l)=k∧Ok l q)):Good l k [(x,[p]),(y,[q])]:=by
 rcases h with ⟨b,c⟩ | ⟨b,c⟩
 ·exact ⟨_,.head _,b,fun z hz=>List.mem_singleton.mp hz▸c⟩
 ·exact ⟨_,.tail _ (.head _),b,fun z hz=>List.mem_singleton.mp hz▸c⟩
theorem add_good {p q a b}:Good l p a→Good l q b→Good l (p+q) (pr (fun x y=>[(ladd x y,[])]) a b) :=
 pr_good fun x y e f=>one_good (by rw [dot_add,e,f])
theorem subZ_good {p q a b}:Good l p a→Good l q b→Good l (p-q) (pr (fun x y=>[(lsub x y,[])]) a b) :=
 pr_good fun x y e f=>one_good (by rw [dot_sub,e,f])
theorem ok_sub {x y p q} (e:dot x (1::l)=p) (f:dot y (1::l)=q) (h:q≤p):Ok l (lsub x y):=by
 unfold Ok; rw [dot_sub,e,f]; exact Int.sub_nonneg_of_le h
theorem sub_good {p q:Nat} {a b}:Good l p a→Good l q b→Good l (p-q:Nat) (pr (fun x y=>[(lsub x y,[lsub x y]),([0],[lsub y x])]) a b) :=
 pr_good fun x y e f=>two_good<|(Nat.le_total q p).imp
  (fun h=>⟨by rw [dot_sub,e,f]; exact (Int.ofNat_sub h).symm,ok_sub e f (Int.ofNat_le.mpr h)⟩)
  (fun h=>⟨by rw [dot_con,Nat.sub_eq_zero_of_le h]; rfl,ok_sub f e (Int.ofNat_le.mpr h)⟩)
theorem min_good {p q:Nat} {a b}:Good l p a→Good l q b→Good l (min p q:Nat) (pr (fun x y=>[(x,[lsub y x]),(y,[lsub x y])]) a b) :=
 pr_good fun x y e f=>two_good<|(Nat.le_total p q).imp
  (fun h=>⟨by rw [Nat.min_eq_left h,e],ok_sub f e (Int.ofNat_le.mpr h)⟩)
  (fun h=>⟨by rw [Nat.min_eq_right h,f],ok_sub e f (Int.ofNat_le.mpr h)⟩)
theorem max_good {p q:Nat} {a b}:Good l p a→Good l q b→Good l (max p q:Nat) (pr (fun x y=>[(y,[lsub y x]),(x,[lsub x y])]) a b) :=
 pr_good fun x y e f=>two_good<|(Nat.le_total p q).imp
  (fun h=>⟨by rw [Nat.max_eq_right h,f],ok_sub f e (Int.ofNat_le.mpr h)⟩)
  (fun h=>⟨by rw [Nat.max_eq_left h,e],ok_sub e f (Int.ofNat_le.mpr h)⟩)
end
noncomputable def arg (n:Nat):Nat:=n/16
noncomputable def fst (n:Nat):Nat:=n/4096 % 2 ^ (n/16 % 256)
noncomputable def snd (n:Nat):Nat:=n/4096/2 ^ (n/16 % 256)
noncomputable def tvS (l:List Nat) (ih:Nat→Nat) (iz:Nat→Int) (n:Nat):Nat :=
 Bool.rec (Bool.rec (Bool.rec (Bool.rec (Bool.rec (Bool.rec (Bool.rec (Bool.rec (Bool.rec ((iz (arg n)).toNat) (fst n ^ snd n) (Nat.beq (n % 16) 8)) (max (ih (fst n)) (ih (snd n))) (Nat.beq (n % 16) 7)) (min (ih (fst n)) (ih (snd n))) (Nat.beq (n % 16) 6)) (ih (fst n)*snd n) (Nat.beq (n % 16) 5)) (fst n*ih (snd n)) (Nat.beq (n % 16) 4)) (ih (fst n)-ih (snd n)) (Nat.beq (n % 16) 3)) (ih (fst n)+ih (snd n)) (Nat.beq (n % 16) 2)) (arg n) (Nat.beq (n % 16) 1)) (nth l (arg n)) (Nat.beq (n % 16) 0)
noncomputable def zvS (t:Nat→Nat) (ih:Nat→Int) (n:Nat):Int :=
 Bool.rec (Bool.rec (Bool.rec (Bool.rec (Bool.rec (Bool.rec (-ih (arg n)) (Int.ofNat (fst n) ^ snd n) (Nat.beq (n % 16) 5)) (Int.ofNat (fst n)*ih (snd n)) (Nat.beq (n % 16) 4)) (ih (fst n)-ih (snd n)) (Nat.beq (n % 16) 3)) (ih (fst n)+ih (snd n)) (Nat.beq (n % 16) 2)) (Int.ofNat (arg n)) (Nat.beq (n % 16) 1)) (t (arg n)) (Nat.beq (n % 16) 0)
noncomputable def tz (l:List Nat) (f:Nat):(Nat→Nat) × (Nat→Int):=Nat.rec (fun _=>0,fun _=>0) (fun _ ih=>(tvS l ih.1 ih.2,zvS ih.1 ih.2)) f
noncomputable def tcS (ih iz:Nat→Cs) (n:Nat):Cs :=
 cond (Nat.beq (n % 16) 0) [(0::unit (arg n),[])]<|cond (Nat.beq (n % 16) 1) [([(arg n:Int)],[])]<|cond (Nat.beq (n % 16) 2) (pr (fun x y=>[(ladd x y,[])]) (ih (fst n)) (ih (snd n))) <|
 cond (Nat.beq (n % 16) 3) (pr (fun x y=>[(lsub x y,[lsub x y]),([0],[lsub y x])]) (ih (fst n)) (ih (snd n))) <|
 cond (Nat.beq (n % 16) 4) ((ih (snd n)).map fun x=>(lmul (fst n) x.1,x.2))<|cond (Nat.beq (n % 16) 5) ((ih (fst n)).map fun x=>(lmul (snd n) x.1,x.2)) <|
 cond (Nat.beq (n % 16) 6) (pr (fun x y=>[(x,[lsub y x]),(y,[lsub x y])]) (ih (fst n)) (ih (snd n)))<|cond (Nat.beq (n % 16) 7) (pr (fun x y=>[(y,[lsub y x]),(x,[lsub x y])]) (ih (fst n)) (ih (snd n))) <|
 cond (Nat.beq (n % 16) 8) [([((fst n ^ snd n:Nat):Int)],[])] (pr (fun x y=>[(x,[x]),([0],[lsub y x])]) (iz (arg n)) [([0],[])])
noncomputable def zcS (t ih:Nat→Cs) (n:Nat):Cs :=
 cond (Nat.beq (n % 16) 0) (t (arg n))<|cond (Nat.beq (n % 16) 1) [([Int.ofNat (arg n)],[])]<|cond (Nat.beq (n % 16) 2) (pr (fun x y=>[(ladd x y,[])]) (ih (fst n)) (ih (snd n))) <|
 cond (Nat.beq (n % 16) 3) (pr (fun x y=>[(lsub x y,[])]) (ih (fst n)) (ih (snd n)))<|cond (Nat.beq (n % 16) 4) ((ih (snd n)).map fun x=>(lmul (Int.ofNat (fst n)) x.1,x.2)) <|
 cond (Nat.beq (n % 16) 5) [([((fst n ^ snd n:Nat):Int)],[])] ((ih (arg n)).map fun x=>(lmul (-1) x.1,x.2))
noncomputable def tzc (f:Nat):(Nat→Cs) × (Nat→Cs):=Nat.rec (fun _=>[([0],[])],fun _=>[([0],[])]) (fun _ ih=>(tcS ih.1 ih.2,zcS ih.1 ih.2)) f
theorem two {α:Sort u} {β:Type} {R:α→β→Prop} {a a' b b'} (c:Bool) (h:R a b) (h':R a' b'):R (Bool.rec a' a c) (cond c b b'):=by cases c; exact h'; exact h
theorem nat_good {l z a} (h:Good l z a):Good l z.toNat (pr (fun x y=>[(x,[x]),([0],[lsub y x])]) a [([0],[])]) :=
 pr_good (k':=0) (fun x y e f=>two_good<|(Int.le_total 0 z).imp (fun h=>⟨by rw [e,Int.toNat_of_nonneg h],by unfold Ok; rw [e]; exact h⟩)
  (fun h=>⟨by rw [dot_con,Int.toNat_of_nonpos h]; rfl,ok_sub f e h⟩)) h (one_good (dot_con _ _))
section
variable {l:List Nat} {v:Nat→Nat} {z:Nat→Int} {c y:Nat→Cs} (ht:∀ n,Good l (v n:Nat) (c n)) (hz:∀ n,Good l (z n) (y n)) (n:Nat)
include ht hz
theorem t_step:Good l (tvS l v z n) (tcS c y n) :=
 have w:=fun {a a':Nat} {b b'}=>two (R:=fun (a:Nat) b=>Good l a b) (a:=a) (a':=a') (b:=b) (b':=b')
 w _ (one_good (by rw [dot_cons,dot_unit,Int.zero_mul,Int.zero_add]))<|w _ (one_good (dot_con _ _))<|w _ (add_good (ht _) (ht _))<|w _ (sub_good (ht _) (ht _)) <|
 w _ (map_good _ (ht _) rfl)<|w _ (map_good _ (ht _) (Int.mul_comm _ _))<|w _ (min_good (ht _) (ht _))<|w _ (max_good (ht _) (ht _))<|w _ (one_good (dot_con _ _)) (nat_good (hz _))
theorem z_step:Good l (zvS v z n) (zcS c y n) :=
 have w:=fun {a a' b b'}=>two (R:=Good l) (a:=a) (a':=a') (b:=b) (b':=b')
 w _ (ht _)<|w _ (one_good (dot_con _ _))<|w _ (add_good (hz _) (hz _))<|w _ (subZ_good (hz _) (hz _)) <|
 w _ (map_good _ (hz _) rfl)<|w _ (one_good (by rw [dot_con,Int.natCast_pow]; rfl)) (map_good _ (hz _) (by rw [Int.neg_mul,Int.one_mul]))
end
theorem tz_good (l:List Nat) (f:Nat):(∀ n,Good l ((tz l f).1 n) ((tzc f).1 n))∧∀ n,Good l ((tz l f).2 n) ((tzc f).2 n):=by
 induction f with
 | zero=>exact ⟨fun n=>one_good (dot_con _ _),fun n=>one_good (dot_con _ _)⟩
 | succ f ih=>exact ⟨t_step ih.1 ih.2,z_step ih.1 ih.2⟩
abbrev Ds:=List (List (List Int))
noncomputable def leD (k:Int) (a b:Cs):Ds:=(pr (fun x y=>[([0],[ladd (lsub y x) [k]])]) a b).map (·.2)
noncomputable def eqD (a b:Cs):Ds:=(pr (fun x y=>[([0],[lsub y x,lsub x y])]) a b).map (·.2)
noncomputable def neD (a b:Cs):Ds:=leD (-1) a b++leD (-1) b a
noncomputable def andD (a b:Ds):Ds:=a.flatMap fun x=>b.map (x++·)
noncomputable def fvS (t:Nat→Nat) (z:Nat→Int) (ih:Nat→Prop) (n:Nat):Prop :=
 Bool.rec (Bool.rec (Bool.rec (Bool.rec (Bool.rec (Bool.rec (Bool.rec (Bool.rec (Bool.rec (Bool.rec (ih (fst n)→ih (snd n)) False (Nat.beq (n % 16) 9)) (¬ih (arg n)) (Nat.beq (n % 16) 8)) (ih (fst n)∨ih (snd n)) (Nat.beq (n % 16) 7)) (ih (fst n)∧ih (snd n)) (Nat.beq (n % 16) 6)) (z (fst n)=z (snd n)) (Nat.beq (n % 16) 5)) (z (fst n)<z (snd n)) (Nat.beq (n % 16) 4)) (z (fst n)≤z (snd n)) (Nat.beq (n % 16) 3)) (t (fst n)=t (snd n)) (Nat.beq (n % 16) 2)) (t (fst n)<t (snd n)) (Nat.beq (n % 16) 1)) (t (fst n)≤t (snd n)) (Nat.beq (n % 16) 0)
noncomputable def fv (l:List Nat) (f:Nat):Nat→Prop:=Nat.rec (fun _=>True) (fun f ih=>fvS (tz l f).1 (tz l f).2 ih) f
noncomputable def leB (a b:Cs):Ds × Ds:=(leD 0 a b,leD (-1) b a)
noncomputable def ltB (a b:Cs):Ds × Ds:=(leD (-1) a b,leD 0 b a)
noncomputable def eqB (a b:Cs):Ds × Ds:=(eqD a b,neD a b)
noncomputable def fcS (t z:Nat→Cs) (ih:Nat→Ds × Ds) (n:Nat):Ds × Ds :=
 cond (Nat.beq (n % 16) 0) (leB (t (fst n)) (t (snd n)))<|cond (Nat.beq (n % 16) 1) (ltB (t (fst n)) (t (snd n)))<|cond (Nat.beq (n % 16) 2) (eqB (t (fst n)) (t (snd n))) <|
 cond (Nat.beq (n % 16) 3) (leB (z (fst n)) (z (snd n)))<|cond (Nat.beq (n % 16) 4) (ltB (z (fst n)) (z (snd n)))<|cond (Nat.beq (n % 16) 5) (eqB (z (fst n)) (z (snd n))) <|
 cond (Nat.beq (n % 16) 6) (andD (ih (fst n)).1 (ih (snd n)).1,(ih (fst n)).2++(ih (snd n)).2) <|
 cond (Nat.beq (n % 16) 7) ((ih (fst n)).1++(ih (snd n)).1,andD (ih (fst n)).2 (ih (snd n)).2) <|
 cond (Nat.beq (n % 16) 8) ((ih (arg n)).2,(ih (arg n)).1)<|cond (Nat.beq (n % 16) 9) ([],[[]]) ((ih (fst n)).2++(ih (snd n)).1,andD (ih (fst n)).1 (ih (snd n)).2)
noncomputable def fc (f:Nat):Nat→Ds × Ds:=Nat.rec (fun _=>([[]],[])) (fun f ih=>fcS (tzc f).1 (tzc f).2 ih) f
noncomputable def Sm (l:List Nat) (d:Ds):Prop:=∃ r∈d,∀ y∈r,Ok l y
section
variable {l:List Nat}
theorem Sm.lt {d e} (h:Sm l d):Sm l (d++e):=h.elim fun r h=>⟨r,List.mem_append_left _ h.1,h.2⟩
theorem Sm.rt {d e} (h:Sm l e):Sm l (d++e):=h.elim fun r h=>⟨r,List.mem_append_right _ h.1,h.2⟩
theorem Sm.and {d e}:Sm l d→Sm l e→Sm l (andD d e):=fun h h'=>h.elim fun r h=>h'.elim fun q h' =>
 ⟨r++q,List.mem_flatMap.mpr ⟨r,h.1,List.mem_map.mpr ⟨q,h'.1,rfl⟩⟩,fun y hy=>(List.mem_append.mp hy).elim (h.2 y) (h'.2 y)⟩
theorem leD_some {k p q a b} (ha:Good l p a) (hb:Good l q b) (h:0≤q-p+k):Sm l (leD k a b) :=
 let ⟨x,hx,_,g⟩:=pr_good (r:=0) (f:=fun x y=>[([0],[ladd (lsub y x) [k]])])
  (fun x y ex ey=>⟨_,.head _,dot_con _ _,fun z hz=>by rw [List.mem_singleton.mp hz]; unfold Ok; rw [dot_add,dot_sub,dot_con,ex,ey]; exact h⟩) ha hb
 ⟨x.2,List.mem_map.mpr ⟨x,hx,rfl⟩,g⟩
theorem le_some {p q a b} (ha:Good l p a) (hb:Good l q b) (h:p≤q):Sm l (leD 0 a b):=leD_some ha hb (by rw [Int.add_zero]; exact Int.sub_nonneg_of_le h)
theorem lt_some {p q a b} (ha:Good l p a) (hb:Good l q b) (h:p<q):Sm l (leD (-1) a b):=leD_some ha hb (Int.le_sub_one_of_lt (Int.sub_pos_of_lt h))
theorem eqD_some {p q a b} (ha:Good l p a) (hb:Good l q b) (h:p=q):Sm l (eqD a b) :=
 let ⟨x,hx,_,g⟩:=pr_good (r:=0) (f:=fun x y=>[([0],[lsub y x,lsub x y])])
  (fun x y ex ey=>⟨_,.head _,dot_con _ _,fun z hz=>by
   cases hz with
   | head=>exact ok_sub ey ex (Int.le_of_eq h)
   | tail _ hz=>rw [List.mem_singleton.mp hz]; exact ok_sub ex ey (Int.le_of_eq h.symm)⟩) ha hb
 ⟨x.2,List.mem_map.mpr ⟨x,hx,rfl⟩,g⟩
theorem neD_some {p q a b} (ha:Good l p a) (hb:Good l q b) (h:¬p=q):Sm l (neD a b) :=
 (Int.lt_or_gt_of_ne h).elim (fun g=>.lt (lt_some ha hb g)) fun g=>.rt (lt_some hb ha g)
noncomputable def Both (l:List Nat) (p:Prop) (d:Ds × Ds):Prop:=(p→Sm l d.1)∧(¬p→Sm l d.2)
theorem f_step {t u z y v c} (ht:∀ n,Good l (t n:Nat) (u n)) (hz:∀ n,Good l (z n) (y n)) (ih:∀ n,Both l (v n) (c n)) (n:Nat):Both l (fvS t z v n) (fcS u y c n) :=
 two (R:=Both l) _ ⟨fun h=>le_some (ht _) (ht _) (Int.ofNat_le.mpr h),fun h=>lt_some (ht _) (ht _) (Int.ofNat_lt.mpr (Nat.lt_of_not_le h))⟩ <|
 two (R:=Both l) _ ⟨fun h=>lt_some (ht _) (ht _) (Int.ofNat_lt.mpr h),fun h=>le_some (ht _) (ht _) (Int.ofNat_le.mpr (Nat.le_of_not_lt h))⟩ <|
 two (R:=Both l) _ ⟨fun h=>eqD_some (ht _) (ht _) (congrArg _ h),fun h=>neD_some (ht _) (ht _) fun e=>h (Int.ofNat.inj e)⟩ <|
 two (R:=Both l) _ ⟨fun h=>le_some (hz _) (hz _) h,fun h=>lt_some (hz _) (hz _) (Int.not_le.mp h)⟩ <|
 two (R:=Both l) _ ⟨fun h=>lt_some (hz _) (hz _) h,fun h=>le_some (hz _) (hz _) (Int.not_lt.mp h)⟩ <|
 two (R:=Both l) _ ⟨fun h=>eqD_some (hz _) (hz _) h,fun h=>neD_some (hz _) (hz _) h⟩ <|
 two (R:=Both l) _ ⟨fun h=>((ih _).1 h.1).and ((ih _).1 h.2),fun h=>(Classical.not_and_iff_not_or_not.mp h).elim (fun h=>.lt ((ih _).2 h)) fun h=>.rt ((ih _).2 h)⟩ <|
 two (R:=Both l) _ ⟨fun h=>h.elim (fun h=>.lt ((ih _).1 h)) fun h=>.rt ((ih _).1 h),fun h=>((ih _).2 fun g=>h (.inl g)).and ((ih _).2 fun g=>h (.inr g))⟩ <|
 two (R:=Both l) _ ⟨fun h=>(ih _).2 h,fun h=>(ih _).1 (Classical.not_not.mp h)⟩ <|
 two (R:=Both l) _ ⟨fun h=>h.elim,fun _=>⟨[],.head _,fun _ h=>nomatch h⟩⟩
 ⟨fun h=>(Classical.em _).elim (fun g=>.rt ((ih _).1 (h g))) fun g=>.lt ((ih _).2 g),fun h=>((ih _).1 (Classical.not_imp.mp h).1).and ((ih _).2 (Classical.not_imp.mp h).2)⟩
theorem f_some (l:List Nat) (f:Nat):∀ n,Both l (fv l f n) (fc f n):=by
 induction f with
 | zero=>exact fun n=>⟨fun _=>⟨[],.head _,fun _ h=>nomatch h⟩,fun h=>(h trivial).elim⟩
 | succ f ih=>exact f_step (tz_good l f).1 (tz_good l f).2 ih
end
noncomputable def neg (a:Int):Bool:=Int.rec (fun _=>false) (fun _=>true) a
noncomputable def npos (a:Int):Bool:=Int.rec (fun n=>Nat.beq n 0) (fun _=>true) a
noncomputable def nps (as:List Int):Bool:=List.rec true (fun a _ ih=>cond (npos a) ih false) as
noncomputable def bad (c:List Int):Bool:=List.rec false (fun a as _=>cond (neg a) (nps as) false) c
noncomputable def comb (b:Nat) (r:List (List Int)):Nat→List Int:=List.rec (fun _=>[]) (fun r _ ih w=>cond (Nat.beq (w % 2 ^ b) 0) (ih (w/2 ^ b)) (ladd (lmul (Int.ofNat (w % 2 ^ b)) r) (ih (w/2 ^ b)))) r
noncomputable def alls (b:Nat) (d:Ds):Nat→Bool:=List.rec (fun _=>true) (fun r _ ih w=>cond (bad (comb b r w)) (ih (w/2 ^ (b*r.length))) false) d
noncomputable def chk (n b w:Nat):Bool:=alls b (fc 16 n).2 w
theorem nps_le {l as} (h:nps as=true):dot as l≤0:=by
 induction as generalizing l with
 | nil=>exact Int.le_refl 0
 | cons a as ih =>
  cases l with
  | nil=>exact Int.le_refl 0
  | cons x l =>
   have h:cond (npos a) (nps as) false=true:=h
   cases e:npos a with
   | false=>rw [e] at h; cases h
   | true =>
    rw [e] at h
    refine Int.add_nonpos (Int.mul_nonpos_of_nonpos_of_nonneg ?_ (Int.natCast_nonneg x)) (ih h)
    cases a with
    | ofNat n=>rw [Nat.eq_of_beq_eq_true e]; exact Int.le_refl 0
    | negSucc n=>exact Int.le_of_lt (Int.negSucc_lt_zero n)
theorem bad_lt {l c} (h:bad c=true):¬Ok l c:=by
 cases c with
 | nil=>cases h
 | cons a as =>
  cases a with
  | ofNat n=>cases h
  | negSucc n=>exact Int.not_le.mpr (Int.add_neg_of_neg_of_nonpos (by rw [Int.natCast_one,Int.mul_one]; exact Int.negSucc_lt_zero n) (nps_le h))
theorem comb_ok {l b r} (h:∀ c∈r,Ok l c):∀ w,Ok l (comb b r w):=by
 induction r with
 | nil=>exact fun _=>Int.le_refl 0
 | cons c r ih =>
  intro w
  have ih:=ih (fun c hc=>h c (.tail _ hc)) (w/2 ^ b)
  show Ok l (cond _ _ _)
  cases Nat.beq (w % 2 ^ b) 0 with
  | true=>exact ih
  | false=>unfold Ok; show 0≤dot (ladd _ _) _; rw [dot_add,dot_mul]; exact Int.add_nonneg (Int.mul_nonneg (Int.natCast_nonneg _) (h c (.head _))) ih
theorem alls_no {l b d}:∀ w,alls b d w=true→¬Sm l d:=by
 induction d with
 | nil=>exact fun _ _ ⟨_,h,_⟩=>nomatch h
 | cons r d ih =>
  intro w h ⟨q,hq,g⟩
  have h:cond (bad (comb b r w)) (alls b d _) false=true:=h
  cases e:bad (comb b r w) with
  | false=>rw [e] at h; cases h
  | true =>
   rw [e] at h
   cases hq with
   | head=>exact bad_lt e (comb_ok g w)
   | tail _ hq=>exact ih _ h ⟨q,hq,g⟩
theorem la {n b w:Nat} (h:chk n b w=true) (l:List Nat):fv l 16 n:=Classical.byContradiction fun g=>alls_no w h ((f_some l 16 n).2 g)
end La
section
variable (n b w:Nat) (h:La.chk n b w=true)
include h
theorem q0:La.fv [] 16 n:=La.la h _
theorem q1 {c:Nat}:La.fv [c] 16 n:=La.la h _
theorem q2 {c d:Nat}:La.fv [c,d] 16 n:=La.la h _
theorem q3 {c d e:Nat}:La.fv [c,d,e] 16 n:=La.la h _
theorem q4 {c d e f:Nat}:La.fv [c,d,e,f] 16 n:=La.la h _
theorem q5 {c d e f g:Nat}:La.fv [c,d,e,f,g] 16 n:=La.la h _
theorem q6 {c d e f g i:Nat}:La.fv [c,d,e,f,g,i] 16 n:=La.la h _
theorem q7 {c d e f g i j:Nat}:La.fv [c,d,e,f,g,i,j] 16 n:=La.la h _
theorem q8 {c d e f g i j k:Nat}:La.fv [c,d,e,f,g,i,j,k] 16 n:=La.la h _
theorem q9 {c d e f g i j k l:Nat}:La.fv [c,d,e,f,g,i,j,k,l] 16 n:=La.la h _
end
section
universe u1 u2 u3 u4 u5 u6 u7 u8 u9 u10
theorem u01  {P0 P1:Prop} {G:Prop} (h:P0∧P1) (k:P0→P1→G):G:=h.elim k
theorem u02  {P0 P1 P2:Prop} {G:Prop} (h:P0∧P1∧P2) (k:P0→P1→P2→G):G:=h.elim fun a h=>u01 h (k a)
theorem u03  {P0 P1 P2 P3:Prop} {G:Prop} (h:P0∧P1∧P2∧P3) (k:P0→P1→P2→P3→G):G:=h.elim fun a h=>u02 h (k a)
theorem u04  {P0 P1 P2 P3 P4:Prop} {G:Prop} (h:P0∧P1∧P2∧P3∧P4) (k:P0→P1→P2→P3→P4→G):G:=h.elim fun a h=>u03 h (k a)
theorem u05  {P0 P1 P2 P3 P4 P5:Prop} {G:Prop} (h:P0∧P1∧P2∧P3∧P4∧P5) (k:P0→P1→P2→P3→P4→P5→G):G:=h.elim fun a h=>u04 h (k a)
theorem u06  {P0 P1 P2 P3 P4 P5 P6:Prop} {G:Prop} (h:P0∧P1∧P2∧P3∧P4∧P5∧P6) (k:P0→P1→P2→P3→P4→P5→P6→G):G:=h.elim fun a h=>u05 h (k a)
theorem u07  {P0 P1 P2 P3 P4 P5 P6 P7:Prop} {G:Prop} (h:P0∧P1∧P2∧P3∧P4∧P5∧P6∧P7) (k:P0→P1→P2→P3→P4→P5→P6→P7→G):G:=h.elim fun a h=>u06 h (k a)
theorem u08  {P0 P1 P2 P3 P4 P5 P6 P7 P8:Prop} {G:Prop} (h:P0∧P1∧P2∧P3∧P4∧P5∧P6∧P7∧P8) (k:P0→P1→P2→P3→P4→P5→P6→P7→P8→G):G:=h.elim fun a h=>u07 h (k a)
theorem u09  {P0 P1 P2 P3 P4 P5 P6 P7 P8 P9:Prop} {G:Prop} (h:P0∧P1∧P2∧P3∧P4∧P5∧P6∧P7∧P8∧P9) (k:P0→P1→P2→P3→P4→P5→P6→P7→P8→P9→G):G:=h.elim fun a h=>u08 h (k a)
theorem u010  {P0 P1 P2 P3 P4 P5 P6 P7 P8 P9 P10:Prop} {G:Prop} (h:P0∧P1∧P2∧P3∧P4∧P5∧P6∧P7∧P8∧P9∧P10) (k:P0→P1→P2→P3→P4→P5→P6→P7→P8→P9→P10→G):G:=h.elim fun a h=>u09 h (k a)
theorem u10 {T0:Sort u1} {P0:T0→Prop} {G:Prop} (h:∃ a,P0 a) (k:∀ a,P0 a→G):G:=h.elim k
theorem u11 {T0:Sort u1} {P0 P1:T0→Prop} {G:Prop} (h:∃ a,P0 a∧P1 a) (k:∀ a,P0 a→P1 a→G):G:=h.elim fun a h=>u01 h (k a)
theorem u12 {T0:Sort u1} {P0 P1 P2:T0→Prop} {G:Prop} (h:∃ a,P0 a∧P1 a∧P2 a) (k:∀ a,P0 a→P1 a→P2 a→G):G:=h.elim fun a h=>u02 h (k a)
theorem u13 {T0:Sort u1} {P0 P1 P2 P3:T0→Prop} {G:Prop} (h:∃ a,P0 a∧P1 a∧P2 a∧P3 a) (k:∀ a,P0 a→P1 a→P2 a→P3 a→G):G:=h.elim fun a h=>u03 h (k a)
theorem u14 {T0:Sort u1} {P0 P1 P2 P3 P4:T0→Prop} {G:Prop} (h:∃ a,P0 a∧P1 a∧P2 a∧P3 a∧P4 a) (k:∀ a,P0 a→P1 a→P2 a→P3 a→P4 a→G):G:=h.elim fun a h=>u04 h (k a)
theorem u15 {T0:Sort u1} {P0 P1 P2 P3 P4 P5:T0→Prop} {G:Prop} (h:∃ a,P0 a∧P1 a∧P2 a∧P3 a∧P4 a∧P5 a) (k:∀ a,P0 a→P1 a→P2 a→P3 a→P4 a→P5 a→G):G:=h.elim fun a h=>u05 h (k a)
theorem u16 {T0:Sort u1} {P0 P1 P2 P3 P4 P5 P6:T0→Prop} {G:Prop} (h:∃ a,P0 a∧P1 a∧P2 a∧P3 a∧P4 a∧P5 a∧P6 a) (k:∀ a,P0 a→P1 a→P2 a→P3 a→P4 a→P5 a→P6 a→G):G:=h.elim fun a h=>u06 h (k a)
theorem u17 {T0:Sort u1} {P0 P1 P2 P3 P4 P5 P6 P7:T0→Prop} {G:Prop} (h:∃ a,P0 a∧P1 a∧P2 a∧P3 a∧P4 a∧P5 a∧P6 a∧P7 a) (k:∀ a,P0 a→P1 a→P2 a→P3 a→P4 a→P5 a→P6 a→P7 a→G):G:=h.elim fun a h=>u07 h (k a)
theorem u18 {T0:Sort u1} {P0 P1 P2 P3 P4 P5 P6 P7 P8:T0→Prop} {G:Prop} (h:∃ a,P0 a∧P1 a∧P2 a∧P3 a∧P4 a∧P5 a∧P6 a∧P7 a∧P8 a) (k:∀ a,P0 a→P1 a→P2 a→P3 a→P4 a→P5 a→P6 a→P7 a→P8 a→G):G:=h.elim fun a h=>u08 h (k a)
theorem u19 {T0:Sort u1} {P0 P1 P2 P3 P4 P5 P6 P7 P8 P9:T0→Prop} {G:Prop} (h:∃ a,P0 a∧P1 a∧P2 a∧P3 a∧P4 a∧P5 a∧P6 a∧P7 a∧P8 a∧P9 a) (k:∀ a,P0 a→P1 a→P2 a→P3 a→P4 a→P5 a→P6 a→P7 a→P8 a→P9 a→G):G:=h.elim fun a h=>u09 h (k a)
theorem u110 {T0:Sort u1} {P0 P1 P2 P3 P4 P5 P6 P7 P8 P9 P10:T0→Prop} {G:Prop} (h:∃ a,P0 a∧P1 a∧P2 a∧P3 a∧P4 a∧P5 a∧P6 a∧P7 a∧P8 a∧P9 a∧P10 a) (k:∀ a,P0 a→P1 a→P2 a→P3 a→P4 a→P5 a→P6 a→P7 a→P8 a→P9 a→P10 a→G):G:=h.elim fun a h=>u010 h (k a)
theorem u20 {T0:Sort u1} {T1:Sort u2} {P0:T0→T1→Prop} {G:Prop} (h:∃ a,∃ b,P0 a b) (k:∀ a b,P0 a b→G):G:=h.elim fun a h=>u10 h (k a)
theorem u21 {T0:Sort u1} {T1:Sort u2} {P0 P1:T0→T1→Prop} {G:Prop} (h:∃ a,∃ b,P0 a b∧P1 a b) (k:∀ a b,P0 a b→P1 a b→G):G:=h.elim fun a h=>u11 h (k a)
theorem u22 {T0:Sort u1} {T1:Sort u2} {P0 P1 P2:T0→T1→Prop} {G:Prop} (h:∃ a,∃ b,P0 a b∧P1 a b∧P2 a b) (k:∀ a b,P0 a b→P1 a b→P2 a b→G):G:=h.elim fun a h=>u12 h (k a)
theorem u23 {T0:Sort u1} {T1:Sort u2} {P0 P1 P2 P3:T0→T1→Prop} {G:Prop} (h:∃ a,∃ b,P0 a b∧P1 a b∧P2 a b∧P3 a b) (k:∀ a b,P0 a b→P1 a b→P2 a b→P3 a b→G):G:=h.elim fun a h=>u13 h (k a)
theorem u24 {T0:Sort u1} {T1:Sort u2} {P0 P1 P2 P3 P4:T0→T1→Prop} {G:Prop} (h:∃ a,∃ b,P0 a b∧P1 a b∧P2 a b∧P3 a b∧P4 a b) (k:∀ a b,P0 a b→P1 a b→P2 a b→P3 a b→P4 a b→G):G:=h.elim fun a h=>u14 h (k a)
theorem u25 {T0:Sort u1} {T1:Sort u2} {P0 P1 P2 P3 P4 P5:T0→T1→Prop} {G:Prop} (h:∃ a,∃ b,P0 a b∧P1 a b∧P2 a b∧P3 a b∧P4 a b∧P5 a b) (k:∀ a b,P0 a b→P1 a b→P2 a b→P3 a b→P4 a b→P5 a b→G):G:=h.elim fun a h=>u15 h (k a)
theorem u26 {T0:Sort u1} {T1:Sort u2} {P0 P1 P2 P3 P4 P5 P6:T0→T1→Prop} {G:Prop} (h:∃ a,∃ b,P0 a b∧P1 a b∧P2 a b∧P3 a b∧P4 a b∧P5 a b∧P6 a b) (k:∀ a b,P0 a b→P1 a b→P2 a b→P3 a b→P4 a b→P5 a b→P6 a b→G):G:=h.elim fun a h=>u16 h (k a)
theorem u27 {T0:Sort u1} {T1:Sort u2} {P0 P1 P2 P3 P4 P5 P6 P7:T0→T1→Prop} {G:Prop} (h:∃ a,∃ b,P0 a b∧P1 a b∧P2 a b∧P3 a b∧P4 a b∧P5 a b∧P6 a b∧P7 a b) (k:∀ a b,P0 a b→P1 a b→P2 a b→P3 a b→P4 a b→P5 a b→P6 a b→P7 a b→G):G:=h.elim fun a h=>u17 h (k a)
theorem u28 {T0:Sort u1} {T1:Sort u2} {P0 P1 P2 P3 P4 P5 P6 P7 P8:T0→T1→Prop} {G:Prop} (h:∃ a,∃ b,P0 a b∧P1 a b∧P2 a b∧P3 a b∧P4 a b∧P5 a b∧P6 a b∧P7 a b∧P8 a b) (k:∀ a b,P0 a b→P1 a b→P2 a b→P3 a b→P4 a b→P5 a b→P6 a b→P7 a b→P8 a b→G):G:=h.elim fun a h=>u18 h (k a)
theorem u29 {T0:Sort u1} {T1:Sort u2} {P0 P1 P2 P3 P4 P5 P6 P7 P8 P9:T0→T1→Prop} {G:Prop} (h:∃ a,∃ b,P0 a b∧P1 a b∧P2 a b∧P3 a b∧P4 a b∧P5 a b∧P6 a b∧P7 a b∧P8 a b∧P9 a b) (k:∀ a b,P0 a b→P1 a b→P2 a b→P3 a b→P4 a b→P5 a b→P6 a b→P7 a b→P8 a b→P9 a b→G):G:=h.elim fun a h=>u19 h (k a)
theorem u210 {T0:Sort u1} {T1:Sort u2} {P0 P1 P2 P3 P4 P5 P6 P7 P8 P9 P10:T0→T1→Prop} {G:Prop} (h:∃ a,∃ b,P0 a b∧P1 a b∧P2 a b∧P3 a b∧P4 a b∧P5 a b∧P6 a b∧P7 a b∧P8 a b∧P9 a b∧P10 a b) (k:∀ a b,P0 a b→P1 a b→P2 a b→P3 a b→P4 a b→P5 a b→P6 a b→P7 a b→P8 a b→P9 a b→P10 a b→G):G:=h.elim fun a h=>u110 h (k a)
theorem u30 {T0:Sort u1} {T1:Sort u2} {T2:Sort u3} {P0:T0→T1→T2→Prop} {G:Prop} (h:∃ a,∃ b,∃ c,P0 a b c) (k:∀ a b c,P0 a b c→G):G:=h.elim fun a h=>u20 h (k a)
theorem u31 {T0:Sort u1} {T1:Sort u2} {T2:Sort u3} {P0 P1:T0→T1→T2→Prop} {G:Prop} (h:∃ a,∃ b,∃ c,P0 a b c∧P1 a b c) (k:∀ a b c,P0 a b c→P1 a b c→G):G:=h.elim fun a h=>u21 h (k a)
theorem u32 {T0:Sort u1} {T1:Sort u2} {T2:Sort u3} {P0 P1 P2:T0→T1→T2→Prop} {G:Prop} (h:∃ a,∃ b,∃ c,P0 a b c∧P1 a b c∧P2 a b c) (k:∀ a b c,P0 a b c→P1 a b c→P2 a b c→G):G:=h.elim fun a h=>u22 h (k a)
theorem u33 {T0:Sort u1} {T1:Sort u2} {T2:Sort u3} {P0 P1 P2 P3:T0→T1→T2→Prop} {G:Prop} (h:∃ a,∃ b,∃ c,P0 a b c∧P1 a b c∧P2 a b c∧P3 a b c) (k:∀ a b c,P0 a b c→P1 a b c→P2 a b c→P3 a b c→G):G:=h.elim fun a h=>u23 h (k a)
theorem u34 {T0:Sort u1} {T1:Sort u2} {T2:Sort u3} {P0 P1 P2 P3 P4:T0→T1→T2→Prop} {G:Prop} (h:∃ a,∃ b,∃ c,P0 a b c∧P1 a b c∧P2 a b c∧P3 a b c∧P4 a b c) (k:∀ a b c,P0 a b c→P1 a b c→P2 a b c→P3 a b c→P4 a b c→G):G:=h.elim fun a h=>u24 h (k a)
theorem u35 {T0:Sort u1} {T1:Sort u2} {T2:Sort u3} {P0 P1 P2 P3 P4 P5:T0→T1→T2→Prop} {G:Prop} (h:∃ a,∃ b,∃ c,P0 a b c∧P1 a b c∧P2 a b c∧P3 a b c∧P4 a b c∧P5 a b c) (k:∀ a b c,P0 a b c→P1 a b c→P2 a b c→P3 a b c→P4 a b c→P5 a b c→G):G:=h.elim fun a h=>u25 h (k a)
theorem u36 {T0:Sort u1} {T1:Sort u2} {T2:Sort u3} {P0 P1 P2 P3 P4 P5 P6:T0→T1→T2→Prop} {G:Prop} (h:∃ a,∃ b,∃ c,P0 a b c∧P1 a b c∧P2 a b c∧P3 a b c∧P4 a b c∧P5 a b c∧P6 a b c) (k:∀ a b c,P0 a b c→P1 a b c→P2 a b c→P3 a b c→P4 a b c→P5 a b c→P6 a b c→G):G:=h.elim fun a h=>u26 h (k a)
theorem u37 {T0:Sort u1} {T1:Sort u2} {T2:Sort u3} {P0 P1 P2 P3 P4 P5 P6 P7:T0→T1→T2→Prop} {G:Prop} (h:∃ a,∃ b,∃ c,P0 a b c∧P1 a b c∧P2 a b c∧P3 a b c∧P4 a b c∧P5 a b c∧P6 a b c∧P7 a b c) (k:∀ a b c,P0 a b c→P1 a b c→P2 a b c→P3 a b c→P4 a b c→P5 a b c→P6 a b c→P7 a b c→G):G:=h.elim fun a h=>u27 h (k a)
theorem u38 {T0:Sort u1} {T1:Sort u2} {T2:Sort u3} {P0 P1 P2 P3 P4 P5 P6 P7 P8:T0→T1→T2→Prop} {G:Prop} (h:∃ a,∃ b,∃ c,P0 a b c∧P1 a b c∧P2 a b c∧P3 a b c∧P4 a b c∧P5 a b c∧P6 a b c∧P7 a b c∧P8 a b c) (k:∀ a b c,P0 a b c→P1 a b c→P2 a b c→P3 a b c→P4 a b c→P5 a b c→P6 a b c→P7 a b c→P8 a b c→G):G:=h.elim fun a h=>u28 h (k a)
theorem u39 {T0:Sort u1} {T1:Sort u2} {T2:Sort u3} {P0 P1 P2 P3 P4 P5 P6 P7 P8 P9:T0→T1→T2→Prop} {G:Prop} (h:∃ a,∃ b,∃ c,P0 a b c∧P1 a b c∧P2 a b c∧P3 a b c∧P4 a b c∧P5 a b c∧P6 a b c∧P7 a b c∧P8 a b c∧P9 a b c) (k:∀ a b c,P0 a b c→P1 a b c→P2 a b c→P3 a b c→P4 a b c→P5 a b c→P6 a b c→P7 a b c→P8 a b c→P9 a b c→G):G:=h.elim fun a h=>u29 h (k a)
theorem u310 {T0:Sort u1} {T1:Sort u2} {T2:Sort u3} {P0 P1 P2 P3 P4 P5 P6 P7 P8 P9 P10:T0→T1→T2→Prop} {G:Prop} (h:∃ a,∃ b,∃ c,P0 a b c∧P1 a b c∧P2 a b c∧P3 a b c∧P4 a b c∧P5 a b c∧P6 a b c∧P7 a b c∧P8 a b c∧P9 a b c∧P10 a b c) (k:∀ a b c,P0 a b c→P1 a b c→P2 a b c→P3 a b c→P4 a b c→P5 a b c→P6 a b c→P7 a b c→P8 a b c→P9 a b c→P10 a b c→G):G:=h.elim fun a h=>u210 h (k a)
theorem u41 {T0:Sort u1} {T1:Sort u2} {T2:Sort u3} {T3:Sort u4} {P0 P1:T0→T1→T2→T3→Prop} {G:Prop} (h:∃ a,∃ b,∃ c,∃ d,P0 a b c d∧P1 a b c d) (k:∀ a b c d,P0 a b c d→P1 a b c d→G):G:=h.elim fun a h=>u31 h (k a)
theorem u42 {T0:Sort u1} {T1:Sort u2} {T2:Sort u3} {T3:Sort u4} {P0 P1 P2:T0→T1→T2→T3→Prop} {G:Prop} (h:∃ a,∃ b,∃ c,∃ d,P0 a b c d∧P1 a b c d∧P2 a b c d) (k:∀ a b c d,P0 a b c d→P1 a b c d→P2 a b c d→G):G:=h.elim fun a h=>u32 h (k a)
theorem u43 {T0:Sort u1} {T1:Sort u2} {T2:Sort u3} {T3:Sort u4} {P0 P1 P2 P3:T0→T1→T2→T3→Prop} {G:Prop} (h:∃ a,∃ b,∃ c,∃ d,P0 a b c d∧P1 a b c d∧P2 a b c d∧P3 a b c d) (k:∀ a b c d,P0 a b c d→P1 a b c d→P2 a b c d→P3 a b c d→G):G:=h.elim fun a h=>u33 h (k a)
theorem u44 {T0:Sort u1} {T1:Sort u2} {T2:Sort u3} {T3:Sort u4} {P0 P1 P2 P3 P4:T0→T1→T2→T3→Prop} {G:Prop} (h:∃ a,∃ b,∃ c,∃ d,P0 a b c d∧P1 a b c d∧P2 a b c d∧P3 a b c d∧P4 a b c d) (k:∀ a b c d,P0 a b c d→P1 a b c d→P2 a b c d→P3 a b c d→P4 a b c d→G):G:=h.elim fun a h=>u34 h (k a)
theorem u45 {T0:Sort u1} {T1:Sort u2} {T2:Sort u3} {T3:Sort u4} {P0 P1 P2 P3 P4 P5:T0→T1→T2→T3→Prop} {G:Prop} (h:∃ a,∃ b,∃ c,∃ d,P0 a b c d∧P1 a b c d∧P2 a b c d∧P3 a b c d∧P4 a b c d∧P5 a b c d) (k:∀ a b c d,P0 a b c d→P1 a b c d→P2 a b c d→P3 a b c d→P4 a b c d→P5 a b c d→G):G:=h.elim fun a h=>u35 h (k a)
theorem u46 {T0:Sort u1} {T1:Sort u2} {T2:Sort u3} {T3:Sort u4} {P0 P1 P2 P3 P4 P5 P6:T0→T1→T2→T3→Prop} {G:Prop} (h:∃ a,∃ b,∃ c,∃ d,P0 a b c d∧P1 a b c d∧P2 a b c d∧P3 a b c d∧P4 a b c d∧P5 a b c d∧P6 a b c d) (k:∀ a b c d,P0 a b c d→P1 a b c d→P2 a b c d→P3 a b c d→P4 a b c d→P5 a b c d→P6 a b c d→G):G:=h.elim fun a h=>u36 h (k a)
theorem u47 {T0:Sort u1} {T1:Sort u2} {T2:Sort u3} {T3:Sort u4} {P0 P1 P2 P3 P4 P5 P6 P7:T0→T1→T2→T3→Prop} {G:Prop} (h:∃ a,∃ b,∃ c,∃ d,P0 a b c d∧P1 a b c d∧P2 a b c d∧P3 a b c d∧P4 a b c d∧P5 a b c d∧P6 a b c d∧P7 a b c d) (k:∀ a b c d,P0 a b c d→P1 a b c d→P2 a b c d→P3 a b c d→P4 a b c d→P5 a b c d→P6 a b c d→P7 a b c d→G):G:=h.elim fun a h=>u37 h (k a)
theorem u48 {T0:Sort u1} {T1:Sort u2} {T2:Sort u3} {T3:Sort u4} {P0 P1 P2 P3 P4 P5 P6 P7 P8:T0→T1→T2→T3→Prop} {G:Prop} (h:∃ a,∃ b,∃ c,∃ d,P0 a b c d∧P1 a b c d∧P2 a b c d∧P3 a b c d∧P4 a b c d∧P5 a b c d∧P6 a b c d∧P7 a b c d∧P8 a b c d) (k:∀ a b c d,P0 a b c d→P1 a b c d→P2 a b c d→P3 a b c d→P4 a b c d→P5 a b c d→P6 a b c d→P7 a b c d→P8 a b c d→G):G:=h.elim fun a h=>u38 h (k a)
theorem u49 {T0:Sort u1} {T1:Sort u2} {T2:Sort u3} {T3:Sort u4} {P0 P1 P2 P3 P4 P5 P6 P7 P8 P9:T0→T1→T2→T3→Prop} {G:Prop} (h:∃ a,∃ b,∃ c,∃ d,P0 a b c d∧P1 a b c d∧P2 a b c d∧P3 a b c d∧P4 a b c d∧P5 a b c d∧P6 a b c d∧P7 a b c d∧P8 a b c d∧P9 a b c d) (k:∀ a b c d,P0 a b c d→P1 a b c d→P2 a b c d→P3 a b c d→P4 a b c d→P5 a b c d→P6 a b c d→P7 a b c d→P8 a b c d→P9 a b c d→G):G:=h.elim fun a h=>u39 h (k a)
theorem u410 {T0:Sort u1} {T1:Sort u2} {T2:Sort u3} {T3:Sort u4} {P0 P1 P2 P3 P4 P5 P6 P7 P8 P9 P10:T0→T1→T2→T3→Prop} {G:Prop} (h:∃ a,∃ b,∃ c,∃ d,P0 a b c d∧P1 a b c d∧P2 a b c d∧P3 a b c d∧P4 a b c d∧P5 a b c d∧P6 a b c d∧P7 a b c d∧P8 a b c d∧P9 a b c d∧P10 a b c d) (k:∀ a b c d,P0 a b c d→P1 a b c d→P2 a b c d→P3 a b c d→P4 a b c d→P5 a b c d→P6 a b c d→P7 a b c d→P8 a b c d→P9 a b c d→P10 a b c d→G):G:=h.elim fun a h=>u310 h (k a)
theorem u51 {T0:Sort u1} {T1:Sort u2} {T2:Sort u3} {T3:Sort u4} {T4:Sort u5} {P0 P1:T0→T1→T2→T3→T4→Prop} {G:Prop} (h:∃ a,∃ b,∃ c,∃ d,∃ e,P0 a b c d e∧P1 a b c d e) (k:∀ a b c d e,P0 a b c d e→P1 a b c d e→G):G:=h.elim fun a h=>u41 h (k a)
theorem u52 {T0:Sort u1} {T1:Sort u2} {T2:Sort u3} {T3:Sort u4} {T4:Sort u5} {P0 P1 P2:T0→T1→T2→T3→T4→Prop} {G:Prop} (h:∃ a,∃ b,∃ c,∃ d,∃ e,P0 a b c d e∧P1 a b c d e∧P2 a b c d e) (k:∀ a b c d e,P0 a b c d e→P1 a b c d e→P2 a b c d e→G):G:=h.elim fun a h=>u42 h (k a)
theorem u53 {T0:Sort u1} {T1:Sort u2} {T2:Sort u3} {T3:Sort u4} {T4:Sort u5} {P0 P1 P2 P3:T0→T1→T2→T3→T4→Prop} {G:Prop} (h:∃ a,∃ b,∃ c,∃ d,∃ e,P0 a b c d e∧P1 a b c d e∧P2 a b c d e∧P3 a b c d e) (k:∀ a b c d e,P0 a b c d e→P1 a b c d e→P2 a b c d e→P3 a b c d e→G):G:=h.elim fun a h=>u43 h (k a)
theorem u54 {T0:Sort u1} {T1:Sort u2} {T2:Sort u3} {T3:Sort u4} {T4:Sort u5} {P0 P1 P2 P3 P4:T0→T1→T2→T3→T4→Prop} {G:Prop} (h:∃ a,∃ b,∃ c,∃ d,∃ e,P0 a b c d e∧P1 a b c d e∧P2 a b c d e∧P3 a b c d e∧P4 a b c d e) (k:∀ a b c d e,P0 a b c d e→P1 a b c d e→P2 a b c d e→P3 a b c d e→P4 a b c d e→G):G:=h.elim fun a h=>u44 h (k a)
theorem u55 {T0:Sort u1} {T1:Sort u2} {T2:Sort u3} {T3:Sort u4} {T4:Sort u5} {P0 P1 P2 P3 P4 P5:T0→T1→T2→T3→T4→Prop} {G:Prop} (h:∃ a,∃ b,∃ c,∃ d,∃ e,P0 a b c d e∧P1 a b c d e∧P2 a b c d e∧P3 a b c d e∧P4 a b c d e∧P5 a b c d e) (k:∀ a b c d e,P0 a b c d e→P1 a b c d e→P2 a b c d e→P3 a b c d e→P4 a b c d e→P5 a b c d e→G):G:=h.elim fun a h=>u45 h (k a)
theorem u57 {T0:Sort u1} {T1:Sort u2} {T2:Sort u3} {T3:Sort u4} {T4:Sort u5} {P0 P1 P2 P3 P4 P5 P6 P7:T0→T1→T2→T3→T4→Prop} {G:Prop} (h:∃ a,∃ b,∃ c,∃ d,∃ e,P0 a b c d e∧P1 a b c d e∧P2 a b c d e∧P3 a b c d e∧P4 a b c d e∧P5 a b c d e∧P6 a b c d e∧P7 a b c d e) (k:∀ a b c d e,P0 a b c d e→P1 a b c d e→P2 a b c d e→P3 a b c d e→P4 a b c d e→P5 a b c d e→P6 a b c d e→P7 a b c d e→G):G:=h.elim fun a h=>u47 h (k a)
theorem u58 {T0:Sort u1} {T1:Sort u2} {T2:Sort u3} {T3:Sort u4} {T4:Sort u5} {P0 P1 P2 P3 P4 P5 P6 P7 P8:T0→T1→T2→T3→T4→Prop} {G:Prop} (h:∃ a,∃ b,∃ c,∃ d,∃ e,P0 a b c d e∧P1 a b c d e∧P2 a b c d e∧P3 a b c d e∧P4 a b c d e∧P5 a b c d e∧P6 a b c d e∧P7 a b c d e∧P8 a b c d e) (k:∀ a b c d e,P0 a b c d e→P1 a b c d e→P2 a b c d e→P3 a b c d e→P4 a b c d e→P5 a b c d e→P6 a b c d e→P7 a b c d e→P8 a b c d e→G):G:=h.elim fun a h=>u48 h (k a)
theorem u510 {T0:Sort u1} {T1:Sort u2} {T2:Sort u3} {T3:Sort u4} {T4:Sort u5} {P0 P1 P2 P3 P4 P5 P6 P7 P8 P9 P10:T0→T1→T2→T3→T4→Prop} {G:Prop} (h:∃ a,∃ b,∃ c,∃ d,∃ e,P0 a b c d e∧P1 a b c d e∧P2 a b c d e∧P3 a b c d e∧P4 a b c d e∧P5 a b c d e∧P6 a b c d e∧P7 a b c d e∧P8 a b c d e∧P9 a b c d e∧P10 a b c d e) (k:∀ a b c d e,P0 a b c d e→P1 a b c d e→P2 a b c d e→P3 a b c d e→P4 a b c d e→P5 a b c d e→P6 a b c d e→P7 a b c d e→P8 a b c d e→P9 a b c d e→P10 a b c d e→G):G:=h.elim fun a h=>u410 h (k a)
theorem u61 {T0:Sort u1} {T1:Sort u2} {T2:Sort u3} {T3:Sort u4} {T4:Sort u5} {T5:Sort u6} {P0 P1:T0→T1→T2→T3→T4→T5→Prop} {G:Prop} (h:∃ a,∃ b,∃ c,∃ d,∃ e,∃ f,P0 a b c d e f∧P1 a b c d e f) (k:∀ a b c d e f,P0 a b c d e f→P1 a b c d e f→G):G:=h.elim fun a h=>u51 h (k a)
theorem u62 {T0:Sort u1} {T1:Sort u2} {T2:Sort u3} {T3:Sort u4} {T4:Sort u5} {T5:Sort u6} {P0 P1 P2:T0→T1→T2→T3→T4→T5→Prop} {G:Prop} (h:∃ a,∃ b,∃ c,∃ d,∃ e,∃ f,P0 a b c d e f∧P1 a b c d e f∧P2 a b c d e f) (k:∀ a b c d e f,P0 a b c d e f→P1 a b c d e f→P2 a b c d e f→G):G:=h.elim fun a h=>u52 h (k a)
theorem u64 {T0:Sort u1} {T1:Sort u2} {T2:Sort u3} {T3:Sort u4} {T4:Sort u5} {T5:Sort u6} {P0 P1 P2 P3 P4:T0→T1→T2→T3→T4→T5→Prop} {G:Prop} (h:∃ a,∃ b,∃ c,∃ d,∃ e,∃ f,P0 a b c d e f∧P1 a b c d e f∧P2 a b c d e f∧P3 a b c d e f∧P4 a b c d e f) (k:∀ a b c d e f,P0 a b c d e f→P1 a b c d e f→P2 a b c d e f→P3 a b c d e f→P4 a b c d e f→G):G:=h.elim fun a h=>u54 h (k a)
theorem u65 {T0:Sort u1} {T1:Sort u2} {T2:Sort u3} {T3:Sort u4} {T4:Sort u5} {T5:Sort u6} {P0 P1 P2 P3 P4 P5:T0→T1→T2→T3→T4→T5→Prop} {G:Prop} (h:∃ a,∃ b,∃ c,∃ d,∃ e,∃ f,P0 a b c d e f∧P1 a b c d e f∧P2 a b c d e f∧P3 a b c d e f∧P4 a b c d e f∧P5 a b c d e f) (k:∀ a b c d e f,P0 a b c d e f→P1 a b c d e f→P2 a b c d e f→P3 a b c d e f→P4 a b c d e f→P5 a b c d e f→G):G:=h.elim fun a h=>u55 h (k a)
theorem u68 {T0:Sort u1} {T1:Sort u2} {T2:Sort u3} {T3:Sort u4} {T4:Sort u5} {T5:Sort u6} {P0 P1 P2 P3 P4 P5 P6 P7 P8:T0→T1→T2→T3→T4→T5→Prop} {G:Prop} (h:∃ a,∃ b,∃ c,∃ d,∃ e,∃ f,P0 a b c d e f∧P1 a b c d e f∧P2 a b c d e f∧P3 a b c d e f∧P4 a b c d e f∧P5 a b c d e f∧P6 a b c d e f∧P7 a b c d e f∧P8 a b c d e f) (k:∀ a b c d e f,P0 a b c d e f→P1 a b c d e f→P2 a b c d e f→P3 a b c d e f→P4 a b c d e f→P5 a b c d e f→P6 a b c d e f→P7 a b c d e f→P8 a b c d e f→G):G:=h.elim fun a h=>u58 h (k a)
theorem u610 {T0:Sort u1} {T1:Sort u2} {T2:Sort u3} {T3:Sort u4} {T4:Sort u5} {T5:Sort u6} {P0 P1 P2 P3 P4 P5 P6 P7 P8 P9 P10:T0→T1→T2→T3→T4→T5→Prop} {G:Prop} (h:∃ a,∃ b,∃ c,∃ d,∃ e,∃ f,P0 a b c d e f∧P1 a b c d e f∧P2 a b c d e f∧P3 a b c d e f∧P4 a b c d e f∧P5 a b c d e f∧P6 a b c d e f∧P7 a b c d e f∧P8 a b c d e f∧P9 a b c d e f∧P10 a b c d e f) (k:∀ a b c d e f,P0 a b c d e f→P1 a b c d e f→P2 a b c d e f→P3 a b c d e f→P4 a b c d e f→P5 a b c d e f→P6 a b c d e f→P7 a b c d e f→P8 a b c d e f→P9 a b c d e f→P10 a b c d e f→G):G:=h.elim fun a h=>u510 h (k a)
theorem u71 {T0:Sort u1} {T1:Sort u2} {T2:Sort u3} {T3:Sort u4} {T4:Sort u5} {T5:Sort u6} {T6:Sort u7} {P0 P1:T0→T1→T2→T3→T4→T5→T6→Prop} {G:Prop} (h:∃ a,∃ b,∃ c,∃ d,∃ e,∃ f,∃ g,P0 a b c d e f g∧P1 a b c d e f g) (k:∀ a b c d e f g,P0 a b c d e f g→P1 a b c d e f g→G):G:=h.elim fun a h=>u61 h (k a)
theorem u72 {T0:Sort u1} {T1:Sort u2} {T2:Sort u3} {T3:Sort u4} {T4:Sort u5} {T5:Sort u6} {T6:Sort u7} {P0 P1 P2:T0→T1→T2→T3→T4→T5→T6→Prop} {G:Prop} (h:∃ a,∃ b,∃ c,∃ d,∃ e,∃ f,∃ g,P0 a b c d e f g∧P1 a b c d e f g∧P2 a b c d e f g) (k:∀ a b c d e f g,P0 a b c d e f g→P1 a b c d e f g→P2 a b c d e f g→G):G:=h.elim fun a h=>u62 h (k a)
theorem u74 {T0:Sort u1} {T1:Sort u2} {T2:Sort u3} {T3:Sort u4} {T4:Sort u5} {T5:Sort u6} {T6:Sort u7} {P0 P1 P2 P3 P4:T0→T1→T2→T3→T4→T5→T6→Prop} {G:Prop} (h:∃ a,∃ b,∃ c,∃ d,∃ e,∃ f,∃ g,P0 a b c d e f g∧P1 a b c d e f g∧P2 a b c d e f g∧P3 a b c d e f g∧P4 a b c d e f g) (k:∀ a b c d e f g,P0 a b c d e f g→P1 a b c d e f g→P2 a b c d e f g→P3 a b c d e f g→P4 a b c d e f g→G):G:=h.elim fun a h=>u64 h (k a)
theorem u78 {T0:Sort u1} {T1:Sort u2} {T2:Sort u3} {T3:Sort u4} {T4:Sort u5} {T5:Sort u6} {T6:Sort u7} {P0 P1 P2 P3 P4 P5 P6 P7 P8:T0→T1→T2→T3→T4→T5→T6→Prop} {G:Prop} (h:∃ a,∃ b,∃ c,∃ d,∃ e,∃ f,∃ g,P0 a b c d e f g∧P1 a b c d e f g∧P2 a b c d e f g∧P3 a b c d e f g∧P4 a b c d e f g∧P5 a b c d e f g∧P6 a b c d e f g∧P7 a b c d e f g∧P8 a b c d e f g) (k:∀ a b c d e f g,P0 a b c d e f g→P1 a b c d e f g→P2 a b c d e f g→P3 a b c d e f g→P4 a b c d e f g→P5 a b c d e f g→P6 a b c d e f g→P7 a b c d e f g→P8 a b c d e f g→G):G:=h.elim fun a h=>u68 h (k a)
theorem u710 {T0:Sort u1} {T1:Sort u2} {T2:Sort u3} {T3:Sort u4} {T4:Sort u5} {T5:Sort u6} {T6:Sort u7} {P0 P1 P2 P3 P4 P5 P6 P7 P8 P9 P10:T0→T1→T2→T3→T4→T5→T6→Prop} {G:Prop} (h:∃ a,∃ b,∃ c,∃ d,∃ e,∃ f,∃ g,P0 a b c d e f g∧P1 a b c d e f g∧P2 a b c d e f g∧P3 a b c d e f g∧P4 a b c d e f g∧P5 a b c d e f g∧P6 a b c d e f g∧P7 a b c d e f g∧P8 a b c d e f g∧P9 a b c d e f g∧P10 a b c d e f g) (k:∀ a b c d e f g,P0 a b c d e f g→P1 a b c d e f g→P2 a b c d e f g→P3 a b c d e f g→P4 a b c d e f g→P5 a b c d e f g→P6 a b c d e f g→P7 a b c d e f g→P8 a b c d e f g→P9 a b c d e f g→P10 a b c d e f g→G):G:=h.elim fun a h=>u610 h (k a)
theorem u81 {T0:Sort u1} {T1:Sort u2} {T2:Sort u3} {T3:Sort u4} {T4:Sort u5} {T5:Sort u6} {T6:Sort u7} {T7:Sort u8} {P0 P1:T0→T1→T2→T3→T4→T5→T6→T7→Prop} {G:Prop} (h:∃ a,∃ b,∃ c,∃ d,∃ e,∃ f,∃ g,∃ i,P0 a b c d e f g i∧P1 a b c d e f g i) (k:∀ a b c d e f g i,P0 a b c d e f g i→P1 a b c d e f g i→G):G:=h.elim fun a h=>u71 h (k a)
theorem u82 {T0:Sort u1} {T1:Sort u2} {T2:Sort u3} {T3:Sort u4} {T4:Sort u5} {T5:Sort u6} {T6:Sort u7} {T7:Sort u8} {P0 P1 P2:T0→T1→T2→T3→T4→T5→T6→T7→Prop} {G:Prop} (h:∃ a,∃ b,∃ c,∃ d,∃ e,∃ f,∃ g,∃ i,P0 a b c d e f g i∧P1 a b c d e f g i∧P2 a b c d e f g i) (k:∀ a b c d e f g i,P0 a b c d e f g i→P1 a b c d e f g i→P2 a b c d e f g i→G):G:=h.elim fun a h=>u72 h (k a)
theorem u88 {T0:Sort u1} {T1:Sort u2} {T2:Sort u3} {T3:Sort u4} {T4:Sort u5} {T5:Sort u6} {T6:Sort u7} {T7:Sort u8} {P0 P1 P2 P3 P4 P5 P6 P7 P8:T0→T1→T2→T3→T4→T5→T6→T7→Prop} {G:Prop} (h:∃ a,∃ b,∃ c,∃ d,∃ e,∃ f,∃ g,∃ i,P0 a b c d e f g i∧P1 a b c d e f g i∧P2 a b c d e f g i∧P3 a b c d e f g i∧P4 a b c d e f g i∧P5 a b c d e f g i∧P6 a b c d e f g i∧P7 a b c d e f g i∧P8 a b c d e f g i) (k:∀ a b c d e f g i,P0 a b c d e f g i→P1 a b c d e f g i→P2 a b c d e f g i→P3 a b c d e f g i→P4 a b c d e f g i→P5 a b c d e f g i→P6 a b c d e f g i→P7 a b c d e f g i→P8 a b c d e f g i→G):G:=h.elim fun a h=>u78 h (k a)
theorem u810 {T0:Sort u1} {T1:Sort u2} {T2:Sort u3} {T3:Sort u4} {T4:Sort u5} {T5:Sort u6} {T6:Sort u7} {T7:Sort u8} {P0 P1 P2 P3 P4 P5 P6 P7 P8 P9 P10:T0→T1→T2→T3→T4→T5→T6→T7→Prop} {G:Prop} (h:∃ a,∃ b,∃ c,∃ d,∃ e,∃ f,∃ g,∃ i,P0 a b c d e f g i∧P1 a b c d e f g i∧P2 a b c d e f g i∧P3 a b c d e f g i∧P4 a b c d e f g i∧P5 a b c d e f g i∧P6 a b c d e f g i∧P7 a b c d e f g i∧P8 a b c d e f g i∧P9 a b c d e f g i∧P10 a b c d e f g i) (k:∀ a b c d e f g i,P0 a b c d e f g i→P1 a b c d e f g i→P2 a b c d e f g i→P3 a b c d e f g i→P4 a b c d e f g i→P5 a b c d e f g i→P6 a b c d e f g i→P7 a b c d e f g i→P8 a b c d e f g i→P9 a b c d e f g i→P10 a b c d e f g i→G):G:=h.elim fun a h=>u710 h (k a)
theorem u91 {T0:Sort u1} {T1:Sort u2} {T2:Sort u3} {T3:Sort u4} {T4:Sort u5} {T5:Sort u6} {T6:Sort u7} {T7:Sort u8} {T8:Sort u9} {P0 P1:T0→T1→T2→T3→T4→T5→T6→T7→T8→Prop} {G:Prop} (h:∃ a,∃ b,∃ c,∃ d,∃ e,∃ f,∃ g,∃ i,∃ j,P0 a b c d e f g i j∧P1 a b c d e f g i j) (k:∀ a b c d e f g i j,P0 a b c d e f g i j→P1 a b c d e f g i j→G):G:=h.elim fun a h=>u81 h (k a)
theorem u92 {T0:Sort u1} {T1:Sort u2} {T2:Sort u3} {T3:Sort u4} {T4:Sort u5} {T5:Sort u6} {T6:Sort u7} {T7:Sort u8} {T8:Sort u9} {P0 P1 P2:T0→T1→T2→T3→T4→T5→T6→T7→T8→Prop} {G:Prop} (h:∃ a,∃ b,∃ c,∃ d,∃ e,∃ f,∃ g,∃ i,∃ j,P0 a b c d e f g i j∧P1 a b c d e f g i j∧P2 a b c d e f g i j) (k:∀ a b c d e f g i j,P0 a b c d e f g i j→P1 a b c d e f g i j→P2 a b c d e f g i j→G):G:=h.elim fun a h=>u82 h (k a)
theorem u98 {T0:Sort u1} {T1:Sort u2} {T2:Sort u3} {T3:Sort u4} {T4:Sort u5} {T5:Sort u6} {T6:Sort u7} {T7:Sort u8} {T8:Sort u9} {P0 P1 P2 P3 P4 P5 P6 P7 P8:T0→T1→T2→T3→T4→T5→T6→T7→T8→Prop} {G:Prop} (h:∃ a,∃ b,∃ c,∃ d,∃ e,∃ f,∃ g,∃ i,∃ j,P0 a b c d e f g i j∧P1 a b c d e f g i j∧P2 a b c d e f g i j∧P3 a b c d e f g i j∧P4 a b c d e f g i j∧P5 a b c d e f g i j∧P6 a b c d e f g i j∧P7 a b c d e f g i j∧P8 a b c d e f g i j) (k:∀ a b c d e f g i j,P0 a b c d e f g i j→P1 a b c d e f g i j→P2 a b c d e f g i j→P3 a b c d e f g i j→P4 a b c d e f g i j→P5 a b c d e f g i j→P6 a b c d e f g i j→P7 a b c d e f g i j→P8 a b c d e f g i j→G):G:=h.elim fun a h=>u88 h (k a)
theorem u910 {T0:Sort u1} {T1:Sort u2} {T2:Sort u3} {T3:Sort u4} {T4:Sort u5} {T5:Sort u6} {T6:Sort u7} {T7:Sort u8} {T8:Sort u9} {P0 P1 P2 P3 P4 P5 P6 P7 P8 P9 P10:T0→T1→T2→T3→T4→T5→T6→T7→T8→Prop} {G:Prop} (h:∃ a,∃ b,∃ c,∃ d,∃ e,∃ f,∃ g,∃ i,∃ j,P0 a b c d e f g i j∧P1 a b c d e f g i j∧P2 a b c d e f g i j∧P3 a b c d e f g i j∧P4 a b c d e f g i j∧P5 a b c d e f g i j∧P6 a b c d e f g i j∧P7 a b c d e f g i j∧P8 a b c d e f g i j∧P9 a b c d e f g i j∧P10 a b c d e f g i j) (k:∀ a b c d e f g i j,P0 a b c d e f g i j→P1 a b c d e f g i j→P2 a b c d e f g i j→P3 a b c d e f g i j→P4 a b c d e f g i j→P5 a b c d e f g i j→P6 a b c d e f g i j→P7 a b c d e f g i j→P8 a b c d e f g i j→P9 a b c d e f g i j→P10 a b c d e f g i j→G):G:=h.elim fun a h=>u810 h (k a)
theorem u101 {T0:Sort u1} {T1:Sort u2} {T2:Sort u3} {T3:Sort u4} {T4:Sort u5} {T5:Sort u6} {T6:Sort u7} {T7:Sort u8} {T8:Sort u9} {T9:Sort u10} {P0 P1:T0→T1→T2→T3→T4→T5→T6→T7→T8→T9→Prop} {G:Prop} (h:∃ a,∃ b,∃ c,∃ d,∃ e,∃ f,∃ g,∃ i,∃ j,∃ l,P0 a b c d e f g i j l∧P1 a b c d e f g i j l) (k:∀ a b c d e f g i j l,P0 a b c d e f g i j l→P1 a b c d e f g i j l→G):G:=h.elim fun a h=>u91 h (k a)
theorem u102 {T0:Sort u1} {T1:Sort u2} {T2:Sort u3} {T3:Sort u4} {T4:Sort u5} {T5:Sort u6} {T6:Sort u7} {T7:Sort u8} {T8:Sort u9} {T9:Sort u10} {P0 P1 P2:T0→T1→T2→T3→T4→T5→T6→T7→T8→T9→Prop} {G:Prop} (h:∃ a,∃ b,∃ c,∃ d,∃ e,∃ f,∃ g,∃ i,∃ j,∃ l,P0 a b c d e f g i j l∧P1 a b c d e f g i j l∧P2 a b c d e f g i j l) (k:∀ a b c d e f g i j l,P0 a b c d e f g i j l→P1 a b c d e f g i j l→P2 a b c d e f g i j l→G):G:=h.elim fun a h=>u92 h (k a)
theorem u108 {T0:Sort u1} {T1:Sort u2} {T2:Sort u3} {T3:Sort u4} {T4:Sort u5} {T5:Sort u6} {T6:Sort u7} {T7:Sort u8} {T8:Sort u9} {T9:Sort u10} {P0 P1 P2 P3 P4 P5 P6 P7 P8:T0→T1→T2→T3→T4→T5→T6→T7→T8→T9→Prop} {G:Prop} (h:∃ a,∃ b,∃ c,∃ d,∃ e,∃ f,∃ g,∃ i,∃ j,∃ l,P0 a b c d e f g i j l∧P1 a b c d e f g i j l∧P2 a b c d e f g i j l∧P3 a b c d e f g i j l∧P4 a b c d e f g i j l∧P5 a b c d e f g i j l∧P6 a b c d e f g i j l∧P7 a b c d e f g i j l∧P8 a b c d e f g i j l) (k:∀ a b c d e f g i j l,P0 a b c d e f g i j l→P1 a b c d e f g i j l→P2 a b c d e f g i j l→P3 a b c d e f g i j l→P4 a b c d e f g i j l→P5 a b c d e f g i j l→P6 a b c d e f g i j l→P7 a b c d e f g i j l→P8 a b c d e f g i j l→G):G:=h.elim fun a h=>u98 h (k a)
theorem u1010 {T0:Sort u1} {T1:Sort u2} {T2:Sort u3} {T3:Sort u4} {T4:Sort u5} {T5:Sort u6} {T6:Sort u7} {T7:Sort u8} {T8:Sort u9} {T9:Sort u10} {P0 P1 P2 P3 P4 P5 P6 P7 P8 P9 P10:T0→T1→T2→T3→T4→T5→T6→T7→T8→T9→Prop} {G:Prop} (h:∃ a,∃ b,∃ c,∃ d,∃ e,∃ f,∃ g,∃ i,∃ j,∃ l,P0 a b c d e f g i j l∧P1 a b c d e f g i j l∧P2 a b c d e f g i j l∧P3 a b c d e f g i j l∧P4 a b c d e f g i j l∧P5 a b c d e f g i j l∧P6 a b c d e f g i j l∧P7 a b c d e f g i j l∧P8 a b c d e f g i j l∧P9 a b c d e f g i j l∧P10 a b c d e f g i j l) (k:∀ a b c d e f g i j l,P0 a b c d e f g i j l→P1 a b c d e f g i j l→P2 a b c d e f g i j l→P3 a b c d e f g i j l→P4 a b c d e f g i j l→P5 a b c d e f g i j l→P6 a b c d e f g i j l→P7 a b c d e f g i j l→P8 a b c d e f g i j l→P9 a b c d e f g i j l→P10 a b c d e f g i j l→G):G:=h.elim fun a h=>u910 h (k a)
theorem v20 {T0:Sort u1} {T1:T0→Sort u2} {P0:∀ a,T1 a→Prop} {G:Prop} (h:∃ a,∃ b,P0 a b) (k:∀ a b,P0 a b→G):G:=h.elim fun a h=>h.elim (k a)
end
section
universe u1 u2 u3 u4 u5 u6
theorem w11 {T0:Sort u1} {P0 P1:T0→Prop} (a:T0) (h0:P0 a) (h1:P1 a):∃ a,P0 a∧P1 a:=⟨a,h0,h1⟩
theorem w12 {T0:Sort u1} {P0 P1 P2:T0→Prop} (a:T0) (h0:P0 a) (h1:P1 a) (h2:P2 a):∃ a,P0 a∧P1 a∧P2 a:=⟨a,h0,h1,h2⟩
theorem w13 {T0:Sort u1} {P0 P1 P2 P3:T0→Prop} (a:T0) (h0:P0 a) (h1:P1 a) (h2:P2 a) (h3:P3 a):∃ a,P0 a∧P1 a∧P2 a∧P3 a:=⟨a,h0,h1,h2,h3⟩
theorem w14 {T0:Sort u1} {P0 P1 P2 P3 P4:T0→Prop} (a:T0) (h0:P0 a) (h1:P1 a) (h2:P2 a) (h3:P3 a) (h4:P4 a):∃ a,P0 a∧P1 a∧P2 a∧P3 a∧P4 a:=⟨a,h0,h1,h2,h3,h4⟩
theorem w15 {T0:Sort u1} {P0 P1 P2 P3 P4 P5:T0→Prop} (a:T0) (h0:P0 a) (h1:P1 a) (h2:P2 a) (h3:P3 a) (h4:P4 a) (h5:P5 a):∃ a,P0 a∧P1 a∧P2 a∧P3 a∧P4 a∧P5 a:=⟨a,h0,h1,h2,h3,h4,h5⟩
theorem w20 {T0:Sort u1} {T1:Sort u2} {P0:T0→T1→Prop} (a:T0) (b:T1) (h0:P0 a b):∃ a,∃ b,P0 a b:=⟨a,b,h0⟩
theorem w21 {T0:Sort u1} {T1:Sort u2} {P0 P1:T0→T1→Prop} (a:T0) (b:T1) (h0:P0 a b) (h1:P1 a b):∃ a,∃ b,P0 a b∧P1 a b:=⟨a,b,h0,h1⟩
theorem w22 {T0:Sort u1} {T1:Sort u2} {P0 P1 P2:T0→T1→Prop} (a:T0) (b:T1) (h0:P0 a b) (h1:P1 a b) (h2:P2 a b):∃ a,∃ b,P0 a b∧P1 a b∧P2 a b:=⟨a,b,h0,h1,h2⟩
theorem w23 {T0:Sort u1} {T1:Sort u2} {P0 P1 P2 P3:T0→T1→Prop} (a:T0) (b:T1) (h0:P0 a b) (h1:P1 a b) (h2:P2 a b) (h3:P3 a b):∃ a,∃ b,P0 a b∧P1 a b∧P2 a b∧P3 a b:=⟨a,b,h0,h1,h2,h3⟩
theorem w24 {T0:Sort u1} {T1:Sort u2} {P0 P1 P2 P3 P4:T0→T1→Prop} (a:T0) (b:T1) (h0:P0 a b) (h1:P1 a b) (h2:P2 a b) (h3:P3 a b) (h4:P4 a b):∃ a,∃ b,P0 a b∧P1 a b∧P2 a b∧P3 a b∧P4 a b:=⟨a,b,h0,h1,h2,h3,h4⟩
theorem w25 {T0:Sort u1} {T1:Sort u2} {P0 P1 P2 P3 P4 P5:T0→T1→Prop} (a:T0) (b:T1) (h0:P0 a b) (h1:P1 a b) (h2:P2 a b) (h3:P3 a b) (h4:P4 a b) (h5:P5 a b):∃ a,∃ b,P0 a b∧P1 a b∧P2 a b∧P3 a b∧P4 a b∧P5 a b:=⟨a,b,h0,h1,h2,h3,h4,h5⟩
theorem w30 {T0:Sort u1} {T1:Sort u2} {T2:Sort u3} {P0:T0→T1→T2→Prop} (a:T0) (b:T1) (c:T2) (h0:P0 a b c):∃ a,∃ b,∃ c,P0 a b c:=⟨a,b,c,h0⟩
theorem w31 {T0:Sort u1} {T1:Sort u2} {T2:Sort u3} {P0 P1:T0→T1→T2→Prop} (a:T0) (b:T1) (c:T2) (h0:P0 a b c) (h1:P1 a b c):∃ a,∃ b,∃ c,P0 a b c∧P1 a b c:=⟨a,b,c,h0,h1⟩
theorem w32 {T0:Sort u1} {T1:Sort u2} {T2:Sort u3} {P0 P1 P2:T0→T1→T2→Prop} (a:T0) (b:T1) (c:T2) (h0:P0 a b c) (h1:P1 a b c) (h2:P2 a b c):∃ a,∃ b,∃ c,P0 a b c∧P1 a b c∧P2 a b c:=⟨a,b,c,h0,h1,h2⟩
theorem w33 {T0:Sort u1} {T1:Sort u2} {T2:Sort u3} {P0 P1 P2 P3:T0→T1→T2→Prop} (a:T0) (b:T1) (c:T2) (h0:P0 a b c) (h1:P1 a b c) (h2:P2 a b c) (h3:P3 a b c):∃ a,∃ b,∃ c,P0 a b c∧P1 a b c∧P2 a b c∧P3 a b c:=⟨a,b,c,h0,h1,h2,h3⟩
theorem w34 {T0:Sort u1} {T1:Sort u2} {T2:Sort u3} {P0 P1 P2 P3 P4:T0→T1→T2→Prop} (a:T0) (b:T1) (c:T2) (h0:P0 a b c) (h1:P1 a b c) (h2:P2 a b c) (h3:P3 a b c) (h4:P4 a b c):∃ a,∃ b,∃ c,P0 a b c∧P1 a b c∧P2 a b c∧P3 a b c∧P4 a b c:=⟨a,b,c,h0,h1,h2,h3,h4⟩
theorem w35 {T0:Sort u1} {T1:Sort u2} {T2:Sort u3} {P0 P1 P2 P3 P4 P5:T0→T1→T2→Prop} (a:T0) (b:T1) (c:T2) (h0:P0 a b c) (h1:P1 a b c) (h2:P2 a b c) (h3:P3 a b c) (h4:P4 a b c) (h5:P5 a b c):∃ a,∃ b,∃ c,P0 a b c∧P1 a b c∧P2 a b c∧P3 a b c∧P4 a b c∧P5 a b c:=⟨a,b,c,h0,h1,h2,h3,h4,h5⟩
theorem w36 {T0:Sort u1} {T1:Sort u2} {T2:Sort u3} {P0 P1 P2 P3 P4 P5 P6:T0→T1→T2→Prop} (a:T0) (b:T1) (c:T2) (h0:P0 a b c) (h1:P1 a b c) (h2:P2 a b c) (h3:P3 a b c) (h4:P4 a b c) (h5:P5 a b c) (h6:P6 a b c):∃ a,∃ b,∃ c,P0 a b c∧P1 a b c∧P2 a b c∧P3 a b c∧P4 a b c∧P5 a b c∧P6 a b c:=⟨a,b,c,h0,h1,h2,h3,h4,h5,h6⟩
theorem w41 {T0:Sort u1} {T1:Sort u2} {T2:Sort u3} {T3:Sort u4} {P0 P1:T0→T1→T2→T3→Prop} (a:T0) (b:T1) (c:T2) (d:T3) (h0:P0 a b c d) (h1:P1 a b c d):∃ a,∃ b,∃ c,∃ d,P0 a b c d∧P1 a b c d:=⟨a,b,c,d,h0,h1⟩
theorem w42 {T0:Sort u1} {T1:Sort u2} {T2:Sort u3} {T3:Sort u4} {P0 P1 P2:T0→T1→T2→T3→Prop} (a:T0) (b:T1) (c:T2) (d:T3) (h0:P0 a b c d) (h1:P1 a b c d) (h2:P2 a b c d):∃ a,∃ b,∃ c,∃ d,P0 a b c d∧P1 a b c d∧P2 a b c d:=⟨a,b,c,d,h0,h1,h2⟩
theorem w43 {T0:Sort u1} {T1:Sort u2} {T2:Sort u3} {T3:Sort u4} {P0 P1 P2 P3:T0→T1→T2→T3→Prop} (a:T0) (b:T1) (c:T2) (d:T3) (h0:P0 a b c d) (h1:P1 a b c d) (h2:P2 a b c d) (h3:P3 a b c d):∃ a,∃ b,∃ c,∃ d,P0 a b c d∧P1 a b c d∧P2 a b c d∧P3 a b c d:=⟨a,b,c,d,h0,h1,h2,h3⟩
theorem w45 {T0:Sort u1} {T1:Sort u2} {T2:Sort u3} {T3:Sort u4} {P0 P1 P2 P3 P4 P5:T0→T1→T2→T3→Prop} (a:T0) (b:T1) (c:T2) (d:T3) (h0:P0 a b c d) (h1:P1 a b c d) (h2:P2 a b c d) (h3:P3 a b c d) (h4:P4 a b c d) (h5:P5 a b c d):∃ a,∃ b,∃ c,∃ d,P0 a b c d∧P1 a b c d∧P2 a b c d∧P3 a b c d∧P4 a b c d∧P5 a b c d:=⟨a,b,c,d,h0,h1,h2,h3,h4,h5⟩
theorem w46 {T0:Sort u1} {T1:Sort u2} {T2:Sort u3} {T3:Sort u4} {P0 P1 P2 P3 P4 P5 P6:T0→T1→T2→T3→Prop} (a:T0) (b:T1) (c:T2) (d:T3) (h0:P0 a b c d) (h1:P1 a b c d) (h2:P2 a b c d) (h3:P3 a b c d) (h4:P4 a b c d) (h5:P5 a b c d) (h6:P6 a b c d):∃ a,∃ b,∃ c,∃ d,P0 a b c d∧P1 a b c d∧P2 a b c d∧P3 a b c d∧P4 a b c d∧P5 a b c d∧P6 a b c d:=⟨a,b,c,d,h0,h1,h2,h3,h4,h5,h6⟩
theorem w47 {T0:Sort u1} {T1:Sort u2} {T2:Sort u3} {T3:Sort u4} {P0 P1 P2 P3 P4 P5 P6 P7:T0→T1→T2→T3→Prop} (a:T0) (b:T1) (c:T2) (d:T3) (h0:P0 a b c d) (h1:P1 a b c d) (h2:P2 a b c d) (h3:P3 a b c d) (h4:P4 a b c d) (h5:P5 a b c d) (h6:P6 a b c d) (h7:P7 a b c d):∃ a,∃ b,∃ c,∃ d,P0 a b c d∧P1 a b c d∧P2 a b c d∧P3 a b c d∧P4 a b c d∧P5 a b c d∧P6 a b c d∧P7 a b c d:=⟨a,b,c,d,h0,h1,h2,h3,h4,h5,h6,h7⟩
theorem w49 {T0:Sort u1} {T1:Sort u2} {T2:Sort u3} {T3:Sort u4} {P0 P1 P2 P3 P4 P5 P6 P7 P8 P9:T0→T1→T2→T3→Prop} (a:T0) (b:T1) (c:T2) (d:T3) (h0:P0 a b c d) (h1:P1 a b c d) (h2:P2 a b c d) (h3:P3 a b c d) (h4:P4 a b c d) (h5:P5 a b c d) (h6:P6 a b c d) (h7:P7 a b c d) (h8:P8 a b c d) (h9:P9 a b c d):∃ a,∃ b,∃ c,∃ d,P0 a b c d∧P1 a b c d∧P2 a b c d∧P3 a b c d∧P4 a b c d∧P5 a b c d∧P6 a b c d∧P7 a b c d∧P8 a b c d∧P9 a b c d:=⟨a,b,c,d,h0,h1,h2,h3,h4,h5,h6,h7,h8,h9⟩
theorem w53 {T0:Sort u1} {T1:Sort u2} {T2:Sort u3} {T3:Sort u4} {T4:Sort u5} {P0 P1 P2 P3:T0→T1→T2→T3→T4→Prop} (a:T0) (b:T1) (c:T2) (d:T3) (e:T4) (h0:P0 a b c d e) (h1:P1 a b c d e) (h2:P2 a b c d e) (h3:P3 a b c d e):∃ a,∃ b,∃ c,∃ d,∃ e,P0 a b c d e∧P1 a b c d e∧P2 a b c d e∧P3 a b c d e:=⟨a,b,c,d,e,h0,h1,h2,h3⟩
theorem w55 {T0:Sort u1} {T1:Sort u2} {T2:Sort u3} {T3:Sort u4} {T4:Sort u5} {P0 P1 P2 P3 P4 P5:T0→T1→T2→T3→T4→Prop} (a:T0) (b:T1) (c:T2) (d:T3) (e:T4) (h0:P0 a b c d e) (h1:P1 a b c d e) (h2:P2 a b c d e) (h3:P3 a b c d e) (h4:P4 a b c d e) (h5:P5 a b c d e):∃ a,∃ b,∃ c,∃ d,∃ e,P0 a b c d e∧P1 a b c d e∧P2 a b c d e∧P3 a b c d e∧P4 a b c d e∧P5 a b c d e:=⟨a,b,c,d,e,h0,h1,h2,h3,h4,h5⟩
theorem w57 {T0:Sort u1} {T1:Sort u2} {T2:Sort u3} {T3:Sort u4} {T4:Sort u5} {P0 P1 P2 P3 P4 P5 P6 P7:T0→T1→T2→T3→T4→Prop} (a:T0) (b:T1) (c:T2) (d:T3) (e:T4) (h0:P0 a b c d e) (h1:P1 a b c d e) (h2:P2 a b c d e) (h3:P3 a b c d e) (h4:P4 a b c d e) (h5:P5 a b c d e) (h6:P6 a b c d e) (h7:P7 a b c d e):∃ a,∃ b,∃ c,∃ d,∃ e,P0 a b c d e∧P1 a b c d e∧P2 a b c d e∧P3 a b c d e∧P4 a b c d e∧P5 a b c d e∧P6 a b c d e∧P7 a b c d e:=⟨a,b,c,d,e,h0,h1,h2,h3,h4,h5,h6,h7⟩
theorem w58 {T0:Sort u1} {T1:Sort u2} {T2:Sort u3} {T3:Sort u4} {T4:Sort u5} {P0 P1 P2 P3 P4 P5 P6 P7 P8:T0→T1→T2→T3→T4→Prop} (a:T0) (b:T1) (c:T2) (d:T3) (e:T4) (h0:P0 a b c d e) (h1:P1 a b c d e) (h2:P2 a b c d e) (h3:P3 a b c d e) (h4:P4 a b c d e) (h5:P5 a b c d e) (h6:P6 a b c d e) (h7:P7 a b c d e) (h8:P8 a b c d e):∃ a,∃ b,∃ c,∃ d,∃ e,P0 a b c d e∧P1 a b c d e∧P2 a b c d e∧P3 a b c d e∧P4 a b c d e∧P5 a b c d e∧P6 a b c d e∧P7 a b c d e∧P8 a b c d e:=⟨a,b,c,d,e,h0,h1,h2,h3,h4,h5,h6,h7,h8⟩
theorem w64 {T0:Sort u1} {T1:Sort u2} {T2:Sort u3} {T3:Sort u4} {T4:Sort u5} {T5:Sort u6} {P0 P1 P2 P3 P4:T0→T1→T2→T3→T4→T5→Prop} (a:T0) (b:T1) (c:T2) (d:T3) (e:T4) (f:T5) (h0:P0 a b c d e f) (h1:P1 a b c d e f) (h2:P2 a b c d e f) (h3:P3 a b c d e f) (h4:P4 a b c d e f):∃ a,∃ b,∃ c,∃ d,∃ e,∃ f,P0 a b c d e f∧P1 a b c d e f∧P2 a b c d e f∧P3 a b c d e f∧P4 a b c d e f:=⟨a,b,c,d,e,f,h0,h1,h2,h3,h4⟩
theorem w65 {T0:Sort u1} {T1:Sort u2} {T2:Sort u3} {T3:Sort u4} {T4:Sort u5} {T5:Sort u6} {P0 P1 P2 P3 P4 P5:T0→T1→T2→T3→T4→T5→Prop} (a:T0) (b:T1) (c:T2) (d:T3) (e:T4) (f:T5) (h0:P0 a b c d e f) (h1:P1 a b c d e f) (h2:P2 a b c d e f) (h3:P3 a b c d e f) (h4:P4 a b c d e f) (h5:P5 a b c d e f):∃ a,∃ b,∃ c,∃ d,∃ e,∃ f,P0 a b c d e f∧P1 a b c d e f∧P2 a b c d e f∧P3 a b c d e f∧P4 a b c d e f∧P5 a b c d e f:=⟨a,b,c,d,e,f,h0,h1,h2,h3,h4,h5⟩
theorem w66 {T0:Sort u1} {T1:Sort u2} {T2:Sort u3} {T3:Sort u4} {T4:Sort u5} {T5:Sort u6} {P0 P1 P2 P3 P4 P5 P6:T0→T1→T2→T3→T4→T5→Prop} (a:T0) (b:T1) (c:T2) (d:T3) (e:T4) (f:T5) (h0:P0 a b c d e f) (h1:P1 a b c d e f) (h2:P2 a b c d e f) (h3:P3 a b c d e f) (h4:P4 a b c d e f) (h5:P5 a b c d e f) (h6:P6 a b c d e f):∃ a,∃ b,∃ c,∃ d,∃ e,∃ f,P0 a b c d e f∧P1 a b c d e f∧P2 a b c d e f∧P3 a b c d e f∧P4 a b c d e f∧P5 a b c d e f∧P6 a b c d e f:=⟨a,b,c,d,e,f,h0,h1,h2,h3,h4,h5,h6⟩
end
noncomputable def bnames:List Str:=["len", "range", "min", "max", "abs", "sum", "zip", "str", "int", "type", "issubclass", "isinstance", "bytes", "enumerate", "filter", "map", "tuple", "list", "ValueError", "TypeError", "AttributeError", "BytesWarning", "DeprecationWarning"]
structure TK (w:World) (mg:Str→Option Value) (h:Heap):Prop where
 g:h.Ns mainGlobals mg
 b:∃ mb,h.Ns builtinsNs mb∧∀ x:Str,x ≠ "__name__" → mb x=bootBuiltins x
 lim:h.NoLimit
 dig:∃ mc,h.Ns cStatics mc∧mc "sys.int_max_str_digits" = none
 fn:∀ d∈recsOf vw,∃ a o pm code doc,mg d.name=some (.ref a)∧h.get? a=some o∧o.data=.func (docDef d.name d.params d.body d.scope pm code doc)∧h.CodeRec code d.name
 hook:Says w h
 nb:∀ x∈bnames,mg x=none
 bm:∃ bm ob,mg "__builtins__" = some (.ref bm)∧bm≠builtinsNs∧h.get? bm=some ob∧ob.cls=.type "module" ∧ ob.dict=some builtinsNs∧ob.data=.plain
theorem bnames_free:(bnames.all fun x=>!startupNames.contains x && !(looseW vw lsNames).contains x && !((recsOf vw).map (·.name)).contains x && !((litsOf vw).map (·.1)).contains x && !((clssOf vw (looseW vw lsNames)).map (·.name)).contains x)=true:=by decide +kernel
theorem TK.of_top {w:World} {mean:ExcName→Option Value} {mg mb:Str→Option Value} {h:Heap} (T:Top vw (looseW vw lsNames) mean mg mb h) (S:Says w h):TK w mg h where
 g:=T.g
 b:=(w11 mb T.b T.builtins)
 lim:=T.nolimit
 dig:=T.nodigits
 fn:=T.fn
 hook:=S
 nb:=fun x hx=>by
  have q:=List.all_eq_true.mp bnames_free x hx
  simp only [Bool.and_eq_true,Bool.not_eq_true',List.contains_eq_mem,decide_eq_false_iff_not] at q
  exact T.free x q.1.1.1.1 q.1.1.1.2 q.1.1.2 q.1.2 q.2
 bm:=T.bmain
theorem TK.keeps {w:World} {mg:Str→Option Value} {h h':Heap} (T:TK w mg h) (k:∀ b o,h.get? b=some o→h'.get? b=some o):TK w mg h' where
 g:=T.g.keeps k
 b:=u11 (T.b) fun mb h1 h2=>(w11 mb (h1.keeps k) h2)
 lim:=T.lim.keeps k
 dig:=u11 (T.dig) fun mc h1 h2=>(w11 mc (h1.keeps k) h2)
 fn:=fun d hd=>u53 (T.fn d hd) fun a o pm code doc h1 h2 h3 h4=>(w53 a o pm code doc h1 (k _ _ h2) h3 (h4.keeps k))
 hook:=HK.keeps w h h' T.hook k
 nb:=T.nb
 bm:=u23 (T.bm) fun bm ob h1 h2 h3 r=>(w23 bm ob h1 h2 (k _ _ h3) r)
structure Fn (x:Str) where
 params:Arguments
 body:List Stmt
 scope:Scope
 pos:Pos
 mem:(⟨x,params,body,scope,pos⟩:DefRec)∈recsOf vw
 co:scope.isCoroutine=false
 gen:scope.isGenerator=false
 kind:scope.kind=.function
structure Room (A:Around) (n:Nat):Prop where
 hh:A.handled=none
 dep:A.depth+n<900
 un:A.units+8*n<9000
theorem Room.deeper {A:Around} {n m:Nat} {env:Env} (R:Room A n) (h:m+1≤n):Room (A.deeper env) m:=by
 obtain ⟨h1,h2,h3⟩:=R
 refine ⟨h1,?_,?_⟩
 ·show A.depth+1+m<900; exact q3 0xe106300310b9118f0830801885c4c6a1100211022a 1 7 (by kernel_rfl) h h2
 ·show A.units+3+8*m<9000; exact q3 0x11940c0226300310c11a0c650308044801889c516a1100211022a 4 280 (by kernel_rfl) h h3
theorem Room.in1 {A:Around} {n m:Nat} (R:Room A n) (h:m+1≤n):Room A.in1 m:=by
 obtain ⟨h1,h2,h3⟩:=R
 refine ⟨h1,?_,?_⟩
 ·show A.depth+m<900; exact q3 0x70830031090f0830801885c4c6a1100211022a 1 7 (by kernel_rfl) h h2
 ·show A.units+1+8*m<9000; exact q3 0x8ca060112300310b9198c650308044801889c516a1100211022a 4 280 (by kernel_rfl) h h3
theorem Room.le {A:Around} {n m:Nat} (R:Room A n) (h:m≤n):Room A m:=by
 obtain ⟨h1,h2,h3⟩:=R
 exact ⟨h1,by exact q3 0x3841801884878418400c42e2635000011a 1 7 (by kernel_rfl) h h2,by exact q3 0x23281804480188886328184022400c44e28b5000011a 4 280 (by kernel_rfl) h h3⟩
theorem Room.lim {A:Around} {n:Nat} (R:Room A n):A.depth<recursionLimit:=by
 have:=R.dep; show A.depth<1000; exact q2 0x1f40800f08300021112ba 1 3 (by kernel_rfl) this
theorem Room.units {A:Around} {n:Nat} (R:Room A n):A.units<cLine:=by
 have:=R.un; show A.units<9900; exact q2 0x13560800c6503080440022113fa 1 3 (by kernel_rfl) this
section
variable {prog:Program} {w:World} {A:Around} {E:Value→Shared→Prop} {s:Shared} {a:Addr} {mg:Str→Option Value} {x:Str}
theorem TK.at_ {h:Heap} (T:TK w mg h) (F:Fn x) (ha:mg x=some (.ref a)):∃ o pm code doc,h.get? a=some o∧o.data=.func (docDef x F.params F.body F.scope pm code doc)∧h.CodeRec code x:=by
 refine u53 (T.fn _ F.mem) fun a' o pm code doc h1 h2 h3 h4=>?_
 have h1':mg x=some (.ref a'):=h1
 rw [ha] at h1'
 cases h1'
 exact (w42 o pm code doc h2 h3 h4)
theorem TK.addr {h:Heap} (T:TK w mg h) (F:Fn x):∃ a,mg x=some (.ref a):=u51 (T.fn _ F.mem) fun a _ _ _ _ h1 _=>⟨a,h1⟩
theorem enter (F:Fn x) (T:TK w mg s.heap) (ha:mg x=some (.ref a)) (hA:A.depth<recursionLimit) {pos:List Value} {kw:List (Str × Value)} {binds:List (Str × Value)} {Q:Value→Shared→Prop}
  (hb:∀ pm cd doc,BindsTo s (docDef x F.params F.body F.scope pm cd doc) ⟨pos,kw⟩ binds)
  (hloc:∀ y∈binds,F.scope.names.lookup y.1=some .local)
  (hcell:(F.scope.names.all fun x=>x.2 != .cell)=true)
  (h:∀ cd h₁,Fr s.heap s.heap.objs.size h₁ (fun y=>binds.reverse.lookup y) →
   wpAny (model prog w) (A.deeper (envOf x F.scope s.heap.objs.size a cd)) (execs F.body (envOf x F.scope s.heap.objs.size a cd))
    (fun f s'=>Q (match f with | .ret v=>v | _=>.none) s') (fun _ _=>False)
    { s with heap:=h₁,toks:=s.toks+binds.length }) :
  wpAny (model prog w) A (call (.ref a) pos kw) Q E s:=by
 refine u42 (T.at_ F ha) fun o pm cd doc ho hd hc=>?_
 refine wpAny_call ?_
 refine codeAny_call_def (fd:=docDef x F.params F.body F.scope pm cd doc) (body:=F.body) (binds:=binds) hA ho hd T.lim hc rfl (hb pm cd doc) ?_ hloc (fun h₁ hns hk=>?_) F.co F.gen F.kind
 ·intro y hy e
  have:=List.all_eq_true.mp hcell y hy
  rw [e] at this
  exact absurd this (by decide)
 ·exact wpAny_mono (h cd h₁ ⟨hns,hk,Nat.le_refl _⟩) (fun _ _ x=>x) fun _ _ x=>x.elim
end
section
variable {M:Model} {w:World} {A:Around} {E:Value→Shared→Prop} {s:Shared} {env:Env} {mg:Str→Option Value}
theorem nmK {x:Str} {pos:Pos} {v:Value} {Q:Value→Shared→Prop} (T:TK w mg s.heap) (e:mg x=some v) (h:Q v s)
  (hk:env.scope.kind=.function:=by rfl) (hx:env.kindOf x=some .globalImplicit:=by rfl) (hg:env.globals=mainGlobals:=by rfl) (hd:(x == ("__debug__" : Str))=false:=by decide) :
  wpAny M A (eval (.Name x pos) env) Q E s :=
 Calls.Name_function_global hk hx (Calls.loadGlobal_global (env:=env) (hg▸T.g) e h) hd
theorem nmB {x:Str} {pos:Pos} {v:Value} {Q:Value→Shared→Prop} (T:TK w mg s.heap) (e:x∈bnames) (hv:bootBuiltins x=some v) (h:Q v s)
  (hn:x ≠ "__name__" := by decide)
  (hk:env.scope.kind=.function:=by rfl) (hx:env.kindOf x=some .globalImplicit:=by rfl) (hg:env.globals=mainGlobals:=by rfl) (hb:env.builtins=builtinsNs:=by rfl) (hd:(x == ("__debug__" : Str))=false:=by decide) :
  wpAny M A (eval (.Name x pos) env) Q E s:=by
 refine u11 T.b fun mb hbn hbb=>?_
 exact Calls.Name_function_global hk hx (Calls.loadGlobal_builtin (env:=env) (hg▸T.g) (T.nb x e) (hb▸hbn) ((hbb x hn).trans hv) h) hd
end
noncomputable def F_cv:Fn "_comparable_version" := ⟨_,_,_,_,List.mem_of_getElem? (i:=0) rfl,rfl,rfl,rfl⟩
noncomputable def F_platform:Fn "_platform" := ⟨_,_,_,_,List.mem_of_getElem? (i:=1) rfl,rfl,rfl,rfl⟩
noncomputable def F_fspath:Fn "fspath" := ⟨_,_,_,_,List.mem_of_getElem? (i:=2) rfl,rfl,rfl,rfl⟩
noncomputable def F_commonprefix:Fn "commonprefix" := ⟨_,_,_,_,List.mem_of_getElem? (i:=3) rfl,rfl,rfl,rfl⟩
noncomputable def F_get_sep:Fn "_get_sep" := ⟨_,_,_,_,List.mem_of_getElem? (i:=4) rfl,rfl,rfl,rfl⟩
noncomputable def F_join:Fn "join" := ⟨_,_,_,_,List.mem_of_getElem? (i:=5) rfl,rfl,rfl,rfl⟩
noncomputable def F_split:Fn "split" := ⟨_,_,_,_,List.mem_of_getElem? (i:=6) rfl,rfl,rfl,rfl⟩
noncomputable def F_splitroot:Fn "splitroot" := ⟨_,_,_,_,List.mem_of_getElem? (i:=7) rfl,rfl,rfl,rfl⟩
noncomputable def F_normpath:Fn "normpath" := ⟨_,_,_,_,List.mem_of_getElem? (i:=8) rfl,rfl,rfl,rfl⟩
noncomputable def F_abspath:Fn "abspath" := ⟨_,_,_,_,List.mem_of_getElem? (i:=9) rfl,rfl,rfl,rfl⟩
noncomputable def F_commonpath:Fn "commonpath" := ⟨_,_,_,_,List.mem_of_getElem? (i:=10) rfl,rfl,rfl,rfl⟩
noncomputable def F_releases:Fn "_law_releases" := ⟨_,_,_,_,List.mem_of_getElem? (i:=11) rfl,rfl,rfl,rfl⟩
noncomputable def F_safe:Fn "_law_safe" := ⟨_,_,_,_,List.mem_of_getElem? (i:=12) rfl,rfl,rfl,rfl⟩
noncomputable def F_rank:Fn "_law_rank" := ⟨_,_,_,_,List.mem_of_getElem? (i:=13) rfl,rfl,rfl,rfl⟩
noncomputable def F_row:Fn "_law_row" := ⟨_,_,_,_,List.mem_of_getElem? (i:=14) rfl,rfl,rfl,rfl⟩
noncomputable def F_climb:Fn "_law_climb" := ⟨_,_,_,_,List.mem_of_getElem? (i:=15) rfl,rfl,rfl,rfl⟩
noncomputable def F_shared:Fn "_law_shared" := ⟨_,_,_,_,List.mem_of_getElem? (i:=16) rfl,rfl,rfl,rfl⟩
noncomputable def F_common:Fn "_law_common" := ⟨_,_,_,_,List.mem_of_getElem? (i:=17) rfl,rfl,rfl,rfl⟩
noncomputable def F_less:Fn "_law_less" := ⟨_,_,_,_,List.mem_of_getElem? (i:=18) rfl,rfl,rfl,rfl⟩
noncomputable def F_law:Fn "law" := ⟨_,_,_,_,List.mem_of_getElem? (i:=19) rfl,rfl,rfl,rfl⟩
structure St (g:Heap) (L:Addr) (h:Heap) (l:List (Str × Value)) (own:List (Addr × List Value)):Prop where
 fl:∃ m,h.Ns L m∧∀ x v,l.lookup x=some v→m x=some v
 keep:∀ b o,g.get? b=some o→h.get? b=some o
 gL:g.get? L=none
 ow:∀ p∈own,g.get? p.1=none∧p.1≠L∧h.PlainList p.1 p.2.toArray
 nd:(own.map (·.1)).Nodup
noncomputable abbrev Kp (h h':Heap):Prop:=∀ b o,h.get? b=some o→h'.get? b=some o
section
variable {g h h':Heap} {L:Addr} {l l':List (Str × Value)} {own:List (Addr × List Value)}
theorem St.lt (F:St g L h l own):L<h.objs.size:=u11 F.fl fun _ F' _=>F'.lt
theorem St.init {binds:List (Str × Value)} (F:Fr g L h (fun x=>binds.reverse.lookup x)):St g L h binds.reverse [] :=
 ⟨(w11 _ F.ns (fun _ _ e=>e)),F.keep,Heap.get?_none_of_le F.above,(fun _ h=>nomatch h),List.nodup_nil⟩
theorem St.keeps (F:St g L h l own) (k:Kp h h'):St g L h' l own:=by
 obtain ⟨⟨m,F',hm⟩,kp,gl,ow,nd⟩:=F
 exact ⟨(w11 m (F'.keeps k) hm),fun b o e=>k b o (kp b o e),gl,fun p hp=>⟨(ow p hp).1,(ow p hp).2.1,(ow p hp).2.2.at fun o e=>k _ o e⟩,nd⟩
theorem lookup_mem {α:Type} {x:Str} {v:α}:∀ {l:List (Str × α)},l.lookup x=some v→(x,v)∈l
 | [],h=>by cases h
 | (y,u)::r,h=>by
  rw [List.lookup_cons] at h
  by_cases e:(x == y)=true
  ·rw [e] at h
   cases h
   have:=eq_of_beq e
   subst this
   exact List.Mem.head _
  ·have e':(x == y)=false:=by simpa using e
   rw [e'] at h
   exact List.Mem.tail _ (lookup_mem h)
theorem St.sub (F:St g L h l own) (k:∀ p∈l',l.lookup p.1=some p.2):St g L h l' own :=
 ⟨u11 (F.fl) fun m F' hm=>(w11 m F' (fun x v e=>hm x v (k _ (lookup_mem e)))),F.keep,F.gL,F.ow,F.nd⟩
theorem St.disown (F:St g L h l own) {own':List (Addr × List Value)} (k:own'.Sublist own):St g L h l own' :=
 ⟨F.fl,F.keep,F.gL,fun p hp=>F.ow p (k.subset hp),F.nd.sublist (k.map _)⟩
theorem St.store {x:Str} {v:Value} (F:St g L h l own) (hs:Heap.SameBut L h h') (hn:∀ m,h.Ns L m→h'.Ns L (fun y=>if y=x then some v else m y)):St g L h' ((x,v)::l) own:=by
 obtain ⟨⟨m,F',hm⟩,kp,gl,ow,nd⟩:=F
 refine ⟨(w11 _ (hn m F') (fun y u e=>?_)),fun b o e=>?_,gl,fun p hp=>⟨(ow p hp).1,(ow p hp).2.1,(ow p hp).2.2.extBut hs.extBut (ow p hp).2.1⟩,nd⟩
 ·rw [List.lookup_cons] at e
  by_cases q:y=x
  ·subst q
   rw [beq_self_eq_true] at e
   simpa using e
  ·have q':(y == x)=false:=by simpa using q
   rw [q'] at e
   show (if y=x then some v else m y)=some u
   rw [if_neg q]
   exact hm y u e
 ·refine (hs.2 b ?_).trans (kp b o e)
  rintro rfl
  rw [gl] at e; cases e
theorem St.own1 {D:Addr} {items:List Value} (F:St g L h l own) (k:Kp h h') (hD:h.get? D=none) (hP:h'.PlainList D items.toArray) :
  St g L h' l ((D,items)::own):=by
 have F':=F.keeps k
 refine ⟨F'.fl,F'.keep,F'.gL,fun p hp=>?_,?_⟩
 ·rcases List.mem_cons.mp hp with rfl | hp
  ·refine ⟨?_,?_,hP⟩
   ·cases e:g.get? D with
    | none=>rfl
    | some o=>have:=F.keep _ _ e; rw [hD] at this; cases this
   ·rintro rfl
    obtain ⟨_,F1,_⟩:=F.fl
    refine u31 F1 fun o _ _ ho _=>?_; clear F1
    rw [hD] at ho; cases ho
  ·exact F'.ow p hp
 ·refine List.nodup_cons.mpr ⟨fun hm=>?_,F.nd⟩
  refine u11 (List.mem_map.mp hm) fun p hp e=>?_
  obtain ⟨n,hn⟩:=(F.ow p hp).2.2
  rw [e,hD] at hn; cases hn
theorem St.turn {D:Addr} {items items':List Value} {pre post:List (Addr × List Value)} (F:St g L h l (pre++(D,items)::post)) (hs:Heap.SameBut D h h') (hP:h'.PlainList D items'.toArray) :
  St g L h' l (pre++(D,items')::post):=by
 obtain ⟨⟨m,F',hm⟩,kp,gl,ow,nd⟩:=F
 have hD:=ow (D,items) (by simp)
 have nd':((pre++(D,items')::post).map (·.1)).Nodup:=by simpa using nd
 have nd2:(pre.map (·.1)++D::post.map (·.1)).Nodup:=by simpa using nd
 refine ⟨(w11 m (F'.sameBut hs (Ne.symm hD.2.1)) hm),fun b o e=>?_,gl,fun p hp=>?_,nd'⟩
 ·refine (hs.2 b ?_).trans (kp b o e)
  rintro rfl
  rw [hD.1] at e; cases e
 ·by_cases q:p.1=D
  ·have hp':p=(D,items'):=by
    rcases List.mem_append.mp hp with hp | hp
    ·exact absurd q ((List.nodup_append.mp nd2).2.2 p.1 (List.mem_map_of_mem hp) D (by simp))
    ·rcases List.mem_cons.mp hp with e | hp
     ·exact e
     ·exact absurd (q▸List.mem_map_of_mem hp) (List.nodup_cons.mp (List.nodup_append.mp nd2).2.1).1
   subst hp'
   exact ⟨hD.1,hD.2.1,hP⟩
  ·have hp':p∈pre++(D,items)::post:=by
    rcases List.mem_append.mp hp with hp | hp
    ·exact List.mem_append_left _ hp
    ·rcases List.mem_cons.mp hp with e | hp
     ·exact absurd (e▸rfl) q
     ·exact List.mem_append_right _ (List.mem_cons_of_mem _ hp)
   exact ⟨(ow p hp').1,(ow p hp').2.1,(ow p hp').2.2.extBut hs.extBut q⟩
theorem St.rebase (F:St g L h l own):∃ g':Heap,Kp g g'∧Kp g' h ∧
  (∀ b o,b≠L→(∀ p∈own,b≠p.1)→h.get? b=some o→g'.get? b=some o)∧St g' L h l own:=by
 refine (w13 (hideAll h (L::own.map (·.1))) (fun b o e=>hideAll_get _ (F.keep b o e) ?_) (fun b o e=>of_hideAll _ e) (fun b o h1 h2 e=>hideAll_get _ e ?_) ⟨F.fl,fun b o e=>of_hideAll _ e,hideAll_none _ (List.Mem.head _),fun p hp=>⟨hideAll_none _ (List.Mem.tail _ (List.mem_map_of_mem hp)),(F.ow p hp).2⟩,F.nd⟩)
 ·intro hm
  rcases List.mem_cons.mp hm with rfl | hm
  ·rw [F.gL] at e; cases e
  ·refine u11 (List.mem_map.mp hm) fun p hp q=>?_
   rw [← q,(F.ow p hp).1] at e; cases e
 ·intro hm
  rcases List.mem_cons.mp hm with rfl | hm
  ·exact h1 rfl
  ·refine u11 (List.mem_map.mp hm) fun p hp q=>?_
   exact h2 p hp q.symm
end
section
variable {M:Model} {A:Around} {E:Value→Shared→Prop} {s:Shared} {h₀:Heap} {ge:Array GenState} {dr:Drawn} {t₀:Nat} {os:OsState} {L:Addr} {env:Env} {g:Heap} {l:List (Str × Value)} {own:List (Addr × List Value)}
noncomputable def okL (env:Env) (x:Str):Bool:=decide (env.scope.kind=.function) && (decide (env.kindOf x=some .local) && !(x == ("__debug__" : Str)))
theorem okL.all {env:Env} {x:Str} (h:okL env x=true):env.scope.kind=.function∧env.kindOf x=some .local∧(x == ("__debug__" : Str))=false:=by
 unfold okL at h
 rw [Bool.and_eq_true,Bool.and_eq_true] at h
 refine ⟨of_decide_eq_true h.1,of_decide_eq_true h.2.1,?_⟩
 cases q:(x == ("__debug__" : Str)) with
 | false=>rfl
 | true=>rw [q] at h; cases h.2.2
theorem ldS {x:Str} {pos:Pos} {v:Value} {Q:Value→Shared→Prop} (F:St g L s.heap l own) (hv:l.lookup x=some v) (h:Q v s)
  (hL:env.locals=L:=by rfl) (ok:okL env x=true:=by exact Eq.refl true) :
  wpAny M A (eval (.Name x pos) env) Q E s:=by
 refine u11 F.fl fun m hn hm=>?_
 exact wpAny_Name (wpAny_loadName_local (okL.all ok).1 (okL.all ok).2.1 (hL▸hn) (hm _ _ hv) h) (okL.all ok).2.2
theorem lnS {x:Str} {v:Value} {Q:Value→Shared→Prop} (F:St g L s.heap l own) (hv:l.lookup x=some v) (h:Q v s)
  (hL:env.locals=L:=by rfl) (ok:okL env x=true:=by exact Eq.refl true) :
  wpAny M A (loadName env x) Q E s:=by
 refine u11 F.fl fun m hn hm=>?_
 exact wpAny_loadName_local (okL.all ok).1 (okL.all ok).2.1 (hL▸hn) (hm _ _ hv) h
theorem stG {x:Str} {v:Value} {Q:Unit→Shared→Prop} (F:St g L h₀ l own)
  (h:∀ h',St g L h' ((x,v)::l) own→Heap.SameBut L h₀ h'→Q () ⟨h',ge,dr,t₀+1,os⟩)
  (hL:env.locals=L) (hk:env.scope.kind=.function) (hl:env.kindOf x=some .local) :
  wpAny M A (storeName env x v) Q E ⟨h₀,ge,dr,t₀,os⟩:=by
 subst hL
 refine u11 F.fl fun m hn hm=>?_
 refine wpAny_storeName_local hl hn (fun h' hn' hs=>?_) (by rw [hk]; rfl)
 refine h h' (F.store hs fun m' hm'=>?_) hs
 have:m'=m:=by
  refine u33 hn fun o es ep h1 h2 h3 h4=>?_; clear hn
  refine u33 hm' fun o' es' ep' h1' h2' h3' h4'=>?_; clear hm'
  rw [h1] at h1'; cases h1'
  rw [h2] at h2'; cases h2'
  funext y
  rw [← h4 y,← h4' y]
 subst this
 exact hn'
theorem stS {x:Str} {v:Value} {Q:Unit→Shared→Prop} (F:St g L h₀ l own)
  (h:∀ h',St g L h' ((x,v)::l) own→Heap.SameBut L h₀ h'→Q () ⟨h',ge,dr,t₀+1,os⟩)
  (hL:env.locals=L:=by rfl) (ok:okL env x=true:=by exact Eq.refl true) :
  wpAny M A (storeName env x v) Q E ⟨h₀,ge,dr,t₀,os⟩:=stG F h hL (okL.all ok).1 (okL.all ok).2.1
theorem ldC {x:Str} {pos:Pos} {c:Addr} {v:Value} {Q:Value→Shared→Prop} (hv:s.heap.IsCell c (some v)) (h:Q v s)
  (hc:env.cells.lookup x=some c:=by rfl) (hk:env.scope.kind=.function:=by rfl) (hl:env.kindOf x=some .cell:=by rfl) (hd:(x == ("__debug__" : Str))=false:=by decide) :
  wpAny M A (eval (.Name x pos) env) Q E s:=wpAny_Name (wpAny_loadName_cell hk hl hc hv h) hd
theorem useK {α:Type} {t:Sem α} {P:α→Shared→Prop} {Q:α→Shared→Prop} (F:St g L h₀ l own)
  (hp:wpAny M A t (fun v s'=>P v s'∧Keeps ⟨h₀,ge,dr,t₀,os⟩ s') E ⟨h₀,ge,dr,t₀,os⟩)
  (h:∀ v h' tk,P v ⟨h',ge,dr,tk,os⟩→St g L h' l own→Kp h₀ h'→Q v ⟨h',ge,dr,tk,os⟩):wpAny M A t Q E ⟨h₀,ge,dr,t₀,os⟩ :=
 wpAny_mono hp (fun v s' p=>by
  obtain ⟨hP,h',tk,rfl,k⟩:=p
  exact h v h' tk hP (F.keeps k) k) fun _ _ e=>e
theorem Keeps.rfl' {s:Shared}:Keeps s s:=(w21 s.heap s.toks rfl (fun _ _ e=>e))
theorem Keeps.tok {s:Shared} {k:Nat}:Keeps s { s with toks:=k }:=(w21 s.heap k rfl (fun _ _ e=>e))
theorem Keeps.mk' {s:Shared} {h':Heap} {tk:Nat} (k:Kp s.heap h'):Keeps s { s with heap:=h',toks:=tk }:=(w21 h' tk rfl k)
theorem nmG {w:World} {mg:Str→Option Value} {x:Str} {pos:Pos} {v:Value} {Q:Value→Shared→Prop} (F:St g L s.heap l own) (T:TK w mg g) (e:mg x=some v) (h:Q v s)
  (hk:env.scope.kind=.function:=by rfl) (hx:env.kindOf x=some .globalImplicit:=by rfl) (hg:env.globals=mainGlobals:=by rfl) (hd:(x == ("__debug__" : Str))=false:=by decide) :
  wpAny M A (eval (.Name x pos) env) Q E s:=nmK (T.keeps F.keep) e h hk hx hg hd
theorem nmU {w:World} {mg:Str→Option Value} {x:Str} {pos:Pos} {v:Value} {Q:Value→Shared→Prop} (F:St g L s.heap l own) (T:TK w mg g) (e:x∈bnames) (hv:bootBuiltins x=some v) (h:Q v s)
  (hn:x ≠ "__name__" := by decide)
  (hk:env.scope.kind=.function:=by rfl) (hx:env.kindOf x=some .globalImplicit:=by rfl) (hg:env.globals=mainGlobals:=by rfl) (hb:env.builtins=builtinsNs:=by rfl) (hd:(x == ("__debug__" : Str))=false:=by decide) :
  wpAny M A (eval (.Name x pos) env) Q E s:=nmB (T.keeps F.keep) e hv h hn hk hx hg hb hd
theorem callWith_fn {w:World} {mg:Str→Option Value} {x:Str} {pos:Pos} {f:Addr} (Fn:Fn x) {e:Expr} {rest:List Expr} {Q:Value→Shared→Prop} (T:TK w mg g) (ha:mg x=some (.ref f))
  (h:wpAny M A (spliced (backTo pos (starEach (e::rest) env))) (fun vs s₁=>Kp g s₁.heap∧wpAny M A (call (.ref f) vs) Q E s₁) E s)
  (he:starEach (e::rest) env=(false,eval e env)::starEach rest env:=by rfl) :
  wpAny M A (callWith pos (.ref f) [] (backTo pos (starEach (e::rest) env)) []) Q E s:=by
 refine u42 (T.at_ Fn ha) fun o pm cd doc ho hd _=>?_
 exact callWith_def (o:=o) hd (wpAny_mono h (fun vs s₁ p=>⟨p.1 _ _ ho,p.2⟩) fun _ _ x=>x) he
end
section
variable {M:Model} {A:Around} {E:Value→Shared→Prop} {s:Shared} {h₀:Heap} {ge:Array GenState} {dr:Drawn} {t₀:Nat} {os:OsState} {env:Env}
theorem if_tt {P Q:Prop} (h:P):if true=true then P else Q:=by rw [if_pos rfl]; exact h
theorem if_ff {P Q:Prop} (h:Q):if false=true then P else Q:=by rw [if_neg Bool.false_ne_true]; exact h
theorem if_bt {b:Bool} {P Q:Prop} (e:b=true) (h:P):if b=true then P else Q:=by rw [if_pos e]; exact h
theorem if_bf {b:Bool} {P Q:Prop} (e:b=false) (h:Q):if b=true then P else Q:=by rw [e]; exact h
theorem if_nt {P Q:Prop} (h:Q):if (!true)=true then P else Q:=h
theorem if_nf {P Q:Prop} (h:P):if (!false)=true then P else Q:=h
theorem callTy {M:Model} {A:Around} {E:Value→Shared→Prop} {s:Shared} {env:Env} {pos:Pos} {T:String} {e:Expr} {rest:List Expr} {Q:Value→Shared→Prop}
  (h:wpAny M A (spliced (backTo pos (starEach (e::rest) env))) (fun vs s₁=>wpAny M A (call (.type T) vs) Q E s₁) E s)
  (he:starEach (e::rest) env=(false,eval e env)::starEach rest env:=by rfl)
  (hplain:(backTo pos (starEach rest env)).any (·.1)=false:=by rfl) :
  wpAny M A (callWith pos (.type T) [] (backTo pos (starEach (e::rest) env)) []) Q E s:=PyProof.Rows.callWith_type1 h he hplain
section
variable {g:Heap} {L:Addr} {l:List (Str × Value)} {own:List (Addr × List Value)} {x:Str} {p pos:Pos} {v:Value}
theorem argN {rest:List Expr} {Q:List Value→Shared→Prop} (F:St g L s.heap l own) (hv:l.lookup x=some v) (h:wpAny M A (spliced (backTo pos (starEach rest env))) (fun vs s₂=>Q (v::vs) s₂) E s)
  (hL:env.locals=L:=by rfl) (ok:okL env x=true:=by exact Eq.refl true)
  (he:starEach (.Name x p::rest) env=(false,eval (.Name x p) env)::starEach rest env:=by rfl) :
  wpAny M A (spliced (backTo pos (starEach (.Name x p::rest) env))) Q E s:=args_cons (ldS F hv h hL ok) he
theorem argN1 {Q:List Value→Shared→Prop} (F:St g L s.heap l own) (hv:l.lookup x=some v) (h:Q [v] s)
  (hL:env.locals=L:=by rfl) (ok:okL env x=true:=by exact Eq.refl true)
  (he:starEach [.Name x p] env=(false,eval (.Name x p) env)::starEach [] env:=by rfl) :
  wpAny M A (spliced (backTo pos (starEach [.Name x p] env))) Q E s:=argN F hv (args_nil h) hL ok he
theorem subN {slice:Expr} {Q:Value→Shared→Prop} (F:St g L s.heap l own) (hv:l.lookup x=some v) (h:wpAny M A (eval slice env) (fun i s₂=>wpAny M A (subscriptTail (.Name x p) slice v i) Q E s₂) E s)
  (hL:env.locals=L:=by rfl) (ok:okL env x=true:=by exact Eq.refl true) :
  wpAny M A (eval (.Subscript (.Name x p) slice pos) env) Q E s:=Subscript_ (ldS F hv h hL ok)
end
theorem tupS {M:Model} {A:Around} {E:Value→Shared→Prop} {s:Shared} {env:Env} {elts:List Expr} {k:Nat} {pos:Pos} {Q:Value→Shared→Prop}
  (h:wpAny M A (spliced (backTo pos (starEach elts env)))
   (fun vs s₁=>vs.length≤sizeLine∧∀ h' D,s₁.heap.get? D=none→Kp s₁.heap h'→h'.get? D=some { cls:=.type "tuple", data:=.seq vs.toArray }→Q (.ref D) { s₁ with heap:=h' }) E s) :
  wpAny M A (eval (.Tuple elts k pos) env) Q E s :=
 wpAny_Tuple (wpAny_mono h (fun vs s₁ p=>⟨p.1,p.2 _ _ (Heap.get?_none_of_le (Nat.le_refl _)) (fun b o e=>Heap.get?_push_of_some _ e) (Heap.get?_push_size _ rfl)⟩) fun _ _ e=>e)
theorem lstS {M:Model} {A:Around} {E:Value→Shared→Prop} {s:Shared} {env:Env} {elts:List Expr} {pos:Pos} {Q:Value→Shared→Prop}
  (h:wpAny M A (spliced (backTo pos (starEach elts env)))
   (fun vs s₁=>vs.length≤sizeLine∧∀ h' D,s₁.heap.get? D=none→Kp s₁.heap h'→h'.get? D=some { cls:=.type "list", data:=.seq vs.toArray }→Q (.ref D) { s₁ with heap:=h' }) E s) :
  wpAny M A (eval (.List elts pos) env) Q E s :=
 wpAny_List (wpAny_mono h (fun vs s₁ p=>⟨p.1,p.2 _ _ (Heap.get?_none_of_le (Nat.le_refl _)) (fun b o e=>Heap.get?_push_of_some _ e) (Heap.get?_push_size _ rfl)⟩) fun _ _ e=>e)
end
structure Out {α:Type} (Q P:α→Shared→Prop):Prop where
 go:∀ f s,P f s→Q f s
structure OutL (Q P:Flow→Shared→Prop):Prop where
 go:∀ f s,P f s→Q f s
structure OutS (Q P:Shared→Prop):Prop where
 go:∀ s,P s→Q s
structure Nx (M:Model) (A:Around) (E:Value→Shared→Prop) (env:Env) (rest:List PySem.Stmt) (Q Qs:Flow→Shared→Prop):Prop where
 next:∀ s',wpAny M A (execs rest env) Q E s'→Qs .next s'
 other:∀ f s',f≠.next→Q f s'→Qs f s'
section
variable {M M':Model} {A A':Around} {E E':Value→Shared→Prop} {s:Shared} {h₀:Heap} {ge:Array GenState} {dr:Drawn} {t₀:Nat} {os:OsState} {env env':Env} {st:PySem.Stmt} {rest rest':List PySem.Stmt} {Q P Q' Qs:Flow→Shared→Prop}
theorem Out.same {α:Type} {P:α→Shared→Prop}:Out P P:=⟨fun _ _ x=>x⟩
theorem OutL.same {P:Flow→Shared→Prop}:OutL P P:=⟨fun _ _ x=>x⟩
theorem OutL.ret {v:Value} (h:OutL Q P) (x:P (.ret v) s):Q (.ret v) s:=h.go _ s x
theorem OutS.same {P:Shared→Prop}:OutS P P:=⟨fun _ x=>x⟩
theorem Out.use {f:Flow} (h:Out Q P) (x:P f s):Q f s:=h.go f s x
theorem Nx.use (h:Nx M A E env rest Q Qs) (x:wpAny M A (execs rest env) Q E s):Qs .next s:=h.next s x
theorem Nx.ret {v:Value} (h:Nx M A E env rest Q Qs) (x:Q (.ret v) s):Qs (.ret v) s:=h.other _ s (fun q=>nomatch q) x
theorem Nx.brk (h:Nx M A E env rest Q Qs) (x:Q .brk s):Qs .brk s:=h.other _ s (fun q=>nomatch q) x
theorem Nx.cont (h:Nx M A E env rest Q Qs) (x:Q .cont s):Qs .cont s:=h.other _ s (fun q=>nomatch q) x
theorem stepA (h:∀ Qs,Nx M A E env rest Q Qs→wpAny M A (exec st env) Qs E s):wpAny M A (execs (st::rest) env) Q E s:=by
 refine wpAny_execs_cons (h _ ⟨fun _ x=>x,fun f s' hf x=>?_⟩)
 cases f with
 | next=>exact absurd (Eq.refl _) hf
 | _=>exact x
theorem stepO (h:∀ Q Qs,Out Q P→Nx M A E env rest Q Qs→wpAny M A (exec st env) Qs E s):wpAny M A (execs (st::rest) env) P E s:=stepA fun Qs n=>h P Qs .same n
theorem stepK (_:Out Q P) (h:∀ Qs,Nx M A E env rest Q Qs→wpAny M A (exec st env) Qs E s):wpAny M A (execs (st::rest) env) Q E s:=stepA h
theorem stepL (_:OutL Q P) (h:∀ Qs,Nx M A E env rest Q Qs→wpAny M A (exec st env) Qs E s):wpAny M A (execs (st::rest) env) Q E s:=stepA h
theorem stepN (_:Nx M' A' E' env' rest' Q' Q) (h:∀ Qs,Nx M A E env rest Q Qs→wpAny M A (exec st env) Qs E s):wpAny M A (execs (st::rest) env) Q E s:=stepA h
end
section
open Lean
set_option bootstrap.genMatcherCode true
set_option compiler.extract_closed true
def rdT:List (List String):=("( (
) )
_ ( 'Lean.Parser.Term.hole '_ )
? ( 'Lean.Parser.Term.syntheticHole '? '_ )
* B W ( 'Lean.Parser.Tactic.assumption 'assumption ) ] ) ] )
1 / W R (
2 ) ) ] ) ] )
5 / W ( 'Lean.Parser.Tactic.show 'show (
6 ) ) ] ) '; R (
9 ) ) ] )
F ( 'Lean.Parser.Tactic.first 'first ( 'null
G ) )
3 ) ) '; N _ _ ) ) ] ) ] )
4 ) ) '; N _ _ _ _ ) ) ] ) ] )
7 ) ) ] ) '; A
8 ) ) ] ) '; D ( 'null '[ ( 'null ( 'Lean.Parser.Tactic.simpLemma ( 'null ) ( 'null )
0 ) ) '] ) ( 'null ) ) ] )
+ / R (
! B ( 'Lean.Parser.Tactic.tacticRfl 'rfl ) ] )
A ( 'PyProof.Rows.tacticWalk_at_ 'walk_at ( 'str
D ( 'Lean.Parser.Tactic.dsimp 'dsimp C ( 'null ) ( 'null 'only )
/ ( 'group '| [
B ( 'Lean.Parser.Term.byTactic 'by [
W ( 'Lean.Parser.Tactic.withReducible 'with_reducible [
R ( 'Lean.Parser.Tactic.refine 'refine
N ( 'Lean.Parser.Tactic.intro 'intro ( 'null
C ( 'Lean.Parser.Tactic.optConfig ( 'null ) )
[ ( 'Lean.Parser.Tactic.tacticSeq ( 'Lean.Parser.Tactic.tacticSeq1Indented ( 'null
] ) ) )".splitOn "\n").map (·.splitOn " ")
def rdX (T:List (List String)) (l:List String):List String:=l.flatMap fun w=>if w.utf8ByteSize == 1 then match T.find? (fun r=>r.headD "" == w) with
  | some r=>r.tail
  | none=>[w]
 else [w]
def rd (s:String):Syntax :=
 let T:=rdT
 ((rdX (T.map fun r=>r.headD "" :: rdX T (rdX T r.tail)) (s.splitOn " ")).foldl (init:=[([]:List Syntax)]) fun st w=>match w,st with
  | "(", st=>[]::st
  | ")", x::y::t=>((match x.reverse with
   | .atom i k::as=>.node i k.toName as.toArray
   | f::as=>.node .none `Lean.Parser.Term.app #[f,.node .none `null as.toArray]
   | []=>.missing)::y)::t
  | w,x::t=>((if w.front == '\'' then .atom .none ((w.drop 1).toString) else mkIdent w.toName)::x)::t
  | _,t=>t).flatten.headD .missing
end
set_option compiler.extract_closed true in
local macro_rules | `(tactic| walk_at "nm")=>return rd "F + ldS * ! ? 9 + nmG * * * ? 9 + nmU * * B ( 'Lean.Parser.Tactic.decide 'decide C ) ] ) B ( 'PyProof.Rows.tacticBoot_by_name 'boot_by_name ) ] ) ? 9 G"
set_option compiler.extract_closed true in
local macro_rules | `(tactic| walk_at "x")=>return rd "F 1 stepN * ? 3 1 stepK * ? 3 1 stepL * ? 3 1 stepO ? 4 1 wpAny_execs_nil ? 2 G"
set_option compiler.extract_closed true in
local macro_rules | `(tactic| walk_at "s")=>return rd "F 5 wpAny _ _ ( exec ( Stmt.Assign ( List.cons ( PySem.Expr.Name _ _ ) List.nil ) _ _ ) _ ) _ _ _ 6 wpAny_Assign_Name ? 9 5 wpAny _ _ ( exec ( Stmt.Expr _ _ ) _ ) _ _ _ 6 wpAny_Expr ? 9 1 wpAny_If ? 2 1 wpAny_Return_some ? 2 1 wpAny_AugAssign_Name ? 2 1 wpAny_Pass ? 2 1 wpAny_Break ? 2 G"
set_option compiler.extract_closed true in
local macro_rules | `(tactic| walk_at "k")=>return rd "F 1 Constant_bool ? 2 1 Constant_none ? 2 1 wpAny_Constant_int ? 2 1 Calls.Constant_str ? 2 G"
set_option compiler.extract_closed true in
local macro_rules | `(tactic| walk_at "e")=>return rd "F 5 wpAny _ _ ( eval ( PySem.Expr.Name _ _ ) _ ) _ _ _ 7 '\"nm\" 9 5 wpAny _ _ ( eval ( PySem.Expr.Constant _ _ _ ) _ ) _ _ _ 7 '\"k\" 9 5 wpAny _ _ ( eval ( PySem.Expr.Call ( PySem.Expr.Attribute _ _ _ ) _ List.nil _ ) _ ) _ _ _ 6 MethodCall_ ? 9 5 wpAny _ _ ( eval ( PySem.Expr.Call ( PySem.Expr.Name _ _ ) _ List.nil _ ) _ ) _ _ _ 6 Call_ ? 9 5 wpAny _ _ ( eval ( PySem.Expr.Subscript ( PySem.Expr.Name _ _ ) _ _ ) _ ) _ _ _ 6 subN * ! ? 9 1 Subscript_ ? 2 1 wpAny_BinOp ? 2 5 wpAny _ _ ( eval ( PySem.Expr.Compare _ ( List.cons _ List.nil ) ( List.cons _ List.nil ) _ ) _ ) _ _ _ 6 wpAny_Compare1 ? 9 1 UnaryOp_ ? 2 1 IfExp_ ? 2 1 tupS ? 2 1 lstS ? 2 G"
set_option compiler.extract_closed true in
local macro_rules | `(tactic| walk_at "t")=>return rd "F 1 isTrue_not ? 2 1 isTrue_and_nil ? 2 1 isTrue_or_nil ? 2 1 isTrue_and ? 2 1 isTrue_or ? 2 5 wpAny _ _ ( isTrue ( PySem.Expr.Compare _ ( List.cons _ List.nil ) ( List.cons _ List.nil ) _ ) _ _ ) _ _ _ 6 wpAny_isTrue_Compare1 ? 9 5 wpAny _ _ ( isTrue _ _ _ ) _ _ _ 6 isTrue_plain ? 9 G"
set_option compiler.extract_closed true in
local macro_rules | `(tactic| walk_at "a")=>return rd "F 1 args_nil ? 2 5 wpAny _ _ ( spliced ( backTo _ ( starEach ( List.cons ( PySem.Expr.Name _ _ ) List.nil ) _ ) ) ) _ _ _ 6 argN1 * ! ? 9 5 wpAny _ _ ( spliced ( backTo _ ( starEach ( List.cons ( PySem.Expr.Name _ _ ) _ ) _ ) ) ) _ _ _ 6 argN * ! ? 9 5 wpAny _ _ ( spliced ( backTo _ ( starEach ( List.cons _ _ ) _ ) ) ) _ _ _ 6 args_cons ? 9 G"
set_option compiler.extract_closed true in
local macro_rules | `(tactic| walk_at "c")=>return rd "F 5 wpAny _ _ ( callWith _ ( Value.builtin _ ) _ ( backTo _ ( starEach List.nil _ ) ) List.nil ) _ _ _ 6 callWith_method0 ? 9 5 wpAny _ _ ( callWith _ ( Value.builtin _ ) _ ( backTo _ ( starEach ( List.cons _ _ ) _ ) ) List.nil ) _ _ _ 6 callWith_method1 ? 9 5 wpAny _ _ ( callWith _ ( Value.type _ ) List.nil ( backTo _ ( starEach ( List.cons _ _ ) _ ) ) List.nil ) _ _ _ 6 callTy ? 9 G"
set_option compiler.extract_closed true in
local macro_rules | `(tactic| walk_at "m")=>return rd "F 5 wpAny _ _ ( execs _ _ ) _ _ _ 7 '\"x\" 9 5 wpAny _ _ ( eval _ _ ) _ _ _ 7 '\"e\" 9 5 wpAny _ _ ( spliced _ ) _ _ _ 7 '\"a\" 9 5 wpAny _ _ ( exec _ _ ) _ _ _ 7 '\"s\" 9 5 wpAny _ _ ( isTrue _ _ _ ) _ _ _ 7 '\"t\" 9 5 wpAny _ _ ( callWith _ _ _ _ _ ) _ _ _ 7 '\"c\" 9 5 wpAny _ _ ( storeName _ _ _ ) _ _ _ 6 stS * ? 9 1 wpAny_truthy_bool ? 2 1 Nx.use * ? 2 1 if_tt ? 2 1 if_ff ? 2 1 Nx.ret * ? 2 1 Out.use * ? 2 1 OutL.ret * ? 2 1 Nx.brk * ? 2 1 Nx.cont * ? 2 1 if_nt ? 2 1 if_nf ? 2 / A '\"n\" ) ) ] ) G"
set_option compiler.extract_closed true in
local macro_rules | `(tactic| walk_at "li")=>return rd "F / W ( 'Lean.Parser.Tactic.assumption 'assumption ) ] ) ] ) + Nat.le_trans * B ( 'Lean.Parser.Tactic.decide 'decide C ) ] ) 9 / ( 'Lean.Parser.Tactic.lia 'lia C ) ] ) / ( 'Lean.Parser.Tactic.omega 'omega C ) ] ) G"
set_option compiler.extract_closed true in
local macro_rules | `(tactic| walk_at "ms")=>return rd "( 'Lean.Parser.Tactic.paren '( [ ( 'Lean.Parser.Tactic.tacticTry_ 'try [ D ( 'null ) ( 'null ) ) ] ) '; ( 'Lean.Parser.Tactic.tacticRepeat_ 'repeat [ A '\"m\" ) ) ] ) ] ') )"
section
variable {prog:Program} {w:World} {A:Around} {E:Value→Shared→Prop} {s:Shared}
noncomputable abbrev FinQ (prog:Program) (w:World) (A:Around) (Q:Value→Shared→Prop) (E:Value→Shared→Prop):Fin→Shared→Prop:=fun fin s'=>match fin with
 | .done f=>(match (Except.ok f:Result) with | .ok (.ret v)=>Q v s' | .ok _=>False | .error e=>E e s')
 | .again c'=>c'.quiet=true∧codeAny (model prog w) A c' (fun r s'=>match r with | .ok (.ret v)=>Q v s' | .ok _=>False | .error e=>E e s') s'
theorem call_fn {id:String} {b:Builtin} {args:List Value} {Q:Value→Shared→Prop} (hk:builtinKind id=none) (hp:plainId id=true)
  (hb:entryFor table id=some b) (ha:argsOk id ⟨args,[]⟩)
  (hc:wpAny (model prog w) A.in1 (b ⟨args,[]⟩) (FinQ prog w A Q E) E s):wpAny (model prog w) A (call (.builtin id) args) Q E s:=by
 refine wpAny_call (codeAny_call_builtin hp hb ?_)
 simp -iota only [checkBuiltinCall,hk]
 cases hsig:Manifest.signature? id with
 | none=>exact wpAny_pure hc
 | some sig =>
  simp -iota only [argsOk,hsig] at ha
  have h2:Bind.checkArgs id sig ⟨args,[]⟩=pure ():=ha
  show wpAny _ A.in1 (Bind.checkArgs id sig ⟨args,[]⟩) _ _ s
  rw [h2]; exact wpAny_pure hc
end
namespace BF
theorem entry_issubclass:entryFor table "issubclass" = some Builtin.«issubclass»:=entryFor_of_tree (by kernel_rfl)
theorem entry_issubclass_nested:entryFor table "issubclass.nested" = some Builtin.«issubclass.nested»:=entryFor_of_tree (by kernel_rfl)
theorem kind_issubclass:builtinKind "issubclass" = none:=by decide +kernel
theorem plain_issubclass:plainId "issubclass" = true:=by decide +kernel
theorem plain_issubclass_nested:plainId "issubclass.nested" = true:=by decide +kernel
theorem args_issubclass (a b:Value):argsOk "issubclass" ⟨[a,b],[]⟩:=by unfold argsOk; kernel_rfl
end BF
section
variable {prog:Program} {w:World} {A:Around} {E:Value→Shared→Prop} {s:Shared}
theorem issub_nested_str {dep:Int} {tk:Tok} {Q:Fin→Shared→Prop} (hq:Q (.done (.ret (.bool true))) s) :
  wpAny (model prog w) A (Builtin.«issubclass.nested» ⟨[.type "str", .type "str", .int dep tk],[]⟩) Q E s:=by
 have f1:typeOf (.type "str")=pure (.type "type"):=by kernel_rfl
 have f2:isSubtype (.type "str") (.type "str")=pure true:=isSubtype_str_str
 have f3:isSubtype (.type "type") (.type "type")=pure true:=by rw [isSubtype_type]; kernel_rfl
 unfold Builtin.«issubclass.nested»
 repeat (any_goals (first | assumption | wp_step))
theorem issub_str {tp:Addr} {Q:Value→Shared→Prop} (ht:s.heap.get? tp=some { cls:=.type "tuple", data:=.seq #[.type "str", .type "bytes"] })
  (hq:∀ tk,Q (.bool true) { s with toks:=tk }) :
  wpAny (model prog w) A (call (.builtin "issubclass") [.type "str", .ref tp]) Q E s:=by
 obtain ⟨h,g,d,t,os⟩:=s
 refine call_fn BF.kind_issubclass BF.plain_issubclass BF.entry_issubclass (BF.args_issubclass _ _) ?_
 have hT2:(⟨h,g,d,t,os⟩:Shared).TypeIs (.ref tp) "tuple" := (w11 _ ht rfl)
 have f1:=F.isi_sub_tuple
 unfold Builtin.«issubclass»
 repeat (any_goals (first | assumption | wp_step))
 refine ⟨Code.quiet_builtin _ (by decide +kernel),codeAny_builtin BF.entry_issubclass_nested ?_⟩
 rw [Around.under_plainId BF.plain_issubclass_nested]
 unfold Builtin.«issubclass.nested»
 repeat (any_goals (first | assumption | wp_step))
 show codeAny (model prog w) A.in1 (.call (.builtin "issubclass.nested") ⟨[.type "str", .type "str", .int (0+1) 0],[]⟩) _ _
 refine codeAny_call_builtin BF.plain_issubclass_nested BF.entry_issubclass_nested ?_
 refine wpAny_mono (?_:wpAny _ _ _ (fun _ s'=>s'=(⟨h,g,d,t,os⟩:Shared)) _ _) ?_ (fun _ _ e=>e)
 ·unfold checkBuiltinCall
  repeat (any_goals (first | assumption | rfl | wp_step))
 ·rintro _ s' rfl
  refine issub_nested_str ?_
  repeat (any_goals (first | assumption | wp_step))
  exact hq _
end
open PySem.Builtin PySem.Builtin.Str in
section
noncomputable abbrev S (l:List Nat):Str:=⟨l.toArray⟩
theorem S_toList (l:List Nat):(S l).cps.toList=l:=rfl
theorem S_len (l:List Nat):(S l).length=l.length:=by simp [S,Str.length]
theorem S_of (x:Str):x=S x.cps.toList:=rfl
theorem S_inj {a b:List Nat} (h:S a=S b):a=b:=by
 have:=congrArg (fun x:Str=>x.cps.toList) h
 simpa using this
theorem S_app (a b:List Nat):S a++S b=S (a++b):=by
 apply Str.ext'
 show a.toArray++b.toArray=(a++b).toArray
 simp
noncomputable def joinL (sep:List Nat):List (List Nat)→List Nat
 | []=>[]
 | [x]=>x
 | x::y::r=>x++sep++joinL sep (y::r)
theorem joinL_n {s:List Nat}:joinL s []=[]:=rfl
theorem joinL_1 {s x:List Nat}:joinL s [x]=x:=rfl
theorem joinL_c {s x y:List Nat} {r:List (List Nat)}:joinL s (x::y::r)=x++s++joinL s (y::r):=rfl
theorem strJoin_S (sep:List Nat):∀ ps:List (List Nat),Str.join (S sep) (ps.map S)=S (joinL sep ps)
 | []=>rfl
 | [x]=>rfl
 | x::y::r=>by
  have ih:=strJoin_S sep (y::r)
  show S x++S sep++Str.join (S sep) ((y::r).map S)=_
  rw [ih,S_app,S_app]
  rfl
theorem txtJoin_S (sep:List Nat) (ps:List (List Nat)):Txt.join (S sep) (ps.map S)=S (joinL sep ps):=by
 unfold Txt.join
 rw [StrLaws.glued_eq_join]
 exact strJoin_S sep ps
noncomputable def spl (c:Nat):List Nat→List (List Nat)
 | []=>[[]]
 | a::r=>if a=c then []::spl c r else match spl c r with
  | p::ps=>(a::p)::ps
  | []=>[[a]]
theorem spl_free {c:Nat}:∀ {p:List Nat},c∉p→spl c p=[p]
 | [],_=>rfl
 | a::r,h=>by
  simp only [List.mem_cons,not_or] at h
  have ih:=spl_free h.2
  rw [spl,if_neg (fun e=>h.1 e.symm),ih]
theorem spl_cut {c:Nat} (rest:List Nat):∀ {p:List Nat},c∉p→spl c (p++c::rest)=p::spl c rest
 | [],_=>by
  show spl c (c::rest)=_
  rw [spl,if_pos rfl]
 | a::r,h=>by
  simp only [List.mem_cons,not_or] at h
  have ih:=spl_cut rest h.2
  show spl c (a::(r++c::rest))=_
  rw [spl,if_neg (fun e=>h.1 e.symm),ih]
theorem spl_join {c:Nat}:∀ {ps:List (List Nat)},ps≠[]→(∀ p∈ps,c∉p)→spl c (joinL [c] ps)=ps
 | [],h,_=>absurd rfl h
 | [x],_,h=>spl_free (h x (by simp))
 | x::y::r,_,h=>by
  have ih:=spl_join (c:=c) (ps:=y::r) (by simp) fun p hp=>h p (List.mem_cons_of_mem _ hp)
  show spl c (x++[c]++joinL [c] (y::r))=_
  rw [List.append_assoc]
  show spl c (x++c::joinL [c] (y::r))=_
  rw [spl_cut _ (h x (by simp)),ih]
theorem spl_ne (c:Nat):∀ l,spl c l≠[]
 | []=>by simp [spl]
 | a::r=>by
  rw [spl]
  split
  ·simp
  ·split <;> simp
set_option tactic.hygienic true in
theorem spl_mem {c:Nat}:∀ {l p:List Nat},p∈spl c l→∀ a∈p,a∈l∧a≠c
 | [],p,hp,a,ha=>by
  simp [spl] at hp
  subst hp
  cases ha
 | b::r,p,hp,a,ha=>by
  rw [spl] at hp
  split at hp
  ·rcases List.mem_cons.mp hp with rfl | hp
   ·cases ha
   ·have:=spl_mem hp a ha
    exact ⟨List.mem_cons_of_mem _ this.1,this.2⟩
  ·rename_i hb
   split at hp
   ·rename_i q qs e
    rcases List.mem_cons.mp hp with rfl | hp
    ·rcases List.mem_cons.mp ha with rfl | ha
     ·exact ⟨by simp,hb⟩
     ·have:=spl_mem (c:=c) (l:=r) (p:=q) (by rw [e]; simp) a ha
      exact ⟨List.mem_cons_of_mem _ this.1,this.2⟩
    ·have:=spl_mem (c:=c) (l:=r) (p:=p) (by rw [e]; simp [hp]) a ha
     exact ⟨List.mem_cons_of_mem _ this.1,this.2⟩
   ·rename_i e
    exact absurd e (spl_ne c r)
theorem txtSplit_S (c:Nat) (x:List Nat):Txt.split (S x) (S [c])=(spl c x).map S:=by
 have h1:=StrLaws.join_split (S x) (S [c])
 have h2:=StrLaws.split_free (S x) c
 have hne:Txt.split (S x) (S [c])≠[]:=by
  unfold Txt.split
  split
  ·simp
  ·split
   ·simp
   ·rw [StrLaws.partsBetween_eq]
    refine u20 (StrLaws.partsFrom_ne (S x) (S [c]).length 0 (occurrences (S x) (S [c]) 0 (S x).length ((S x).length+1))) fun p r e=>?_
    rw [e]
    simp
 generalize Txt.split (S x) (S [c])=ps at h1 h2 hne
 have e:ps=(ps.map fun p=>p.cps.toList).map S:=by
  rw [List.map_map]
  have:(S ∘ fun p:Str=>p.cps.toList)=_root_.id:=by funext p; rfl
  rw [this,List.map_id]
 have hj:joinL [c] (ps.map fun p=>p.cps.toList)=x:=by
  rw [e,strJoin_S] at h1
  exact S_inj h1
 have hs:=spl_join (c:=c) (ps:=ps.map fun p=>p.cps.toList) (by simpa using hne) (by
  intro p hp
  refine u11 (List.mem_map.mp hp) fun q hq z0=>?_; subst z0
  exact h2 q hq)
 rw [hj] at hs
 rw [e,← hs]
noncomputable def replN (sub z:List Nat):Nat→List Nat→List Nat
 | _,[]=>[]
 | k+1,_::r=>replN sub z k r
 | 0,c::r=>if sub.isPrefixOf (c::r) then z++replN sub z (sub.length-1) r else c::replN sub z 0 r
theorem replN_n {sub z:List Nat} {k:Nat}:replN sub z k []=[]:=by cases k <;> rfl
theorem replN_k {sub z:List Nat} {k c:Nat} {r:List Nat}:replN sub z (k+1) (c::r)=replN sub z k r:=rfl
theorem replN_c {sub z:List Nat} {c:Nat} {r:List Nat}:replN sub z 0 (c::r)=if sub.isPrefixOf (c::r) then z++replN sub z (sub.length-1) r else c::replN sub z 0 r:=rfl
theorem replN_skip (sub z:List Nat):∀ (k:Nat) (l:List Nat),replN sub z k l=replN sub z 0 (l.drop k)
 | 0,l=>by simp
 | k+1,[]=>by simp [replN_n,replN_k,replN_c]
 | k+1,_::r=>by
  rw [replN_k,replN_skip sub z k r]
  simp
theorem At_iff {x sub:List Nat} {i:Nat}:StrLaws.At (S x) (S sub) (S x).length i↔i+sub.length≤x.length∧sub.isPrefixOf (x.drop i)=true:=by
 unfold StrLaws.At
 rw [S_len,S_len,StrLaws.subAt_eq,S_len,S_toList,S_toList]
 refine and_congr_right fun h=>?_
 rw [List.isPrefixOf_iff_prefix,List.prefix_iff_eq_take]
 constructor
 ·intro e; exact (beq_iff_eq.mp e).symm
 ·intro e; exact beq_iff_eq.mpr e.symm
theorem replN_none {sub z:List Nat}:∀ (l:List Nat),(∀ k,k<l.length→sub.isPrefixOf (l.drop k)=false)→replN sub z 0 l=l
 | [],_=>rfl
 | c::r,h=>by
  have h0:=h 0 (by simp)
  rw [List.drop_zero] at h0
  rw [replN_c,h0]
  simp only [Bool.false_eq_true,if_false]
  rw [replN_none r fun k hk=>by
   have:=h (k+1) (by simpa using hk)
   simpa using this]
theorem replN_to {sub z:List Nat} (hs:sub≠[]):∀ (n:Nat) (l:List Nat),n<l.length→(∀ k,k<n→sub.isPrefixOf (l.drop k)=false)→sub.isPrefixOf (l.drop n)=true →
  replN sub z 0 l=l.take n++z++replN sub z 0 (l.drop (n+sub.length))
 | 0,[],h,_,_=>absurd h (by simp)
 | 0,c::r,_,_,h=>by
  rw [List.drop_zero] at h
  rw [replN_c,h]
  simp only [if_true,List.take_zero,List.nil_append,Nat.zero_add]
  rw [replN_skip]
  have:sub.length=(sub.length-1)+1:=by
   have:sub.length≠0:=fun e=>hs (List.length_eq_zero_iff.mp e)
   exact q1 0x462006224005002811a 1 13215370 (by kernel_rfl) this
  conv=>rhs; rw [this,List.drop_succ_cons]
 | n+1,[],h,_,_=>absurd h (by simp)
 | n+1,c::r,hn,h1,h2=>by
  have h0:=h1 0 (by exact q1 570445841 1 1 (by kernel_rfl))
  rw [List.drop_zero] at h0
  rw [replN_c,h0]
  simp only [Bool.false_eq_true,if_false]
  rw [replN_to hs n r (by simpa using hn) (fun k hk=>by
   have:=h1 (k+1) (by exact q2 0x8c014a2004223000111a 1 3 (by kernel_rfl) hk)
   simpa using this) (by simpa using h2)]
  have:n+1+sub.length=(n+sub.length)+1:=by exact q2 0x8c000844a11002112222 1 3 (by kernel_rfl)
  rw [this,List.drop_succ_cons,List.take_succ_cons]
  simp
theorem sub_drop {x:List Nat} (a:Nat):(strSub (S x) a (S x).length).cps.toList=x.drop a:=by
 rw [StrLaws.strSub_toList,S_toList,S_len,← List.length_drop,List.take_length]
theorem join_parts {x sub z:List Nat} (hs:sub≠[]):∀ (cuts:List Nat) (a f:Nat),StrLaws.ChainG (S x) (S sub) (S x).length a cuts f→(∀ k,f≤k→¬ StrLaws.At (S x) (S sub) (S x).length k) →
  (Str.join (S z) (StrLaws.partsFrom (S x) (S sub).length a cuts)).cps.toList=replN sub z 0 (x.drop a)
 | [],a,f,h,hn=>by
  have e:f=a:=h
  subst e
  show (strSub (S x) f (S x).length).cps.toList=_
  rw [sub_drop,replN_none]
  intro k hk
  rw [List.drop_drop]
  rw [List.length_drop] at hk
  cases hc:sub.isPrefixOf (x.drop (f+k)) with
  | false=>rfl
  | true =>
   have hp:=List.isPrefixOf_iff_prefix.mp hc
   have hl:=hp.length_le
   rw [List.length_drop] at hl
   exact absurd (At_iff.mpr ⟨by exact q4 0x10c200621222408018a00a780301ad41005300123a 1 53556 (by kernel_rfl) hk hl,hc⟩) (hn (f+k) (by exact q2 268443648 1 1 (by kernel_rfl)))
 | c::r,a,f,⟨hac,hc,hbet,hr⟩,hn=>by
  have ih:=join_parts (z:=z) hs r (c+(S sub).length) f hr hn
  have hAt:=At_iff.mp hc
  refine u20 (StrLaws.partsFrom_ne (S x) (S sub).length (c+(S sub).length) r) fun p ps e=>?_
  show (Str.join (S z) (strSub (S x) a c::StrLaws.partsFrom (S x) (S sub).length (c+(S sub).length) r)).cps.toList=_
  rw [e] at ih ⊢
  show (strSub (S x) a c++S z++Str.join (S z) (p::ps)).cps.toList=_
  rw [show (strSub (S x) a c++S z++Str.join (S z) (p::ps)).cps.toList=(strSub (S x) a c).cps.toList++z++(Str.join (S z) (p::ps)).cps.toList from by simp [Str.cps_append,S]]
  rw [ih,StrLaws.strSub_toList,S_toList]
  have hpos:sub.length≠0:=fun e=>hs (List.length_eq_zero_iff.mp e)
  rw [replN_to (n:=c-a) hs (x.drop a) (by have hAt1:=hAt.1; rw [List.length_drop]; exact q4 0xc018e00a6223841005217029ac00c502f5000011a 1 0x5d73ce082082 (by kernel_rfl) hac hpos hAt1) (fun k hk=>by
   rw [List.drop_drop]
   cases hq:sub.isPrefixOf (x.drop (a+k)) with
   | false=>rfl
   | true =>
    have hl:=(List.isPrefixOf_iff_prefix.mp hq).length_le
    rw [List.length_drop] at hl
    exact absurd (At_iff.mpr ⟨by exact q4 0x4308018860890308018a00a60006b5002811a 1 14874 (by kernel_rfl) hpos hl,hq⟩) (hbet (a+k) (by exact q2 268443648 1 1 (by kernel_rfl)) (by exact q3 0x210031090c1005300123a 1 13 (by kernel_rfl) hk))) (by
   rw [List.drop_drop,show a+(c-a)=c from by exact q2 0x4200a60043a5000011a 1 1714 (by kernel_rfl) hac]
   exact hAt.2)]
  rw [List.drop_drop,S_len,show a+(c-a+sub.length)=c+sub.length from by exact q3 0x4100528200a62240045e5000011a 1 1714 (by kernel_rfl) hac]
set_option tactic.hygienic true in
theorem txtReplace_S {x sub z:List Nat} (hs:sub≠[]):Txt.replace (S x) (S sub) (S z)=S (replN sub z 0 x):=by
 have hpos:1≤(S sub).length:=by
  rw [S_len]
  have:sub.length≠0:=fun e=>hs (List.length_eq_zero_iff.mp e)
  exact q1 0x220a1002811a 1 13 (by kernel_rfl) this
 refine u11 (StrLaws.occ_tight (S x) (S sub) hpos) fun f h1 h2=>?_
 have hj:=join_parts (z:=z) hs _ _ _ h1 h2
 rw [List.drop_zero] at hj
 have key:Str.join (S z) (StrLaws.partsFrom (S x) (S sub).length 0 (occurrences (S x) (S sub) 0 (S x).length ((S x).length+1)))=S (replN sub z 0 x):=by
  apply Str.ext'
  apply Array.toList_inj.mp
  exact hj
 unfold Txt.replace
 split
 ·rename_i hc
  have h0:((S sub).length == 0 && (S z).length == 0)=false:=by
   have:((S sub).length == 0)=false:=by simpa using (by exact q1 0x20051105011a 1 3 (by kernel_rfl) hpos:(S sub).length≠0)
   rw [this]; rfl
  rw [h0,Bool.or_false,List.isEmpty_iff] at hc
  rw [hc] at key
  rw [← key]
  apply Str.ext'
  apply Array.toList_inj.mp
  show _=(strSub (S x) 0 (S x).length).cps.toList
  rw [sub_drop]
  simp
 ·rw [StrLaws.glued_eq_join,StrLaws.partsBetween_eq]
  exact key
theorem txtStarts_S (x y:List Nat):Txt.startswith (S x) (S y)=y.isPrefixOf x:=by
 unfold Txt.startswith
 rw [S_len,S_len,StrLaws.subAt_eq,S_toList,S_toList,S_len,List.drop_zero]
 cases h:y.isPrefixOf x with
 | true =>
  have hp:=List.isPrefixOf_iff_prefix.mp h
  have e:=List.prefix_iff_eq_take.mp hp
  simp only [Bool.and_eq_true,decide_eq_true_eq,beq_iff_eq]
  exact ⟨by have:=hp.length_le; exact q2 0x420241a1000011a 1 3 (by kernel_rfl) this,e.symm⟩
 | false =>
  rw [Bool.and_eq_false_iff]
  right
  cases q:(List.take y.length x == y) with
  | false=>rfl
  | true =>
   have:y <+: x:=List.prefix_iff_eq_take.mpr (beq_iff_eq.mp q).symm
   rw [List.isPrefixOf_iff_prefix.mpr this] at h
   cases h
theorem txtEnds_S (x:List Nat) (c:Nat):Txt.endswith (S x) (S [c])=(x.getLast? == some c):=by
 unfold Txt.endswith
 rw [S_len,S_len,StrLaws.subAt_eq,S_toList,S_toList,S_len]
 rcases List.eq_nil_or_concat x with rfl | ⟨l,a,rfl⟩
 ·rfl
 ·simp
noncomputable def dropR (p:Nat→Bool) (l:List Nat):List Nat:=(l.reverse.dropWhile p).reverse
theorem takeWhile_len {p:Nat→Bool}:∀ l:List Nat,l.drop (l.takeWhile p).length=l.dropWhile p
 | []=>rfl
 | a::r=>by
  rw [List.takeWhile_cons,List.dropWhile_cons]
  cases p a with
  | true=>simpa using takeWhile_len r
  | false=>simp
set_option tactic.hygienic true in
theorem stripBy_S (goes:Nat→Bool) (l r:Bool) (x:List Nat):Txt.stripBy goes l r (S x)=S ((if r then dropR goes else _root_.id) ((if l then List.dropWhile goes else _root_.id) x)):=by
 have hx:PySem.stripped goes l r (S x)=S ((if r then dropR goes else _root_.id) ((if l then List.dropWhile goes else _root_.id) x)):=by
  apply Str.ext'
  apply Array.toList_inj.mp
  show (strSub (S x) _ _).cps.toList=_
  rw [StrLaws.strSub_toList,S_toList]
  have hlo:x.drop (stripLo goes l (S x))=(if l then List.dropWhile goes else _root_.id) x:=by
   unfold stripLo
   rw [S_toList]
   cases l with
   | true=>simpa using takeWhile_len x
   | false=>simp
  rw [hlo]
  unfold stripHi
  rw [S_toList,S_len,hlo]
  generalize hy:(if l=true then List.dropWhile goes else _root_.id) x=y
  have hyl:y.length=x.length-stripLo goes l (S x):=by rw [← hy,← hlo,List.length_drop]
  cases r with
  | false =>
   simp only [Bool.false_eq_true,if_false,_root_.id]
   rw [← hyl,List.take_length]
  | true =>
   simp only [if_true]
   have e:x.length-(y.reverse.takeWhile goes).length-stripLo goes l (S x)=y.length-(y.reverse.takeWhile goes).length:=by exact q4 0x3000383080298b994941005300223a 1 0x102040c3060c0e1024c191024c19102041a3060c0a10a4c291064c09 (by kernel_rfl) hyl
   rw [e]
   show List.take _ y=(S (dropR goes y)).cps.toList
   rw [S_toList]
   unfold dropR
   rw [← takeWhile_len,List.drop_reverse,List.reverse_reverse]
 unfold Txt.stripBy
 split
 ·rename_i hs
  unfold stripSame at hs
  simp only [Bool.and_eq_true,beq_iff_eq] at hs
  rw [← hx]
  unfold PySem.stripped
  obtain ⟨q1,q2⟩:=hs
  rw [q1] at q2 ⊢
  rw [q2]
  apply Str.ext'
  apply Array.toList_inj.mp
  show _=(strSub (S x) 0 (S x).length).cps.toList
  rw [sub_drop]
  simp
 ·exact hx
theorem contains_one (c:Nat):(S [c]).cps.contains=fun a=>a == c:=by
 funext a
 show Array.contains [c].toArray a=_
 rw [Bool.eq_iff_iff]
 simp
theorem txtRstrip_S (x:List Nat) (c:Nat):Txt.rstripChars (S x) (S [c])=S (dropR (· == c) x):=by
 unfold Txt.rstripChars
 rw [stripBy_S,contains_one]
 rfl
theorem txtLstrip_S (x:List Nat) (c:Nat):Txt.lstripChars (S x) (S [c])=S (x.dropWhile (· == c)):=by
 unfold Txt.lstripChars
 rw [stripBy_S,contains_one]
 rfl
theorem txtStrip_S (x:List Nat):Txt.strip (S x)=S (dropR Unicode.isSpace (x.dropWhile Unicode.isSpace)):=by
 unfold Txt.strip
 rw [stripBy_S]
 rfl
theorem txtSlice_S {x:List Nat} {i j:Nat} (hij:i≤j) (hj:j≤x.length):Txt.slice (S x) (some (i:Int)) (some (j:Int))=S ((x.drop i).take (j-i)):=by
 have:=StrLaws.sliceText_plain (x:=S x) (i:=i) (j:=j) ⟨by exact q1 4115 1 1 (by kernel_rfl),by exact q2 0x200007000011a 1 3 (by kernel_rfl) hij,by rw [S_toList]; exact q2 0x200007000011a 1 3 (by kernel_rfl) hj⟩
 show StrLaws.sliceText _ _ _=_
 rw [this,S_toList]
 have e1:((j:Int)-(i:Int)).toNat=j-i:=by exact q2 0x20007000039192 1 2986713 (by kernel_rfl)
 have e2:(i:Int).toNat=i:=by exact q1 36930 1 93 (by kernel_rfl)
 rw [e1,e2]
theorem txtSliceFrom_S {x:List Nat} {i:Nat} (hi:i≤x.length):Txt.slice (S x) (some (i:Int)) none=S (x.drop i):=by
 have:=StrLaws.sliceText_from (x:=S x) (i:=i) ⟨by exact q1 4115 1 1 (by kernel_rfl),by rw [S_toList]; exact q2 0x200007000011a 1 3 (by kernel_rfl) hi⟩
 show StrLaws.sliceText _ _ _=_
 rw [this,S_toList]
 have e:((x.length:Int)-(i:Int)).toNat=x.length-i:=by exact q2 0x20007000039192 1 2986713 (by kernel_rfl)
 have e2:(i:Int).toNat=i:=by exact q1 36930 1 93 (by kernel_rfl)
 rw [e,e2,← List.length_drop,List.take_length]
theorem txtSliceTo_S {x:List Nat} {j:Nat} (hj:j≤x.length):Txt.slice (S x) none (some (j:Int))=S (x.take j):=by
 have:=StrLaws.sliceText_to (x:=S x) (j:=j) ⟨by exact q1 4115 1 1 (by kernel_rfl),by rw [S_toList]; exact q2 0x200007000011a 1 3 (by kernel_rfl) hj⟩
 show StrLaws.sliceText _ _ _=_
 rw [this,S_toList]
 have e2:((j:Int)-0).toNat=j:=by exact q1 268669202 1 93 (by kernel_rfl)
 rw [e2,List.drop_zero]
theorem txtItem_S {x:List Nat} {i:Nat} (h:i<x.length):Txt.item (S x) (i:Int)=S [x[i]]:=by
 unfold Txt.item Txt.charAt
 rw [StrLaws.at_nonneg (x:=S x) (i:=i) (n:=x[i]) (by exact q1 4115 1 1 (by kernel_rfl)) (by
  show (x.toArray)[(i:Int).toNat]?=_
  have:(i:Int).toNat=i:=by exact q1 36930 1 93 (by kernel_rfl)
  rw [this]
  simp [h])]
 rfl
end
section
theorem S_le {l:List Nat} (h:l.length≤100000):(S l).length≤sizeLine:=by rw [S_len,sizeLine_eq]; exact q1 0x2000000200186a0100021a 1 3 (by kernel_rfl) h
noncomputable def hasL (sub l:List Nat):Bool:=(List.range (l.length+1)).any fun k=>sub.isPrefixOf (l.drop k)
theorem txtContains_S (x y:List Nat):Txt.contains (S x) (S y)=hasL y x:=by
 unfold Txt.contains
 rw [Bool.eq_iff_iff,StrLaws.found_iff,hasL,List.any_eq_true]
 constructor
 ·rintro ⟨i,h⟩
  have:=At_iff.mp h
  exact (w11 i (List.mem_range.mpr (by walk_at "li")) this.2)
 ·intro y0; refine u11 y0 fun i hi h=>?_; clear y0
  have hi:=List.mem_range.mp hi
  have hl:=(List.isPrefixOf_iff_prefix.mp h).length_le
  rw [List.length_drop] at hl
  exact ⟨i,At_iff.mpr ⟨by exact q3 0x8400042410053801808ea3005200122a 1 186 (by kernel_rfl) hi hl,h⟩⟩
theorem txtContains1_S (x:List Nat) (c:Nat):Txt.contains (S x) (S [c])=decide (c∈x):=StrLaws.found_one (S x) c
set_option tactic.hygienic true in
theorem txtRfind_S {h n:List Nat} {c:Nat} (hn:c∉n):Txt.rfind (S (h++c::n)) (S [c])=(h.length:Int):=by
 have hat:∀ i,StrLaws.At (S (h++c::n)) (S [c]) (S (h++c::n)).length i↔(h++c::n)[i]?=some c:=by
  intro i
  rw [At_iff]
  constructor
  ·rintro ⟨h1,h2⟩
   obtain ⟨r,e⟩:=List.isPrefixOf_iff_prefix.mp h2
   have:=congrArg List.head? e
   rw [List.head?_drop] at this
   exact this.symm
  ·intro e
   obtain ⟨hlt,e'⟩:=List.getElem?_eq_some_iff.mp e
   refine ⟨by rw [List.length_singleton]; exact q2 0x422004221000111a 1 3 (by kernel_rfl) hlt,?_⟩
   rw [List.drop_eq_getElem_cons hlt,e']
   simp
 rcases rfind_whole (S (h++c::n)) (S [c]) with ⟨_,h2⟩ | ⟨i,h1,h2,h3⟩
 ·exact absurd ((hat h.length).mpr (by simp)) (h2 _)
 ·rw [h1]
  congr 1
  rcases Nat.lt_trichotomy i h.length with q | q | q
  ·exact absurd ((hat h.length).mpr (by simp)) (h3 _ q)
  ·exact q
  ·have:=(hat i).mp h2
   rw [List.getElem?_append_right (by exact q2 0x20001000111a 1 3 (by kernel_rfl) q),List.getElem?_cons] at this
   split at this
   ·(rename_i z0; exact q2 0x8029600a62243d5000111a 1 304227 (by kernel_rfl) q z0)
   ·exact absurd (List.mem_of_getElem? this) hn
variable {prog:Program} {w:World} {A:Around} {E:Value→Shared→Prop} {s:Shared} {h₀:Heap} {ge:Array GenState} {dr:Drawn} {t₀:Nat} {os:OsState} {x y z:List Nat} {c:Nat} {t u v:Tok}
theorem tS {Q:Bool→Shared→Prop} (hx:x.length≤100000) (h:∀ k,Q (decide (x≠[])) ⟨h₀,ge,dr,k,os⟩):wpAny (model prog w) A (truthy (.str (S x) t)) Q E ⟨h₀,ge,dr,t₀,os⟩:=by
 refine P.truthy_str (by rw [S_len]; exact q1 0x1fc04a287186a0100021a 1 3 (by kernel_rfl) hx) ?_
 have e:(((S x).length:Int) != 0)=decide (x≠[]):=by
  rw [S_len,Bool.eq_iff_iff]
  cases x <;> simp <;> exact q1 0x310021158 1 1 (by kernel_rfl)
 rw [e]
 exact h _
variable {Q:Value→Shared→Prop}
theorem eqS (h:Q (.bool (decide (x=y))) s):wpAny (model prog w) A (compareOp .Eq (.str (S x) t) (.str (S y) u)) Q E s:=by
 refine P.eq_str ?_
 have e:((S x).cps.toList == (S y).cps.toList)=decide (x=y):=by
  rw [S_toList,S_toList,Bool.eq_iff_iff]; simp
 rw [e]; exact h
theorem neS (h:Q (.bool (decide (x≠y))) s):wpAny (model prog w) A (compareOp .NotEq (.str (S x) t) (.str (S y) u)) Q E s:=by
 refine P.ne_str ?_
 have e:((S x).cps.toList != (S y).cps.toList)=decide (x≠y):=by
  rw [S_toList,S_toList,Bool.eq_iff_iff]; simp
 rw [e]; exact h
theorem ltS (h:Q (.bool (decide (x<y))) s):wpAny (model prog w) A (compareOp .Lt (.str (S x) t) (.str (S y) u)) Q E s:=P.lt_str h
theorem in1S (h:Q (.bool (decide (c∈x))) s):wpAny (model prog w) A (compareOp .In (.str (S [c]) u) (.str (S x) t)) Q E s:=by
 refine SB.contains ?_; rw [txtContains1_S]; exact h
theorem nin1S (h:Q (.bool (!decide (c∈x))) s):wpAny (model prog w) A (compareOp .NotIn (.str (S [c]) u) (.str (S x) t)) Q E s:=by
 refine SB.notContains ?_; rw [txtContains1_S]; exact h
theorem ninS (h:Q (.bool (!hasL y x)) s):wpAny (model prog w) A (compareOp .NotIn (.str (S y) u) (.str (S x) t)) Q E s:=by
 refine SB.notContains ?_; rw [txtContains_S]; exact h
theorem lenS (hx:x.length≤100000) (h:∀ k k',Q (.int x.length k) ⟨h₀,ge,dr,k',os⟩):wpAny (model prog w) A (call (.builtin "len") [.str (S x) t]) Q E ⟨h₀,ge,dr,t₀,os⟩:=by
 refine P.len_str (by rw [S_len]; exact q1 0x1fc04a287186a0100021a 1 3 (by kernel_rfl) hx) ?_; rw [S_len]; exact h _ _
theorem addS (hx:x.length+y.length≤200000) (h:∀ t' k,Q (.str (S (x++y)) t') ⟨h₀,ge,dr,k,os⟩):wpAny (model prog w) A (binaryOp .Add (.str (S x) t) (.str (S y) u)) Q E ⟨h₀,ge,dr,t₀,os⟩:=by
 refine SB.add (hsz:=by rw [S_len,S_len,sizeLine_eq]; exact q2 0x10000001800108861a803000211033a 1 3 (by kernel_rfl) hx) ?_; rw [S_app]; exact h
theorem iaddS (hx:x.length+y.length≤200000) (h:∀ t' k,Q (.str (S (x++y)) t') ⟨h₀,ge,dr,k,os⟩):wpAny (model prog w) A (inplaceOp .Add (.str (S x) t) (.str (S y) u)) Q E ⟨h₀,ge,dr,t₀,os⟩:=by
 refine SB.iadd (hsz:=by rw [S_len,S_len,sizeLine_eq]; exact q2 0x10000001800108861a803000211033a 1 3 (by kernel_rfl) hx) ?_; rw [S_app]; exact h
theorem mulS {i:Int} (n:Nat) (ei:i=(n:Int)) (hn:n≤100000) (h:∀ t' k,Q (.str (S (List.replicate n c)) t') ⟨h₀,ge,dr,k,os⟩):wpAny (model prog w) A (binaryOp .Mult (.str (S [c]) t) (.int i u)) Q E ⟨h₀,ge,dr,t₀,os⟩:=by
 subst ei
 refine SB.mul ⟨?_,?_,?_⟩ ?_
 ·simp only [Bool.or_eq_false_iff,decide_eq_false_iff_not]; exact q1 0x1fc04a2871fc04ac009050d86a0100021a 1 14 (by kernel_rfl) hn
 ·intro z1 _
  rw [S_len]
  show ¬ ((1:Int)>_)
  have h1:(n:Int)≤(2 ^ 63-1)/n∨n=0:=by
   rcases Nat.eq_zero_or_pos n with e | e
   ·exact .inr e
   ·left
    refine (Int.le_ediv_iff_mul_le (by exact q1 0x20291004815a 1 3 (by kernel_rfl) z1)).mpr ?_
    have:(n:Int)*n≤100000*100000:=Int.mul_le_mul (by exact q1 0x30d40200786a0100021a 1 3 (by kernel_rfl) hn) (by exact q1 0x30d40200786a0100021a 1 3 (by kernel_rfl) hn) (by exact q1 4115 1 1 (by kernel_rfl)) (by exact q0 0x30d403013 1 1 (by kernel_rfl))
    exact Int.le_trans this (by decide)
  rcases h1 with h1 | h1
  ·exact Int.not_lt.mpr (Int.le_trans (Int.not_lt.mp z1) h1)
  ·subst h1; exact absurd (by decide) z1
 ·intro _ _
  rw [S_len]
  show Builtin.Str.tooLong (1*(n:Int).toNat)=false
  unfold Builtin.Str.tooLong
  rw [sizeLine_eq]
  exact decide_eq_false (by exact q1 0x4c05200000023a3186a0100021a 1 19 (by kernel_rfl) hn)
 ·intro t' k
  have e:Txt.mul (S [c]) (n:Int)=S (List.replicate n c):=by
   apply Str.ext'
   apply Array.toList_inj.mp
   rw [show (S [c]:Str)=⟨#[c]⟩ from rfl,mul_one_list]
   simp
  rw [e]; exact h _ _
theorem itemS {value slice:Expr} {k:Int} (i:Nat) (ei:k=(i:Int)) (hi:i<x.length) (hx:x.length≤100000) (h:∀ t' k,Q (.str (S [x[i]]) t') ⟨h₀,ge,dr,k,os⟩)
  (hs:subscripted slice false (.str (S x) t) (.int k u)=operate [.str (S x) t,.int k u] (getItem (.str (S x) t) (.int k u)):=by with_unfolding_all rfl) :
  wpAny (model prog w) A (subscriptTail value slice (.str (S x) t) (.int k u)) Q E ⟨h₀,ge,dr,t₀,os⟩:=by
 subst ei
 refine tail_any (typeIs_str _ _ _) F.slot_str_getitem.lookup (SB.getItem ?_ (charAt_isSome ?_ ?_) ?_) hs
 ·unfold fitsSsize; simp only [Bool.not_eq_true',Bool.or_eq_false_iff,decide_eq_false_iff_not]; exact q2 0x7f0128a1c7f012b002414361a80600a04d5000111a 1 60 (by kernel_rfl) hi hx
 ·rw [S_len]; exact q2 8413235 1 1 (by kernel_rfl)
 ·rw [S_len]; exact q2 0x200009000111a 1 3 (by kernel_rfl) hi
 ·rw [txtItem_S hi]; exact h _ _
theorem itemLastS {value slice:Expr} (hx:x.length≤100000) (h:∀ t' k,Q (.str (S [c]) t') ⟨h₀,ge,dr,k,os⟩) (he:x.getLast?=some c)
  (hs:subscripted slice false (.str (S x) t) (.int (-1) u)=operate [.str (S x) t,.int (-1) u] (getItem (.str (S x) t) (.int (-1) u)):=by with_unfolding_all rfl) :
  wpAny (model prog w) A (subscriptTail value slice (.str (S x) t) (.int (-1) u)) Q E ⟨h₀,ge,dr,t₀,os⟩:=by
 have hpos:0<x.length:=by cases x with
  | nil=>cases he
  | cons=>simp
 refine tail_any (typeIs_str _ _ _) F.slot_str_getitem.lookup (SB.getItem (by decide) (charAt_isSome ?_ ?_) ?_) hs
 ·rw [S_len]; exact q1 0x116c0670110da 1 3 (by kernel_rfl) hpos
 ·rw [S_len]; exact q1 1138836 1 1 (by kernel_rfl)
 ·have e:Txt.item (S x) (-1)=S [c]:=by
   unfold Txt.item Txt.charAt
   have h1:seqIndex? (-1) (S x).length=some (x.length-1):=by
    rw [S_len]; unfold seqIndex?; simp; exact q1 0x220071609291928b0490aa45824a02644c9ed0110da 1 0x26322632b (by kernel_rfl) hpos
   rw [h1]
   show S [((x.toArray)[x.length-1]?).getD 0]=_
   rw [List.getElem?_toArray,← List.getLast?_eq_getElem?,he]
   rfl
  rw [e]; exact h _ _
theorem slcS {value slice:Expr} {D:Addr} {lo hi:Option (Int × Tok)} (hx:x.length≤100000) (hD:h₀.IsSlice D lo hi none) (h:∀ t' k,Q (.str (Txt.slice (S x) (lo.map (·.1)) (hi.map (·.1))) t') ⟨h₀,ge,dr,k,os⟩)
  (hs:subscripted slice false (.str (S x) t) (.ref D)=operate [.ref D,.str (S x) t] (getItem (.str (S x) t) (.ref D)):=by with_unfolding_all rfl) :
  wpAny (model prog w) A (subscriptTail value slice (.str (S x) t) (.ref D)) Q E ⟨h₀,ge,dr,t₀,os⟩ :=
 tail_any (typeIs_str _ _ _) F.slot_str_getitem.lookup (wpAny_getItem_str_slice hD rfl (post_val_or_str ⟨Nat.le_trans (Txt.slice_le (S x) _ _) (S_le hx),h⟩)) hs
theorem slcFromS {value slice:Expr} {D:Addr} {k:Int} {ti:Tok} (i:Nat) (ei:k=(i:Int)) (hx:x.length≤100000) (hi:i≤x.length) (hD:h₀.get? D=some { cls:=.type "slice", data:=.fields #[.int k ti,.none,.none] }) (h:∀ t' k,Q (.str (S (x.drop i)) t') ⟨h₀,ge,dr,k,os⟩)
  (hs:subscripted slice false (.str (S x) t) (.ref D)=operate [.ref D,.str (S x) t] (getItem (.str (S x) t) (.ref D)):=by with_unfolding_all rfl) :
  wpAny (model prog w) A (subscriptTail value slice (.str (S x) t) (.ref D)) Q E ⟨h₀,ge,dr,t₀,os⟩  := by
 subst ei
 exact slcS (lo:=some (i,ti)) (hi:=none) hx (w12 _ hD rfl rfl) (fun t' k=>by have:=h t' k; rw [← txtSliceFrom_S hi] at this; exact this) hs
theorem slcToS {value slice:Expr} {D:Addr} {k:Int} {ti:Tok} (i:Nat) (ei:k=(i:Int)) (hx:x.length≤100000) (hi:i≤x.length) (hD:h₀.get? D=some { cls:=.type "slice", data:=.fields #[.none,.int k ti,.none] }) (h:∀ t' k,Q (.str (S (x.take i)) t') ⟨h₀,ge,dr,k,os⟩)
  (hs:subscripted slice false (.str (S x) t) (.ref D)=operate [.ref D,.str (S x) t] (getItem (.str (S x) t) (.ref D)):=by with_unfolding_all rfl) :
  wpAny (model prog w) A (subscriptTail value slice (.str (S x) t) (.ref D)) Q E ⟨h₀,ge,dr,t₀,os⟩  := by
 subst ei
 exact slcS (lo:=none) (hi:=some (i,ti)) hx (w12 _ hD rfl rfl) (fun t' k=>by have:=h t' k; rw [← txtSliceTo_S hi] at this; exact this) hs
theorem slcInS {value slice:Expr} {D:Addr} {k l:Int} {ti tj:Tok} (i j:Nat) (ei:k=(i:Int)) (ej:l=(j:Int)) (hx:x.length≤100000) (hij:i≤j) (hi:j≤x.length) (hD:h₀.get? D=some { cls:=.type "slice", data:=.fields #[.int k ti,.int l tj,.none] }) (h:∀ t' k,Q (.str (S ((x.drop i).take (j-i))) t') ⟨h₀,ge,dr,k,os⟩)
  (hs:subscripted slice false (.str (S x) t) (.ref D)=operate [.ref D,.str (S x) t] (getItem (.str (S x) t) (.ref D)):=by with_unfolding_all rfl) :
  wpAny (model prog w) A (subscriptTail value slice (.str (S x) t) (.ref D)) Q E ⟨h₀,ge,dr,t₀,os⟩  := by
 subst ei ej
 exact slcS (lo:=some (i,ti)) (hi:=some (j,tj)) hx (w12 _ hD rfl rfl) (fun t' k=>by have:=h t' k; rw [← txtSlice_S hij hi] at this; exact this) hs
theorem slN {M:Model} {env:Env} {lower upper step:Option Expr} {p:Pos} {Q:Value→Shared→Prop}
  (h:wpAny M A (evalPart lower env) (fun l s₁=>wpAny M A (evalPart upper env) (fun u s₂=>wpAny M A (evalPart step env) (fun st s₃ =>
   ∀ h' D,s₃.heap.get? D=none→Kp s₃.heap h'→h'.get? D=some { cls:=.type "slice", data:=.fields #[l,u,st] }→Q (.ref D) { s₃ with heap:=h' }) E s₂) E s₁) E s) :
  wpAny M A (eval (.Slice lower upper step p) env) Q E s :=
 wpAny_Slice (wpAny_mono h (fun _ _ h=>wpAny_mono h (fun _ _ h=>wpAny_mono h (fun _ s₃ h=>h _ _ (Heap.get?_none_of_le (Nat.le_refl _)) (fun b o e=>Heap.get?_push_of_some _ e) (Heap.get?_push_size _ rfl)) fun _ _ e=>e) fun _ _ e=>e) fun _ _ e=>e)
theorem startsS (h:Q (.bool (y.isPrefixOf x)) s):wpAny (model prog w) A (call (.builtin "str.startswith") [.str (S x) t,.str (S y) u]) Q E s:=by
 refine SC.startswith ?_; rw [txtStarts_S]; exact h
theorem ends1S (h:Q (.bool (x.getLast? == some c)) s):wpAny (model prog w) A (call (.builtin "str.endswith") [.str (S x) t,.str (S [c]) u]) Q E s:=by
 refine SC.endswith ?_; rw [txtEnds_S]; exact h
theorem rfind1S (hn:c∉y) (h:∀ k k',Q (.int x.length k) ⟨h₀,ge,dr,k',os⟩):wpAny (model prog w) A (call (.builtin "str.rfind") [.str (S (x++c::y)) t,.str (S [c]) u]) Q E ⟨h₀,ge,dr,t₀,os⟩:=by
 refine SC.rfind ?_; rw [txtRfind_S hn]; exact h _ _
theorem stripS (hx:x.length≤100000) (h:∀ t' k,Q (.str (S (dropR Unicode.isSpace (x.dropWhile Unicode.isSpace))) t') ⟨h₀,ge,dr,k,os⟩):wpAny (model prog w) A (call (.builtin "str.strip") [.str (S x) t]) Q E ⟨h₀,ge,dr,t₀,os⟩:=by
 refine SC.strip (hsz:=S_le hx) ?_; rw [txtStrip_S]; exact h
theorem lstripS (hx:x.length≤100000) (h:∀ t' k,Q (.str (S (x.dropWhile (· == c))) t') ⟨h₀,ge,dr,k,os⟩):wpAny (model prog w) A (call (.builtin "str.lstrip") [.str (S x) t,.str (S [c]) u]) Q E ⟨h₀,ge,dr,t₀,os⟩:=by
 refine SC.lstripChars (hsz:=S_le hx) ?_; rw [txtLstrip_S]; exact h
theorem rstripS (hx:x.length≤100000) (h:∀ t' k,Q (.str (S (dropR (· == c) x)) t') ⟨h₀,ge,dr,k,os⟩):wpAny (model prog w) A (call (.builtin "str.rstrip") [.str (S x) t,.str (S [c]) u]) Q E ⟨h₀,ge,dr,t₀,os⟩:=by
 refine SC.rstripChars (hsz:=S_le hx) ?_; rw [txtRstrip_S]; exact h
theorem replS (hu:u≠0) (hv:v≠0) (huv:u≠v) (hy:y≠[]) (hyz:y≠z) (hx:x.length≤100000) (hz:z.length≤14) (h:∀ t' k,Q (.str (S (replN y z 0 x)) t') ⟨h₀,ge,dr,k,os⟩) :
  wpAny (model prog w) A (call (.builtin "str.replace") [.str (S x) t,.str (S y) u,.str (S z) v]) Q E ⟨h₀,ge,dr,t₀,os⟩:=by
 refine SC.replaceW hu hv huv ?_ (by rw [S_len]; exact q1 0x200000200186a0100021a 1 3 (by kernel_rfl) hx) (by rw [S_len]; exact q1 0xe1000e100014a 1 3 (by kernel_rfl) hz) ?_
 ·cases e:(S y == S z) with
  | false=>rfl
  | true=>exact absurd (S_inj (eq_of_beq e)) hyz
 ·rw [txtReplace_S hy]; exact h
theorem strsAre_len:∀ {vs:List Value} {xs:List Str},StrsAre vs xs→vs.length=xs.length
 | _,_,.nil=>rfl
 | _,_,.cons _ _ h=>congrArg (·+1) (strsAre_len h)
set_option tactic.hygienic true in
theorem spl_len (c:Nat):∀ l:List Nat,(spl c l).length≤l.length+1
 | []=>by simp [spl]
 | a::r=>by
  have ih:=spl_len c r
  rw [spl]
  split
  ·simpa using ih
  ·split
   ·rename_i p ps e
    rw [e] at ih
    simp only [List.length_cons] at ih ⊢
    exact q2 0x463005216288010884600a5100211033a 1 3 (by kernel_rfl) ih
   ·simp
theorem splitS (hx:x.length≤100000) (h:∀ D vs h' k,Kp h₀ h'→h'.IsList D vs.toArray→StrsAre vs ((spl c x).map S)→Q (.ref D) ⟨h',ge,dr,k,os⟩) :
  wpAny (model prog w) A (call (.builtin "str.split") [.str (S x) t,.str (S [c]) u]) Q E ⟨h₀,ge,dr,t₀,os⟩:=by
 refine SCH.split1 (P:=Kp h₀) (fun h ob k b o e=>Heap.get?_push_of_some _ (k b o e)) (fun _ _ e=>e) rfl (fun D l h' k ht hk hl=>?_) (S_le hx) ?_
 ·refine h D _ h' k hk hl ?_
  rw [← txtSplit_S,← ht]
  exact strsAre_of_values l
 ·rw [length_partsBetween,sizeLine_eq]
  have:=StrLaws.occ_length_le (S x) (S [c]) 0 (S x).length ((S x).length+1)
  rw [S_len] at this ⊢
  exact q2 0x20000003180290b04400a00a045586a0100021a 1 7 (by kernel_rfl) hx this
theorem strsAre_S {vs:List Value} {xs:List Str} (h:StrsAre vs xs):StrsAre vs ((xs.map fun x=>x.cps.toList).map S):=by
 have:(xs.map fun x=>x.cps.toList).map S=xs:=by
  rw [List.map_map]
  exact List.map_id xs
 rw [this]; exact h
theorem joinS {D:Addr} {vs:List Value} {ps:List (List Nat)} (hl:h₀.IsList D vs.toArray) (hi:StrsAre vs (ps.map S)) (hx:x.length≤16) (hw:(ps.map (·.length)).sum+ps.length≤1000000)
  (h:∀ t' k,Q (.str (S (joinL x ps)) t') ⟨h₀,ge,dr,k,os⟩):wpAny (model prog w) A (call (.builtin "str.join") [.str (S x) t,.ref D]) Q E ⟨h₀,ge,dr,t₀,os⟩:=by
 refine join_listW hl hi (by rw [S_len]; exact hx) ?_ ?_
 ·rw [List.map_map,List.length_map]
  have:((fun x:Str=>x.length) ∘ S)=fun l:List Nat=>l.length:=by funext l; exact S_len l
  rw [this]; exact q2 0x40000060004221e84803000211035a 1 3 (by kernel_rfl) hw
 ·rw [txtJoin_S]; exact h
end
section
variable {M:Model} {A:Around} {E:Value→Shared→Prop} {s:Shared} {h₀:Heap} {ge:Array GenState} {dr:Drawn} {t₀:Nat} {os:OsState} {env:Env} {k:Nat} {pos:Pos} {Q:Value→Shared→Prop}
theorem con0e:Str.ofString "._+-" = S [46,95,43,45]:=by decide +kernel
theorem con0 (h:∀ t k,t₀≤t→t<k→Q (.str (S [46,95,43,45]) t) ⟨h₀,ge,dr,k,os⟩):wpAny M A (eval (.Constant (.str (Str.ofString "._+-")) k pos) env) Q E ⟨h₀,ge,dr,t₀,os⟩:=by rw [con0e]; exact Calls.Constant_str (h _ _ (Nat.le_refl _) (Nat.lt_succ_self _))
theorem con1e:Str.ofString " " = S [32]:=by decide +kernel
theorem con1 (h:∀ t k,t₀≤t→t<k→Q (.str (S [32]) t) ⟨h₀,ge,dr,k,os⟩):wpAny M A (eval (.Constant (.str (Str.ofString " ")) k pos) env) Q E ⟨h₀,ge,dr,t₀,os⟩:=by rw [con1e]; exact Calls.Constant_str (h _ _ (Nat.le_refl _) (Nat.lt_succ_self _))
theorem con2e:Str.ofString "_" = S [95]:=by decide +kernel
theorem con2 (h:∀ t k,t₀≤t→t<k→Q (.str (S [95]) t) ⟨h₀,ge,dr,k,os⟩):wpAny M A (eval (.Constant (.str (Str.ofString "_")) k pos) env) Q E ⟨h₀,ge,dr,t₀,os⟩:=by rw [con2e]; exact Calls.Constant_str (h _ _ (Nat.le_refl _) (Nat.lt_succ_self _))
theorem con3e:Str.ofString "/" = S [47]:=by decide +kernel
theorem con3 (h:∀ t k,t₀≤t→t<k→Q (.str (S [47]) t) ⟨h₀,ge,dr,k,os⟩):wpAny M A (eval (.Constant (.str (Str.ofString "/")) k pos) env) Q E ⟨h₀,ge,dr,t₀,os⟩:=by rw [con3e]; exact Calls.Constant_str (h _ _ (Nat.le_refl _) (Nat.lt_succ_self _))
theorem con4e:Str.ofString "-" = S [45]:=by decide +kernel
theorem con4 (h:∀ t k,t₀≤t→t<k→Q (.str (S [45]) t) ⟨h₀,ge,dr,k,os⟩):wpAny M A (eval (.Constant (.str (Str.ofString "-")) k pos) env) Q E ⟨h₀,ge,dr,t₀,os⟩:=by rw [con4e]; exact Calls.Constant_str (h _ _ (Nat.le_refl _) (Nat.lt_succ_self _))
theorem con5e:Str.ofString "\\" = S [92]:=by decide +kernel
theorem con5 (h:∀ t k,t₀≤t→t<k→Q (.str (S [92]) t) ⟨h₀,ge,dr,k,os⟩):wpAny M A (eval (.Constant (.str (Str.ofString "\\")) k pos) env) Q E ⟨h₀,ge,dr,t₀,os⟩:=by rw [con5e]; exact Calls.Constant_str (h _ _ (Nat.le_refl _) (Nat.lt_succ_self _))
theorem con6e:Str.ofString ":" = S [58]:=by decide +kernel
theorem con6 (h:∀ t k,t₀≤t→t<k→Q (.str (S [58]) t) ⟨h₀,ge,dr,k,os⟩):wpAny M A (eval (.Constant (.str (Str.ofString ":")) k pos) env) Q E ⟨h₀,ge,dr,t₀,os⟩:=by rw [con6e]; exact Calls.Constant_str (h _ _ (Nat.le_refl _) (Nat.lt_succ_self _))
theorem con7e:Str.ofString ";" = S [59]:=by decide +kernel
theorem con7 (h:∀ t k,t₀≤t→t<k→Q (.str (S [59]) t) ⟨h₀,ge,dr,k,os⟩):wpAny M A (eval (.Constant (.str (Str.ofString ";")) k pos) env) Q E ⟨h₀,ge,dr,t₀,os⟩:=by rw [con7e]; exact Calls.Constant_str (h _ _ (Nat.le_refl _) (Nat.lt_succ_self _))
theorem con8e:Str.ofString "\"" = S [34]:=by decide +kernel
theorem con8 (h:∀ t k,t₀≤t→t<k→Q (.str (S [34]) t) ⟨h₀,ge,dr,k,os⟩):wpAny M A (eval (.Constant (.str (Str.ofString "\"")) k pos) env) Q E ⟨h₀,ge,dr,t₀,os⟩:=by rw [con8e]; exact Calls.Constant_str (h _ _ (Nat.le_refl _) (Nat.lt_succ_self _))
theorem con9e:Str.ofString "(" = S [40]:=by decide +kernel
theorem con9 (h:∀ t k,t₀≤t→t<k→Q (.str (S [40]) t) ⟨h₀,ge,dr,k,os⟩):wpAny M A (eval (.Constant (.str (Str.ofString "(")) k pos) env) Q E ⟨h₀,ge,dr,t₀,os⟩:=by rw [con9e]; exact Calls.Constant_str (h _ _ (Nat.le_refl _) (Nat.lt_succ_self _))
theorem con10e:Str.ofString ")" = S [41]:=by decide +kernel
theorem con10 (h:∀ t k,t₀≤t→t<k→Q (.str (S [41]) t) ⟨h₀,ge,dr,k,os⟩):wpAny M A (eval (.Constant (.str (Str.ofString ")")) k pos) env) Q E ⟨h₀,ge,dr,t₀,os⟩:=by rw [con10e]; exact Calls.Constant_str (h _ _ (Nat.le_refl _) (Nat.lt_succ_self _))
theorem con11e:Str.ofString "unknown" = S [117,110,107,110,111,119,110]:=by decide +kernel
theorem con11 (h:∀ t k,t₀≤t→t<k→Q (.str (S [117,110,107,110,111,119,110]) t) ⟨h₀,ge,dr,k,os⟩):wpAny M A (eval (.Constant (.str (Str.ofString "unknown")) k pos) env) Q E ⟨h₀,ge,dr,t₀,os⟩:=by rw [con11e]; exact Calls.Constant_str (h _ _ (Nat.le_refl _) (Nat.lt_succ_self _))
theorem con12e:Str.ofString "" = S []:=by decide +kernel
theorem con12 (h:∀ t k,t₀≤t→t<k→Q (.str (S []) t) ⟨h₀,ge,dr,k,os⟩):wpAny M A (eval (.Constant (.str (Str.ofString "")) k pos) env) Q E ⟨h₀,ge,dr,t₀,os⟩:=by rw [con12e]; exact Calls.Constant_str (h _ _ (Nat.le_refl _) (Nat.lt_succ_self _))
theorem con13e:Str.ofString "--" = S [45,45]:=by decide +kernel
theorem con13 (h:∀ t k,t₀≤t→t<k→Q (.str (S [45,45]) t) ⟨h₀,ge,dr,k,os⟩):wpAny M A (eval (.Constant (.str (Str.ofString "--")) k pos) env) Q E ⟨h₀,ge,dr,t₀,os⟩:=by rw [con13e]; exact Calls.Constant_str (h _ _ (Nat.le_refl _) (Nat.lt_succ_self _))
theorem con14e:Str.ofString "." = S [46]:=by decide +kernel
theorem con14 (h:∀ t k,t₀≤t→t<k→Q (.str (S [46]) t) ⟨h₀,ge,dr,k,os⟩):wpAny M A (eval (.Constant (.str (Str.ofString ".")) k pos) env) Q E ⟨h₀,ge,dr,t₀,os⟩:=by rw [con14e]; exact Calls.Constant_str (h _ _ (Nat.le_refl _) (Nat.lt_succ_self _))
theorem con15e:Str.ofString ".." = S [46,46]:=by decide +kernel
theorem con15 (h:∀ t k,t₀≤t→t<k→Q (.str (S [46,46]) t) ⟨h₀,ge,dr,k,os⟩):wpAny M A (eval (.Constant (.str (Str.ofString "..")) k pos) env) Q E ⟨h₀,ge,dr,t₀,os⟩:=by rw [con15e]; exact Calls.Constant_str (h _ _ (Nat.le_refl _) (Nat.lt_succ_self _))
theorem con16e:Str.ofString "1" = S [49]:=by decide +kernel
theorem con16 (h:∀ t k,t₀≤t→t<k→Q (.str (S [49]) t) ⟨h₀,ge,dr,k,os⟩):wpAny M A (eval (.Constant (.str (Str.ofString "1")) k pos) env) Q E ⟨h₀,ge,dr,t₀,os⟩:=by rw [con16e]; exact Calls.Constant_str (h _ _ (Nat.le_refl _) (Nat.lt_succ_self _))
theorem con17e:Str.ofString "0" = S [48]:=by decide +kernel
theorem con17 (h:∀ t k,t₀≤t→t<k→Q (.str (S [48]) t) ⟨h₀,ge,dr,k,os⟩):wpAny M A (eval (.Constant (.str (Str.ofString "0")) k pos) env) Q E ⟨h₀,ge,dr,t₀,os⟩:=by rw [con17e]; exact Calls.Constant_str (h _ _ (Nat.le_refl _) (Nat.lt_succ_self _))
theorem con18e:Str.ofString "rc" = S [114,99]:=by decide +kernel
theorem con18 (h:∀ t k,t₀≤t→t<k→Q (.str (S [114,99]) t) ⟨h₀,ge,dr,k,os⟩):wpAny M A (eval (.Constant (.str (Str.ofString "rc")) k pos) env) Q E ⟨h₀,ge,dr,t₀,os⟩:=by rw [con18e]; exact Calls.Constant_str (h _ _ (Nat.le_refl _) (Nat.lt_succ_self _))
theorem con19e:Str.ofString "a" = S [97]:=by decide +kernel
theorem con19 (h:∀ t k,t₀≤t→t<k→Q (.str (S [97]) t) ⟨h₀,ge,dr,k,os⟩):wpAny M A (eval (.Constant (.str (Str.ofString "a")) k pos) env) Q E ⟨h₀,ge,dr,t₀,os⟩:=by rw [con19e]; exact Calls.Constant_str (h _ _ (Nat.le_refl _) (Nat.lt_succ_self _))
theorem con20e:Str.ofString "dev" = S [100,101,118]:=by decide +kernel
theorem con20 (h:∀ t k,t₀≤t→t<k→Q (.str (S [100,101,118]) t) ⟨h₀,ge,dr,k,os⟩):wpAny M A (eval (.Constant (.str (Str.ofString "dev")) k pos) env) Q E ⟨h₀,ge,dr,t₀,os⟩:=by rw [con20e]; exact Calls.Constant_str (h _ _ (Nat.le_refl _) (Nat.lt_succ_self _))
theorem con21e:Str.ofString "p" = S [112]:=by decide +kernel
theorem con21 (h:∀ t k,t₀≤t→t<k→Q (.str (S [112]) t) ⟨h₀,ge,dr,k,os⟩):wpAny M A (eval (.Constant (.str (Str.ofString "p")) k pos) env) Q E ⟨h₀,ge,dr,t₀,os⟩:=by rw [con21e]; exact Calls.Constant_str (h _ _ (Nat.le_refl _) (Nat.lt_succ_self _))
theorem con22e:Str.ofString "l" = S [108]:=by decide +kernel
theorem con22 (h:∀ t k,t₀≤t→t<k→Q (.str (S [108]) t) ⟨h₀,ge,dr,k,os⟩):wpAny M A (eval (.Constant (.str (Str.ofString "l")) k pos) env) Q E ⟨h₀,ge,dr,t₀,os⟩:=by rw [con22e]; exact Calls.Constant_str (h _ _ (Nat.le_refl _) (Nat.lt_succ_self _))
theorem con23e:Str.ofString "+" = S [43]:=by decide +kernel
theorem con23 (h:∀ t k,t₀≤t→t<k→Q (.str (S [43]) t) ⟨h₀,ge,dr,k,os⟩):wpAny M A (eval (.Constant (.str (Str.ofString "+")) k pos) env) Q E ⟨h₀,ge,dr,t₀,os⟩:=by rw [con23e]; exact Calls.Constant_str (h _ _ (Nat.le_refl _) (Nat.lt_succ_self _))
theorem con24e:Str.ofString "b" = S [98]:=by decide +kernel
theorem con24 (h:∀ t k,t₀≤t→t<k→Q (.str (S [98]) t) ⟨h₀,ge,dr,k,os⟩):wpAny M A (eval (.Constant (.str (Str.ofString "b")) k pos) env) Q E ⟨h₀,ge,dr,t₀,os⟩:=by rw [con24e]; exact Calls.Constant_str (h _ _ (Nat.le_refl _) (Nat.lt_succ_self _))
theorem con25e:Str.ofString "c" = S [99]:=by decide +kernel
theorem con25 (h:∀ t k,t₀≤t→t<k→Q (.str (S [99]) t) ⟨h₀,ge,dr,k,os⟩):wpAny M A (eval (.Constant (.str (Str.ofString "c")) k pos) env) Q E ⟨h₀,ge,dr,t₀,os⟩:=by rw [con25e]; exact Calls.Constant_str (h _ _ (Nat.le_refl _) (Nat.lt_succ_self _))
theorem con26e:Str.ofString "25" = S [50,53]:=by decide +kernel
theorem con26 (h:∀ t k,t₀≤t→t<k→Q (.str (S [50,53]) t) ⟨h₀,ge,dr,k,os⟩):wpAny M A (eval (.Constant (.str (Str.ofString "25")) k pos) env) Q E ⟨h₀,ge,dr,t₀,os⟩:=by rw [con26e]; exact Calls.Constant_str (h _ _ (Nat.le_refl _) (Nat.lt_succ_self _))
theorem con27e:Str.ofString "RC" = S [82,67]:=by decide +kernel
theorem con27 (h:∀ t k,t₀≤t→t<k→Q (.str (S [82,67]) t) ⟨h₀,ge,dr,k,os⟩):wpAny M A (eval (.Constant (.str (Str.ofString "RC")) k pos) env) Q E ⟨h₀,ge,dr,t₀,os⟩:=by rw [con27e]; exact Calls.Constant_str (h _ _ (Nat.le_refl _) (Nat.lt_succ_self _))
theorem con28e:Str.ofString "lpha" = S [108,112,104,97]:=by decide +kernel
theorem con28 (h:∀ t k,t₀≤t→t<k→Q (.str (S [108,112,104,97]) t) ⟨h₀,ge,dr,k,os⟩):wpAny M A (eval (.Constant (.str (Str.ofString "lpha")) k pos) env) Q E ⟨h₀,ge,dr,t₀,os⟩:=by rw [con28e]; exact Calls.Constant_str (h _ _ (Nat.le_refl _) (Nat.lt_succ_self _))
theorem con29e:Str.ofString "/(" = S [47,40]:=by decide +kernel
theorem con29 (h:∀ t k,t₀≤t→t<k→Q (.str (S [47,40]) t) ⟨h₀,ge,dr,k,os⟩):wpAny M A (eval (.Constant (.str (Str.ofString "/(")) k pos) env) Q E ⟨h₀,ge,dr,t₀,os⟩:=by rw [con29e]; exact Calls.Constant_str (h _ _ (Nat.le_refl _) (Nat.lt_succ_self _))
theorem con30e:Str.ofString "eta" = S [101,116,97]:=by decide +kernel
theorem con30 (h:∀ t k,t₀≤t→t<k→Q (.str (S [101,116,97]) t) ⟨h₀,ge,dr,k,os⟩):wpAny M A (eval (.Constant (.str (Str.ofString "eta")) k pos) env) Q E ⟨h₀,ge,dr,t₀,os⟩:=by rw [con30e]; exact Calls.Constant_str (h _ _ (Nat.le_refl _) (Nat.lt_succ_self _))
theorem con31e:Str.ofString "é" = S [233]:=by decide +kernel
theorem con31 (h:∀ t k,t₀≤t→t<k→Q (.str (S [233]) t) ⟨h₀,ge,dr,k,os⟩):wpAny M A (eval (.Constant (.str (Str.ofString "é")) k pos) env) Q E ⟨h₀,ge,dr,t₀,os⟩:=by rw [con31e]; exact Calls.Constant_str (h _ _ (Nat.le_refl _) (Nat.lt_succ_self _))
theorem con32e:Str.ofString "u" = S [117]:=by decide +kernel
theorem con32 (h:∀ t k,t₀≤t→t<k→Q (.str (S [117]) t) ⟨h₀,ge,dr,k,os⟩):wpAny M A (eval (.Constant (.str (Str.ofString "u")) k pos) env) Q E ⟨h₀,ge,dr,t₀,os⟩:=by rw [con32e]; exact Calls.Constant_str (h _ _ (Nat.le_refl _) (Nat.lt_succ_self _))
theorem con33e:Str.ofString "n" = S [110]:=by decide +kernel
theorem con33 (h:∀ t k,t₀≤t→t<k→Q (.str (S [110]) t) ⟨h₀,ge,dr,k,os⟩):wpAny M A (eval (.Constant (.str (Str.ofString "n")) k pos) env) Q E ⟨h₀,ge,dr,t₀,os⟩:=by rw [con33e]; exact Calls.Constant_str (h _ _ (Nat.le_refl _) (Nat.lt_succ_self _))
theorem con34e:Str.ofString "k" = S [107]:=by decide +kernel
theorem con34 (h:∀ t k,t₀≤t→t<k→Q (.str (S [107]) t) ⟨h₀,ge,dr,k,os⟩):wpAny M A (eval (.Constant (.str (Str.ofString "k")) k pos) env) Q E ⟨h₀,ge,dr,t₀,os⟩:=by rw [con34e]; exact Calls.Constant_str (h _ _ (Nat.le_refl _) (Nat.lt_succ_self _))
theorem con35e:Str.ofString "o" = S [111]:=by decide +kernel
theorem con35 (h:∀ t k,t₀≤t→t<k→Q (.str (S [111]) t) ⟨h₀,ge,dr,k,os⟩):wpAny M A (eval (.Constant (.str (Str.ofString "o")) k pos) env) Q E ⟨h₀,ge,dr,t₀,os⟩:=by rw [con35e]; exact Calls.Constant_str (h _ _ (Nat.le_refl _) (Nat.lt_succ_self _))
theorem con36e:Str.ofString "w" = S [119]:=by decide +kernel
theorem con36 (h:∀ t k,t₀≤t→t<k→Q (.str (S [119]) t) ⟨h₀,ge,dr,k,os⟩):wpAny M A (eval (.Constant (.str (Str.ofString "w")) k pos) env) Q E ⟨h₀,ge,dr,t₀,os⟩:=by rw [con36e]; exact Calls.Constant_str (h _ _ (Nat.le_refl _) (Nat.lt_succ_self _))
theorem con37e:Str.ofString "-/\\:;\"()" = S [45,47,92,58,59,34,40,41]:=by decide +kernel
theorem con37 (h:∀ t k,t₀≤t→t<k→Q (.str (S [45,47,92,58,59,34,40,41]) t) ⟨h₀,ge,dr,k,os⟩):wpAny M A (eval (.Constant (.str (Str.ofString "-/\\:;\"()")) k pos) env) Q E ⟨h₀,ge,dr,t₀,os⟩:=by rw [con37e]; exact Calls.Constant_str (h _ _ (Nat.le_refl _) (Nat.lt_succ_self _))
theorem con38e:Str.ofString " \t" = S [32,9]:=by decide +kernel
theorem con38 (h:∀ t k,t₀≤t→t<k→Q (.str (S [32,9]) t) ⟨h₀,ge,dr,k,os⟩):wpAny M A (eval (.Constant (.str (Str.ofString " \t")) k pos) env) Q E ⟨h₀,ge,dr,t₀,os⟩:=by rw [con38e]; exact Calls.Constant_str (h _ _ (Nat.le_refl _) (Nat.lt_succ_self _))
theorem con39e:Str.ofString "alpha" = S [97,108,112,104,97]:=by decide +kernel
theorem con39 (h:∀ t k,t₀≤t→t<k→Q (.str (S [97,108,112,104,97]) t) ⟨h₀,ge,dr,k,os⟩):wpAny M A (eval (.Constant (.str (Str.ofString "alpha")) k pos) env) Q E ⟨h₀,ge,dr,t₀,os⟩:=by rw [con39e]; exact Calls.Constant_str (h _ _ (Nat.le_refl _) (Nat.lt_succ_self _))
theorem con40e:Str.ofString "beta" = S [98,101,116,97]:=by decide +kernel
theorem con40 (h:∀ t k,t₀≤t→t<k→Q (.str (S [98,101,116,97]) t) ⟨h₀,ge,dr,k,os⟩):wpAny M A (eval (.Constant (.str (Str.ofString "beta")) k pos) env) Q E ⟨h₀,ge,dr,t₀,os⟩:=by rw [con40e]; exact Calls.Constant_str (h _ _ (Nat.le_refl _) (Nat.lt_succ_self _))
theorem con41e:Str.ofString "pl" = S [112,108]:=by decide +kernel
theorem con41 (h:∀ t k,t₀≤t→t<k→Q (.str (S [112,108]) t) ⟨h₀,ge,dr,k,os⟩):wpAny M A (eval (.Constant (.str (Str.ofString "pl")) k pos) env) Q E ⟨h₀,ge,dr,t₀,os⟩:=by rw [con41e]; exact Calls.Constant_str (h _ _ (Nat.le_refl _) (Nat.lt_succ_self _))
theorem con42e:Str.ofString "0123456789" = S [48,49,50,51,52,53,54,55,56,57]:=by decide +kernel
theorem con42 (h:∀ t k,t₀≤t→t<k→Q (.str (S [48,49,50,51,52,53,54,55,56,57]) t) ⟨h₀,ge,dr,k,os⟩):wpAny M A (eval (.Constant (.str (Str.ofString "0123456789")) k pos) env) Q E ⟨h₀,ge,dr,t₀,os⟩:=by rw [con42e]; exact Calls.Constant_str (h _ _ (Nat.le_refl _) (Nat.lt_succ_self _))
theorem con43e:Str.ofString "0123456789._+-" = S [48,49,50,51,52,53,54,55,56,57,46,95,43,45]:=by decide +kernel
theorem con43 (h:∀ t k,t₀≤t→t<k→Q (.str (S [48,49,50,51,52,53,54,55,56,57,46,95,43,45]) t) ⟨h₀,ge,dr,k,os⟩):wpAny M A (eval (.Constant (.str (Str.ofString "0123456789._+-")) k pos) env) Q E ⟨h₀,ge,dr,t₀,os⟩:=by rw [con43e]; exact Calls.Constant_str (h _ _ (Nat.le_refl _) (Nat.lt_succ_self _))
end
set_option compiler.extract_closed true in
local macro_rules | `(tactic| walk_at "con")=>return rd "F 1 con0 ? 4 1 con1 ? 4 1 con2 ? 4 1 con3 ? 4 1 con4 ? 4 1 con5 ? 4 1 con6 ? 4 1 con7 ? 4 1 con8 ? 4 1 con9 ? 4 1 con10 ? 4 1 con11 ? 4 1 con12 ? 4 1 con13 ? 4 1 con14 ? 4 1 con15 ? 4 1 con16 ? 4 1 con17 ? 4 1 con18 ? 4 1 con19 ? 4 1 con20 ? 4 1 con21 ? 4 1 con22 ? 4 1 con23 ? 4 1 con24 ? 4 1 con25 ? 4 1 con26 ? 4 1 con27 ? 4 1 con28 ? 4 1 con29 ? 4 1 con30 ? 4 1 con31 ? 4 1 con32 ? 4 1 con33 ? 4 1 con34 ? 4 1 con35 ? 4 1 con36 ? 4 1 con37 ? 4 1 con38 ? 4 1 con39 ? 4 1 con40 ? 4 1 con41 ? 4 1 con42 ? 4 1 con43 ? 4 G"
theorem sep_spec {prog:Program} {w:World} {mg:Str→Option Value} {A:Around} {E:Value→Shared→Prop} {s:Shared} {a:Addr} (T:TK w mg s.heap) (ha:mg "_get_sep" = some (.ref a)) (R:Room A 1) (x:Str) (t:Tok) :
  wpAny (model prog w) A (call (.ref a) [.str x t]) (fun v s'=>(∃ u,v=.str (S [47]) u)∧Keeps s s') E s:=by
 refine enter F_get_sep T ha R.lim (binds:=[("path", .str x t)]) (fun _ _ _=>BindsTo.of_eq rfl) (locs rfl) rfl fun cd h₁ F₀=>?_
 have F:=St.init F₀
 replace R:=R.deeper (env:=envOf "_get_sep" F_get_sep.scope s.heap.objs.size a cd) (by decide:0+1≤1)
 generalize A.deeper (envOf "_get_sep" F_get_sep.scope s.heap.objs.size a cd)=A at R ⊢
 clear F₀
 generalize hL:s.heap.objs.size=L at F ⊢
 clear hL
 refine stepO fun _ _ _ _=>?_
 walk_at "ms"
 refine IsiPair.str_bytes ?_
 walk_at "ms"
 exact ⟨⟨_,congrArg (Value.str · _) con3e⟩,Keeps.mk' F.keep⟩
theorem fspath_spec {prog:Program} {w:World} {mg:Str→Option Value} {A:Around} {E:Value→Shared→Prop} {s:Shared} {a:Addr} (T:TK w mg s.heap) (ha:mg "fspath" = some (.ref a)) (R:Room A 1) (x:Str) (t:Tok) :
  wpAny (model prog w) A (call (.ref a) [.str x t]) (fun v s'=>v=.str x t∧Keeps s s') E s:=by
 refine enter F_fspath T ha R.lim (binds:=[("path", .str x t)]) (fun _ _ _=>BindsTo.of_eq rfl) (locs rfl) rfl fun cd h₁ F₀=>?_
 have F:=St.init F₀
 replace R:=R.deeper (env:=envOf "fspath" F_fspath.scope s.heap.objs.size a cd) (by decide:0+1≤1)
 generalize A.deeper (envOf "fspath" F_fspath.scope s.heap.objs.size a cd)=A at R ⊢
 clear F₀
 generalize hL:s.heap.objs.size=L at F ⊢
 clear hL
 refine stepO fun _ _ _ _=>?_
 walk_at "ms"
 refine call_type_of (typeIs_str _ _ _) (by decide) ?_
 walk_at "ms"
 intro h₂ F₂ _
 walk_at "ms"
 refine ⟨by decide,fun h₃ D hD hk hT=>?_⟩
 have F₃:=F₂.keeps hk
 walk_at "ms"
 refine issub_str hT fun tk=>?_
 walk_at "ms"
 exact ⟨rfl,Keeps.mk' F₃.keep⟩
section
variable {M:Model} {A:Around} {E:Value→Shared→Prop} {s:Shared} {env:Env}
theorem evN {Q:Value→Shared→Prop} (h:Q .none s):wpAny M A (evalPart none env) Q E s:=wpAny_pure h
theorem evS {e:Expr} {Q:Value→Shared→Prop} (h:wpAny M A (eval e env) Q E s):wpAny M A (evalPart (some e) env) Q E s:=h
end
set_option compiler.extract_closed true in
local macro_rules | `(tactic| walk_at "gm")=>return rd "F 1 GM.startswith ? 2 1 GM.endswith ? 2 1 GM.rfind ? 2 1 GM.strip ? 2 1 GM.lstrip ? 2 1 GM.rstrip ? 2 1 GM.split ? 2 1 GM.join ? 2 1 GM.replace ? 2 G"
set_option compiler.extract_closed true in
local macro_rules | `(tactic| walk_at "k")=>return rd "F 5 wpAny _ _ ( eval ( PySem.Expr.Constant ( PySem.Const.str _ ) _ _ ) _ ) _ _ _ 7 '\"con\" 9 G"
set_option compiler.extract_closed true in
local macro_rules | `(tactic| walk_at "n")=>return rd "F 5 wpAny _ _ ( getMethod ( PySem.Value.str _ _ ) _ _ ) _ _ _ 7 '\"gm\" 9 1 eqS ? 2 1 neS ? 2 5 wpAny _ _ ( call ( Value.builtin ( 'str '\"str.startswith\" ) ) _ ) _ _ _ 6 startsS ? 9 5 wpAny _ _ ( call ( Value.builtin ( 'str '\"str.endswith\" ) ) _ ) _ _ _ 6 ends1S ? 9 5 wpAny _ _ ( loadName _ _ ) _ _ _ 6 lnS * ! ? 9 1 BoolOp_or ? 2 1 BoolOp_one ? 2 1 wpAny_Continue ? 2 1 evN ? 2 1 evS ? 2 1 slN ? 2 G"
set_option compiler.extract_closed true in
local macro_rules | `(tactic| walk_at "fn")=>return rd "F + callWith_fn F_fspath * * ? 9 + callWith_fn F_commonprefix * * ? 9 + callWith_fn F_get_sep * * ? 9 + callWith_fn F_join * * ? 9 + callWith_fn F_split * * ? 9 + callWith_fn F_splitroot * * ? 9 + callWith_fn F_normpath * * ? 9 + callWith_fn F_abspath * * ? 9 + callWith_fn F_commonpath * * ? 9 + callWith_fn F_releases * * ? 9 + callWith_fn F_safe * * ? 9 + callWith_fn F_rank * * ? 9 + callWith_fn F_row * * ? 9 + callWith_fn F_climb * * ? 9 + callWith_fn F_shared * * ? 9 + callWith_fn F_common * * ? 9 + callWith_fn F_less * * ? 9 + callWith_fn F_cv * * ? 9 + callWith_fn F_platform * * ? 9 G"
set_option compiler.extract_closed true in
local macro_rules | `(tactic| walk_at "n")=>return rd "F 5 wpAny _ _ ( callWith _ ( Value.ref _ ) List.nil ( backTo _ ( starEach ( List.cons _ _ ) _ ) ) List.nil ) _ _ _ 7 '\"fn\" 9 5 And ( Kp _ _ ) ( wpAny _ _ ( call _ _ ) _ _ _ ) 6 And.intro ( St.keep * ) ? 9 G"
section
variable {prog:Program} {w:World} {A:Around} {E:Value→Shared→Prop} {s:Shared} {h₀:Heap} {ge:Array GenState} {dr:Drawn} {t₀:Nat} {os:OsState} {a b:Int} {t u:Tok} {Q:Value→Shared→Prop}
theorem iAdd (h:∀ t' k,Q (.int (a+b) t') ⟨h₀,ge,dr,k,os⟩):wpAny (model prog w) A (binaryOp .Add (.int a t) (.int b u)) Q E ⟨h₀,ge,dr,t₀,os⟩:=P.add_int (h _ _)
theorem iIadd (h:∀ t' k,Q (.int (a+b) t') ⟨h₀,ge,dr,k,os⟩):wpAny (model prog w) A (inplaceOp .Add (.int a t) (.int b u)) Q E ⟨h₀,ge,dr,t₀,os⟩:=P.iadd_int (h _ _)
theorem iSub (h:∀ t' k,Q (.int (a-b) t') ⟨h₀,ge,dr,k,os⟩):wpAny (model prog w) A (binaryOp .Sub (.int a t) (.int b u)) Q E ⟨h₀,ge,dr,t₀,os⟩:=P.sub_int (h _ _)
theorem iIsub (h:∀ t' k,Q (.int (a-b) t') ⟨h₀,ge,dr,k,os⟩):wpAny (model prog w) A (inplaceOp .Sub (.int a t) (.int b u)) Q E ⟨h₀,ge,dr,t₀,os⟩:=P.isub_int (h _ _)
theorem iNeg (h:∀ t' k,Q (.int (-a) t') ⟨h₀,ge,dr,k,os⟩):wpAny (model prog w) A (unaryOp .USub (.int a t)) Q E ⟨h₀,ge,dr,t₀,os⟩:=P.neg_int (h _ _)
theorem iEq (h:Q (.bool (decide (a=b))) s):wpAny (model prog w) A (compareOp .Eq (.int a t) (.int b u)) Q E s:=by
 refine P.eq_int ?_
 have e:(a == b)=decide (a=b):=by rw [Bool.eq_iff_iff]; simp
 rw [e]; exact h
theorem iNe (h:Q (.bool (decide (a≠b))) s):wpAny (model prog w) A (compareOp .NotEq (.int a t) (.int b u)) Q E s:=by
 refine P.ne_int ?_
 have e:(a != b)=decide (a≠b):=by rw [Bool.eq_iff_iff]; simp
 rw [e]; exact h
end
section
variable {M:Model} {A:Around} {E:Value→Shared→Prop} {s:Shared} {h₀:Heap} {ge:Array GenState} {dr:Drawn} {t₀:Nat} {os:OsState} {env:Env}
theorem cInt {i:Int} {k pos} {Q:Value→Shared→Prop} (h:∀ t' k',Q (.int i t') ⟨h₀,ge,dr,k',os⟩):wpAny M A (eval (.Constant (.int i) k pos) env) Q E ⟨h₀,ge,dr,t₀,os⟩:=wpAny_Constant_int (h _ _)
theorem szl {α:Type} {l:List α} (h:l.length≤1000):l.length≤sizeLine:=by rw [sizeLine_eq]; exact q1 0x40000004003e810001aa 1 3 (by kernel_rfl) h
theorem aioC {f:Value→Sem Unit} {v:Value} {fs:List (Value→Sem Unit)} {vs:List Value} {Q:Unit→Shared→Prop} (h:wpAny M A (f v) (fun _ s'=>wpAny M A (assignInOrder fs vs) Q E s') E s) :
  wpAny M A (assignInOrder (f::fs) (v::vs)) Q E s:=by
 show wpAny M A (do holding vs (f v); assignInOrder fs vs) Q E s
 exact wpAny_bind (wpAny_holding h)
theorem aioN {Q:Unit→Shared→Prop} (h:Q () s):wpAny M A (assignInOrder [] []) Q E s:=wpAny_pure h
theorem isTup_of {h:Heap} {D:Addr} {vs:Array Value} (e:h.get? D=some { cls:=.type "tuple", data:=.seq vs }):IsTup h D vs:=(w12 _ e rfl ⟨_,rfl⟩)
theorem isTup_of' {h:Heap} {D:Addr} {vs:Array Value} (e:h.get? D=some { cls:=.type "tuple", data:=.seq vs }):h.IsTuple D vs:=(w12 _ e rfl ⟨_,rfl⟩)
end
section
variable {prog:Program} {w:World} {A:Around} {E:Value→Shared→Prop} {s:Shared} {h₀:Heap} {ge:Array GenState} {dr:Drawn} {t₀:Nat} {os:OsState} {env:Env}
theorem asgSw {elts k tpos value pos} (names:List Str) {Q:Flow→Shared→Prop} (hh:A.handled=none)
  (h:wpAny (model prog w) A (eval value env) (fun v s₁=>∃ D items,v=.ref D∧IsTup s₁.heap D items∧items.size=names.length∧∀ h',Kp s₁.heap h' →
   wpAny (model prog w) A (assignInOrder (names.reverse.map fun n=>bindName env n) items.toList.reverse) (fun _=>Q .next) E { s₁ with heap:=h' }) E s)
  (hs:swapsWithSole [.Tuple elts k tpos] value pos.line env=pure false:=by rfl)
  (hw:swappedStores [.Tuple elts k tpos] value env=pure (some names):=by rfl) :
  wpAny (model prog w) A (exec (.Assign [.Tuple elts k tpos] value pos) env) Q E s:=by
 refine Assign_Tuple_swapped (wpAny_mono h (fun v s₁ p=>?_) fun _ _ x=>x) hs hw
 refine u23 p fun D items z0 ht hn hQ=>?_; clear p; subst z0
 rw [← hn]
 exact unpackItems_tuple hh ht fun h' he=>hQ h' fun b o e=>he b o (Nat.ne_of_lt (Heap.lt_size e)) e
theorem asgTu {elts k tpos value pos} {Q:Flow→Shared→Prop} (hh:A.handled=none)
  (h:wpAny (model prog w) A (eval value env) (fun v s₁=>∃ D items,v=.ref D∧s₁.heap.IsTuple D items∧(assignEach elts env).length=items.size∧∀ h',Kp s₁.heap h' →
   wpAny (model prog w) A (assignInOrder ((assignEach elts env).map (·.2)) items.toList) (fun _=>Q .next) E { s₁ with heap:=h' }) E s)
  (hstar:(assignEach elts env).findIdx? (·.1)=none:=by rfl)
  (hs:swapsWithSole [.Tuple elts k tpos] value pos.line env=pure false:=by rfl)
  (hw:swappedStores [.Tuple elts k tpos] value env=pure none:=by rfl) :
  wpAny (model prog w) A (exec (.Assign [.Tuple elts k tpos] value pos) env) Q E s:=by
 refine PyProof.Rows.Assign_Tuple (wpAny_mono h (fun v s₁ p=>?_) fun _ _ x=>x) hs hw
 refine u23 p fun D items z0 ht hn hQ=>?_; clear p; subst z0
 exact wpAny_assign_Tuple hh ht hn hstar fun h' he=>hQ h' fun b o e=>he b o (Nat.ne_of_lt (Heap.lt_size e)) e
theorem asgSw2 {elts k tpos value pos} (x y:Str) {Q:Flow→Shared→Prop} (hh:A.handled=none)
  (h:wpAny (model prog w) A (eval value env) (fun v s₁=>∃ D a b,v=.ref D∧IsTup s₁.heap D #[a,b]∧∀ h',Kp s₁.heap h' →
   wpAny (model prog w) A (storeName env y b) (fun _ s₂=>wpAny (model prog w) A (storeName env x a) (fun _=>Q .next) E s₂) E { s₁ with heap:=h' }) E s)
  (hs:swapsWithSole [.Tuple elts k tpos] value pos.line env=pure false:=by rfl)
  (hw:swappedStores [.Tuple elts k tpos] value env=pure (some [x,y]):=by rfl) :
  wpAny (model prog w) A (exec (.Assign [.Tuple elts k tpos] value pos) env) Q E s:=by
 refine asgSw [x,y] hh (wpAny_mono h (fun v s₁ p=>?_) fun _ _ x=>x) hs hw
 refine u32 p fun D a b z0 ht hQ=>?_; clear p; subst z0
 exact (w23 D _ rfl ht rfl (fun h' hk=>aioC (bindName_ (wpAny_mono (hQ h' hk) (fun _ _ p=>aioC (bindName_ (wpAny_mono p (fun _ _ q=>aioN q) fun _ _ e=>e))) fun _ _ e=>e))))
theorem asgTu2 {x y:Str} {p₁ p₂:Pos} {k tpos value pos} {Q:Flow→Shared→Prop} (hh:A.handled=none)
  (h:wpAny (model prog w) A (eval value env) (fun v s₁=>∃ D a b,v=.ref D∧s₁.heap.IsTuple D #[a,b]∧∀ h',Kp s₁.heap h' →
   wpAny (model prog w) A (storeName env x a) (fun _ s₂=>wpAny (model prog w) A (storeName env y b) (fun _=>Q .next) E s₂) E { s₁ with heap:=h' }) E s)
  (hs:swapsWithSole [.Tuple [.Name x p₁,.Name y p₂] k tpos] value pos.line env=pure false:=by rfl)
  (hw:swappedStores [.Tuple [.Name x p₁,.Name y p₂] k tpos] value env=pure none:=by rfl) :
  wpAny (model prog w) A (exec (.Assign [.Tuple [.Name x p₁,.Name y p₂] k tpos] value pos) env) Q E s:=by
 refine asgTu hh (wpAny_mono h (fun v s₁ p=>?_) fun _ _ x=>x) rfl hs hw
 refine u32 p fun D a b z0 ht hQ=>?_; clear p; subst z0
 exact (w23 D _ rfl ht rfl (fun h' hk=>aioC (PyProof.Rows.assign_Name (wpAny_mono (hQ h' hk) (fun _ _ p=>aioC (PyProof.Rows.assign_Name (wpAny_mono p (fun _ _ q=>aioN q) fun _ _ e=>e))) fun _ _ e=>e))))
theorem asgTu3 {x y z:Str} {p₁ p₂ p₃:Pos} {k tpos value pos} {Q:Flow→Shared→Prop} (hh:A.handled=none)
  (h:wpAny (model prog w) A (eval value env) (fun v s₁=>∃ D a b c,v=.ref D∧s₁.heap.IsTuple D #[a,b,c]∧∀ h',Kp s₁.heap h' →
   wpAny (model prog w) A (storeName env x a) (fun _ s₂=>wpAny (model prog w) A (storeName env y b) (fun _ s₃=>wpAny (model prog w) A (storeName env z c) (fun _=>Q .next) E s₃) E s₂) E { s₁ with heap:=h' }) E s)
  (hs:swapsWithSole [.Tuple [.Name x p₁,.Name y p₂,.Name z p₃] k tpos] value pos.line env=pure false:=by rfl)
  (hw:swappedStores [.Tuple [.Name x p₁,.Name y p₂,.Name z p₃] k tpos] value env=pure none:=by rfl) :
  wpAny (model prog w) A (exec (.Assign [.Tuple [.Name x p₁,.Name y p₂,.Name z p₃] k tpos] value pos) env) Q E s:=by
 refine asgTu hh (wpAny_mono h (fun v s₁ p=>?_) fun _ _ x=>x) rfl hs hw
 refine u42 p fun D a b c z0 ht hQ=>?_; clear p; subst z0
 exact (w23 D _ rfl ht rfl (fun h' hk=>aioC (PyProof.Rows.assign_Name (wpAny_mono (hQ h' hk) (fun _ _ p=>aioC (PyProof.Rows.assign_Name (wpAny_mono p (fun _ _ q=>aioC (PyProof.Rows.assign_Name (wpAny_mono q (fun _ _ r=>aioN r) fun _ _ e=>e))) fun _ _ e=>e))) fun _ _ e=>e))))
end
set_option compiler.extract_closed true in
local macro_rules | `(tactic| walk_at "k")=>return rd "F 1 cInt ? 3 G"
set_option compiler.extract_closed true in
local macro_rules | `(tactic| walk_at "n")=>return rd "F 1 iAdd ? 3 1 iIadd ? 3 1 iSub ? 3 1 iIsub ? 3 1 iNeg ? 3 1 iEq ? 2 1 iNe ? 2 1 P.lt_int ? 2 1 P.gt_int ? 2 1 P.le_int ? 2 1 P.ge_int ? 2 1 aioC ? 2 1 aioN ? 2 5 wpAny _ _ ( bindName _ _ _ ) _ _ _ 6 bindName_ ? 9 5 wpAny _ _ ( assign ( PySem.Expr.Name _ _ ) _ _ ) _ _ _ 6 PyProof.Rows.assign_Name ? 9 G"
structure Dr (prog:Program) (w:World) (A:Around) (g:Heap) (env:Env) (target:Expr) (I:Addr) (fp:List Addr) (n:Nat) (W:Nat→Heap→Prop) (P:Nat→List (Str × Value)→Prop):Prop where
 frame:∀ i h h',W i h→(∀ b∈fp,∀ o,h.get? b=some o→h'.get? b=some o)→W i h'
 item:∀ i (s:Shared) l own (Q:Unit→Shared→Prop) (E:Value→Shared→Prop),i<n→W i s.heap→St g env.locals s.heap l own→(∀ p∈own,p.1∉fp)→env.locals∉fp →
  (∀ b h' tk,P i b→W (i+1) h'→St g env.locals h' (b++l) own→Q () { s with heap:=h',toks:=tk }) →
  wpAny (model prog w) A (pyNext (.ref I)) (fun r s₁=>match r with
   | none=>False
   | some v=>wpAny (model prog w) A (letOwnedTupleGo target (.ref I) v) (fun _ s₁'=>wpAny (model prog w) A (assign target env v) Q E s₁') E s₁) E s
 done:∀ (s:Shared) l own (Q:Shared→Prop) (E:Value→Shared→Prop),W n s.heap→St g env.locals s.heap l own→(∀ p∈own,p.1∉fp)→env.locals∉fp →
  (∀ h' tk,St g env.locals h' l own→Q { s with heap:=h',toks:=tk }) →
  wpAny (model prog w) A (pyNext (.ref I)) (fun r s₁=>match r with | none=>Q s₁ | some _=>False) E s
section
variable {prog:Program} {w:World} {A:Around} {g:Heap} {env:Env} {l:List (Str × Value)} {own:List (Addr × List Value)}
theorem St.but {h h':Heap} {L:Addr} {wr:List Addr} (F:St g L h l own) (hk:∀ b o,b∉wr→h.get? b=some o→h'.get? b=some o) (hg:∀ b∈wr,g.get? b=none) (hL:L∉wr) (ho:∀ p∈own,p.1∉wr) :
  St g L h' l own:=by
 obtain ⟨⟨m,F',hm⟩,kp,gl,ow,nd⟩:=F
 refine ⟨(w11 m (F'.at' fun o e=>hk _ o hL e) hm),fun b o e=>hk b o (fun hb=>by rw [hg b hb] at e; cases e) (kp b o e),gl,fun p hp=>⟨(ow p hp).1,(ow p hp).2.1,(ow p hp).2.2.at fun o e=>hk _ o (ho p hp) e⟩,nd⟩
theorem Dr.name {x:Str} {px:Pos} {I:Addr} {fp wr:List Addr} {n:Nat} {P:Nat→Value→Prop} {W:Nat→Heap→Prop} (K:Walks prog w A I fp wr n P W) (hwr:∀ b∈wr,g.get? b=none)
  (hx:env.kindOf x=some .local) (hp:(env.scope.kind == .class || (env.scope.kind == .module && env.locals != env.globals))=false) :
  Dr prog w A g env (.Name x px) I fp n W (fun i b=>∃ v,P i v∧b=[(x,v)]) where
 frame:=K.frame
 item:=fun i s l own Q E hi hW F hof hL hQ=>by
  refine K.item i s _ E hi hW fun v h' tk hv hW' hk=>?_
  have F':St g env.locals h' l own:=F.but hk hwr (fun h=>hL (K.sub _ h)) fun p hp h=>hof p hp (K.sub _ h)
  refine wpAny_of_eq (a:=()) (by rfl) ?_
  refine PyProof.Rows.assign_Name ?_
  refine u11 F'.fl fun m hn hm=>?_
  refine wpAny_storeName_local hx hn (fun h₂ hn₂ hs₂=>?_) hp
  refine hQ [(x,v)] h₂ _ (w11 v hv rfl) (K.frame _ _ _ hW' fun b hb o e=>hs₂.extBut b o (fun q=>hL (q▸hb)) e) (F'.store hs₂ fun m' hm'=>?_)
  have:m'=m:=by
   refine u33 hn fun o es ep h1 h2 h3 h4=>?_; clear hn
   refine u33 hm' fun o' es' ep' h1' h2' h3' h4'=>?_; clear hm'
   have q1:o=o':=Option.some.inj (h1.symm.trans h1')
   subst q1
   rw [h2] at h2'; cases h2'
   funext y
   rw [← h4 y,← h4' y]
  subst this
  exact hn₂
 done:=fun s l own Q E hW F hof hL hQ=>by
  refine K.done s _ E hW fun h' tk hk=>hQ h' tk ?_
  exact F.but hk hwr (fun h=>hL (K.sub _ h)) fun p hp h=>hof p hp (K.sub _ h)
theorem Dr.two {x y:Str} {px py pt:Pos} {k:Nat} {I:Addr} {fp wr:List Addr} {n:Nat} {Pt:Nat→Array Value→Prop} {W:Nat→Heap→Prop} {Mid:Nat→Addr→Heap→Prop} (hh:A.handled=none)
  (K:WalksT prog w A I fp wr n Pt W Mid) (P2:Nat→Value→Value→Prop) (h2:∀ i vals,Pt i vals→∃ v0 v1,vals=#[v0,v1]∧P2 i v0 v1) (hwr:∀ b∈wr,g.get? b=none)
  (hx:env.kindOf x=some .local) (hy:env.kindOf y=some .local) (hp:(env.scope.kind == .class || (env.scope.kind == .module && env.locals != env.globals))=false) :
  Dr prog w A g env (.Tuple [.Name x px,.Name y py] k pt) I fp n W (fun i b=>∃ v u,P2 i v u∧b=[(y,u),(x,v)]) where
 frame:=K.frame
 item:=fun i s l own Q E hi hW F hof hL hQ=>by
  refine K.item i s _ E hi hW fun T vals h₁ tk₁ hPt _ hT hMid hk₁=>?_
  refine u21 (h2 i vals hPt) fun v0 v1 z0 hP2=>?_; subst z0
  have hLw:env.locals∉wr:=fun h=>hL (K.sub _ h)
  have how:∀ p∈own,p.1∉wr:=fun p hp h=>hof p hp (K.sub _ h)
  have F₁:=F.but hk₁ hwr hLw how
  refine K.go _ k pt i T _ _ _ hMid fun h₂ hW₂ hk₂=>?_
  have F₂:St g env.locals h₂ l own:=F₁.but hk₂ hwr hLw how
  have ht₂:h₂.IsTuple T #[v0,v1]:=hT.at fun o e=>hk₂ T o (K.apart i T h₁ hMid) e
  refine wpAny_assign_Tuple hh ht₂ rfl rfl fun h₃ hx₃=>?_
  have up₃:∀ b o,h₂.get? b=some o→h₃.get? b=some o:=fun b o x=>hx₃ b o (Nat.ne_of_lt (Heap.lt_size x)) x
  have F₃:=F₂.keeps up₃
  have one:∀ {z:Str} {pz:Pos} {v:Value} {h:Heap} {l:List (Str × Value)} {s':Shared} {Q:Unit→Shared→Prop},env.kindOf z=some .local→St g env.locals s'.heap l own →
    (∀ h',St g env.locals h' ((z,v)::l) own→Heap.SameBut env.locals s'.heap h'→Q () { s' with heap:=h',toks:=s'.toks+1 }) →
    wpAny (model prog w) A (assign (.Name z pz) env v) Q E s':=by
   intro z pz v h l s' Q hz F hQ
   refine PyProof.Rows.assign_Name ?_
   refine u11 F.fl fun m hn hm=>?_
   refine wpAny_storeName_local hz hn (fun h₂ hn₂ hs₂=>hQ h₂ (F.store hs₂ fun m' hm'=>?_) hs₂) hp
   have:m'=m:=by
    refine u33 hn fun o es ep h1 h2 h3 h4=>?_; clear hn
    refine u33 hm' fun o' es' ep' h1' h2' h3' h4'=>?_; clear hm'
    have q1:o=o':=Option.some.inj (h1.symm.trans h1')
    subst q1
    rw [h2] at h2'; cases h2'
    funext y
    rw [← h4 y,← h4' y]
   subst this
   exact hn₂
  show wpAny _ A (do holding [v1] (assign (.Name x px) env v0); do holding [] (assign (.Name y py) env v1); pure ()) _ _ _
  refine wpAny_bind (wpAny_holding (one (h:=h₃) hx F₃ fun h₄ F₄ hs₄=>?_))
  refine wpAny_bind (wpAny_holding (one (h:=h₃) hy F₄ fun h₅ F₅ hs₅=>wpAny_pure ?_))
  exact hQ _ h₅ _ (w21 v0 v1 hP2 rfl) (K.frame _ _ _ hW₂ fun b hb o e=>hs₅.extBut b o (fun q=>hL (q▸hb)) (hs₄.extBut b o (fun q=>hL (q▸hb)) (up₃ b o e))) F₅
 done:=fun s l own Q E hW F hof hL hQ=>by
  refine K.done s _ E hW fun h' tk hk=>hQ h' tk ?_
  exact F.but hk hwr (fun h=>hL (K.sub _ h)) fun p hp h=>hof p hp (K.sub _ h)
theorem St.rebaseH {h:Heap} {L:Addr} (F:St g L h l own) (hid:List Addr) (hg:∀ b∈hid,g.get? b=none):∃ g':Heap,Kp g g'∧Kp g' h ∧
  (∀ b o,b≠L→(∀ p∈own,b≠p.1)→b∉hid→h.get? b=some o→g'.get? b=some o)∧(∀ b∈hid,g'.get? b=none)∧St g' L h l own:=by
 refine (w14 (hideAll h (L::own.map (·.1)++hid)) (fun b o e=>hideAll_get _ (F.keep b o e) ?_) (fun b o e=>of_hideAll _ e) (fun b o h1 h2 h3 e=>hideAll_get _ e ?_) (fun b hb=>hideAll_none _ (List.mem_append_right _ hb)) ⟨F.fl,fun b o e=>of_hideAll _ e,hideAll_none _ (List.mem_append_left _ (List.Mem.head _)),fun p hp=>⟨hideAll_none _ (List.mem_append_left _ (List.Mem.tail _ (List.mem_map_of_mem hp))),(F.ow p hp).2⟩,F.nd⟩)
 ·intro hm
  rcases List.mem_append.mp hm with hm | hm
  ·rcases List.mem_cons.mp hm with rfl | hm
   ·rw [F.gL] at e; cases e
   ·refine u11 (List.mem_map.mp hm) fun p hp q=>?_
    rw [← q,(F.ow p hp).1] at e; cases e
  ·rw [hg b hm] at e; cases e
 ·intro hm
  rcases List.mem_append.mp hm with hm | hm
  ·rcases List.mem_cons.mp hm with rfl | hm
   ·exact h1 rfl
   ·refine u11 (List.mem_map.mp hm) fun p hp q=>?_
    exact h2 p hp q.symm
  ·exact h3 hm
theorem St.base {g' h:Heap} {L:Addr} (F:St g' L h l own) (k:Kp g g'):St g L h l own:=by
 obtain ⟨fl,kp,gl,ow,nd⟩:=F
 have un:∀ b,g'.get? b=none→g.get? b=none:=fun b e=>by
  cases e':g.get? b with
  | none=>rfl
  | some o=>rw [k b o e'] at e; cases e
 exact ⟨fl,fun b o e=>kp b o (k b o e),un _ gl,fun p hp=>⟨un _ (ow p hp).1,(ow p hp).2⟩,nd⟩
theorem forH {target:Expr} {body:List Stmt} {I:Addr} {fp hid:List Addr} {n:Nat} {W:Nat→Heap→Prop} {P:Nat→List (Str × Value)→Prop} {R:Result→Shared→Prop} {s:Shared}
  (Inv:Nat→List (Str × Value)→List (Addr × List Value)→Prop) (Brk:List (Str × Value)→List (Addr × List Value)→Prop) (Z:Shared→Prop)
  (D:Dr prog w A g env target I fp n W P) (F:St g env.locals s.heap l own) (hW:W 0 s.heap) (hof:∀ p∈own,p.1∉fp) (hL:env.locals∉fp) (hfh:∀ b∈fp,b∉hid) (hg:∀ b∈hid,g.get? b=none)
  (h0:Inv 0 l own) (hZ:Z s) (hZk:∀ s h tk,Z s→Z { s with heap:=h,toks:=tk })
  (turn:∀ i b l₁ own₁ g' s₁ E',i<n→P i b→Inv i l₁ own₁→Kp g g'→(∀ b∈hid,g'.get? b=none)→St g' env.locals s₁.heap (b++l₁) own₁→Z s₁ →
   wpAny (model prog w) A (execs body env) (fun f s₂=>match f with
    | .next | .cont=>Z s₂∧∃ l₂ own₂,Inv (i+1) l₂ own₂∧own₂.map (·.1)=own₁.map (·.1)∧St g' env.locals s₂.heap l₂ own₂
    | .brk=>Z s₂∧∃ l₂ own₂,Brk l₂ own₂∧St g' env.locals s₂.heap l₂ own₂
    | .ret v=>R (.ok (.ret v)) s₂) E' s₁)
  (fin:∀ l₁ own₁ s₁,(Inv n l₁ own₁∨Brk l₁ own₁)→St g env.locals s₁.heap l₁ own₁→Z s₁→R (.ok .next) s₁) :
  codeAny (model prog w) A (.forLoop target (.ref I) body [] env) R s:=by
 let J:Nat→Shared→Prop:=fun k s'=>∃ i l₁ own₁,k=n-i∧i≤n∧W i s'.heap∧St g env.locals s'.heap l₁ own₁∧own₁.map (·.1)=own.map (·.1)∧Inv i l₁ own₁∧Z s'
 refine codeAny_forLoop_any J ?_ n (w36 0 l own rfl (Nat.zero_le _) hW F rfl h0 hZ)
 intro k s' y0; refine u36 y0 fun i l₁ own₁ z0 hi hW' F' hown hInv hZ'=>?_; clear y0; subst z0
 have hof':∀ p∈own₁,p.1∉fp:=fun p hp=>by
  have:p.1∈own.map (·.1):=hown▸List.mem_map_of_mem hp
  refine u11 (List.mem_map.mp this) fun q hq e=>?_
  exact e▸hof q hq
 by_cases hlt:i<n
 ·refine wpAny_mono (D.item i s' l₁ own₁ (fun _ s₂=>wpAny (model prog w) A (execs body env) (fun f s₃=>match f with
      | .next | .cont=>∃ m,m<n-i∧J m s₃
      | .brk=>R (.ok .next) s₃
      | .ret v=>R (.ok (.ret v)) s₃) (notedBy (model prog w) A env fun e s'=>R (.error e) s') s₂) (notedBy (model prog w) A env fun e s'=>R (.error e) s') hlt hW' F' hof' hL ?hq) (fun r s₁ h=>?_) fun _ _ e=>e
  case hq =>
   intro b h' tk hP hW₁ F₁
   refine u14 (F₁.rebaseH hid hg) fun g' k1 k2 k3 k4 F₂=>?_
   refine wpAny_mono (turn i b l₁ own₁ g' { s' with heap:=h',toks:=tk } _ hlt hP hInv k1 k4 F₂ (hZk _ _ _ hZ')) (fun f s₂ p=>?_) fun _ _ e=>e
   have go:(Z s₂∧∃ l₂ own₂,Inv (i+1) l₂ own₂∧own₂.map (·.1)=own₁.map (·.1)∧St g' env.locals s₂.heap l₂ own₂) →
     ∃ m,m<n-i∧J m s₂:=by
    rintro ⟨z,l₂,own₂,hI,ho,F₃⟩
    refine (w11 (n-(i+1)) (by exact q2 0x8029c400a00a6443000111a 1 21810 (by kernel_rfl) hlt) ⟨i+1,l₂,own₂,rfl,hlt,D.frame _ _ _ hW₁ ?_,F₃.base k1,ho.trans hown,hI,z⟩)
    intro b hb o e
    exact F₃.keep b o (k3 b o (fun q=>hL (q▸hb)) (fun p hp q=>hof' p hp (q▸hb)) (hfh b hb) e)
   cases f with
   | next=>exact go p
   | cont=>exact go p
   | brk=>obtain ⟨z,l₂,own₂,hB,F₃⟩:=p; exact fin _ _ _ (.inr hB) (F₃.base k1) z
   | ret v=>exact p
  cases r with
  | none=>exact h.elim
  | some v=>exact h
 ·have hin:i=n:=by exact q2 0x4000a000302b5000011a 1 46 (by kernel_rfl) hi hlt
  subst hin
  refine wpAny_mono (D.done s' l₁ own₁ (fun s₁=>R (.ok .next) s₁) _ hW' F' hof' hL fun h' tk F₁=>fin _ _ _ (.inl hInv) F₁ (hZk _ _ _ hZ')) (fun r s₁ h=>?_) fun _ _ e=>e
  cases r with
  | none=>exact wpAny_execs_nil h
  | some v=>exact h.elim
noncomputable abbrev TurnOZ (g:Heap) (L:Addr) (O:List (Str × Value)→List (Addr × List Value)→Prop) (Z:Shared→Prop) (s₂:Shared):Prop :=
 Z s₂∧∃ l₂ own₂,O l₂ own₂∧St g L s₂.heap l₂ own₂
noncomputable abbrev TurnWZ (g:Heap) (L:Addr) (R:Result→Shared→Prop) (Inv:Nat→List (Str × Value)→List (Addr × List Value)→Prop) (O:List (Str × Value)→List (Addr × List Value)→Prop) (Z:Shared→Prop) (k:Nat) (f:Flow) (s₃:Shared):Prop :=
 match f with
 | .next | .cont=>Z s₃∧∃ m l₂ own₂,m<k∧Inv m l₂ own₂∧St g L s₃.heap l₂ own₂
 | .brk=>TurnOZ g L O Z s₃
 | .ret v=>R (.ok (.ret v)) s₃
theorem TurnWZ.go {g:Heap} {L:Addr} {R:Result→Shared→Prop} {Inv:Nat→List (Str × Value)→List (Addr × List Value)→Prop} {O:List (Str × Value)→List (Addr × List Value)→Prop} {Z:Shared→Prop} {k:Nat} {Q:Flow→Shared→Prop} {s₃:Shared} {l₂:List (Str × Value)} {own₂:List (Addr × List Value)}
  (h:OutL Q (TurnWZ g L R Inv O Z k)) (z:Z s₃) (m:Nat) (hm:m<k) (hI:Inv m l₂ own₂) (F:St g L s₃.heap l₂ own₂):Q .next s₃:=h.go _ _ ⟨z,m,l₂,own₂,hm,hI,F⟩
theorem TurnWZ.brk {g:Heap} {L:Addr} {R:Result→Shared→Prop} {Inv:Nat→List (Str × Value)→List (Addr × List Value)→Prop} {O:List (Str × Value)→List (Addr × List Value)→Prop} {Z:Shared→Prop} {k:Nat} {Q:Flow→Shared→Prop} {s₃:Shared} {l₂:List (Str × Value)} {own₂:List (Addr × List Value)}
  (h:OutL Q (TurnWZ g L R Inv O Z k)) (z:Z s₃) (hO:O l₂ own₂) (F:St g L s₃.heap l₂ own₂):Q .brk s₃:=h.go _ _ ⟨z,l₂,own₂,hO,F⟩
theorem TurnOZ.go {g:Heap} {L:Addr} {O:List (Str × Value)→List (Addr × List Value)→Prop} {Z:Shared→Prop} {Q:Shared→Prop} {s₃:Shared} {l₂:List (Str × Value)} {own₂:List (Addr × List Value)}
  (h:OutS Q (TurnOZ g L O Z)) (z:Z s₃) (hO:O l₂ own₂) (F:St g L s₃.heap l₂ own₂):Q s₃:=h.go _ ⟨z,l₂,own₂,hO,F⟩
theorem whileH {test:Expr} {body:List Stmt} {R:Result→Shared→Prop} {s:Shared} (n:Nat)
  (Inv:Nat→List (Str × Value)→List (Addr × List Value)→Prop) (Out:List (Str × Value)→List (Addr × List Value)→Prop) (Z:Shared→Prop)
  (F:St g env.locals s.heap l own) (h0:Inv n l own) (hZ:Z s)
  (turn:∀ k l₁ own₁ s₁ E' Qt Qo,OutL Qt (TurnWZ g env.locals R Inv Out Z k)→OutS Qo (TurnOZ g env.locals Out Z)→Inv k l₁ own₁→St g env.locals s₁.heap l₁ own₁→Z s₁ →
   wpAny (model prog w) A (isTrue test env (eval test env)) (fun b s₂ =>
    if b then wpAny (model prog w) A (execs body env) Qt E' s₂ else Qo s₂) E' s₁)
  (fin:∀ l₁ own₁ s₁,Out l₁ own₁→St g env.locals s₁.heap l₁ own₁→Z s₁→R (.ok .next) s₁) :
  codeAny (model prog w) A (.whileLoop test body [] env) R s:=by
 refine codeAny_whileLoop (fun k s'=>∃ l₁ own₁,Inv k l₁ own₁∧St g env.locals s'.heap l₁ own₁∧Z s') ?_ n (w22 l own h0 F hZ)
 intro k s' y0; refine u22 y0 fun l₁ own₁ hI F' hZ'=>?_; clear y0
 refine wpAny_mono (turn k l₁ own₁ s' _ _ _ .same .same hI F' hZ') (fun b s₂ p=>?_) fun _ _ e=>e
 cases b with
 | true =>
  rw [if_pos rfl] at p ⊢
  refine wpAny_mono p (fun f s₃ q=>?_) fun _ _ e=>e
  cases f with
  | next=>obtain ⟨z,m,l₂,own₂,hm,hI₂,F₂⟩:=q; exact (w11 m hm ⟨l₂,own₂,hI₂,F₂,z⟩)
  | cont=>obtain ⟨z,m,l₂,own₂,hm,hI₂,F₂⟩:=q; exact (w11 m hm ⟨l₂,own₂,hI₂,F₂,z⟩)
  | brk=>obtain ⟨z,l₂,own₂,hO,F₂⟩:=q; exact fin _ _ _ hO F₂ z
  | ret v=>exact q
 | false =>
  rw [if_neg Bool.false_ne_true] at p ⊢
  obtain ⟨z,l₂,own₂,hO,F₂⟩:=p
  exact wpAny_execs_nil (fin _ _ _ hO F₂ z)
end
set_option compiler.extract_closed true in
local macro_rules | `(tactic| walk_at "n")=>return rd "F 5 TurnWZ _ _ _ _ _ _ _ _ _ 8 TurnWZ 0 G"
noncomputable abbrev Clean (s s':Shared):Prop:=∃ h tk,s'={ s with heap:=h,toks:=tk }
theorem Clean.mk {s:Shared} {h:Heap} {tk:Nat}:Clean s { s with heap:=h,toks:=tk }:=(w20 h tk rfl)
theorem Clean.trans {a b c:Shared} (x:Clean a b) (y:Clean b c):Clean a c:=by
 refine u20 x fun h tk z0=>?_; clear x; subst z0
 refine u20 y fun h' tk' z0=>?_; clear y; subst z0
 exact (w20 h' tk' rfl)
section
variable {prog:Program} {w:World} {A:Around} {E:Value→Shared→Prop} {g:Heap} {name:Str} {scope:Scope} {L f:Addr} {cd:Value} {cl:List (Str × Addr)} {l:List (Str × Value)} {own:List (Addr × List Value)} {s:Shared} {R:Result→Shared→Prop} {body:List Stmt}
noncomputable abbrev Turn (g':Heap) (L:Addr) (R:Result→Shared→Prop) (J:List (Str × Value)→List (Addr × List Value)→Prop) (B:List (Str × Value)→List (Addr × List Value)→Prop) (as:List Addr) (s:Shared) (f:Flow) (s₂:Shared):Prop :=
 match f with
 | .next | .cont=>∃ h tk,s₂={ s with heap:=h,toks:=tk }∧∃ l₂ own₂,J l₂ own₂∧own₂.map (·.1)=as∧St g' L h l₂ own₂
 | .brk=>∃ h tk,s₂={ s with heap:=h,toks:=tk }∧∃ l₂ own₂,B l₂ own₂∧St g' L h l₂ own₂
 | .ret v=>R (.ok (.ret v)) s₂
section
variable {g':Heap} {L:Addr} {R:Result→Shared→Prop} {J B:List (Str × Value)→List (Addr × List Value)→Prop} {as:List Addr} {s:Shared} {Q:Flow→Shared→Prop} {h:Heap} {tk:Nat} {l₂:List (Str × Value)} {own₂:List (Addr × List Value)} {s':Shared}
theorem Turn.go (hQ:OutL Q (Turn g' L R J B as s)) (hJ:J l₂ own₂) (F:St g' L h l₂ own₂) (ho:own₂.map (·.1)=as:=by rfl) (hs:s'={ s with heap:=h,toks:=tk }:=by rfl):Q .next s':=hQ.go _ _ (w21 h tk hs ⟨l₂,own₂,hJ,ho,F⟩)
theorem Turn.cont (hQ:OutL Q (Turn g' L R J B as s)) (hJ:J l₂ own₂) (F:St g' L h l₂ own₂) (ho:own₂.map (·.1)=as:=by rfl) (hs:s'={ s with heap:=h,toks:=tk }:=by rfl):Q .cont s':=hQ.go _ _ (w21 h tk hs ⟨l₂,own₂,hJ,ho,F⟩)
theorem Turn.brk (hQ:OutL Q (Turn g' L R J B as s)) (hB:B l₂ own₂) (F:St g' L h l₂ own₂) (hs:s'={ s with heap:=h,toks:=tk }:=by rfl):Q .brk s':=hQ.go _ _ (w21 h tk hs ⟨l₂,own₂,hB,F⟩)
end
theorem forC {target:Expr} {I:Addr} {fp:List Addr} {n:Nat} {W:Nat→Heap→Prop} {P:Nat→List (Str × Value)→Prop}
  (Inv:Nat→List (Str × Value)→List (Addr × List Value)→Prop) (Brk:List (Str × Value)→List (Addr × List Value)→Prop)
  (D:Dr prog w A g (envX name scope L f cd cl) target I fp n W P) (F:St g L s.heap l own) (hW:W 0 s.heap) (hof:∀ p∈own,p.1∉fp) (hL:L∉fp) (h0:Inv 0 l own)
  (turn:∀ i b l₁ own₁ g' h tk E',i<n→P i b→Inv i l₁ own₁→Kp g g'→St g' L h (b++l₁) own₁ →
   wpAny (model prog w) A (execs body (envX name scope L f cd cl)) (Turn g' L R (Inv (i+1)) Brk (own₁.map (·.1)) s) E' { s with heap:=h,toks:=tk })
  (fin:∀ l₁ own₁ h tk,Inv n l₁ own₁∨Brk l₁ own₁→St g L h l₁ own₁→R (.ok .next) { s with heap:=h,toks:=tk }) :
  codeAny (model prog w) A (.forLoop target (.ref I) body [] (envX name scope L f cd cl)) R s:=by
 refine forH (hid:=[]) Inv Brk (Clean s) D F hW hof hL (fun _ _ h=>nomatch h) (fun _ h=>nomatch h) h0 (w20 _ _ rfl) (fun s' h tk z=>z.trans .mk) ?_ ?_
 ·intro i b l₁ own₁ g' _ E' hi hP hI k _ F₁ y0; refine u20 y0 fun h tk z0=>?_; clear y0; subst z0
  refine wpAny_mono (turn i b l₁ own₁ g' h tk E' hi hP hI k F₁) (fun fl s₂ p=>?_) fun _ _ e=>e
  cases fl with
  | next=>(refine u21 p fun h tk z0 z1=>?_; clear p; subst z0; refine u22 z1 fun l₂ own₂ hJ ho F₂=>?_; clear z1); exact ⟨(w20 _ _ rfl),l₂,own₂,hJ,ho,F₂⟩
  | cont=>(refine u21 p fun h tk z0 z1=>?_; clear p; subst z0; refine u22 z1 fun l₂ own₂ hJ ho F₂=>?_; clear z1); exact ⟨(w20 _ _ rfl),l₂,own₂,hJ,ho,F₂⟩
  | brk=>(refine u21 p fun h tk z0 z1=>?_; clear p; subst z0; refine u21 z1 fun l₂ own₂ hJ F₂=>?_; clear z1); exact ⟨(w20 _ _ rfl),l₂,own₂,hJ,F₂⟩
  | ret v=>exact p
 ·intro l₁ own₁ _ hI F₁ y0; refine u20 y0 fun h tk z0=>?_; clear y0; subst z0
  exact fin l₁ own₁ h tk hI F₁
theorem listL {h:Heap} {D:Addr} {vs:Array Value} (F:St g L h l own) (hl:g.IsList D vs):h.IsList D vs∧D<h.objs.size∧D≠L∧∀ p∈own,p.1≠D:=by
 refine u11 hl fun o ho r=>?_; clear hl
 have ho':=F.keep _ _ ho
 refine ⟨(w11 o ho' r),Heap.lt_size ho',?_,?_⟩
 ·rintro rfl; rw [F.gL] at ho; cases ho
 ·rintro p hp rfl; rw [(F.ow p hp).1] at ho; cases ho
theorem noI {h:Heap} {I:Addr} (F:St g L h l own) (hI:h.get? I=none):g.get? I=none∧I≠L∧∀ p∈own,p.1≠I:=by
 refine ⟨?_,?_,?_⟩
 ·cases e:g.get? I with
  | none=>rfl
  | some o=>rw [F.keep _ _ e] at hI; cases hI
 ·rintro rfl
  obtain ⟨_,F',_⟩:=F.fl
  refine u31 F' fun o _ _ ho _=>?_; clear F'
  rw [hI] at ho; cases ho
 ·rintro p hp rfl
  obtain ⟨n,hn⟩:=(F.ow p hp).2.2
  rw [hI] at hn; cases hn
theorem itL {x:Str} {px:Pos} {D:Addr} {vs:List Value}
  (Inv:Nat→List (Str × Value)→List (Addr × List Value)→Prop) (Brk:List (Str × Value)→List (Addr × List Value)→Prop)
  (hh:A.handled=none) (F:St g L s.heap l own) (hl:g.IsList D vs.toArray) (h0:Inv 0 l own)
  (turn:∀ i v l₁ own₁ g' h tk E' Qt,OutL Qt (Turn g' L R (Inv (i+1)) Brk (own₁.map (·.1)) s)→vs[i]?=some v→Inv i l₁ own₁→Kp g g'→St g' L h ((x,v)::l₁) own₁ →
   wpAny (model prog w) A (execs body (envX name scope L f cd cl)) Qt E' { s with heap:=h,toks:=tk })
  (fin:∀ l₁ own₁ h tk,Inv vs.length l₁ own₁∨Brk l₁ own₁→St g L h l₁ own₁→R (.ok .next) { s with heap:=h,toks:=tk })
  (hk:scope.kind=.function:=by rfl) (hx:(envX name scope L f cd cl).kindOf x=some .local:=by rfl) :
  wpAny (model prog w) A (pyIter (.ref D)) (fun it s₂=>codeAny (model prog w) A (.forLoop (.Name x px) it body [] (envX name scope L f cd cl)) R s₂) E s:=by
 refine u03 (listL F hl) fun hls hlt hDL hDo=>?_
 refine wpAny_pyIter_list hls ?_
 have hn:s.heap.get? s.heap.objs.size=none:=Heap.get?_none_of_le (Nat.le_refl _)
 refine u02 (noI F hn) fun n1 n2 n3=>?_
 have F':=F.keeps (h':=s.heap.push { cls:=.type "list_iterator", data:=.fields #[.ref D,.int 0 0] }) fun b o e=>Heap.get?_push_of_some _ e
 have W:=Walks.list (prog:=prog) (w:=w) hh s.heap.objs.size D (Nat.ne_of_lt hlt) vs.toArray
 refine forC (s:={ s with heap:=s.heap.push { cls:=.type "list_iterator", data:=.fields #[.ref D,.int 0 0] } }) Inv Brk
  (Dr.name W (fun b hb=>by rw [List.mem_singleton.mp hb]; exact n1) hx (by show (scope.kind == .class || (scope.kind == .module && L != mainGlobals))=false; rw [hk]; rfl)) F'
  ⟨(w12 _ (Heap.get?_push_size _ rfl) rfl rfl),hls.at fun o e=>Heap.get?_push_of_some _ e⟩ ?_ ?_ h0 ?_ ?_
 ·intro p hp hm
  rcases List.mem_cons.mp hm with e | hm
  ·exact n3 p hp e
  ·exact hDo p hp (List.mem_singleton.mp hm)
 ·intro hm
  rcases List.mem_cons.mp hm with e | hm
  ·exact n2 e.symm
  ·exact hDL (List.mem_singleton.mp hm).symm
 ·intro i _ l₁ own₁ g' h tk E' hi y0; refine u11 y0 fun v hv z0=>?_; clear y0; subst z0; intro hI k F₁
  exact turn i v l₁ own₁ g' h tk E' _ .same (by simpa using hv) hI k F₁
 ·intro l₁ own₁ h tk hI F₁
  exact fin l₁ own₁ h tk (by simpa using hI) F₁
theorem itT {x:Str} {px:Pos} {D:Addr} {vs:List Value}
  (Inv:Nat→List (Str × Value)→List (Addr × List Value)→Prop) (Brk:List (Str × Value)→List (Addr × List Value)→Prop)
  (hh:A.handled=none) (F:St g L s.heap l own) (hl:g.IsTuple D vs.toArray) (h0:Inv 0 l own)
  (turn:∀ i v l₁ own₁ g' h tk E' Qt,OutL Qt (Turn g' L R (Inv (i+1)) Brk (own₁.map (·.1)) s)→vs[i]?=some v→Inv i l₁ own₁→Kp g g'→St g' L h ((x,v)::l₁) own₁ →
   wpAny (model prog w) A (execs body (envX name scope L f cd cl)) Qt E' { s with heap:=h,toks:=tk })
  (fin:∀ l₁ own₁ h tk,Inv vs.length l₁ own₁∨Brk l₁ own₁→St g L h l₁ own₁→R (.ok .next) { s with heap:=h,toks:=tk })
  (hk:scope.kind=.function:=by rfl) (hx:(envX name scope L f cd cl).kindOf x=some .local:=by rfl) :
  wpAny (model prog w) A (pyIter (.ref D)) (fun it s₂=>codeAny (model prog w) A (.forLoop (.Name x px) it body [] (envX name scope L f cd cl)) R s₂) E s:=by
 refine u11 (id hl) fun o ho r=>?_
 have ho':=F.keep _ _ ho
 have hls:s.heap.IsTuple D vs.toArray:=(w11 o ho' r)
 have hlt:=Heap.lt_size ho'
 have hDL:D≠L:=by rintro rfl; rw [F.gL] at ho; cases ho
 have hDo:∀ p∈own,p.1≠D:=by rintro p hp rfl; rw [(F.ow p hp).1] at ho; cases ho
 refine wpAny_pyIter_tuple hls ?_
 have hn:s.heap.get? s.heap.objs.size=none:=Heap.get?_none_of_le (Nat.le_refl _)
 refine u02 (noI F hn) fun n1 n2 n3=>?_
 have F':=F.keeps (h':=s.heap.push { cls:=.type "tuple_iterator", data:=.fields #[.ref D,.int 0 0] }) fun b o e=>Heap.get?_push_of_some _ e
 have W:=Walks.tuple (prog:=prog) (w:=w) hh s.heap.objs.size D (Nat.ne_of_lt hlt) vs.toArray
 refine forC (s:={ s with heap:=s.heap.push { cls:=.type "tuple_iterator", data:=.fields #[.ref D,.int 0 0] } }) Inv Brk
  (Dr.name W (fun b hb=>by rw [List.mem_singleton.mp hb]; exact n1) hx (by show (scope.kind == .class || (scope.kind == .module && L != mainGlobals))=false; rw [hk]; rfl)) F'
  ⟨(w12 _ (Heap.get?_push_size _ rfl) rfl rfl),hls.at fun o e=>Heap.get?_push_of_some _ e⟩ ?_ ?_ h0 ?_ ?_
 ·intro p hp hm
  rcases List.mem_cons.mp hm with e | hm
  ·exact n3 p hp e
  ·exact hDo p hp (List.mem_singleton.mp hm)
 ·intro hm
  rcases List.mem_cons.mp hm with e | hm
  ·exact n2 e.symm
  ·exact hDL (List.mem_singleton.mp hm).symm
 ·intro i _ l₁ own₁ g' h tk E' hi y0; refine u11 y0 fun v hv z0=>?_; clear y0; subst z0; intro hI k F₁
  exact turn i v l₁ own₁ g' h tk E' _ .same (by simpa using hv) hI k F₁
 ·intro l₁ own₁ h tk hI F₁
  exact fin l₁ own₁ h tk (by simpa using hI) F₁
theorem itR {x:Str} {px:Pos} {n:Nat} {k:Int} {u:Tok} (ek:k=(n:Int)) (hn:n<2 ^ 31)
  (Inv:Nat→List (Str × Value)→List (Addr × List Value)→Prop) (Brk:List (Str × Value)→List (Addr × List Value)→Prop)
  (hh:A.handled=none) (F:St g L s.heap l own) (h0:Inv 0 l own)
  (turn:∀ i t l₁ own₁ g' h tk E' Qt,OutL Qt (Turn g' L R (Inv (i+1)) Brk (own₁.map (·.1)) s)→i<n→Inv i l₁ own₁→Kp g g'→St g' L h ((x,.int i t)::l₁) own₁ →
   wpAny (model prog w) A (execs body (envX name scope L f cd cl)) Qt E' { s with heap:=h,toks:=tk })
  (fin:∀ l₁ own₁ h tk,Inv n l₁ own₁∨Brk l₁ own₁→St g L h l₁ own₁→R (.ok .next) { s with heap:=h,toks:=tk })
  (hk:scope.kind=.function:=by rfl) (hx:(envX name scope L f cd cl).kindOf x=some .local:=by rfl) :
  wpAny (model prog w) A (call (.type "range") [.int k u]) (fun v s₁=>wpAny (model prog w) A (pyIter v) (fun it s₂=>codeAny (model prog w) A (.forLoop (.Name x px) it body [] (envX name scope L f cd cl)) R s₂) E s₁) E s:=by
 subst ek
 refine call_range_1 ?_
 have hrs:Builtin.Range.rangeSize 0 (n:Int) 1=(n:Int):=by
  unfold Builtin.Range.rangeSize
  rcases Nat.eq_zero_or_pos n with e | e
  ·subst e; rfl
  ·simp; exact q1 0x202b0020da 1 53 (by kernel_rfl)
 have hsm:Builtin.Range.small 0 (n:Int) 1=true:=by
  unfold Builtin.Range.small
  rw [if_pos (by decide:(1:Int)>0),hrs]
  unfold Builtin.Range.rangeFitsLong
  simp -iota only [decide_eq_true_eq,Bool.and_eq_true,Bool.or_eq_true]
  refine ⟨?_,.inr ?_⟩ <;> (first | exact q1 0x7f012c620a6004449188298017f012b0c1a337e0280011fa 1 14 (by kernel_rfl) hn | lia)
 generalize hH:s.heap.push { cls:=.type "range", data:=.fields #[.int 0 s.toks,.int n u,.int 1 (s.toks+1)] }=H1
 have k1:Kp s.heap H1:=fun b o e=>hH▸Heap.get?_push_of_some _ e
 have F1:=F.keeps k1
 refine wpAny_pyIter_range (hH▸IsRange.new ..) hsm ?_
 rw [hrs]
 have hnn:H1.get? H1.objs.size=none:=Heap.get?_none_of_le (Nat.le_refl _)
 refine u02 (noI F1 hnn) fun n1 n2 n3=>?_
 have F':=F1.keeps (h':=H1.push { cls:=.type "range_iterator", data:=.fields #[rawInt 0,rawInt n,rawInt 1] }) fun b o e=>Heap.get?_push_of_some _ e
 have W:=Walks.range (prog:=prog) (w:=w) hh H1.objs.size 0 1 n
 refine forC (s:={ s with heap:=H1.push { cls:=.type "range_iterator", data:=.fields #[rawInt 0,rawInt n,rawInt 1] },toks:=s.toks+1+1 }) Inv Brk
  (Dr.name W (fun b hb=>by rw [List.mem_singleton.mp hb]; exact n1) hx (by show (scope.kind == .class || (scope.kind == .module && L != mainGlobals))=false; rw [hk]; rfl)) F'
  ?_ ?_ ?_ h0 ?_ ?_
 ·show IsRangeIter _ _ _ _ _
  simpa using Heap.get?_push_size H1 (o:={ cls:=.type "range_iterator", data:=.fields #[rawInt 0,rawInt n,rawInt 1] }) rfl
 ·intro p hp hm
  exact n3 p hp (List.mem_singleton.mp hm)
 ·intro hm
  exact n2 (List.mem_singleton.mp hm).symm
 ·intro i _ l₁ own₁ g' h tk E' hi y0; refine u11 y0 fun v z0 z1=>?_; clear y0; obtain ⟨t,rfl⟩:=z0; subst z1; intro hI k F₁
  have:=turn i t l₁ own₁ g' h tk E' _ .same hi hI k (by simpa using F₁)
  exact this
 ·intro l₁ own₁ h tk hI F₁
  exact fin l₁ own₁ h tk hI F₁
theorem itE {x y:Str} {px py pt:Pos} {k:Nat} {D:Addr} {vs:List Value}
  (Inv:Nat→List (Str × Value)→List (Addr × List Value)→Prop) (Brk:List (Str × Value)→List (Addr × List Value)→Prop)
  (hh:A.handled=none) (F:St g L s.heap l own) (hl:g.IsList D vs.toArray) (h0:Inv 0 l own)
  (turn:∀ i v t l₁ own₁ g' h tk E' Qt,OutL Qt (Turn g' L R (Inv (i+1)) Brk (own₁.map (·.1)) s)→vs[i]?=some v→Inv i l₁ own₁→Kp g g'→St g' L h ((y,v)::(x,.int i t)::l₁) own₁ →
   wpAny (model prog w) A (execs body (envX name scope L f cd cl)) Qt E' { s with heap:=h,toks:=tk })
  (fin:∀ l₁ own₁ h tk,Inv vs.length l₁ own₁∨Brk l₁ own₁→St g L h l₁ own₁→R (.ok .next) { s with heap:=h,toks:=tk })
  (hk:scope.kind=.function:=by rfl) (hx:(envX name scope L f cd cl).kindOf x=some .local:=by rfl) (hy:(envX name scope L f cd cl).kindOf y=some .local:=by rfl) :
  wpAny (model prog w) A (call (.type "enumerate") [.ref D]) (fun v s₁=>wpAny (model prog w) A (pyIter v) (fun it s₂=>codeAny (model prog w) A (.forLoop (.Tuple [.Name x px,.Name y py] k pt) it body [] (envX name scope L f cd cl)) R s₂) E s₁) E s:=by
 refine u03 (listL F hl) fun hls hlt hDL hDo=>?_
 refine call_enumerate_list hls fun h' he hit hsz hk'=>?_
 have hn:s.heap.get? s.heap.objs.size=none:=Heap.get?_none_of_le (Nat.le_refl _)
 have hn':s.heap.get? (s.heap.objs.size+1)=none:=Heap.get?_none_of_le (Nat.le_succ _)
 refine u02 (noI F hn) fun n1 n2 n3=>?_
 refine u02 (noI F hn') fun m1 m2 m3=>?_
 have F':=F.keeps hk'
 refine wpAny_pyIter_enum he ?_
 have W:=WalksT.enumerate (prog:=prog) (w:=w) hh (s.heap.objs.size+1) s.heap.objs.size D (Nat.ne_of_gt (Nat.lt_succ_self _)) (Nat.ne_of_lt (Nat.lt_succ_of_lt hlt)) (Nat.ne_of_lt hlt) vs.toArray
 refine forC (s:={ s with heap:=h' }) Inv Brk
  (Dr.two hh W (fun i v u=>∃ t,v=.int i t∧vs[i]?=some u) ?_ ?_ hx hy (by show (scope.kind == .class || (scope.kind == .module && L != mainGlobals))=false; rw [hk]; rfl)) F'
  ⟨⟨_,he⟩,hit,hls.at fun o e=>hk' _ _ e⟩ ?_ ?_ h0 ?_ ?_
 ·intro i vals y0; refine u21 y0 fun t v hv z0=>?_; clear y0; subst z0
  exact (w21 _ _ rfl ⟨t,rfl,by simpa using hv⟩)
 ·intro b hb
  rcases List.mem_cons.mp hb with rfl | hb
  ·exact m1
  ·rw [List.mem_singleton.mp hb]; exact n1
 ·intro p hp hm
  rcases List.mem_cons.mp hm with e | hm
  ·exact m3 p hp e
  ·rcases List.mem_cons.mp hm with e | hm
   ·exact n3 p hp e
   ·exact hDo p hp (List.mem_singleton.mp hm)
 ·intro hm
  rcases List.mem_cons.mp hm with e | hm
  ·exact m2 e.symm
  ·rcases List.mem_cons.mp hm with e | hm
   ·exact n2 e.symm
   ·exact hDL (List.mem_singleton.mp hm).symm
 ·intro i _ l₁ own₁ g' h tk E' hi y0; refine u21 y0 fun v u z0 z1=>?_; clear y0; refine u11 z0 fun t z2 hu=>?_; clear z0; subst z2; subst z1; intro hI k F₁
  exact turn i u t l₁ own₁ g' h tk E' _ .same hu hI k F₁
 ·intro l₁ own₁ h tk hI F₁
  exact fin l₁ own₁ h tk (by simpa using hI) F₁
theorem zapart (m d₁ d₂ z TI TO i1 i2:Nat) (e1:z=m+4) (e2:TI=m+2) (e3:TO=m+3) (e4:i1=m) (e5:i2=m+1) (h₁:d₁<m) (h₂:d₂<m):ZipApart z TI TO i1 i2 d₁ d₂:=by
 constructor <;> (intro e; have e':@Eq Nat _ _:=e; (first | exact q3 0x4c00c42550c014a006229a83005200224a 1 38 (by kernel_rfl) e1 e2 e' | exact q3 0x4c00c42558c014a006229a83005200224a 1 38 (by kernel_rfl) e1 e3 e' | exact q3 0x13003109542006217a83005200224a 1 38 (by kernel_rfl) e1 e4 e' | exact q3 0x26006212a8c014a006228a83005200224a 1 38 (by kernel_rfl) e1 e5 e' | exact q3 0x26000212ac600a5003114d43005200223a 1 41 (by kernel_rfl) e2 e3 e' | exact q3 0x9800084aa100310bd43005200223a 1 22 (by kernel_rfl) e2 e4 e' | exact q3 0x1300010954600a5003114543005200223a 1 22 (by kernel_rfl) e2 e5 e' | exact q3 0x9800084aa100310bd63005200223a 1 22 (by kernel_rfl) e3 e4 e' | exact q3 0x1300010954600a5003114563005200223a 1 22 (by kernel_rfl) e3 e5 e' | exact q3 0x4c000425518029400c4515000211a 1 41 (by kernel_rfl) e4 e5 e' | exact q3 0x13003109542006117a83005200224a 1 22 (by kernel_rfl) e1 h₁ e' | exact q3 0x9801884aa100308bd63005200223a 1 22 (by kernel_rfl) e3 h₁ e' | exact q3 0x26006212a8400c22f5000211a 1 22 (by kernel_rfl) e4 h₁ e' | exact q3 0x4c00c42550801845ea3005200222a 1 22 (by kernel_rfl) e5 h₁ e' | exact q3 0x13003109542006117a83005200224a 1 22 (by kernel_rfl) e1 h₂ e' | exact q3 0x9801884aa100308bd63005200223a 1 22 (by kernel_rfl) e3 h₂ e' | exact q3 0x26006212a8400c22f5000211a 1 22 (by kernel_rfl) e4 h₂ e' | exact q3 0x4c00c42550801845ea3005200222a 1 22 (by kernel_rfl) e5 h₂ e'))
theorem itZ {x y:Str} {px py pt:Pos} {k:Nat} {D₁ D₂:Addr} {vs us:List Value}
  (Inv:Nat→List (Str × Value)→List (Addr × List Value)→Prop) (Brk:List (Str × Value)→List (Addr × List Value)→Prop)
  (hh:A.handled=none) (F:St g L s.heap l own) (hl₁:g.IsList D₁ vs.toArray) (hl₂:g.IsList D₂ us.toArray) (h0:Inv 0 l own)
  (turn:∀ i v u l₁ own₁ g' h tk E' Qt,OutL Qt (Turn g' L R (Inv (i+1)) Brk (own₁.map (·.1)) s)→vs[i]?=some v→us[i]?=some u→Inv i l₁ own₁→Kp g g'→St g' L h ((y,u)::(x,v)::l₁) own₁ →
   wpAny (model prog w) A (execs body (envX name scope L f cd cl)) Qt E' { s with heap:=h,toks:=tk })
  (fin:∀ l₁ own₁ h tk,Inv (min vs.length us.length) l₁ own₁∨Brk l₁ own₁→St g L h l₁ own₁→R (.ok .next) { s with heap:=h,toks:=tk })
  (hk:scope.kind=.function:=by rfl) (hx:(envX name scope L f cd cl).kindOf x=some .local:=by rfl) (hy:(envX name scope L f cd cl).kindOf y=some .local:=by rfl) :
  wpAny (model prog w) A (call (.type "zip") [.ref D₁,.ref D₂]) (fun v s₁=>wpAny (model prog w) A (pyIter v) (fun it s₂=>codeAny (model prog w) A (.forLoop (.Tuple [.Name x px,.Name y py] k pt) it body [] (envX name scope L f cd cl)) R s₂) E s₁) E s:=by
 refine u03 (listL F hl₁) fun hls₁ hlt₁ hDL₁ hDo₁=>?_
 refine u03 (listL F hl₂) fun hls₂ hlt₂ hDL₂ hDo₂=>?_
 refine call_zip_2 hls₁ hls₂ fun h' hz hTI hTO hi1 hi2 hsz hk'=>?_
 have nn:∀ j,s.heap.get? (s.heap.objs.size+j)=none:=fun j=>Heap.get?_none_of_le (Nat.le_add_right _ _)
 have hb:∀ b∈[s.heap.objs.size+4,s.heap.objs.size+2,s.heap.objs.size+3,s.heap.objs.size,s.heap.objs.size+1],s.heap.get? b=none:=by
  intro b hb
  simp -iota only [List.mem_cons,List.mem_nil_iff,or_false] at hb
  rcases hb with rfl | rfl | rfl | rfl | rfl
  ·exact nn 4
  ·exact nn 2
  ·exact nn 3
  ·exact nn 0
  ·exact nn 1
 have F':=F.keeps hk'
 refine wpAny_pyIter_zip hz ?_
 have q₁:D₁<s.heap.objs.size:=hlt₁
 have q₂:D₂<s.heap.objs.size:=hlt₂
 have W:=WalksT.zip2 (prog:=prog) (w:=w) hh (s.heap.objs.size+4) (s.heap.objs.size+2) (s.heap.objs.size+3) s.heap.objs.size (s.heap.objs.size+1) D₁ D₂
  (zapart _ D₁ D₂ _ _ _ _ _ rfl rfl rfl rfl rfl q₁ q₂) vs.toArray us.toArray
 have mem:∀ b,b∈[s.heap.objs.size+4,s.heap.objs.size+2,s.heap.objs.size+3,s.heap.objs.size,s.heap.objs.size+1,D₁,D₂] →
   b∈[s.heap.objs.size+4,s.heap.objs.size+2,s.heap.objs.size+3,s.heap.objs.size,s.heap.objs.size+1]∨b=D₁∨b=D₂:=by
  intro b hb
  simp -iota only [List.mem_cons,List.mem_nil_iff,or_false] at hb ⊢
  rcases hb with h | h | h | h | h | h | h <;> simp [h]
 refine forC (s:={ s with heap:=h' }) Inv Brk
  (Dr.two hh W (fun i v u=>vs[i]?=some v∧us[i]?=some u) ?_ ?_ hx hy (by show (scope.kind == .class || (scope.kind == .module && L != mainGlobals))=false; rw [hk]; rfl)) F'
  ⟨hz,hTI,(w20 _ _ hTO),hi1,hi2,hls₁.at fun o e=>hk' _ _ e,hls₂.at fun o e=>hk' _ _ e⟩ ?_ ?_ h0 ?_ ?_
 ·intro i vals y0; refine u22 y0 fun v u hv hu z0=>?_; clear y0; subst z0
  exact (w22 _ _ rfl (by simpa using hv) (by simpa using hu))
 ·intro b hm
  refine (noI F (hb b ?_)).1
  simp -iota only [List.mem_cons,List.mem_nil_iff,or_false] at hm ⊢
  rcases hm with h | h | h | h <;> simp [h]
 ·intro p hp hm
  rcases mem _ hm with h | h | h
  ·exact (noI F (hb _ h)).2.2 p hp rfl
  ·exact hDo₁ p hp h
  ·exact hDo₂ p hp h
 ·intro hm
  rcases mem _ hm with h | h | h
  ·exact (noI F (hb _ h)).2.1 rfl
  ·exact hDL₁ h.symm
  ·exact hDL₂ h.symm
 ·intro i _ l₁ own₁ g' h tk E' hi y0; refine u21 y0 fun v u z0 z1=>?_; clear y0; obtain ⟨hv,hu⟩:=z0; subst z1; intro hI k F₁
  exact turn i v u l₁ own₁ g' h tk E' _ .same hv hu hI k F₁
 ·intro l₁ own₁ h tk hI F₁
  exact fin l₁ own₁ h tk (by simpa using hI) F₁
noncomputable abbrev TurnO (g:Heap) (L:Addr) (s:Shared) (O:List (Str × Value)→List (Addr × List Value)→Prop) (s₂:Shared):Prop :=
 ∃ h tk,s₂={ s with heap:=h,toks:=tk }∧∃ l₂ own₂,O l₂ own₂∧St g L h l₂ own₂
noncomputable abbrev TurnW (g:Heap) (L:Addr) (s:Shared) (R:Result→Shared→Prop) (Inv:Nat→List (Str × Value)→List (Addr × List Value)→Prop) (O:List (Str × Value)→List (Addr × List Value)→Prop) (k:Nat) (fl:Flow) (s₃:Shared):Prop :=
 match fl with
 | .next | .cont=>∃ h tk,s₃={ s with heap:=h,toks:=tk }∧∃ m l₂ own₂,m<k∧Inv m l₂ own₂∧St g L h l₂ own₂
 | .brk=>TurnO g L s O s₃
 | .ret v=>R (.ok (.ret v)) s₃
section
variable {g:Heap} {L:Addr} {R:Result→Shared→Prop} {Inv:Nat→List (Str × Value)→List (Addr × List Value)→Prop} {O:List (Str × Value)→List (Addr × List Value)→Prop} {k:Nat} {s:Shared} {Q:Flow→Shared→Prop} {Q':Shared→Prop} {h:Heap} {tk:Nat} {l₂:List (Str × Value)} {own₂:List (Addr × List Value)} {s':Shared}
theorem TurnW.go (hQ:OutL Q (TurnW g L s R Inv O k)) (m:Nat) (hm:m<k) (hI:Inv m l₂ own₂) (F:St g L h l₂ own₂) (hs:s'={ s with heap:=h,toks:=tk }:=by rfl):Q .next s':=hQ.go _ _ (w21 h tk hs ⟨m,l₂,own₂,hm,hI,F⟩)
theorem TurnW.brk (hQ:OutL Q (TurnW g L s R Inv O k)) (hO:O l₂ own₂) (F:St g L h l₂ own₂) (hs:s'={ s with heap:=h,toks:=tk }:=by rfl):Q .brk s':=hQ.go _ _ (w21 h tk hs ⟨l₂,own₂,hO,F⟩)
theorem TurnO.go (hQ:OutS Q' (TurnO g L s O)) (hO:O l₂ own₂) (F:St g L h l₂ own₂) (hs:s'={ s with heap:=h,toks:=tk }:=by rfl):Q' s':=hQ.go _ (w21 h tk hs ⟨l₂,own₂,hO,F⟩)
end
theorem itW {test:Expr} (n:Nat)
  (Inv:Nat→List (Str × Value)→List (Addr × List Value)→Prop) (Out:List (Str × Value)→List (Addr × List Value)→Prop)
  (F:St g L s.heap l own) (h0:Inv n l own)
  (turn:∀ k l₁ own₁ h tk E' Qt Qo,OutL Qt (TurnW g L s R Inv Out k)→OutS Qo (TurnO g L s Out)→Inv k l₁ own₁→St g L h l₁ own₁ →
   wpAny (model prog w) A (isTrue test (envX name scope L f cd cl) (eval test (envX name scope L f cd cl))) (fun b s₂ =>
    if b then wpAny (model prog w) A (execs body (envX name scope L f cd cl)) Qt E' s₂ else Qo s₂) E' { s with heap:=h,toks:=tk })
  (fin:∀ l₁ own₁ h tk,Out l₁ own₁→St g L h l₁ own₁→R (.ok .next) { s with heap:=h,toks:=tk }) :
  codeAny (model prog w) A (.whileLoop test body [] (envX name scope L f cd cl)) R s:=by
 refine whileH n Inv Out (Clean s) F h0 (w20 _ _ rfl) ?_ ?_
 ·intro k l₁ own₁ _ E' _ _ hQt hQo hI F₁ y0; refine u20 y0 fun h tk z0=>?_; clear y0; subst z0
  refine wpAny_mono (turn k l₁ own₁ h tk E' _ _ .same .same hI F₁) (fun b s₂ p=>?_) fun _ _ e=>e
  cases b with
  | true =>
   rw [if_pos rfl] at p ⊢
   refine wpAny_mono p (fun fl s₃ q=>?_) fun _ _ e=>e
   cases fl with
   | next=>(refine u21 q fun h tk z0 z1=>?_; clear q; subst z0; refine u32 z1 fun m l₂ own₂ hm hI₂ F₂=>?_; clear z1); exact hQt.go _ _ ⟨(w20 _ _ rfl),m,l₂,own₂,hm,hI₂,F₂⟩
   | cont=>(refine u21 q fun h tk z0 z1=>?_; clear q; subst z0; refine u32 z1 fun m l₂ own₂ hm hI₂ F₂=>?_; clear z1); exact hQt.go _ _ ⟨(w20 _ _ rfl),m,l₂,own₂,hm,hI₂,F₂⟩
   | brk=>(refine u21 q fun h tk z0 z1=>?_; clear q; subst z0; refine u21 z1 fun l₂ own₂ hO F₂=>?_; clear z1); exact hQt.go _ _ ⟨(w20 _ _ rfl),l₂,own₂,hO,F₂⟩
   | ret v=>exact hQt.go _ _ q
  | false =>
   rw [if_neg Bool.false_ne_true] at p ⊢
   refine u21 p fun h tk z0 z1=>?_; clear p; subst z0; refine u21 z1 fun l₂ own₂ hO F₂=>?_; clear z1
   exact hQo.go _ ⟨(w20 _ _ rfl),l₂,own₂,hO,F₂⟩
 ·intro l₁ own₁ _ hO F₁ y0; refine u20 y0 fun h tk z0=>?_; clear y0; subst z0
  exact fin l₁ own₁ h tk hO F₁
end
set_option compiler.extract_closed true in
local macro_rules | `(tactic| walk_at "n")=>return rd "F 5 Turn _ _ _ _ _ _ _ _ _ 8 Turn 0 5 TurnW _ _ _ _ _ _ _ _ _ 8 TurnW 0 G"
section
variable {prog:Program} {w:World} {A:Around} {E:Value→Shared→Prop} {s:Shared} {h₀:Heap} {ge:Array GenState} {dr:Drawn} {t₀:Nat} {os:OsState} {D D':Addr} {vs us:List Value} {t u:Tok} {Q:Value→Shared→Prop}
theorem isL_keeps {h h':Heap} {a:Addr} {items:Array Value} (x:h.IsList a items) (k:Kp h h'):h'.IsList a items:=x.at fun o e=>k _ o e
theorem isTu_keeps {h h':Heap} {a:Addr} {items:Array Value} (x:h.IsTuple a items) (k:Kp h h'):h'.IsTuple a items:=x.at fun o e=>k _ o e
theorem isL_of {h:Heap} {D:Addr} {vs:Array Value} (e:h.get? D=some { cls:=.type "list", data:=.seq vs }):h.IsList D vs:=(w12 _ e rfl ⟨_,rfl⟩)
theorem plain_of {h:Heap} {D:Addr} {vs:Array Value} (e:h.get? D=some { cls:=.type "list", data:=.seq vs }):h.PlainList D vs:=⟨_,e⟩
theorem tL {Q:Bool→Shared→Prop} (hl:h₀.IsList D vs.toArray) (hz:vs.length≤100000) (h:∀ k,Q (decide (vs≠[])) ⟨h₀,ge,dr,k,os⟩):wpAny (model prog w) A (truthy (.ref D)) Q E ⟨h₀,ge,dr,t₀,os⟩:=by
 refine wpAny_truthy_list hl (by rw [List.size_toArray]; exact q1 0x1fc04a00986a0100021a 1 3 (by kernel_rfl) hz) ?_
 have e:(!vs.toArray.isEmpty)=decide (vs≠[]):=by cases vs <;> simp
 rw [e]; exact h _
theorem lenL (hl:h₀.IsList D vs.toArray) (hz:vs.length≤100000) (h:∀ k k',Q (.int vs.length k) ⟨h₀,ge,dr,k',os⟩):wpAny (model prog w) A (call (.builtin "len") [.ref D]) Q E ⟨h₀,ge,dr,t₀,os⟩:=by
 refine call_len_list hl (by rw [List.size_toArray]; exact q1 0x1fc04a00986a0100021a 1 3 (by kernel_rfl) hz) ?_
 rw [List.size_toArray]; exact h _ _
theorem idxL {value slice:Expr} {k:Int} (i:Nat) (ek:k=(i:Int)) {v:Value} (hl:s.heap.IsList D vs.toArray) (hv:vs[i]?=some v) (hz:vs.length≤100000) (h:Q v s)
  (hs:subscripted slice false (.ref D) (.int k u)=operate [.ref D,.int k u] (getItem (.ref D) (.int k u)):=by with_unfolding_all rfl) :
  wpAny (model prog w) A (subscriptTail value slice (.ref D) (.int k u)) Q E s:=by
 have:=(List.getElem?_eq_some_iff.mp hv).1
 exact tail_any hl.typeIs slot_list_getitem.lookup (wpAny_getItem_list hl (by walk_at "li") (by walk_at "li") (by rw [show k.toNat=i by walk_at "li"]; simpa using hv) h) hs
theorem idxLastL {value slice:Expr} {v:Value} (hl:s.heap.IsList D vs.toArray) (hv:vs.getLast?=some v) (hz:vs.length≤100000) (h:Q v s)
  (hs:subscripted slice false (.ref D) (.int (-1) u)=operate [.ref D,.int (-1) u] (getItem (.ref D) (.int (-1) u)):=by with_unfolding_all rfl) :
  wpAny (model prog w) A (subscriptTail value slice (.ref D) (.int (-1) u)) Q E s:=by
 have hpos:0<vs.length:=by cases vs with
  | nil=>cases hv
  | cons=>simp
 refine tail_any hl.typeIs slot_list_getitem.lookup (wpAny_getItem_list_neg hl (by exact q0 3235988 1 1 (by kernel_rfl)) (by rw [List.size_toArray]; exact q1 0x116c0670110da 1 3 (by kernel_rfl) hpos) (by exact q0 0x116fe0256183 1 1 (by kernel_rfl)) ?_ h) hs
 rw [List.size_toArray,show (-1+(vs.length:Int)).toNat=vs.length-1 by exact q1 0x22007160929192 1 2986713 (by kernel_rfl)]
 rw [List.getElem?_toArray,← List.getLast?_eq_getElem?]
 exact hv
theorem idxT {value slice:Expr} {k:Int} (i:Nat) (ek:k=(i:Int)) {v:Value} (hl:IsTup s.heap D vs.toArray) (hv:vs[i]?=some v) (hz:vs.length≤100000) (h:Q v s)
  (hs:subscripted slice false (.ref D) (.int k u)=operate [.ref D,.int k u] (getItem (.ref D) (.int k u)):=by with_unfolding_all rfl) :
  wpAny (model prog w) A (subscriptTail value slice (.ref D) (.int k u)) Q E s:=by
 have:=(List.getElem?_eq_some_iff.mp hv).1
 refine tail_any hl.typeIs slot_tuple_getitem.lookup (getItem_tuple hl (by walk_at "li") (by walk_at "li") (j:=i) ?_ (by simpa using hv) h) hs
 rw [List.size_toArray]
 unfold seqIndex?
 simp
 (first | lia | omega)
theorem gmApp {pl:Sem Bool} {Q:Value × List Value→Shared→Prop} (hl:s.heap.PlainList D vs.toArray) (h:Q (.builtin "list.append", [.ref D]) s):wpAny (model prog w) A (getMethod (.ref D) "append" pl) Q E s:=by
 obtain ⟨n,ho⟩:=hl
 exact getMethod_list_of PySem.F.slot_list_append PySem.F.type_list_append (w12 _ ho rfl ⟨_,rfl⟩) (w11 _ ho rfl) h
theorem gmExt {pl:Sem Bool} {Q:Value × List Value→Shared→Prop} (hl:s.heap.PlainList D vs.toArray) (h:Q (.builtin "list.extend", [.ref D]) s):wpAny (model prog w) A (getMethod (.ref D) "extend" pl) Q E s:=by
 obtain ⟨n,ho⟩:=hl
 exact getMethod_list_of PySem.F.slot_list_extend PySem.F.type_list_extend (w12 _ ho rfl ⟨_,rfl⟩) (w11 _ ho rfl) h
theorem appS {g:Heap} {L:Addr} {l:List (Str × Value)} {pre post:List (Addr × List Value)} {items:List Value} {v:Value} (F:St g L h₀ l (pre++(D,items)::post)) (hz:items.length≤100000)
  (h:∀ h',St g L h' l (pre++(D,items++[v])::post)→Heap.SameBut D h₀ h'→Q .none ⟨h',ge,dr,t₀,os⟩):wpAny (model prog w) A (call (.builtin "list.append") [.ref D,v]) Q E ⟨h₀,ge,dr,t₀,os⟩:=by
 have hD:h₀.PlainList D items.toArray:=(F.ow (D,items) (by simp)).2.2
 refine wpAny_list_append_plain hD (fun h' hP hs=>h h' (F.turn hs ?_) hs) (by rw [List.size_toArray,sizeLine_eq]; exact q1 0x2000000200186a0100021a 1 3 (by kernel_rfl) hz)
 have e:items.toArray.push v=(items++[v]).toArray:=by simp
 rw [← e]; exact hP
theorem addL (hl:h₀.IsList D vs.toArray) (hb:h₀.IsList D' us.toArray) (hz:vs.length+us.length≤100000)
  (h:∀ h' a,h₀.get? a=none→Kp h₀ h'→h'.get? a=some { cls:=.type "list", data:=.seq (vs++us).toArray }→Q (.ref a) ⟨h',ge,dr,t₀,os⟩) :
  wpAny (model prog w) A (binaryOp .Add (.ref D) (.ref D')) Q E ⟨h₀,ge,dr,t₀,os⟩:=by
 refine u12 (id hl) fun z0 ho hc z1=>?_; obtain ⟨cls,dd,data,sl⟩:=z0; obtain ⟨n,hd⟩:=z1
 refine u12 (id hb) fun z0 ho2 hc2 z1=>?_; obtain ⟨cls2,dd2,data2,sl2⟩:=z0; obtain ⟨n2,hd2⟩:=z1
 simp only at hc hd hc2 hd2
 subst hc hd hc2 hd2
 have e:vs.toArray++us.toArray=(vs++us).toArray:=by simp
 refine concat_meets (w11 _ ho rfl) (w11 _ ho2 rfl) noFill_list_add seq_list_add PySem.F.slot_list_add PySem.F.entry_list_add (PySem.F.args_list_add_2 _ _) (list_addW D D' vs.toArray us.toArray n n2 dd dd2 sl sl2 (by simp only [List.size_toArray]; rw [sizeLine_eq]; exact q2 0x8000000c00084430d403000211032a 1 3 (by kernel_rfl) hz)) ⟨ho,ho2,?_⟩
 rw [e]
 exact h _ _ (Heap.get?_none_of_le (Nat.le_refl _)) (fun b o e=>Heap.get?_push_of_some _ e) (Heap.get?_push_size _ rfl)
theorem mulL0 {k:Int} (hlo:-(2 ^ 63:Int)≤k) (hhi:k<2 ^ 63) (hl:h₀.IsList D vs.toArray) (hsz:vs.toArray.size*k.toNat≤2 ^ 24)
  (h:∀ h' a,h₀.get? a=none→Kp h₀ h'→h'.get? a=some { cls:=.type "list", data:=.seq (List.replicate k.toNat vs).flatten.toArray }→Q (.ref a) ⟨h',ge,dr,t₀,os⟩) :
  wpAny (model prog w) A (binaryOp .Mult (.ref D) (.int k u)) Q E ⟨h₀,ge,dr,t₀,os⟩:=by
 refine u12 (id hl) fun z0 ho hcl z1=>?_; obtain ⟨cls,d,data,sl⟩:=z0; obtain ⟨n,hd⟩:=z1
 simp only at hcl hd
 subst hcl hd
 refine wpAny_binaryOp_repeat_ref (T := "list") (U := "int") (by decide) (w11 _ ho rfl) (fun s'=>typeIs_int s' k u) noFill_list_mul F.fills_int_mul F.slot_int_rmul repeat_list F.slot_int_index.lookup
  (call_meets F.slot_int_rmul (typeIs_int ⟨h₀,ge,dr,t₀,os⟩ k u) F.entry_int_rmul (F.args_int_rmul_2 _ _) (lm_int_rmul_list_any k u D vs.toArray n d sl)
   ⟨ho,rfl,(w11 _ ho rfl),call_meets F.slot_list_mul (w11 _ ho rfl) F.entry_list_mul (F.args_list_mul_2 _ _)
    (lm_list_mul_any D vs.toArray n d sl k u (by simp [Builtin.List.listFitsIndex]; (first | lia | omega)) (by walk_at "li") (by simp [Builtin.List.listTooLong,sizeLine]; (first | lia | omega)))
    ⟨ho,?_⟩⟩)
 rw [listMul_foldl_if]
 exact h _ _ (Heap.get?_none_of_le (Nat.le_refl _)) (fun b o e=>Heap.get?_push_of_some _ e) (Heap.get?_push_size _ rfl)
theorem mulL1 {v:Value} {k:Int} (i:Nat) (ek:k=(i:Int)) (hi:i≤100000) (hl:h₀.IsList D [v].toArray)
  (h:∀ h' a,h₀.get? a=none→Kp h₀ h'→h'.get? a=some { cls:=.type "list", data:=.seq (List.replicate i v).toArray }→Q (.ref a) ⟨h',ge,dr,t₀,os⟩) :
  wpAny (model prog w) A (binaryOp .Mult (.ref D) (.int k u)) Q E ⟨h₀,ge,dr,t₀,os⟩:=by
 subst ek
 have hk:(i:Int).toNat=i:=rfl
 refine mulL0 (by exact q1 0xfe0256183 1 1 (by kernel_rfl)) (by exact q1 0x1fc04a00986a0100021a 1 3 (by kernel_rfl) hi) hl ?_ fun h' a h1 h2 h3=>h h' a h1 h2 ?_
 ·rw [hk]; show 1*i≤_; exact q1 0x1880a20281a186a0100021a 1 3 (by kernel_rfl) hi
 ·rw [hk] at h3
  have e:(List.replicate i [v]).flatten=List.replicate i v:=by
   rw [List.flatten_replicate_singleton]
  rw [e] at h3; exact h3
theorem slcL {value slice:Expr} {I:Addr} {vl vu vk:Value} {lo hi st:Option Int} {ops:List Value} (hl:h₀.IsList D vs.toArray) (hI:h₀.get? I=some { cls:=.type "slice", data:=.fields #[vl,vu,vk] })
  (pl:IsPart vl lo) (pu:IsPart vu hi) (pk:IsPart vk st) (h0:st≠some 0) (hz:vs.length≤100000)
  (h:∀ h' a,h₀.get? a=none→Kp h₀ h'→h'.get? a=some { cls:=.type "list", data:=.seq (slicePick vs.toArray lo hi st) }→Q (.ref a) ⟨h',ge,dr,t₀,os⟩)
  (hs:subscripted slice false (.ref D) (.ref I)=operate ops (getItem (.ref D) (.ref I)):=by with_unfolding_all rfl) :
  wpAny (model prog w) A (subscriptTail value slice (.ref D) (.ref I)) Q E ⟨h₀,ge,dr,t₀,os⟩:=by
 refine tail_any hl.typeIs slot_list_getitem.lookup (wpAny_getItem_list_slice hl (w12 _ hI rfl rfl) pl pu pk h0 ?_ (by rw [List.size_toArray,sizeLine_eq]; exact q1 0x2000000200186a0100021a 1 3 (by kernel_rfl) hz)) hs
 exact h _ _ (Heap.get?_none_of_le (Nat.le_refl _)) (fun b o e=>Heap.get?_push_of_some _ e) (Heap.get?_push_size _ rfl)
theorem pickRange (l:List Value):∀ (n a:Nat),a+n≤l.length→(((List.range n).map (fun (k:Nat)=>((a:Int)+1*(k:Int)).toNat)).filterMap (l.toArray[·]?))=(l.drop a).take n:=by
 intro n a h
 rw [← StrLaws.picks l n a h]
 have e:(List.range n).map (fun (k:Nat)=>((a:Int)+1*(k:Int)).toNat)=(List.range n).map fun k=>a+k:=by
  refine List.map_congr_left fun k _=>?_
  exact q2 0x4000a010140029262 1 93 (by kernel_rfl)
 rw [e]
 congr 1
 funext j
 simp
theorem clN (i n:Nat):max (0:Int) (min (if (i:Int)<0 then (i:Int)+n else i) n)=((min i n:Nat):Int):=by
 rw [if_neg (Int.not_lt.mpr (Int.natCast_nonneg i)),← Lean.Omega.Int.ofNat_min]; exact Int.max_eq_right (Int.natCast_nonneg _)
set_option tactic.hygienic true in
theorem pick_from {i:Nat} (hi:i≤vs.length):slicePick vs.toArray (some (i:Int)) none none=(vs.drop i).toArray:=by
 have hb:sliceBounds (some (i:Int)) none none vs.toArray.size=((i:Int),(vs.length:Int),1):=by
  simp [sliceBounds]; rw [clN,Nat.min_eq_left hi]
 unfold slicePick
 rw [hb]
 simp only [sliceRange]
 have hc:(if (1:Int)>0 then (if (i:Int)<vs.length then ((vs.length:Int)-i+1-1)/1 else 0) else (if (i:Int)>vs.length then ((i:Int)-vs.length-1-1)/(-1) else 0)).toNat=vs.length-i:=by
  simp
  split <;> (first | exact q2 0x20007000039192 1 2986713 (by kernel_rfl) | (rename_i z0; exact q2 0x4014f20a50001815a 1 577119011 (by kernel_rfl) z0))
 rw [hc,pickRange vs _ i (by exact q2 0x4200a60043a1000011a 1 26 (by kernel_rfl) hi)]
 rw [List.take_of_length_le (by simp)]
set_option tactic.hygienic true in
theorem pick_to {j:Nat} (hj:j≤vs.length):slicePick vs.toArray none (some (j:Int)) none=(vs.take j).toArray:=by
 have hb:sliceBounds none (some (j:Int)) none vs.toArray.size=(((0:Nat):Int),(j:Int),1):=by
  simp [sliceBounds]; rw [clN,Nat.min_eq_left hj]
 unfold slicePick
 rw [hb]
 simp only [sliceRange]
 have hc:(if (1:Int)>0 then (if ((0:Nat):Int)<j then ((j:Int)-((0:Nat):Int)+1-1)/1 else 0) else (if ((0:Nat):Int)>j then (((0:Nat):Int)-j-1-1)/(-1) else 0)).toNat=j:=by
  simp
  split <;> (first | exact q1 36930 1 93 (by kernel_rfl) | (rename_i z0; exact q1 0x320a5011811a 1 1179 (by kernel_rfl) z0))
 rw [hc,pickRange vs _ 0 (by exact q2 0x420241a1000011a 1 3 (by kernel_rfl) hj),List.drop_zero]
theorem slcFromL {value slice:Expr} {I:Addr} {k:Int} (i:Nat) (ek:k=(i:Int)) {ops:List Value} (hl:h₀.IsList D vs.toArray) (hI:h₀.get? I=some { cls:=.type "slice", data:=.fields #[.int k t,.none,.none] }) (hi:i≤vs.length) (hz:vs.length≤100000)
  (h:∀ h' a,h₀.get? a=none→Kp h₀ h'→h'.get? a=some { cls:=.type "list", data:=.seq (vs.drop i).toArray }→Q (.ref a) ⟨h',ge,dr,t₀,os⟩)
  (hs:subscripted slice false (.ref D) (.ref I)=operate ops (getItem (.ref D) (.ref I)):=by with_unfolding_all rfl) :
  wpAny (model prog w) A (subscriptTail value slice (.ref D) (.ref I)) Q E ⟨h₀,ge,dr,t₀,os⟩:=by
 subst ek
 refine slcL hl hI (.int _ _) .none .none (by simp) hz (fun h' a h1 h2 h3=>h h' a h1 h2 ?_) hs
 rw [pick_from hi] at h3; exact h3
theorem slcToL {value slice:Expr} {I:Addr} {k:Int} (i:Nat) (ek:k=(i:Int)) {ops:List Value} (hl:h₀.IsList D vs.toArray) (hI:h₀.get? I=some { cls:=.type "slice", data:=.fields #[.none,.int k t,.none] }) (hi:i≤vs.length) (hz:vs.length≤100000)
  (h:∀ h' a,h₀.get? a=none→Kp h₀ h'→h'.get? a=some { cls:=.type "list", data:=.seq (vs.take i).toArray }→Q (.ref a) ⟨h',ge,dr,t₀,os⟩)
  (hs:subscripted slice false (.ref D) (.ref I)=operate ops (getItem (.ref D) (.ref I)):=by with_unfolding_all rfl) :
  wpAny (model prog w) A (subscriptTail value slice (.ref D) (.ref I)) Q E ⟨h₀,ge,dr,t₀,os⟩:=by
 subst ek
 refine slcL hl hI .none (.int _ _) .none (by simp) hz (fun h' a h1 h2 h3=>h h' a h1 h2 ?_) hs
 rw [pick_to hi] at h3; exact h3
end
noncomputable def pickL (names:List Str) (l:List (Str × Value)):List (Str × Value):=names.filterMap fun x=>(l.lookup x).map fun v=>(x,v)
theorem St.pick {g h:Heap} {L:Addr} {l l':List (Str × Value)} {own:List (Addr × List Value)} (F:St g L h l own) (names:List Str) (e:pickL names l=l'):St g L h l' own:=by
 refine F.sub fun p hp=>?_
 rw [← e] at hp
 unfold pickL at hp
 refine u11 (List.mem_filterMap.mp hp) fun x _ hx=>?_
 cases q:l.lookup x with
 | none=>rw [q] at hx; cases hx
 | some v=>rw [q] at hx; cases hx; exact q
theorem St.withO {g h:Heap} {L:Addr} {l:List (Str × Value)} {own:List (Addr × List Value)} (F:St g L h l own) {C:Addr} {o:Obj} (hC:h.get? C=some o) (hd:∀ es ep,o.data≠.dict es ep) (hne:∀ p∈own,p.1≠C) :
  ∃ g',Kp g g'∧g'.get? C=some o∧St g' L h l own:=by
 refine u13 F.rebase fun g' k1 _ k3 F'=>?_
 refine (w12 g' k1 (k3 C o ?_ (fun p hp e=>hne p hp e.symm) hC) F')
 rintro rfl
 refine u11 F.fl fun m Fn _=>?_
 refine u32 Fn fun o' es ep h1 h2 _=>?_; clear Fn
 rw [hC] at h1; cases h1
 exact hd _ _ h2
theorem St.withL {g h:Heap} {L:Addr} {l:List (Str × Value)} {own:List (Addr × List Value)} (F:St g L h l own) {C:Addr} {vs:Array Value} (hC:h.IsList C vs) (hne:∀ p∈own,p.1≠C) :
  ∃ g',Kp g g'∧g'.IsList C vs∧St g' L h l own:=by
 refine u12 hC fun o ho hc z0=>?_; clear hC; obtain ⟨n,hd⟩:=z0
 refine u12 (F.withO ho (fun es ep q=>by rw [hd] at q; cases q) hne) fun g' k e F'=>?_
 exact (w12 g' k ⟨o,e,hc,n,hd⟩ F')
theorem St.withT {g h:Heap} {L:Addr} {l:List (Str × Value)} {own:List (Addr × List Value)} (F:St g L h l own) {C:Addr} {vs:Array Value} (hC:h.IsTuple C vs) (hne:∀ p∈own,p.1≠C) :
  ∃ g',Kp g g'∧g'.IsTuple C vs∧St g' L h l own:=by
 refine u12 hC fun o ho hc z0=>?_; clear hC; obtain ⟨n,hd⟩:=z0
 refine u12 (F.withO ho (fun es ep q=>by rw [hd] at q; cases q) hne) fun g' k e F'=>?_
 exact (w12 g' k ⟨o,e,hc,n,hd⟩ F')
theorem noOwn {C:Addr}:∀ p∈([]:List (Addr × List Value)),p.1≠C:=fun _ h=>nomatch h
theorem St.pickE {g h:Heap} {L:Addr} {l:List (Str × Value)} {own:List (Addr × List Value)} (F:St g L h l own) (names:List Str):∃ l₀,pickL names l=l₀∧St g L h l₀ own:=(w11 _ rfl (F.pick names rfl))
theorem le_sum_of_mem:∀ {l:List Nat} {a:Nat},a∈l→a≤l.sum
 | b::r,a,h=>by
  rw [List.sum_cons]
  rcases List.mem_cons.mp h with rfl | h
  ·exact q2 268443648 1 1 (by kernel_rfl)
  ·have:=le_sum_of_mem h
   exact q3 0x8400c4001000011a 1 3 (by kernel_rfl) this
theorem split_spec {prog:Program} {w:World} {mg:Str→Option Value} {A:Around} {E:Value→Shared→Prop} {s:Shared} {a:Addr} (T:TK w mg s.heap) (ha:mg "split" = some (.ref a)) (R:Room A 3) {x n:List Nat} {t:Tok} (hn:47∉n) (hx:(x++47::n).length≤10000) :
  wpAny (model prog w) A (call (.ref a) [.str (S (x++47::n)) t]) (fun v s'=>(∃ D t₁ t₂,v=.ref D∧s'.heap.get? D=some { cls:=.type "tuple", data:=.seq #[.str (S (if x.all (· == 47) then x++[47] else dropR (· == 47) x)) t₁,.str (S n) t₂] })∧Keeps s s') E s:=by
 obtain ⟨f1,hf1⟩:=T.addr F_fspath
 obtain ⟨f2,hf2⟩:=T.addr F_get_sep
 refine enter F_split T ha R.lim (binds:=[("p", .str (S (x++47::n)) t)]) (fun _ _ _=>BindsTo.of_eq rfl) (locs rfl) rfl fun cd h₁ F₀=>?_
 have F:=St.init F₀
 replace R:=R.deeper (env:=envOf "split" F_split.scope s.heap.objs.size a cd) (by decide:2+1≤3)
 generalize A.deeper (envOf "split" F_split.scope s.heap.objs.size a cd)=A at R ⊢
 clear F₀
 generalize hL:s.heap.objs.size=L at F ⊢
 clear hL
 have hx':(x++47::n).length≤100000:=by walk_at "li"
 have hl:(x++47::n).length=x.length+1+n.length:=by simp; exact q2 0x84400844a30052002222 1 3 (by kernel_rfl)
 have hap:x++47::n=(x++[47])++n:=by simp
 have htk:(x++47::n).take (x.length+1)=x++[47]:=by rw [hap]; exact List.take_left' (by simp)
 have hdr:(x++47::n).drop (x.length+1)=n:=by rw [hap]; exact List.drop_left' (by simp)
 refine stepO fun _ _ _ _=>?_
 walk_at "ms"
 refine useK F (fspath_spec (T.keeps F.keep) hf1 (R.le (by decide)) _ _) fun v h₂ tk₂ hv F₂ k₂=>?_
 subst hv
 walk_at "ms"
 intro h₃ F₃ _
 walk_at "ms"
 refine useK F₃ (sep_spec (T.keeps F₃.keep) hf2 (R.le (by decide)) _ _) fun v h₂ tk₂ hv F₄ k₂=>?_
 obtain ⟨u,rfl⟩:=hv
 walk_at "ms"
 intro h₅ F₅ _
 walk_at "ms"
 refine rfind1S hn fun _ _=>?_
 walk_at "ms"
 intro h₆ F₆ _
 walk_at "ms"
 refine asgSw2 "head" "tail" R.hh ?_
 walk_at "ms"
 intro h₇ D hD hk hT
 have F₇:=F₆.keeps hk
 walk_at "ms"
 refine slcToS (x.length+1) (by exact q1 0x2200411002115 1 3 (by kernel_rfl)) hx' (by exact q3 0x230052160823005216200234a 1 6 (by kernel_rfl) hl) hT fun _ _=>?_
 rw [htk]
 walk_at "ms"
 intro h₇ D hD hk hT
 have F₈:=F₇.keeps hk
 walk_at "ms"
 refine slcFromS (x.length+1) (by exact q1 0x2200411002115 1 3 (by kernel_rfl)) hx' (by exact q3 0x230052160823005216200234a 1 6 (by kernel_rfl) hl) hT fun _ _=>?_
 rw [hdr]
 walk_at "ms"
 refine ⟨szl (by simp),fun h₉ D hD hk hT=>?_⟩
 have F₉:=F₈.keeps hk
 refine (w32 _ _ _ rfl (isTup_of hT) (fun h₁₀ hk=>?_))
 have F₁₀:=F₉.keeps hk
 walk_at "ms"
 intro h₁₁ F₁₁ _
 walk_at "ms"
 intro h₁₂ F₁₂ _
 walk_at "ms"
 refine tS (by simp; exact q3 0xc34f8c014208c0148588008d2a71010001ea 1 13 (by kernel_rfl) hx hl) fun _=>?_
 refine if_bt (decide_eq_true (by simp)) ?_
 walk_at "ms"
 refine lenS (by simp; exact q3 0xc34f8c014208c0148588008d2a71010001ea 1 13 (by kernel_rfl) hx hl) fun _ _=>?_
 walk_at "ms"
 refine mulS (x++[47]).length rfl (by simp; exact q3 0xc34f8c014208c0148588008d2a71010001ea 1 13 (by kernel_rfl) hx hl) fun _ _=>?_
 walk_at "ms"
 by_cases hall:x.all (· == 47)=true
 ·have he:x++[47]=List.replicate (x++[47]).length 47:=by
   rw [List.eq_replicate_iff]
   simp at hall ⊢
   rintro b (h | h)
   ·exact hall b h
   ·exact h
  refine if_bf (decide_eq_false (by simpa using he)) ?_
  walk_at "ms"
  refine ⟨szl (by simp),fun h₉ D hD hk hT=>?_⟩
  walk_at "ms"
  rw [if_pos hall]
  exact ⟨(w31 _ _ _ rfl hT),Keeps.mk' (F₁₂.keeps hk).keep⟩
 ·have he:¬ x++[47]=List.replicate (x++[47]).length 47:=fun e=>hall (by
   have:=(List.eq_replicate_iff.mp e).2
   simp at this ⊢
   exact fun b hb=>this b (.inl hb))
  refine if_bt (decide_eq_true he) ?_
  walk_at "ms"
  refine rstripS (by simp; exact q3 0xc34f8c014208c0148588008d2a71010001ea 1 13 (by kernel_rfl) hx hl) fun _ _=>?_
  rw [show dropR (· == 47) (x++[47])=dropR (· == 47) x from by simp [dropR]]
  walk_at "ms"
  intro h₁₃ F₁₃ _
  walk_at "ms"
  refine ⟨szl (by simp),fun h₉ D hD hk hT=>?_⟩
  walk_at "ms"
  rw [if_neg hall]
  exact ⟨(w31 _ _ _ rfl hT),Keeps.mk' (F₁₃.keeps hk).keep⟩
theorem strs_get {vs:List Value} {xs:List (List Nat)} (h:StrsAre vs (xs.map S)) {i:Nat} {v:Value} (hv:vs[i]?=some v):∃ x t,v=.str (S x) t∧xs[i]?=some x:=by
 refine u21 (StrsAre.item h i v hv) fun y t z0 hy=>?_; subst z0
 rw [List.getElem?_map] at hy
 cases e:xs[i]? with
 | none=>rw [e] at hy; cases hy
 | some x=>rw [e] at hy; cases hy; exact (w21 x t rfl rfl)
theorem strs_snoc {vs:List Value} {xs:List Str} {x:Str} {t:Tok} (h:StrsAre vs xs):StrsAre (vs++[.str x t]) (xs++[x]):=StrsAre.append' h (.cons x t .nil)
theorem take_snoc {α:Type} {l:List α} {i:Nat} {x:α} (h:l[i]?=some x):l.take (i+1)=l.take i++[x]:=by
 rw [List.take_add_one,h]; rfl
section
variable {prog:Program} {w:World} {mg:Str→Option Value} {A:Around} {E:Value→Shared→Prop} {s:Shared} {a:Addr}
theorem slc12S {value slice:Expr} {D:Addr} {b:Nat} {y:List Nat} {t ti tj:Tok} {Q:Value→Shared→Prop} (hx:(b::y).length≤100000) (hD:s.heap.get? D=some { cls:=.type "slice", data:=.fields #[.int 1 ti,.int 2 tj,.none] })
  (h:∀ t' k,Q (.str (S (y.take 1)) t') { s with toks:=k })
  (hs:subscripted slice false (.str (S (b::y)) t) (.ref D)=operate [.ref D,.str (S (b::y)) t] (getItem (.str (S (b::y)) t) (.ref D)):=by with_unfolding_all rfl) :
  wpAny (model prog w) A (subscriptTail value slice (.str (S (b::y)) t) (.ref D)) Q E s:=by
 cases y with
 | nil =>
  refine slcS (lo:=some (1,ti)) (hi:=some (2,tj)) hx (w12 _ hD rfl rfl) (fun t' k=>?_) hs
  have:=h t' k
  have e:Txt.slice (S [b]) (some 1) (some 2)=S []:=by
   unfold Txt.slice
   rw [S_len]
   rfl
  rw [List.take_nil,← e] at this
  exact this
 | cons c r=>exact slcInS 1 2 rfl rfl hx (by decide) (by simp) hD h hs
theorem splitroot_spec (T:TK w mg s.heap) (ha:mg "splitroot" = some (.ref a)) (R:Room A 3) {y:List Nat} {t:Tok} (hy:y.head?≠some 47) (hx:y.length≤10000) :
  wpAny (model prog w) A (call (.ref a) [.str (S (47::y)) t]) (fun v s'=>(∃ D t₀ t₁ t₂,v=.ref D∧s'.heap.get? D=some { cls:=.type "tuple", data:=.seq #[.str (S []) t₀,.str (S [47]) t₁,.str (S y) t₂] })∧Keeps s s') E s:=by
 obtain ⟨f1,hf1⟩:=T.addr F_fspath
 refine enter F_splitroot T ha R.lim (binds:=[("p", .str (S (47::y)) t)]) (fun _ _ _=>BindsTo.of_eq rfl) (locs rfl) rfl fun cd h₁ F₀=>?_
 have F:=St.init F₀
 replace R:=R.deeper (env:=envOf "splitroot" F_splitroot.scope s.heap.objs.size a cd) (by decide:2+1≤3)
 generalize A.deeper (envOf "splitroot" F_splitroot.scope s.heap.objs.size a cd)=A at R ⊢
 clear F₀
 generalize hL:s.heap.objs.size=L at F ⊢
 clear hL
 have hx':(47::y).length≤100000:=by simp; exact q1 0x61a7c400271010001ea 1 3 (by kernel_rfl) hx
 refine stepO fun _ _ _ _=>?_
 walk_at "ms"
 refine useK F (fspath_spec (T.keeps F.keep) hf1 (R.le (by decide)) _ _) fun v h₂ tk₂ hv F₂ k₂=>?_
 subst hv
 walk_at "ms"
 intro h₃ F₃ _
 walk_at "ms"
 refine IsiPair.str_bytes ?_
 walk_at "ms"
 intro h₅ F₅ _
 walk_at "ms"
 intro h₆ F₆ _
 walk_at "ms"
 intro h₇ D hD hk hT
 have F₇:=F₆.keeps hk
 walk_at "ms"
 refine slcToS 1 rfl hx' (by simp) hT fun _ _=>?_
 walk_at "ms"
 refine if_bf (decide_eq_false (by simp)) ?_
 walk_at "ms"
 intro h₈ D hD hk hT
 have F₈:=F₇.keeps hk
 walk_at "ms"
 refine slc12S hx' hT fun _ _=>?_
 walk_at "ms"
 have hne:y.take 1≠[47]:=by
  cases y with
  | nil=>simp
  | cons b r=>intro e; simp at e hy; exact hy e
 refine if_bt (decide_eq_true hne) ?_
 walk_at "ms"
 intro h₉ D hD hk hT
 have F₉:=F₈.keeps hk
 walk_at "ms"
 refine slcFromS 1 rfl hx' (by simp) hT fun _ _=>?_
 walk_at "ms"
 refine ⟨szl (by simp),fun h₁₀ D hD hk hT=>?_⟩
 walk_at "ms"
 exact ⟨(w41 _ _ _ _ rfl hT),Keeps.mk' (F₉.keeps hk).keep⟩
end
noncomputable def Piece (p:List Nat):Prop:=p≠[]∧47∉p∧p≠[46]∧p≠[46,46]
theorem joinL_head {ps:List (List Nat)} (h:∀ p∈ps,Piece p):(joinL [47] ps).head?≠some 47:=by
 cases ps with
 | nil=>simp [joinL_n,joinL_1,joinL_c]
 | cons x r =>
  refine u02 (h x (by simp)) fun h1 h2 _=>?_
  cases x with
  | nil=>exact absurd rfl h1
  | cons b y =>
   have:b≠47:=fun e=>h2 (by simp [e])
   cases r <;> simpa [joinL_n,joinL_1,joinL_c] using this
noncomputable def pcs (ps:List (List Nat)):List (List Nat):=if ps=[] then [[]] else ps
set_option tactic.hygienic true in
theorem spl_pcs {ps:List (List Nat)} (h:∀ p∈ps,Piece p):spl 47 (joinL [47] ps)=pcs ps:=by
 unfold pcs
 split
 ·rename_i e; subst e; rfl
 ·exact spl_join (by assumption) fun p hp=>(h p hp).2.1
set_option tactic.hygienic true in
theorem pcs_filter {ps:List (List Nat)} (h:∀ p∈ps,Piece p):(pcs ps).filter (fun p=>decide (p≠[]))=ps:=by
 unfold pcs
 split
 ·rename_i e; subst e; rfl
 ·exact List.filter_eq_self.mpr fun p hp=>by simpa using (h p hp).1
theorem joinL_len {c:Nat}:∀ {ps:List (List Nat)} {n:Nat},(joinL [c] ps).length≤n→(ps.map (·.length)).sum+ps.length≤n+1
 | [],n,_=>by simp
 | [x],n,h=>by simpa [joinL_n,joinL_1,joinL_c] using h
 | x::y::r,n,h=>by
  have e:(joinL [c] (x::y::r)).length=x.length+1+(joinL [c] (y::r)).length:=by simp [joinL_n,joinL_1,joinL_c]; exact q2 0x84400844a30052002222 1 3 (by kernel_rfl)
  rw [e] at h
  have ih:=joinL_len (c:=c) (ps:=y::r) (n:=n-x.length-1) (by exact q3 0x8c00c62470050821100211222034a 1 38003 (by kernel_rfl) h)
  simp only [List.map_cons,List.sum_cons,List.length_cons] at ih ⊢
  exact q6 0x230031463401c860a0600c40044a4b4118c00c62464651a00e50300621923d07da821100211222034a 1 299634 (by kernel_rfl) h ih
theorem pcs_len {ps:List (List Nat)} {i:Nat} {x:List Nat} {n:Nat} (h:(pcs ps)[i]?=some x) (hn:(joinL [47] ps).length≤n):x.length≤n:=by
 have hm:=List.mem_of_getElem? h
 unfold pcs at hm
 split at hm
 ·simp at hm; subst hm; simp
 ·have h1:=joinL_len hn
  have h2:ps.length≠0:=by cases ps <;> simp at *
  have h3:x.length≤(ps.map (·.length)).sum:=le_sum_of_mem (List.mem_map_of_mem hm)
  exact q4 0x830060c01804ab0052816a8c00c5000211034a 1 242 (by kernel_rfl) h1 h2 h3
theorem pcs_card {ps:List (List Nat)} {n:Nat} (hn:(joinL [47] ps).length≤n):(pcs ps).length≤n+1:=by
 have h1:=joinL_len hn
 unfold pcs
 split
 ·simp
 ·exact q3 0x8c00c500508c00c5000211034a 1 3 (by kernel_rfl) h1
section
variable {prog:Program} {w:World} {mg:Str→Option Value} {A:Around} {E:Value→Shared→Prop} {s:Shared} {a:Addr}
theorem normpath_spec (T:TK w mg s.heap) (ha:mg "normpath" = some (.ref a)) (R:Room A 5) {ps:List (List Nat)} {t:Tok} (hp:∀ p∈ps,Piece p) (hx₀:(joinL [47] ps).length≤10000) :
  wpAny (model prog w) A (call (.ref a) [.str (S (47::joinL [47] ps)) t]) (fun v s'=>(∃ t',v=.str (S (47::joinL [47] ps)) t')∧Keeps s s') E s:=by
 obtain ⟨f1,hf1⟩:=T.addr F_fspath
 obtain ⟨f2,hf2⟩:=T.addr F_splitroot
 refine enter F_normpath T ha R.lim (binds:=[("path", .str (S (47::joinL [47] ps)) t)]) (fun _ _ _=>BindsTo.of_eq rfl) (locs rfl) rfl fun cd h₁ F₀=>?_
 have F:=St.init F₀
 replace R:=R.deeper (env:=envOf "normpath" F_normpath.scope s.heap.objs.size a cd) (by decide:4+1≤5)
 generalize A.deeper (envOf "normpath" F_normpath.scope s.heap.objs.size a cd)=A at R ⊢
 clear F₀
 generalize hL:s.heap.objs.size=L at F ⊢
 clear hL
 have hx':(47::joinL [47] ps).length≤100000:=by simp; exact q1 0x61a7c400271010001ea 1 3 (by kernel_rfl) hx₀
 refine stepO fun _ _ _ _=>?_
 walk_at "ms"
 refine useK F (fspath_spec (T.keeps F.keep) hf1 (R.le (by decide)) _ _) fun v h₂ tk₂ hv F₂ k₂=>?_
 subst hv
 walk_at "ms"
 intro h₃ F₃ _
 walk_at "ms"
 refine IsiPair.str_bytes ?_
 walk_at "ms"
 intro h₅ F₅ _
 walk_at "ms"
 intro h₆ F₆ _
 walk_at "ms"
 intro h₇ F₇ _
 walk_at "ms"
 refine tS hx' fun _=>?_
 rw [decide_eq_true (by simp)]
 walk_at "ms"
 refine asgTu3 R.hh ?_
 walk_at "ms"
 refine useK F₇ (splitroot_spec (T.keeps F₇.keep) hf2 (R.le (by decide)) (joinL_head hp) hx₀) fun v h₈ tk₈ hv F₈ k₈=>?_
 refine u41 hv fun D t₀ t₁ t₂ z0 hD=>?_; clear hv; subst z0
 refine (w42 D _ _ _ rfl (isTup_of' hD) (fun h₉ hk=>?_))
 have F₉:=F₈.keeps hk
 walk_at "ms"
 intro h₁₀ F₁₀ _
 walk_at "ms"
 intro h₁₁ F₁₁ _
 walk_at "ms"
 intro h₁₂ F₁₂ _
 walk_at "ms"
 refine splitS (by walk_at "li") fun C vs h₁₃ tk₁₃ hk hC hvs=>?_
 rw [spl_pcs hp] at hvs
 refine u12 ((F₁₂.keeps hk).withL hC noOwn) fun g₁ kg₁ hC F₁₃=>?_
 have T₁:=(T.keeps kg₁)
 walk_at "ms"
 intro h₁₄ F₁₄ _
 walk_at "ms"
 refine ⟨szl (by simp),fun h₁₅ N hN hk hT=>?_⟩
 have F₁₅:=F₁₄.own1 (items:=[]) hk hN ⟨_,hT⟩
 walk_at "ms"
 intro h₁₆ F₁₆ _
 walk_at "ms"
 refine wpAny_For ?_
 walk_at "ms"
 refine u11 (F₁₆.pickE ["dot", "dotdot", "initial_slashes", "new_comps", "sep"]) fun l₀ hl₀ F₁₇=>?_
 clear F₁₆ F₁₅ F₁₄ F₁₃ F₁₂ F₁₁ F₁₀ F₉ F₈ F₇ F₆ F₅ F₃ F₂ F
 refine itL (fun i l own=>l=l₀∧∃ items,own=[(N,items)]∧StrsAre items ((((pcs ps).take i).filter fun p=>decide (p≠[])).map S)) (fun _ _=>False) R.hh F₁₇ hC ⟨rfl,[],rfl,.nil⟩ ?_ ?_
 ·rintro i v l₁ own₁ g₂ h₁₇ tk₁₇ E' _ hQt hv ⟨rfl,items,rfl,hit⟩ kg₂ F
  subst hl₀
  refine u21 (strs_get hvs hv) fun x tx z0 hx=>?_; subst z0
  have hxl:x.length≤10000:=pcs_len hx hx₀
  walk_at "ms"
  refine tS (by walk_at "li") fun _=>?_
  by_cases hx0:x=[]
  ·subst hx0
   rw [decide_eq_false (by simp)]
   walk_at "ms"
   refine Turn.cont hQt ⟨rfl,items,rfl,?_⟩ (F.pick ["dot", "dotdot", "initial_slashes", "new_comps", "sep"] rfl)
   rw [take_snoc hx,List.filter_append]
   simpa using hit
  ·have hpx:x∈ps:=by
    have hm:=List.mem_of_getElem? hx
    unfold pcs at hm
    split at hm
    ·simp at hm; exact absurd hm hx0
    ·exact hm
   rw [decide_eq_true hx0]
   walk_at "ms"
   refine if_bf (decide_eq_false (hp x hpx).2.2.1) ?_
   walk_at "ms"
   refine if_bt (decide_eq_true (hp x hpx).2.2.2) ?_
   walk_at "ms"
   refine gmApp (F.ow (N,items) (by simp)).2.2 ?_
   walk_at "ms"
   refine appS (pre:=[]) F ?_ fun h₁₈ F₁₈ _=>?_
   ·rw [strsAre_len hit,List.length_map]
    exact Nat.le_trans (List.length_filter_le _ _) (Nat.le_trans (by rw [List.length_take]; exact Nat.min_le_right _ _) (Nat.le_trans (pcs_card hx₀) (by exact q0 0xc3500c67101122230 1 1 (by kernel_rfl))))
   walk_at "ms"
   refine Turn.go hQt ⟨rfl,items++[Value.str (S x) tx],rfl,?_⟩ (F₁₈.pick ["dot", "dotdot", "initial_slashes", "new_comps", "sep"] rfl)
   rw [take_snoc hx,List.filter_append,List.map_append]
   simp only [List.filter_cons,decide_eq_true hx0,List.filter_nil,if_true]
   exact strs_snoc hit
 ·rintro l₁ own₁ h₁₇ tk₁₇ (⟨rfl,items,rfl,hit⟩ | h) F
  case inr=>exact h.elim
  subst hl₀
  have hvl:vs.length=(pcs ps).length:=by rw [strsAre_len hvs,List.length_map]
  rw [hvl,List.take_length,pcs_filter hp] at hit
  walk_at "ms"
  intro h₁₈ F₁₈ _
  walk_at "ms"
  refine joinS (F₁₈.ow (N,items) (by simp)).2.2.isList hit (by simp) (by have:=joinL_len hx₀; exact q2 0x1e8480300021108ce202245000211040a 1 3 (by kernel_rfl) this) fun _ _=>?_
  walk_at "ms"
  refine addS (by simp; exact q1 0x186a00c414844271010001ea 1 3 (by kernel_rfl) hx₀) fun _ _=>?_
  walk_at "ms"
  intro h₁₉ F₁₉ _
  walk_at "ms"
  walk_at "ms"
  refine tS (by simp; exact q1 0x61a7c400271010001ea 1 3 (by kernel_rfl) hx₀) fun _=>?_
  refine if_bt (decide_eq_true (by simp)) ?_
  walk_at "ms"
  exact ⟨⟨_,rfl⟩,Keeps.mk' fun b o e=>F₁₉.keep b o (kg₁ b o e)⟩
theorem abspath_spec (T:TK w mg s.heap) (ha:mg "abspath" = some (.ref a)) (R:Room A 7) {ps:List (List Nat)} {t:Tok} (hp:∀ p∈ps,Piece p) (hx₀:(joinL [47] ps).length≤10000) :
  wpAny (model prog w) A (call (.ref a) [.str (S (47::joinL [47] ps)) t]) (fun v s'=>(∃ t',v=.str (S (47::joinL [47] ps)) t')∧Keeps s s') E s:=by
 obtain ⟨f1,hf1⟩:=T.addr F_fspath
 obtain ⟨f2,hf2⟩:=T.addr F_normpath
 refine enter F_abspath T ha R.lim (binds:=[("path", .str (S (47::joinL [47] ps)) t)]) (fun _ _ _=>BindsTo.of_eq rfl) (locs rfl) rfl fun cd h₁ F₀=>?_
 have F:=St.init F₀
 replace R:=R.deeper (env:=envOf "abspath" F_abspath.scope s.heap.objs.size a cd) (by decide:6+1≤7)
 generalize A.deeper (envOf "abspath" F_abspath.scope s.heap.objs.size a cd)=A at R ⊢
 clear F₀
 generalize hL:s.heap.objs.size=L at F ⊢
 clear hL
 refine stepO fun _ _ _ _=>?_
 walk_at "ms"
 refine useK F (fspath_spec (T.keeps F.keep) hf1 (R.le (by decide)) _ _) fun v h₂ tk₂ hv F₂ k₂=>?_
 subst hv
 walk_at "ms"
 intro h₃ F₃ _
 walk_at "ms"
 refine IsiPair.str_bytes ?_
 walk_at "ms"
 rw [show List.isPrefixOf [47] (47::joinL [47] ps)=true from by simp]
 walk_at "ms"
 refine useK F₃ (normpath_spec (T.keeps F₃.keep) hf2 (R.le (by decide)) hp hx₀) fun v h₂ tk₂ hv F₄ k₂=>?_
 obtain ⟨t',rfl⟩:=hv
 walk_at "ms"
 exact ⟨⟨_,rfl⟩,Keeps.mk' F₄.keep⟩
end
section
open PySem.AutoSeq1 (wpAny_loadPart')
open PySem.SeqAt PySem.MeetsSeq PySem.MeetsSeq2 PySem.MeetsSeq3 PySem.SeqRoads2
noncomputable def cmpRes (e c:Nat→Bool) (fin:Bool):Nat→Nat→Bool
 | 0,_=>fin
 | k+1,i=>if e i then cmpRes e c fin k (i+1) else c i
theorem cmpRes_n {e c:Nat→Bool} {f:Bool} {i:Nat}:cmpRes e c f 0 i=f:=rfl
theorem cmpRes_c {e c:Nat→Bool} {f:Bool} {k i:Nat}:cmpRes e c f (k+1) i=if e i then cmpRes e c f k (i+1) else c i:=rfl
noncomputable def CmpAt (op:CmpOp) (A:Around) (s:Shared) (y x:Value) (b:Bool):Prop :=
 ∀ (prog:Program) (w:World) (E:Value→Shared→Prop) (Q:Value→Shared→Prop),Q (.bool b) s→wpAny (model prog w) A (richCompare op y x) Q E s
theorem lt_loopB (l b:Addr) (items items2:Array Value) (n n2:Nat) (dd dd2:Option Addr) (sl sl2:Array (Option Value)) (e c:Nat→Bool) (k:Nat) :
  ∀ i:Nat,min items.size items2.size-i=k→(∀ q<i,e q=true)→Meets (Builtin.«list.__eq__.loop» ⟨[.ref l,.ref b,rawInt i,rawInt 0],[]⟩)
   (fun A R s=>s.heap.get? l=some { cls:=.type "list", dict:=dd,data:=.seq items n,slots:=sl }∧s.heap.get? b=some { cls:=.type "list", dict:=dd2,data:=.seq items2 n2,slots:=sl2 } ∧
    (∀ j (h1:j<items.size) (h2:j<items2.size),EqAt A.in1 s items[j] items2[j] (e j)∧((∀ q<j,e q=true)→e j=false→CmpAt .Lt A.in1 s items[j] items2[j] (c j))) ∧
    R (.ok (.ret (.bool (cmpRes e c (decide (items.size<items2.size)) k i)))) s):=by
 induction k with
 | zero =>
  intro i hk hpre prog w A R s h
  obtain ⟨hp,g,d,tk,os⟩:=s; obtain ⟨hl,hb,he,h⟩:=h
  wp_walk using wpAny_loadPart' hl,wpAny_loadPart' hb
  have hor:items[((i:Nat):Int).toNat]?=none∨items2[((i:Nat):Int).toNat]?=none:=by
   rcases Nat.le_total items.size items2.size with q | q
   ·left; simp; exact q3 0x40001000011ac1000611323230a 1 13834529 (by kernel_rfl) hk q
   ·right; simp; exact q3 0x8200a1005011ac1000611323230a 1 9575729 (by kernel_rfl) hk q
  cases h1:items[((i:Nat):Int).toNat]? with
  | none =>
   wp_walk using wpAny_loadPart' hl,wpAny_loadPart' hb
   try exact h
  | some x =>
   have h2:items2[((i:Nat):Int).toNat]?=none:=by rcases hor with q | q; rw [h1] at q; cases q; exact q
   rw [h2]
   wp_walk using wpAny_loadPart' hl,wpAny_loadPart' hb
   try exact h
 | succ k ih =>
  intro i hk hpre prog w A R s h
  obtain ⟨hp,g,d,tk,os⟩:=s; obtain ⟨hl,hb,he,h⟩:=h
  wp_walk using wpAny_loadPart' hl,wpAny_loadPart' hb
  have hlt:i<items.size:=by exact q4 0x801863803141000611323246a 1 92242 (by kernel_rfl) hk
  have hlt2:i<items2.size:=by exact q4 0x10801863803141000611323246a 1 84058 (by kernel_rfl) hk
  have hi1:items[((i:Nat):Int).toNat]?=some items[i]:=by simp [hlt]
  have hi2:items2[((i:Nat):Int).toNat]?=some items2[i]:=by simp [hlt2]
  have hc:((i:Int)+1)=((i+1:Nat):Int):=by push_cast; rfl
  rw [hi1,hi2]
  refine wpAny_bind ((he i hlt hlt2).1 prog w _ _ ?_)
  cases hb':e i with
  | true =>
   rw [cmpRes_c,hb'] at h
   wp_walk
   rw [hc]
   exact ⟨plainId_quiet plain_eq_loop _,codeAny_builtin entry_eq_loop (by
    rw [Around.under_plainId plain_eq_loop _]
    exact ih (i+1) (by exact q4 0xc2300314001844cd0a3803141000611323246a 1 0x490164049016420448516449d1a0590124059012421448117469912 (by kernel_rfl) hk) (fun q hq=>by rcases Nat.lt_succ_iff_lt_or_eq.mp hq with h | h; exact hpre q h; rw [h]; exact hb') prog w A R _ ⟨hl,hb,he,by simpa using h⟩)⟩
  | false =>
   rw [cmpRes_c,hb'] at h
   wp_walk using wpAny_loadPart' hl,wpAny_loadPart' hb
   rw [hi1,hi2]
   refine wpAny_bind ((he i hlt hlt2).2 hpre hb' prog w _ _ ?_)
   wp_walk
   simpa using h
theorem gt_loopAt (l b:Addr) (items items2:Array Value) (n n2:Nat) (dd dd2:Option Addr) (sl sl2:Array (Option Value)) (e c:Nat→Bool) (k:Nat) :
  ∀ i:Nat,min items.size items2.size-i=k→Meets (Builtin.«list.__eq__.loop» ⟨[.ref l,.ref b,rawInt i,rawInt 4],[]⟩)
   (fun A R s=>s.heap.get? l=some { cls:=.type "list", dict:=dd,data:=.seq items n,slots:=sl }∧s.heap.get? b=some { cls:=.type "list", dict:=dd2,data:=.seq items2 n2,slots:=sl2 } ∧
    (∀ j (h1:j<items.size) (h2:j<items2.size),EqAt A.in1 s items[j] items2[j] (e j)∧(e j=false→CmpAt .Gt A.in1 s items[j] items2[j] (c j))) ∧
    R (.ok (.ret (.bool (cmpRes e c (decide (items.size>items2.size)) k i)))) s):=by
 induction k with
 | zero =>
  intro i hk prog w A R s h
  obtain ⟨hp,g,d,tk,os⟩:=s; obtain ⟨hl,hb,he,h⟩:=h
  wp_walk using wpAny_loadPart' hl,wpAny_loadPart' hb
  have hor:items[((i:Nat):Int).toNat]?=none∨items2[((i:Nat):Int).toNat]?=none:=by
   rcases Nat.le_total items.size items2.size with q | q
   ·left; simp; exact q3 0x40001000011ac1000611323230a 1 13834529 (by kernel_rfl) hk q
   ·right; simp; exact q3 0x8200a1005011ac1000611323230a 1 9575729 (by kernel_rfl) hk q
  cases h1:items[((i:Nat):Int).toNat]? with
  | none =>
   wp_walk using wpAny_loadPart' hl,wpAny_loadPart' hb
   try exact h
  | some x =>
   have h2:items2[((i:Nat):Int).toNat]?=none:=by rcases hor with q | q; rw [h1] at q; cases q; exact q
   rw [h2]
   wp_walk using wpAny_loadPart' hl,wpAny_loadPart' hb
   try exact h
 | succ k ih =>
  intro i hk prog w A R s h
  obtain ⟨hp,g,d,tk,os⟩:=s; obtain ⟨hl,hb,he,h⟩:=h
  wp_walk using wpAny_loadPart' hl,wpAny_loadPart' hb
  have hlt:i<items.size:=by exact q4 0x801863803141000611323246a 1 92242 (by kernel_rfl) hk
  have hlt2:i<items2.size:=by exact q4 0x10801863803141000611323246a 1 84058 (by kernel_rfl) hk
  have hi1:items[((i:Nat):Int).toNat]?=some items[i]:=by simp [hlt]
  have hi2:items2[((i:Nat):Int).toNat]?=some items2[i]:=by simp [hlt2]
  have hc:((i:Int)+1)=((i+1:Nat):Int):=by push_cast; rfl
  rw [hi1,hi2]
  refine wpAny_bind ((he i hlt hlt2).1 prog w _ _ ?_)
  cases hb':e i with
  | true =>
   rw [cmpRes_c,hb'] at h
   wp_walk
   rw [hc]
   exact ⟨plainId_quiet plain_eq_loop _,codeAny_builtin entry_eq_loop (by
    rw [Around.under_plainId plain_eq_loop _]
    exact ih (i+1) (by exact q4 0xc2300314001844cd0a3803141000611323246a 1 0x490164049016420448516449d1a0590124059012421448117469912 (by kernel_rfl) hk) prog w A R _ ⟨hl,hb,he,by simpa using h⟩)⟩
  | false =>
   rw [cmpRes_c,hb'] at h
   wp_walk using wpAny_loadPart' hl,wpAny_loadPart' hb
   rw [hi1,hi2]
   refine wpAny_bind ((he i hlt hlt2).2 hb' prog w _ _ ?_)
   wp_walk
   simpa using h
theorem list_ltB (l b:Addr) (items items2:Array Value) (n n2:Nat) (dd dd2:Option Addr) (sl sl2:Array (Option Value)) (e c:Nat→Bool) :
  Meets (Builtin.«list.__lt__» ⟨[.ref l,.ref b],[]⟩)
   (fun A R s=>s.heap.get? l=some { cls:=.type "list", dict:=dd,data:=.seq items n,slots:=sl }∧s.heap.get? b=some { cls:=.type "list", dict:=dd2,data:=.seq items2 n2,slots:=sl2 } ∧
    (∀ j (h1:j<items.size) (h2:j<items2.size),EqAt A.in1 s items[j] items2[j] (e j)∧((∀ q<j,e q=true)→e j=false→CmpAt .Lt A.in1 s items[j] items2[j] (c j))) ∧
    R (.ok (.ret (.bool (cmpRes e c (decide (items.size<items2.size)) (min items.size items2.size) 0)))) s):=by
 intro prog w A R s h
 obtain ⟨hp,g,d,tk,os⟩:=s; obtain ⟨hl,hb,he,h⟩:=h
 have f3:=AutoSeq1.sub_list_list
 wp_walk using wpAny_loadPart' hl,wpAny_loadPart' hb
 exact ⟨plainId_quiet plain_eq_loop _,codeAny_builtin entry_eq_loop (by
  rw [Around.under_plainId plain_eq_loop _]
  exact lt_loopB l b items items2 n n2 dd dd2 sl sl2 e c _ 0 rfl (fun _ h=>absurd h (Nat.not_lt_zero _)) prog w A R _ ⟨hl,hb,he,by simpa using h⟩)⟩
theorem ltListsB {A:Around} {s:Shared} {l b:Addr} {items items2:Array Value} {e c:Nat→Bool} (hl:s.heap.IsList l items) (hb:s.heap.IsList b items2) (hu:A.units<cLine)
  (he:∀ j (h1:j<items.size) (h2:j<items2.size),EqAt A.in1 s items[j] items2[j] (e j)∧((∀ q<j,e q=true)→e j=false→CmpAt .Lt A.in1 s items[j] items2[j] (c j))) :
  CmpAt .Lt A s (.ref l) (.ref b) (cmpRes e c (decide (items.size<items2.size)) (min items.size items2.size) 0):=fun prog w E Q h=>by
 refine u12 (id hl) fun z0 ho hc z1=>?_; obtain ⟨cls,dd,data,sl⟩:=z0; obtain ⟨n,hd⟩:=z1
 refine u12 (id hb) fun z0 ho2 hc2 z1=>?_; obtain ⟨cls2,dd2,data2,sl2⟩:=z0; obtain ⟨n2,hd2⟩:=z1
 simp only at hc hd hc2 hd2
 subst hc hd hc2 hd2
 exact richCompare_meets_room (op:=.Lt) (w11 _ ho rfl) (w11 _ ho2 rfl) F.slot_list_lt F.entry_list_lt (F.args_list_lt_2 _ _) (list_ltB l b items items2 n n2 dd dd2 sl sl2 e c)
  ⟨ho,ho2,he,show Value.bool _≠Value.notImplemented∧Q (.bool _) s from ⟨(fun x=>nomatch x),h⟩⟩ hu
theorem list_gtAt (l b:Addr) (items items2:Array Value) (n n2:Nat) (dd dd2:Option Addr) (sl sl2:Array (Option Value)) (e c:Nat→Bool) :
  Meets (Builtin.«list.__gt__» ⟨[.ref l,.ref b],[]⟩)
   (fun A R s=>s.heap.get? l=some { cls:=.type "list", dict:=dd,data:=.seq items n,slots:=sl }∧s.heap.get? b=some { cls:=.type "list", dict:=dd2,data:=.seq items2 n2,slots:=sl2 } ∧
    (∀ j (h1:j<items.size) (h2:j<items2.size),EqAt A.in1 s items[j] items2[j] (e j)∧(e j=false→CmpAt .Gt A.in1 s items[j] items2[j] (c j))) ∧
    R (.ok (.ret (.bool (cmpRes e c (decide (items.size>items2.size)) (min items.size items2.size) 0)))) s):=by
 intro prog w A R s h
 obtain ⟨hp,g,d,tk,os⟩:=s; obtain ⟨hl,hb,he,h⟩:=h
 have f3:=AutoSeq1.sub_list_list
 wp_walk using wpAny_loadPart' hl,wpAny_loadPart' hb
 exact ⟨plainId_quiet plain_eq_loop _,codeAny_builtin entry_eq_loop (by
  rw [Around.under_plainId plain_eq_loop _]
  exact gt_loopAt l b items items2 n n2 dd dd2 sl sl2 e c _ 0 rfl prog w A R _ ⟨hl,hb,he,by simpa using h⟩)⟩
theorem CmpAt.gtLists {A:Around} {s:Shared} {l b:Addr} {items items2:Array Value} {e c:Nat→Bool} (hl:s.heap.IsList l items) (hb:s.heap.IsList b items2) (hu:A.units<cLine)
  (he:∀ j (h1:j<items.size) (h2:j<items2.size),EqAt A.in1 s items[j] items2[j] (e j)∧(e j=false→CmpAt .Gt A.in1 s items[j] items2[j] (c j))) :
  CmpAt .Gt A s (.ref l) (.ref b) (cmpRes e c (decide (items.size>items2.size)) (min items.size items2.size) 0):=fun prog w E Q h=>by
 refine u12 (id hl) fun z0 ho hc z1=>?_; obtain ⟨cls,dd,data,sl⟩:=z0; obtain ⟨n,hd⟩:=z1
 refine u12 (id hb) fun z0 ho2 hc2 z1=>?_; obtain ⟨cls2,dd2,data2,sl2⟩:=z0; obtain ⟨n2,hd2⟩:=z1
 simp only at hc hd hc2 hd2
 subst hc hd hc2 hd2
 exact richCompare_meets_room (op:=.Gt) (w11 _ ho rfl) (w11 _ ho2 rfl) F.slot_list_gt F.entry_list_gt (F.args_list_gt_2 _ _) (list_gtAt l b items items2 n n2 dd dd2 sl sl2 e c)
  ⟨ho,ho2,he,show Value.bool _≠Value.notImplemented∧Q (.bool _) s from ⟨(fun x=>nomatch x),h⟩⟩ hu
end
section
theorem codeAny_min_loop {prog:Program} {w:World} {A:Around} {R:Result→Shared→Prop} {I:Addr} {fp wr:List Addr} {n:Nat} {P:Nat→Value→Prop} {St:Nat→Heap→Prop}
  (W:Walks prog w A.in1 I fp wr n P St) (bt:Nat→Nat→Bool) (K:Heap→Prop) (S:Addr) (hSf:S∉fp) (hK:∀ h h':Heap,(∀ b o,b∉wr→b≠S→h.get? b=some o→h'.get? b=some o)→K h→K h')
  (hcmp:∀ i j vi vj s',K s'.heap→P i vi→P j vj→CmpAt .Lt A.in1 s' vi vj (bt i j)) :
  ∀ (k j:Nat) (s:Shared) (vb:Value) (c:Nat),n-(j+1)=k→j+1≤n→St (j+1) s.heap→K s.heap→P (argBest bt j) vb →
  s.heap.get? S=some { cls:=.type "list", dict:=none,data:=.seq #[vb,vb] c,slots:=#[] } →
  (∀ v h' tk,P (argBest bt (n-1)) v→(∀ b o,b∉wr→b≠S→s.heap.get? b=some o→h'.get? b=some o)→R (.ok (.ret v)) { s with heap:=h',toks:=tk }) →
  codeAny (model prog w) A (.builtin "min.loop" ⟨[.ref I,.none,.ref S],[]⟩) R s:=by
 have hSw:S∉wr:=fun h=>hSf (W.sub _ h)
 have hname:(toString "min" ++ toString ".loop" : String) = "min.loop" := by decide
 intro k
 induction k with
 | zero =>
  intro j s vb c hk hj hst hKs hPb hS hR
  have hin:j+1=n:=by exact q2 0x4600a42c5180290b01156300520032222fa 1 807505 (by kernel_rfl) hk hj
  refine codeAny_builtin F.entry_min_loop ?_
  rw [Around.under_plainId F.plain_min_loop _]
  show wpAny _ A.in1 (seqItems? (.ref S) >>= _) _ _ s
  refine wpAny_bind (wpAny_seqItems hS rfl ?_)
  show wpAny _ A.in1 (tryCatch (pyNext (.ref I)) _ >>= _) _ _ s
  refine wpAny_bind (wpAny_tryCatch (W.done s _ _ (hin▸hst) fun h' tk hk'=>?_))
  have hS':=hk' S _ hSw hS
  show wpAny _ A.in1 (updateSeq S (fun _=>#[]) >>= _) _ _ _
  refine wpAny_bind ?_
  refine wpAny_updateSeq hS' rfl (wpAny_bind (wpAny_letGo (wpAny_pure ?_)))
  refine hR vb _ tk (by rw [← hin]; exact hPb) fun b o hbw hbS e=>(Heap.get?_update_other _ _ (Ne.symm hbS)).trans (hk' b o hbw e)
 | succ k ih =>
  intro j s vb c hk hj hst hKs hPb hS hR
  have hlt:j+1<n:=by exact q3 0x4600a42c318018a3005200322245a 1 42 (by kernel_rfl) hk
  refine codeAny_builtin F.entry_min_loop ?_
  rw [Around.under_plainId F.plain_min_loop _]
  show wpAny _ A.in1 (seqItems? (.ref S) >>= _) _ _ s
  refine wpAny_bind (wpAny_seqItems hS rfl ?_)
  show wpAny _ A.in1 (tryCatch (pyNext (.ref I)) _ >>= _) _ _ s
  refine wpAny_bind (wpAny_tryCatch (W.item (j+1) s _ _ hlt hst fun v h' tk hP hst' hk'=>?_))
  have hS':=hk' S _ hSw hS
  have hK':K h':=hK _ _ (fun b o hb _ e=>hk' b o hb e) hKs
  show wpAny _ A.in1 (tryCatch (holding [v,v] (richCompare .Lt v vb >>= _)) _ >>= _) _ _ _
  refine wpAny_bind (wpAny_tryCatch (wpAny_holding (wpAny_bind (hcmp (j+1) (argBest bt j) v vb _ hK' hP hPb prog w _ _ ?_))))
  refine wpAny_bind (wpAny_holding (wpAny_truthy_bool ?_))
  refine wpAny_bind (wpAny_letGo (wpAny_pure ?_))
  cases hb:bt (j+1) (argBest bt j) with
  | true =>
   simp -iota only [if_true]
   refine wpAny_bind ?_
   refine wpAny_updateSeq hS' rfl (wpAny_bind (wpAny_letGo ?_))
   rw [hname]
   refine wpAny_pure ⟨plainId_quiet F.plain_min_loop _,ih (j+1) _ v _ (by exact q3 0x208c600a42c400666518018a3005200322245a 1 0x150544274a (by kernel_rfl) hk) hlt (W.frame _ _ _ hst' fun b hbf o e=>?_) (hK _ _ (fun b o _ hbS e=>(Heap.get?_update_other _ _ (Ne.symm hbS)).trans e) hK') (by simp -iota only [argBest,hb,if_true]; exact hP) (Heap.get?_update_self _ hS' rfl)
    fun v' h'' tk'' hP' hk''=>?_⟩
   ·exact (Heap.get?_update_other _ _ (fun h:S=b=>hSf (by rw [h]; exact hbf))).trans e
   ·exact hR v' h'' tk'' hP' fun b o hbw hbS e=>hk'' b o hbw hbS ((Heap.get?_update_other _ _ (Ne.symm hbS)).trans (hk' b o hbw e))
  | false =>
   simp -iota only [Bool.false_eq_true,if_false]
   refine wpAny_bind (wpAny_letGo ?_)
   rw [hname]
   refine wpAny_pure ⟨plainId_quiet F.plain_min_loop _,ih (j+1) _ vb c (by exact q3 0x208c600a42c400666518018a3005200322245a 1 0x150544274a (by kernel_rfl) hk) hlt hst' hK' (by simp -iota only [argBest,hb,Bool.false_eq_true,if_false]; exact hPb) hS' fun v' h'' tk'' hP' hk''=>?_⟩
   exact hR v' h'' tk'' hP' fun b o hbw hbS e=>hk'' b o hbw hbS (hk' b o hbw e)
theorem minL {prog:Program} {w:World} {A:Around} {E:Value→Shared→Prop} {s:Shared} {D:Addr} {vs:List Value} {Q:Value→Shared→Prop} (hh:A.handled=none) (bt:Nat→Nat→Bool)
  (hl:s.heap.IsList D vs.toArray) (hn:0<vs.length)
  (hcmp:∀ i j vi vj s',Kp s.heap s'.heap→vs[i]?=some vi→vs[j]?=some vj→CmpAt .Lt A.in1 s' vi vj (bt i j))
  (h:∀ v h' tk,vs[argBest bt (vs.length-1)]?=some v→Kp s.heap h'→Q v { s with heap:=h',toks:=tk }) :
  wpAny (model prog w) A (call (.builtin "min") [.ref D]) Q E s:=by
 have hname:(toString "min" ++ toString ".loop" : String) = "min.loop" := by decide
 refine call_function_tree F.kind_min F.plain_min F.entry_min (F.args_min1 _) ?_
 show wpAny _ A.in1 (Builtin.Builtins.bindParams "min" ["key", "default"] 0 ⟨[],[]⟩ >>= _) _ _ s
 refine wpAny_bind (wpAny_of_eq (show Builtin.Builtins.bindParams "min" ["key", "default"] 0 ⟨[],[]⟩=pure [none,none] from rfl) ?_)
 refine wpAny_bind (wpAny_pure ?_)
 refine u11 (id hl) fun o ho r=>?_
 have hlt:=Heap.lt_size ho
 refine wpAny_bind (wpAny_pyIter_list hl ?_)
 refine wpAny_bind (wpAny_newObj_type ?_)
 generalize hH:s.heap.push { cls:=.type "list_iterator", data:=.fields #[.ref D,.int 0 0] }=H1
 have k1:Kp s.heap H1:=fun b o e=>hH▸Heap.get?_push_of_some _ e
 have hsz:H1.objs.size=s.heap.objs.size+1:=by rw [← hH,Heap.size_push]
 have W:=Walks.list (prog:=prog) (w:=w) (A:=A.in1) hh s.heap.objs.size D (Nat.ne_of_lt hlt) vs.toArray
 have hSf:H1.objs.size∉[s.heap.objs.size,D]:=by
  intro hm
  have h1:@LT.lt Nat _ D s.heap.objs.size:=hlt
  rcases List.mem_cons.mp hm with e | hm
  ·have e':@Eq Nat _ _:=e
   exact q2 0x4c000846a3005200222a 1 6 (by kernel_rfl) hsz e
  ·have e':@Eq Nat _ _:=List.mem_singleton.mp hm
   exact q3 0x4c00042550801845ea3005200222a 1 14 (by kernel_rfl) hsz h1 e'
 have hW0:H1.IsListIter s.heap.objs.size D 0∧H1.IsList D vs.toArray:=⟨(w12 _ (by rw [← hH]; exact Heap.get?_push_size _ rfl) rfl rfl),hl.at fun o e=>k1 _ _ e⟩
 show wpAny _ A.in1 (pure (Fin.again (.builtin (toString "min" ++ toString ".loop") ⟨[.ref s.heap.objs.size,.none,.ref H1.objs.size],[]⟩))) _ _ _
 rw [hname]
 have hS1:(H1.push { cls:=.type "list", dict:=none,data:=.seq ([]:List Value).toArray }).get? H1.objs.size=some { cls:=.type "list", dict:=none,data:=.seq #[],slots:=#[] }:=Heap.get?_push_size _ rfl
 have k2:Kp H1 (H1.push { cls:=.type "list", dict:=none,data:=.seq ([]:List Value).toArray }):=fun b o e=>Heap.get?_push_of_some _ e
 refine wpAny_pure ⟨plainId_quiet F.plain_min_loop _,?_⟩
 refine codeAny_builtin F.entry_min_loop ?_
 rw [Around.under_plainId F.plain_min_loop _]
 show wpAny _ A.in1 (seqItems? (.ref H1.objs.size) >>= _) _ _ _
 refine wpAny_bind (wpAny_seqItems hS1 rfl ?_)
 show wpAny _ A.in1 (tryCatch (pyNext (.ref s.heap.objs.size)) _ >>= _) _ _ _
 have hSw:H1.objs.size∉[s.heap.objs.size]:=fun h=>hSf (W.sub _ h)
 have hsw:∀ b o,s.heap.get? b=some o→b∉[s.heap.objs.size]:=fun b o e hb=>by rw [List.mem_singleton.mp hb,Heap.get?_none_of_le (Nat.le_refl _)] at e; cases e
 have hsS:∀ b o,s.heap.get? b=some o→b≠H1.objs.size:=fun b o e hb=>by
  have h1:=Heap.lt_size e
  have h2:@Eq Nat _ _:=hb
  have h1':@LT.lt Nat _ _ _:=h1
  exact q3 0x4c2006117a801884aa3005200222a 1 26 (by kernel_rfl) hsz h2 h1'
 refine wpAny_bind (wpAny_tryCatch (W.item 0 _ _ _ (by simpa using hn) (W.frame 0 _ _ hW0 fun b _ o e=>k2 b o e) fun v h' tk hP hst' hk'=>?_))
 have hS':=hk' _ _ hSw hS1
 show wpAny _ A.in1 (updateSeq H1.objs.size (fun _=>#[v,v]) >>= _) _ _ _
 refine wpAny_bind ?_
 refine wpAny_updateSeq hS' rfl ?_
 rw [hname]
 have hKp:Kp s.heap h':=fun b o e=>hk' b o (hsw b o e) (k2 b o (k1 b o e))
 refine wpAny_pure ⟨plainId_quiet F.plain_min_loop _,codeAny_min_loop W bt (fun h=>Kp s.heap h) H1.objs.size hSf (fun h h' hk hK b o e=>hk b o (hsw b o e) (hsS b o e) (hK b o e))
  (fun i j vi vj s' hK hi hj=>hcmp i j vi vj s' hK (by simpa using hi) (by simpa using hj)) _ 0 _ v _ rfl (by rw [List.size_toArray]; exact hn) (W.frame _ _ _ hst' fun b hbf o e=>?_) ?_ hP (Heap.get?_update_self _ hS' rfl) fun v' h'' tk'' hP' hk''=>?_⟩
 ·exact (Heap.get?_update_other _ _ (fun h:H1.objs.size=b=>hSf (by rw [h]; exact hbf))).trans e
 ·intro b o e
  exact (Heap.get?_update_other _ _ (Ne.symm (hsS b o e))).trans (hKp b o e)
 ·exact h v' h'' tk'' (by simpa using hP') fun b o e=>hk'' b o (hsw b o e) (hsS b o e) ((Heap.get?_update_other _ _ (Ne.symm (hsS b o e))).trans (hKp b o e))
theorem codeAny_max_loop {prog:Program} {w:World} {A:Around} {R:Result→Shared→Prop} {I:Addr} {fp wr:List Addr} {n:Nat} {P:Nat→Value→Prop} {St:Nat→Heap→Prop}
  (W:Walks prog w A.in1 I fp wr n P St) (bt:Nat→Nat→Bool) (K:Heap→Prop) (S:Addr) (hSf:S∉fp) (hK:∀ h h':Heap,(∀ b o,b∉wr→b≠S→h.get? b=some o→h'.get? b=some o)→K h→K h')
  (hcmp:∀ i j vi vj s',K s'.heap→P i vi→P j vj→CmpAt .Gt A.in1 s' vi vj (bt i j)) :
  ∀ (k j:Nat) (s:Shared) (vb:Value) (c:Nat),n-(j+1)=k→j+1≤n→St (j+1) s.heap→K s.heap→P (argBest bt j) vb →
  s.heap.get? S=some { cls:=.type "list", dict:=none,data:=.seq #[vb,vb] c,slots:=#[] } →
  (∀ v h' tk,P (argBest bt (n-1)) v→(∀ b o,b∉wr→b≠S→s.heap.get? b=some o→h'.get? b=some o)→R (.ok (.ret v)) { s with heap:=h',toks:=tk }) →
  codeAny (model prog w) A (.builtin "max.loop" ⟨[.ref I,.none,.ref S],[]⟩) R s:=by
 have hSw:S∉wr:=fun h=>hSf (W.sub _ h)
 have hname:(toString "max" ++ toString ".loop" : String) = "max.loop" := by decide
 intro k
 induction k with
 | zero =>
  intro j s vb c hk hj hst hKs hPb hS hR
  have hin:j+1=n:=by exact q2 0x4600a42c5180290b01156300520032222fa 1 807505 (by kernel_rfl) hk hj
  refine codeAny_builtin F.entry_max_loop ?_
  rw [Around.under_plainId F.plain_max_loop _]
  show wpAny _ A.in1 (seqItems? (.ref S) >>= _) _ _ s
  refine wpAny_bind (wpAny_seqItems hS rfl ?_)
  show wpAny _ A.in1 (tryCatch (pyNext (.ref I)) _ >>= _) _ _ s
  refine wpAny_bind (wpAny_tryCatch (W.done s _ _ (hin▸hst) fun h' tk hk'=>?_))
  have hS':=hk' S _ hSw hS
  show wpAny _ A.in1 (updateSeq S (fun _=>#[]) >>= _) _ _ _
  refine wpAny_bind ?_
  refine wpAny_updateSeq hS' rfl (wpAny_bind (wpAny_letGo (wpAny_pure ?_)))
  refine hR vb _ tk (by rw [← hin]; exact hPb) fun b o hbw hbS e=>(Heap.get?_update_other _ _ (Ne.symm hbS)).trans (hk' b o hbw e)
 | succ k ih =>
  intro j s vb c hk hj hst hKs hPb hS hR
  have hlt:j+1<n:=by exact q3 0x4600a42c318018a3005200322245a 1 42 (by kernel_rfl) hk
  refine codeAny_builtin F.entry_max_loop ?_
  rw [Around.under_plainId F.plain_max_loop _]
  show wpAny _ A.in1 (seqItems? (.ref S) >>= _) _ _ s
  refine wpAny_bind (wpAny_seqItems hS rfl ?_)
  show wpAny _ A.in1 (tryCatch (pyNext (.ref I)) _ >>= _) _ _ s
  refine wpAny_bind (wpAny_tryCatch (W.item (j+1) s _ _ hlt hst fun v h' tk hP hst' hk'=>?_))
  have hS':=hk' S _ hSw hS
  have hK':K h':=hK _ _ (fun b o hb _ e=>hk' b o hb e) hKs
  show wpAny _ A.in1 (tryCatch (holding [v,v] (richCompare .Gt v vb >>= _)) _ >>= _) _ _ _
  refine wpAny_bind (wpAny_tryCatch (wpAny_holding (wpAny_bind (hcmp (j+1) (argBest bt j) v vb _ hK' hP hPb prog w _ _ ?_))))
  refine wpAny_bind (wpAny_holding (wpAny_truthy_bool ?_))
  refine wpAny_bind (wpAny_letGo (wpAny_pure ?_))
  cases hb:bt (j+1) (argBest bt j) with
  | true =>
   simp -iota only [if_true]
   refine wpAny_bind ?_
   refine wpAny_updateSeq hS' rfl (wpAny_bind (wpAny_letGo ?_))
   rw [hname]
   refine wpAny_pure ⟨plainId_quiet F.plain_max_loop _,ih (j+1) _ v _ (by exact q3 0x208c600a42c400666518018a3005200322245a 1 0x150544274a (by kernel_rfl) hk) hlt (W.frame _ _ _ hst' fun b hbf o e=>?_) (hK _ _ (fun b o _ hbS e=>(Heap.get?_update_other _ _ (Ne.symm hbS)).trans e) hK') (by simp -iota only [argBest,hb,if_true]; exact hP) (Heap.get?_update_self _ hS' rfl)
    fun v' h'' tk'' hP' hk''=>?_⟩
   ·exact (Heap.get?_update_other _ _ (fun h:S=b=>hSf (by rw [h]; exact hbf))).trans e
   ·exact hR v' h'' tk'' hP' fun b o hbw hbS e=>hk'' b o hbw hbS ((Heap.get?_update_other _ _ (Ne.symm hbS)).trans (hk' b o hbw e))
  | false =>
   simp -iota only [Bool.false_eq_true,if_false]
   refine wpAny_bind (wpAny_letGo ?_)
   rw [hname]
   refine wpAny_pure ⟨plainId_quiet F.plain_max_loop _,ih (j+1) _ vb c (by exact q3 0x208c600a42c400666518018a3005200322245a 1 0x150544274a (by kernel_rfl) hk) hlt hst' hK' (by simp -iota only [argBest,hb,Bool.false_eq_true,if_false]; exact hPb) hS' fun v' h'' tk'' hP' hk''=>?_⟩
   exact hR v' h'' tk'' hP' fun b o hbw hbS e=>hk'' b o hbw hbS (hk' b o hbw e)
theorem maxL {prog:Program} {w:World} {A:Around} {E:Value→Shared→Prop} {s:Shared} {D:Addr} {vs:List Value} {Q:Value→Shared→Prop} (hh:A.handled=none) (bt:Nat→Nat→Bool)
  (hl:s.heap.IsList D vs.toArray) (hn:0<vs.length)
  (hcmp:∀ i j vi vj s',Kp s.heap s'.heap→vs[i]?=some vi→vs[j]?=some vj→CmpAt .Gt A.in1 s' vi vj (bt i j))
  (h:∀ v h' tk,vs[argBest bt (vs.length-1)]?=some v→Kp s.heap h'→Q v { s with heap:=h',toks:=tk }) :
  wpAny (model prog w) A (call (.builtin "max") [.ref D]) Q E s:=by
 have hname:(toString "max" ++ toString ".loop" : String) = "max.loop" := by decide
 refine call_function_tree F.kind_max F.plain_max F.entry_max (F.args_max1 _) ?_
 show wpAny _ A.in1 (Builtin.Builtins.bindParams "max" ["key", "default"] 0 ⟨[],[]⟩ >>= _) _ _ s
 refine wpAny_bind (wpAny_of_eq (show Builtin.Builtins.bindParams "max" ["key", "default"] 0 ⟨[],[]⟩=pure [none,none] from rfl) ?_)
 refine wpAny_bind (wpAny_pure ?_)
 refine u11 (id hl) fun o ho r=>?_
 have hlt:=Heap.lt_size ho
 refine wpAny_bind (wpAny_pyIter_list hl ?_)
 refine wpAny_bind (wpAny_newObj_type ?_)
 generalize hH:s.heap.push { cls:=.type "list_iterator", data:=.fields #[.ref D,.int 0 0] }=H1
 have k1:Kp s.heap H1:=fun b o e=>hH▸Heap.get?_push_of_some _ e
 have hsz:H1.objs.size=s.heap.objs.size+1:=by rw [← hH,Heap.size_push]
 have W:=Walks.list (prog:=prog) (w:=w) (A:=A.in1) hh s.heap.objs.size D (Nat.ne_of_lt hlt) vs.toArray
 have hSf:H1.objs.size∉[s.heap.objs.size,D]:=by
  intro hm
  have h1:@LT.lt Nat _ D s.heap.objs.size:=hlt
  rcases List.mem_cons.mp hm with e | hm
  ·have e':@Eq Nat _ _:=e
   exact q2 0x4c000846a3005200222a 1 6 (by kernel_rfl) hsz e
  ·have e':@Eq Nat _ _:=List.mem_singleton.mp hm
   exact q3 0x4c00042550801845ea3005200222a 1 14 (by kernel_rfl) hsz h1 e'
 have hW0:H1.IsListIter s.heap.objs.size D 0∧H1.IsList D vs.toArray:=⟨(w12 _ (by rw [← hH]; exact Heap.get?_push_size _ rfl) rfl rfl),hl.at fun o e=>k1 _ _ e⟩
 show wpAny _ A.in1 (pure (Fin.again (.builtin (toString "max" ++ toString ".loop") ⟨[.ref s.heap.objs.size,.none,.ref H1.objs.size],[]⟩))) _ _ _
 rw [hname]
 have hS1:(H1.push { cls:=.type "list", dict:=none,data:=.seq ([]:List Value).toArray }).get? H1.objs.size=some { cls:=.type "list", dict:=none,data:=.seq #[],slots:=#[] }:=Heap.get?_push_size _ rfl
 have k2:Kp H1 (H1.push { cls:=.type "list", dict:=none,data:=.seq ([]:List Value).toArray }):=fun b o e=>Heap.get?_push_of_some _ e
 refine wpAny_pure ⟨plainId_quiet F.plain_max_loop _,?_⟩
 refine codeAny_builtin F.entry_max_loop ?_
 rw [Around.under_plainId F.plain_max_loop _]
 show wpAny _ A.in1 (seqItems? (.ref H1.objs.size) >>= _) _ _ _
 refine wpAny_bind (wpAny_seqItems hS1 rfl ?_)
 show wpAny _ A.in1 (tryCatch (pyNext (.ref s.heap.objs.size)) _ >>= _) _ _ _
 have hSw:H1.objs.size∉[s.heap.objs.size]:=fun h=>hSf (W.sub _ h)
 have hsw:∀ b o,s.heap.get? b=some o→b∉[s.heap.objs.size]:=fun b o e hb=>by rw [List.mem_singleton.mp hb,Heap.get?_none_of_le (Nat.le_refl _)] at e; cases e
 have hsS:∀ b o,s.heap.get? b=some o→b≠H1.objs.size:=fun b o e hb=>by
  have h1:=Heap.lt_size e
  have h2:@Eq Nat _ _:=hb
  have h1':@LT.lt Nat _ _ _:=h1
  exact q3 0x4c2006117a801884aa3005200222a 1 26 (by kernel_rfl) hsz h2 h1'
 refine wpAny_bind (wpAny_tryCatch (W.item 0 _ _ _ (by simpa using hn) (W.frame 0 _ _ hW0 fun b _ o e=>k2 b o e) fun v h' tk hP hst' hk'=>?_))
 have hS':=hk' _ _ hSw hS1
 show wpAny _ A.in1 (updateSeq H1.objs.size (fun _=>#[v,v]) >>= _) _ _ _
 refine wpAny_bind ?_
 refine wpAny_updateSeq hS' rfl ?_
 rw [hname]
 have hKp:Kp s.heap h':=fun b o e=>hk' b o (hsw b o e) (k2 b o (k1 b o e))
 refine wpAny_pure ⟨plainId_quiet F.plain_max_loop _,codeAny_max_loop W bt (fun h=>Kp s.heap h) H1.objs.size hSf (fun h h' hk hK b o e=>hk b o (hsw b o e) (hsS b o e) (hK b o e))
  (fun i j vi vj s' hK hi hj=>hcmp i j vi vj s' hK (by simpa using hi) (by simpa using hj)) _ 0 _ v _ rfl (by rw [List.size_toArray]; exact hn) (W.frame _ _ _ hst' fun b hbf o e=>?_) ?_ hP (Heap.get?_update_self _ hS' rfl) fun v' h'' tk'' hP' hk''=>?_⟩
 ·exact (Heap.get?_update_other _ _ (fun h:H1.objs.size=b=>hSf (by rw [h]; exact hbf))).trans e
 ·intro b o e
  exact (Heap.get?_update_other _ _ (Ne.symm (hsS b o e))).trans (hKp b o e)
 ·exact h v' h'' tk'' (by simpa using hP') fun b o e=>hk'' b o (hsw b o e) (hsS b o e) ((Heap.get?_update_other _ _ (Ne.symm (hsS b o e))).trans (hKp b o e))
end
section
theorem lex_irr {α:Type} [LT α] (ir:∀ a:α,¬ a<a):∀ xs:List α,¬ xs<xs
 | [],h=>List.not_lt_nil _ h
 | x::r,h=>by
  rcases List.cons_lt_cons_iff.mp h with h | ⟨_,h⟩
  ·exact ir _ h
  ·exact lex_irr ir r h
theorem lex_tri {α:Type} [LT α] (tri:∀ a b:α,¬ a<b→¬ b<a→a=b):∀ xs ys:List α,¬ xs<ys→¬ ys<xs→xs=ys
 | [],[],_,_=>rfl
 | [],y::r,h,_=>absurd (List.nil_lt_cons y r) h
 | x::r,[],_,h=>absurd (List.nil_lt_cons x r) h
 | x::r,y::q,h1,h2=>by
  rw [List.cons_lt_cons_iff] at h1 h2
  have e:x=y:=tri x y (fun h=>h1 (.inl h)) (fun h=>h2 (.inl h))
  subst e
  rw [lex_tri tri r q (fun h=>h1 (.inr ⟨rfl,h⟩)) (fun h=>h2 (.inr ⟨rfl,h⟩))]
theorem lex_trans {α:Type} [LT α] (tr:∀ a b c:α,a<b→b<c→a<c):∀ xs ys zs:List α,xs<ys→ys<zs→xs<zs
 | _,[],_,h,_=>absurd h (List.not_lt_nil _)
 | _,_::_,[],_,h=>absurd h (List.not_lt_nil _)
 | [],_::_,z::r,_,_=>List.nil_lt_cons z r
 | x::p,y::q,z::r,h1,h2=>by
  rw [List.cons_lt_cons_iff] at h1 h2 ⊢
  rcases h1 with h1 | ⟨rfl,h1⟩
  ·rcases h2 with h2 | ⟨rfl,h2⟩
   ·exact .inl (tr _ _ _ h1 h2)
   ·exact .inl h1
  ·rcases h2 with h2 | ⟨rfl,h2⟩
   ·exact .inl h2
   ·exact .inr ⟨rfl,lex_trans tr p q r h1 h2⟩
noncomputable abbrev Txts:=List (List Nat)
theorem ln_tri:∀ a b:List Nat,¬ a<b→¬ b<a→a=b:=lex_tri fun a b h1 h2=>by exact q2 0x4000a00a302b50001815a 1 53 (by kernel_rfl) h1 h2
theorem ln_trans:∀ a b c:List Nat,a<b→b<c→a<c:=lex_trans fun a b c h1 h2=>by exact q3 0x200018200a22f5000111a 1 7 (by kernel_rfl) h1 h2
theorem ln_irr:∀ a:List Nat,¬ a<a:=lex_irr fun a h=>by exact q1 77850 1 1 (by kernel_rfl) h
theorem tx_tri:∀ a b:Txts,¬ a<b→¬ b<a→a=b:=lex_tri ln_tri
theorem tx_trans:∀ a b c:Txts,a<b→b<c→a<c:=lex_trans ln_trans
theorem tx_irr:∀ a:Txts,¬ a<a:=lex_irr ln_irr
theorem cmpRes_shift (e c:Nat→Bool) (fin:Bool):∀ k i,cmpRes e c fin k (i+1)=cmpRes (fun j=>e (j+1)) (fun j=>c (j+1)) fin k i
 | 0,_=>rfl
 | k+1,i=>by
  rw [cmpRes_c,cmpRes_c,cmpRes_shift e c fin k (i+1)]
theorem cmpRes_cong {e e' c c':Nat→Bool} {fin:Bool}:∀ k i,(∀ j,i≤j→j<i+k→e j=e' j∧(e j=false→c j=c' j))→cmpRes e c fin k i=cmpRes e' c' fin k i
 | 0,_,_=>rfl
 | k+1,i,h=>by
  have h0:=h i (Nat.le_refl _) (by exact q2 0x230052002001 1 1 (by kernel_rfl))
  rw [cmpRes_c,cmpRes_c,← h0.1,cmpRes_cong k (i+1) fun j h1 h2=>h j (by exact q2 0x400021100211022a 1 3 (by kernel_rfl) h1) (by exact q3 0x8c00c50052001823005216200134a 1 3 (by kernel_rfl) h2)]
  cases q:e i with
  | true=>rfl
  | false=>simp only [Bool.false_eq_true,if_false]; exact h0.2 q
theorem cmpRes_lex:∀ xs ys:Txts,cmpRes (fun j=>decide (xs.getD j []=ys.getD j [])) (fun j=>decide (xs.getD j []<ys.getD j [])) (decide (xs.length<ys.length)) (min xs.length ys.length) 0=decide (xs<ys)
 | [],[]=>by simp [cmpRes_n,cmpRes_c]
 | [],y::r=>by simp [cmpRes_n,cmpRes_c]
 | x::r,[]=>by simp [cmpRes_n,cmpRes_c]
 | x::p,y::q=>by
  have ih:=cmpRes_lex p q
  have hm:min (x::p).length (y::q).length=min p.length q.length+1:=by simp only [List.length_cons]; exact q2 0x1180030894600a51002116332 1 3576681 (by kernel_rfl)
  rw [hm,cmpRes_c,cmpRes_shift]
  simp only [List.getD_cons_zero,List.getD_cons_succ,List.length_cons,Nat.add_lt_add_iff_right,Nat.zero_add]
  rw [ih]
  by_cases h:x=y
  ·subst h
   simp only [decide_true,if_true]
   rw [decide_eq_decide]
   rw [List.cons_lt_cons_iff]
   constructor
   ·exact fun h=>.inr ⟨rfl,h⟩
   ·rintro (h | ⟨_,h⟩)
    ·exact absurd h (ln_irr x)
    ·exact h
  ·rw [if_neg (by simpa using h)]
   rw [decide_eq_decide,List.cons_lt_cons_iff]
   constructor
   ·exact .inl
   ·rintro (h' | ⟨e,_⟩)
    ·exact h'
    ·exact absurd e h
noncomputable def lcp:Txts→Txts→Txts
 | x::p,y::q=>if x=y then x::lcp p q else []
 | _,_=>[]
theorem lcp_c {x y:List Nat} {p q:Txts}:lcp (x::p) (y::q)=if x=y then x::lcp p q else []:=rfl
theorem lcp_n {q:Txts}:lcp [] q=[]:=rfl
theorem lcp_z {p:Txts}:lcp p []=[]:=by cases p <;> rfl
theorem lcp_comm:∀ xs ys,lcp xs ys=lcp ys xs
 | [],[]=>rfl
 | [],_::_=>rfl
 | _::_,[]=>rfl
 | x::p,y::q=>by
  rw [lcp_c,lcp_c]
  by_cases h:x=y
  ·subst h; simp only [if_true]; rw [lcp_comm p q]
  ·rw [if_neg h,if_neg fun e=>h e.symm]
theorem lcp_self:∀ xs,lcp xs xs=xs
 | []=>rfl
 | x::p=>by rw [lcp_c,if_pos rfl,lcp_self p]
theorem lcp_prefix:∀ xs ys,lcp xs ys <+: xs
 | [],_=>by rw [lcp_n]; exact List.nil_prefix
 | _::_,[]=>by rw [lcp_z]; exact List.nil_prefix
 | x::p,y::q=>by
  rw [lcp_c]
  split
  ·obtain ⟨r,e⟩:=lcp_prefix p q
   exact ⟨r,by rw [List.cons_append,e]⟩
  ·exact List.nil_prefix
theorem lcp_at:∀ (i:Nat) (xs ys:Txts),(∀ j<i,xs[j]?=ys[j]?)→i<xs.length→xs[i]?≠ys[i]?→i<ys.length→lcp xs ys=xs.take i
 | i,[],_,_,h,_,_=>absurd h (by simp)
 | i,_::_,[],_,_,_,h=>absurd h (by simp)
 | 0,x::p,y::q,_,_,h,_=>by
  rw [lcp_c,if_neg (by simpa using h)]
  rfl
 | i+1,x::p,y::q,h1,h2,h3,h4=>by
  have e:x=y:=by simpa using h1 0 (by exact q1 570445841 1 1 (by kernel_rfl))
  subst e
  rw [lcp_c,if_pos rfl,List.take_succ_cons,lcp_at i p q (fun j hj=>by simpa using h1 (j+1) (by exact q2 0x8c014a2004223000111a 1 3 (by kernel_rfl) hj)) (by simpa using h2) (by simpa using h3) (by simpa using h4)]
theorem le_within:∀ (i:Nat) (xs ys:Txts),¬ ys<xs→(∀ j<i,xs[j]?=ys[j]?)→i<xs.length→i<ys.length
 | _,[],_,_,_,h=>absurd h (by simp)
 | _,x::p,[],h,_,_=>absurd (List.nil_lt_cons x p) h
 | 0,_::_,_::_,_,_,_=>by simp
 | i+1,x::p,y::q,h1,h2,h3=>by
  have e:x=y:=by simpa using h2 0 (by exact q1 570445841 1 1 (by kernel_rfl))
  subst e
  rw [List.cons_lt_cons_iff] at h1
  have:=le_within i p q (fun h=>h1 (.inr ⟨rfl,h⟩)) (fun j hj=>by simpa using h2 (j+1) (by exact q2 0x8c014a2004223000111a 1 3 (by kernel_rfl) hj)) (by simpa using h3)
  simpa using this
theorem lcp_all:∀ (xs ys:Txts),¬ ys<xs→(∀ j<xs.length,xs[j]?=ys[j]?)→lcp xs ys=xs
 | [],_,_,_=>by rw [lcp_n]
 | x::p,[],h,_=>absurd (List.nil_lt_cons x p) h
 | x::p,y::q,h1,h2=>by
  have e:x=y:=by simpa using h2 0 (by simp)
  subst e
  rw [List.cons_lt_cons_iff] at h1
  rw [lcp_c,if_pos rfl,lcp_all p q (fun h=>h1 (.inr ⟨rfl,h⟩)) fun j hj=>by simpa using h2 (j+1) (by simpa using hj)]
set_option tactic.hygienic true in
theorem lcp_between:∀ (xs zs ys:Txts),¬ zs<xs→¬ ys<zs→lcp xs ys <+: zs
 | [],_,_,_,_=>by rw [lcp_n]; exact List.nil_prefix
 | _::_,_,[],_,_=>by rw [lcp_z]; exact List.nil_prefix
 | x::p,zs,y::q,h1,h2=>by
  rw [lcp_c]
  split
  ·rename_i e
   subst e
   cases zs with
   | nil=>exact absurd (List.nil_lt_cons _ _) h1
   | cons z r =>
    rw [List.cons_lt_cons_iff] at h1 h2
    have e:z=x:=ln_tri _ _ (fun h=>h1 (.inl h)) (fun h=>h2 (.inl h))
    subst e
    obtain ⟨t,e⟩:=lcp_between p r q (fun h=>h1 (.inr ⟨rfl,h⟩)) (fun h=>h2 (.inr ⟨rfl,h⟩))
    exact ⟨t,by rw [List.cons_append,e]⟩
  ·exact List.nil_prefix
theorem argBest_lt (bt:Nat→Nat→Bool):∀ m,argBest bt m≤m
 | 0=>Nat.le_refl _
 | m+1=>by
  have:=argBest_lt bt m
  rw [argBest]; split <;> (first | exact q1 0x220051002110 1 1 (by kernel_rfl) | exact q2 0x4600a4001000011a 1 3 (by kernel_rfl) this)
theorem argBest_min (f:Nat→Txts):∀ m j,j≤m→¬ f j<f (argBest (fun i j=>decide (f i<f j)) m)
 | 0,j,h=>by
  have:j=0:=by exact q1 0x20050000da 1 14 (by kernel_rfl) h
  subst this; exact tx_irr _
 | m+1,j,h=>by
  have ih:=argBest_min f m
  rw [argBest]
  by_cases hb:f (m+1)<f (argBest (fun i j=>decide (f i<f j)) m)
  ·rw [if_pos (by simpa using hb)]
   intro hj
   rcases Nat.lt_or_ge m j with q | q
   ·have:j=m+1:=by exact q2 0x1180290014014446a3005200022a 1 46 (by kernel_rfl) h q
    subst this; exact tx_irr _ hj
   ·exact ih j q (tx_trans _ _ _ hj hb)
  ·rw [if_neg (by simpa using hb)]
   rcases Nat.lt_or_ge m j with q | q
   ·have:j=m+1:=by exact q2 0x1180290014014446a3005200022a 1 46 (by kernel_rfl) h q
    subst this; exact hb
   ·exact ih j q
theorem argBest_max (f:Nat→Txts):∀ m j,j≤m→¬ f (argBest (fun i j=>decide (f j<f i)) m)<f j
 | 0,j,h=>by
  have:j=0:=by exact q1 0x20050000da 1 14 (by kernel_rfl) h
  subst this; exact tx_irr _
 | m+1,j,h=>by
  have ih:=argBest_max f m
  rw [argBest]
  by_cases hb:f (argBest (fun i j=>decide (f j<f i)) m)<f (m+1)
  ·rw [if_pos (by simpa using hb)]
   intro hj
   rcases Nat.lt_or_ge m j with q | q
   ·have:j=m+1:=by exact q2 0x1180290014014446a3005200022a 1 46 (by kernel_rfl) h q
    subst this; exact tx_irr _ hj
   ·exact ih j q (tx_trans _ _ _ hb hj)
  ·rw [if_neg (by simpa using hb)]
   rcases Nat.lt_or_ge m j with q | q
   ·have:j=m+1:=by exact q2 0x1180290014014446a3005200022a 1 46 (by kernel_rfl) h q
    subst this; exact hb
   ·exact ih j q
end
section
open PySem.SeqAt
variable {A:Around} {s:Shared} {l b:Addr} {vs us:List Value} {xs ys:Txts}
theorem strs_eqAt (hv:StrsAre vs (xs.map S)) (hu:StrsAre us (ys.map S)) (j:Nat) (h1:j<vs.length) (h2:j<us.length):EqAt A s vs[j] us[j] (decide (xs.getD j []=ys.getD j [])):=by
 refine u21 (strs_get hv (List.getElem?_eq_getElem h1)) fun x t e1 q1=>?_
 refine u21 (strs_get hu (List.getElem?_eq_getElem h2)) fun y u e2 q2=>?_
 rw [e1,e2,List.getD_eq_getElem?_getD,List.getD_eq_getElem?_getD,q1,q2]
 have:=EqAt.str_str (A:=A) (s:=s) (S x) t (S y) u
 have e:(S x == S y)=decide (x=y):=by
  rw [Bool.eq_iff_iff,beq_iff_eq,decide_eq_true_eq]
  exact ⟨S_inj,fun e=>e▸rfl⟩
 rw [e] at this
 exact this
theorem cmpAt_ltStr {x y:List Nat} {t u:Tok}:CmpAt .Lt A s (.str (S x) t) (.str (S y) u) (decide (x<y)):=fun prog w E Q h=>ltS h
theorem cmpAt_gtStr {x y:List Nat} {t u:Tok}:CmpAt .Gt A s (.str (S x) t) (.str (S y) u) (decide (y<x)):=fun prog w E Q h=>P.gt_str h
theorem cmpLtL (hl:s.heap.IsList l vs.toArray) (hb:s.heap.IsList b us.toArray) (hA:A.units<cLine) (hv:StrsAre vs (xs.map S)) (hu:StrsAre us (ys.map S)) :
  CmpAt .Lt A s (.ref l) (.ref b) (decide (xs<ys)):=by
 have l1:vs.length=xs.length:=by rw [strsAre_len hv,List.length_map]
 have l2:us.length=ys.length:=by rw [strsAre_len hu,List.length_map]
 rw [← cmpRes_lex,← l1,← l2]
 refine ltListsB hl hb hA fun j h1 h2=>⟨strs_eqAt hv hu j h1 h2,fun _ _=>?_⟩
 refine u21 (strs_get hv (List.getElem?_eq_getElem h1)) fun x t e1 q1=>?_
 refine u21 (strs_get hu (List.getElem?_eq_getElem h2)) fun y u e2 q2=>?_
 show CmpAt .Lt A.in1 s vs[j] us[j] _
 rw [e1,e2,List.getD_eq_getElem?_getD,List.getD_eq_getElem?_getD,q1,q2]
 exact cmpAt_ltStr
theorem cmpGtL (hl:s.heap.IsList l vs.toArray) (hb:s.heap.IsList b us.toArray) (hA:A.units<cLine) (hv:StrsAre vs (xs.map S)) (hu:StrsAre us (ys.map S)) :
  CmpAt .Gt A s (.ref l) (.ref b) (decide (ys<xs)):=by
 have l1:vs.length=xs.length:=by rw [strsAre_len hv,List.length_map]
 have l2:us.length=ys.length:=by rw [strsAre_len hu,List.length_map]
 rw [← cmpRes_lex,← l1,← l2,Nat.min_comm]
 have hf:(fun j=>decide (ys.getD j []=xs.getD j []))=fun j=>decide (xs.getD j []=ys.getD j []):=by
  funext j
  rw [decide_eq_decide]
  exact eq_comm
 rw [hf]
 refine CmpAt.gtLists hl hb hA fun j h1 h2=>⟨strs_eqAt hv hu j h1 h2,fun _=>?_⟩
 refine u21 (strs_get hv (List.getElem?_eq_getElem h1)) fun x t e1 q1=>?_
 refine u21 (strs_get hu (List.getElem?_eq_getElem h2)) fun y u e2 q2=>?_
 show CmpAt .Gt A.in1 s vs[j] us[j] _
 rw [e1,e2,List.getD_eq_getElem?_getD,List.getD_eq_getElem?_getD,q1,q2]
 exact cmpAt_gtStr
end
noncomputable def Al {α:Type} (R:α→Value→Prop) (xs:List α) (vs:List Value):Prop:=vs.length=xs.length∧∀ (i:Nat) x v,xs[i]?=some x→vs[i]?=some v→R x v
section
variable {α:Type} {R R':α→Value→Prop} {xs ys:List α} {vs us:List Value}
theorem Al.nil:Al R [] []:=⟨rfl,fun _ _ _ h=>by cases h⟩
theorem Al.mono (h:Al R xs vs) (f:∀ x v,R x v→R' x v):Al R' xs vs:=⟨h.1,fun i x v a b=>f _ _ (h.2 i x v a b)⟩
theorem Al.get (h:Al R xs vs) {i:Nat} {v:Value} (e:vs[i]?=some v):∃ x,xs[i]?=some x∧R x v:=by
 have hi:i<xs.length:=by have:=(List.getElem?_eq_some_iff.mp e).1; rw [h.1] at this; exact this
 exact (w11 (xs[i]) (List.getElem?_eq_getElem hi) (h.2 i _ _ (List.getElem?_eq_getElem hi) e))
theorem Al.get' (h:Al R xs vs) {i:Nat} {x:α} (e:xs[i]?=some x):∃ v,vs[i]?=some v∧R x v:=by
 have hi:i<vs.length:=by have:=(List.getElem?_eq_some_iff.mp e).1; rw [h.1]; exact this
 exact (w11 (vs[i]) (List.getElem?_eq_getElem hi) (h.2 i _ _ e (List.getElem?_eq_getElem hi)))
theorem Al.append (h:Al R xs vs) (k:Al R ys us):Al R (xs++ys) (vs++us):=by
 refine ⟨by rw [List.length_append,List.length_append,h.1,k.1],fun i x v a b=>?_⟩
 rcases Nat.lt_or_ge i xs.length with q | q
 ·rw [List.getElem?_append_left q] at a
  rw [List.getElem?_append_left (h.1▸q)] at b
  exact h.2 i x v a b
 ·rw [List.getElem?_append_right q] at a
  rw [List.getElem?_append_right (h.1▸q),h.1] at b
  exact k.2 _ x v a b
theorem Al.one {x:α} {v:Value} (h:R x v):Al R [x] [v]:=⟨rfl,fun i y u a b=>by
 cases i with
 | zero=>cases a; cases b; exact h
 | succ i=>cases a⟩
theorem Al.snoc {x:α} {v:Value} (h:Al R xs vs) (k:R x v):Al R (xs++[x]) (vs++[v]):=h.append (.one k)
set_option tactic.hygienic true in
theorem Al.take (h:Al R xs vs) (n:Nat):Al R (xs.take n) (vs.take n):=by
 refine ⟨by rw [List.length_take,List.length_take,h.1],fun i x v a b=>?_⟩
 rw [List.getElem?_take] at a b
 split at a
 ·rename_i q; rw [if_pos q] at b; exact h.2 i x v a b
 ·cases a
theorem Al.drop (h:Al R xs vs) (n:Nat):Al R (xs.drop n) (vs.drop n):=by
 refine ⟨by rw [List.length_drop,List.length_drop,h.1],fun i x v a b=>?_⟩
 rw [List.getElem?_drop] at a b
 exact h.2 _ x v a b
theorem Al.of_strs:∀ {xs:List (List Nat)} {vs:List Value},StrsAre vs (xs.map S)→Al (fun x v=>∃ t,v=.str (S x) t) xs vs
 | xs,vs,h=>⟨by rw [strsAre_len h,List.length_map],fun i x v a b=>by
  refine u21 (strs_get h b) fun y t z0 e=>?_; subst z0
  rw [a] at e; cases e; exact ⟨t,rfl⟩⟩
theorem Al.strs:∀ {xs:List (List Nat)} {vs:List Value},Al (fun x v=>∃ t,v=.str (S x) t) xs vs→StrsAre vs (xs.map S)
 | [],vs,h=>by
  have:=h.1
  cases vs with
  | nil=>exact .nil
  | cons=>cases this
 | x::r,[],h=>by cases h.1
 | x::r,v::us,h=>by
  obtain ⟨t,rfl⟩:=h.2 0 x v rfl rfl
  exact .cons _ t (Al.strs (xs:=r) (vs:=us) ⟨by simpa using h.1,fun i y u a b=>h.2 (i+1) y u (by simpa using a) (by simpa using b)⟩)
end
noncomputable def Ts (h:Heap) (xs:Txts) (v:Value):Prop:=∃ a us,v=.ref a∧h.IsList a us.toArray∧StrsAre us (xs.map S)
theorem Ts.keeps {h h':Heap} {xs:Txts} {v:Value} (x:Ts h xs v) (k:Kp h h'):Ts h' xs v:=u22 x fun a us e hl hi=>(w22 a us e (isL_keeps hl k) hi)
section
variable {prog:Program} {w:World} {A:Around} {E:Value→Shared→Prop} {s:Shared} {D:Addr} {vs:List Value} {xss:List Txts} {Q:Value→Shared→Prop}
theorem minS (hh:A.handled=none) (hA:A.units+1<cLine) (hl:s.heap.IsList D vs.toArray) (hi:Al (Ts s.heap) xss vs) (hn:xss≠[])
  (h:∀ (k:Nat) v m h' tk,vs[k]?=some v→xss[k]?=some m→(∀ z∈xss,¬ z<m)→Kp s.heap h'→Q v { s with heap:=h',toks:=tk }) :
  wpAny (model prog w) A (call (.builtin "min") [.ref D]) Q E s:=by
 have hlen:0<vs.length:=by rw [hi.1]; cases xss with
  | nil=>exact absurd rfl hn
  | cons=>simp
 have hun:A.in1.units<cLine:=hA
 refine minL hh (fun i j=>decide (xss.getD i []<xss.getD j [])) hl hlen (fun i j vi vj s' k hvi hvj=>?_) fun v h' tk hv hk=>?_
 ·refine u11 (hi.get hvi) fun x hx z0=>?_; refine u22 z0 fun a us z1 ha hus=>?_; clear z0; subst z1
  refine u11 (hi.get hvj) fun y hy z0=>?_; refine u22 z0 fun b ws z1 hb hws=>?_; clear z0; subst z1
  have:=cmpLtL (A:=A.in1) (s:=s') (isL_keeps ha k) (isL_keeps hb k) hun hus hws
  rw [List.getD_eq_getElem?_getD,List.getD_eq_getElem?_getD,hx,hy]
  exact this
 ·refine u11 (hi.get hv) fun m hm _=>?_
  refine h _ v m h' tk hv hm (fun z hz=>?_) hk
  refine v20 (List.getElem_of_mem hz) fun j hj z0=>?_; subst z0
  have:=argBest_min (fun j=>xss.getD j []) (vs.length-1) j (by rw [hi.1]; exact q2 0x4600a6001000111a 1 59 (by kernel_rfl) hj)
  simp only [List.getD_eq_getElem?_getD] at this hm
  rw [List.getElem?_eq_getElem hj] at this
  rw [hm] at this
  exact this
theorem maxS (hh:A.handled=none) (hA:A.units+1<cLine) (hl:s.heap.IsList D vs.toArray) (hi:Al (Ts s.heap) xss vs) (hn:xss≠[])
  (h:∀ (k:Nat) v m h' tk,vs[k]?=some v→xss[k]?=some m→(∀ z∈xss,¬ m<z)→Kp s.heap h'→Q v { s with heap:=h',toks:=tk }) :
  wpAny (model prog w) A (call (.builtin "max") [.ref D]) Q E s:=by
 have hlen:0<vs.length:=by rw [hi.1]; cases xss with
  | nil=>exact absurd rfl hn
  | cons=>simp
 have hun:A.in1.units<cLine:=hA
 refine maxL hh (fun i j=>decide (xss.getD j []<xss.getD i [])) hl hlen (fun i j vi vj s' k hvi hvj=>?_) fun v h' tk hv hk=>?_
 ·refine u11 (hi.get hvi) fun x hx z0=>?_; refine u22 z0 fun a us z1 ha hus=>?_; clear z0; subst z1
  refine u11 (hi.get hvj) fun y hy z0=>?_; refine u22 z0 fun b ws z1 hb hws=>?_; clear z0; subst z1
  have:=cmpGtL (A:=A.in1) (s:=s') (isL_keeps ha k) (isL_keeps hb k) hun hus hws
  rw [List.getD_eq_getElem?_getD,List.getD_eq_getElem?_getD,hx,hy]
  exact this
 ·refine u11 (hi.get hv) fun m hm _=>?_
  refine h _ v m h' tk hv hm (fun z hz=>?_) hk
  refine v20 (List.getElem_of_mem hz) fun j hj z0=>?_; subst z0
  have:=argBest_max (fun j=>xss.getD j []) (vs.length-1) j (by rw [hi.1]; exact q2 0x4600a6001000111a 1 59 (by kernel_rfl) hj)
  simp only [List.getD_eq_getElem?_getD] at this hm
  rw [List.getElem?_eq_getElem hj] at this
  rw [hm] at this
  exact this
theorem isiLT {a tp:Addr} (hl:s.heap.IsList a vs.toArray) (ht:s.heap.get? tp=some { cls:=.type "tuple", data:=.seq #[.type "list", .type "tuple"] }) (h:∀ tk,Q (.bool true) { s with toks:=tk }) :
  wpAny (model prog w) A (call (.builtin "isinstance") [.ref a,.ref tp]) Q E s :=
 IsiPair.tupleOfB (Tx := "list") (cs:=[.type "list", .type "tuple"]) (vs:=[true,false]) (.cons (.of_true F.isi_meta_list F.sub_list_list) (.cons (.of_false_list (by decide +kernel) F.isi_meta_tuple F.sub_list_tuple) .nil)) hl.typeIs ht rfl h
end
theorem Al.cons {α:Type} {R:α→Value→Prop} {x:α} {v:Value} {xs:List α} {vs:List Value} (h:R x v) (k:Al R xs vs):Al R (x::xs) (v::vs):=(Al.one h).append k
theorem St.rebaseN {g h:Heap} {L:Addr} {l:List (Str × Value)} (F:St g L h l []):∃ g',Kp g g'∧(∀ b o,h.get? b=some o→(∀ es ep,o.data≠.dict es ep)→g'.get? b=some o)∧St g' L h l []:=by
 refine u13 F.rebase fun g' k1 _ k3 F'=>?_
 refine (w12 g' k1 (fun b o e hd=>k3 b o ?_ (fun p hp=>nomatch hp) e) F')
 rintro rfl
 refine u11 F.fl fun m Fn _=>?_
 refine u32 Fn fun o' es ep h1 h2 _=>?_; clear Fn
 rw [e] at h1; cases h1
 exact hd _ _ h2
theorem lcp_two {xs ys m₁ m₂:Txts} (h1:m₁∈[xs,ys]) (h2:m₂∈[xs,ys]) (hm:∀ z∈[xs,ys],¬ z<m₁) (hM:∀ z∈[xs,ys],¬ m₂<z):lcp m₁ m₂=lcp xs ys:=by
 simp only [List.mem_cons,List.mem_nil_iff,or_false] at h1 h2
 rcases h1 with e1 | e1 <;> rcases h2 with e2 | e2 <;> rw [e1,e2] <;> rw [e1] at hm <;> rw [e2] at hM
 ·have e:xs=ys:=tx_tri xs ys (hM ys (by simp)) (hm ys (by simp))
  rw [e]
 ·exact lcp_comm _ _
 ·have e:xs=ys:=tx_tri xs ys (hm xs (by simp)) (hM xs (by simp))
  rw [e]
section
variable {prog:Program} {w:World} {mg:Str→Option Value} {A:Around} {E:Value→Shared→Prop} {s:Shared} {f:Addr}
theorem commonprefix_spec (T:TK w mg s.heap) (ha:mg "commonprefix" = some (.ref f)) (R:Room A 4) {D a b:Addr} {us ws:List Value} {xs ys:Txts}
  (hD:s.heap.IsList D [Value.ref a,Value.ref b].toArray) (hla:s.heap.IsList a us.toArray) (hlb:s.heap.IsList b ws.toArray) (hus:StrsAre us (xs.map S)) (hws:StrsAre ws (ys.map S)) (hzx:xs.length≤100000) (hzy:ys.length≤100000) :
  wpAny (model prog w) A (call (.ref f) [.ref D]) (fun v s'=>Ts s'.heap (lcp xs ys) v∧Keeps s s') E s:=by
 have hal:Al (Ts s.heap) [xs,ys] [Value.ref a,Value.ref b]:=(Al.one (w22 a us rfl hla hus)).append (.one (w22 b ws rfl hlb hws))
 refine enter F_commonprefix T ha R.lim (binds:=[("m", .ref D)]) (fun _ _ _=>BindsTo.of_eq rfl) (locs rfl) rfl fun cd h₁ F₀=>?_
 have F:=St.init F₀
 replace R:=R.deeper (env:=envOf "commonprefix" F_commonprefix.scope s.heap.objs.size f cd) (by decide:3+1≤4)
 generalize A.deeper (envOf "commonprefix" F_commonprefix.scope s.heap.objs.size f cd)=A at R ⊢
 clear F₀
 generalize hL:s.heap.objs.size=L at F ⊢
 clear hL
 have hun:A.units+1<cLine:=by have:=R.un; show A.units+1<9900; exact q1 0x4d58310021118ca071804400222140a 1 3 (by kernel_rfl) this
 refine stepO fun _ _ _ _=>?_
 walk_at "ms"
 refine tL (isL_keeps hD F.keep) (by simp) fun _=>?_
 rw [decide_eq_true (by simp)]
 walk_at "ms"
 refine idxL 0 rfl (isL_keeps hD F.keep) rfl (by simp) ?_
 walk_at "ms"
 refine ⟨szl (by simp),fun h₂ t hn hk hT=>?_⟩
 have F₂:=F.keeps hk
 walk_at "ms"
 refine isiLT (isL_keeps hla F₂.keep) hT fun _=>?_
 walk_at "ms"
 refine minS R.hh hun (isL_keeps hD F₂.keep) (hal.mono fun _ _ x=>x.keeps F₂.keep) (by simp) fun k₁ v₁ m₁ h₃ _ hv₁ hm₁ hmin hk₃=>?_
 have F₃:=F₂.keeps hk₃
 obtain ⟨_,e₁,c₁,u₁,rfl,hc₁,hu₁⟩:=hal.get hv₁
 rw [hm₁] at e₁; cases e₁
 walk_at "ms"
 intro h₄ F₄ _
 walk_at "ms"
 refine maxS R.hh hun (isL_keeps hD F₄.keep) (hal.mono fun _ _ x=>x.keeps F₄.keep) (by simp) fun k₂ v₂ m₂ h₅ _ hv₂ hm₂ hmax hk₅=>?_
 have F₅:=F₄.keeps hk₅
 obtain ⟨_,e₂,c₂,u₂,rfl,hc₂,hu₂⟩:=hal.get hv₂
 rw [hm₂] at e₂; cases e₂
 have hle:¬ m₂<m₁:=hmin m₂ (List.mem_of_getElem? hm₂)
 have hlcp:lcp m₁ m₂=lcp xs ys:=lcp_two (List.mem_of_getElem? hm₁) (List.mem_of_getElem? hm₂) hmin hmax
 have hz₁:m₁.length≤100000:=by
  have:=List.mem_of_getElem? hm₁
  simp only [List.mem_cons,List.mem_nil_iff,or_false] at this
  rcases this with rfl | rfl <;> assumption
 have hz₂:m₂.length≤100000:=by
  have:=List.mem_of_getElem? hm₂
  simp only [List.mem_cons,List.mem_nil_iff,or_false] at this
  rcases this with rfl | rfl <;> assumption
 have l₁:u₁.length=m₁.length:=by rw [strsAre_len hu₁,List.length_map]
 have l₂:u₂.length=m₂.length:=by rw [strsAre_len hu₂,List.length_map]
 walk_at "ms"
 intro h₆ F₆ _
 walk_at "ms"
 refine wpAny_For ?_
 walk_at "ms"
 refine u11 (F₆.pickE ["s1", "s2"]) fun l₀ hl₀ F₇=>?_
 refine itE (fun i l own=>l=l₀∧own=[]∧∀ j<i,m₁[j]?=m₂[j]?) (fun _ _=>False) R.hh F₇ hc₁ ⟨rfl,rfl,fun j hj=>absurd hj (by exact q1 65560 1 1 (by kernel_rfl))⟩ ?_ ?_
 ·intro i v t l₁ own₁ g' h tk E' _ hQt hv y0; refine u02 y0 fun z0 z1 hsame=>?_; clear y0; subst z0; subst z1; intro kg F
  subst hl₀
  refine u21 (strs_get hu₁ hv) fun x tx z0 hx=>?_; subst z0
  have hi:i<m₁.length:=(List.getElem?_eq_some_iff.mp hx).1
  have hi₂:i<m₂.length:=le_within i m₁ m₂ hle hsame hi
  obtain ⟨y,hy⟩:∃ y,m₂[i]?=some y:=⟨_,List.getElem?_eq_getElem hi₂⟩
  refine u11 ((Al.of_strs hu₂).get' hy) fun v' hv' z0=>?_; obtain ⟨ty,rfl⟩:=z0
  have hkg:Kp s.heap h:=fun b o e=>F.keep b o (kg b o e)
  walk_at "ms"
  refine idxL i rfl (isL_keeps hc₂ hkg) hv' (by exact q2 0xc3500c014200a423586a0100021a 1 11 (by kernel_rfl) hz₂ l₂) ?_
  walk_at "ms"
  by_cases hxy:x=y
  ·subst hxy
   refine if_bf (decide_eq_false (by simp)) ?_
   walk_at "ms"
   refine Turn.go hQt ⟨rfl,rfl,fun j hj=>?_⟩ (F.pick ["s1", "s2"] rfl)
   rcases Nat.lt_or_ge j i with q | q
   ·exact hsame j q
   ·have:j=i:=by exact q2 0x80014014046a3005200122a 1 46 (by kernel_rfl) hj q
    subst this; rw [hx,hy]
  ·refine if_bt (decide_eq_true hxy) ?_
   walk_at "ms"
   intro h₈ I hI hk₈ hT₈
   have F₈:=F.keeps hk₈
   walk_at "ms"
   refine slcToL i rfl (isL_keeps hc₁ fun b o e=>hk₈ b o (hkg b o e)) hT₈ (by exact q3 0x200608400c22f5000211a 1 14 (by kernel_rfl) l₁ hi) (by exact q2 0xc3500c014200a423586a0100021a 1 11 (by kernel_rfl) hz₁ l₁) fun h₉ a₉ hn₉ hk₉ hT₉=>?_
   have F₉:=F₈.keeps hk₉
   walk_at "ms"
   refine ⟨(w22 a₉ _ rfl (isL_of hT₉) ?_),Keeps.mk' fun b o e=>F₉.keep b o (kg b o e)⟩
   rw [← hlcp,lcp_at i m₁ m₂ hsame hi (by rw [hx,hy]; simpa using hxy) hi₂]
   exact ((Al.of_strs hu₁).take i).strs
 ·rintro l₁ own₁ h tk (⟨rfl,rfl,hsame⟩ | h) F
  case inr=>exact h.elim
  subst hl₀
  walk_at "ms"
  refine ⟨(w22 c₁ u₁ rfl (isL_keeps hc₁ F.keep) ?_),Keeps.mk' F.keep⟩
  rw [← hlcp,lcp_all m₁ m₂ hle (l₁▸hsame)]
  exact hu₁
end
theorem TK.nameH {w:World} {mg:Str→Option Value} {h:Heap} (T:TK w mg h) {x:Str} {v:Value} (e:nameOf h x=some v):mg x=some v:=by
 refine u33 T.g fun o es ep h1 h2 h3 h4=>?_
 unfold nameOf at e
 rw [h1] at e
 obtain ⟨c,d,dt,sl⟩:=o
 dsimp only at h2
 subst h2
 dsimp only at e
 rw [← h4 x]
 exact e
theorem TK.rel {w:World} {mg:Str→Option Value} {h:Heap} (T:TK w mg h):mg "relpath" = some (.ref 195):=T.nameH (by
 have:=congrArg (·[2]?) T.hook.names
 simpa [hookNames,hookVals] using this)
noncomputable def relBody:List Stmt:=match relStmt with | some (_,b,_)=>b | none=>[]
noncomputable def relScope:Scope:=match relStmt with | some (_,_,s)=>s | none=>default
section
variable {prog:Program} {w:World} {A:Around} {E:Value→Shared→Prop} {s:Shared} {mg:Str→Option Value}
set_option tactic.hygienic true in
theorem enterRel (T:TK w mg s.heap) (hA:A.depth<recursionLimit) {p q:Value} {Q:Value→Shared→Prop}
  (h:∀ h₁,Fr s.heap s.heap.objs.size h₁ (fun y=>([("path", p),("start", q)]:List (Str × Value)).reverse.lookup y) →
   wpAny (model prog w) (A.deeper (envOf "relpath" relScope s.heap.objs.size 195 (.ref 194))) (execs relBody (envOf "relpath" relScope s.heap.objs.size 195 (.ref 194)))
    (fun f s'=>Q (match f with | .ret v=>v | _=>.none) s') (fun _ _=>False)
    { s with heap:=h₁,toks:=s.toks+2 }) :
  wpAny (model prog w) A (call (.ref 195) [p,q]) Q E s:=by
 have ho:s.heap.get? 195=some ⟨.type "function", none,.func relFd,#[]⟩:=by
  have:=congrArg (·[4]?) T.hook.objs
  simpa [hookAddrs,hookObjs] using this
 have hc:s.heap.CodeRec (.ref 194) "relpath" := by
  have:=T.hook.code
  unfold codeName at this
  split at this
  ·rename_i c d vs sl e
   exact (w43 194 _ vs 575 rfl e rfl this)
  ·cases this
 refine wpAny_call ?_
 refine codeAny_call_def (fd:=relFd) (body:=relBody) (binds:=[("path", p),("start", q)]) hA ho rfl T.lim hc rfl ?_ ?_ ?_ (fun h₁ hns hk=>?_) rfl rfl rfl
 ·have hd:s.heap.get? 188=some ⟨.type "tuple", none,.seq #[.none] 0,#[]⟩:=by
   have:=congrArg (·[3]?) T.hook.objs
   simpa [hookAddrs,hookObjs] using this
  exact BindsTo.of_defaults (T:=188) rfl hd rfl rfl rfl
 ·intro y hy e
  have:=List.all_eq_true.mp (show (relFd.scope.names.all fun x=>x.2 != .cell)=true by rfl) y hy
  rw [e] at this
  exact absurd this (by decide)
 ·exact locs rfl
 ·exact wpAny_mono (h h₁ ⟨hns,hk,Nat.le_refl _⟩) (fun _ _ x=>x) fun _ _ x=>x.elim
end
noncomputable def relTxt (xs ys:Txts):List Nat :=
 if List.replicate (xs.length-(lcp xs ys).length) [46,46]++ys.drop (lcp xs ys).length=[] then [46]
 else joinL [47] (List.replicate (xs.length-(lcp xs ys).length) [46,46]++ys.drop (lcp xs ys).length)
theorem strs_rep {x:List Nat} {t:Tok}:∀ n:Nat,StrsAre (List.replicate n (.str (S x) t)) ((List.replicate n x).map S)
 | 0=>.nil
 | n+1=>.cons _ t (strs_rep n)
theorem drop47 {ps:Txts} (h:∀ p∈ps,Piece p):(47::joinL [47] ps).dropWhile (· == 47)=joinL [47] ps:=by
 have:=joinL_head h
 rw [List.dropWhile_cons]
 simp -iota only [beq_self_eq_true,if_true]
 cases e:joinL [47] ps with
 | nil=>rfl
 | cons b r =>
  rw [e] at this
  have:b≠47:=by simpa using this
  rw [List.dropWhile_cons,if_neg (by simpa using this)]
theorem joinL_nil {ps:Txts} (h:∀ p∈ps,Piece p):joinL [47] ps=[]↔ps=[]:=by
 constructor
 ·intro e
  cases ps with
  | nil=>rfl
  | cons x r =>
   have hx:=(h x (by simp)).1
   cases r with
   | nil=>exact absurd e hx
   | cons y q =>
    rw [joinL_c] at e
    simp at e
 ·rintro rfl; rfl
theorem lcp_le_l (xs ys:Txts):(lcp xs ys).length≤xs.length:=(lcp_prefix xs ys).length_le
theorem lcp_le_r (xs ys:Txts):(lcp xs ys).length≤ys.length:=by rw [lcp_comm]; exact lcp_le_l ys xs
theorem joinL_cnt {ps:Txts} {n:Nat} (hn:(joinL [47] ps).length≤n):ps.length≤n+1:=by
 have:=joinL_len hn
 exact q3 0x8c00c500508c00c5000211034a 1 3 (by kernel_rfl) this
theorem sum_drop (l:List Nat) (n:Nat):(l.drop n).sum≤l.sum:=by
 have e:=List.take_append_drop n l
 have:(l.take n++l.drop n).sum=l.sum:=by rw [e]
 rw [List.sum_append] at this
 exact q3 0x20802841000211223a 1 5 (by kernel_rfl) this
section
variable {prog:Program} {w:World} {A:Around} {E:Value→Shared→Prop} {s:Shared} {mg:Str→Option Value} {g:Heap} {L f:Addr} {l:List (Str × Value)} {own:List (Addr × List Value)} {name:Str} {scope:Scope} {cd:Value}
theorem relpath_spec (T:TK w mg s.heap) (R:Room A 10) {xs ys:Txts} {t u:Tok} (hx:∀ p∈xs,Piece p) (hy:∀ p∈ys,Piece p) (hx₀:(joinL [47] xs).length≤10000) (hy₀:(joinL [47] ys).length≤10000) :
  wpAny (model prog w) A (call (.ref 195) [.str (S (47::joinL [47] ys)) t,.str (S (47::joinL [47] xs)) u]) (fun v s'=>(∃ t',v=.str (S (relTxt xs ys)) t')∧Keeps s s') E s:=by
 obtain ⟨f1,hf1⟩:=T.addr F_fspath
 obtain ⟨f2,hf2⟩:=T.addr F_abspath
 obtain ⟨f3,hf3⟩:=T.addr F_commonprefix
 refine enterRel T R.lim fun h₁ F₀=>?_
 have F:=St.init F₀
 replace R:=R.deeper (env:=envOf "relpath" relScope s.heap.objs.size 195 (.ref 194)) (by decide:9+1≤10)
 generalize A.deeper (envOf "relpath" relScope s.heap.objs.size 195 (.ref 194))=A at R ⊢
 clear F₀
 generalize hL:s.heap.objs.size=L at F ⊢
 clear hL
 refine stepO fun _ _ _ _=>?_
 walk_at "ms"
 refine useK F (fspath_spec (T.keeps F.keep) hf1 (R.le (by decide)) _ _) fun v h₂ tk₂ hv F₂ k₂=>?_
 subst hv
 walk_at "ms"
 intro h₃ F₃ _
 walk_at "ms"
 refine tS (by simp; exact q1 0x61a7c400271010001ea 1 3 (by kernel_rfl) hy₀) fun _=>?_
 rw [decide_eq_true (by simp)]
 walk_at "ms"
 refine IsiPair.str_bytes ?_
 walk_at "ms"
 intro h₄ F₄ _
 walk_at "ms"
 intro h₅ F₅ _
 walk_at "ms"
 intro h₆ F₆ _
 walk_at "ms"
 refine is_str_none ?_
 walk_at "ms"
 refine useK F₆ (fspath_spec (T.keeps F₆.keep) hf1 (R.le (by decide)) _ _) fun v h₇ tk₇ hv F₇ k₇=>?_
 subst hv
 walk_at "ms"
 intro h₈ F₈ _
 walk_at "ms"
 refine wpAny_Try_except ?_
 walk_at "ms"
 refine useK F₈ (abspath_spec (T.keeps F₈.keep) hf2 (R.le (by decide)) hx hx₀) fun v h₉ tk₉ hv F₉ k₉=>?_
 obtain ⟨t₉,rfl⟩:=hv
 walk_at "ms"
 refine lstripS (by simp; exact q1 0x61a7c400271010001ea 1 3 (by kernel_rfl) hx₀) fun _ _=>?_
 rw [drop47 hx]
 walk_at "ms"
 intro h₁₀ F₁₀ _
 walk_at "ms"
 refine useK F₁₀ (abspath_spec (T.keeps F₁₀.keep) hf2 (R.le (by decide)) hy hy₀) fun v h₉ tk₉ hv F₁₁ k₉=>?_
 obtain ⟨t₉,rfl⟩:=hv
 walk_at "ms"
 refine lstripS (by simp; exact q1 0x61a7c400271010001ea 1 3 (by kernel_rfl) hy₀) fun _ _=>?_
 rw [drop47 hy]
 walk_at "ms"
 intro h₁₂ F₁₂ _
 walk_at "m"
 walk_at "m"
 walk_at "m"
 refine useK (P:=fun v s'=>∃ D vs,v=.ref D∧s'.heap.IsList D vs.toArray∧StrsAre vs (xs.map S)) F₁₂ ?_ fun v h₁₃ tk₁₃ hv F₁₂' kF₁₂=>?_
 ·walk_at "ms"
  refine tS (by walk_at "li") fun _=>?_
  by_cases e:xs=[]
  ·refine if_bf (decide_eq_false (by rw [ne_eq,joinL_nil hx]; simpa using e)) ?_
   walk_at "ms"
   refine ⟨szl (by simp),fun h' D hD hk hT=>⟨(w22 D ([]) rfl (isL_of hT) (by rw [e]; exact .nil)),Keeps.mk' hk⟩⟩
  ·refine if_bt (decide_eq_true (by rw [ne_eq,joinL_nil hx]; exact e)) ?_
   walk_at "ms"
   refine splitS (by walk_at "li") fun D vs h' k hk hl hi=>⟨(w22 D vs rfl hl ?_),Keeps.mk' hk⟩
   rw [spl_pcs hx,pcs,if_neg e] at hi
   exact hi
 refine u22 hv fun D₁ us z0 hD₁ hus=>?_; clear hv; subst z0
 refine u12 (F₁₂'.withL hD₁ noOwn) fun g₁ kg₁ hD₁ F₁₃=>?_
 have T₁:=T.keeps kg₁
 walk_at "m"
 intro h₁₄ F₁₄ _
 walk_at "m"
 walk_at "m"
 walk_at "m"
 refine useK (P:=fun v s'=>∃ D vs,v=.ref D∧s'.heap.IsList D vs.toArray∧StrsAre vs (ys.map S)) F₁₄ ?_ fun v h₁₅ tk₁₅ hv F₁₄' kF₁₄=>?_
 ·walk_at "ms"
  refine tS (by walk_at "li") fun _=>?_
  by_cases e:ys=[]
  ·refine if_bf (decide_eq_false (by rw [ne_eq,joinL_nil hy]; simpa using e)) ?_
   walk_at "ms"
   refine ⟨szl (by simp),fun h' D hD hk hT=>⟨(w22 D ([]) rfl (isL_of hT) (by rw [e]; exact .nil)),Keeps.mk' hk⟩⟩
  ·refine if_bt (decide_eq_true (by rw [ne_eq,joinL_nil hy]; exact e)) ?_
   walk_at "ms"
   refine splitS (by walk_at "li") fun D vs h' k hk hl hi=>⟨(w22 D vs rfl hl ?_),Keeps.mk' hk⟩
   rw [spl_pcs hy,pcs,if_neg e] at hi
   exact hi
 refine u22 hv fun D₂ ws z0 hD₂ hws=>?_; clear hv; subst z0
 refine u12 (F₁₄'.withL hD₂ noOwn) fun g₂ kg₂ hD₂ F₁₅=>?_
 have T₂:=T₁.keeps kg₂
 replace hD₁:=isL_keeps hD₁ kg₂
 have kg:Kp s.heap g₂:=fun b o e=>kg₂ b o (kg₁ b o e)
 clear T₁ kg₁ kg₂ T F₁₄ F₁₄' F₁₃ F₁₂ F₁₂' F₁₁ F₁₀ F₉ F₈ F₇ F₆ F₅ F₄ F₃ F₂ F
 walk_at "m"
 intro h₁₆ F₁₆ _
 walk_at "ms"
 refine ⟨szl (by simp),fun h₁₇ D hD hk hT=>?_⟩
 refine u12 ((F₁₆.keeps hk).withL (isL_of hT) noOwn) fun g₃ kg₃ hT F₁₇=>?_
 replace T₂:=T₂.keeps kg₃
 have lx:=joinL_cnt hx₀
 have ly:=joinL_cnt hy₀
 walk_at "ms"
 refine ⟨fun b o e=>F₁₇.keep b o (kg₃ b o e),?_⟩
 refine useK (P:=fun v s'=>Ts s'.heap (lcp xs ys) v) F₁₇ ?_ fun v h₁₈ tk₁₈ hv F₁₈ k₁₈=>?_
 ·exact commonprefix_spec (T₂.keeps F₁₇.keep) hf3 (R.le (by decide)) (isL_keeps hT F₁₇.keep) (isL_keeps hD₁ fun b o e=>F₁₇.keep b o (kg₃ b o e)) (isL_keeps hD₂ fun b o e=>F₁₇.keep b o (kg₃ b o e)) hus hws (by walk_at "li") (by walk_at "li")
 refine u22 hv fun D₃ cs z0 hD₃ hcs=>?_; clear hv; subst z0
 have lc:cs.length=(lcp xs ys).length:=by rw [strsAre_len hcs,List.length_map]
 have lu:us.length=xs.length:=by rw [strsAre_len hus,List.length_map]
 have lw:ws.length=ys.length:=by rw [strsAre_len hws,List.length_map]
 have c₁:=lcp_le_l xs ys
 have c₂:=lcp_le_r xs ys
 walk_at "ms"
 refine lenL hD₃ (by exact q3 0x30d4030050801804aa080290bd4671011220002fa 1 27 (by kernel_rfl) lx lc c₁) fun _ _=>?_
 rw [lc]
 walk_at "ms"
 intro h₁₉ F₁₉ _
 have k₁₉:Kp g₂ h₁₉:=fun b o e=>F₁₉.keep b o (kg₃ b o e)
 walk_at "ms"
 refine ⟨szl (by simp),fun h₂₀ P₁ hP₁ hk hT₂₀=>?_⟩
 have F₂₀:=F₁₉.keeps hk
 have k₂₀:Kp g₂ h₂₀:=fun b o e=>F₂₀.keep b o (kg₃ b o e)
 walk_at "ms"
 refine lenL (isL_keeps hD₁ k₂₀) (by exact q2 0x30d4030050802908d4671011220002fa 1 11 (by kernel_rfl) lx lu) fun _ _=>?_
 rw [lu]
 walk_at "ms"
 refine mulL1 (xs.length-(lcp xs ys).length) (by exact q2 0x4014c2001262ab000011a 1 3226 (by kernel_rfl) c₁) (by exact q2 0x186a0180018884671011220002fa 1 19 (by kernel_rfl) lx) (isL_of hT₂₀) fun h₂₁ P₂ hP₂ hk₂₁ hT₂₁=>?_
 have F₂₁:=F₂₀.keeps hk₂₁
 have k₂₁:Kp g₂ h₂₁:=fun b o e=>F₂₁.keep b o (kg₃ b o e)
 walk_at "ms"
 intro h₂₂ I hI hk₂₂ hT₂₂
 have F₂₂:=F₂₁.keeps hk₂₂
 have k₂₂:Kp g₂ h₂₂:=fun b o e=>F₂₂.keep b o (kg₃ b o e)
 walk_at "ms"
 refine slcFromL (lcp xs ys).length rfl (isL_keeps hD₂ k₂₂) hT₂₂ (by exact q3 0x200608400c02f5000211a 1 14 (by kernel_rfl) lw c₂) (by exact q2 0x30d4030050802908d4671011220002fa 1 11 (by kernel_rfl) ly lw) fun h₂₃ P₃ hP₃ hk₂₃ hT₂₃=>?_
 have F₂₃:=F₂₂.keeps hk₂₃
 walk_at "ms"
 refine addL (isL_of (hk₂₃ _ _ (hk₂₂ _ _ hT₂₁))) (isL_of hT₂₃) (by simp; exact q4 0x186a01c20063c000c488d82100310bd46710112280281a54671011220002fa 1 33917079 (by kernel_rfl) lx ly lw) fun h₂₄ P₄ hP₄ hk₂₄ hT₂₄=>?_
 refine u12 ((F₂₃.keeps hk₂₄).withL (isL_of hT₂₄) noOwn) fun g₄ kg₄ hT₂₄ F₂₄=>?_
 walk_at "ms"
 intro h₂₅ F₂₅ _
 have hrel:∀ tp,StrsAre (List.replicate (xs.length-(lcp xs ys).length) (Value.str (S [46,46]) tp)++ws.drop (lcp xs ys).length) ((List.replicate (xs.length-(lcp xs ys).length) [46,46]++ys.drop (lcp xs ys).length).map S):=by
  intro tp
  rw [List.map_append]
  exact (strs_rep _).append' (((Al.of_strs hws).drop _).strs)
 have hlen:((List.replicate (xs.length-(lcp xs ys).length) [46,46]++ys.drop (lcp xs ys).length:Txts).map (·.length)).sum+(List.replicate (xs.length-(lcp xs ys).length) [46,46]++ys.drop (lcp xs ys).length:Txts).length≤1000000:=by
  have h1:=joinL_len hy₀
  have h2:=sum_drop (ys.map (·.length)) (lcp xs ys).length
  rw [← List.map_drop] at h2
  simp -iota only [List.map_append,List.sum_append,List.length_append,List.map_replicate,List.sum_replicate_nat,List.length_replicate,List.length_drop,List.length_cons,List.length_nil]
  lia
 walk_at "ms"
 refine tL (isL_keeps hT₂₄ F₂₅.keep) (by simp; exact q4 0x186a01c20063c000c488d82100310bd46710112280281a54671011220002fa 1 33917079 (by kernel_rfl) lx ly lw) fun _=>?_
 by_cases he:List.replicate (xs.length-(lcp xs ys).length) [46,46]++ys.drop (lcp xs ys).length=[]
 ·have he':=hrel 0
  rw [he] at he'
  have he'':=StrsAre.nil_inv he'
  rw [decide_eq_false (by
   have:=congrArg List.length he''
   intro q
   apply q
   apply List.length_eq_zero_iff.mp
   simpa using this)]
  walk_at "ms"
  exact ⟨⟨_,by rw [relTxt,if_pos he]⟩,Keeps.mk' fun b o e=>F₂₅.keep b o (kg₄ b o (kg₃ b o (kg b o e)))⟩
 ·rw [decide_eq_true (by
   intro q
   apply he
   have h1:=strsAre_len (hrel 0)
   have h2:=congrArg List.length q
   apply List.length_eq_zero_iff.mp
   rw [List.length_map] at h1
   rw [← h1]
   simpa using h2)]
  walk_at "ms"
  refine joinS (isL_keeps hT₂₄ F₂₅.keep) (hrel _) (by simp) hlen fun _ _=>?_
  walk_at "ms"
  exact ⟨⟨_,by rw [relTxt,if_neg he]⟩,Keeps.mk' fun b o e=>F₂₅.keep b o (kg₄ b o (kg₃ b o (kg b o e)))⟩
end
section
variable {prog:Program} {w:World} {A:Around} {E:Value→Shared→Prop} {s:Shared} {mg:Str→Option Value} {a:Addr} {x:Str}
theorem enterV (F:Fn x) (T:TK w mg s.heap) (ha:mg x=some (.ref a)) (hA:A.depth<recursionLimit) {pos:List Value} {rest:List Value} {binds:Value→List (Str × Value)} {Q:Value→Shared→Prop}
  (hb:∀ pm cd doc,bindArgs (docDef x F.params F.body F.scope pm cd doc) ⟨pos,[]⟩=(newTuple rest >>= fun t=>pure (binds t)))
  (hz:rest.length≤sizeLine)
  (hloc:∀ t,∀ y∈binds t,F.scope.names.lookup y.1=some .local)
  (hcell:(F.scope.names.all fun x=>x.2 != .cell)=true)
  (h:∀ cd D h₀ h₁,Kp s.heap h₀→s.heap.get? D=none→h₀.get? D=some { cls:=.type "tuple", data:=.seq rest.toArray }→Fr h₀ h₀.objs.size h₁ (fun y=>(binds (.ref D)).reverse.lookup y) →
   wpAny (model prog w) (A.deeper (envOf x F.scope h₀.objs.size a cd)) (execs F.body (envOf x F.scope h₀.objs.size a cd))
    (fun f s'=>Q (match f with | .ret v=>v | _=>.none) s') (fun _ _=>False)
    { s with heap:=h₁,toks:=s.toks+(binds (.ref D)).length }) :
  wpAny (model prog w) A (call (.ref a) pos) Q E s:=by
 refine u42 (T.at_ F ha) fun o pm cd doc ho hd hc=>?_
 refine wpAny_call ?_
 refine codeAny_call_function hA ho hd F.co F.gen rfl hc ?_
 rw [hb]
 refine wpAny_bind (wpAny_newTuple (wpAny_pure ?_) hz)
 have k0:Kp s.heap (s.heap.push { cls:=.type "tuple", data:=.seq rest.toArray }):=fun b o e=>Heap.get?_push_of_some _ e
 refine wpAny_newFunctionEnv ?_ (hloc _) (fun h₁ hns hsb=>⟨(T.lim.keeps k0).fresh _ hsb,codeAny_func (wpAny_mono (h cd _ _ h₁ k0 (Heap.get?_none_of_le (Nat.le_refl _)) (Heap.get?_push_size _ rfl) ⟨hns,fun b o e=>?_,Nat.le_refl _⟩) (fun _ _ x=>x) fun _ _ x=>x.elim)⟩) F.kind
 ·intro y hy e
  have:=List.all_eq_true.mp hcell y hy
  rw [e] at this
  exact absurd this (by decide)
 ·exact hsb.extBut b o (Nat.ne_of_lt (Heap.lt_size e)) (Heap.get?_push_of_some _ e)
theorem bind_join {v:Value} {rest:List Value} {pm cd doc:Value}:bindArgs (docDef "join" F_join.params F_join.body F_join.scope pm cd doc) ⟨v::rest,[]⟩=(newTuple rest >>= fun t=>pure ([("a", v),("p", t)]:List (Str × Value))):=by
 have e:∀ b:Bool,(b && false)=false:=fun b=>Bool.and_false b
 cases rest <;> rfl
end
theorem joinL_snoc (c:Nat) (x:List Nat):∀ ps:Txts,ps≠[]→joinL [c] (ps++[x])=joinL [c] ps++[c]++x
 | [],h=>absurd rfl h
 | [y],_=>rfl
 | y::z::r,_=>by
  have ih:=joinL_snoc c x (z::r) (by simp)
  show y++[c]++joinL [c] (z::r++[x])=y++[c]++joinL [c] (z::r)++[c]++x
  rw [ih]
  simp only [List.append_assoc]
theorem joinL_last {ps:Txts} (h:∀ p∈ps,Piece p) (hne:ps≠[]):(47::joinL [47] ps).getLast?≠some 47:=by
 refine u20 (by
  rcases List.eq_nil_or_concat ps with e | ⟨r,x,e⟩
  ·exact absurd e hne
  ·exact (w20 r x (by rw [e,List.concat_eq_append])):∃ r x,ps=r++[x]) fun r x z0=>?_; subst z0
 have hx:=h x (by simp)
 have hl:∃ b y,x=y++[b]:=by
  rcases List.eq_nil_or_concat x with e | ⟨y,b,e⟩
  ·exact absurd e hx.1
  ·exact (w20 b y (by rw [e,List.concat_eq_append]))
 refine u20 hl fun b y z0=>?_; clear hl; subst z0
 have hb:b≠47:=fun e=>hx.2.1 (by simp [e])
 have e:∃ z,47::joinL [47] (r++[y++[b]])=z++[b]:=by
  cases r with
  | nil=>exact ⟨47::y,rfl⟩
  | cons q t=>exact ⟨47::(joinL [47] (q::t)++[47]++y),by rw [joinL_snoc _ _ _ (by simp)]; simp⟩
 obtain ⟨z,e⟩:=e
 rw [e,List.getLast?_append]
 simpa using hb
theorem joinL_take_len (c:Nat):∀ (ps:Txts) (i:Nat),(joinL [c] (ps.take i)).length≤(joinL [c] ps).length
 | [],i=>by simp
 | [x],i=>by cases i <;> simp [joinL_n,joinL_1,joinL_c]
 | x::y::r,0=>by simp [joinL_n,joinL_1,joinL_c]
 | x::y::r,1=>by simp [joinL_n,joinL_1,joinL_c]
 | x::y::r,i+2=>by
  have ih:=joinL_take_len c (y::r) (i+1)
  simp only [List.take_succ_cons,joinL_n,joinL_1,joinL_c,List.length_append,List.length_cons,List.length_nil] at ih ⊢
  exact q3 0x211809400c44851809400c4484601000011a 1 3 (by kernel_rfl) ih
theorem pref47 {x:List Nat} (h:47∉x):List.isPrefixOf [47] x=false:=by
 cases x with
 | nil=>rfl
 | cons b r =>
  have:b≠47:=fun e=>h (by simp [e])
  simp only [List.isPrefixOf,Bool.and_eq_false_iff]
  left
  simpa using fun e=>this (Eq.symm e)
theorem piece_len {ps:Txts} {x:List Nat} {n:Nat} (h:x∈ps) (hn:(joinL [47] ps).length≤n):x.length≤n+1:=by
 have h1:=joinL_len hn
 have h2:x.length≤(ps.map (·.length)).sum:=le_sum_of_mem (List.mem_map_of_mem h)
 exact q4 0x460062c0183006012a8c00c5000211034a 1 7 (by kernel_rfl) h1 h2
section
variable {prog:Program} {w:World} {mg:Str→Option Value} {A:Around} {E:Value→Shared→Prop} {s:Shared} {a:Addr}
theorem join_spec (T:TK w mg s.heap) (ha:mg "join" = some (.ref a)) (R:Room A 3) {vs:List Value} {ps:Txts} {t:Tok} (hi:StrsAre vs (ps.map S)) (hp:∀ p∈ps,Piece p) (hx₀:(joinL [47] ps).length≤10000) :
  wpAny (model prog w) A (call (.ref a) (.str (S [47]) t::vs)) (fun v s'=>(∃ t',v=.str (S (47::joinL [47] ps)) t')∧Keeps s s') E s:=by
 obtain ⟨f1,hf1⟩:=T.addr F_fspath
 obtain ⟨f2,hf2⟩:=T.addr F_get_sep
 have lv:vs.length=ps.length:=by rw [strsAre_len hi,List.length_map]
 have lp:=joinL_cnt hx₀
 refine enterV F_join T ha R.lim (rest:=vs) (binds:=fun v=>[("a", .str (S [47]) t),("p", v)]) (fun _ _ _=>bind_join) (by rw [sizeLine_eq]; exact q2 0x2000000200119c40448a00a0695000211a 1 13 (by kernel_rfl) lv lp) (fun v=>locs rfl) rfl fun cd D h₀ h₁ k₀ hD hT₀ F₀=>?_
 have F:=St.init F₀
 replace R:=R.deeper (env:=envOf "join" F_join.scope h₀.objs.size a cd) (by decide:2+1≤3)
 generalize A.deeper (envOf "join" F_join.scope h₀.objs.size a cd)=A at R ⊢
 clear F₀
 generalize hL:h₀.objs.size=L at F ⊢
 clear hL
 replace T:=T.keeps k₀
 refine stepO fun _ _ _ _=>?_
 walk_at "ms"
 refine useK F (fspath_spec (T.keeps F.keep) hf1 (R.le (by decide)) _ _) fun v h₂ tk₂ hv F₂ k₂=>?_
 subst hv
 walk_at "ms"
 intro h₃ F₃ _
 walk_at "ms"
 refine useK F₃ (sep_spec (T.keeps F₃.keep) hf2 (R.le (by decide)) _ _) fun v h₄ tk₄ hv F₄ k₄=>?_
 obtain ⟨u,rfl⟩:=hv
 walk_at "ms"
 intro h₅ F₅ _
 walk_at "ms"
 intro h₆ F₆ _
 walk_at "ms"
 refine wpAny_Try_except ?_
 walk_at "ms"
 refine wpAny_For ?_
 walk_at "ms"
 obtain ⟨l₀,hl₀⟩:∃ l₀:List (Str × Value),l₀=([("sep", Value.str (S [47]) u)]:List (Str × Value)):=⟨_,rfl⟩
 have F₇:St h₀ L h₆ (((("path" : Str),Value.str (S (47::joinL [47] (ps.take 0))) t))::l₀) []:=by subst hl₀; exact F₆.pick ["path", "sep"] rfl
 clear F₆ F₅ F₄ F₃ F₂ F
 refine itT (fun i l own=>own=[]∧∃ t',l=(("path" : Str),Value.str (S (47::joinL [47] (ps.take i))) t')::l₀) (fun _ _=>False) R.hh F₇ (isTup_of' hT₀) ⟨rfl,t,rfl⟩ ?_ ?_
 ·rintro i v l₁ own₁ g' h tk E' _ hQt hv ⟨rfl,t',rfl⟩ kg F
  subst hl₀
  refine u21 (strs_get hi hv) fun x tx z0 hx=>?_; subst z0
  have hm:=List.mem_of_getElem? hx
  have px:=hp x hm
  have lx:=piece_len hm hx₀
  have lt:=joinL_take_len 47 ps i
  replace T:=T.keeps kg
  walk_at "ms"
  refine useK F (fspath_spec (T.keeps F.keep) hf1 (R.le (by decide)) _ _) fun v h₈ tk₈ hv F₈ k₈=>?_
  subst hv
  walk_at "ms"
  intro h₉ F₉ _
  walk_at "ms"
  refine if_bf (pref47 px.2.1) ?_
  walk_at "ms"
  refine tS (by simp; exact q2 0x1869f180284014046a71010001ea 1 7 (by kernel_rfl) hx₀ lt) fun _=>?_
  rw [decide_eq_true (by simp)]
  walk_at "ms"
  by_cases h0:ps.take i=[]
  ·rw [h0]
   refine if_bt (show ((47::joinL [47] []).getLast? == some 47)=true from rfl) ?_
   walk_at "ms"
   refine iaddS (by simp; exact q3 0x30d4018460062172280801804aa3388089140140d2a71010001ea 1 15 (by kernel_rfl) hx₀ lx lt) fun t₁ _=>?_
   walk_at "ms"
   intro h₁₀ F₁₀ _
   walk_at "ms"
   refine Turn.go hQt ⟨rfl,t₁,?_⟩ (F₁₀.pick ["path", "sep"] rfl)
   rw [take_snoc hx,h0]
   rfl
  ·have hlast:=joinL_last (ps:=ps.take i) (fun p q=>hp p (List.mem_of_mem_take q)) h0
   refine if_bf (show ((47::joinL [47] (ps.take i)).getLast? == some 47)=false from by simpa using hlast) ?_
   walk_at "ms"
   refine addS (by simp; exact q1 0x30d40188290884671011220002fa 1 3 (by kernel_rfl) lx) fun _ _=>?_
   walk_at "ms"
   refine iaddS (by simp; exact q3 0x61a80318029460062172390801804aa3388089140140d2a71010001ea 1 15 (by kernel_rfl) hx₀ lx lt) fun t₁ _=>?_
   walk_at "ms"
   intro h₁₀ F₁₀ _
   walk_at "ms"
   refine Turn.go hQt ⟨rfl,t₁,?_⟩ (F₁₀.pick ["path", "sep"] rfl)
   rw [take_snoc hx,joinL_snoc _ _ _ h0]
   have e:(47::joinL [47] (ps.take i))++([47]++x)=47::(joinL [47] (ps.take i)++[47]++x):=by simp
   rw [← e]
   rfl
 ·rintro l₁ own₁ h tk (⟨rfl,t',rfl⟩ | h) F
  case inr=>exact h.elim
  subst hl₀
  rw [lv,List.take_length] at F
  walk_at "ms"
  exact ⟨⟨t',rfl⟩,Keeps.mk' fun b o e=>F.keep b o (k₀ b o e)⟩
end
section
variable {prog:Program} {w:World} {A:Around} {E:Value→Shared→Prop} {s:Shared}
theorem loTupIter {elts:List Expr} {x1} {pos:Pos} {I t T:Addr} {i:Nat} {Q:Unit→Shared→Prop} (hit:s.heap.IsTupleIter I t i) (hQ:Q () s) :
  wpAny (model prog w) A (letOwnedTupleGo (.Tuple elts x1 pos) (.ref I) (.ref T)) Q E s:=by
 refine u12 hit fun o ho hc hd=>?_; clear hit
 unfold letOwnedTupleGo
 refine wpAny_bind (wpAny_load ho ?_)
 rw [hc,hd]
 show wpAny _ A (if (["enumerate", "zip", "dict_itemiterator", "dict_reverseitemiterator", "odict_iterator", "itertools.zip_longest", "itertools.pairwise"].contains "tuple_iterator" &&
   (#[.ref t,.int i 0]:Array Value)[0]? == some (rawInt T))=true then _ else _) Q E s
 rw [if_neg (by
  intro h
  rw [show (["enumerate", "zip", "dict_itemiterator", "dict_reverseitemiterator", "odict_iterator", "itertools.zip_longest", "itertools.pairwise"].contains "tuple_iterator")=false from by decide,Bool.false_and] at h
  cases h)]
 exact wpAny_pure hQ
variable {g:Heap} {name:Str} {scope:Scope} {L f:Addr} {cd:Value} {cl:List (Str × Addr)} {l:List (Str × Value)} {own:List (Addr × List Value)} {R:Result→Shared→Prop} {body:List Stmt}
theorem Dr.tups {env:Env} {x y:Str} {px py pt:Pos} {kk:Nat} {D I:Addr} {vs:List Value} (P2:Nat→Value→Value→Prop) (hh:A.handled=none)
  (hDI:D≠I) (h2:∀ (i:Nat) v,vs[i]?=some v→∃ a v0 v1,v=.ref a∧g.IsTuple a #[v0,v1]∧P2 i v0 v1) (hI:g.get? I=none)
  (hk:env.scope.kind=.function) (hx:env.kindOf x=some .local) (hy:env.kindOf y=some .local) :
  Dr prog w A g env (.Tuple [.Name x px,.Name y py] kk pt) I [I,D] vs.length (fun i h=>h.IsTupleIter I D i∧h.IsTuple D vs.toArray) (fun i b=>∃ v u,P2 i v u∧b=[(y,u),(x,v)]):=by
 have W:=Walks.tuple (prog:=prog) (w:=w) hh I D hDI vs.toArray
 have hwr:∀ b∈[I],g.get? b=none:=fun b hb=>by rw [List.mem_singleton.mp hb]; exact hI
 refine { frame:=W.frame,item:=fun i s l own Q E hi hW F hof hL hQ=>?_,done:=fun s l own Q E hW F hof hL hQ=>?_ }
 ·refine W.item i s _ E (by simpa using hi) hW fun v h₁ tk hv hW' hk'=>?_
  refine u32 (h2 i v (by simpa using hv)) fun a v0 v1 z0 ha hP=>?_; subst z0
  have F₁:St g env.locals h₁ l own:=F.but hk' hwr (fun h=>hL (W.sub _ h)) fun p hp h=>hof p hp (W.sub _ h)
  refine loTupIter hW'.1 ?_
  refine wpAny_assign_Tuple hh (isTu_keeps ha F₁.keep) rfl rfl fun h₃ hx₃=>?_
  have F₃:=F₁.keeps (h':=h₃) fun b o x=>hx₃ b o (Nat.ne_of_lt (Heap.lt_size x)) x
  show wpAny _ A (do holding [v1] (assign (.Name x px) env v0); do holding [] (assign (.Name y py) env v1); pure ()) _ _ _
  refine wpAny_bind (wpAny_holding (PyProof.Rows.assign_Name (stG F₃ (fun h₄ F₄ hs₄=>?_) rfl hk hx)))
  refine wpAny_bind (wpAny_holding (PyProof.Rows.assign_Name (stG F₄ (fun h₅ F₅ hs₅=>wpAny_pure ?_) rfl hk hy)))
  exact hQ _ h₅ _ (w21 v0 v1 hP rfl) (W.frame _ _ _ hW' fun b hb o e=>hs₅.extBut b o (fun q=>hL (q▸hb)) (hs₄.extBut b o (fun q=>hL (q▸hb)) (hx₃ b o (Nat.ne_of_lt (Heap.lt_size e)) e))) F₅
 ·refine W.done s _ E (by simpa using hW) fun h' tk hk=>hQ h' tk ?_
  exact F.but hk hwr (fun h=>hL (W.sub _ h)) fun p hp h=>hof p hp (W.sub _ h)
theorem itTT {x y:Str} {px py pt:Pos} {kk:Nat} {D:Addr} {vs:List Value} (P2:Nat→Value→Value→Prop)
  (Inv:Nat→List (Str × Value)→List (Addr × List Value)→Prop) (Brk:List (Str × Value)→List (Addr × List Value)→Prop)
  (hh:A.handled=none) (F:St g L s.heap l own) (hl:g.IsTuple D vs.toArray) (h2:∀ (i:Nat) v,vs[i]?=some v→∃ a v0 v1,v=.ref a∧g.IsTuple a #[v0,v1]∧P2 i v0 v1) (h0:Inv 0 l own)
  (turn:∀ i v u l₁ own₁ g' h tk E' Qt,OutL Qt (Turn g' L R (Inv (i+1)) Brk (own₁.map (·.1)) s)→P2 i v u→i<vs.length→Inv i l₁ own₁→Kp g g'→St g' L h ((y,u)::(x,v)::l₁) own₁ →
   wpAny (model prog w) A (execs body (envX name scope L f cd cl)) Qt E' { s with heap:=h,toks:=tk })
  (fin:∀ l₁ own₁ h tk,Inv vs.length l₁ own₁∨Brk l₁ own₁→St g L h l₁ own₁→R (.ok .next) { s with heap:=h,toks:=tk })
  (hk:scope.kind=.function:=by rfl) (hx:(envX name scope L f cd cl).kindOf x=some .local:=by rfl) (hy:(envX name scope L f cd cl).kindOf y=some .local:=by rfl) :
  wpAny (model prog w) A (pyIter (.ref D)) (fun it s₂=>codeAny (model prog w) A (.forLoop (.Tuple [.Name x px,.Name y py] kk pt) it body [] (envX name scope L f cd cl)) R s₂) E s:=by
 refine u11 (id hl) fun o ho r=>?_
 have ho':=F.keep _ _ ho
 have hls:s.heap.IsTuple D vs.toArray:=(w11 o ho' r)
 have hlt:=Heap.lt_size ho'
 have hDL:D≠L:=by rintro rfl; rw [F.gL] at ho; cases ho
 have hDo:∀ p∈own,p.1≠D:=by rintro p hp rfl; rw [(F.ow p hp).1] at ho; cases ho
 refine wpAny_pyIter_tuple hls ?_
 have hn:s.heap.get? s.heap.objs.size=none:=Heap.get?_none_of_le (Nat.le_refl _)
 refine u02 (noI F hn) fun n1 n2 n3=>?_
 have F':=F.keeps (h':=s.heap.push { cls:=.type "tuple_iterator", data:=.fields #[.ref D,.int 0 0] }) fun b o e=>Heap.get?_push_of_some _ e
 refine forC (s:={ s with heap:=s.heap.push { cls:=.type "tuple_iterator", data:=.fields #[.ref D,.int 0 0] } }) Inv Brk
  (Dr.tups (D:=D) (vs:=vs) P2 hh (Nat.ne_of_lt hlt) h2 n1 hk hx hy) F'
  ⟨(w12 _ (Heap.get?_push_size _ rfl) rfl rfl),hls.at fun o e=>Heap.get?_push_of_some _ e⟩ ?_ ?_ h0 ?_ ?_
 ·intro p hp hm
  rcases List.mem_cons.mp hm with e | hm
  ·exact n3 p hp e
  ·exact hDo p hp (List.mem_singleton.mp hm)
 ·intro hm
  rcases List.mem_cons.mp hm with e | hm
  ·exact n2 e.symm
  ·exact hDL (List.mem_singleton.mp hm).symm
 ·intro i _ l₁ own₁ g' h tk E' hi y0; refine u21 y0 fun v u hP z0=>?_; clear y0; subst z0; intro hI k F₁
  exact turn i v u l₁ own₁ g' h tk E' _ .same hP hi hI k F₁
 ·intro l₁ own₁ h tk hI F₁
  exact fin l₁ own₁ h tk hI F₁
end
noncomputable def rankTab:List (Int × Txts):=[(10,[[100,101,118]]),(20,[[97],[97,108,112,104,97]]),(30,[[98],[98,101,116,97]]),(40,[[99]]),(50,[[114,99],[82,67]]),(200,[[112],[112,108]])]
noncomputable def rankOf (x:List Nat):Int:=match rankTab.find? (fun p=>decide (x∈p.2)) with | some p=>p.1 | none=>0
section
variable {prog:Program} {w:World} {A:Around} {E:Value→Shared→Prop} {s:Shared} {Q:Value→Shared→Prop}
theorem inL {D:Addr} {vs:List Value} {xs:Txts} {x:List Nat} {t:Tok} (hl:s.heap.IsList D vs.toArray) (hi:StrsAre vs (xs.map S)) (h:Q (.bool (decide (x∈xs))) s) :
  wpAny (model prog w) A (compareOp .In (.str (S x) t) (.ref D)) Q E s:=by
 refine in_list_strs hl hi ?_
 have e:(xs.map S).any (· == S x)=decide (x∈xs):=by
  rw [Bool.eq_iff_iff,List.any_eq_true,decide_eq_true_eq]
  constructor
  ·intro y0; refine u11 y0 fun y hy e=>?_; clear y0
   refine u11 (List.mem_map.mp hy) fun z hz z0=>?_; subst z0
   have:=S_inj (beq_iff_eq.mp e)
   subst this; exact hz
  ·intro h
   exact (w11 (S x) (List.mem_map_of_mem h) (beq_self_eq_true _))
 rw [e]; exact h
end
noncomputable def RW (h:Heap) (p:Int × Txts) (v:Value):Prop:=∃ a t b us,v=.ref a∧h.IsTuple a #[.int p.1 t,.ref b]∧h.IsList b us.toArray∧StrsAre us (p.2.map S)
section
variable {prog:Program} {w:World} {mg:Str→Option Value} {A:Around} {E:Value→Shared→Prop} {s:Shared} {a:Addr}
theorem rank_spec (T:TK w mg s.heap) (ha:mg "_law_rank" = some (.ref a)) (R:Room A 1) (x:List Nat) (t:Tok) :
  wpAny (model prog w) A (call (.ref a) [.str (S x) t]) (fun v s'=>(∃ t',v=.int (rankOf x) t')∧Keeps s s') E s:=by
 refine enter F_rank T ha R.lim (binds:=[("word", .str (S x) t)]) (fun _ _ _=>BindsTo.of_eq rfl) (locs rfl) rfl fun cd h₁ F₀=>?_
 have F:=St.init F₀
 replace R:=R.deeper (env:=envOf "_law_rank" F_rank.scope s.heap.objs.size a cd) (by decide:0+1≤1)
 generalize A.deeper (envOf "_law_rank" F_rank.scope s.heap.objs.size a cd)=A at R ⊢
 clear F₀
 generalize hL:s.heap.objs.size=L at F ⊢
 clear hL
 refine stepO ?_
 intro _ _ _ _
 refine wpAny_For ?_
 walk_at "ms"
 refine ⟨szl (by simp),fun h2 D2 hD2 hk2 hT2=>?_⟩
 have F2:=F.keeps hk2
 walk_at "ms"
 refine ⟨szl (by simp),fun h3 D3 hD3 hk3 hT3=>?_⟩
 have F3:=F2.keeps hk3
 walk_at "ms"
 refine ⟨szl (by simp),fun h4 D4 hD4 hk4 hT4=>?_⟩
 have F4:=F3.keeps hk4
 walk_at "ms"
 refine ⟨szl (by simp),fun h5 D5 hD5 hk5 hT5=>?_⟩
 have F5:=F4.keeps hk5
 walk_at "ms"
 refine ⟨szl (by simp),fun h6 D6 hD6 hk6 hT6=>?_⟩
 have F6:=F5.keeps hk6
 walk_at "ms"
 refine ⟨szl (by simp),fun h7 D7 hD7 hk7 hT7=>?_⟩
 have F7:=F6.keeps hk7
 walk_at "ms"
 refine ⟨szl (by simp),fun h8 D8 hD8 hk8 hT8=>?_⟩
 have F8:=F7.keeps hk8
 walk_at "ms"
 refine ⟨szl (by simp),fun h9 D9 hD9 hk9 hT9=>?_⟩
 have F9:=F8.keeps hk9
 walk_at "ms"
 refine ⟨szl (by simp),fun h10 D10 hD10 hk10 hT10=>?_⟩
 have F10:=F9.keeps hk10
 walk_at "ms"
 refine ⟨szl (by simp),fun h11 D11 hD11 hk11 hT11=>?_⟩
 have F11:=F10.keeps hk11
 walk_at "ms"
 refine ⟨szl (by simp),fun h12 D12 hD12 hk12 hT12=>?_⟩
 have F12:=F11.keeps hk12
 walk_at "ms"
 refine ⟨szl (by simp),fun h13 D13 hD13 hk13 hT13=>?_⟩
 have F13:=F12.keeps hk13
 walk_at "ms"
 refine ⟨szl (by simp),fun h14 D14 hD14 hk14 hT14=>?_⟩
 have F14:=F13.keeps hk14
 have K13:Kp h13 h14:=hk14
 have K12:Kp h12 h14:=fun b o e=>K13 b o (hk13 b o e)
 have K11:Kp h11 h14:=fun b o e=>K12 b o (hk12 b o e)
 have K10:Kp h10 h14:=fun b o e=>K11 b o (hk11 b o e)
 have K9:Kp h9 h14:=fun b o e=>K10 b o (hk10 b o e)
 have K8:Kp h8 h14:=fun b o e=>K9 b o (hk9 b o e)
 have K7:Kp h7 h14:=fun b o e=>K8 b o (hk8 b o e)
 have K6:Kp h6 h14:=fun b o e=>K7 b o (hk7 b o e)
 have K5:Kp h5 h14:=fun b o e=>K6 b o (hk6 b o e)
 have K4:Kp h4 h14:=fun b o e=>K5 b o (hk5 b o e)
 have K3:Kp h3 h14:=fun b o e=>K4 b o (hk4 b o e)
 have K2:Kp h2 h14:=fun b o e=>K3 b o (hk3 b o e)
 refine u12 F14.rebaseN fun g₁ kg₁ kn F₁=>?_
 have gL:∀ {a:Addr} {vs:Array Value},h14.get? a=some { cls:=.type "list", data:=.seq vs }→g₁.IsList a vs:=fun e=>isL_of (kn _ _ e (fun _ _ q=>by cases q))
 have gT:∀ {a:Addr} {vs:Array Value},h14.get? a=some { cls:=.type "tuple", data:=.seq vs }→g₁.IsTuple a vs:=fun e=>isTup_of' (kn _ _ e (fun _ _ q=>by cases q))
 have hal:Al (RW g₁) rankTab [.ref D3,.ref D5,.ref D7,.ref D9,.ref D11,.ref D13] :=
  .cons (w43 _ _ _ _ rfl (gT (K3 _ _ hT3)) (gL (K2 _ _ hT2)) (.cons _ _ .nil))
  (.cons (w43 _ _ _ _ rfl (gT (K5 _ _ hT5)) (gL (K4 _ _ hT4)) (.cons _ _ (.cons _ _ .nil)))
  (.cons (w43 _ _ _ _ rfl (gT (K7 _ _ hT7)) (gL (K6 _ _ hT6)) (.cons _ _ (.cons _ _ .nil)))
  (.cons (w43 _ _ _ _ rfl (gT (K9 _ _ hT9)) (gL (K8 _ _ hT8)) (.cons _ _ .nil))
  (.cons (w43 _ _ _ _ rfl (gT (K11 _ _ hT11)) (gL (K10 _ _ hT10)) (.cons _ _ (.cons _ _ .nil)))
  (.cons (w43 _ _ _ _ rfl (gT (K13 _ _ hT13)) (gL (K12 _ _ hT12)) (.cons _ _ (.cons _ _ .nil))) .nil)))))
 have hT:=gT hT14
 refine u11 (F₁.pickE ["word"]) fun l₀ hl₀ F₂=>?_
 generalize [Value.ref D3,.ref D5,.ref D7,.ref D9,.ref D11,.ref D13]=vs at hal hT
 have kF:Kp s.heap g₁:=kg₁
 clear hT14 hT13 hT12 hT11 hT10 hT9 hT8 hT7 hT6 hT5 hT4 hT3 hT2 F14 F13 F12 F11 F10 F9 F8 F7 F6 F5 F4 F3 F2 F F₁ gL gT kn
 clear K13 K12 K11 K10 K9 K8 K7 K6 K5 K4 K3 K2
 refine itTT (fun i v u=>∃ p t b us,rankTab[i]?=some p∧v=.int p.1 t∧u=.ref b∧g₁.IsList b us.toArray∧StrsAre us (p.2.map S))
  (fun i l own=>l=l₀∧own=[]∧∀ j p,j<i→rankTab[j]?=some p→x∉p.2) (fun _ _=>False) R.hh F₂ hT ?_ ⟨rfl,rfl,fun j p hj _=>absurd hj (by exact q1 65560 1 1 (by kernel_rfl))⟩ ?_ ?_
 ·intro i v hv
  refine u11 (hal.get hv) fun p hp z0=>?_; refine u43 z0 fun a' t' b' us' e hta hlb hus=>?_; clear z0
  exact (w32 a' _ _ e hta ⟨p,t',b',us',hp,rfl,rfl,hlb,hus⟩)
 ·intro i v u l₁ own₁ g' h tk E' _ hQt y0; refine u44 y0 fun p tp b us hp z0 z1 hb hus=>?_; clear y0; subst z0; subst z1; intro hi y1; refine u02 y1 fun z0 z1 hno=>?_; clear y1; subst z0; subst z1; intro kg F
  subst hl₀
  walk_at "ms"
  refine inL (isL_keeps hb fun b o e=>F.keep b o (kg b o e)) hus ?_
  by_cases hx:x∈p.2
  ·rw [decide_eq_true hx]
   walk_at "ms"
   refine ⟨⟨tp,?_⟩,Keeps.mk' fun b o e=>F.keep b o (kg b o (kF b o e))⟩
   have:rankTab.find? (fun p=>decide (x∈p.2))=some p:=by
    rw [List.find?_eq_some_iff_getElem]
    have hil:=(List.getElem?_eq_some_iff.mp hp)
    refine ⟨by simpa using hx,i,hil.1,hil.2,fun j hj=>?_⟩
    have hj':j<rankTab.length:=Nat.lt_trans hj hil.1
    have:=hno j rankTab[j] hj (List.getElem?_eq_getElem hj')
    simpa using this
   show Value.int p.1 tp=Value.int (rankOf x) tp
   unfold rankOf
   rw [this]
  ·rw [decide_eq_false hx]
   walk_at "ms"
   refine Turn.go hQt ⟨rfl,rfl,fun j q hj hq=>?_⟩ (F.pick ["word"] rfl)
   rcases Nat.lt_or_ge j i with h' | h'
   ·exact hno j q h' hq
   ·have:j=i:=by exact q2 0x80014014046a3005200122a 1 46 (by kernel_rfl) hj h'
    subst this
    rw [hp] at hq; cases hq; exact hx
 ·rintro l₁ own₁ h tk (⟨rfl,rfl,hno⟩ | h) F
  case inr=>exact h.elim
  subst hl₀
  walk_at "ms"
  have hf:rankTab.find? (fun p=>decide (x∈p.2))=none:=by
   rw [List.find?_eq_none]
   intro p hp
   refine v20 (List.getElem_of_mem hp) fun j hj z0=>?_; subst z0
   have:=hno j rankTab[j] (by rw [hal.1]; exact hj) (List.getElem?_eq_getElem hj)
   simpa using this
  have e0:rankOf x=0:=by unfold rankOf; rw [hf]
  rw [e0]
  exact ⟨⟨_,rfl⟩,Keeps.mk' fun b o e=>F.keep b o (kF b o e)⟩
end
noncomputable abbrev It:=Int ⊕ List Nat
noncomputable def isIt:It→Value→Prop
 | .inl k,v=>∃ t,v=.int k t
 | .inr x,v=>∃ t,v=.str (S x) t
noncomputable abbrev Pr:=Int × It
noncomputable def PV (h:Heap) (p:Pr) (v:Value):Prop:=∃ a t u,v=.ref a∧h.IsTuple a #[.int p.1 t,u]∧isIt p.2 u
theorem PV.keeps {h h':Heap} {p:Pr} {v:Value} (x:PV h p v) (k:Kp h h'):PV h' p v:=u32 x fun a t u e ht hi=>(w32 a t u e (isTu_keeps ht k) hi)
section
open PySem.SeqAt
variable {A:Around} {s:Shared}
set_option tactic.hygienic true in
theorem eqIt {i j:It} {v u:Value} (hv:isIt i v) (hu:isIt j u):EqAt A s v u (decide (i=j)):=by
 cases i <;> cases j <;> obtain ⟨t,rfl⟩:=hv <;> obtain ⟨t',rfl⟩:=hu
 ·rename_i k k'
  have e:(k == k')=decide ((Sum.inl k:It)=Sum.inl k'):=by rw [Bool.eq_iff_iff]; simp
  have:=EqAt.int_int (A:=A) (s:=s) k t k' t'
  rw [e] at this; exact this
 ·exact EqAt.int_str _ _ _ _
 ·exact EqAt.str_int _ _ _ _
 ·rename_i x x'
  have e:(S x == S x')=decide ((Sum.inr x:It)=Sum.inr x'):=by
   rw [Bool.eq_iff_iff,beq_iff_eq,decide_eq_true_eq]
   exact ⟨fun e=>congrArg Sum.inr (S_inj e),fun e=>by cases e; rfl⟩
  have:=EqAt.str_str (A:=A) (s:=s) (S x) t (S x') t'
  rw [e] at this; exact this
variable {prog:Program} {w:World} {E:Value→Shared→Prop} {Q:Value→Shared→Prop}
theorem eqPV {p q:Pr} {v u:Value} (hA:A.units<cLine) (hv:PV s.heap p v) (hu:PV s.heap q u) (h:Q (.bool (decide (p=q))) s):wpAny (model prog w) A (compareOp .Eq v u) Q E s:=by
 refine u32 hv fun a t x z0 ha hx=>?_; clear hv; subst z0
 refine u32 hu fun b t' y z0 hb hy=>?_; clear hu; subst z0
 refine eq_tupleAt (e:=fun j=>if j=0 then decide (p.1=q.1) else decide (p.2=q.2)) ha hb hA (fun j h1 h2=>?_) ?_
 ·have hj:j=0∨j=1:=by have:j<2:=h1; exact q1 0x8801400835e100112a 1 2986 (by kernel_rfl) this
  rcases hj with rfl | rfl
  ·have e:(p.1 == q.1)=decide (p.1=q.1):=by rw [Bool.eq_iff_iff]; simp
   have:=EqAt.int_int (A:=A.in1) (s:=s) p.1 t q.1 t'
   rw [e] at this; exact this
  ·exact eqIt hx hy
 ·have e:(((List.range (min (#[Value.int p.1 t,x]:Array Value).size (#[Value.int q.1 t',y]:Array Value).size)).all fun j=>if j=0 then decide (p.1=q.1) else decide (p.2=q.2)) && (#[Value.int p.1 t,x]:Array Value).size == (#[Value.int q.1 t',y]:Array Value).size)=decide (p=q):=by
   obtain ⟨p1,p2⟩:=p
   obtain ⟨q1,q2⟩:=q
   rw [Bool.eq_iff_iff]
   simp [List.range_succ]
  rw [e]; exact h
theorem min2 {a b:Int} {t u:Tok} (hh:A.handled=none) (h:∀ t' h' tk,Kp s.heap h'→Q (.int (if b<a then b else a) t') { s with heap:=h',toks:=tk }) :
  wpAny (model prog w) A (call (.builtin "min") [.int a t,.int b u]) Q E s :=
 min_two_ints hh fun h' tk k=>by
  by_cases e:b<a
  ·have:=h u h' tk k
   rw [if_pos e] at this ⊢
   exact this
  ·have:=h t h' tk k
   rw [if_neg e] at this ⊢
   exact this
end
noncomputable def shN {α:Type} [DecidableEq α]:List α→List α→Nat
 | x::p,y::q=>if x=y then shN p q+1 else 0
 | _,_=>0
theorem shN_c {α:Type} [DecidableEq α] {x y:α} {p q:List α}:shN (x::p) (y::q)=if x=y then shN p q+1 else 0:=rfl
theorem shN_n {α:Type} [DecidableEq α] {q:List α}:shN [] q=0:=rfl
theorem shN_z {α:Type} [DecidableEq α] {p:List α}:shN p []=0:=by cases p <;> rfl
theorem shN_le {α:Type} [DecidableEq α]:∀ xs ys:List α,shN xs ys≤xs.length∧shN xs ys≤ys.length
 | [],_=>by simp [shN_n,shN_z,shN_c]
 | _::_,[]=>by simp [shN_n,shN_z,shN_c]
 | x::p,y::q=>by
  have:=shN_le p q
  rw [shN_c]
  split <;> simp <;> exact q3 0x20000800008b4000100001162fa 1 53 (by kernel_rfl) this
theorem shN_at {α:Type} [DecidableEq α]:∀ (i:Nat) (xs ys:List α),(∀ j<i,xs[j]?=ys[j]?)→i≤xs.length→i≤ys.length→(i<xs.length→i<ys.length→xs[i]?≠ys[i]?)→shN xs ys=i
 | i,[],ys,_,h,_,_=>by simp at h; subst h; rfl
 | i,_::_,[],_,_,h,_=>by simp at h; subst h; rfl
 | 0,x::p,y::q,_,_,_,h=>by
  have:=h (by simp) (by simp)
  rw [shN_c,if_neg (by simpa using this)]
 | i+1,x::p,y::q,h1,h2,h3,h4=>by
  have e:x=y:=by simpa using h1 0 (by exact q1 570445841 1 1 (by kernel_rfl))
  rw [shN_c,if_pos e,shN_at i p q (fun j hj=>by simpa using h1 (j+1) (by exact q2 0x8c014a2004223000111a 1 3 (by kernel_rfl) hj)) (by simpa using h2) (by simpa using h3) (fun a b=>by simpa using h4 (by simpa using a) (by simpa using b))]
section
variable {prog:Program} {w:World} {mg:Str→Option Value} {A:Around} {E:Value→Shared→Prop} {s:Shared} {f:Addr}
set_option tactic.hygienic true in
theorem shared_spec (T:TK w mg s.heap) (ha:mg "_law_shared" = some (.ref f)) (R:Room A 2) {D₁ D₂:Addr} {us ws:List Value} {xs ys:List Pr}
  (h1:s.heap.IsList D₁ us.toArray) (h2:s.heap.IsList D₂ ws.toArray) (hx:Al (PV s.heap) xs us) (hy:Al (PV s.heap) ys ws) (hzx:xs.length≤10000) (hzy:ys.length≤10000) :
  wpAny (model prog w) A (call (.ref f) [.ref D₁,.ref D₂]) (fun v s'=>(∃ t,v=.int (shN xs ys:Nat) t)∧Keeps s s') E s:=by
 refine enter F_shared T ha R.lim (binds:=[("low", .ref D₁),("high", .ref D₂)]) (fun _ _ _=>BindsTo.of_eq rfl) (locs rfl) rfl fun cd h₁ F₀=>?_
 have F:=St.init F₀
 replace R:=R.deeper (env:=envOf "_law_shared" F_shared.scope s.heap.objs.size f cd) (by decide:1+1≤2)
 generalize A.deeper (envOf "_law_shared" F_shared.scope s.heap.objs.size f cd)=A at R ⊢
 clear F₀
 generalize hL:s.heap.objs.size=L at F ⊢
 clear hL
 refine stepO fun _ _ _ _=>?_
 walk_at "ms"
 intro h₂ F₂ _
 walk_at "ms"
 refine wpAny_While ?_
 have lx:=hx.1
 have ly:=hy.1
 obtain ⟨l₀,hl₀⟩:∃ l₀:List (Str × Value),l₀=([("low", Value.ref D₁),("high", Value.ref D₂)]:List (Str × Value)):=⟨_,rfl⟩
 obtain ⟨t₀,F₃⟩:∃ t₀,St s.heap L h₂ ((("count" : Str),Value.int 0 t₀)::l₀) []:=⟨_,by subst hl₀; exact F₂.pick ["count", "low", "high"] rfl⟩
 refine itW xs.length (fun k l own=>own=[]∧∃ c t,k+c=xs.length∧c≤ys.length∧l=(("count" : Str),Value.int (c:Nat) t)::l₀∧∀ j<c,xs[j]?=ys[j]?)
  (fun l own=>own=[]∧∃ c t,c≤xs.length∧c≤ys.length∧l=(("count" : Str),Value.int (c:Nat) t)::l₀∧(∀ j<c,xs[j]?=ys[j]?)∧(c<xs.length→c<ys.length→xs[c]?≠ys[c]?))
  F₃ ⟨rfl,0,_,rfl,Nat.zero_le _,rfl,fun j hj=>absurd hj (by exact q1 65560 1 1 (by kernel_rfl))⟩ ?_ ?_
 ·rintro k l₁ own₁ h tk E' _ _ hQt hQo ⟨rfl,c,t,hk,hcy,rfl,hsame⟩ F
  subst hl₀
  walk_at "ms"
  refine lenL (isL_keeps h1 F.keep) (by exact q2 0x186a0180284014846a71010001ea 1 11 (by kernel_rfl) hzx lx) fun _ _=>?_
  walk_at "ms"
  refine lenL (isL_keeps h2 F.keep) (by exact q2 0x186a0180284014846a71010001ea 1 11 (by kernel_rfl) hzy ly) fun _ _=>?_
  walk_at "ms"
  refine min2 R.hh fun t' h' tk' hk'=>?_
  have F':=F.keeps hk'
  rw [lx,ly]
  walk_at "ms"
  by_cases hlt:c<xs.length∧c<ys.length
  ·refine if_bt (decide_eq_true (by split <;> (first | exact q3 0x1000024000300011162fa 1 6 (by kernel_rfl) hlt | exact q3 0x800024000300011162fa 1 5 (by kernel_rfl) hlt))) ?_
   refine u11 (hx.get' (List.getElem?_eq_getElem hlt.1)) fun v hv pv=>?_
   refine u11 (hy.get' (List.getElem?_eq_getElem hlt.2)) fun u hu pu=>?_
   walk_at "ms"
   refine idxL c rfl (isL_keeps h1 F'.keep) hv (by exact q2 0x186a0180284014846a71010001ea 1 11 (by kernel_rfl) hzx lx) ?_
   walk_at "ms"
   refine idxL c rfl (isL_keeps h2 F'.keep) hu (by exact q2 0x186a0180284014846a71010001ea 1 11 (by kernel_rfl) hzy ly) ?_
   walk_at "ms"
   refine eqPV R.units (pv.keeps F'.keep) (pu.keeps F'.keep) ?_
   walk_at "ms"
   by_cases heq:xs[c]'hlt.1=ys[c]'hlt.2
   ·refine if_bt (decide_eq_true heq) ?_
    walk_at "ms"
    intro h₄ F₄ _
    walk_at "ms"
    refine TurnW.go hQt (k-1) (by exact q4 0x22006223840146080288bb1d541000211223a 1 1424 (by kernel_rfl) hk hlt) ⟨rfl,c+1,_,by exact q4 0x208c014a2006224665840146080288bb1d541000211223a 1 5315730 (by kernel_rfl) hk hlt,by exact q3 0x2088010884000300011162fa 1 6 (by kernel_rfl) hlt,rfl,?_⟩ (F₄.pick ["count", "low", "high"] rfl)
    intro j hj
    rcases Nat.lt_or_ge j c with q | q
    ·exact hsame j q
    ·have:j=c:=by exact q2 0x80014014046a3005200122a 1 46 (by kernel_rfl) hj q
     subst this
     rw [List.getElem?_eq_getElem hlt.1,List.getElem?_eq_getElem hlt.2,heq]
   ·refine if_bf (decide_eq_false heq) ?_
    walk_at "ms"
    refine TurnO.go hQo ⟨rfl,c,t,by exact q3 0x80004000300011162fa 1 5 (by kernel_rfl) hlt,hcy,rfl,hsame,fun a b=>?_⟩ (F'.pick ["count", "low", "high"] rfl)
    rw [List.getElem?_eq_getElem a,List.getElem?_eq_getElem b]
    simpa using heq
  ·refine if_bf (decide_eq_false (by split <;> (first | (rename_i z0; exact q3 0x800012201000520fd400030001116833a 1 47 (by kernel_rfl) hlt z0) | (rename_i z0; exact q3 0x40001220100052411d400030001116833a 1 61 (by kernel_rfl) hlt z0)))) ?_
   walk_at "ms"
   exact TurnO.go hQo ⟨rfl,c,t,by exact q3 0x20802841000211223a 1 5 (by kernel_rfl) hk,hcy,rfl,hsame,fun a b=>absurd ⟨a,b⟩ hlt⟩ (F'.pick ["count", "low", "high"] rfl)
 ·rintro l₁ own₁ h tk ⟨rfl,c,t,hcx,hcy,rfl,hsame,hne⟩ F
  subst hl₀
  walk_at "ms"
  rw [shN_at c xs ys hsame hcx hcy hne]
  exact ⟨⟨t,rfl⟩,Keeps.mk' F.keep⟩
end
noncomputable def Dat (G H:Heap):Prop:=∀ b o,G.get? b=some o→o.cls≠.type "list_iterator" → H.get? b=some o
theorem Dat.list {G H:Heap} (k:Dat G H) {a:Addr} {vs:Array Value} (x:G.IsList a vs):H.IsList a vs:=by
 refine u12 x fun o ho hc r=>?_; clear x
 exact (w12 o (k a o ho (by rw [hc]; decide)) hc r)
theorem Dat.tuple {G H:Heap} (k:Dat G H) {a:Addr} {vs:Array Value} (x:G.IsTuple a vs):H.IsTuple a vs:=by
 refine u12 x fun o ho hc r=>?_; clear x
 exact (w12 o (k a o ho (by rw [hc]; decide)) hc r)
theorem Dat.of {G H:Heap} (k:Kp G H):Dat G H:=fun b o e _=>k b o e
section
variable {prog:Program} {w:World} {A:Around} {g:Heap} {env:Env} {l:List (Str × Value)} {own:List (Addr × List Value)}
theorem forHG {target:Expr} {body:List Stmt} {I:Addr} {fp wr hid:List Addr} {n:Nat} {W:Nat→Heap→Prop} {P:Nat→List (Str × Value)→Prop} {R:Result→Shared→Prop} {s:Shared}
  (Inv:Nat→List (Str × Value)→List (Addr × List Value)→Heap→Prop) (Z:Shared→Prop)
  (D:∀ g',(∀ b∈wr,g'.get? b=none)→Dr prog w A g' env target I fp n W P) (F:St g env.locals s.heap l own) (hW:W 0 s.heap) (hof:∀ p∈own,p.1∉fp) (hL:env.locals∉fp) (hfh:∀ b∈fp,b∉hid) (hg:∀ b∈hid,g.get? b=none)
  (hgw:∀ b∈wr,g.get? b=none) (hwf:∀ b∈wr,b∈fp) (hal:∀ i h,W i h→∀ b∈fp,∃ o,h.get? b=some o∧(b∈wr→o.cls=.type "list_iterator"))
  (h0:Inv 0 l own g) (hZ:Z s) (hZk:∀ s h tk,Z s→Z { s with heap:=h,toks:=tk })
  (turn:∀ i b l₁ own₁ g₁ g' s₁ E',i<n→P i b→Inv i l₁ own₁ g₁→Kp g g₁→Kp g₁ g'→(∀ b∈hid,g'.get? b=none)→St g' env.locals s₁.heap (b++l₁) own₁→Z s₁ →
   wpAny (model prog w) A (execs body env) (fun f s₂=>match f with
    | .next | .cont=>Z s₂∧∃ l₂ own₂ G,Kp g' G∧(∀ b∈hid,G.get? b=none)∧St G env.locals s₂.heap l₂ own₂∧∀ Γ,Dat G Γ→Inv (i+1) l₂ own₂ Γ
    | .brk=>False
    | .ret v=>R (.ok (.ret v)) s₂) E' s₁)
  (fin:∀ l₁ own₁ g₁ s₁,Inv n l₁ own₁ g₁→Kp g g₁→(∀ b∈hid,g₁.get? b=none)→St g₁ env.locals s₁.heap l₁ own₁→Z s₁→R (.ok .next) s₁) :
  codeAny (model prog w) A (.forLoop target (.ref I) body [] env) R s:=by
 let J:Nat→Shared→Prop:=fun k s'=>∃ i l₁ own₁ g₁,k=n-i∧i≤n∧W i s'.heap∧Kp g g₁∧(∀ b∈hid,g₁.get? b=none)∧(∀ b∈wr,g₁.get? b=none)∧St g₁ env.locals s'.heap l₁ own₁∧(∀ p∈own₁,p.1∉fp)∧Inv i l₁ own₁ g₁∧Z s'
 refine codeAny_forLoop_any J ?_ n (w49 0 l own g rfl (Nat.zero_le _) hW (fun _ _ e=>e) hg hgw F hof h0 hZ)
 intro k s' y0; refine u49 y0 fun i l₁ own₁ g₁ z0 hi hW' kg hh₁ hw₁ F' hof' hInv hZ'=>?_; clear y0; subst z0
 by_cases hlt:i<n
 ·refine wpAny_mono ((D g₁ hw₁).item i s' l₁ own₁ (fun _ s₂=>wpAny (model prog w) A (execs body env) (fun f s₃=>match f with
      | .next | .cont=>∃ m,m<n-i∧J m s₃
      | .brk=>R (.ok .next) s₃
      | .ret v=>R (.ok (.ret v)) s₃) (notedBy (model prog w) A env fun e s'=>R (.error e) s') s₂) (notedBy (model prog w) A env fun e s'=>R (.error e) s') hlt hW' F' hof' hL ?hq) (fun r s₁ h=>?_) fun _ _ e=>e
  case hq =>
   intro b h' tk hP hW₁ F₁
   refine u14 (F₁.rebaseH hid hh₁) fun g' k1 k2 k3 k4 F₂=>?_
   have fpg:∀ b∈fp,∃ o,h'.get? b=some o∧g'.get? b=some o∧(b∈wr→o.cls=.type "list_iterator"):=fun b hb=>by
    refine u11 (hal _ _ hW₁ b hb) fun o ho hc=>?_
    exact (w12 o ho (k3 b o (fun q=>hL (q▸hb)) (fun p hp q=>hof' p hp (q▸hb)) (hfh b hb) ho) hc)
   refine wpAny_mono (turn i b l₁ own₁ g₁ g' { s' with heap:=h',toks:=tk } _ hlt hP hInv kg k1 k4 F₂ (hZk _ _ _ hZ')) (fun f s₂ p=>?_) fun _ _ e=>e
   have go:(Z s₂∧∃ l₂ own₂ G,Kp g' G∧(∀ b∈hid,G.get? b=none)∧St G env.locals s₂.heap l₂ own₂∧∀ Γ,Dat G Γ→Inv (i+1) l₂ own₂ Γ) →
     ∃ m,m<n-i∧J m s₂:=by
    rintro ⟨z,l₂,own₂,G,kG,hG,F₃,hI⟩
    have kk:Kp (hideAll G wr) G:=fun b o e=>of_hideAll _ e
    refine (w11 (n-(i+1)) (by exact q2 0x8029c400a00a6443000111a 1 21810 (by kernel_rfl) hlt) ⟨i+1,l₂,own₂,hideAll G wr,rfl,hlt,(D g₁ hw₁).frame _ _ _ hW₁ ?_,?_,?_,fun b hb=>hideAll_none _ hb,F₃.base kk,?_,hI _ ?_,z⟩)
    ·intro b hb o e
     refine u12 (fpg b hb) fun o' e' e'' _=>?_
     rw [e] at e'; cases e'
     exact F₃.keep b o (kG b o e'')
    ·intro b o e
     refine hideAll_get _ (kG b o (k1 b o (kg b o e))) fun hm=>?_
     have:=kg b o e
     rw [hw₁ b hm] at this; cases this
    ·intro b hb
     cases e:(hideAll G wr).get? b with
     | none=>rfl
     | some o=>have:=of_hideAll _ e; rw [hG b hb] at this; cases this
    ·intro p hp hm
     refine u12 (fpg p.1 hm) fun o _ e _=>?_
     have:=kG _ _ e
     rw [(F₃.ow p hp).1] at this; cases this
    ·intro b o e hc
     refine hideAll_get _ e fun hm=>?_
     refine u12 (fpg b (hwf b hm)) fun o' _ e' hc'=>?_
     have:=kG _ _ e'
     rw [e] at this; cases this
     exact hc (hc' hm)
   cases f with
   | next=>exact go p
   | cont=>exact go p
   | brk=>exact p.elim
   | ret v=>exact p
  cases r with
  | none=>exact h.elim
  | some v=>exact h
 ·have hin:i=n:=by exact q2 0x4000a000302b5000011a 1 46 (by kernel_rfl) hi hlt
  subst hin
  refine wpAny_mono ((D g₁ hw₁).done s' l₁ own₁ (fun s₁=>R (.ok .next) s₁) _ hW' F' hof' hL fun h' tk F₁=>fin _ _ _ _ hInv kg hh₁ F₁ (hZk _ _ _ hZ')) (fun r s₁ h=>?_) fun _ _ e=>e
  cases r with
  | none=>exact wpAny_execs_nil h
  | some v=>exact h.elim
noncomputable abbrev TurnOG (g₁:Heap) (L:Addr) (s:Shared) (O:List (Str × Value)→List (Addr × List Value)→Heap→Prop) (s₂:Shared):Prop :=
 ∃ h tk,s₂={ s with heap:=h,toks:=tk }∧∃ l₂ own₂ G,Kp g₁ G∧O l₂ own₂ G∧St G L h l₂ own₂
noncomputable abbrev TurnWG (g₁:Heap) (L:Addr) (s:Shared) (R:Result→Shared→Prop) (Inv:Nat→List (Str × Value)→List (Addr × List Value)→Heap→Prop) (O':List (Str × Value)→List (Addr × List Value)→Heap→Prop) (k:Nat) (fl:Flow) (s₃:Shared):Prop :=
 match fl with
 | .next | .cont=>∃ h tk,s₃={ s with heap:=h,toks:=tk }∧∃ m l₂ own₂ G,m<k∧Kp g₁ G∧Inv m l₂ own₂ G∧St G L h l₂ own₂
 | .brk=>TurnOG g₁ L s O' s₃
 | .ret v=>R (.ok (.ret v)) s₃
section
variable {g₁:Heap} {L:Addr} {R:Result→Shared→Prop} {Inv:Nat→List (Str × Value)→List (Addr × List Value)→Heap→Prop} {O:List (Str × Value)→List (Addr × List Value)→Heap→Prop} {k:Nat} {s:Shared} {Q:Flow→Shared→Prop} {Q':Shared→Prop} {h:Heap} {tk:Nat} {l₂:List (Str × Value)} {own₂:List (Addr × List Value)} {s':Shared}
theorem TurnWG.go (hQ:OutL Q (TurnWG g₁ L s R Inv O k)) (m:Nat) (G:Heap) (hm:m<k) (kG:Kp g₁ G) (hI:Inv m l₂ own₂ G) (F:St G L h l₂ own₂) (hs:s'={ s with heap:=h,toks:=tk }:=by rfl):Q .next s':=hQ.go _ _ (w21 h tk hs ⟨m,l₂,own₂,G,hm,kG,hI,F⟩)
theorem TurnOG.go (hQ:OutS Q' (TurnOG g₁ L s O)) (G:Heap) (kG:Kp g₁ G) (hO:O l₂ own₂ G) (F:St G L h l₂ own₂) (hs:s'={ s with heap:=h,toks:=tk }:=by rfl):Q' s':=hQ.go _ (w21 h tk hs ⟨l₂,own₂,G,kG,hO,F⟩)
end
theorem whileHG {test:Expr} {body:List Stmt} {R:Result→Shared→Prop} {s:Shared} (n:Nat)
  (Inv:Nat→List (Str × Value)→List (Addr × List Value)→Heap→Prop) (Out:List (Str × Value)→List (Addr × List Value)→Heap→Prop)
  (F:St g env.locals s.heap l own) (h0:Inv n l own g)
  (turn:∀ k l₁ own₁ g₁ h tk E' Qt Qo,OutL Qt (TurnWG g₁ env.locals s R Inv Out k)→OutS Qo (TurnOG g₁ env.locals s Out)→Inv k l₁ own₁ g₁→Kp g g₁→St g₁ env.locals h l₁ own₁ →
   wpAny (model prog w) A (isTrue test env (eval test env)) (fun b s₂ =>
    if b then wpAny (model prog w) A (execs body env) Qt E' s₂ else Qo s₂) E' { s with heap:=h,toks:=tk })
  (fin:∀ l₁ own₁ g₁ h tk,Out l₁ own₁ g₁→Kp g g₁→St g₁ env.locals h l₁ own₁→R (.ok .next) { s with heap:=h,toks:=tk }) :
  codeAny (model prog w) A (.whileLoop test body [] env) R s:=by
 refine codeAny_whileLoop (fun k s'=>∃ l₁ own₁ g₁ h tk,s'={ s with heap:=h,toks:=tk }∧Inv k l₁ own₁ g₁∧Kp g g₁∧St g₁ env.locals h l₁ own₁) ?_ n (w53 l own g s.heap s.toks rfl h0 (fun _ _ e=>e) F)
 intro k s' y0; refine u53 y0 fun l₁ own₁ g₁ h tk z0 hI kg F'=>?_; clear y0; subst z0
 refine wpAny_mono (turn k l₁ own₁ g₁ h tk _ _ _ .same .same hI kg F') (fun b s₂ p=>?_) fun _ _ e=>e
 cases b with
 | true =>
  rw [if_pos rfl] at p ⊢
  refine wpAny_mono p (fun f s₃ q=>?_) fun _ _ e=>e
  cases f with
  | next=>(refine u21 q fun h tk z0 z1=>?_; clear q; subst z0; refine u43 z1 fun m l₂ own₂ G hm kG hI₂ F₂=>?_; clear z1); exact (w11 m hm ⟨l₂,own₂,G,h,tk,rfl,hI₂,fun b o e=>kG b o (kg b o e),F₂⟩)
  | cont=>(refine u21 q fun h tk z0 z1=>?_; clear q; subst z0; refine u43 z1 fun m l₂ own₂ G hm kG hI₂ F₂=>?_; clear z1); exact (w11 m hm ⟨l₂,own₂,G,h,tk,rfl,hI₂,fun b o e=>kG b o (kg b o e),F₂⟩)
  | brk=>(refine u21 q fun h tk z0 z1=>?_; clear q; subst z0; refine u32 z1 fun l₂ own₂ G kG hO F₂=>?_; clear z1); exact fin _ _ _ _ _ hO (fun b o e=>kG b o (kg b o e)) F₂
  | ret v=>exact q
 | false =>
  rw [if_neg Bool.false_ne_true] at p ⊢
  refine u21 p fun h tk z0 z1=>?_; clear p; subst z0; refine u32 z1 fun l₂ own₂ G kG hO F₂=>?_; clear z1
  exact wpAny_execs_nil (fin _ _ _ _ _ hO (fun b o e=>kG b o (kg b o e)) F₂)
end
section
variable {prog:Program} {w:World} {A:Around} {E:Value→Shared→Prop} {g:Heap} {name:Str} {scope:Scope} {L f:Addr} {cd:Value} {cl:List (Str × Addr)} {l:List (Str × Value)} {own:List (Addr × List Value)} {s:Shared} {R:Result→Shared→Prop} {body:List Stmt}
noncomputable abbrev TurnG (g':Heap) (L:Addr) (s:Shared) (R:Result→Shared→Prop) (J:List (Str × Value)→List (Addr × List Value)→Heap→Prop) (fl:Flow) (s₂:Shared):Prop :=
 match fl with
 | .next | .cont=>∃ h tk,s₂={ s with heap:=h,toks:=tk }∧∃ l₂ own₂ G,Kp g' G∧St G L h l₂ own₂∧∀ Γ,Dat G Γ→J l₂ own₂ Γ
 | .brk=>False
 | .ret v=>R (.ok (.ret v)) s₂
theorem TurnG.go {g':Heap} {L:Addr} {s s':Shared} {R:Result→Shared→Prop} {J:List (Str × Value)→List (Addr × List Value)→Heap→Prop} {Q:Flow→Shared→Prop} {h:Heap} {tk:Nat} {l₂:List (Str × Value)} {own₂:List (Addr × List Value)}
  (hQ:OutL Q (TurnG g' L s R J)) (G:Heap) (kG:Kp g' G) (F:St G L h l₂ own₂) (hJ:∀ Γ,Dat G Γ→J l₂ own₂ Γ) (hs:s'={ s with heap:=h,toks:=tk }:=by rfl):Q .next s':=hQ.go _ _ (w21 h tk hs ⟨l₂,own₂,G,kG,F,hJ⟩)
theorem itLG {x:Str} {px:Pos} {D:Addr} {vs:List Value}
  (Inv:Nat→List (Str × Value)→List (Addr × List Value)→Heap→Prop)
  (hh:A.handled=none) (F:St g L s.heap l own) (hl:g.IsList D vs.toArray) (h0:Inv 0 l own g)
  (turn:∀ i v l₁ own₁ g₁ g' h tk E' Qt,OutL Qt (TurnG g' L s R (Inv (i+1)))→vs[i]?=some v→Inv i l₁ own₁ g₁→Kp g g₁→Kp g₁ g'→St g' L h ((x,v)::l₁) own₁ →
   wpAny (model prog w) A (execs body (envX name scope L f cd cl)) Qt E' { s with heap:=h,toks:=tk })
  (fin:∀ l₁ own₁ g₁ h tk,Inv vs.length l₁ own₁ g₁→Kp g g₁→St g₁ L h l₁ own₁→R (.ok .next) { s with heap:=h,toks:=tk })
  (hk:scope.kind=.function:=by rfl) (hx:(envX name scope L f cd cl).kindOf x=some .local:=by rfl) :
  wpAny (model prog w) A (pyIter (.ref D)) (fun it s₂=>codeAny (model prog w) A (.forLoop (.Name x px) it body [] (envX name scope L f cd cl)) R s₂) E s:=by
 refine u03 (listL F hl) fun hls hlt hDL hDo=>?_
 refine wpAny_pyIter_list hls ?_
 have hn:s.heap.get? s.heap.objs.size=none:=Heap.get?_none_of_le (Nat.le_refl _)
 refine u02 (noI F hn) fun n1 n2 n3=>?_
 have F':=F.keeps (h':=s.heap.push { cls:=.type "list_iterator", data:=.fields #[.ref D,.int 0 0] }) fun b o e=>Heap.get?_push_of_some _ e
 have W:=Walks.list (prog:=prog) (w:=w) hh s.heap.objs.size D (Nat.ne_of_lt hlt) vs.toArray
 refine forHG (hid:=[]) (wr:=[s.heap.objs.size]) (s:={ s with heap:=s.heap.push { cls:=.type "list_iterator", data:=.fields #[.ref D,.int 0 0] } }) Inv
  (Clean s) (fun g' hg'=>Dr.name W hg' hx (by show (scope.kind == .class || (scope.kind == .module && L != mainGlobals))=false; rw [hk]; rfl)) F'
  ⟨(w12 _ (Heap.get?_push_size _ rfl) rfl rfl),hls.at fun o e=>Heap.get?_push_of_some _ e⟩ ?_ ?_ (fun _ _ h=>nomatch h) (fun _ h=>nomatch h) (fun b hb=>by rw [List.mem_singleton.mp hb]; exact n1) (fun b hb=>by rw [List.mem_singleton.mp hb]; exact List.mem_cons_self ..) ?_ h0 (w20 _ _ rfl) (fun s' h tk z=>z.trans .mk) ?_ ?_
 ·intro p hp hm
  rcases List.mem_cons.mp hm with e | hm
  ·exact n3 p hp e
  ·exact hDo p hp (List.mem_singleton.mp hm)
 ·intro hm
  rcases List.mem_cons.mp hm with e | hm
  ·exact n2 e.symm
  ·exact hDL (List.mem_singleton.mp hm).symm
 ·rintro i h ⟨⟨o,ho,hc,_⟩,⟨o',ho',hc',_⟩⟩ b hb
  rcases List.mem_cons.mp hb with rfl | hb
  ·exact (w11 o ho (fun _=>hc))
  ·rw [List.mem_singleton.mp hb]
   refine (w11 o' ho' (fun hm=>?_))
   exact absurd (List.mem_singleton.mp hm) (Nat.ne_of_lt hlt)
 ·intro i _ l₁ own₁ g₁ g' _ E' hi y0; refine u11 y0 fun v hv z0=>?_; clear y0; subst z0; intro hI kg k _ F₁ y1; refine u20 y1 fun h tk z0=>?_; clear y1; subst z0
  refine wpAny_mono (turn i v l₁ own₁ g₁ g' h tk E' _ .same (by simpa using hv) hI kg k F₁) (fun fl s₂ p=>?_) fun _ _ e=>e
  cases fl with
  | next=>(refine u21 p fun h tk z0 z1=>?_; clear p; subst z0; refine u32 z1 fun l₂ own₂ G kG F₂ hJ=>?_; clear z1); exact ⟨(w20 _ _ rfl),l₂,own₂,G,kG,(fun _ h=>nomatch h),F₂,hJ⟩
  | cont=>(refine u21 p fun h tk z0 z1=>?_; clear p; subst z0; refine u32 z1 fun l₂ own₂ G kG F₂ hJ=>?_; clear z1); exact ⟨(w20 _ _ rfl),l₂,own₂,G,kG,(fun _ h=>nomatch h),F₂,hJ⟩
  | brk=>exact p.elim
  | ret v=>exact p
 ·intro l₁ own₁ g₁ _ hI kg _ F₁ y0; refine u20 y0 fun h tk z0=>?_; clear y0; subst z0
  exact fin l₁ own₁ g₁ h tk (by simpa using hI) kg F₁
end
set_option compiler.extract_closed true in
local macro_rules | `(tactic| walk_at "n")=>return rd "F 5 TurnG _ _ _ _ _ _ _ 8 TurnG 0 5 TurnWG _ _ _ _ _ _ _ _ _ 8 TurnWG 0 G"
noncomputable def PL (h:Heap) (ps:List Pr) (v:Value):Prop:=∃ a us,v=.ref a∧h.IsList a us.toArray∧Al (PV h) ps us
theorem PV.dat {G H:Heap} {p:Pr} {v:Value} (x:PV G p v) (k:Dat G H):PV H p v:=u32 x fun a t u e ht hi=>(w32 a t u e (k.tuple ht) hi)
theorem PL.dat {G H:Heap} {p:List Pr} {v:Value} (x:PL G p v) (k:Dat G H):PL H p v:=u22 x fun a us e hl hi=>(w22 a us e (k.list hl) (hi.mono fun _ _ y=>y.dat k))
theorem PL.keeps {G H:Heap} {p:List Pr} {v:Value} (x:PL G p v) (k:Kp G H):PL H p v:=x.dat (.of k)
noncomputable def comN (found:List Pr) (rows:List (List Pr)):List Pr:=rows.foldl (fun f row=>f.take (shN f row)) found
theorem comN_len:∀ (rows:List (List Pr)) (f:List Pr),(comN f rows).length≤f.length
 | [],f=>Nat.le_refl _
 | r::rows,f=>by
  refine Nat.le_trans (comN_len rows (f.take (shN f r))) ?_
  rw [List.length_take]; exact Nat.min_le_right _ _
section
variable {prog:Program} {w:World} {mg:Str→Option Value} {A:Around} {E:Value→Shared→Prop} {s:Shared} {f:Addr}
theorem common_spec (T:TK w mg s.heap) (ha:mg "_law_common" = some (.ref f)) (R:Room A 4) {D:Addr} {vs:List Value} {p₀:List Pr} {pss:List (List Pr)}
  (h1:s.heap.IsList D vs.toArray) (hx:Al (PL s.heap) (p₀::pss) vs) (hz:(p₀::pss).length≤10000) (hzp:∀ p∈p₀::pss,p.length≤10000) :
  wpAny (model prog w) A (call (.ref f) [.ref D]) (fun v s'=>PL s'.heap (comN p₀ (p₀::pss)) v∧Keeps s s') E s:=by
 obtain ⟨f1,hf1⟩:=T.addr F_shared
 refine enter F_common T ha R.lim (binds:=[("rows", .ref D)]) (fun _ _ _=>BindsTo.of_eq rfl) (locs rfl) rfl fun cd h₁ F₀=>?_
 have F:=St.init F₀
 replace R:=R.deeper (env:=envOf "_law_common" F_common.scope s.heap.objs.size f cd) (by decide:3+1≤4)
 generalize A.deeper (envOf "_law_common" F_common.scope s.heap.objs.size f cd)=A at R ⊢
 clear F₀
 generalize hL:s.heap.objs.size=L at F ⊢
 clear hL
 refine u11 (hx.get' (i:=0) rfl) fun v₀ hv₀ pv₀=>?_
 have lx:=hx.1
 refine stepO fun _ _ _ _=>?_
 walk_at "ms"
 refine idxL 0 rfl (isL_keeps h1 F.keep) hv₀ (by exact q2 0x186a0180284014846a71010001ea 1 11 (by kernel_rfl) hz lx) ?_
 walk_at "ms"
 intro h₂ F₂ _
 walk_at "ms"
 refine wpAny_For ?_
 walk_at "ms"
 have F₃:St s.heap L h₂ ((("found" : Str),v₀)::[]) []:=F₂.pick ["found"] rfl
 refine itLG (fun i l own g=>own=[]∧∃ v,l=(("found" : Str),v)::[]∧PL g (comN p₀ ((p₀::pss).take i)) v) R.hh F₃ h1 ⟨rfl,v₀,rfl,pv₀⟩ ?_ ?_
 ·rintro i v l₁ own₁ g₁ g' h tk E' _ hQt hv ⟨rfl,fv,rfl,hfv⟩ kg kg' F
  refine u11 (hx.get hv) fun row hrow hpv=>?_
  have T':=(T.keeps kg).keeps kg'
  refine u22 (hfv.keeps kg') fun a us z0 hla hus=>?_; subst z0
  refine u22 ((hpv.keeps kg).keeps kg') fun b ws z0 hlb hws=>?_; subst z0
  have hlr:=hzp row (List.mem_of_getElem? hrow)
  have hlf:(comN p₀ ((p₀::pss).take i)).length≤10000:=Nat.le_trans (comN_len _ _) (hzp p₀ (by simp))
  have hsh:=shN_le (comN p₀ ((p₀::pss).take i)) row
  clear T
  walk_at "ms"
  refine useK (P:=fun v s'=>∃ t,v=.int (shN (comN p₀ ((p₀::pss).take i)) row:Nat) t) F ?_ fun v h₈ tk₈ hv F₈ k₈=>?_
  ·exact shared_spec (T'.keeps F.keep) hf1 (R.le (by decide)) (isL_keeps hla F.keep) (isL_keeps hlb F.keep) (hus.mono fun _ _ x=>x.keeps F.keep) (hws.mono fun _ _ x=>x.keeps F.keep) hlf hlr
  obtain ⟨t,rfl⟩:=hv
  walk_at "ms"
  intro h₉ I hI hk₉ hT₉
  have F₉:=F₈.keeps hk₉
  walk_at "ms"
  refine slcToL _ rfl (isL_keeps hla F₉.keep) hT₉ (by rw [hus.1]; exact hsh.1) (by rw [hus.1]; exact q1 0x61a80400271010001ea 1 3 (by kernel_rfl) hlf) fun h₁₀ a₁₀ hn₁₀ hk₁₀ hT₁₀=>?_
  refine u12 ((F₉.keeps hk₁₀).rebaseN) fun G kG kn F₁₀=>?_
  walk_at "ms"
  intro h₁₁ F₁₁ _
  walk_at "ms"
  refine TurnG.go hQt G kG (F₁₁.pick ["found"] rfl) (fun Γ kΓ=>⟨rfl,_,rfl,?_⟩)
  rw [take_snoc hrow,comN,List.foldl_append]
  refine PL.dat (w22 a₁₀ _ rfl (isL_of (kn _ _ hT₁₀ fun _ _ q=>by cases q)) ?_) kΓ
  exact (hus.mono fun _ _ x=>x.keeps kG).take _
 ·rintro l₁ own₁ g₁ h tk ⟨rfl,fv,rfl,hfv⟩ kg F
  rw [lx,List.take_length] at hfv
  walk_at "ms"
  exact ⟨hfv.keeps F.keep,Keeps.mk' fun b o e=>F.keep b o (kg b o e)⟩
end
noncomputable def NewV (h:Heap) (v:Value):Prop:=∀ a,v=.ref a→h.get? a=none
theorem newV {g g':Heap} {a:Addr} (k:Kp g g') (e:g'.get? a=none):NewV g (.ref a):=fun b q=>by
 cases q
 cases h:g.get? a with
 | none=>rfl
 | some o=>rw [k _ _ h] at e; cases e
noncomputable def itLt:It→It→Bool
 | .inl a,.inl b=>decide (a<b)
 | .inr x,.inr y=>decide (x<y)
 | _,_=>false
noncomputable def lessN:List Pr→List Pr→Bool
 | p::r,q::t=>if p.1=q.1 then (if p.2=q.2 then lessN r t else itLt p.2 q.2) else decide (p.1<q.1)
 | [],_::_=>true
 | _,[]=>false
theorem lessN_c {p q:Pr} {r t:List Pr}:lessN (p::r) (q::t)=if p.1=q.1 then (if p.2=q.2 then lessN r t else itLt p.2 q.2) else decide (p.1<q.1):=rfl
theorem lessN_n {q:Pr} {t:List Pr}:lessN [] (q::t)=true:=rfl
theorem lessN_z {p:List Pr}:lessN p []=false:=by cases p <;> rfl
noncomputable def Okp (p:Pr):Prop:=p.1=100↔p.2.isLeft=true
theorem lessN_at:∀ (i:Nat) (xs ys:List Pr) (p q:Pr),(∀ j<i,xs[j]?=ys[j]?)→xs[i]?=some p→ys[i]?=some q→p≠q→lessN xs ys=if p.1=q.1 then itLt p.2 q.2 else decide (p.1<q.1)
 | i,[],_,_,_,_,h,_,_=>by simp at h
 | i,_::_,[],_,_,_,_,h,_=>by simp at h
 | 0,x::r,y::t,p,q,_,h1,h2,hne=>by
  simp at h1 h2
  subst h1 h2
  rw [lessN_c]
  by_cases e:x.1=y.1
  ·rw [if_pos e,if_pos e,if_neg]
   intro e'
   exact hne (Prod.ext e e')
  ·rw [if_neg e,if_neg e]
 | i+1,x::r,y::t,p,q,h,h1,h2,hne=>by
  have e:x=y:=by simpa using h 0 (by exact q1 570445841 1 1 (by kernel_rfl))
  subst e
  rw [lessN_c,if_pos rfl,if_pos rfl]
  exact lessN_at i r t p q (fun j hj=>by simpa using h (j+1) (by exact q2 0x8c014a2004223000111a 1 3 (by kernel_rfl) hj)) (by simpa using h1) (by simpa using h2) hne
theorem lessN_end:∀ (xs ys:List Pr),(∀ j<min xs.length ys.length,xs[j]?=ys[j]?)→lessN xs ys=decide (xs.length<ys.length)
 | [],[],_=>by simp [lessN_n,lessN_z,lessN_c]
 | [],_::_,_=>by simp [lessN_n,lessN_z,lessN_c]
 | _::_,[],_=>by simp [lessN_n,lessN_z,lessN_c]
 | x::r,y::t,h=>by
  have e:x=y:=by simpa using h 0 (by simp)
  subst e
  rw [lessN_c,if_pos rfl,if_pos rfl,lessN_end r t fun j hj=>by simpa using h (j+1) (by simp only [List.length_cons]; exact q3 0x118018a300521668801088c1005600123a 1 22389 (by kernel_rfl) hj)]
  simp
section
variable {prog:Program} {w:World} {mg:Str→Option Value} {A:Around} {E:Value→Shared→Prop} {s:Shared} {f:Addr}
theorem less_spec (T:TK w mg s.heap) (ha:mg "_law_less" = some (.ref f)) (R:Room A 2) {D₁ D₂:Addr} {us ws:List Value} {xs ys:List Pr}
  (h1:s.heap.IsList D₁ us.toArray) (h2:s.heap.IsList D₂ ws.toArray) (hx:Al (PV s.heap) xs us) (hy:Al (PV s.heap) ys ws) (hzx:xs.length≤10000) (hzy:ys.length≤10000) (ox:∀ p∈xs,Okp p) (oy:∀ p∈ys,Okp p) :
  wpAny (model prog w) A (call (.ref f) [.ref D₁,.ref D₂]) (fun v s'=>v=.bool (lessN xs ys)∧Keeps s s') E s:=by
 refine enter F_less T ha R.lim (binds:=[("low", .ref D₁),("high", .ref D₂)]) (fun _ _ _=>BindsTo.of_eq rfl) (locs rfl) rfl fun cd h₁ F₀=>?_
 have F:=St.init F₀
 replace R:=R.deeper (env:=envOf "_law_less" F_less.scope s.heap.objs.size f cd) (by decide:1+1≤2)
 generalize A.deeper (envOf "_law_less" F_less.scope s.heap.objs.size f cd)=A at R ⊢
 clear F₀
 generalize hL:s.heap.objs.size=L at F ⊢
 clear hL
 have lx:=hx.1
 have ly:=hy.1
 refine stepO fun _ _ _ _=>?_
 refine wpAny_For ?_
 walk_at "ms"
 refine u11 (F.pickE ["low", "high"]) fun l₀ hl₀ F₂=>?_
 refine itZ (fun i l own=>own=[]∧l=l₀∧∀ j<i,xs[j]?=ys[j]?) (fun _ _=>False) R.hh F₂ h1 h2 ⟨rfl,rfl,fun j hj=>absurd hj (by exact q1 65560 1 1 (by kernel_rfl))⟩ ?_ ?_
 ·intro i v u l₁ own₁ g' h tk E' _ hQt hv hu y0; refine u02 y0 fun z0 z1 hsame=>?_; clear y0; subst z0; subst z1; intro kg F
  subst hl₀
  refine u11 (hx.get hv) fun p hp z0=>?_; obtain ⟨a,t,x,rfl,hta,hxa⟩:=z0
  refine u11 (hy.get hu) fun q hq z0=>?_; obtain ⟨b,t',y,rfl,htb,hyb⟩:=z0
  have kk:Kp s.heap h:=fun b o e=>F.keep b o (kg b o e)
  have op:=ox p (List.mem_of_getElem? hp)
  have oq:=oy q (List.mem_of_getElem? hq)
  walk_at "ms"
  refine idxT (vs:=[.int p.1 t,x]) 0 rfl (isTu_keeps hta kk) rfl (by simp) ?_
  walk_at "ms"
  refine idxT (vs:=[.int q.1 t',y]) 0 rfl (isTu_keeps htb kk) rfl (by simp) ?_
  walk_at "ms"
  by_cases e1:p.1=q.1
  ·refine if_bf (decide_eq_false (by simpa using e1)) ?_
   walk_at "ms"
   refine idxT (vs:=[.int p.1 t,x]) 1 rfl (isTu_keeps hta kk) rfl (by simp) ?_
   walk_at "ms"
   refine idxT (vs:=[.int q.1 t',y]) 1 rfl (isTu_keeps htb kk) rfl (by simp) ?_
   by_cases e2:p.2=q.2
   ·have hnext:∀ j<i+1,xs[j]?=ys[j]?:=by
     intro j hj
     rcases Nat.lt_or_ge j i with q' | q'
     ·exact hsame j q'
     ·have:j=i:=by exact q2 0x80014014046a3005200122a 1 46 (by kernel_rfl) hj q'
      subst this
      rw [hp,hq,Prod.ext e1 e2]
    obtain ⟨p1,p2⟩:=p
    obtain ⟨q1,q2⟩:=q
    dsimp only at e1 e2 hxa hyb
    subst e1 e2
    rcases p2 with k | z
    ·obtain ⟨t₁,rfl⟩:=hxa
     obtain ⟨t₂,rfl⟩:=hyb
     walk_at "ms"
     refine if_bf (decide_eq_false (by simp)) ?_
     walk_at "ms"
     exact Turn.go hQt ⟨rfl,rfl,hnext⟩ (F.pick ["low", "high"] rfl)
    ·obtain ⟨t₁,rfl⟩:=hxa
     obtain ⟨t₂,rfl⟩:=hyb
     walk_at "ms"
     refine if_bf (decide_eq_false (by simp)) ?_
     walk_at "ms"
     exact Turn.go hQt ⟨rfl,rfl,hnext⟩ (F.pick ["low", "high"] rfl)
   ·have hres:=lessN_at i xs ys p q hsame hp hq (fun e=>e2 (by rw [e]))
    rw [if_pos e1] at hres
    obtain ⟨p1,p2⟩:=p
    obtain ⟨q1,q2⟩:=q
    dsimp only at e1 e2 hxa hyb hres
    subst e1
    have hk:p2.isLeft=true↔q2.isLeft=true:=op.symm.trans oq
    rcases p2 with k | z <;> rcases q2 with k' | z'
    ·obtain ⟨t₁,rfl⟩:=hxa
     obtain ⟨t₂,rfl⟩:=hyb
     have e3:k≠k':=fun e=>e2 (by rw [e])
     walk_at "ms"
     refine if_bt (decide_eq_true e3) ?_
     walk_at "ms"
     refine idxT (vs:=[.int p1 t,.int k t₁]) 1 rfl (isTu_keeps hta kk) rfl (by simp) ?_
     walk_at "ms"
     refine idxT (vs:=[.int p1 t',.int k' t₂]) 1 rfl (isTu_keeps htb kk) rfl (by simp) ?_
     walk_at "ms"
     rw [hres]
     exact ⟨rfl,Keeps.mk' kk⟩
    ·simp at hk
    ·simp at hk
    ·obtain ⟨t₁,rfl⟩:=hxa
     obtain ⟨t₂,rfl⟩:=hyb
     have e3:z≠z':=fun e=>e2 (by rw [e])
     walk_at "ms"
     refine if_bt (decide_eq_true e3) ?_
     walk_at "ms"
     refine idxT (vs:=[.int p1 t,.str (S z) t₁]) 1 rfl (isTu_keeps hta kk) rfl (by simp) ?_
     walk_at "ms"
     refine idxT (vs:=[.int p1 t',.str (S z') t₂]) 1 rfl (isTu_keeps htb kk) rfl (by simp) ?_
     walk_at "ms"
     refine ltS ?_
     walk_at "ms"
     rw [hres]
     exact ⟨rfl,Keeps.mk' kk⟩
  ·have hres:=lessN_at i xs ys p q hsame hp hq (fun e=>e1 (by rw [e]))
   rw [if_neg e1] at hres
   refine if_bt (decide_eq_true e1) ?_
   walk_at "ms"
   refine idxT (vs:=[.int p.1 t,x]) 0 rfl (isTu_keeps hta kk) rfl (by simp) ?_
   walk_at "ms"
   refine idxT (vs:=[.int q.1 t',y]) 0 rfl (isTu_keeps htb kk) rfl (by simp) ?_
   walk_at "ms"
   rw [hres]
   exact ⟨rfl,Keeps.mk' kk⟩
 ·rintro l₁ own₁ h tk (⟨rfl,rfl,hsame⟩ | h) F
  case inr=>exact h.elim
  subst hl₀
  rw [lx,ly] at hsame
  walk_at "ms"
  refine lenL (isL_keeps h1 F.keep) (by exact q2 0x186a0180284014846a71010001ea 1 11 (by kernel_rfl) hzx lx) fun _ _=>?_
  walk_at "ms"
  refine lenL (isL_keeps h2 F.keep) (by exact q2 0x186a0180284014846a71010001ea 1 11 (by kernel_rfl) hzy ly) fun _ _=>?_
  walk_at "ms"
  rw [lessN_end xs ys hsame,lx,ly]
  exact ⟨congrArg Value.bool (by rw [decide_eq_decide]; exact Int.ofNat_lt),Keeps.mk' F.keep⟩
end
set_option tactic.hygienic true in
theorem pick_rev (vs:List Value):slicePick vs.toArray none none (some (-1))=vs.reverse.toArray:=by
 have hb:sliceBounds none none (some (-1)) vs.toArray.size=((vs.length:Int)-1,-1,-1):=by
  simp [sliceBounds]
 unfold slicePick
 rw [hb]
 simp -iota only [sliceRange]
 have hc:(if (-1:Int)>0 then (if (vs.length:Int)-1 < -1 then (-1-((vs.length:Int)-1)+-1-1) / -1 else 0) else (if (vs.length:Int)-1 > -1 then ((vs.length:Int)-1 - -1 - -1-1)/(-(-1)) else 0)).toNat=vs.length:=by
  simp
  split <;> (first | exact q1 36930 1 93 (by kernel_rfl) | (rename_i z0; exact q1 0x6414a20071609482aa 1 1179 (by kernel_rfl) z0))
 rw [hc]
 congr 1
 apply List.ext_getElem?
 intro i
 rw [List.filterMap_map]
 have e:∀ k,k<vs.length→(((fun x:Nat=>vs.toArray[x]?) ∘ fun (k:Nat)=>((vs.length:Int)-1+-1*(k:Int)).toNat) k)=vs.reverse[k]?:=by
  intro k hk
  show vs.toArray[((vs.length:Int)-1+-1*(k:Int)).toNat]?=_
  rw [show ((vs.length:Int)-1+-1*(k:Int)).toNat=vs.length-1-k by rw [Int.neg_mul,Int.one_mul]; exact q2 0x84400c44e00d100311292e2 1 0x1535133111133331 (by kernel_rfl),List.getElem?_reverse hk]
  simp
 have key:∀ n,n≤vs.length→(List.range n).filterMap ((fun x:Nat=>vs.toArray[x]?) ∘ fun (k:Nat)=>((vs.length:Int)-1+-1*(k:Int)).toNat)=vs.reverse.take n:=by
  intro n
  induction n with
  | zero=>intro _; simp
  | succ n ih =>
   intro hn
   rw [List.range_succ,List.filterMap_append,ih (by exact q2 0x400021100211022a 1 3 (by kernel_rfl) hn)]
   simp -iota only [List.filterMap_cons,List.filterMap_nil]
   rw [e n (by exact q2 0x400061100211022a 1 3 (by kernel_rfl) hn)]
   have hl:n<vs.reverse.length:=by simp; exact q2 0x400061100211022a 1 3 (by kernel_rfl) hn
   rw [List.getElem?_eq_getElem hl]
   rw [List.take_add_one,List.getElem?_eq_getElem hl]
   rfl
 rw [key vs.length (Nat.le_refl _),List.take_of_length_le (by simp)]
section
variable {prog:Program} {w:World} {mg:Str→Option Value} {A:Around} {E:Value→Shared→Prop} {s:Shared} {a:Addr}
theorem split_path (T:TK w mg s.heap) (ha:mg "split" = some (.ref a)) (R:Room A 3) {ps:Txts} {n:List Nat} {t:Tok} (hp:∀ p∈ps++[n],Piece p) (hx:(joinL [47] (ps++[n])).length≤9000) :
  wpAny (model prog w) A (call (.ref a) [.str (S (47::joinL [47] (ps++[n]))) t]) (fun v s'=>(∃ D t₁ t₂,v=.ref D∧s'.heap.get? D=some { cls:=.type "tuple", data:=.seq #[.str (S (47::joinL [47] ps)) t₁,.str (S n) t₂] })∧Keeps s s') E s:=by
 have hn:47∉n:=(hp n (by simp)).2.1
 by_cases e:ps=[]
 ·subst e
  have:=split_spec (prog:=prog) (E:=E) T ha R (x:=[]) (n:=n) (t:=t) hn (by simp -iota only [List.nil_append,joinL_n,joinL_1,joinL_c] at hx; simp; exact q1 0x9c3c400232810001ea 1 3 (by kernel_rfl) hx)
  simpa [joinL_n,joinL_1,joinL_c] using this
 ·have e1:47::joinL [47] (ps++[n])=(47::joinL [47] ps)++47::n:=by rw [joinL_snoc _ _ _ e]; simp
  have hlast:=joinL_last (ps:=ps) (fun p q=>hp p (by simp [q])) e
  have hd:(if (47::joinL [47] ps).all (· == 47) then (47::joinL [47] ps)++[47] else dropR (· == 47) (47::joinL [47] ps))=47::joinL [47] ps:=by
   refine u20 (by
    rcases List.eq_nil_or_concat (47::joinL [47] ps) with q | ⟨y,b,q⟩
    ·cases q
    ·exact (w20 b y (by rw [q,List.concat_eq_append])):∃ b y,47::joinL [47] ps=y++[b]) fun b y hb=>?_
   rw [hb] at hlast ⊢
   have hb':b≠47:=by simpa using hlast
   rw [if_neg (by
    intro q
    have:=List.all_eq_true.mp q b (by simp)
    exact hb' (by simpa using this))]
   unfold dropR
   rw [List.reverse_append,List.reverse_singleton,List.singleton_append,List.dropWhile_cons,if_neg (by simpa using hb'),List.reverse_cons,List.reverse_reverse]
  have hz:((47::joinL [47] ps)++47::n).length≤10000:=by rw [← e1]; simp; exact q1 0x9c3c400232810001ea 1 3 (by kernel_rfl) hx
  have:=split_spec (prog:=prog) (E:=E) T ha R (x:=47::joinL [47] ps) (n:=n) (t:=t) hn hz
  rw [hd,← e1] at this
  exact this
theorem climb_spec (T:TK w mg s.heap) (ha:mg "_law_climb" = some (.ref a)) (R:Room A 5) {ps:Txts} {t:Tok} (hp:∀ p∈ps,Piece p) (hx:(joinL [47] ps).length≤9000) (hc:ps.length<60) :
  wpAny (model prog w) A (call (.ref a) [.str (S (47::joinL [47] ps)) t]) (fun v s'=>(Ts s'.heap ps v∧NewV s.heap v)∧Keeps s s') E s:=by
 obtain ⟨f1,hf1⟩:=T.addr F_split
 refine enter F_climb T ha R.lim (binds:=[("path", .str (S (47::joinL [47] ps)) t)]) (fun _ _ _=>BindsTo.of_eq rfl) (locs rfl) rfl fun cd h₁ F₀=>?_
 have F:=St.init F₀
 replace R:=R.deeper (env:=envOf "_law_climb" F_climb.scope s.heap.objs.size a cd) (by decide:4+1≤5)
 generalize A.deeper (envOf "_law_climb" F_climb.scope s.heap.objs.size a cd)=A at R ⊢
 clear F₀
 generalize hL:s.heap.objs.size=L at F ⊢
 clear hL
 refine stepO fun _ _ _ _=>?_
 walk_at "ms"
 refine ⟨szl (by simp),fun h₂ N hN hk hT=>?_⟩
 have F₂:=F.own1 (items:=[]) hk hN ⟨_,hT⟩
 walk_at "ms"
 intro h₃ F₃ _
 walk_at "ms"
 refine wpAny_For ?_
 walk_at "ms"
 obtain ⟨l₀,hl₀⟩:∃ l₀:List (Str × Value),l₀=([("tails", Value.ref N)]:List (Str × Value)):=⟨_,rfl⟩
 have F₄:St s.heap L h₃ ((("path" : Str),Value.str (S (47::joinL [47] (ps.take (ps.length-0)))) t)::l₀) [(N,[])]:=by
  subst hl₀
  rw [Nat.sub_zero,List.take_length]
  exact F₃.pick ["path", "tails"] rfl
 refine itR (n:=60) rfl (by decide) (fun i l own=>i≤ps.length∧(∃ t',l=(("path" : Str),Value.str (S (47::joinL [47] (ps.take (ps.length-i)))) t')::l₀)∧∃ items,own=[(N,items)]∧StrsAre items ((ps.reverse.take i).map S))
  (fun l own=>(∃ v,l=(("path" : Str),v)::l₀)∧∃ items,own=[(N,items)]∧StrsAre items (ps.reverse.map S)) R.hh F₄ ⟨Nat.zero_le _,⟨t,rfl⟩,[],rfl,.nil⟩ ?_ ?_
 ·intro i ti l₁ own₁ g' h tk E' _ hQt hi y0; refine u02 y0 fun hin z0 z1=>?_; clear y0; obtain ⟨t',rfl⟩:=z0; refine u11 z1 fun items z3 hit=>?_; clear z1; subst z3; intro kg F
  subst hl₀
  have T':=T.keeps kg
  clear T
  walk_at "ms"
  by_cases hz:i=ps.length
  ·have e0:ps.take (ps.length-i)=[]:=by rw [hz,Nat.sub_self]; rfl
   rw [e0,decide_eq_true (by rfl)]
   walk_at "ms"
   rw [hz,List.take_of_length_le (by simp)] at hit
   exact Turn.brk hQt ⟨⟨_,rfl⟩,items,rfl,hit⟩ (F.pick ["path", "tails"] rfl)
  ·have hlt:ps.length-i-1<ps.length:=by exact q2 0x108c014c44c886000502b5000011a 1 0x1a063920c4 (by kernel_rfl) hin hz
   have hsp:ps.take (ps.length-i)=ps.take (ps.length-(i+1))++[ps[ps.length-i-1]]:=by
    have q:=take_snoc (l:=ps) (i:=ps.length-i-1) (List.getElem?_eq_getElem hlt)
    have e1:ps.length-i-1+1=ps.length-i:=by exact q2 0x200a718c014c44c888cca000502b5000011a 1 0xc40c30d00c41031081030c428428a19018411210810c144 (by kernel_rfl) hin hz
    have e2:ps.length-i-1=ps.length-(i+1):=by exact q2 0x8c014800e30003113222 1 0x1113343115221331 (by kernel_rfl)
    rw [e1] at q
    rw [q]
    exact congrArg (fun k=>List.take k ps++[ps[ps.length-i-1]]) e2
   have hne:(47::joinL [47] (ps.take (ps.length-i)))≠[47]:=by
    intro e
    have e':joinL [47] (ps.take (ps.length-i))=[]:=by simpa using e
    rw [joinL_nil fun p q=>hp p (List.mem_of_mem_take q)] at e'
    rw [hsp] at e'
    simp at e'
   refine if_bf (decide_eq_false hne) ?_
   walk_at "ms"
   refine asgTu2 R.hh ?_
   walk_at "ms"
   refine useK (P:=fun v s'=>∃ D t₁ t₂,v=.ref D∧s'.heap.get? D=some { cls:=.type "tuple", data:=.seq #[.str (S (47::joinL [47] (ps.take (ps.length-(i+1))))) t₁,.str (S ps[ps.length-i-1]) t₂] }) F ?_ fun v h₈ tk₈ hv F₈ k₈=>?_
   ·have hlen:=joinL_take_len 47 ps (ps.length-i)
    rw [hsp] at hlen ⊢
    refine split_path (T'.keeps F.keep) hf1 (R.le (by decide)) (fun p q=>hp p ?_) (by exact q2 0x2328180284014046a32810001ea 1 7 (by kernel_rfl) hx hlen)
    rw [← hsp] at q
    exact List.mem_of_mem_take q
   refine u31 hv fun D t₁ t₂ z0 hD=>?_; clear hv; subst z0
   refine (w32 D _ _ rfl (isTup_of' hD) (fun h₉ hk₉=>?_))
   have F₉:=F₈.keeps hk₉
   walk_at "ms"
   intro h₁₀ F₁₀ _
   walk_at "ms"
   intro h₁₁ F₁₁ _
   walk_at "ms"
   refine gmApp (F₁₁.ow (N,items) (by simp)).2.2 ?_
   walk_at "ms"
   have hil:items.length≤100:=by
    have:=strsAre_len hit
    rw [List.length_map,List.length_take] at this
    exact q4 0x19060060c200ad003114d4014046bc100116a 1 3559 (by kernel_rfl) hc hin this
   refine appS (pre:=[]) F₁₁ (by walk_at "li") fun h₁₂ F₁₂ _=>?_
   walk_at "ms"
   refine Turn.go hQt ⟨by exact q2 0x844008442000502b5000011a 1 30 (by kernel_rfl) hin hz,⟨_,rfl⟩,items++[Value.str (S ps[ps.length-i-1]) t₂],rfl,?_⟩ (F₁₂.pick ["path", "tails"] rfl)
   have hr:ps.reverse[i]?=some ps[ps.length-i-1]:=by
    rw [List.getElem?_reverse (by exact q2 0x40006000502b5000011a 1 30 (by kernel_rfl) hin hz),List.getElem?_eq_getElem (by exact q2 0x84400c44c886300031132212ea 1 0x25525408208224924828aa08 (by kernel_rfl) hlt)]
    congr 1
    congr 1
    exact q2 0x8c000c44e11003113222 1 0x8425108420842318c61084251a065084231a061 (by kernel_rfl)
   rw [take_snoc hr,List.map_append]
   exact strs_snoc hit
 ·rintro l₁ own₁ h tk hI F
  have hI':(∃ v,l₁=(("path" : Str),v)::l₀)∧∃ items,own₁=[(N,items)]∧StrsAre items (ps.reverse.map S):=by
   rcases hI with ⟨h60,_⟩ | h
   ·exact (by exact q1 0x9f042805abc100116a 1 3 (by kernel_rfl) hc h60:False).elim
   ·exact h
  obtain ⟨⟨v,rfl⟩,items,rfl,hit⟩:=hI'
  subst hl₀
  have hil:items.length≤100:=by
   have:=strsAre_len hit
   rw [List.length_map,List.length_reverse] at this
   exact q2 0x64180284014846bc100116a 1 11 (by kernel_rfl) hc this
  walk_at "ms"
  intro h₉ I hI hk₉ hT₉
  have F₉:=F.keeps hk₉
  walk_at "ms"
  refine slcL (D:=N) (vs:=items) (F₉.ow (N,items) (by simp)).2.2.isList hT₉ .none .none (.int _ _) (by decide) (by walk_at "li") fun h₁₀ a₁₀ hn₁₀ hk₁₀ hT₁₀=>?_
  rw [pick_rev] at hT₁₀
  walk_at "ms"
  refine ⟨⟨(w22 a₁₀ _ rfl (isL_of hT₁₀) ?_),newV (fun _ _ e=>e) (noI F₉ hn₁₀).1⟩,Keeps.mk' (F₉.keeps hk₁₀).keep⟩
  have hal:=Al.of_strs hit
  refine Al.strs ⟨by rw [List.length_reverse,hal.1,List.length_reverse],fun i x v hx hv=>?_⟩
  have hi:i<ps.length:=(List.getElem?_eq_some_iff.mp hx).1
  have hil:items.length=ps.length:=by rw [hal.1,List.length_reverse]
  rw [List.getElem?_reverse (by exact q3 0x200018400c42f5000111a 1 13 (by kernel_rfl) hi hil)] at hv
  refine hal.2 (items.length-1-i) x v ?_ hv
  rw [List.getElem?_reverse (by exact q3 0x84600631732318400c42f5000111a 1 6591050 (by kernel_rfl) hi hil),hil,← hx]
  congr 1
  exact q2 0x1180298b1c600a62c6885000111a 1 0x4920820820a24b20a20920822cb1822cb2ca1c348a1c3182 (by kernel_rfl) hi
end
noncomputable abbrev digs:List Nat:=[48,49,50,51,52,53,54,55,56,57]
noncomputable abbrev seps:List Nat:=[46,95,43,45]
noncomputable abbrev digseps:List Nat:=[48,49,50,51,52,53,54,55,56,57,46,95,43,45]
noncomputable def isD (c:Nat):Bool:=decide (c∈digs)
noncomputable def isT (c:Nat):Bool:=!decide (c∈digseps)
theorem digs_facts:∀ c∈digs,48≤c∧c≤57∧c∉seps∧c∈digseps:=by decide
theorem dig_facts {c:Nat} (h:isD c=true):48≤c∧c≤57∧c∉seps∧c∈digseps:=digs_facts c (of_decide_eq_true h)
theorem seps_in:∀ c∈seps,c∈digseps∧c∉digs:=by decide
theorem dig_small:∀ c:Fin 58,48≤c.1→c.1∈digs:=by decide
theorem dig_of {c:Nat} (h1:48≤c) (h2:c≤57):isD c=true:=decide_eq_true (dig_small ⟨c,Nat.lt_succ_of_le h2⟩ h1)
theorem digseps_eq:digseps=digs++seps:=rfl
noncomputable def valN (l:List Nat):Int:=l.foldl (fun v c=>10*v+((c-48:Nat):Int)) 0
noncomputable def rowF:Nat→List Nat→List Pr
 | 0,_=>[]
 | _+1,[]=>[]
 | k+1,c::r=>if isD c then (100,.inl (valN ((c::r).takeWhile isD)))::rowF k ((c::r).dropWhile isD)
  else if c∈seps then rowF k r
  else (rankOf ((c::r).takeWhile isT),.inr ((c::r).takeWhile isT))::rowF k ((c::r).dropWhile isT)
theorem rowF_n {l:List Nat}:rowF 0 l=[]:=rfl
theorem rowF_z {k:Nat}:rowF k []=[]:=by cases k <;> rfl
theorem rowF_c {k c:Nat} {r:List Nat}:rowF (k+1) (c::r)=if isD c then (100,.inl (valN ((c::r).takeWhile isD)))::rowF k ((c::r).dropWhile isD)
  else if c∈seps then rowF k r
  else (rankOf ((c::r).takeWhile isT),.inr ((c::r).takeWhile isT))::rowF k ((c::r).dropWhile isT):=rfl
noncomputable def rowG (l:List Nat):List Pr:=rowF l.length l
theorem dw_le (p:Nat→Bool):∀ l:List Nat,(l.dropWhile p).length≤l.length
 | []=>Nat.le_refl _
 | a::r=>by
  rw [List.dropWhile_cons]
  split
  ·have:=dw_le p r; simp; exact q2 0x4600a4001000011a 1 3 (by kernel_rfl) this
  ·simp
theorem dw_lt {p:Nat→Bool} {c:Nat} {r:List Nat} (h:p c=true):((c::r).dropWhile p).length≤r.length:=by
 rw [List.dropWhile_cons,if_pos h]; exact dw_le p r
theorem isT_of {c:Nat} (h1:isD c=false) (h2:c∉seps):isT c=true:=by
 have q:c∉digseps:=fun m=>(List.mem_append.mp (show c∈digs++seps from m)).elim (of_decide_eq_false h1) h2
 show (!decide (c∈digseps))=true
 rw [decide_eq_false q]; rfl
theorem rowF_succ:∀ (k:Nat) (l:List Nat),l.length≤k→rowF (k+1) l=rowF k l
 | 0,l,h=>by
  have:l=[]:=List.length_eq_zero_iff.mp (by exact q1 0x20050000da 1 14 (by kernel_rfl) h)
  subst this; rfl
 | k+1,[],_=>rfl
 | k+1,c::r,h=>by
  simp only [List.length_cons,Nat.add_le_add_iff_right] at h
  rw [rowF_c,rowF_c]
  by_cases hd:isD c=true
  ·rw [if_pos hd,if_pos hd,rowF_succ k _ (Nat.le_trans (dw_lt hd) h)]
  ·rw [if_neg hd,if_neg hd]
   by_cases hs:c∈seps
   ·rw [if_pos hs,if_pos hs,rowF_succ k r h]
   ·rw [if_neg hs,if_neg hs,rowF_succ k _ (Nat.le_trans (dw_lt (isT_of (by simpa using hd) hs)) h)]
theorem rowF_ge (l:List Nat):∀ k,l.length≤k→rowF k l=rowG l:=by
 intro k hk
 obtain ⟨d,rfl⟩:=Nat.exists_eq_add_of_le hk
 clear hk
 induction d with
 | zero=>rfl
 | succ d ih=>rw [← Nat.add_assoc,rowF_succ _ _ (by exact q2 268443648 1 1 (by kernel_rfl)),ih]
theorem rowG_dig {c:Nat} {r:List Nat} (h:isD c=true):rowG (c::r)=(100,.inl (valN ((c::r).takeWhile isD)))::rowG ((c::r).dropWhile isD):=by
 rw [rowG,List.length_cons,rowF_c,if_pos h,rowF_ge _ _ (dw_lt h)]
theorem rowG_sep {c:Nat} {r:List Nat} (h:isD c=false) (hs:c∈seps):rowG (c::r)=rowG r:=by
 rw [rowG,List.length_cons,rowF_c,if_neg (by simpa using h),if_pos hs]; rfl
theorem rowG_txt {c:Nat} {r:List Nat} (h:isD c=false) (hs:c∉seps):rowG (c::r)=(rankOf ((c::r).takeWhile isT),.inr ((c::r).takeWhile isT))::rowG ((c::r).dropWhile isT):=by
 rw [rowG,List.length_cons,rowF_c,if_neg (by simpa using h),if_neg hs,rowF_ge _ _ (dw_lt (isT_of h hs))]
theorem tw_len_le (p:Nat→Bool) (l:List Nat):(l.takeWhile p).length≤l.length:=(List.takeWhile_prefix p).length_le
theorem tw_at {p:Nat→Bool}:∀ {l:List Nat} {j:Nat},j<(l.takeWhile p).length→∃ c,l[j]?=some c∧(l.takeWhile p)[j]?=some c∧p c=true
 | [],j,h=>by simp at h
 | a::r,j,h=>by
  rw [List.takeWhile_cons] at h ⊢
  cases q:p a with
  | false=>rw [q] at h; simp at h
  | true =>
   rw [q] at h
   simp only [if_true] at h ⊢
   cases j with
   | zero=>exact (w12 a rfl rfl q)
   | succ j=>simpa using tw_at (p:=p) (l:=r) (j:=j) (by simpa using h)
theorem tw_end {p:Nat→Bool}:∀ {l:List Nat} {c:Nat},l[(l.takeWhile p).length]?=some c→p c=false
 | [],c,h=>by simp at h
 | a::r,c,h=>by
  rw [List.takeWhile_cons] at h
  cases q:p a with
  | false=>rw [q] at h; simp at h; rw [← h]; exact q
  | true=>rw [q] at h; simp at h; exact tw_end h
theorem valN_snoc {l:List Nat} {c:Nat}:valN (l++[c])=10*valN l+((c-48:Nat):Int):=by
 unfold valN; rw [List.foldl_append]; rfl
theorem dig_index {c:Nat} (h:c∈digs):∃ rest,Builtin.Str.occurrences (S digs) (S [c]) 0 (S digs).length 1=(c-48)::rest:=by
 simp only [List.mem_cons,List.mem_nil_iff,or_false] at h
 rcases h with rfl | rfl | rfl | rfl | rfl | rfl | rfl | rfl | rfl | rfl <;> exact ⟨[],by decide +kernel⟩
section
variable {prog:Program} {w:World} {mg:Str→Option Value} {A:Around} {E:Value→Shared→Prop} {s:Shared} {Q:Value→Shared→Prop}
theorem indexS {c:Nat} {t u:Tok} (h:c∈digs) (hq:∀ t' k,Q (.int ((c-48:Nat):Int) t') { s with toks:=k }):wpAny (model prog w) A (call (.builtin "str.index") [.str (S digs) t,.str (S [c]) u]) Q E s:=by
 obtain ⟨rest,e⟩:=dig_index h
 exact SC.index e (hq _ _)
theorem iMul10 {b:Int} {t u:Tok} (h:∀ t' k,Q (.int (10*b) t') { s with toks:=k }):wpAny (model prog w) A (binaryOp .Mult (.int 10 t) (.int b u)) Q E s:=P.mul_int (h _ _) (IntMulOk.of_left (by decide))
end
section
variable {prog:Program} {w:World} {mg:Str→Option Value} {A:Around} {E:Value→Shared→Prop} {s:Shared} {a:Addr}
theorem row_spec (T:TK w mg s.heap) (ha:mg "_law_row" = some (.ref a)) (R:Room A 3) {x:List Nat} {t:Tok} (hx:x.length≤10000) :
  wpAny (model prog w) A (call (.ref a) [.str (S x) t]) (fun v s'=>(PL s'.heap (rowG x) v∧NewV s.heap v)∧Keeps s s') E s:=by
 obtain ⟨f1,hf1⟩:=T.addr F_rank
 refine enter F_row T ha R.lim (binds:=[("text", .str (S x) t)]) (fun _ _ _=>BindsTo.of_eq rfl) (locs rfl) rfl fun cd h₁ F₀=>?_
 have F:=St.init F₀
 replace R:=R.deeper (env:=envOf "_law_row" F_row.scope s.heap.objs.size a cd) (by decide:2+1≤3)
 generalize A.deeper (envOf "_law_row" F_row.scope s.heap.objs.size a cd)=A at R ⊢
 clear F₀
 generalize hL:s.heap.objs.size=L at F ⊢
 clear hL
 refine stepO fun _ _ _ _=>?_
 walk_at "ms"
 refine ⟨szl (by simp),fun h₂ N hN hk hT=>?_⟩
 have F₂:=F.own1 (items:=[]) hk hN ⟨_,hT⟩
 walk_at "ms"
 intro h₃ F₃ _
 walk_at "ms"
 intro h₄ F₄ _
 walk_at "ms"
 refine wpAny_While ?_
 obtain ⟨l₀,hl₀⟩:∃ l₀:List (Str × Value),l₀=([("text", Value.str (S x) t),("pairs", Value.ref N)]:List (Str × Value)):=⟨_,rfl⟩
 obtain ⟨t₀,F₅⟩:∃ t₀,St s.heap L h₄ ((("at" : Str),Value.int (0:Nat) t₀)::l₀) [(N,[])]:=⟨_,by subst hl₀; exact F₄.pick ["at", "text", "pairs"] rfl⟩
 clear F₄ F₃ F₂ F
 refine whileHG x.length (fun k l own g=>∃ i ti items done,k=x.length-i∧i≤x.length∧l=(("at" : Str),Value.int (i:Nat) ti)::l₀∧own=[(N,items)]∧items.length≤i∧Al (PV g) done items∧done++rowG (x.drop i)=rowG x)
  (fun l own g=>∃ v items,l=(("at" : Str),v)::l₀∧own=[(N,items)]∧Al (PV g) (rowG x) items)
  F₅ (w46 0 t₀ ([]) ([]) rfl (Nat.zero_le _) rfl rfl (Nat.le_refl _) Al.nil rfl) ?_ ?_
 ·intro k l₁ own₁ g₁ h tk E' _ _ hQt hQo y0; refine u46 y0 fun i ti items done z0 hi z1 z2 hil hal hrow=>?_; clear y0; subst z0; subst z1; subst z2; intro kg F
  subst hl₀
  have T':=T.keeps kg
  clear T
  walk_at "ms"
  refine lenS (by walk_at "li") fun _ _=>?_
  walk_at "ms"
  by_cases hlt:i<x.length
  ·refine if_bt (decide_eq_true (by exact q2 0x200009000111a 1 3 (by kernel_rfl) hlt)) ?_
   walk_at "ms"
   intro h₅ F₅ _
   walk_at "ms"
   refine itemS i rfl hlt (by walk_at "li") fun _ _=>?_
   walk_at "ms"
   refine in1S ?_
   walk_at "ms"
   refine u20 ((w20 _ _ (List.drop_eq_getElem_cons hlt)):∃ c r,x.drop i=c::r) fun c r hcr=>?_
   have hc:x[i]=c:=by rw [List.drop_eq_getElem_cons hlt] at hcr; injection hcr
   have hrl:r.length+1+i=x.length:=by
    have:=congrArg List.length hcr
    simp at this; exact q3 0x84600621722828c00c5000311234a 1 8873 (by kernel_rfl) this
   rw [hc]
   have hxi:∀ j,x[i+j]?=(c::r)[j]?:=fun j=>by rw [← hcr,List.getElem?_drop]
   obtain ⟨l₁,hl₁⟩:∃ l₁:List (Str × Value),l₁=([("at", Value.int (i:Nat) ti),("text", Value.str (S x) t),("pairs", Value.ref N)]:List (Str × Value)):=⟨_,rfl⟩
   by_cases hd:isD c=true
   ·refine if_bt (show decide (c∈[48,49,50,51,52,53,54,55,56,57])=true from hd) ?_
    walk_at "ms"
    intro h₆ F₆ _
    walk_at "ms"
    refine wpAny_While ?_
    obtain ⟨run,hrun⟩:∃ run,run=(c::r).takeWhile isD:=⟨_,rfl⟩
    have hrl':run.length≤r.length+1:=by rw [hrun]; exact tw_len_le isD (c::r)
    refine u20 ((w20 _ _ (by subst hl₁; exact F₆.pick ["value", "end", "at", "text", "pairs"] rfl)):∃ tv te,St g₁ L h₆ ((("value" : Str),Value.int (valN (run.take 0)) tv)::(("end" : Str),Value.int ((i+0:Nat):Int) te)::l₁) [(N,items)]) fun tv te F₇=>?_
    refine itW run.length (fun k l own=>own=[(N,items)]∧∃ j tv te,j≤run.length∧k=run.length-j∧l=(("value" : Str),Value.int (valN (run.take j)) tv)::(("end" : Str),Value.int ((i+j:Nat):Int) te)::l₁)
     (fun l own=>own=[(N,items)]∧∃ tv te,l=(("value" : Str),Value.int (valN run) tv)::(("end" : Str),Value.int ((i+run.length:Nat):Int) te)::l₁) F₇ ⟨rfl,0,tv,te,Nat.zero_le _,rfl,rfl⟩ ?_ ?_
    ·rintro k l₂ own₂ h tk E₂ _ _ hQt hQo ⟨rfl,j,tv,te,hj,rfl,rfl⟩ F
     subst hl₁
     walk_at "ms"
     refine lenS (by walk_at "li") fun _ _=>?_
     walk_at "ms"
     by_cases hjl:j<run.length
     ·refine u12 (tw_at (p:=isD) (l:=c::r) (j:=j) (hrun▸hjl)) fun c' e1 e2 e3=>?_
      have e4:=hxi j
      rw [e1] at e4
      obtain ⟨hij,e5⟩:=List.getElem?_eq_some_iff.mp e4
      refine if_bt (decide_eq_true (by exact q5 0x20081005201c4c200388cd4400b006023a821100211222234a 1 29 (by kernel_rfl) hrl hrl' hjl)) ?_
      walk_at "ms"
      refine itemS (i+j) rfl hij (by walk_at "li") fun _ _=>?_
      rw [e5]
      walk_at "ms"
      refine in1S ?_
      walk_at "ms"
      refine if_bt (show decide (c'∈[48,49,50,51,52,53,54,55,56,57])=true from e3) ?_
      walk_at "ms"
      refine iMul10 fun _ _=>?_
      walk_at "ms"
      refine GM.index ?_
      walk_at "ms"
      refine itemS (i+j) rfl hij (by walk_at "li") fun _ _=>?_
      rw [e5]
      walk_at "ms"
      refine indexS (of_decide_eq_true e3) fun _ _=>?_
      walk_at "ms"
      intro h₈ F₈ _
      walk_at "ms"
      intro h₉ F₉ _
      walk_at "ms"
      have e6:run.take (j+1)=run.take j++[c']:=take_snoc (hrun▸e2)
      have e7:valN (run.take (j+1))=10*valN (run.take j)+((c'-48:Nat):Int):=by rw [e6,valN_snoc]
      exact TurnW.go hQt (run.length-(j+1)) (by exact q2 0x8029c400a00a6443000111a 1 21810 (by kernel_rfl) hjl) ⟨rfl,j+1,_,_,by exact q2 0x422004221000111a 1 3 (by kernel_rfl) hjl,rfl,by rw [e7]; rfl⟩ (F₉.pick ["value", "end", "at", "text", "pairs"] rfl)
     ·have hjr:j=run.length:=by exact q2 0x4000a000302b5000011a 1 46 (by kernel_rfl) hj hjl
      subst hjr
      rw [List.take_length] at F
      by_cases hend:i+run.length<x.length
      ·refine if_bt (decide_eq_true (by exact q3 0x200800100aa41000211123a 1 3 (by kernel_rfl) hend)) ?_
       walk_at "ms"
       refine itemS (i+run.length) rfl hend (by walk_at "li") fun _ _=>?_
       walk_at "ms"
       refine in1S ?_
       have e4:=hxi run.length
       rw [List.getElem?_eq_getElem hend] at e4
       rw [show decide (x[i+run.length]∈[48,49,50,51,52,53,54,55,56,57])=false from tw_end (p:=isD) (l:=c::r) (by rw [← hrun]; exact e4.symm)]
       walk_at "ms"
       exact TurnO.go hQo ⟨rfl,_,_,rfl⟩ (F.pick ["value", "end", "at", "text", "pairs"] rfl)
      ·refine if_bf (decide_eq_false (by exact q3 0x200800100aa4410002111827a 1 3 (by kernel_rfl) hend)) ?_
       walk_at "ms"
       exact TurnO.go hQo ⟨rfl,_,_,rfl⟩ (F.pick ["value", "end", "at", "text", "pairs"] rfl)
    ·rintro l₂ own₂ h tk ⟨rfl,tv,te,rfl⟩ F
     subst hl₁
     walk_at "ms"
     refine gmApp (F.ow (N,items) (by simp)).2.2 ?_
     walk_at "ms"
     refine ⟨szl (by simp),fun h₁₀ D hD hk₁₀ hT₁₀=>?_⟩
     have F₁₀:=F.keeps hk₁₀
     refine u12 (F₁₀.withO hT₁₀ (fun _ _ q=>by cases q) (fun p hp e=>by
      have hpe:p=(N,items):=by simpa using hp
      subst hpe
      have hNh:=(F.ow (N,items) (by simp)).2.2
      obtain ⟨_,hNh⟩:=hNh
      rw [show N=D from e] at hNh
      rw [hNh] at hD
      cases hD)) fun G kG hT₁₀ F₁₀=>?_
     walk_at "ms"
     refine appS (pre:=[]) F₁₀ (by exact q3 0x186a018028400c22550401405ea71010001ea 1 15 (by kernel_rfl) hx hil hlt) fun h₁₂ F₁₂ _=>?_
     walk_at "ms"
     intro h₁₃ F₁₃ _
     walk_at "ms"
     have hdrop:x.drop (i+run.length)=(c::r).dropWhile isD:=by rw [← List.drop_drop,hcr,hrun,takeWhile_len]
     have hpos:0<run.length:=by rw [hrun,List.takeWhile_cons,if_pos hd]; simp
     refine TurnWG.go hQt (x.length-(i+run.length)) G (by exact q3 0x8029c0005005323182022275000111a 1 304294 (by kernel_rfl) hlt hpos) kG (w46 (i+run.length) te _ (done++[(100,.inl (valN run))]) rfl (by exact q4 0x83080290b84400b006023a821100211222234a 1 13 (by kernel_rfl) hrl hrl') rfl rfl (by simp; exact q3 0x8200a5100211082022275000011a 1 7 (by kernel_rfl) hil hpos) ?_ ?_) (F₁₃.pick ["at", "text", "pairs"] rfl)
     ·exact (hal.mono fun _ _ y=>y.keeps kG).snoc (w32 D _ _ rfl (isTup_of' hT₁₀) ⟨tv,rfl⟩)
     ·rw [← hrow,hcr,rowG_dig hd,hdrop,hrun]
      simp
   ·have hd':isD c=false:=by simpa using hd
    refine if_bf (show decide (c∈[48,49,50,51,52,53,54,55,56,57])=false from hd') ?_
    walk_at "ms"
    refine itemS i rfl hlt (by walk_at "li") fun _ _=>?_
    rw [hc]
    walk_at "ms"
    refine in1S ?_
    walk_at "ms"
    by_cases hs:c∈seps
    ·refine if_bt (show decide (c∈[46,95,43,45])=true from decide_eq_true hs) ?_
     walk_at "ms"
     intro h₆ F₆ _
     walk_at "ms"
     intro h₇ F₇ _
     walk_at "ms"
     have hdrop:x.drop (i+1)=r:=by rw [← List.drop_drop,hcr]; rfl
     exact TurnWG.go hQt (x.length-(i+1)) g₁ (by exact q2 0x8029c400a00a6443000111a 1 21810 (by kernel_rfl) hlt) (fun _ _ e=>e) (w46 (i+1) _ items done rfl (by exact q2 0x422004221000111a 1 3 (by kernel_rfl) hlt) rfl rfl (by exact q2 0x4600a4001000011a 1 3 (by kernel_rfl) hil) hal (by rw [← hrow,hcr,rowG_sep hd' hs,hdrop])) (F₇.pick ["at", "text", "pairs"] rfl)
    ·refine if_bf (show decide (c∈[46,95,43,45])=false from decide_eq_false hs) ?_
     have hcT:=isT_of hd' hs
     walk_at "ms"
     refine wpAny_While ?_
     obtain ⟨run,hrun⟩:∃ run,run=(c::r).takeWhile isT:=⟨_,rfl⟩
     have hrl':run.length≤r.length+1:=by rw [hrun]; exact tw_len_le isT (c::r)
     obtain ⟨te,F₇⟩:∃ te,St g₁ L h₅ ((("end" : Str),Value.int ((i+0:Nat):Int) te)::l₁) [(N,items)] :=
      ⟨_,by subst hl₁; exact F₅.pick ["end", "at", "text", "pairs"] rfl⟩
     refine itW run.length (fun k l own=>own=[(N,items)]∧∃ j te,j≤run.length∧k=run.length-j∧l=(("end" : Str),Value.int ((i+j:Nat):Int) te)::l₁)
      (fun l own=>own=[(N,items)]∧∃ te,l=(("end" : Str),Value.int ((i+run.length:Nat):Int) te)::l₁) F₇ ⟨rfl,0,te,Nat.zero_le _,rfl,rfl⟩ ?_ ?_
     ·rintro k l₂ own₂ h tk E₂ _ _ hQt hQo ⟨rfl,j,te,hj,rfl,rfl⟩ F
      subst hl₁
      walk_at "ms"
      refine lenS (by walk_at "li") fun _ _=>?_
      walk_at "ms"
      by_cases hjl:j<run.length
      ·refine u12 (tw_at (p:=isT) (l:=c::r) (j:=j) (hrun▸hjl)) fun c' e1 e2 e3=>?_
       have e4:=hxi j
       rw [e1] at e4
       obtain ⟨hij,e5⟩:=List.getElem?_eq_some_iff.mp e4
       refine if_bt (decide_eq_true (by exact q5 0x20081005201c4c200388cd4400b006023a821100211222234a 1 29 (by kernel_rfl) hrl hrl' hjl)) ?_
       walk_at "ms"
       refine itemS (i+j) rfl hij (by walk_at "li") fun _ _=>?_
       rw [e5]
       walk_at "ms"
       refine nin1S ?_
       rw [show (!decide (c'∈[48,49,50,51,52,53,54,55,56,57,46,95,43,45]))=true from e3]
       walk_at "ms"
       intro h₈ F₈ _
       walk_at "ms"
       exact TurnW.go hQt (run.length-(j+1)) (by exact q2 0x8029c400a00a6443000111a 1 21810 (by kernel_rfl) hjl) ⟨rfl,j+1,_,by exact q2 0x422004221000111a 1 3 (by kernel_rfl) hjl,rfl,rfl⟩ (F₈.pick ["end", "at", "text", "pairs"] rfl)
      ·have hjr:j=run.length:=by exact q2 0x4000a000302b5000011a 1 46 (by kernel_rfl) hj hjl
       subst hjr
       by_cases hend:i+run.length<x.length
       ·refine if_bt (decide_eq_true (by exact q3 0x200800100aa41000211123a 1 3 (by kernel_rfl) hend)) ?_
        walk_at "ms"
        refine itemS (i+run.length) rfl hend (by walk_at "li") fun _ _=>?_
        walk_at "ms"
        refine nin1S ?_
        have e4:=hxi run.length
        rw [List.getElem?_eq_getElem hend] at e4
        rw [show (!decide (x[i+run.length]∈[48,49,50,51,52,53,54,55,56,57,46,95,43,45]))=false from tw_end (p:=isT) (l:=c::r) (by rw [← hrun]; exact e4.symm)]
        walk_at "ms"
        exact TurnO.go hQo ⟨rfl,_,rfl⟩ (F.pick ["end", "at", "text", "pairs"] rfl)
       ·refine if_bf (decide_eq_false (by exact q3 0x200800100aa4410002111827a 1 3 (by kernel_rfl) hend)) ?_
        walk_at "ms"
        exact TurnO.go hQo ⟨rfl,_,rfl⟩ (F.pick ["end", "at", "text", "pairs"] rfl)
     ·rintro l₂ own₂ h tk ⟨rfl,te,rfl⟩ F
      subst hl₁
      have hcut:(x.drop i).take (i+run.length-i)=run:=by
       rw [hcr,Nat.add_sub_cancel_left,hrun]
       exact (List.prefix_iff_eq_take.mp (List.takeWhile_prefix isT)).symm
      walk_at "ms"
      refine gmApp (F.ow (N,items) (by simp)).2.2 ?_
      walk_at "ms"
      intro h₁₀ I₁ hI₁ hk₁₀ hT₁₀
      have F₁₀:=F.keeps hk₁₀
      walk_at "ms"
      refine slcInS i (i+run.length) rfl rfl (by walk_at "li") (by exact q2 268443648 1 1 (by kernel_rfl)) (by exact q4 0x83080290b84400b006023a821100211222234a 1 13 (by kernel_rfl) hrl hrl') hT₁₀ fun _ _=>?_
      rw [hcut]
      walk_at "ms"
      refine useK (P:=fun v s'=>∃ t',v=.int (rankOf run) t') F₁₀ (rank_spec (T'.keeps F₁₀.keep) hf1 (R.le (by decide)) _ _) fun v h₁₁ tk₁₁ hv F₁₁ k₁₁=>?_
      obtain ⟨tr,rfl⟩:=hv
      walk_at "ms"
      intro h₁₂ I₂ hI₂ hk₁₂ hT₁₂
      have F₁₂:=F₁₁.keeps hk₁₂
      walk_at "ms"
      refine slcInS i (i+run.length) rfl rfl (by walk_at "li") (by exact q2 268443648 1 1 (by kernel_rfl)) (by exact q4 0x83080290b84400b006023a821100211222234a 1 13 (by kernel_rfl) hrl hrl') hT₁₂ fun t₁₃ _=>?_
      rw [hcut]
      walk_at "ms"
      refine ⟨szl (by simp),fun h₁₄ D hD hk₁₄ hT₁₄=>?_⟩
      have F₁₄:=F₁₂.keeps hk₁₄
      refine u12 (F₁₄.withO hT₁₄ (fun _ _ q=>by cases q) (fun p hp e=>by
       have hpe:p=(N,items):=by simpa using hp
       subst hpe
       have hNh:=(F₁₂.ow (N,items) (by simp)).2.2
       obtain ⟨_,hNh⟩:=hNh
       rw [show N=D from e] at hNh
       rw [hNh] at hD
       cases hD)) fun G kG hT₁₄ F₁₄=>?_
      walk_at "ms"
      refine appS (pre:=[]) F₁₄ (by exact q3 0x186a018028400c22550401405ea71010001ea 1 15 (by kernel_rfl) hx hil hlt) fun h₁₅ F₁₅ _=>?_
      walk_at "ms"
      intro h₁₆ F₁₆ _
      walk_at "ms"
      have hdrop:x.drop (i+run.length)=(c::r).dropWhile isT:=by rw [← List.drop_drop,hcr,hrun,takeWhile_len]
      have hpos:0<run.length:=by rw [hrun,List.takeWhile_cons,if_pos hcT]; simp
      refine TurnWG.go hQt (x.length-(i+run.length)) G (by exact q3 0x8029c0005005323182022275000111a 1 304294 (by kernel_rfl) hlt hpos) kG (w46 (i+run.length) te _ (done++[(rankOf run,.inr run)]) rfl (by exact q4 0x83080290b84400b006023a821100211222234a 1 13 (by kernel_rfl) hrl hrl') rfl rfl (by simp; exact q3 0x8200a5100211082022275000011a 1 7 (by kernel_rfl) hil hpos) ?_ ?_) (F₁₆.pick ["at", "text", "pairs"] rfl)
      ·exact (hal.mono fun _ _ y=>y.keeps kG).snoc (w32 D tr _ rfl (isTup_of' hT₁₄) ⟨t₁₃,rfl⟩)
      ·rw [← hrow,hcr,rowG_txt hd' hs,hdrop,hrun]
       simp
  ·refine if_bf (decide_eq_false (by exact q2 0x20000910001815a 1 3 (by kernel_rfl) hlt)) ?_
   walk_at "ms"
   refine TurnOG.go hQo g₁ (fun _ _ e=>e) (w22 _ items rfl rfl ?_) (F.pick ["at", "text", "pairs"] rfl)
   rw [List.drop_eq_nil_of_le (by exact q2 0x200a10001815a 1 3 (by kernel_rfl) hlt)] at hrow
   rw [← hrow]
   simpa [rowG,rowF_n,rowF_z,rowF_c] using hal
 ·intro l₁ own₁ g₁ h tk y0; refine u22 y0 fun v items z0 z1 hal=>?_; clear y0; subst z0; subst z1; intro kg F
  subst hl₀
  walk_at "ms"
  exact ⟨⟨(w22 N items rfl (F.ow (N,items) (by simp)).2.2.isList (hal.mono fun _ _ y=>y.keeps F.keep)),newV kg (F.ow (N,items) (by simp)).1⟩,Keeps.mk' fun b o e=>F.keep b o (kg b o e)⟩
end
section
theorem walksShift {prog:Program} {w:World} {A:Around} {I:Addr} {fp wr:List Addr} {G:Array GenState→Array GenState→Prop} {n:Nat} {P:Nat→Value→Prop} {St:Nat→Shared→Prop}
  (W:WalksS prog w A I fp wr G n P St) (m:Nat) (Pre:Nat→Value→Prop):WalksS prog w A I fp wr G (m+n) (fun i v=>(i<m∧Pre i v)∨(m≤i∧P (i-m) v)) (fun i s=>m≤i∧St (i-m) s) where
 sub:=W.sub
 grefl:=W.grefl
 gtrans:=W.gtrans
 frame:=fun i s h' tk st ht hk=>⟨st.1,W.frame (i-m) s h' tk st.2 ht hk⟩
 item:=fun i s Q E hi st hQ=>W.item (i-m) s Q E (by have:=st.1; exact q3 0x410003111802808d41005200123a 1 117 (by kernel_rfl) hi this) st.2 fun v s' hP st' hm=>hQ v s' (.inr ⟨st.1,hP⟩) ⟨by have:=st.1; exact q2 0x4600a4001000011a 1 3 (by kernel_rfl) this,by rw [show i+1-m=i-m+1 by have:=st.1; exact q2 0x1180298894600a42c6445000011a 1 640832818 (by kernel_rfl) this]; exact st'⟩ hm
 done:=fun s Q E st hQ=>W.done s Q E (by have:=st.2; rwa [Nat.add_sub_cancel_left] at this) hQ
 self:=fun i s Q E st hQ=>W.self (i-m) s Q E st.2 hQ
set_option maxRecDepth 100000 in
theorem meets_extend_str (D:Addr) (pre:Array Value) (c₀:Nat) (x:Str) (t:Tok) (hn:pre.size+x.cps.size≤sizeLine) :
  Meets (Builtin.«list.extend» ⟨[.ref D,.str x t],[]⟩) (fun A R s=>A.handled=none∧s.heap.get? D=some { cls:=.type "list", data:=.seq pre c₀ } ∧
   ∀ h' tk acc' c',(∀ b o,b≠D→s.heap.get? b=some o→h'.get? b=some o)→h'.get? D=some { cls:=.type "list", dict:=none,data:=.seq acc' c',slots:=#[] } →
    ItemsOf (fun i v=>(i<pre.size∧pre[i]?=some v)∨(pre.size≤i∧SignAt x (i-pre.size) v)) acc' (pre.size+x.cps.size)→R (.ok (.ret .none)) { s with heap:=h',toks:=tk }):=by
 intro prog w A R s ⟨hh,hS,hR⟩
 have hSI:D≠s.heap.objs.size:=Nat.ne_of_lt (Heap.lt_size hS)
 have hSf:D∉[s.heap.objs.size]:=fun hm=>hSI (List.mem_singleton.mp hm)
 show wpAny _ _ (Builtin.List.listExtendWith (.ref D) (.str x t) .none) _ _ _
 unfold Builtin.List.listExtendWith
 refine wpAny_bind (wpAny_typeOf (T := "str") (v:=.str x t) rfl ?_)
 have h1:Builtin.List.listSameRef (.ref D) (.str x t)=false:=rfl
 have h2:(Value.type "str" == Value.type "list")=false:=by decide
 have h3:(Value.type "str" == Value.type "tuple")=false:=by decide
 simp -iota only [h1,h2,h3,Bool.or_false,Bool.false_eq_true,if_false]
 refine wpAny_bind (wpAny_pyIter_str fun o St W hst=>?_)
 refine wpAny_bind (wpAny_holding ?_)
 unfold Builtin.List.listLengthHint
 refine wpAny_bind (wpAny_specialOf (T := "str") (v:=.str x t) rfl F.str_len ?_)
 wp_delta
 refine wpAny_bind (wpAny_isInstance (T := "str") (v:=.str x t) (b:=true) rfl (by rw [isSubtype_type]; kernel_rfl) ?_)
 show wpAny _ _ (typeOf (Value.str x t) >>= _) _ _ _
 refine wpAny_bind (wpAny_typeOf (T := "str") (v:=.str x t) rfl ?_)
 refine wpAny_pure ?_
 rw [if_neg (by decide)]
 have hpre:ItemsOf (fun i v=>(i<pre.size∧pre[i]?=some v)∨(pre.size≤i∧SignAt x (i-pre.size) v)) pre pre.size:=⟨rfl,fun j v hj=>.inl ⟨by
  have:=(Array.getElem?_eq_some_iff.mp hj).1; exact this,hj⟩⟩
 refine wpAny_pure ⟨plainId_quiet F.plain_extend_loop _,codeAny_extend_loopS (walksShift (W A.in1 hh).toS pre.size fun i v=>pre[i]?=some v) hn _ hSf _ x.cps.size pre.size _ _ _ (by exact q2 0x2100021131d2 1 93 (by kernel_rfl)) (Nat.le_add_right _ _) ⟨Nat.le_refl _,by rw [Nat.sub_self]; exact hst⟩ (Heap.get?_push_of_some _ hS) hpre fun s' acc' c' hm hS' hacc=>?_⟩
 rw [Moved.eq_with hm]
 refine hR s'.heap s'.toks acc' c' (fun b ob hb e=>hm.heap b ob (fun hmem=>?_) (Heap.get?_push_of_some _ e)) hS' hacc
 rcases List.mem_cons.mp hmem with e' | hmem
 ·exact hb e'
 ·exact absurd (Heap.lt_size e) (by rw [List.mem_singleton.mp hmem]; exact Nat.lt_irrefl _)
end
section
variable {prog:Program} {w:World} {A:Around} {E:Value→Shared→Prop} {s:Shared} {Q:Value→Shared→Prop}
set_option tactic.hygienic true in
theorem extS {g:Heap} {L D:Addr} {l:List (Str × Value)} {pre post:List (Addr × List Value)} {items:List Value} {x:List Nat} {t:Tok} (hh:A.handled=none) (F:St g L s.heap l (pre++(D,items)::post)) (hz:items.length≤100000) (hx:x.length≤100000)
  (h:∀ h' tk vs,StrsAre vs ((x.map fun c=>[c]).map S)→St g L h' l (pre++(D,items++vs)::post)→Q .none { s with heap:=h',toks:=tk }) :
  wpAny (model prog w) A (call (.builtin "list.extend") [.ref D,.str (S x) t]) Q E s:=by
 have hD:s.heap.PlainList D items.toArray:=(F.ow (D,items) (by simp)).2.2
 obtain ⟨n,hD⟩:=hD
 refine call_meets PySem.F.slot_list_extend (w11 _ hD rfl) PySem.F.entry_list_extend (PySem.F.args_list_extend_2 _ _) (meets_extend_str D items.toArray n (S x) t ?_) ⟨hh,hD,fun h' tk acc' c' hk hS hI=>?_⟩
 ·show items.toArray.size+x.toArray.size≤_
  rw [List.size_toArray,List.size_toArray,sizeLine_eq]; exact q2 0x10000001800108861a80600a04d586a0100021a 1 7 (by kernel_rfl) hz hx
 ·have hsz:acc'.size=items.length+x.length:=by
   have:=hI.1
   rw [this]
   show items.toArray.size+x.toArray.size=_
   simp
  have hal:Al (fun (c:List Nat) v=>∃ t,v=.str (S c) t) (x.map fun c=>[c]) (acc'.toList.drop items.length):=by
   refine ⟨by simp [hsz],fun i c v hc hv=>?_⟩
   rw [List.getElem?_drop] at hv
   have hv':acc'[items.length+i]?=some v:=by simpa using hv
   rcases hI.2 _ _ hv' with ⟨hlt,_⟩ | ⟨_,c',u,hc',rfl⟩
   ·rw [List.size_toArray] at hlt; (exfalso; exact q2 0x1300021111da 1 1 (by kernel_rfl) hlt)
   ·rw [List.size_toArray,Nat.add_sub_cancel_left] at hc'
    have hc'':x[i]?=some c':=by simpa using hc'
    rw [List.getElem?_map,hc''] at hc
    cases hc
    exact ⟨u,rfl⟩
  have e:acc'=(items++acc'.toList.drop items.length).toArray:=by
   apply Array.toList_inj.mp
   show acc'.toList=items++acc'.toList.drop items.length
   have:acc'.toList.take items.length=items:=by
    apply List.ext_getElem?
    intro i
    rw [List.getElem?_take]
    split
    ·rename_i hi
     have hi':i<acc'.size:=by exact q4 0xc0186180308bd41005200223a 1 14 (by kernel_rfl) hsz hi
     have hv:acc'[i]?=some acc'[i]:=Array.getElem?_eq_getElem hi'
     rcases hI.2 _ _ hv with ⟨_,q⟩ | ⟨hle,_⟩
     ·rw [show acc'.toList[i]?=acc'[i]? from by simp,hv,← q]
      simp
     ·rw [List.size_toArray] at hle; (exfalso; exact q2 0x2600a0235000111a 1 3 (by kernel_rfl) hi hle)
    ·rename_i hi
     exact (List.getElem?_eq_none (by exact q2 0x200a10001815a 1 3 (by kernel_rfl) hi)).symm
   conv=>lhs; rw [← List.take_append_drop items.length acc'.toList,this]
  refine h h' tk _ hal.strs ?_
  obtain ⟨fl,kp,gl,ow,nd⟩:=F
  have hgD:=(ow (D,items) (by simp)).1
  have hDL:=(ow (D,items) (by simp)).2.1
  have nd2:(pre.map (·.1)++D::post.map (·.1)).Nodup:=by simpa using nd
  refine ⟨?_,fun b o e'=>hk b o (fun q=>by rw [q,hgD] at e'; cases e') (kp b o e'),gl,fun p hp=>?_,by simpa using nd⟩
  ·refine u11 fl fun m hn hm=>?_; clear fl
   exact (w11 m (hn.at' fun o e'=>hk _ o (Ne.symm hDL) e') hm)
  ·by_cases q:p.1=D
   ·have hp':p=(D,items++acc'.toList.drop items.length):=by
     rcases List.mem_append.mp hp with hp | hp
     ·exact absurd q ((List.nodup_append.mp nd2).2.2 p.1 (List.mem_map_of_mem hp) D (by simp))
     ·rcases List.mem_cons.mp hp with e' | hp
      ·exact e'
      ·exact absurd (q▸List.mem_map_of_mem hp) (List.nodup_cons.mp (List.nodup_append.mp nd2).2.1).1
    rw [hp']
    exact ⟨hgD,hDL,c',by rw [hS]; rw [← e]⟩
   ·have hp':p∈pre++(D,items)::post:=by
     rcases List.mem_append.mp hp with hp | hp
     ·exact List.mem_append_left _ hp
     ·rcases List.mem_cons.mp hp with e' | hp
      ·exact absurd (e'▸rfl) q
      ·exact List.mem_append_right _ (List.mem_cons_of_mem _ hp)
    exact ⟨(ow p hp').1,(ow p hp').2.1,(ow p hp').2.2.at fun o e'=>hk _ o q e'⟩
end
set_option tactic.hygienic true in
theorem pick_at (vs:List Value) (i k:Nat) (hi:i≤vs.length):slicePick vs.toArray (some (i:Int)) (some ((i:Int)+(k:Int))) none=((vs.drop i).take k).toArray:=by
 have hb:sliceBounds (some (i:Int)) (some ((i:Int)+(k:Int))) none vs.toArray.size=((i:Int),((min (i+k) vs.length:Nat):Int),1):=by
  simp [sliceBounds]; exact ⟨by rw [clN,Nat.min_eq_left hi],by rw [← Int.natCast_add,clN]⟩
 unfold slicePick
 rw [hb]
 simp only [sliceRange]
 have hc:(if (1:Int)>0 then (if (i:Int)<((min (i+k) vs.length:Nat):Int) then (((min (i+k) vs.length:Nat):Int)-i+1-1)/1 else 0) else (if (i:Int)>((min (i+k) vs.length:Nat):Int) then ((i:Int)-((min (i+k) vs.length:Nat):Int)-1-1)/(-1) else 0)).toNat=min k (vs.length-i):=by
  simp
  split <;> (first | exact q3 0x20063802b41000211602739372 1 0x94350c421284b10c4210a46b1ac2908d6308521 (by kernel_rfl) | (rename_i z0; exact q3 0x400c70056c829410002116001833a 1 0x104104514104114155114155104104514104105545105545 (by kernel_rfl) z0))
 rw [hc,pickRange vs _ i (by exact q3 0x108029c00cc0045e1000011a 1 14118 (by kernel_rfl) hi)]
 rw [← List.length_drop,← List.take_eq_take_min]
noncomputable def bl (c:Nat):Bool:=decide (c∈[32,9])
noncomputable def stripT (x:List Nat):List Nat:=dropR bl (x.dropWhile bl)
noncomputable def stepS (st:List Nat × Bool) (x:List Nat):List Nat × Bool:=if x=[] then st else (st.1++(if st.2 then [45] else [])++stripT x,true)
noncomputable def signsN (texts:Txts):List Nat:=(texts.foldl stepS ([],false)).1
noncomputable def unk:List Nat:=[117,110,107,110,111,119,110]
noncomputable abbrev badL:List Nat:=[45,47,92,58,59,34,40,41]
noncomputable def keptN:Nat→Bool→List Nat→List Nat
 | _,_,[]=>[]
 | k+1,o,_::r=>keptN k o r
 | 0,o,c::r=>if unk.isPrefixOf (c::r) then keptN 6 o r else if c∈badL then keptN 0 true r else (if o then [45] else [])++[if c=32 then 95 else c]++keptN 0 false r
theorem keptN_n {k:Nat} {o:Bool}:keptN k o []=[]:=by cases k <;> rfl
theorem keptN_k {k c:Nat} {o:Bool} {r:List Nat}:keptN (k+1) o (c::r)=keptN k o r:=rfl
theorem keptN_c {c:Nat} {o:Bool} {r:List Nat}:keptN 0 o (c::r)=if unk.isPrefixOf (c::r) then keptN 6 o r else if c∈badL then keptN 0 true r else (if o then [45] else [])++[if c=32 then 95 else c]++keptN 0 false r:=rfl
noncomputable def safeN (texts:Txts):List Nat:=keptN 0 false (signsN texts)
theorem keptN_skip (o:Bool):∀ (k:Nat) (l:List Nat),keptN k o l=keptN 0 o (l.drop k)
 | 0,l=>by simp
 | k+1,[]=>by simp [keptN_n,keptN_k,keptN_c]
 | k+1,_::r=>by rw [keptN_k,keptN_skip o k r]; simp
section
open PySem.SeqAt
variable {prog:Program} {w:World} {A:Around} {E:Value→Shared→Prop} {s:Shared} {Q:Value→Shared→Prop}
theorem eqLL {D₁ D₂:Addr} {vs us:List Value} {xs ys:Txts} (hA:A.units<cLine) (h1:s.heap.IsList D₁ vs.toArray) (h2:s.heap.IsList D₂ us.toArray) (hv:StrsAre vs (xs.map S)) (hu:StrsAre us (ys.map S)) (h:Q (.bool (decide (xs=ys))) s) :
  wpAny (model prog w) A (compareOp .Eq (.ref D₁) (.ref D₂)) Q E s:=by
 have l1:vs.length=xs.length:=by rw [strsAre_len hv,List.length_map]
 have l2:us.length=ys.length:=by rw [strsAre_len hu,List.length_map]
 by_cases hl:xs.length=ys.length
 ·refine eq_listAt (e:=fun j=>decide (xs.getD j []=ys.getD j [])) h1 h2 (by simp; exact q4 0x20002c200a42f58400c4315000211a 1 11494 (by kernel_rfl) l1 l2 hl) hA (fun j a b=>?_) ?_
  ·have:=strs_eqAt (A:=A.in1) (s:=s) hv hu j (by simpa using a) (by simpa using b)
   simpa using this
  ·have e:((List.range vs.toArray.size).all fun j=>decide (xs.getD j []=ys.getD j []))=decide (xs=ys):=by
    rw [Bool.eq_iff_iff,List.all_eq_true,decide_eq_true_eq]
    constructor
    ·intro q
     apply List.ext_getElem hl
     intro j h3 h4
     have:=q j (List.mem_range.mpr (by simp; exact q3 0x200618400c22f5000211a 1 14 (by kernel_rfl) l1 h3))
     rw [List.getD_eq_getElem?_getD,List.getD_eq_getElem?_getD,List.getElem?_eq_getElem h3,List.getElem?_eq_getElem h4] at this
     simpa using this
    ·rintro rfl j _
     simp
   rw [e]; exact h
 ·refine eq_list_lengthsAt h1 h2 (by simp; exact q4 0x200028c200a503758400c4315000211a 1 7001 (by kernel_rfl) l1 l2 hl) hA ?_
  rw [decide_eq_false (fun e=>hl (by rw [e]))] at h
  exact h
end
theorem unk_pre (l:List Nat):decide ((l.map fun c=>[c]).take 7=unk.map fun c=>[c])=unk.isPrefixOf l:=by
 rw [Bool.eq_iff_iff,decide_eq_true_eq,List.isPrefixOf_iff_prefix,List.prefix_iff_eq_take]
 rw [← List.map_take]
 constructor
 ·intro h
  have:Function.Injective (fun c:Nat=>[c]):=fun a b e=>by simpa using e
  exact ((List.map_inj_right (fun a b e=>this e)).mp h).symm
 ·intro h
  show List.map _ (List.take 7 l)=_
  rw [show List.take 7 l=unk from h.symm]
noncomputable abbrev ones (l:List Nat):Txts:=l.map fun c=>[c]
theorem ones_app (a b:List Nat):ones (a++b)=ones a++ones b:=List.map_append
theorem strs_app {vs us:List Value} {xs ys:Txts} (h:StrsAre vs (xs.map S)) (k:StrsAre us (ys.map S)):StrsAre (vs++us) ((xs++ys).map S):=by
 rw [List.map_append]; exact h.append' k
theorem dropR_take (p:Nat→Bool) (l:List Nat):dropR p l=l.take (l.length-(l.reverse.takeWhile p).length):=by
 unfold dropR
 rw [← takeWhile_len,List.drop_reverse,List.reverse_reverse]
theorem joinL_ones (l:List Nat):joinL [] (ones l)=l:=by
 induction l with
 | nil=>rfl
 | cons a r ih =>
  cases r with
  | nil=>rfl
  | cons b q =>
   show [a]++[]++joinL [] (ones (b::q))=_
   rw [ih]; rfl
theorem ones_sum:∀ l:List Nat,((ones l).map (·.length)).sum=l.length
 | []=>rfl
 | a::r=>by
  have ih:=ones_sum r
  have e:((ones (a::r)).map (·.length)).sum=1+((ones r).map (·.length)).sum:=rfl
  rw [e,ih,List.length_cons]; exact q1 0x220051052112 1 3 (by kernel_rfl)
theorem stripT_le (x:List Nat):(stripT x).length≤x.length:=by
 unfold stripT
 rw [dropR_take,List.length_take]
 have:=dw_le bl x
 exact q3 0x84000624c3c1000011a 1 12851 (by kernel_rfl) this
section
variable {prog:Program} {w:World} {mg:Str→Option Value} {A:Around} {E:Value→Shared→Prop} {s:Shared} {a:Addr}
theorem safe_spec (T:TK w mg s.heap) (ha:mg "_law_safe" = some (.ref a)) (R:Room A 3) {D:Addr} {vs:List Value} {xs:Txts} (hl:s.heap.IsList D vs.toArray) (hv:StrsAre vs (xs.map S)) (hz:xs.length≤100) (hx:∀ x∈xs,x.length≤100) :
  wpAny (model prog w) A (call (.ref a) [.ref D]) (fun v s'=>(∃ t',v=.str (S (safeN xs)) t')∧Keeps s s') E s:=by
 refine enter F_safe T ha R.lim (binds:=[("texts", .ref D)]) (fun _ _ _=>BindsTo.of_eq rfl) (locs rfl) rfl fun cd h₁ F₀=>?_
 have F:=St.init F₀
 replace R:=R.deeper (env:=envOf "_law_safe" F_safe.scope s.heap.objs.size a cd) (by decide:2+1≤3)
 generalize A.deeper (envOf "_law_safe" F_safe.scope s.heap.objs.size a cd)=A at R ⊢
 clear F₀
 generalize hL:s.heap.objs.size=L at F ⊢
 clear hL
 have lv:vs.length=xs.length:=by rw [strsAre_len hv,List.length_map]
 refine stepO fun _ _ _ _=>?_
 walk_at "ms"
 refine ⟨szl (by simp),fun h₂ N hN hk hT=>?_⟩
 have F₂:=F.own1 (items:=[]) hk hN ⟨_,hT⟩
 walk_at "ms"
 intro h₃ F₃ _
 walk_at "ms"
 intro h₄ F₄ _
 walk_at "ms"
 refine wpAny_For ?_
 walk_at "ms"
 obtain ⟨l₀,hl₀⟩:∃ l₀:List (Str × Value),l₀=([("signs", Value.ref N)]:List (Str × Value)):=⟨_,rfl⟩
 have F₅:St s.heap L h₄ ((("behind" : Str),Value.bool ((xs.take 0).foldl stepS ([],false)).2)::l₀) [(N,[])]:=by subst hl₀; exact F₄.pick ["behind", "signs"] rfl
 clear F₄ F₃ F₂ F
 refine itL (fun i l own=>∃ items,own=[(N,items)]∧l=(("behind" : Str),Value.bool ((xs.take i).foldl stepS ([],false)).2)::l₀∧((xs.take i).foldl stepS ([],false)).1.length≤101*i∧StrsAre items ((ones ((xs.take i).foldl stepS ([],false)).1).map S))
  (fun _ _=>False) R.hh F₅ hl (w13 ([]) rfl rfl (Nat.zero_le _) .nil) ?_ ?_
 ·intro i v l₁ own₁ g' h tk E' _ hQt hvi y0; refine u13 y0 fun items z0 z1 hlen hit=>?_; clear y0; subst z0; subst z1; intro kg F
  subst hl₀
  replace T:=T.keeps kg
  refine u21 (strs_get hv hvi) fun x tx z0 hxi=>?_; subst z0
  have hi100:i<100:=by have:=(List.getElem?_eq_some_iff.mp hxi).1; exact q2 0xc830051802888d64100017a 1 7 (by kernel_rfl) hz this
  have hxl:=hx x (List.mem_of_getElem? hxi)
  have hstep:(xs.take (i+1)).foldl stepS ([],false)=stepS ((xs.take i).foldl stepS ([],false)) x:=by rw [take_snoc hxi,List.foldl_append]; rfl
  generalize (xs.take i).foldl stepS ([],false)=st at hlen hit hstep F
  obtain ⟨sig,beh⟩:=st
  dsimp only at hlen hit F
  have lit:items.length=sig.length:=by rw [strsAre_len hit,List.length_map,List.length_map]
  walk_at "ms"
  by_cases hx0:x=[]
  ·subst hx0
   refine if_bf (decide_eq_false (by simp)) ?_
   walk_at "ms"
   refine Turn.go hQt (w13 items rfl ?_ ?_ ?_) (F.pick ["behind", "signs"] rfl)
   ·rw [hstep]; rfl
   ·rw [hstep]; show sig.length≤_; exact q2 0x1180296507400086507400024a 1 3 (by kernel_rfl) hlen
   ·rw [hstep]; exact hit
  ·refine if_bt (decide_eq_true hx0) ?_
   have hst2:stepS (sig,beh) x=(sig++(if beh then [45] else [])++stripT x,true):=by rw [stepS,if_neg hx0]
   refine stepO fun _ _ _ _=>?_
   refine wpAny_mono (Q:=fun f s'=>f=.next∧∃ h₅ tk₅ items',s'=(⟨h₅,s.gens,s.drawn,tk₅,s.os⟩:Shared)∧StrsAre items' ((ones (sig++if beh then [45] else [])).map S)∧St g' L h₅ [(("one" : Str),Value.str (S x) tx),(("signs" : Str),Value.ref N)] [(N,items')]) ?_ (fun f s' p=>?_) fun _ _ e=>e
   ·walk_at "ms"
    cases beh with
    | false =>
     walk_at "ms"
     exact ⟨rfl,_,_,items,rfl,by simpa using hit,F.pick ["one", "signs"] rfl⟩
    | true =>
     walk_at "ms"
     refine gmApp (F.ow (N,items) (by simp)).2.2 ?_
     walk_at "ms"
     refine appS (pre:=[]) F (by exact q3 0x186a0180182100310bd65074802812564100117a 7 268452069 (by kernel_rfl) hi100 hlen lit) fun h₈ F₈ _=>?_
     walk_at "ms"
     refine ⟨rfl,_,_,_,rfl,?_,F₈.pick ["one", "signs"] rfl⟩
     rw [if_pos rfl,ones_app]
     exact strs_app hit (.cons _ _ .nil)
   obtain ⟨rfl,h₅,tk₅,items₅,rfl,hit₅,F₅⟩:=p
   have lit₅:items₅.length=(sig++if beh then [45] else []).length:=by rw [strsAre_len hit₅,List.length_map,List.length_map]
   have lsig₅:(sig++if beh then [45] else []).length≤101*i+1:=by rw [List.length_append]; split <;> simp <;> (first | exact q2 0x86507400086507400024a 1 3 (by kernel_rfl) hlen | exact q2 0x1186507418200086507400024a 1 3 (by kernel_rfl) hlen)
   walk_at "ms"
   intro h₆ F₆ _
   walk_at "ms"
   intro h₇ F₇ _
   walk_at "ms"
   refine lenS (by walk_at "li") fun _ _=>?_
   walk_at "ms"
   intro h₈ F₈ _
   walk_at "ms"
   refine wpAny_While ?_
   obtain ⟨l₁,hl₁⟩:∃ l₁:List (Str × Value),l₁=([("one", Value.str (S x) tx),("behind", Value.bool true),("signs", Value.ref N)]:List (Str × Value)):=⟨_,rfl⟩
   obtain ⟨n1,hn1⟩:∃ n1,n1=(x.takeWhile bl).length:=⟨_,rfl⟩
   have hn1l:n1≤x.length:=by rw [hn1]; exact tw_len_le bl x
   refine u20 ((w20 _ _ (by subst hl₁; exact F₈.pick ["first", "last", "one", "behind", "signs"] rfl)):∃ tf tl,St g' L h₈ ((("first" : Str),Value.int (0:Nat) tf)::(("last" : Str),Value.int (x.length:Nat) tl)::l₁) [(N,items₅)]) fun tf tl F₉=>?_
   clear F₈ F₇ F₆ F₅ F
   refine itW n1 (fun k l own=>own=[(N,items₅)]∧∃ j tf,j≤n1∧k=n1-j∧l=(("first" : Str),Value.int (j:Nat) tf)::(("last" : Str),Value.int (x.length:Nat) tl)::l₁)
    (fun l own=>own=[(N,items₅)]∧∃ tf,l=(("first" : Str),Value.int (n1:Nat) tf)::(("last" : Str),Value.int (x.length:Nat) tl)::l₁) F₉ ⟨rfl,0,tf,Nat.zero_le _,rfl,rfl⟩ ?_ ?_
   ·rintro k l₂ own₂ h tk E₂ _ _ hQt hQo ⟨rfl,j,tf,hj,rfl,rfl⟩ F
    subst hl₁
    walk_at "ms"
    by_cases hjl:j<n1
    ·obtain ⟨c,e1,_,e3⟩:=tw_at (p:=bl) (l:=x) (j:=j) (hn1▸hjl)
     obtain ⟨hjx,e5⟩:=List.getElem?_eq_some_iff.mp e1
     rw [decide_eq_true (by exact q3 0x20100052400c2255000011a 1 7 (by kernel_rfl) hn1l hjl)]
     walk_at "ms"
     refine itemS j rfl hjx (by walk_at "li") fun _ _=>?_
     rw [e5]
     walk_at "ms"
     refine in1S ?_
     rw [show decide (c∈[32,9])=true from e3]
     walk_at "ms"
     intro h₉ F₉ _
     walk_at "ms"
     exact TurnW.go hQt (n1-(j+1)) (by exact q2 0x8029c400a00a6443000111a 1 21810 (by kernel_rfl) hjl) ⟨rfl,j+1,_,by exact q2 0x422004221000111a 1 3 (by kernel_rfl) hjl,rfl,rfl⟩ (F₉.pick ["first", "last", "one", "behind", "signs"] rfl)
    ·have hjr:j=n1:=by exact q2 0x4000a000302b5000011a 1 46 (by kernel_rfl) hj hjl
     subst hjr
     by_cases hend:j<x.length
     ·rw [decide_eq_true (by exact q2 0x200009000111a 1 3 (by kernel_rfl) hend)]
      walk_at "ms"
      refine itemS j rfl hend (by walk_at "li") fun _ _=>?_
      walk_at "ms"
      refine in1S ?_
      rw [show decide (x[j]∈[32,9])=false from tw_end (p:=bl) (l:=x) (by rw [← hn1]; exact List.getElem?_eq_getElem hend)]
      walk_at "ms"
      exact TurnO.go hQo ⟨rfl,_,rfl⟩ (F.pick ["first", "last", "one", "behind", "signs"] rfl)
     ·rw [decide_eq_false (by exact q2 0x20000910001815a 1 3 (by kernel_rfl) hend)]
      walk_at "ms"
      exact TurnO.go hQo ⟨rfl,_,rfl⟩ (F.pick ["first", "last", "one", "behind", "signs"] rfl)
   ·rintro l₂ own₂ h tk ⟨rfl,tf,rfl⟩ F
    obtain ⟨y,hy⟩:∃ y,y=x.drop n1:=⟨_,rfl⟩
    have hyd:y=x.dropWhile bl:=by rw [hy,hn1,takeWhile_len]
    have hyl:y.length=x.length-n1:=by rw [hy,List.length_drop]
    obtain ⟨k₀,hk₀⟩:∃ k₀,k₀=(y.reverse.takeWhile bl).length:=⟨_,rfl⟩
    have hk₀l:k₀≤y.length:=by rw [hk₀]; have:=tw_len_le bl y.reverse; simpa using this
    walk_at "ms"
    refine wpAny_While ?_
    refine itW k₀ (fun k l own=>own=[(N,items₅)]∧∃ j tl,j≤k₀∧k=k₀-j∧l=(("first" : Str),Value.int (n1:Nat) tf)::(("last" : Str),Value.int ((x.length-j:Nat):Int) tl)::l₁)
     (fun l own=>own=[(N,items₅)]∧∃ tl,l=(("first" : Str),Value.int (n1:Nat) tf)::(("last" : Str),Value.int ((x.length-k₀:Nat):Int) tl)::l₁) F ⟨rfl,0,tl,Nat.zero_le _,rfl,rfl⟩ ?_ ?_
    ·rintro k l₂ own₂ h tk E₂ _ _ hQt hQo ⟨rfl,j,tl,hj,rfl,rfl⟩ F
     subst hl₁
     have hrev:∀ (hjy:j<y.length) (hx':x.length-j-1<x.length),y.reverse[j]?=some (x[x.length-j-1]):=fun hjy hx'=>by
      rw [List.getElem?_reverse hjy,hy,List.getElem?_drop,List.length_drop,List.getElem?_eq_getElem (by exact q4 0x21846080298b9941c00c4983803089541005300223a 1 0x9094040090944441919404019195010 (by kernel_rfl) hyl hjy)]
      congr 1
      congr 1
      exact q4 0x11c200a62e7846080298b9941c00c4985803089541005300223a 1 0x240940100026504105008020080200802008020024094010002409410300240940100024094101004100040090c100850141004010040100401004004100040090c100850141110011030111001101012454401001245412450080200802008020080200e609401000e4390e43006419401000641906410041000409082500a4090100401004010040100400410004050825000c05004100040300c1000c010 (by kernel_rfl) hyl hjy
     have hlast:((x.length-j:Nat):Int)-1=((x.length-j-1:Nat):Int)∨x.length-j=0:=by exact q2 0x300031128c000c44c2300030153265587 1 0x41041405405041041082082041041403403403403041041412430041041412418403403411412104104411412041041 (by kernel_rfl)
     walk_at "ms"
     by_cases hjl:j<k₀
     ·have hjx:x.length-j-1<x.length:=by exact q5 0x84604014c60ca470800e2335803009541005300223a 1 0x1940192099403920 (by kernel_rfl) hyl hk₀l hjl
      refine u12 (tw_at (p:=bl) (l:=y.reverse) (j:=j) (hk₀▸hjl)) fun c e1 _ e3=>?_
      rw [hrev (by exact q3 0x210030c00c2255000011a 1 7 (by kernel_rfl) hk₀l hjl) hjx] at e1
      cases e1
      rw [decide_eq_true (by exact q5 0x81005308002930800e2335803009541005300223a 1 52849849 (by kernel_rfl) hyl hk₀l hjl)]
      walk_at "ms"
      refine itemS (x.length-j-1) (by walk_at "li") hjx (by walk_at "li") fun _ _=>?_
      walk_at "ms"
      refine in1S ?_
      rw [show decide (x[x.length-j-1]∈[32,9])=true from e3]
      walk_at "ms"
      intro h₉ F₉ _
      walk_at "ms"
      have e9:((x.length-j:Nat):Int)-1=((x.length-(j+1):Nat):Int):=by exact q5 0x8c0072802984604014c070cb570800e2335803009541005300223a 1 0x20606020196019202060602059603920 (by kernel_rfl) hyl hk₀l hjl
      rw [e9] at F₉
      exact TurnW.go hQt (k₀-(j+1)) (by exact q2 0x8029c400a00a6443000111a 1 21810 (by kernel_rfl) hjl) ⟨rfl,j+1,_,by exact q2 0x422004221000111a 1 3 (by kernel_rfl) hjl,rfl,rfl⟩ (F₉.pick ["first", "last", "one", "behind", "signs"] rfl)
     ·have hjr:j=k₀:=by exact q2 0x4000a000302b5000011a 1 46 (by kernel_rfl) hj hjl
      subst hjr
      by_cases hend:n1<x.length-j
      ·have hjx:x.length-j-1<x.length:=by exact q3 0x846080298b9940c1005300123a 1 0xa0218a0a4 (by kernel_rfl) hend
       rw [decide_eq_true (by exact q3 0x208029800241005300123a 1 20949 (by kernel_rfl) hend)]
       walk_at "ms"
       refine itemS (x.length-j-1) (by walk_at "li") hjx (by walk_at "li") fun _ _=>?_
       walk_at "ms"
       refine in1S ?_
       rw [show decide (x[x.length-j-1]∈[32,9])=false from tw_end (p:=bl) (l:=y.reverse) (by rw [← hk₀]; exact hrev (by exact q4 0x30061c200a7003094d41005300223a 1 2146858 (by kernel_rfl) hyl hend) hjx)]
       walk_at "ms"
       exact TurnO.go hQo ⟨rfl,_,rfl⟩ (F.pick ["first", "last", "one", "behind", "signs"] rfl)
      ·rw [decide_eq_false (by exact q3 0x20802980024410053001827a 1 22341 (by kernel_rfl) hend)]
       walk_at "ms"
       exact TurnO.go hQo ⟨rfl,_,rfl⟩ (F.pick ["first", "last", "one", "behind", "signs"] rfl)
    ·rintro l₂ own₂ h tk ⟨rfl,tl,rfl⟩ F
     subst hl₁
     have hcut:(x.drop n1).take (x.length-k₀-n1)=stripT x:=by
      unfold stripT
      rw [← hyd,dropR_take,← hk₀,← hy,hyl]
      congr 1
      exact q3 0x210001891c10003113232 1 0x842518c650842318c610842518c650842318c61 (by kernel_rfl)
     have hsl:=stripT_le x
     walk_at "ms"
     refine gmExt (F.ow (N,items₅) (by simp)).2.2 ?_
     walk_at "ms"
     intro h₁₀ I₁ hI₁ hk₁₀ hT₁₀
     have F₁₀:=F.keeps hk₁₀
     walk_at "ms"
     refine slcInS n1 (x.length-k₀) rfl rfl (by walk_at "li") (by exact q4 0x61005300083006018a8029c00c4475000011a 1 242022706 (by kernel_rfl) hn1l hyl hk₀l) (by exact q2 268448016 1 5 (by kernel_rfl)) hT₁₀ fun _ _=>?_
     rw [hcut]
     walk_at "ms"
     refine extS (pre:=[]) R.hh F₁₀ (by exact q3 0x30d40300508e507413280180daa080290bd64100117a 7 270532837 (by kernel_rfl) hi100 lit₅ lsig₅) (by exact q2 0x30d4030050802808d64100017a 1 7 (by kernel_rfl) hxl hsl) fun h₁₁ tk₁₁ us hus F₁₁=>?_
     walk_at "ms"
     refine Turn.go hQt (w13 (items₅++us) rfl ?_ ?_ ?_) (F₁₁.pick ["behind", "signs"] rfl)
     ·rw [hstep,hst2]; rfl
     ·rw [hstep,hst2]
      show (sig++(if beh then [45] else [])++stripT x).length≤_
      rw [List.length_append]; exact q4 0x118018b283a610052170c01804aa306507419280281dd64100017a 1 15 (by kernel_rfl) hxl lsig₅ hsl
     ·rw [hstep,hst2]
      show StrsAre _ ((ones (sig++(if beh then [45] else [])++stripT x)).map S)
      rw [ones_app]
      exact strs_app hit₅ hus
 ·rintro l₁ own₁ h tk (⟨items,rfl,rfl,hlen,hit⟩ | h) F
  case inr=>exact h.elim
  subst hl₀
  rw [lv,List.take_length] at hlen hit F
  obtain ⟨sg,hsg⟩:∃ sg,sg=(xs.foldl stepS ([],false)).1:=⟨_,rfl⟩
  have hsgN:sg=signsN xs:=hsg
  rw [← hsg] at hlen hit
  have lit:items.length=sg.length:=by rw [strsAre_len hit,List.length_map,List.length_map]
  walk_at "ms"
  refine ⟨szl (by simp),fun h₂ K hK hk hT=>?_⟩
  have F₂:=F.own1 (items:=[]) hk hK ⟨_,hT⟩
  walk_at "ms"
  intro h₃ F₃ _
  walk_at "ms"
  intro h₄ F₄ _
  walk_at "ms"
  intro h₅ F₅ _
  walk_at "ms"
  refine wpAny_While ?_
  obtain ⟨l₀,hl₀⟩:∃ l₀:List (Str × Value),l₀=([("kept", Value.ref K),("signs", Value.ref N)]:List (Str × Value)):=⟨_,rfl⟩
  obtain ⟨t₀,F₆⟩:∃ t₀,St s.heap L h₅ ((("at" : Str),Value.int (0:Nat) t₀)::(("owed" : Str),Value.bool false)::l₀) [(K,[]),(N,items)]:=⟨_,by subst hl₀; exact F₅.pick ["at", "owed", "kept", "signs"] rfl⟩
  clear F₅ F₄ F₃ F₂ F
  refine itW sg.length (fun k l own=>∃ i ti o kit done,k=sg.length-min i sg.length∧l=(("at" : Str),Value.int (i:Nat) ti)::(("owed" : Str),Value.bool o)::l₀∧own=[(K,kit),(N,items)]∧done.length≤2*min i sg.length∧StrsAre kit ((ones done).map S)∧done++keptN 0 o (sg.drop i)=keptN 0 false sg)
   (fun l own=>∃ v o kit,l=(("at" : Str),v)::(("owed" : Str),Value.bool o)::l₀∧own=[(K,kit),(N,items)]∧StrsAre kit ((ones (keptN 0 false sg)).map S)∧(keptN 0 false sg).length≤2*sg.length) F₆
   (w55 0 t₀ false ([]) ([]) (by simp) rfl rfl (by simp) .nil (by simp)) ?_ ?_
  ·intro k l₁ own₁ h tk E' _ _ hQt hQo y0; refine u55 y0 fun i ti o kit done z0 z1 z2 hdl hkit hdone=>?_; clear y0; subst z0; subst z1; subst z2; intro F
   subst hl₀
   have lkit:kit.length=done.length:=by rw [strsAre_len hkit,List.length_map,List.length_map]
   have hSN:h.IsList N items.toArray:=(F.ow (N,items) (by simp)).2.2.isList
   walk_at "ms"
   refine lenL hSN (by exact q3 0x186a0180182100310bd65074802812564100017a 7 268452069 (by kernel_rfl) hz hlen lit) fun _ _=>?_
   rw [lit]
   walk_at "ms"
   by_cases hlt:i<sg.length
   ·refine if_bt (decide_eq_true (by exact q2 0x200009000111a 1 3 (by kernel_rfl) hlt)) ?_
    refine u20 ((w20 _ _ (List.drop_eq_getElem_cons hlt)):∃ c r,sg.drop i=c::r) fun c r hcr=>?_
    have hc:sg[i]=c:=by rw [List.drop_eq_getElem_cons hlt] at hcr; injection hcr
    walk_at "ms"
    intro h₇ I hI hk₇ hT₇
    have F₇:=F.keeps hk₇
    walk_at "ms"
    refine slcL (isL_keeps hSN hk₇) hT₇ (.int _ _) (.int _ _) .none (by simp) (by exact q3 0x186a0180182100310bd65074802812564100017a 7 268452069 (by kernel_rfl) hz hlen lit) fun h₈ b hb hk₈ hT₈=>?_
    rw [show ((7:Int))=((7:Nat):Int) from rfl,pick_at _ _ _ (by exact q3 0x200608400c22f5000211a 1 14 (by kernel_rfl) lit hlt)] at hT₈
    have F₈:=F₇.keeps hk₈
    walk_at "ms"
    refine ⟨szl (by simp),fun h₉ b' hb' hk₉ hT₉=>?_⟩
    have F₉:=F₈.keeps hk₉
    have hcut:StrsAre ((items.drop i).take 7) ((((ones (sg.drop i)).take 7)).map S):=by
     have:=(((Al.of_strs hit).drop i).take 7).strs
     rw [← List.map_drop] at this
     exact this
    walk_at "ms"
    refine eqLL (xs:=(ones (sg.drop i)).take 7) (ys:=ones unk) R.units (isL_of (hk₉ _ _ hT₈)) (isL_of hT₉) hcut (.cons _ _ (.cons _ _ (.cons _ _ (.cons _ _ (.cons _ _ (.cons _ _ (.cons _ _ .nil))))))) ?_
    rw [show decide ((ones (sg.drop i)).take 7=ones unk)=unk.isPrefixOf (sg.drop i) from unk_pre _]
    rw [hcr] at hdone
    rw [hcr]
    have hrl:r.length+1+i=sg.length:=by
     have:=congrArg List.length hcr
     simp at this; exact q3 0x84600621722828c00c5000311234a 1 8873 (by kernel_rfl) this
    have hd1:sg.drop (i+1)=r:=by rw [← List.drop_drop,hcr]; rfl
    refine u11 ((Al.of_strs hit).get' (show (ones sg)[i]?=some [c] by rw [List.getElem?_map,List.getElem?_eq_getElem hlt,hc]; rfl)) fun vc hvc z0=>?_; obtain ⟨tc,rfl⟩:=z0
    have hS₉:h₉.IsList N items.toArray:=isL_keeps (isL_keeps (isL_keeps hSN hk₇) hk₈) hk₉
    by_cases hu:unk.isPrefixOf (c::r)=true
    ·rw [hu]
     walk_at "ms"
     intro h₁₀ F₁₀ _
     walk_at "ms"
     have h7:=(List.isPrefixOf_iff_prefix.mp hu).length_le
     have h7':7≤r.length+1:=h7
     refine TurnW.go hQt (sg.length-min (i+7) sg.length) (by exact q3 0x104015a0063838c014861a00633c1821100211222234a 1 0x22468142246814122640c0a16204 (by kernel_rfl) hrl) (w55 (i+7) _ o kit done rfl rfl rfl (by exact q3 0x107180290c3404800104015a02400031a 2 289675537 (by kernel_rfl) hdl) hkit ?_) (F₁₀.pick ["at", "owed", "kept", "signs"] rfl)
     have e7:(r.drop 6)=sg.drop (i+7):=by rw [← hd1,List.drop_drop]
     rw [← hdone,keptN_c,if_pos hu,keptN_skip o 6 r,e7]
    ·rw [show unk.isPrefixOf (c::r)=false from Bool.eq_false_iff.mpr hu]
     walk_at "ms"
     refine idxL i rfl hS₉ hvc (by exact q3 0x186a0180182100310bd65074802812564100017a 7 268452069 (by kernel_rfl) hz hlen lit) ?_
     walk_at "ms"
     refine in1S ?_
     walk_at "ms"
     by_cases hb:c∈badL
     ·refine if_bt (show decide (c∈[45,47,92,58,59,34,40,41])=true from decide_eq_true hb) ?_
      walk_at "ms"
      intro h₁₀ F₁₀ _
      walk_at "ms"
      intro h₁₁ F₁₁ _
      walk_at "ms"
      refine TurnW.go hQt (sg.length-min (i+1) sg.length) (by exact q2 0x2000d005384400845a00a6663000111a 1 0x2492492492491451450c30c2 (by kernel_rfl) hlt) (w55 (i+1) _ true kit done rfl rfl rfl (by exact q3 0x41180290b3404800104015a02400031a 2 289675537 (by kernel_rfl) hdl) hkit ?_) (F₁₁.pick ["at", "owed", "kept", "signs"] rfl)
      rw [← hdone,keptN_c,if_neg hu,if_pos hb,hd1]
     ·refine if_bf (show decide (c∈[45,47,92,58,59,34,40,41])=false from decide_eq_false hb) ?_
      refine stepO fun _ _ _ _=>?_
      refine wpAny_mono (Q:=fun f s'=>f=.next∧∃ h₅ tk₅ kit',s'=(⟨h₅,s.gens,s.drawn,tk₅,s.os⟩:Shared)∧StrsAre kit' ((ones (done++if o then [45] else [])).map S)∧St s.heap L h₅ [(("at" : Str),Value.int (i:Nat) ti),(("owed" : Str),Value.bool false),(("kept" : Str),Value.ref K),(("signs" : Str),Value.ref N)] [(K,kit'),(N,items)]) ?_ (fun f s' p=>?_) fun _ _ e=>e
      ·walk_at "ms"
       cases o with
       | false =>
        walk_at "ms"
        exact ⟨rfl,_,_,kit,rfl,by simpa using hkit,F₉.pick ["at", "owed", "kept", "signs"] rfl⟩
       | true =>
        walk_at "ms"
        refine gmApp (F₉.ow (K,kit) (by simp)).2.2 ?_
        walk_at "ms"
        refine appS (pre:=[]) F₉ (by exact q5 0x61a806003841001c866a18033404900301bd65074802812564100017a 8 0x10001000102ca010001020102ca (by kernel_rfl) hz hlen hdl lkit) fun h₁₀ F₁₀ _=>?_
        walk_at "ms"
        intro h₁₁ F₁₁ _
        walk_at "ms"
        refine ⟨rfl,_,_,_,rfl,?_,F₁₁.pick ["at", "owed", "kept", "signs"] rfl⟩
        rw [if_pos rfl,ones_app]
        exact strs_app hkit (.cons _ _ .nil)
      obtain ⟨rfl,h₁₀,tk₁₀,kit',rfl,hkit',F₁₀⟩:=p
      have hS₁₀:h₁₀.IsList N items.toArray:=(F₁₀.ow (N,items) (by simp)).2.2.isList
      have lkit':kit'.length=(done++if o then [45] else []).length:=by rw [strsAre_len hkit',List.length_map,List.length_map]
      have ldo:(done++if o then [45] else []).length≤done.length+1:=by rw [List.length_append]; split <;> simp
      walk_at "ms"
      refine gmApp (F₁₀.ow (K,kit') (by simp)).2.2 ?_
      dsimp only
      refine callWith_method1 ?_
      refine args_cons ?_
      refine useK (P:=fun v s'=>∃ t',v=.str (S [if c=32 then 95 else c]) t') F₁₀ ?_ fun v h₁₁ tk₁₁ hv F₁₁ k₁₁=>?_
      ·walk_at "ms"
       refine idxL i rfl hS₁₀ hvc (by exact q3 0x186a0180182100310bd65074802812564100017a 7 268452069 (by kernel_rfl) hz hlen lit) ?_
       walk_at "ms"
       by_cases h32:c=32
       ·rw [decide_eq_true (by rw [h32]),if_pos h32]
        walk_at "ms"
        exact ⟨⟨_,rfl⟩,Keeps.mk' fun _ _ e=>e⟩
       ·rw [decide_eq_false (by simpa using h32),if_neg h32]
        walk_at "ms"
        refine idxL i rfl hS₁₀ hvc (by exact q3 0x186a0180182100310bd65074802812564100017a 7 268452069 (by kernel_rfl) hz hlen lit) ?_
        exact ⟨⟨_,rfl⟩,Keeps.mk' fun _ _ e=>e⟩
      obtain ⟨t',rfl⟩:=hv
      walk_at "ms"
      refine appS (pre:=[]) F₁₁ (by exact q6 0x30d403001c230031500702aaa1001c86aa18033404900301bd65074802812564100017a 8 0x1010001000102ca01010001020102ca (by kernel_rfl) hz hlen hdl lkit' ldo) fun h₁₂ F₁₂ _=>?_
      walk_at "ms"
      intro h₁₃ F₁₃ _
      walk_at "ms"
      refine TurnW.go hQt (sg.length-min (i+1) sg.length) (by exact q2 0x2000d005384400845a00a6663000111a 1 0x2492492492491451450c30c2 (by kernel_rfl) hlt) (w55 (i+1) _ false (kit'++[Value.str (S [if c=32 then 95 else c]) t']) (done++(if o then [45] else [])++[if c=32 then 95 else c]) rfl rfl rfl (by rw [List.length_append]; simp -iota only [List.length_singleton]; exact q4 0x82300521668092380310b84400b006023a8200a22f504015a02400031a 2 0x14014161141 (by kernel_rfl) hdl hlt ldo) ?_ ?_) (F₁₃.pick ["at", "owed", "kept", "signs"] rfl)
      ·rw [ones_app]
       exact strs_app hkit' (.cons _ _ .nil)
      ·rw [← hdone,keptN_c,if_neg hu,if_neg hb,hd1]
       simp -iota only [List.append_assoc]
   ·refine if_bf (decide_eq_false (by exact q2 0x20000910001815a 1 3 (by kernel_rfl) hlt)) ?_
    walk_at "ms"
    rw [List.drop_eq_nil_of_le (by exact q2 0x200a10001815a 1 3 (by kernel_rfl) hlt)] at hdone
    have e:done=keptN 0 false sg:=by rw [← hdone]; simp [keptN_n,keptN_k,keptN_c]
    refine TurnO.go hQo (w33 _ o kit rfl rfl (by rw [← e]; exact hkit) (by rw [← e]; exact q3 0x10404800104015a02400031a 2 1113 (by kernel_rfl) hdl)) (F.pick ["at", "owed", "kept", "signs"] rfl)
  ·intro l₁ own₁ h tk y0; refine u33 y0 fun v o kit z0 z1 hkit hkl=>?_; clear y0; subst z0; subst z1; intro F
   subst hl₀
   walk_at "ms"
   refine joinS (D:=K) (vs:=kit) (F.ow (K,kit) (by simp)).2.2.isList hkit (by simp) (by rw [ones_sum,List.length_map]; exact q3 0xf4240182006218084049003012d65074802812564100017a 9 134744468 (by kernel_rfl) hz hlen hkl) fun t₁ _=>?_
   rw [joinL_ones,hsgN]
   walk_at "ms"
   exact ⟨⟨t₁,rfl⟩,Keeps.mk' F.keep⟩
end
namespace BM
theorem entry_map_iter:entryFor table "map.__iter__" = some Builtin.«dict_keyiterator.__iter__» :=
 entryFor_alias (id' := "dict_keyiterator.__iter__") (by kernel_rfl) (by first | rfl | decide +kernel | (unfold String.splitOn; simp +decide [String.splitOnAux])) (by decide +kernel) (by kernel_rfl)
theorem mro_map:mroOf (.type "map")=pure [.type "map", .type "object"]:=by rw [mroOf_type]; kernel_rfl
theorem lookup_map_new:typeLookup (.type "map") "__new__" = pure (some (.builtin "map.__new__")):=by rw [typeLookup_type,builtinLookup_eq_fast]; kernel_rfl
theorem slot_map_init:Slot "map" "__init__" "object.__init__" :=
 .of (owner := "object") (n := "__init__") (by rw [typeLookup_type,builtinLookup_eq_fast]; kernel_rfl) (by decide +kernel) (by decide +kernel) (by decide +kernel)
  (by first | exact .inl (by decide +kernel) | exact .inr (by decide +kernel)) (by rw [isSubtype_type]; kernel_rfl)
theorem slot_map_iter:Slot "map" "__iter__" "map.__iter__" :=
 .of (owner := "map") (n := "__iter__") (by rw [typeLookup_type,builtinLookup_eq_fast]; kernel_rfl) (by decide +kernel) (by decide +kernel) (by decide +kernel)
  (by first | exact .inl (by decide +kernel) | exact .inr (by decide +kernel)) (by rw [isSubtype_type]; kernel_rfl)
theorem slot_map_next:Slot "map" "__next__" "map.__next__" :=
 .of (owner := "map") (n := "__next__") (by rw [typeLookup_type,builtinLookup_eq_fast]; kernel_rfl) (by decide +kernel) (by decide +kernel) (by decide +kernel)
  (by first | exact .inl (by decide +kernel) | exact .inr (by decide +kernel)) (by rw [isSubtype_type]; kernel_rfl)
theorem entry_map_next:entryFor table "map.__next__" = some Builtin.«map.__next__»:=entryFor_of_tree (by kernel_rfl)
theorem entry_map_new:entryFor table "map.__new__" = some Builtin.«map.__new__»:=entryFor_of_tree (by kernel_rfl)
theorem called_map:TypeCalled "map" "map.__new__" "object.__init__" :=
 ⟨by decide +kernel,by decide +kernel,(w20 _ _ mro_map),madeBy_type mro_map lookup_map_new (by decide +kernel),by decide +kernel,by rw [isSubtype_type]; kernel_rfl,slot_map_init⟩
theorem typeCall_map_2 (a b:Value):checkTypeCall "map" ⟨[a,b],[]⟩=pure ():=by kernel_rfl
theorem newCall_map_2 (a b:Value):checkBuiltinCall "map.__new__" ⟨[.type "map", a,b],[]⟩=pure ():=by kernel_rfl
theorem args_map_next_1 (a:Value):argsOk "map.__next__" ⟨[a],[]⟩:=by unfold argsOk; kernel_rfl
theorem args_map_iter_1 (a:Value):argsOk "map.__iter__" ⟨[a],[]⟩:=by unfold argsOk; kernel_rfl
theorem sub_map:isSubtype (.type "map") (.type "map")=pure true:=by rw [isSubtype_type]; kernel_rfl
end BM
noncomputable abbrev IsMap (h:Heap) (m TI:Addr) (f:Value):Prop:=h.get? m=some { cls:=.type "map", dict:=none,data:=.fields #[.ref TI,f],slots:=#[] }
set_option maxHeartbeats 1000000 in
theorem meets_map_new (f:Value) (l:Addr) (xs:Array Value) :
  Meets (Builtin.«map.__new__» ⟨[.type "map", f,.ref l],[]⟩) (fun _ R s=>s.heap.IsList l xs ∧
   ∀ h' I TI m,Kp s.heap h'→s.heap.get? I=none→s.heap.get? TI=none→s.heap.get? m=none→I≠TI→I≠m→TI≠m→h'.IsListIter I l 0→h'.get? TI=some { cls:=.type "tuple", data:=.seq #[.ref I] }→IsMap h' m TI f →
    R (.ok (.ret (.ref m))) { s with heap:=h' }) :=
 .of_wp fun prog w A R s h=>by
  obtain ⟨hp,g,d,tk,os⟩:=s; obtain ⟨hl,h⟩:=h
  have hsub:=BM.sub_map
  have hL:Heap.IsList (Shared.heap ⟨hp,g,d,tk,os⟩) l xs:=hl
  wp_walk using wpAny_pyIter_list hL
  have z1:(hp.push { cls:=.type "list_iterator", data:=.fields #[.ref l,.int 0 0] }).objs.size=hp.objs.size+1:=Heap.size_push ..
  generalize hH1:hp.push { cls:=.type "list_iterator", data:=.fields #[.ref l,.int 0 0] }=H1 at z1 ⊢
  have z2:(H1.push { cls:=.type "tuple", data:=.seq (#[].push (Value.ref hp.objs.size)).toList.toArray }).objs.size=hp.objs.size+2:=by rw [Heap.size_push,z1]
  generalize hH2:H1.push { cls:=.type "tuple", data:=.seq (#[].push (Value.ref hp.objs.size)).toList.toArray }=H2 at z2 ⊢
  have k1:Kp hp H1:=fun b o e=>hH1▸Heap.get?_push_of_some _ e
  have k2:Kp H1 H2:=fun b o e=>hH2▸Heap.get?_push_of_some _ e
  have nn:∀ n:Nat,hp.objs.size≤n→hp.get? n=none:=fun n hn=>Heap.get?_none_of_le hn
  refine (w11 _ rfl (h _ hp.objs.size H1.objs.size H2.objs.size (fun b o e=>Heap.get?_push_of_some _ (k2 b o (k1 b o e))) (nn _ (Nat.le_refl _)) (nn _ (by rw [z1]; exact Nat.le_add_right _ _)) (nn _ (by rw [z2]; exact Nat.le_add_right _ _)) ?_ ?_ ?_ ?_ ?_ ?_))
  ·intro e; have e':@Eq Nat _ _:=e; exact q2 0x4c014846a3005200222a 1 10 (by kernel_rfl) z1 e'
  ·intro e; have e':@Eq Nat _ _:=e; exact q2 0x9802908d43005200223a 1 10 (by kernel_rfl) z2 e'
  ·intro e; have e':@Eq Nat _ _:=e; exact q3 0x13000109543005280188a6a3005200222a 1 41 (by kernel_rfl) z1 z2 e'
  ·exact (w12 _ (Heap.get?_push_of_some _ (k2 _ _ (hH1▸Heap.get?_push_size _ rfl))) rfl rfl)
  ·exact Heap.get?_push_of_some _ (hH2▸Heap.get?_push_size _ rfl)
  ·exact Heap.get?_push_size _ rfl
section
variable {prog:Program} {w:World} {A:Around} {E:Value→Shared→Prop} {s:Shared}
theorem map_next_item {m TI I l:Addr} {k:Nat} {xs:Array Value} {f x:Value} {Q:Value→Shared→Prop} (hm:IsMap s.heap m TI f) (hT:s.heap.get? TI=some { cls:=.type "tuple", data:=.seq #[.ref I] })
  (h1:s.heap.IsListIter I l k) (hl:s.heap.IsList l xs) (hx:xs[k]?=some x) (hmI:m≠I)
  (hc:∀ h',h'.IsListIter I l (k+1)→Heap.SameBut I s.heap h'→wpAny (model prog w) A (call f [x]) Q E { s with heap:=h' }) :
  wpAny (model prog w) A (Builtin.«map.__next__» ⟨[.ref m],[]⟩) (fun fin s'=>∃ v,fin=.done (.ret v)∧Q v s') E s:=by
 show wpAny _ _ (field (.ref m) 0 >>= _) _ _ _
 refine wpAny_bind (wpAny_field hm rfl (x:=.ref TI) rfl ?_)
 refine wpAny_bind (wpAny_seqItems hT rfl ?_)
 dsimp only
 rw [List.forIn_toArray]
 simp -iota only [List.forIn_cons,List.forIn_nil,bind_assoc,pure_bind]
 dsimp only
 simp -iota only [pure_bind]
 refine wpAny_bind (wpAny_holding (wpAny_nextOf_list_item h1 hl hx fun h' h1' hs=>?_))
 have hm':IsMap h' m TI f:=hs.extBut _ _ hmI hm
 refine wpAny_bind (wpAny_field hm' rfl (x:=f) rfl ?_)
 refine wpAny_bind (wpAny_holding (wpAny_mono (hc h' h1' hs) (fun v s' hQ=>?_) fun _ _ e=>e))
 exact wpAny_bind (wpAny_letGo (wpAny_pure (w11 v rfl hQ)))
theorem map_next_end {m TI I l:Addr} {k:Nat} {xs:Array Value} {f:Value} {Q:Fin→Shared→Prop} (hh:A.handled=none) (hm:IsMap s.heap m TI f) (hT:s.heap.get? TI=some { cls:=.type "tuple", data:=.seq #[.ref I] })
  (h1:s.heap.IsListIter I l k) (hl:s.heap.IsList l xs) (hx:xs[k]?=none)
  (hE:∀ h' e,Heap.ExtBut I s.heap h'→(∃ o,h'.get? e=some o∧o.cls=.type "StopIteration")→E (.ref e) { s with heap:=h' }) :
  wpAny (model prog w) A (Builtin.«map.__next__» ⟨[.ref m],[]⟩) Q E s:=by
 show wpAny _ _ (field (.ref m) 0 >>= _) _ _ _
 refine wpAny_bind (wpAny_field hm rfl (x:=.ref TI) rfl ?_)
 refine wpAny_bind (wpAny_seqItems hT rfl ?_)
 dsimp only
 rw [List.forIn_toArray]
 simp -iota only [List.forIn_cons,List.forIn_nil,bind_assoc,pure_bind]
 dsimp only
 simp -iota only [pure_bind]
 exact wpAny_bind (wpAny_holding (wpAny_nextOf_list_end hh h1 hl hx hE))
theorem walksMap {prog:Program} {w:World} {A:Around} (hh:A.handled=none) (m TI I l:Addr) (xs:Array Value) (f:Value) (P:Nat→Value→Prop) (g:Heap)
  (hmI:m≠I) (hTI:TI≠I) (hlI:l≠I) (hI:g.get? I=none)
  (hc:∀ (i:Nat) x (s:Shared) (Q:Value→Shared→Prop) E,xs[i]?=some x→Kp g s.heap→(∀ v h' tk,P i v→Kp s.heap h'→Q v { s with heap:=h',toks:=tk })→wpAny (model prog w) A.in1 (call f [x]) Q E s) :
  Walks prog w A m (m::TI::I::l::(List.range g.objs.size).filter fun b=>(g.get? b).isSome) [I] xs.size P (fun i h=>IsMap h m TI f∧h.get? TI=some { cls:=.type "tuple", data:=.seq #[.ref I] }∧h.IsListIter I l i∧h.IsList l xs∧Kp g h):=by
 have hTm:∀ (s:Shared),IsMap s.heap m TI f→s.TypeIs (.ref m) "map" := fun s hm=>(w11 _ hm rfl)
 refine { sub:=fun b hb=>by rw [List.mem_singleton.mp hb]; simp,frame:=?_,item:=?_,done:=?_,self:=?_ }
 ·intro i h h' y0; refine u04 y0 fun hm hT h1 hl k=>?_; clear y0; intro hk
  refine ⟨hk _ (by simp) _ hm,hk _ (by simp) _ hT,h1.at fun o e=>hk _ (by simp) o e,hl.at fun o e=>hk _ (by simp) o e,fun b o e=>hk b ?_ o (k b o e)⟩
  have:=Heap.lt_size e
  simp only [List.mem_cons,List.mem_filter,List.mem_range]
  exact .inr (.inr (.inr (.inr ⟨this,by rw [e]; rfl⟩)))
 ·intro i s Q E hi y0; refine u04 y0 fun hm hT h1 hl k=>?_; clear y0; intro hQ
  unfold pyNext
  refine wpAny_bind (wpAny_attempt (wpAny_callSpecial?_slot (name:=Str.ofString "__next__") (hTm s hm) BM.slot_map_next (wpAny_call_entry BM.slot_map_next (hTm s hm) BM.entry_map_next
   (map_next_item hm hT h1 hl (Array.getElem?_eq_getElem hi) hmI fun h' h1' hs=>?_) (BM.args_map_next_1 _))))
  have kg:Kp g h':=fun b o e=>hs.extBut b o (fun q=>by rw [q,hI] at e; cases e) (k b o e)
  refine hc i _ { s with heap:=h' } _ _ (Array.getElem?_eq_getElem hi) kg fun v h'' tk hP k''=>wpAny_pure ?_
  exact hQ v h'' tk hP ⟨k'' _ _ (hs.extBut _ _ hmI hm),k'' _ _ (hs.extBut _ _ hTI hT),h1'.at fun o e=>k'' _ _ e,(hl.extBut hs.extBut hlI).at fun o e=>k'' _ _ e,fun b o e=>k'' b o (kg b o e)⟩
   fun b o hb e=>k'' b o (hs.extBut b o (fun q=>hb (by simp [q])) e)
 ·intro s Q E y0; refine u04 y0 fun hm hT h1 hl k=>?_; clear y0; intro hQ
  unfold pyNext
  refine wpAny_bind (wpAny_attempt (wpAny_callSpecial?_slot (name:=Str.ofString "__next__") (hTm s hm) BM.slot_map_next (wpAny_call_entry BM.slot_map_next (hTm s hm) BM.entry_map_next
   (map_next_end hh hm hT h1 hl (Array.getElem?_eq_none (Nat.le_refl _)) fun h' e hs he=>?_) (BM.args_map_next_1 _))))
  refine u11 he fun o ho hc=>?_; clear he
  refine wpAny_bind (wpAny_isInstance (T := "StopIteration") (b:=true) (w11 o ho hc) isSubtype_stop ?_)
  exact wpAny_pure (hQ h' s.toks fun b o hb e=>hs b o (fun q=>hb (by simp [q])) e)
 ·rintro i s Q E ⟨hm,_⟩ hQ
  refine wpAny_pyIter_slot (hTm s hm) BM.slot_map_iter (wpAny_call_entry BM.slot_map_iter (hTm s hm) BM.entry_map_iter ?_ (BM.args_map_iter_1 _))
  show wpAny _ _ (ret (.ref m)) _ _ s
  exact wpAny_pure (w11 _ rfl ⟨"map", _,hTm s hm,BM.slot_map_next.lookup,hQ⟩)
end
namespace BM
theorem map_no_len:typeLookup (.type "map") "__len__" = pure none:=by rw [typeLookup_type,builtinLookup_eq_fast]; kernel_rfl
theorem map_no_hint:typeLookup (.type "map") "__length_hint__" = pure none:=by rw [typeLookup_type,builtinLookup_eq_fast]; kernel_rfl
end BM
section
open PySem.AutoSeq1 (wpAny_loadPart')
variable {prog:Program} {w:World} {A:Around} {E:Value→Shared→Prop} {s:Shared} {I:Addr} {fp wr:List Addr} {G:Array GenState→Array GenState→Prop} {n:Nat} {P:Nat→Value→Prop} {St:Nat→Shared→Prop}
theorem collMap {Q:List Value→Shared→Prop} (W:WalksS prog w A.in1 I fp wr G n P St) (hT:∀ i s,St i s→s.TypeIs (.ref I) "map") (hst:St 0 s) (hfp:∀ b∈fp,b<s.heap.objs.size) (hI:I∈fp)
  (hQ:∀ s' acc,Moved wr G s s'→ItemsOf P acc n→Q acc.toList s') (hn:n≤sizeLine):wpAny (model prog w) A (collect (.ref I)) Q E s:=by
 have hSf:s.heap.objs.size∉fp:=fun hm=>Nat.lt_irrefl _ (hfp _ hm)
 have hSI:s.heap.objs.size≠I:=fun e=>hSf (e▸hI)
 unfold collect
 refine wpAny_bind (wpAny_runValue (codeAny_builtin F.entry_proto_collect ?_))
 rw [Around.under_plainId F.plain_proto_collect _]
 show wpAny _ A.in1 (newList [] >>= fun l=>again (.builtin "list.__iadd__" ⟨[l,.ref I],[]⟩)) _ _ s
 refine wpAny_bind (wpAny_newObj_type ?_)
 refine wpAny_pure ⟨plainId_quiet F.plain_list_iadd _,codeAny_builtin F.entry_list_iadd ?_⟩
 rw [Around.under_plainId F.plain_list_iadd _]
 have hst₁:=W.frame 0 s (s.heap.push { cls:=.type "list", data:=.seq ([]:List Value).toArray }) s.toks hst (Nat.le_refl _) fun b _ o e=>Heap.get?_push_of_some _ e
 show wpAny _ A.in1 (Builtin.List.listExtendWith (.ref s.heap.objs.size) (.ref I) (.ref s.heap.objs.size)) _ _ _
 unfold Builtin.List.listExtendWith
 refine wpAny_bind (wpAny_typeOf (hT 0 _ hst₁) ?_)
 have h1:Builtin.List.listSameRef (.ref s.heap.objs.size) (.ref I)=false:=by simp [Builtin.List.listSameRef,hSI]
 have h2:(Value.type "map" == Value.type "list")=false:=by decide
 have h3:(Value.type "map" == Value.type "tuple")=false:=by decide
 simp -iota only [h1,h2,h3,Bool.or_false,Bool.false_eq_true,if_false]
 refine wpAny_bind (W.self 0 _ _ _ hst₁ ?_)
 refine wpAny_bind (wpAny_holding ?_)
 unfold Builtin.List.listLengthHint
 refine wpAny_bind (wpAny_specialOf (hT 0 _ hst₁) BM.map_no_len ?_)
 show wpAny _ A.in1 (specialOf (Value.ref I) (Str.ofString "__length_hint__") >>= _) _ _ _
 refine wpAny_bind (wpAny_specialOf (hT 0 _ hst₁) BM.map_no_hint ?_)
 refine wpAny_pure ?_
 show wpAny _ A.in1 (rule "list.extend.makes-room" >>= fun _=>Builtin.List.listTouch (.ref s.heap.objs.size) >>= fun _ =>
  again (.builtin "list.extend.loop" ⟨[.ref s.heap.objs.size,.ref I,.ref s.heap.objs.size],[]⟩)) _ _ _
 refine wpAny_bind (wpAny_rule ?_)
 have hS₁:(s.heap.push { cls:=.type "list", data:=.seq ([]:List Value).toArray }).get? s.heap.objs.size=some { cls:=.type "list", data:=.seq ([]:List Value).toArray }:=Heap.get?_push_size _ rfl
 refine wpAny_bind ?_
 show wpAny _ A.in1 (updateSeq s.heap.objs.size (·.push .none) >>= fun _=>updateSeq s.heap.objs.size (·.pop)) _ _ _
 refine wpAny_bind (wpAny_updateSeq hS₁ rfl ?_)
 have hS₂:=Heap.get?_update_self (Obj.mapSeq (·.push Value.none)) hS₁ rfl
 refine wpAny_updateSeq hS₂ rfl ?_
 have hS₃:=Heap.get?_update_self (Obj.mapSeq (·.pop)) hS₂ rfl
 have oth:∀ b o,b≠s.heap.objs.size→(s.heap.push { cls:=.type "list", data:=.seq ([]:List Value).toArray }).get? b=some o →
   (((s.heap.push { cls:=.type "list", data:=.seq ([]:List Value).toArray }).update s.heap.objs.size (Obj.mapSeq (·.push Value.none))).update s.heap.objs.size (Obj.mapSeq (·.pop))).get? b=some o :=
  fun b o hb e=>(Heap.get?_update_other _ _ (Ne.symm hb)).trans ((Heap.get?_update_other _ _ (Ne.symm hb)).trans e)
 refine wpAny_pure ⟨plainId_quiet F.plain_extend_loop _,codeAny_extend_loopS W hn _ hSf _ n 0 _ _ _ rfl (Nat.zero_le _)
  (W.frame 0 ({ s with heap:=s.heap.push { cls:=.type "list", data:=.seq ([]:List Value).toArray } }:Shared) _ s.toks hst₁ (Nat.le_refl _) fun b hb o e=>oth b o (fun h=>hSf (h▸hb)) e) hS₃ (ItemsOf.nil P) fun s' acc' c' hm hS' hacc=>?_⟩
 show wpAny _ A (load s.heap.objs.size >>= _) _ _ s'
 refine wpAny_bind (wpAny_load hS' ?_)
 refine wpAny_pure (hQ s' acc' (Moved.drop_new (o:={ cls:=.type "list", data:=.seq ([]:List Value).toArray }) (tk:=s.toks) (Moved.trans W.gtrans ((Moved.refl W.grefl).then_heap (by first | exact Nat.le_refl _ | exact Nat.le_succ _ | lia) fun b o hb e=>?_) hm) (Nat.le_refl _)) hacc)
 exact oth b o (fun h=>hb (by rw [h]; exact List.mem_cons_self)) e
end
section
variable {prog:Program} {w:World} {A:Around} {E:Value→Shared→Prop} {s:Shared} {I:Addr} {fp wr:List Addr} {G:Array GenState→Array GenState→Prop} {n:Nat} {P:Nat→Value→Prop} {St:Nat→Shared→Prop}
open PySem.AutoSeq1 (wpAny_loadPart')
theorem tupMapCode {Q₁:Value→Shared→Prop} (W:WalksS prog w A.in1.in1 I fp wr G n P St) (hT:∀ i s,St i s→s.TypeIs (.ref I) "map") (hst:St 0 s) (hfp:∀ b∈fp,b<s.heap.objs.size) (hI:I∈fp)
  (h:∀ s' acc,Moved wr G s s'→ItemsOf P acc n→Q₁ (.ref s'.heap.objs.size) { s' with heap:=s'.heap.push { cls:=.type "tuple", data:=.seq acc } }) (hsz:n≤sizeLine) :
  codeAny (model prog w) A (.call (.builtin "tuple.__new__") ⟨[.type "tuple", .ref I],[]⟩) (wants Q₁ E) s:=by
 refine codeAny_of_tree ?_
 show wpAny _ A.in1 (do checkBuiltinCall "tuple.__new__" ⟨[.type "tuple", .ref I],[]⟩; again (.builtin "tuple.__new__" ⟨[.type "tuple", .ref I],[]⟩)) _ _ s
 refine wpAny_bind (wpAny_of_eq (F.newCall_tuple_1 _) (wpAny_pure ⟨plainId_quiet F.plain_tuple_new _,codeAny_builtin F.entry_tuple_new ?_⟩))
 rw [Around.under_plainId F.plain_tuple_new _]
 have hsub:=sub_tuple_self
 have hinit:=init_tuple_lookup
 have hmh:=madeHere_tuple
 have hTI:=hT 0 s hst
 wp_walk using wpAny_typeOf hTI,collMap (hn:=hsz) W hT hst hfp hI
 intro s' acc hm hacc
 show wpAny _ _ (Builtin.Tuple.tupleExact acc.toList.toArray >>= fun v=>ret v) _ _ _
 unfold Builtin.Tuple.tupleExact
 refine wpAny_bind (wpAny_newObj_type ?_ (by show acc.toList.toArray.size≤sizeLine; simp -iota only [Array.toArray_toList]; rw [hacc.1]; exact hsz))
 refine wpAny_pure ?_
 have e:acc.toList.toArray=acc:=by simp
 rw [e]
 exact h s' acc hm hacc
theorem tupMap {Q:Value→Shared→Prop} (W:WalksS prog w A.in1.in1.in1 I fp wr G n P St) (hT:∀ i s,St i s→s.TypeIs (.ref I) "map") (hst:St 0 s) (hfp:∀ b∈fp,b<s.heap.objs.size) (hI:I∈fp)
  (hQ:∀ s' acc,Moved wr G s s'→ItemsOf P acc n→Q (.ref s'.heap.objs.size) { s' with heap:=s'.heap.push { cls:=.type "tuple", data:=.seq acc } }) (hsz:n≤sizeLine) :
  wpAny (model prog w) A (call (.type "tuple") [.ref I]) Q E s:=by
 refine callType_codes (Q₁:=fun obj s₁=>s₁.TypeIs obj "tuple" ∧ Q obj s₁) F.called_tuple (F.typeCall_tuple_1 _) F.entry_object_init
  (tupMapCode (hsz:=hsz) W hT hst hfp hI fun s' acc hm hacc=>⟨(w11 _ (Heap.get?_push_size _ rfl) rfl),hQ s' acc hm hacc⟩) fun obj s₁ h₁=>?_
 exact ⟨h₁.1,F.args_object_init_2 obj _,object_init_meets F.called_tuple.init.lookup F.called_tuple.made (by decide) prog w A.in1 _ s₁ ⟨h₁.1,rfl,h₁.2⟩⟩
end
section
variable {prog:Program} {w:World} {mg:Str→Option Value} {A:Around} {E:Value→Shared→Prop} {s:Shared}
theorem mapS {f:Value} {l:Addr} {xs:Array Value} {Q:Value→Shared→Prop} (hl:s.heap.IsList l xs)
  (h:∀ h' I TI m,Kp s.heap h'→s.heap.get? I=none→s.heap.get? TI=none→s.heap.get? m=none→I≠TI→I≠m→TI≠m→h'.IsListIter I l 0→h'.get? TI=some { cls:=.type "tuple", data:=.seq #[.ref I] }→IsMap h' m TI f →
   Q (.ref m) { s with heap:=h' }):wpAny (model prog w) A (call (.type "map") [f,.ref l]) Q E s :=
 callType_new BM.called_map (by decide) (BM.typeCall_map_2 _ _) (BM.newCall_map_2 _ _) (fun obj=>F.args_object_init_3 obj _ _) BM.entry_map_new
  (meets_map_new f l xs) ⟨hl,fun h' I TI m h1 h2 h3 h4 h5 h6 h7 h8 h9 h10=>⟨(w11 _ h10 rfl),h h' I TI m h1 h2 h3 h4 h5 h6 h7 h8 h9 h10⟩⟩
theorem tupMapFspath {f:Addr} {l:Addr} {vs:List Value} {xs:List (List Nat)} {Q:Value→Shared→Prop} (T:TK w mg s.heap) (hf:mg "fspath" = some (.ref f)) (R:Room A 8) (hl:s.heap.IsList l vs.toArray) (hv:StrsAre vs (xs.map S)) (hz:vs.length≤1000)
  (h:∀ h' tk a,Kp s.heap h'→h'.IsTuple a vs.toArray→Q (.ref a) { s with heap:=h',toks:=tk }) :
  wpAny (model prog w) A (call (.type "map") [.ref f,.ref l]) (fun v s₁=>wpAny (model prog w) A (call (.type "tuple") [v]) Q E s₁) E s:=by
 refine mapS hl fun h' I TI m k hI hTI hm hne1 hne2 hne3 hit hT hM=>?_
 refine u11 (id hl) fun o ho r=>?_
 have hlI:l≠I:=fun e=>by rw [e,hI] at ho; cases ho
 have R':Room A.in1.in1.in1.in1 4:=(((R.in1 (by decide:7+1≤8)).in1 (by decide:6+1≤7)).in1 (by decide:5+1≤6)).in1 (by decide)
 have W:=walksMap (prog:=prog) (w:=w) (A:=A.in1.in1.in1) R'.hh m TI I l vs.toArray (.ref f) (fun i v=>vs[i]?=some v) s.heap hne2.symm hne1.symm hlI hI (fun i x s' Q' E' hx kg hQ'=>by
  refine u21 (strs_get hv (by simpa using hx)) fun y t z0 _=>?_; subst z0
  refine wpAny_mono (fspath_spec (T.keeps kg) hf (R'.le (by decide)) (S y) t) (fun v s'' p=>?_) fun _ _ e=>e
  obtain ⟨rfl,h'',tk,rfl,k''⟩:=p
  exact hQ' _ h'' tk (by simpa using hx) k'')
 refine tupMap W.toS (fun i s' st=>(w11 _ st.1 rfl)) ⟨hM,hT,hit,isL_keeps hl k,k⟩ ?_ (by simp) (fun s' acc hm hacc=>?_) (by rw [List.size_toArray,sizeLine_eq]; exact q1 0x40000004003e810001aa 1 3 (by kernel_rfl) hz)
 ·intro b hb
  simp only [List.mem_cons,List.mem_filter,List.mem_range] at hb
  rcases hb with rfl | rfl | rfl | rfl | ⟨_,hb⟩
  ·exact Heap.lt_size hM
  ·exact Heap.lt_size hT
  ·obtain ⟨_,q,_⟩:=hit; exact Heap.lt_size q
  ·exact Heap.lt_size (k _ _ ho)
  ·cases e:s.heap.get? b with
   | none=>rw [e] at hb; cases hb
   | some q=>exact Heap.lt_size (k _ _ e)
 ·rw [Moved.eq_with hm]
  have e:acc=vs.toArray:=by
   apply Array.ext_getElem?
   intro i
   rcases Nat.lt_or_ge i acc.size with q | q
   ·have:=hacc.2 i acc[i] (Array.getElem?_eq_getElem q)
    rw [Array.getElem?_eq_getElem q,← this]
    simp
   ·rw [Array.getElem?_eq_none q,Array.getElem?_eq_none (by have:=hacc.1; exact q3 0x21003040004255000011a 1 13 (by kernel_rfl) q this)]
  subst e
  refine h _ s'.toks s'.heap.objs.size (fun b o e=>Heap.get?_push_of_some _ (hm.heap b o (fun q=>?_) (k b o e))) (w12 _ (Heap.get?_push_size _ rfl) rfl ⟨_,rfl⟩)
  rw [List.mem_singleton.mp q,hI] at e; cases e
end
namespace BF2
theorem entry_filter_iter:entryFor table "filter.__iter__" = some Builtin.«dict_keyiterator.__iter__» :=
 entryFor_alias (id' := "dict_keyiterator.__iter__") (by kernel_rfl) (by first | rfl | decide +kernel | (unfold String.splitOn; simp +decide [String.splitOnAux])) (by decide +kernel) (by kernel_rfl)
theorem mro_filter:mroOf (.type "filter")=pure [.type "filter", .type "object"]:=by rw [mroOf_type]; kernel_rfl
theorem lookup_filter_new:typeLookup (.type "filter") "__new__" = pure (some (.builtin "filter.__new__")):=by rw [typeLookup_type,builtinLookup_eq_fast]; kernel_rfl
theorem slot_filter_init:Slot "filter" "__init__" "object.__init__" :=
 .of (owner := "object") (n := "__init__") (by rw [typeLookup_type,builtinLookup_eq_fast]; kernel_rfl) (by decide +kernel) (by decide +kernel) (by decide +kernel)
  (by first | exact .inl (by decide +kernel) | exact .inr (by decide +kernel)) (by rw [isSubtype_type]; kernel_rfl)
theorem slot_filter_iter:Slot "filter" "__iter__" "filter.__iter__" :=
 .of (owner := "filter") (n := "__iter__") (by rw [typeLookup_type,builtinLookup_eq_fast]; kernel_rfl) (by decide +kernel) (by decide +kernel) (by decide +kernel)
  (by first | exact .inl (by decide +kernel) | exact .inr (by decide +kernel)) (by rw [isSubtype_type]; kernel_rfl)
theorem slot_filter_next:Slot "filter" "__next__" "filter.__next__" :=
 .of (owner := "filter") (n := "__next__") (by rw [typeLookup_type,builtinLookup_eq_fast]; kernel_rfl) (by decide +kernel) (by decide +kernel) (by decide +kernel)
  (by first | exact .inl (by decide +kernel) | exact .inr (by decide +kernel)) (by rw [isSubtype_type]; kernel_rfl)
theorem entry_filter_next:entryFor table "filter.__next__" = some Builtin.«filter.__next__»:=entryFor_of_tree (by kernel_rfl)
theorem entry_filter_new:entryFor table "filter.__new__" = some Builtin.«filter.__new__»:=entryFor_of_tree (by kernel_rfl)
theorem called_filter:TypeCalled "filter" "filter.__new__" "object.__init__" :=
 ⟨by decide +kernel,by decide +kernel,(w20 _ _ mro_filter),madeBy_type mro_filter lookup_filter_new (by decide +kernel),by decide +kernel,by rw [isSubtype_type]; kernel_rfl,slot_filter_init⟩
theorem typeCall_filter_2 (a b:Value):checkTypeCall "filter" ⟨[a,b],[]⟩=pure ():=by kernel_rfl
theorem newCall_filter_2 (a b:Value):checkBuiltinCall "filter.__new__" ⟨[.type "filter", a,b],[]⟩=pure ():=by kernel_rfl
theorem args_filter_next_1 (a:Value):argsOk "filter.__next__" ⟨[a],[]⟩:=by unfold argsOk; kernel_rfl
theorem args_filter_iter_1 (a:Value):argsOk "filter.__iter__" ⟨[a],[]⟩:=by unfold argsOk; kernel_rfl
theorem sub_filter:isSubtype (.type "filter") (.type "filter")=pure true:=by rw [isSubtype_type]; kernel_rfl
end BF2
noncomputable abbrev IsFilt (h:Heap) (m I:Addr) (f:Value):Prop:=h.get? m=some { cls:=.type "filter", dict:=none,data:=.fields #[f,.ref I],slots:=#[] }
set_option maxHeartbeats 1000000 in
theorem meets_filter_new (f:Value) (l:Addr) (xs:Array Value) :
  Meets (Builtin.«filter.__new__» ⟨[.type "filter", f,.ref l],[]⟩) (fun _ R s=>s.heap.IsTuple l xs ∧
   ∀ h' I m,Kp s.heap h'→s.heap.get? I=none→s.heap.get? m=none→I≠m→h'.IsTupleIter I l 0→IsFilt h' m I f →
    R (.ok (.ret (.ref m))) { s with heap:=h' }) :=
 .of_wp fun prog w A R s h=>by
  obtain ⟨hp,g,d,tk,os⟩:=s; obtain ⟨hl,h⟩:=h
  have hsub:=BF2.sub_filter
  have hL:Heap.IsTuple (Shared.heap ⟨hp,g,d,tk,os⟩) l xs:=hl
  wp_walk using wpAny_pyIter_tuple hL
  have z1:(hp.push { cls:=.type "tuple_iterator", data:=.fields #[.ref l,.int 0 0] }).objs.size=hp.objs.size+1:=Heap.size_push ..
  generalize hH1:hp.push { cls:=.type "tuple_iterator", data:=.fields #[.ref l,.int 0 0] }=H1 at z1 ⊢
  have k1:Kp hp H1:=fun b o e=>hH1▸Heap.get?_push_of_some _ e
  have nn:∀ n:Nat,hp.objs.size≤n→hp.get? n=none:=fun n hn=>Heap.get?_none_of_le hn
  refine (w11 _ rfl (h _ hp.objs.size H1.objs.size (fun b o e=>Heap.get?_push_of_some _ (k1 b o e)) (nn _ (Nat.le_refl _)) (nn _ (by rw [z1]; exact Nat.le_add_right _ _)) ?_ ?_ ?_))
  ·intro e; have e':@Eq Nat _ _:=e; exact q2 0x4c014846a3005200222a 1 10 (by kernel_rfl) z1 e'
  ·exact (w12 _ (Heap.get?_push_of_some _ (hH1▸Heap.get?_push_size _ rfl)) rfl rfl)
  ·exact Heap.get?_push_size _ rfl
section
variable {prog:Program} {w:World} {A:Around} {E:Value→Shared→Prop} {s:Shared}
theorem filtS {f:Value} {l:Addr} {xs:Array Value} {Q:Value→Shared→Prop} (hl:s.heap.IsTuple l xs)
  (h:∀ h' I m,Kp s.heap h'→s.heap.get? I=none→s.heap.get? m=none→I≠m→h'.IsTupleIter I l 0→IsFilt h' m I f→Q (.ref m) { s with heap:=h' }) :
  wpAny (model prog w) A (call (.type "filter") [f,.ref l]) Q E s :=
 callType_new BF2.called_filter (by decide) (BF2.typeCall_filter_2 _ _) (BF2.newCall_filter_2 _ _) (fun obj=>F.args_object_init_3 obj _ _) BF2.entry_filter_new
  (meets_filter_new f l xs) ⟨hl,fun h' I m h1 h2 h3 h4 h5 h6=>⟨(w11 _ h6 rfl),h h' I m h1 h2 h3 h4 h5 h6⟩⟩
end
section
variable {prog:Program} {w:World} {A:Around} {E:Value→Shared→Prop} {s:Shared}
theorem tupNextItem {it t:Addr} {i:Nat} {items} {x:Value} {Q:Option Value→Shared→Prop} (hit:s.heap.IsTupleIter it t i)
  (ht:s.heap.IsTuple t items) (hx:items[i]?=some x) (hQ:∀ h',h'.IsTupleIter it t (i+1)→Heap.SameBut it s.heap h'→Q (some x) { s with heap:=h' }) :
  wpAny (model prog w) A (callSpecial? (.ref it) (Str.ofString "__next__")) Q E s:=by
 refine u12 (id hit) fun o ho hc hd=>?_
 refine u12 ht fun ol hol _ z0=>?_; clear ht; obtain ⟨nl,hdl⟩:=z0
 refine wpAny_callSpecial?_slot (name:=Str.ofString "__next__") hit.typeIs F.slot_tuple_iterator_next
  (wpAny_call_entry F.slot_tuple_iterator_next hit.typeIs F.entry_tuple_iterator_next ?_ (F.args_tuple_iterator_next_1 _))
 show wpAny _ _ (field (.ref it) 0 >>= _) _ _ s
 refine wpAny_bind (wpAny_field ho hd (x:=.ref t) rfl ?_)
 show wpAny _ _ (if (Value.ref t == Value.none)=true then _ else _) _ _ s
 rw [if_neg (show ¬ ((Value.ref t == Value.none)=true) from Bool.false_ne_true)]
 show wpAny _ _ (field (.ref it) 1 >>= _) _ _ s
 refine wpAny_bind (wpAny_field ho hd (x:=.int i 0) rfl ?_)
 show wpAny _ _ (seqItems? (.ref t) >>= _) _ _ s
 refine wpAny_bind (wpAny_seqItems hol hdl ?_)
 simp only [Int.toNat_natCast,hx]
 refine wpAny_bind (wpAny_setField ho hd (by simp) (wpAny_pure (w11 x rfl (hQ _ ?_ (Heap.SameBut.update ..)))))
 exact (w12 _ (Heap.get?_update_self _ ho (Obj.isFreed_of_fields (Obj.data_mapFields hd _))) ((Obj.cls_mapFields ..).trans hc) (by
  rw [Obj.data_mapFields hd]; simp [rawInt]))
theorem tupNextEnd {it t:Addr} {i:Nat} {items} {Q:Option Value→Shared→Prop} (hh:A.handled=none) (hit:s.heap.IsTupleIter it t i) (ht:s.heap.IsTuple t items) (hx:items[i]?=none)
  (hE:∀ h' e,Heap.ExtBut it s.heap h'→(∃ o,h'.get? e=some o∧o.cls=.type "StopIteration")→E (.ref e) { s with heap:=h' }) :
  wpAny (model prog w) A (callSpecial? (.ref it) (Str.ofString "__next__")) Q E s:=by
 refine u12 (id hit) fun o ho hc hd=>?_
 refine u12 ht fun ol hol _ z0=>?_; clear ht; obtain ⟨nl,hdl⟩:=z0
 refine wpAny_callSpecial?_slot (name:=Str.ofString "__next__") hit.typeIs F.slot_tuple_iterator_next
  (wpAny_call_entry F.slot_tuple_iterator_next hit.typeIs F.entry_tuple_iterator_next ?_ (F.args_tuple_iterator_next_1 _))
 show wpAny _ _ (field (.ref it) 0 >>= _) _ _ s
 refine wpAny_bind (wpAny_field ho hd (x:=.ref t) rfl ?_)
 show wpAny _ _ (if (Value.ref t == Value.none)=true then _ else _) _ _ s
 rw [if_neg (show ¬ ((Value.ref t == Value.none)=true) from Bool.false_ne_true)]
 show wpAny _ _ (field (.ref it) 1 >>= _) _ _ s
 refine wpAny_bind (wpAny_field ho hd (x:=.int i 0) rfl ?_)
 show wpAny _ _ (seqItems? (.ref t) >>= _) _ _ s
 refine wpAny_bind (wpAny_seqItems hol hdl ?_)
 simp only [Int.toNat_natCast,hx]
 refine wpAny_bind (wpAny_rule (wpAny_bind (wpAny_setField ho hd (by simp) ?_)))
 show wpAny _ _ (newExc (.type "StopIteration") [] >>= _) _ _ _
 refine wpAny_bind ?_
 simp -iota only [newExc,newTuple]
 refine wpAny_bind (wpAny_newObj_type ?_ (by size_fits))
 refine wpAny_bind (m:=firstArgMember _ _) (wpAny_of_eq (a:=Value.none) (by rfl) ?_)
 refine wpAny_newObj_type ?_ (by size_fits)
 refine wpAny_raiseNew_none hh ?_
 exact hE _ _ (((Heap.SameBut.update ..).extBut.push _).push _) (w11 _ (Heap.get?_push_size _ rfl) rfl)
end
section
variable {prog:Program} {w:World} {A:Around} {E:Value→Shared→Prop} {s:Shared}
theorem filtCode {m I l:Addr} {vs:List Value} {xs:List (List Nat)} {R:Result→Shared→Prop} (hh:A.handled=none) (hv:StrsAre vs (xs.map S)) (hx:∀ x∈xs,x.length≤1000) (hmI:m≠I) (hlI:l≠I) :
  ∀ (k i:Nat) (s:Shared),vs.length-i=k→IsFilt s.heap m I (.builtin "len")→s.heap.IsTupleIter I l i→s.heap.IsTuple l vs.toArray →
  (∀ j x t h' tk,i≤j→xs[j]?=some x→vs[j]?=some (.str (S x) t)→x≠[]→(∀ j',i≤j'→j'<j→xs[j']?=some [])→h'.IsTupleIter I l (j+1)→(∀ b o,b≠I→s.heap.get? b=some o→h'.get? b=some o)→R (.ok (.ret (.str (S x) t))) { s with heap:=h',toks:=tk }) →
  (∀ h' tk e,(∀ j',i≤j'→j'<xs.length→xs[j']?=some [])→(∀ b o,b≠I→s.heap.get? b=some o→h'.get? b=some o)→(∃ o,h'.get? e=some o∧o.cls=.type "StopIteration")→R (.error (.ref e)) { s with heap:=h',toks:=tk }) →
  wpAny (model prog w) A.in1 (Builtin.«filter.__next__» ⟨[.ref m],[]⟩) (fun fin s'=>match fin with | .done f=>R (.ok f) s' | .again c'=>c'.quiet=true∧codeAny (model prog w) A c' R s') (fun e s'=>R (.error e) s') s:=by
 intro k
 induction k with
 | zero =>
  intro i s hk hm hit hl hf hn
  have lv:vs.length=xs.length:=by rw [strsAre_len hv,List.length_map]
  show wpAny _ A.in1 (field (.ref m) 0 >>= _) _ _ _
  refine wpAny_bind (wpAny_field hm rfl (x:=.builtin "len") rfl ?_)
  show wpAny _ A.in1 (field (.ref m) 1 >>= _) _ _ _
  refine wpAny_bind (wpAny_field hm rfl (x:=.ref I) rfl ?_)
  refine wpAny_bind (tupNextEnd hh hit hl (by simp; exact q2 0x4000300031121ea 1 201 (by kernel_rfl) hk) fun h' e he ho=>?_)
  exact hn h' _ e (fun j' h1 h2=>by (exfalso; exact q4 0x4c180308c561005017a800084ab00031121ea 1 14961 (by kernel_rfl) hk lv h1 h2)) he ho
 | succ k ih =>
  intro i s hk hm hit hl hf hn
  have lv:vs.length=xs.length:=by rw [strsAre_len hv,List.length_map]
  have hi:i<vs.length:=by exact q3 0x100518c00c5000311234a 1 42 (by kernel_rfl) hk
  refine u21 (strs_get hv (List.getElem?_eq_getElem hi)) fun x t e hxi=>?_
  have hxl:=hx x (List.mem_of_getElem? hxi)
  show wpAny _ A.in1 (field (.ref m) 0 >>= _) _ _ _
  refine wpAny_bind (wpAny_field hm rfl (x:=.builtin "len") rfl ?_)
  show wpAny _ A.in1 (field (.ref m) 1 >>= _) _ _ _
  refine wpAny_bind (wpAny_field hm rfl (x:=.ref I) rfl ?_)
  refine wpAny_bind (tupNextItem hit hl (x:=.str (S x) t) (by rw [← e]; simp [hi]) fun h' hit' hs=>?_)
  dsimp only
  have oth:∀ b o,b≠I→s.heap.get? b=some o→h'.get? b=some o:=fun b o hb e=>hs.extBut b o hb e
  refine wpAny_bind (wpAny_holding ?_)
  rw [if_neg (by decide)]
  refine wpAny_bind (lenS (by walk_at "li") fun t₁ k₁=>?_)
  refine wpAny_holding (P.truthy_int ?_)
  by_cases h0:x=[]
  ·subst h0
   rw [show (((([]:List Nat).length:Int) != 0))=false from rfl,if_neg Bool.false_ne_true]
   refine wpAny_pure ⟨plainId_quiet BF2.slot_filter_next.plain _,codeAny_builtin BF2.entry_filter_next ?_⟩
   rw [Around.under_plainId BF2.slot_filter_next.plain _]
   refine ih (i+1) _ (by exact q3 0x82300520032228c00c5000311234a 1 0x150544274a (by kernel_rfl) hk) (hs.extBut _ _ hmI hm) hit' (hl.extBut hs.extBut hlI) (fun j y u h'' tk hj hy hu hne hall hit'' hk=>?_) (fun h'' tk e' hall hk he=>?_)
   ·refine hf j y u h'' tk (by exact q2 0x400021100211022a 1 3 (by kernel_rfl) hj) hy hu hne (fun j' a b=>?_) hit'' fun b o hb q=>hk b o hb (oth b o hb q)
    rcases Nat.lt_or_ge i j' with q | q
    ·exact hall j' q b
    ·have:j'=i:=by exact q2 0x4014a00a0235000011a 1 53 (by kernel_rfl) a q
     subst this; exact hxi
   ·refine hn h'' tk e' (fun j' a b=>?_) (fun b o hb q=>hk b o hb (oth b o hb q)) he
    rcases Nat.lt_or_ge i j' with q | q
    ·exact hall j' q b
    ·have:j'=i:=by exact q2 0x4014a00a0235000011a 1 53 (by kernel_rfl) a q
     subst this; exact hxi
  ·have hpos:((x.length:Int) != 0)=true:=by
    cases x with
    | nil=>exact absurd rfl h0
    | cons a r=>simp; exact q1 0x310021158 1 1 (by kernel_rfl)
   rw [hpos,if_pos rfl]
   refine wpAny_pure ?_
   exact hf i x t h' _ (Nat.le_refl _) hxi (by rw [List.getElem?_eq_getElem hi,e]) h0 (fun j' a b=>by (exfalso; exact q2 0x2600a2235000011a 1 3 (by kernel_rfl) a b)) hit' oth
theorem filtCall {m I l:Addr} {vs:List Value} {xs:List (List Nat)} {Q:Value→Shared→Prop} (hh:A.handled=none) (hv:StrsAre vs (xs.map S)) (hx:∀ x∈xs,x.length≤1000) (hmI:m≠I) (hlI:l≠I) {i:Nat}
  (hm:IsFilt s.heap m I (.builtin "len")) (hit:s.heap.IsTupleIter I l i) (hl:s.heap.IsTuple l vs.toArray)
  (hf:∀ j x t h' tk,i≤j→xs[j]?=some x→vs[j]?=some (.str (S x) t)→x≠[]→(∀ j',i≤j'→j'<j→xs[j']?=some [])→h'.IsTupleIter I l (j+1)→(∀ b o,b≠I→s.heap.get? b=some o→h'.get? b=some o)→Q (.str (S x) t) { s with heap:=h',toks:=tk })
  (hn:∀ h' tk e,(∀ j',i≤j'→j'<xs.length→xs[j']?=some [])→(∀ b o,b≠I→s.heap.get? b=some o→h'.get? b=some o)→(∃ o,h'.get? e=some o∧o.cls=.type "StopIteration")→E (.ref e) { s with heap:=h',toks:=tk }) :
  wpAny (model prog w) A (call (.builtin "filter.__next__") [.ref m]) Q E s:=by
 have hT:s.TypeIs (.ref m) "filter" := (w11 _ hm rfl)
 refine wpAny_call (codeAny_call_builtin BF2.slot_filter_next.plain BF2.entry_filter_next (BF2.slot_filter_next.check _ _ _ _ _ _ _ _ hT (BF2.args_filter_next_1 _) ?_))
 exact filtCode (R:=fun r s'=>match r with | .ok (.ret v)=>Q v s' | .ok _=>False | .error e=>E e s') hh hv hx hmI hlI _ i s rfl hm hit hl hf hn
noncomputable abbrev full (x:List Nat):Bool:=decide (x≠[])
theorem filt_skip {xs:List (List Nat)} {k:Nat}:∀ {j:Nat},k≤j→j≤xs.length→(∀ j',k≤j'→j'<j→xs[j']?=some [])→(xs.take j).filter full=(xs.take k).filter full:=by
 intro j hkj
 obtain ⟨d,rfl⟩:=Nat.exists_eq_add_of_le hkj
 clear hkj
 induction d with
 | zero=>intro _ _; rfl
 | succ d ih =>
  intro hj h
  have e:=h (k+d) (by exact q2 268443648 1 1 (by kernel_rfl)) (by exact q2 0x4600a40050002111 1 1 (by kernel_rfl))
  rw [← Nat.add_assoc,take_snoc e,List.filter_append,ih (by exact q3 0x410002110823005200222034a 1 3 (by kernel_rfl) hj) fun j' a b=>h j' a (by exact q3 0x4600628029000c1005200123a 1 3 (by kernel_rfl) b)]
  simp
theorem walksFilt {prog:Program} {w:World} {A:Around} {m I l:Addr} {vs:List Value} {xs:List (List Nat)} (hh:A.handled=none) (hv:StrsAre vs (xs.map S)) (hx:∀ x∈xs,x.length≤1000) (hmI:m≠I) (hlI:l≠I) :
  Walks prog w A m [m,I,l] [I] (xs.filter full).length (fun i v=>∃ x t,v=.str (S x) t∧(xs.filter full)[i]?=some x)
   (fun i h=>IsFilt h m I (.builtin "len")∧h.IsTuple l vs.toArray∧∃ k,h.IsTupleIter I l k∧k≤xs.length∧((xs.take k).filter full).length=i):=by
 have hT:∀ (s:Shared),IsFilt s.heap m I (.builtin "len")→s.TypeIs (.ref m) "filter" := fun s hm=>(w11 _ hm rfl)
 have lv:vs.length=xs.length:=by rw [strsAre_len hv,List.length_map]
 refine { sub:=fun b hb=>by rw [List.mem_singleton.mp hb]; simp,frame:=?_,item:=?_,done:=?_,self:=?_ }
 ·intro i h h' y0; refine u02 y0 fun hm hl z0=>?_; clear y0; refine u12 z0 fun k hit hk1 hk2=>?_; clear z0; intro hk
  exact ⟨hk _ (by simp) _ hm,hl.at fun o e=>hk _ (by simp) o e,k,hit.at fun o e=>hk _ (by simp) o e,hk1,hk2⟩
 ·intro i s Q E hi y0; refine u02 y0 fun hm hl z0=>?_; clear y0; refine u12 z0 fun k hit hk1 hk2=>?_; clear z0; intro hQ
  unfold pyNext
  refine wpAny_bind (wpAny_attempt (wpAny_callSpecial?_slot (name:=Str.ofString "__next__") (hT s hm) BF2.slot_filter_next
   (filtCall hh hv hx hmI hlI hm hit hl (fun j x t h' tk hj hy hu hne hall hit' hk=>?_) (fun h' tk e hall _ _=>?_))))
  ·have hjl:j<xs.length:=(List.getElem?_eq_some_iff.mp hy).1
   have e1:=filt_skip (xs:=xs) hj (by exact q2 0x20001000111a 1 3 (by kernel_rfl) hjl) hall
   have e2:(xs.take (j+1)).filter full=(xs.take k).filter full++[x]:=by
    rw [take_snoc hy,List.filter_append,e1]
    simp [hne]
   have e3:(xs.filter full)[i]?=some x:=by
    conv=>lhs; rw [← List.take_append_drop (j+1) xs]
    rw [List.filter_append,e2,List.append_assoc,List.getElem?_append_right (by exact q2 0x20001000211a 1 5 (by kernel_rfl) hk2),hk2,Nat.sub_self]
    rfl
   exact wpAny_pure (hQ _ h' tk (w21 x t rfl e3) ⟨hk _ _ hmI hm,hl.at fun o e=>hk _ o hlI e,j+1,hit',by exact q2 0x422004221000111a 1 3 (by kernel_rfl) hjl,by rw [e2,List.length_append,hk2]; rfl⟩ fun b o hb e=>hk b o (fun q=>hb (by simp [q])) e)
  ·have e1:=filt_skip (xs:=xs) hk1 (Nat.le_refl _) hall
   rw [List.take_length] at e1
   rw [e1,hk2] at hi
   (exfalso; exact q1 77850 1 1 (by kernel_rfl) hi)
 ·intro s Q E y0; refine u02 y0 fun hm hl z0=>?_; clear y0; refine u12 z0 fun k hit hk1 hk2=>?_; clear z0; intro hQ
  unfold pyNext
  refine wpAny_bind (wpAny_attempt (wpAny_callSpecial?_slot (name:=Str.ofString "__next__") (hT s hm) BF2.slot_filter_next
   (filtCall hh hv hx hmI hlI hm hit hl (fun j x t h' tk hj hy hu hne hall hit' hk=>?_) (fun h' tk e hall hk he=>?_))))
  ·exfalso
   have hjl:j<xs.length:=(List.getElem?_eq_some_iff.mp hy).1
   have e1:=filt_skip (xs:=xs) hj (by exact q2 0x20001000111a 1 3 (by kernel_rfl) hjl) hall
   have e2:(xs.take (j+1)).filter full=(xs.take k).filter full++[x]:=by
    rw [take_snoc hy,List.filter_append,e1]
    simp [hne]
   have e3:(xs.filter full).length=((xs.take (j+1)).filter full).length+((xs.drop (j+1)).filter full).length:=by
    conv=>lhs; rw [← List.take_append_drop (j+1) xs]
    rw [List.filter_append,List.length_append]
   rw [e2,List.length_append,hk2,List.length_singleton] at e3
   exact q2 0x26110021120022ea 1 2 (by kernel_rfl) e3
  ·refine u11 he fun o ho hc=>?_; clear he
   refine wpAny_bind (wpAny_isInstance (T := "StopIteration") (b:=true) (w11 o ho hc) isSubtype_stop ?_)
   exact wpAny_pure (hQ h' tk fun b o hb e=>hk b o (fun q=>hb (by simp [q])) e)
 ·rintro i s Q E ⟨hm,_⟩ hQ
  refine wpAny_pyIter_slot (hT s hm) BF2.slot_filter_iter (wpAny_call_entry BF2.slot_filter_iter (hT s hm) BF2.entry_filter_iter ?_ (BF2.args_filter_iter_1 _))
  show wpAny _ _ (ret (.ref m)) _ _ s
  exact wpAny_pure (w11 _ rfl ⟨"filter", _,hT s hm,BF2.slot_filter_next.lookup,hQ⟩)
end
noncomputable def sw (a b c:Nat):Nat:=if c=a then b else c
noncomputable def subst (c:Nat):Nat:=if c=32 then 95 else if c∈badL then 45 else c
noncomputable def cl2:Bool→List Nat→List Nat
 | _,[]=>[]
 | o,c::r=>if c=45 then cl2 true r else (if o then [45] else [])++c::cl2 false r
theorem cl2_c {o:Bool} {c:Nat} {r:List Nat}:cl2 o (c::r)=if c=45 then cl2 true r else (if o then [45] else [])++c::cl2 false r:=rfl
theorem replN_one (a b:Nat):∀ l:List Nat,replN [a] [b] 0 l=l.map (sw a b)
 | []=>rfl
 | c::r=>by
  have ih:=replN_one a b r
  rw [replN_c,List.map_cons,← ih]
  by_cases e:c=a
  ·subst e
   rw [if_pos (by simp [List.isPrefixOf])]
   simp [sw]
  ·rw [if_neg (by simp [List.isPrefixOf]; exact fun q=>e q.symm)]
   simp [sw,e]
theorem sw_all (c:Nat):sw 41 45 (sw 40 45 (sw 34 45 (sw 59 45 (sw 58 45 (sw 92 45 (sw 47 45 (sw 32 95 c)))))))=subst c:=by
 unfold sw subst
 simp only [List.mem_cons,List.not_mem_nil,or_false]
 by_cases h1:c=32
 ·subst h1; rfl
 by_cases h2:c=47
 ·subst h2; rfl
 by_cases h3:c=92
 ·subst h3; rfl
 by_cases h4:c=58
 ·subst h4; rfl
 by_cases h5:c=59
 ·subst h5; rfl
 by_cases h6:c=34
 ·subst h6; rfl
 by_cases h7:c=40
 ·subst h7; rfl
 by_cases h8:c=41
 ·subst h8; rfl
 by_cases h9:c=45
 ·subst h9; rfl
 simp [h1,h2,h3,h4,h5,h6,h7,h8,h9]
theorem map_sw (l:List Nat):((((((((l.map (sw 32 95)).map (sw 47 45)).map (sw 92 45)).map (sw 58 45)).map (sw 59 45)).map (sw 34 45)).map (sw 40 45)).map (sw 41 45))=l.map subst:=by
 simp only [List.map_map]
 exact List.map_congr_left fun c _=>sw_all c
theorem unk_facts:∀ a∈unk,a≠95∧a≠45∧a≠32∧a∉badL:=by unfold unk; decide
set_option tactic.hygienic true in
theorem subst_unk {a:Nat} (ha:a∈unk) (c:Nat):subst c=a↔c=a:=by
 refine u03 (unk_facts a ha) fun h1 h2 h3 h4=>?_
 unfold subst
 split
 ·rename_i h; subst h
  exact ⟨fun e=>absurd e.symm h1,fun e=>absurd e.symm h3⟩
 ·split
  ·rename_i h
   exact ⟨fun e=>absurd e.symm h2,fun e=>absurd (e▸h) h4⟩
  ·exact Iff.rfl
theorem pre_subst:∀ (u:List Nat),(∀ a∈u,a∈unk)→∀ l:List Nat,u.isPrefixOf (l.map subst)=u.isPrefixOf l
 | [],_,l=>by simp [List.isPrefixOf]
 | a::u,h,[]=>rfl
 | a::u,h,c::r=>by
  have ih:=pre_subst u (fun b hb=>h b (List.mem_cons_of_mem _ hb)) r
  rw [List.map_cons]
  simp only [List.isPrefixOf]
  rw [ih]
  congr 1
  have:=subst_unk (h a (List.mem_cons_self ..)) c
  rw [Bool.eq_iff_iff,beq_iff_eq,beq_iff_eq]
  exact ⟨fun e=>(this.mp e.symm).symm,fun e=>(this.mpr e.symm).symm⟩
theorem kept_cl2:∀ (n:Nat) (o:Bool) (l:List Nat),l.length≤n→keptN 0 o l=cl2 o (replN unk [] 0 (l.map subst)):=by
 intro n
 induction n with
 | zero=>intro o l h; rw [List.length_eq_zero_iff.mp (Nat.le_zero.mp h)]; rfl
 | succ n ih =>
  intro o l h
  cases l with
  | nil=>rfl
  | cons c r =>
   have hr:r.length≤n:=by simpa using h
   have hp:=pre_subst unk (fun _ h=>h) (c::r)
   rw [List.map_cons] at hp
   rw [keptN_c,List.map_cons,replN_c,hp]
   by_cases e:unk.isPrefixOf (c::r)=true
   ·rw [if_pos e,if_pos e,keptN_skip,replN_skip,List.nil_append]
    show keptN 0 o (r.drop 6)=cl2 o (replN unk [] 0 ((r.map subst).drop 6))
    rw [← List.map_drop]
    exact ih o _ (by rw [List.length_drop]; exact q2 0x10c2006261000011a 1 19 (by kernel_rfl) hr)
   ·rw [if_neg e,if_neg e]
    by_cases hb:c∈badL
    ·have hs:subst c=45:=by
      unfold subst
      rw [if_neg (fun q=>by rw [q] at hb; exact absurd hb (by decide)),if_pos hb]
     rw [if_pos hb,hs,cl2_c,if_pos rfl]
     exact ih true r hr
    ·have hs:subst c=if c=32 then 95 else c:=by
      unfold subst
      rw [if_neg hb]
     have hn:subst c≠45:=by
      rw [hs]
      split
      ·decide
      ·intro q; rw [q] at hb; exact hb (by decide)
     rw [if_neg hb,cl2_c,if_neg hn,ih false r hr,hs]
     simp
noncomputable abbrev dd (p:List Nat):List Nat:=replN [45,45] [45] 0 p
theorem dd_pre {c:Nat} {r:List Nat} (h:List.isPrefixOf [45,45] (c::r)=true):∃ t,c=45∧r=45::t:=by
 cases r with
 | nil=>simp [List.isPrefixOf] at h
 | cons d t =>
  simp only [List.isPrefixOf,Bool.and_eq_true,beq_iff_eq] at h
  exact (w11 t h.1.symm (by rw [h.2.1]))
theorem cl2_dd:∀ (n:Nat) (o:Bool) (p:List Nat),p.length≤n→cl2 o (dd p)=cl2 o p:=by
 intro n
 induction n with
 | zero=>intro o l h; rw [List.length_eq_zero_iff.mp (Nat.le_zero.mp h)]; rfl
 | succ n ih =>
  intro o l h
  cases l with
  | nil=>rfl
  | cons c r =>
   have hr:r.length≤n:=by simpa using h
   show cl2 o (replN _ _ 0 (c::r))=_
   rw [replN_c]
   by_cases e:List.isPrefixOf [45,45] (c::r)=true
   ·rw [if_pos e]
    refine u11 (dd_pre e) fun t z0 z1=>?_; subst z0; subst z1
    show cl2 o (45::dd t)=_
    rw [cl2_c,if_pos rfl,cl2_c,if_pos rfl,cl2_c,if_pos rfl]
    exact ih true t (by simp at hr; exact q2 0x400021100211022a 1 3 (by kernel_rfl) hr)
   ·rw [if_neg e,cl2_c,cl2_c]
    have h1:=ih true r hr
    have h2:=ih false r hr
    unfold dd at h1 h2
    rw [h1,h2]
theorem dd_len:∀ (n:Nat) (p:List Nat),p.length≤n→dd p=p∨(dd p).length<p.length:=by
 intro n
 induction n with
 | zero=>intro l h; rw [List.length_eq_zero_iff.mp (Nat.le_zero.mp h)]; exact .inl rfl
 | succ n ih =>
  intro l h
  cases l with
  | nil=>exact .inl rfl
  | cons c r =>
   have hr:r.length≤n:=by simpa using h
   show replN _ _ 0 (c::r)=_∨(replN _ _ 0 (c::r)).length<_
   rw [replN_c]
   by_cases e:List.isPrefixOf [45,45] (c::r)=true
   ·rw [if_pos e]
    refine u11 (dd_pre e) fun t z0 z1=>?_; subst z0; subst z1
    right
    show (45::dd t).length<_
    rcases ih t (by simp at hr; exact q2 0x400021100211022a 1 3 (by kernel_rfl) hr) with q | q
    ·rw [q]; simp
    ·simp only [List.length_cons]; exact q2 0x118c014858a2004223000111a 1 3 (by kernel_rfl) q
   ·rw [if_neg e]
    rcases ih r hr with q | q
    ·left; unfold dd at q; rw [q]
    ·right; unfold dd at q; simp only [List.length_cons]; exact q2 0x8c014a2004223000111a 1 3 (by kernel_rfl) q
theorem dd_tail {c:Nat} {r:List Nat} (h:dd (c::r)=c::r):List.isPrefixOf [45,45] (c::r)=false∧dd r=r:=by
 have h':replN [45,45] [45] 0 (c::r)=c::r:=h
 rw [replN_c] at h'
 by_cases e:List.isPrefixOf [45,45] (c::r)=true
 ·rw [if_pos e] at h'
  refine u11 (dd_pre e) fun t z0 z1=>?_; subst z0; subst z1
  have h2:45::dd t=45::45::t:=h'
  have h3:=congrArg List.length h2
  rcases dd_len _ t (Nat.le_refl _) with q | q
  ·rw [q] at h3; simp at h3
  ·simp only [List.length_cons] at h3; (exfalso; exact q2 0x13000111a8c600a42c5100211244a 1 6 (by kernel_rfl) h3 q)
 ·rw [if_neg e] at h'
  injection h' with _ h'
  exact ⟨Bool.eq_false_iff.mpr e,h'⟩
theorem dropR_cons (p:Nat→Bool) (c:Nat) (r:List Nat):dropR p (c::r)=if dropR p r=[]∧p c=true then [] else c::dropR p r:=by
 unfold dropR
 rw [List.reverse_cons,List.dropWhile_append]
 cases e:List.dropWhile p r.reverse with
 | nil =>
  simp only [List.isEmpty_nil,if_true,List.reverse_nil,true_and]
  cases q:p c with
  | true=>simp [List.dropWhile,q]
  | false=>simp [List.dropWhile,q]
 | cons a t=>simp
theorem dropR_nd:∀ p:List Nat,dd p=p→dropR (· == 45) p=cl2 false p
 | [],_=>rfl
 | [c],_=>by
  rw [dropR_cons]
  show (if ([]:List Nat)=[]∧(c == 45)=true then [] else c::[])=_
  rw [cl2_c]
  by_cases e:c=45
  ·subst e; rfl
  ·rw [if_neg (fun h=>e (by simpa using h.2)),if_neg e]; rfl
 | c::d::t,h=>by
  obtain ⟨h1,h2⟩:=dd_tail h
  have ih:=dropR_nd (d::t) h2
  have e1:cl2 false (c::d::t)=if c=45 then cl2 true (d::t) else c::cl2 false (d::t):=rfl
  rw [dropR_cons,ih,e1]
  by_cases e:c=45
  ·subst e
   have hd:d≠45:=fun q=>by subst q; simp [List.isPrefixOf] at h1
   have e2:cl2 true (d::t)=45::d::cl2 false t:=by rw [cl2_c,if_neg hd]; rfl
   have e3:cl2 false (d::t)=d::cl2 false t:=by rw [cl2_c,if_neg hd]; rfl
   rw [if_pos rfl,e2,e3]
   simp
  ·rw [if_neg (fun h=>e (by simpa using h.2)),if_neg e]
theorem fold_signs:∀ (xs:Txts) (a:List Nat),(xs.foldl stepS (a,true)).1=a++(((xs.filter fun x=>decide (x≠[])).map stripT).map fun y=>45::y).flatten
 | [],a=>by simp
 | x::r,a=>by
  rw [List.foldl_cons,List.filter_cons]
  by_cases e:x=[]
  ·subst e
   rw [show stepS (a,true) []=(a,true) from rfl,fold_signs r a]
   simp
  ·rw [stepS,if_neg e,fold_signs r,if_pos (decide_eq_true e)]
   simp
theorem joinL_flat (c:Nat):∀ (y:List Nat) (r:Txts),joinL [c] (y::r)=y++(r.map fun y=>c::y).flatten
 | y,[]=>by simp [joinL_n,joinL_1,joinL_c]
 | y,z::r=>by
  show y++[c]++joinL [c] (z::r)=_
  rw [joinL_flat c z r]
  simp
theorem signs_join:∀ xs:Txts,signsN xs=joinL [45] ((xs.filter fun x=>decide (x≠[])).map stripT)
 | []=>rfl
 | x::r=>by
  unfold signsN
  rw [List.foldl_cons,List.filter_cons]
  by_cases e:x=[]
  ·subst e
   rw [show stepS ([],false) []=([],false) from rfl]
   have:=signs_join r
   unfold signsN at this
   rw [this]
   simp
  ·rw [stepS,if_neg e,if_pos (decide_eq_true e),List.map_cons,joinL_flat,fold_signs]
   simp
theorem safe_of {xs:Txts} {q:List Nat} (h1:dd q=q) (h2:cl2 false q=cl2 false (replN unk [] 0 ((joinL [45] ((xs.filter fun x=>decide (x≠[])).map stripT)).map subst))):dropR (· == 45) q=safeN xs:=by
 rw [dropR_nd q h1,h2,safeN,signs_join,kept_cl2 _ _ _ (Nat.le_refl _)]
theorem dropWhile_congr {p q:Nat→Bool}:∀ {l:List Nat},(∀ c∈l,p c=q c)→l.dropWhile p=l.dropWhile q
 | [],_=>rfl
 | c::r,h=>by
  rw [List.dropWhile_cons,List.dropWhile_cons,h c (List.mem_cons_self ..),dropWhile_congr fun d hd=>h d (List.mem_cons_of_mem _ hd)]
theorem strip_eq {x:List Nat} (h:∀ c∈x,Unicode.isSpace c=bl c):dropR Unicode.isSpace (x.dropWhile Unicode.isSpace)=stripT x:=by
 unfold stripT
 rw [dropWhile_congr h]
 unfold dropR
 rw [dropWhile_congr fun c hc=>h c ((List.dropWhile_sublist _).mem (List.mem_reverse.mp hc))]
noncomputable def CT (h:Heap) (c P:Addr) (ps:Array Value):Prop:=h.IsCode c P ps∧h.TableAt c P ps
theorem CT.keeps {h h':Heap} {c P:Addr} {ps:Array Value} (x:CT h c P ps) (k:∀ b o,h.get? b=some o→h'.get? b=some o):CT h' c P ps:=⟨x.1.keeps k,x.2.keeps k⟩
structure Mv (c P:Addr) (s s':Shared):Prop where
 heap:∀ b o,b≠P→s.heap.get? b=some o→s'.heap.get? b=some o
 code:∃ ps,CT s'.heap c P ps
 gens:AllBare s.gens→AllBare s'.gens
 drawn:s'.drawn=s.drawn
 os:s'.os=s.os
noncomputable def CodeOf (h:Heap) (a c:Addr):Prop:=∃ o fd,h.get? a=some o∧o.data=.func fd∧fd.code=.ref c
theorem CodeOf.keeps {h h':Heap} {a c:Addr} (x:CodeOf h a c) (k:Kp h h'):CodeOf h' a c:=u21 x fun o fd h1 r=>(w21 o fd (k _ _ h1) r)
theorem hide_keep {g h:Heap} {P:Addr} (k:Kp g h) (hP:g.get? P=none):Kp g (hideAll h [P]):=fun b o e=>by
 refine hideAll_get _ (k b o e) fun hm=>?_
 rw [List.mem_singleton.mp hm,hP] at e; cases e
theorem hide_kp {h:Heap} {l:List Addr}:Kp (hideAll h l) h:=fun b o e=>of_hideAll _ e
section
variable {prog:Program} {w:World} {A:Around} {E:Value→Shared→Prop} {s:Shared} {a:Addr} {mg:Str→Option Value} {x:Str}
theorem enterVC (F:Fn x) (T:TK w mg s.heap) (ha:mg x=some (.ref a)) (hA:A.depth<recursionLimit) {c:Addr} (hc:CodeOf s.heap a c) {pos:List Value} {rest:List Value} {binds:Value→List (Str × Value)} {Q:Value→Shared→Prop}
  (hb:∀ pm cd doc,bindArgs (docDef x F.params F.body F.scope pm cd doc) ⟨pos,[]⟩=(newTuple rest >>= fun t=>pure (binds t)))
  (hz:rest.length≤sizeLine)
  (hloc:∀ t,∀ y∈binds t,F.scope.names.lookup y.1=some .local)
  (hcell:(F.scope.names.all fun x=>x.2 != .cell)=true)
  (h:∀ D h₀ h₁,Kp s.heap h₀→s.heap.get? D=none→h₀.get? D=some { cls:=.type "tuple", data:=.seq rest.toArray }→Fr h₀ h₀.objs.size h₁ (fun y=>(binds (.ref D)).reverse.lookup y) →
   wpAny (model prog w) (A.deeper (envOf x F.scope h₀.objs.size a (.ref c))) (execs F.body (envOf x F.scope h₀.objs.size a (.ref c)))
    (fun f s'=>Q (match f with | .ret v=>v | _=>.none) s') (fun _ _=>False)
    { s with heap:=h₁,toks:=s.toks+(binds (.ref D)).length }) :
  wpAny (model prog w) A (call (.ref a) pos) Q E s:=by
 refine u42 (T.at_ F ha) fun o pm cd doc ho hd hcr=>?_
 refine u22 hc fun o' fd ho' hd' hf=>?_; clear hc
 rw [ho] at ho'; cases ho'
 rw [hd] at hd'; cases hd'
 cases (show cd=.ref c from hf)
 refine wpAny_call ?_
 refine codeAny_call_function hA ho hd F.co F.gen rfl hcr ?_
 rw [hb]
 refine wpAny_bind (wpAny_newTuple (wpAny_pure ?_) hz)
 have k0:Kp s.heap (s.heap.push { cls:=.type "tuple", data:=.seq rest.toArray }):=fun b o e=>Heap.get?_push_of_some _ e
 refine wpAny_newFunctionEnv ?_ (hloc _) (fun h₁ hns hsb=>⟨(T.lim.keeps k0).fresh _ hsb,codeAny_func (wpAny_mono (h _ _ h₁ k0 (Heap.get?_none_of_le (Nat.le_refl _)) (Heap.get?_push_size _ rfl) ⟨hns,fun b o e=>?_,Nat.le_refl _⟩) (fun _ _ x=>x) fun _ _ x=>x.elim)⟩) F.kind
 ·intro y hy e
  have:=List.all_eq_true.mp hcell y hy
  rw [e] at this
  exact absurd this (by decide)
 ·exact hsb.extBut b o (Nat.ne_of_lt (Heap.lt_size e)) (Heap.get?_push_of_some _ e)
theorem bind_plat {rest:List Value} {pm cd doc:Value}:bindArgs (docDef "_platform" F_platform.params F_platform.body F_platform.scope pm cd doc) ⟨rest,[]⟩=(newTuple rest >>= fun t=>pure ([("args", t)]:List (Str × Value))):=by
 have e:∀ b:Bool,(b && false)=false:=fun b=>Bool.and_false b
 cases rest <;> rfl
end
theorem pass_all (n:Nat):passing (fun _=>true) n 0=List.range n:=by
 unfold passing
 rw [List.drop_zero]
 exact List.filter_eq_self.mpr fun _ _=>rfl
theorem codeIs {h h':Heap} {c P:Addr} {ps:Array Value} (x:h.IsCode c P ps) (hc:∀ o,h.get? c=some o→h'.get? c=some o) (hP:∀ o,h.get? P=some o→h'.get? P=some o):h'.IsCode c P ps :=
 x.at2 hc hP
theorem ctIs {h h':Heap} {c P:Addr} {ps:Array Value} (x:CT h c P ps) (hc:∀ o,h.get? c=some o→h'.get? c=some o) (hP:∀ o,h.get? P=some o→h'.get? P=some o):CT h' c P ps :=
 ⟨codeIs x.1 hc hP,x.2.1.elim fun o h=>h.elim fun vs h=>(w21 o vs (hc _ h.1) h.2),hP _ x.2.2⟩
theorem genCode {M:Model} {A:Around} {E:Value→Shared→Prop} {s:Shared} {env:Env} {c P:Addr} {ps:Array Value} {pos:Pos} {qualname:Str} {scope:Scope} {Q:Value→Shared→Prop} (hc:env.code=.ref c) (hok:CT s.heap c P ps)
  (hQ:∀ code h' tk ps',Heap.ExtBut P s.heap h'→CT h' c P ps'→Q code { s with heap:=h',toks:=tk }):wpAny M A (genexprCode env pos qualname scope) Q E s:=by
 cases hf:codeAmong pos ps.toList with
 | some c'=>exact wpAny_genexprCode_hit hc hok.1 hf (hQ c' s.heap s.toks ps (fun _ _ _ e=>e) hok)
 | none=>exact wpAny_genexprCodeX hc hok.1 hok.2 hf fun c' h' tk hx _ _ hk _ ht _=>hQ _ h' tk _ hx ⟨hk,ht⟩
noncomputable abbrev stripU (x:List Nat):List Nat:=dropR Unicode.isSpace (x.dropWhile Unicode.isSpace)
theorem items_S {ys:Txts} {l:List (Str × Tok)} (h:ItemsOf (fun j v=>∃ i,(List.range ys.length)[j]?=some i∧∃ x t,ys[i]?=some x∧v=Value.str (S x) t) (strValues l).toArray ys.length):l.map (·.1)=ys.map S:=by
 obtain ⟨h1,h2⟩:=h
 have hl:l.length=ys.length:=by
  rw [List.size_toArray] at h1
  rw [← h1]; simp [strValues]
 apply List.ext_getElem?
 intro i
 rw [List.getElem?_map,List.getElem?_map]
 rcases Nat.lt_or_ge i l.length with q | q
 ·have e:l[i]?=some l[i]:=List.getElem?_eq_getElem q
  have:=h2 i (.str l[i].1 l[i].2) (by rw [List.getElem?_toArray]; simp [strValues,e])
  refine u11 this fun j hj z0=>?_; clear this; refine u21 z0 fun x t hx hv=>?_; clear z0
  have hj':i=j:=by
   rw [List.getElem?_range (by exact q3 0x210030c00c2255000211a 1 13 (by kernel_rfl) hl q)] at hj
   exact Option.some.inj hj
  subst hj'
  rw [e,hx]
  injection hv with h3 _
  exact congrArg some h3
 ·rw [List.getElem?_eq_none q,List.getElem?_eq_none (by exact q3 0x20802840000255000211a 1 14 (by kernel_rfl) hl q)]
  rfl
theorem sum_le {ys:Txts} {k:Nat} (h:∀ y∈ys,y.length≤k):(ys.map (·.length)).sum≤ys.length*k:=by
 induction ys with
 | nil=>simp
 | cons y r ih =>
  have h1:=h y (List.mem_cons_self ..)
  have h2:=ih fun z hz=>h z (List.mem_cons_of_mem _ hz)
  rw [List.map_cons,List.sum_cons,List.length_cons,Nat.succ_mul]
  exact q4 0x218031400042418400c0315000011a 1 7 (by kernel_rfl) h1 h2
theorem joinL_le (c:Nat):∀ ys:Txts,(joinL [c] ys).length≤(ys.map (·.length)).sum+ys.length
 | []=>by simp [joinL_n,joinL_1,joinL_c]
 | [y]=>by simp [joinL_n,joinL_1,joinL_c]
 | y::z::r=>by
  have ih:=joinL_le c (z::r)
  show (y++[c]++joinL [c] (z::r)).length≤_
  simp only [List.length_append,List.map_cons,List.sum_cons,List.length_cons,List.length_nil] at ih ⊢
  exact q5 0x118e00c42e504014a003915146025001c8948c423803141005217200046a 1 3 (by kernel_rfl) ih
theorem dropR_le (p:Nat→Bool) (l:List Nat):(dropR p l).length≤l.length:=by
 unfold dropR
 rw [List.length_reverse]
 have:=(List.dropWhile_sublist p (l:=l.reverse)).length_le
 simpa using this
theorem stripU_le (x:List Nat):(stripU x).length≤x.length:=Nat.le_trans (dropR_le _ _) ((List.dropWhile_sublist _).length_le)
section
variable {prog:Program} {w:World} {mg:Str→Option Value} {A:Around} {E:Value→Shared→Prop} {s:Shared} {a:Addr}
theorem platJoin {g:Heap} {L c P f:Addr} {vs:List Value} {xs:Txts} {ps:Array Value} {D:Addr} (R:Room A 8) (T:TK w mg g) (hPg:g.get? P=none) (hD:g.IsTuple D vs.toArray) (hv:StrsAre vs (xs.map S)) (hz:xs.length≤100) (hx:∀ x∈xs,x.length≤640)
  (F:St g L s.heap [("args", .ref D)] []) (hLP:L≠P) (hP:CT s.heap c P ps) {Q:Flow→Shared→Prop}
  {sm:Stmt} (hb:F_platform.body[0]?=some sm)
  (h:∀ h' gens' k u,St g L h' [("platform", .str (S (joinL [45] ((xs.filter full).map stripU))) u)] []→(∃ ps,CT h' c P ps)→(AllBare s.gens→AllBare gens')→Q .next ⟨h',gens',s.drawn,k+1,s.os⟩) :
  wpAny (model prog w) A (exec sm (envX "_platform" F_platform.scope L f (.ref c) [])) Q E s:=by
 cases hb
 walk_at "ms"
 refine wpAny_GeneratorExp_walksQ (cl:=[]) R.hh rfl rfl (by decide) rfl rfl rfl R.lim ?_ (fun _=>rfl)
 walk_at "ms"
 have hD₁:=isTu_keeps hD F.keep
 refine filtS hD₁ fun h₂ I m k₂ hI hm hIm hit hM=>?_
 refine u11 (id hD₁) fun oD hoD _=>?_
 have hDI:D≠I:=fun e=>by rw [e,hI] at hoD; cases hoD
 have hDP:D≠P:=fun e=>by (refine u11 hD fun o' h1 _=>?_; clear hD); rw [e,hPg] at h1; cases h1
 refine u1010 (id hP.1) fun _ _ _ _ _ _ _ _ _ oP _ _ _ _ _ _ _ hoP _ _ hcP=>?_
 have hIP:I≠P:=fun e=>by rw [e,hoP] at hI; cases hI
 have hmP:m≠P:=fun e=>by rw [e,hoP] at hm; cases hm
 have W:=fun (A':Around) (hA':A'.handled=none)=>walksFilt (prog:=prog) (w:=w) (A:=A') (m:=m) (I:=I) (l:=D) hA' hv (fun x hx'=>Nat.le_trans (hx x hx') (by decide)) hIm.symm hDI
 have W0:IsFilt h₂ m I (.builtin "len")∧h₂.IsTuple D vs.toArray∧∃ k,h₂.IsTupleIter I D k∧k≤xs.length∧((xs.take k).filter full).length=0:=⟨hM,isTu_keeps hD₁ k₂,0,hit,Nat.zero_le _,rfl⟩
 refine (W A R.hh).self 0 _ _ _ W0 ?_
 refine ⟨T.lim.keeps (F.keeps k₂).keep,?_⟩
 refine genCode rfl (hP.keeps k₂) fun code h₃ tk₃ ps₃ hx₃ hcode₃=>?_
 have F₃:St g L h₃ _ []:=(F.keeps k₂).but (wr:=[P]) (fun b o hb e=>hx₃ b o (fun q=>hb (by simp [q])) e) (fun b hb=>by rw [List.mem_singleton.mp hb]; exact hPg) (fun hm=>hLP (List.mem_singleton.mp hm)) (fun _ hp=>nomatch hp)
 have T₃:=T.keeps F₃.keep
 refine u25 T₃.bm fun bm ob b1 b2 b3 b4 b5 b6=>?_
 refine wpAny_builtinsFor T₃.g b1 b2 b3 b4 b5 b6 ?_
 have lt₃:∀ b,b=m∨b=I∨b=D→b<h₃.objs.size:=by
  intro b hb
  have hbP:b≠P:=by rcases hb with rfl | rfl | rfl <;> assumption
  have:∃ o,h₂.get? b=some o:=by
   rcases hb with rfl | rfl | rfl
   ·exact ⟨_,hM⟩
   ·obtain ⟨_,q,_⟩:=hit; exact ⟨_,q⟩
   ·exact ⟨_,k₂ _ _ hoD⟩
  obtain ⟨o,ho⟩:=this
  exact Heap.lt_size (hx₃ b o hbP ho)
 refine ⟨m,[m,I,D],[I],(xs.filter full).length,_,_,fun _=>true,fun i y=>∃ x t,((xs.filter full).map stripU)[i]?=some x∧y=.str (S x) t,rfl,W,(W A R.hh).frame 0 _ _ W0 (fun b hb o e=>hx₃ b o ?_ e),fun b hb=>lt₃ b (by simpa using hb),T₃.lim,?_,?_,?_⟩
 ·simp only [List.mem_cons,List.not_mem_nil,or_false] at hb
  rcases hb with rfl | rfl | rfl <;> assumption
 ·intro hm
  refine u11 T.lim fun mc hns _=>?_
  refine u31 hns fun o es ep ho _=>?_; clear hns
  have:=F.keep _ _ ho
  rw [List.mem_singleton.mp hm,hI] at this; cases this
 ·intro href _
  refine ⟨fun A' E' i v s₂ m₂ hh hP hns hmx _=>wpAny_pure ⟨rfl,Keeps.rfl'⟩,fun A' E' i v s₂ m₂ hh hP _ hns hmx _=>?_⟩
  refine u21 hP fun x t z0 hxi=>?_; clear hP; subst z0
  have hxl:=hx x ((List.mem_filter.mp (List.mem_of_getElem? hxi)).1)
  refine MethodCall_ ?_
  refine wpAny_Name (wpAny_loadName_local rfl rfl hns hmx ?_) (by decide)
  walk_at "ms"
  refine stripS (by walk_at "li") fun t' k=>?_
  exact ⟨(w21 _ t' (by rw [List.getElem?_map,hxi]; rfl) rfl),Keeps.tok⟩
 ·intro a h₅ tk gs hgb hag hsz₅ hk₅ W₅ hat
  walk_at "ms"
  rw [pass_all] at W₅
  have lys:(xs.filter full).length=((xs.filter full).map stripU).length:=(List.length_map ..).symm
  have hys:((xs.filter full).map stripU).length≤100:=by rw [← lys]; exact Nat.le_trans (List.length_filter_le _ _) hz
  have hyl:∀ y∈(xs.filter full).map stripU,y.length≤640:=fun y hy=>by
   refine u11 (List.mem_map.mp hy) fun x hx' z0=>?_; subst z0
   exact Nat.le_trans (stripU_le x) (hx x (List.mem_filter.mp hx').1)
  have hsum:=sum_le hyl
  have hsum2:(((xs.filter full).map stripU).map (·.length)).sum≤70000:=Nat.le_trans hsum (by exact q1 0x222e03400028b064100017a 10 1664 (by kernel_rfl) hys)
  rw [List.length_range,lys] at W₅
  rw [lys] at hat
  refine SC.joinGen W₅.in4_2 (fun i s' st=>st.1.typeIs) hat (fun b hb=>?_) (List.mem_cons_self ..) (fun i v hv'=>?_) (fun s' lt hm hacc=>?_) (by rw [sizeLine_eq]; exact q1 0x800000080064100017a 1 3 (by kernel_rfl) hys)
  ·show b<h₅.objs.size
   rw [hsz₅]
   rcases List.mem_cons.mp hb with rfl | hb
   ·exact Nat.lt_succ_self _
   ·rcases List.mem_cons.mp hb with rfl | hb
    ·exact Nat.lt_succ_of_lt hag
    ·exact Nat.lt_succ_of_lt (Nat.lt_trans (List.mem_range.mp hb) hag)
  ·refine u11 hv' fun _ _ z0=>?_; clear hv'; refine u21 z0 fun y u _ e=>?_; clear z0
   exact (w20 _ _ e)
  ·have e1:=items_S hacc
   rw [e1]
   refine ⟨joinOk_of_weight ?_ (by decide),fun t' k=>?_⟩
   ·rw [List.map_map,List.length_map]
    have:((fun x:Str=>x.length) ∘ S)=fun l:List Nat=>l.length:=by funext l; exact S_len l
    rw [this]; exact q2 0x800000c014844280005802813d64100017a 10 1050241 (by kernel_rfl) hys hsum
   ·rw [txtJoin_S]
    obtain ⟨h₆,g₆,d₆,t₆,o₆⟩:=s'
    obtain ⟨m1,m2,m3,m4,m5⟩:=hm
    dsimp only at m1 m2 m3 m4 m5
    subst m3 m4
    have F₆:St g L h₆ _ []:=(F₃.keeps hk₅).but (wr:=[h₃.objs.size,I]) m1 (fun b hb=>?_) (fun hm=>?_) (fun _ hp=>nomatch hp)
    ·have hc₆:CT h₆ c P ps₃:=by
      have hl:=hcode₃.1.lt
      refine ctIs (hcode₃.keeps hk₅) (m1 c · ?_) (m1 P · ?_)
      ·intro hm
       rcases List.mem_cons.mp hm with e | hm
       ·exact Nat.ne_of_lt hl.1 e
       ·have e:=List.mem_singleton.mp hm
        obtain ⟨_,_,_,_,_,_,_,_,_,_,hc0,_⟩:=id hP.1
        rw [e,hI] at hc0; cases hc0
      ·intro hm
       rcases List.mem_cons.mp hm with e | hm
       ·exact Nat.ne_of_lt hl.2 e
       ·exact hIP (List.mem_singleton.mp hm).symm
     walk_at "ms"
     intro h₇ F₇ hs₇
     have hLc:c≠L:=by
      rintro rfl
      refine u11 F.fl fun mm hmm _=>?_
      refine u32 hmm fun o es ep ho hd _=>?_; clear hmm
      refine u102 (id hP.1) fun o' vs' _ _ _ _ _ _ _ _ hc0 hcd _=>?_
      rw [ho] at hc0; cases hc0
      rw [hd] at hcd; cases hcd
     refine h h₇ g₆ k t' (F₇.pick ["platform"] rfl) ⟨_,ctIs hc₆ (fun o e=>hs₇.extBut c o hLc e) (fun o e=>hs₇.extBut P o hLP.symm e)⟩ (fun ab=>m2.bare (ab.push hgb))
    ·rcases List.mem_cons.mp hb with rfl | hb
     ·exact (noI F₃ (Heap.get?_none_of_le (Nat.le_refl _))).1
     ·rw [List.mem_singleton.mp hb]; exact (noI F hI).1
    ·rcases List.mem_cons.mp hm with e | hm
     ·exact (noI F₃ (Heap.get?_none_of_le (Nat.le_refl _))).2.1 e.symm
     ·exact (noI F hI).2.1 (List.mem_singleton.mp hm).symm
end
section
variable {prog:Program} {w:World} {mg:Str→Option Value} {A:Around} {E:Value→Shared→Prop} {s:Shared} {a:Addr}
theorem replLen (y:List Nat):∀ (n:Nat) (x:List Nat),x.length≤n→y≠[]→∀ z:List Nat,z.length≤1→(replN y z 0 x).length≤x.length:=by
 intro n
 induction n with
 | zero=>intro x h; rw [List.length_eq_zero_iff.mp (Nat.le_zero.mp h)]; simp [replN_n,replN_k,replN_c]
 | succ n ih =>
  intro x h hy z hz
  cases x with
  | nil=>simp [replN_n,replN_k,replN_c]
  | cons c r =>
   have hr:r.length≤n:=by simpa using h
   rw [replN_c]
   split
   ·rw [replN_skip,List.length_append]
    have h1:=ih (r.drop (y.length-1)) (by rw [List.length_drop]; exact q3 0x108c00c6006461000011a 1 9003 (by kernel_rfl) hr) hy z hz
    have h2:(r.drop (y.length-1)).length≤r.length:=by rw [List.length_drop]; exact q2 0x230053003220 1 589 (by kernel_rfl)
    simp -iota only [List.length_cons]; exact q4 0x8e00c50002110c2006018a8200a02f5100011a 1 15 (by kernel_rfl) hz h1 h2
   ·have:=ih r hr hy z hz
    simp -iota only [List.length_cons]; exact q2 0x8c014a2004221000011a 1 3 (by kernel_rfl) this
theorem replT {x y z:List Nat} {t u v:Tok} {Q:Value→Shared→Prop} {k0 k1:Nat} (h1:k0≤u) (h2:u<k1) (h3:k1≤v) (h0:1≤k0) (hy:y≠[]) (hyz:y≠z) (hx:x.length≤100000) (hz:z.length≤1) (h:∀ t' k,(replN y z 0 x).length≤x.length→Q (.str (S (replN y z 0 x)) t') { s with toks:=k }) :
  wpAny (model prog w) A (call (.builtin "str.replace") [.str (S x) t,.str (S y) u,.str (S z) v]) Q E s:=by
 have hu:u≠0:=Nat.pos_iff_ne_zero.mp (Nat.lt_of_lt_of_le h0 h1)
 have huv:u<v:=Nat.lt_of_lt_of_le h2 h3
 exact replS hu (Nat.pos_iff_ne_zero.mp (Nat.lt_of_le_of_lt (Nat.zero_le _) huv)) (Nat.ne_of_lt huv) hy hyz hx (by walk_at "li") fun t' k=>h t' k (replLen y _ x (Nat.le_refl _) hy z hz)
theorem txtSliceDrop_S {x:List Nat} {b:Nat}:Txt.slice (S (x++[b])) none (some (-1))=S x:=by
 have h:=StrLaws.sliceText_to_neg (x:=S (x++[b])) (j:=-1) (by decide) (by rw [S_len]; simp; exact q1 9127137363 1 1 (by kernel_rfl))
 show StrLaws.sliceText _ _ _=_
 rw [h,S_toList,S_len]
 have e:(-1+((x++[b]).length:Int)).toNat=x.length:=by simp; exact q1 0x220051609292a2 1 93 (by kernel_rfl)
 have e':((-1+((x++[b]).length:Int))-0).toNat=x.length:=by simp; exact q1 0x220051609292a2 1 93 (by kernel_rfl)
 simp -iota only [e,e',List.drop_zero,List.take_left']
theorem slcDropS {value slice:Expr} {D:Addr} {t:Tok} {ti:Tok} {x:List Nat} {b:Nat} {Q:Value→Shared→Prop} (hx:(x++[b]).length≤100000) (hD:s.heap.get? D=some { cls:=.type "slice", data:=.fields #[.none,.int (-1) ti,.none] }) (h:∀ t' k,Q (.str (S x) t') { s with toks:=k })
  (hs:subscripted slice false (.str (S (x++[b])) t) (.ref D)=operate [.ref D,.str (S (x++[b])) t] (getItem (.str (S (x++[b])) t) (.ref D)):=by with_unfolding_all rfl) :
  wpAny (model prog w) A (subscriptTail value slice (.str (S (x++[b])) t) (.ref D)) Q E s  := by
 exact slcS (lo:=none) (hi:=some (-1,ti)) hx (w12 _ hD rfl rfl) (fun t' k=>by have:=h t' k; rw [← txtSliceDrop_S (b:=b)] at this; exact this) hs
theorem platform_spec {g:Heap} (T:TK w mg g) (kg:Kp g s.heap) (ha:mg "_platform" = some (.ref a)) {c P:Addr} {ps:Array Value} (hc:CodeOf g a c) (hPg:g.get? P=none) (hP:CT s.heap c P ps) (R:Room A 10) {vs:List Value} {xs:Txts}
  (hv:StrsAre vs (xs.map S)) (hz:xs.length≤100) (hx:∀ x∈xs,x.length≤640) (hb:∀ x∈xs,∀ b∈x,Unicode.isSpace b=bl b) :
  wpAny (model prog w) A (call (.ref a) vs) (fun v s'=>(∃ t',v=.str (S (safeN xs)) t')∧Mv c P s s') E s:=by
 have lv:vs.length=xs.length:=by rw [strsAre_len hv,List.length_map]
 refine enterVC F_platform (T.keeps kg) ha R.lim (hc.keeps kg) (rest:=vs) (binds:=fun v=>[("args", v)]) (fun _ _ _=>bind_plat) (by rw [sizeLine_eq]; exact q2 0x200000030050802908d64100017a 1 11 (by kernel_rfl) hz lv) (fun v=>locs rfl) rfl fun D h₀ h₁ k₀ hD hT₀ F₀=>?_
 have F:=St.init F₀
 have hP₁:CT h₁ c P ps:=(hP.keeps k₀).keeps F.keep
 have hoP:∃ o,s.heap.get? P=some o:=by (refine u108 (id hP.1) fun _ _ _ _ _ _ _ _ _ oP _ _ _ _ _ _ _ hoP _=>?_); exact ⟨_,hoP⟩
 have hoc:∃ o,s.heap.get? c=some o:=by (refine u101 (id hP.1) fun oc _ _ _ _ _ _ _ _ _ hoc _=>?_); exact ⟨_,hoc⟩
 have hDP:D≠P:=by rintro rfl; obtain ⟨o,ho⟩:=hoP; rw [hD] at ho; cases ho
 have kh:Kp (hideAll h₀ [P]) h₀:=hide_kp
 have kgh:Kp g (hideAll h₀ [P]):=hide_keep (fun b o e=>k₀ _ _ (kg b o e)) hPg
 have T':=T.keeps kgh
 have hT₁:(hideAll h₀ [P]).IsTuple D vs.toArray:=(w12 _ (hideAll_get _ hT₀ (by simpa using hDP)) rfl ⟨_,rfl⟩)
 have F':St (hideAll h₀ [P]) h₀.objs.size h₁ [("args", Value.ref D)] []:=(F.base kh).pick ["args"] rfl
 have hLP:h₀.objs.size≠P:=fun e=>by
  obtain ⟨o,ho⟩:=hoP
  exact Nat.lt_irrefl _ (e▸Heap.lt_size (k₀ _ _ ho))
 clear F F₀
 replace R:=R.deeper (env:=envOf "_platform" F_platform.scope h₀.objs.size a (.ref c)) (by decide:9+1≤10)
 generalize A.deeper (envOf "_platform" F_platform.scope h₀.objs.size a (.ref c))=A at R ⊢
 generalize hL:h₀.objs.size=L at F' hLP ⊢
 refine stepO fun _ _ _ _=>?_
 refine platJoin (R.le (by decide)) T' (hideAll_none _ (List.mem_singleton_self _)) hT₁ hv hz hx F' hLP hP₁ rfl ?_
 intro h₂ g₂ k₂ u F₂ hP₂ hb₂
 obtain ⟨j,hj⟩:∃ j,j=joinL [45] ((xs.filter full).map stripU):=⟨_,rfl⟩
 rw [← hj] at F₂
 have hjl:j.length≤70000:=by
  rw [hj]
  have hys:((xs.filter full).map stripU).length≤100:=by rw [List.length_map]; exact Nat.le_trans (List.length_filter_le _ _) hz
  have hsum:=sum_le (k:=640) (ys:=(xs.filter full).map stripU) fun y hy=>by
   refine u11 (List.mem_map.mp hy) fun x hx' z0=>?_; subst z0
   exact Nat.le_trans (stripU_le x) (hx x (List.mem_filter.mp hx').1)
  have:=joinL_le 45 ((xs.filter full).map stripU)
  exact q3 0x88b80c00c10052801808ea80005802813d64100017a 10 1074792065 (by kernel_rfl) hys hsum this
 walk_at "ms"
 refine replT (by assumption) (by assumption) (by assumption) (Nat.succ_le_succ (Nat.zero_le _)) (by simp) (by simp) (by walk_at "li") (by simp) fun u0 k0 l0=>?_
 rw [replN_one] at l0 ⊢
 walk_at "ms"
 intro m0 F0 e0
 replace F0:=F0.pick ["platform"] rfl
 obtain ⟨z0,hz0⟩:∃ z,z=List.map (sw 32 95) j:=⟨_,rfl⟩
 rw [← hz0] at l0 F0
 walk_at "ms"
 refine replT (by assumption) (by assumption) (by assumption) (Nat.succ_le_succ (Nat.zero_le _)) (by simp) (by simp) (by exact q2 0xc3500c014200a02351170100021a 1 7 (by kernel_rfl) hjl l0) (by simp) fun u1 k1 l1=>?_
 rw [replN_one] at l1 ⊢
 walk_at "ms"
 intro m1 F1 e1
 replace F1:=F1.pick ["platform"] rfl
 obtain ⟨z1,hz1⟩:∃ z,z=List.map (sw 47 45) z0:=⟨_,rfl⟩
 rw [← hz1] at l1 F1
 walk_at "ms"
 refine replT (by assumption) (by assumption) (by assumption) (Nat.succ_le_succ (Nat.zero_le _)) (by simp) (by simp) (by exact q3 0xc3500c00c10801805ea00a02351170100021a 1 15 (by kernel_rfl) hjl l0 l1) (by simp) fun u2 k2 l2=>?_
 rw [replN_one] at l2 ⊢
 walk_at "ms"
 intro m2 F2 e2
 replace F2:=F2.pick ["platform"] rfl
 obtain ⟨z2,hz2⟩:∃ z,z=List.map (sw 92 45) z1:=⟨_,rfl⟩
 rw [← hz2] at l2 F2
 walk_at "ms"
 refine replT (by assumption) (by assumption) (by assumption) (Nat.succ_le_succ (Nat.zero_le _)) (by simp) (by simp) (by exact q4 0xc3500e00c10600c03150801805ea00a02351170100021a 1 31 (by kernel_rfl) hjl l0 l1 l2) (by simp) fun u3 k3 l3=>?_
 rw [replN_one] at l3 ⊢
 walk_at "ms"
 intro m3 F3 e3
 replace F3:=F3.pick ["platform"] rfl
 obtain ⟨z3,hz3⟩:∃ z,z=List.map (sw 58 45) z2:=⟨_,rfl⟩
 rw [← hz3] at l3 F3
 walk_at "ms"
 refine replT (by assumption) (by assumption) (by assumption) (Nat.succ_le_succ (Nat.zero_le _)) (by simp) (by simp) (by exact q5 0x30d403001c30800e03350600c03150801805ea00a02351170100021a 1 63 (by kernel_rfl) hjl l0 l1 l2 l3) (by simp) fun u4 k4 l4=>?_
 rw [replN_one] at l4 ⊢
 walk_at "ms"
 intro m4 F4 e4
 replace F4:=F4.pick ["platform"] rfl
 obtain ⟨z4,hz4⟩:∃ z,z=List.map (sw 59 45) z3:=⟨_,rfl⟩
 rw [← hz4] at l4 F4
 walk_at "ms"
 refine replT (by assumption) (by assumption) (by assumption) (Nat.succ_le_succ (Nat.zero_le _)) (by simp) (by simp) (by exact q6 0xc3500d007081401c06ab0800e03350600c03150801805ea00a02351170100021a 1 127 (by kernel_rfl) hjl l0 l1 l2 l3 l4) (by simp) fun u5 k5 l5=>?_
 rw [replN_one] at l5 ⊢
 walk_at "ms"
 intro m5 F5 e5
 replace F5:=F5.pick ["platform"] rfl
 obtain ⟨z5,hz5⟩:∃ z,z=List.map (sw 34 45) z4:=⟨_,rfl⟩
 rw [← hz5] at l5 F5
 walk_at "ms"
 refine replT (by assumption) (by assumption) (by assumption) (Nat.succ_le_succ (Nat.zero_le _)) (by simp) (by simp) (by exact q7 0x30d403801c28600701aa81401c06ab0800e03350600c03150801805ea00a02351170100021a 1 255 (by kernel_rfl) hjl l0 l1 l2 l3 l4 l5) (by simp) fun u6 k6 l6=>?_
 rw [replN_one] at l6 ⊢
 walk_at "ms"
 intro m6 F6 e6
 replace F6:=F6.pick ["platform"] rfl
 obtain ⟨z6,hz6⟩:∃ z,z=List.map (sw 40 45) z5:=⟨_,rfl⟩
 rw [← hz6] at l6 F6
 walk_at "ms"
 refine replT (by assumption) (by assumption) (by assumption) (Nat.succ_le_succ (Nat.zero_le _)) (by simp) (by simp) (by exact q8 0xc3500f0070c1c01c06aa8600701aa81401c06ab0800e03350600c03150801805ea00a02351170100021a 1 511 (by kernel_rfl) hjl l0 l1 l2 l3 l4 l5 l6) (by simp) fun u7 k7 l7=>?_
 rw [replN_one] at l7 ⊢
 walk_at "ms"
 intro m7 F7 e7
 replace F7:=F7.pick ["platform"] rfl
 obtain ⟨z7,hz7⟩:∃ z,z=List.map (sw 41 45) z6:=⟨_,rfl⟩
 rw [← hz7] at l7 F7
 walk_at "ms"
 refine replT (by assumption) (by assumption) (by assumption) (Nat.succ_le_succ (Nat.zero_le _)) (by simp) (by simp) (by exact q9 0xc3500c004070800801bac1c01c06aa8600701aa81401c06ab0800e03350600c03150801805ea00a02351170100021a 1 1023 (by kernel_rfl) hjl l0 l1 l2 l3 l4 l5 l6 l7) (by simp) fun u8 k8 l8=>?_
 walk_at "ms"
 intro m8 F8 e8
 replace F8:=F8.pick ["platform"] rfl
 obtain ⟨z8,hz8⟩:∃ z,z=replN [117,110,107,110,111,119,110] [] 0 z7:=⟨_,rfl⟩
 rw [← hz8] at l8 F8
 have hz:z8=replN unk [] 0 (j.map subst):=by rw [hz8,hz7,hz6,hz5,hz4,hz3,hz2,hz1,hz0,map_sw]; rfl
 have hLc:c≠L:=fun e=>by
  rw [← hL] at e
  obtain ⟨o,ho⟩:=hoc
  exact Nat.lt_irrefl _ (e▸Heap.lt_size (k₀ _ _ ho))
 have stepC:∀ {h h':Heap},Heap.SameBut L h h'→(∃ ps,CT h c P ps)→∃ ps,CT h' c P ps:=fun e ⟨ps,x⟩=>⟨ps,ctIs x (fun o q=>e.extBut c o hLc q) (fun o q=>e.extBut P o hLP.symm q)⟩
 have hP8:∃ ps,CT m8 c P ps:=stepC e8 (stepC e7 (stepC e6 (stepC e5 (stepC e4 (stepC e3 (stepC e2 (stepC e1 (stepC e0 hP₂))))))))
 have hl8:z8.length≤70000:=by walk_at "li"
 clear F7 F6 F5 F4 F3 F2 F1 F0 F₂ hz0 hz1 hz2 hz3 hz4 hz5 hz6 hz7 hz8 e0 e1 e2 e3 e4 e5 e6 e7 e8
 obtain ⟨G,hG⟩:∃ G,G=hideAll h₀ [P]:=⟨_,rfl⟩
 rw [← hG] at F8 T'
 walk_at "ms"
 refine wpAny_While ?_
 refine whileH z8.length (fun n l own=>own=[]∧∃ q u,n=q.length∧q.length≤70000∧l=[(("platform" : Str),Value.str (S q) u)]∧cl2 false q=cl2 false z8)
  (fun l own=>own=[]∧∃ q u,dd q=q∧q.length≤70000∧l=[(("platform" : Str),Value.str (S q) u)]∧cl2 false q=cl2 false z8)
  (fun s'=>∃ h k,s'=(⟨h,g₂,s.drawn,k,s.os⟩:Shared)∧1≤k∧∃ ps,CT h c P ps) F8 ⟨rfl,z8,u8,rfl,hl8,rfl,rfl⟩ (w22 _ _ rfl (Nat.succ_le_succ (Nat.zero_le _)) hP8) ?_ ?_
 ·intro n l₁ own₁ _ E' _ _ hQt hQo y0; obtain ⟨rfl,q,u,rfl,hq,rfl,hcl⟩:=y0; intro F y1; refine u22 y1 fun h k z0 hk hcode=>?_; clear y1; subst z0
  walk_at "ms"
  refine replT (by assumption) (by assumption) (by assumption) hk (by simp) (by simp) (by walk_at "li") (by simp) fun v9 k9 l9=>?_
  walk_at "ms"
  intro h₃ F₃ e₃
  walk_at "ms"
  have hcl':cl2 false (replN [45,45] [45] 0 q)=cl2 false q:=cl2_dd _ false q (Nat.le_refl _)
  by_cases hd:replN [45,45] [45] 0 q=q
  ·refine if_bt (decide_eq_true hd) ?_
   walk_at "ms"
   exact TurnWZ.brk hQt (w22 _ _ rfl (by exact q1 9127137360 1 1 (by kernel_rfl)) (stepC e₃ hcode)) ⟨rfl,q,u,hd,hq,rfl,hcl⟩ (F₃.pick ["platform"] rfl)
  ·refine if_bf (decide_eq_false hd) ?_
   walk_at "ms"
   intro h₄ F₄ e₄
   walk_at "ms"
   refine TurnWZ.go hQt (w22 _ _ rfl (by exact q1 0x4620042251050 1 1 (by kernel_rfl)) (stepC e₄ (stepC e₃ hcode))) ((dd q).length) ?_ ⟨rfl,dd q,_,rfl,Nat.le_trans l9 hq,rfl,hcl'.trans hcl⟩ (F₄.pick ["platform"] rfl)
   rcases dd_len _ q (Nat.le_refl _) with e | e
   ·exact absurd e hd
   ·exact e
 ·intro l₁ own₁ _ y0; obtain ⟨rfl,q,u,hdq,hq,rfl,hcl⟩:=y0; intro F y1; refine u22 y1 fun h k z0 hk hcode=>?_; clear y1; subst z0
  have hsafe:dropR (· == 45) q=safeN xs:=safe_of hdq (by
   rw [hcl,hz,hj,List.map_congr_left (fun x hx'=>strip_eq (hb x (List.mem_filter.mp hx').1))])
  walk_at "ms"
  refine wpAny_While ?_
  refine whileH q.length (fun n l own=>own=[]∧∃ q u,n=q.length∧q.length≤70000∧l=[(("platform" : Str),Value.str (S q) u)]∧dropR (· == 45) q=safeN xs)
   (fun l own=>own=[]∧∃ u,l=[(("platform" : Str),Value.str (S (safeN xs)) u)])
   (fun s'=>∃ h k,s'=(⟨h,g₂,s.drawn,k,s.os⟩:Shared)∧∃ ps,CT h c P ps) F ⟨rfl,q,u,rfl,hq,rfl,hsafe⟩ (w21 _ _ rfl hcode) ?_ ?_
  ·intro n l₁ own₁ _ E' _ _ hQt hQo y0; obtain ⟨rfl,q,u,rfl,hq,rfl,hs⟩:=y0; intro F y1; refine u21 y1 fun h k z0 hcode=>?_; clear y1; subst z0
   walk_at "ms"
   refine tS (by walk_at "li") fun _=>?_
   by_cases hq0:q=[]
   ·subst hq0
    refine if_bf (decide_eq_false (by simp)) ?_
    walk_at "ms"
    exact TurnOZ.go hQo (w21 _ _ rfl hcode) ⟨rfl,u,by rw [← hs]; rfl⟩ (F.pick ["platform"] rfl)
   ·refine if_bt (decide_eq_true hq0) ?_
    walk_at "ms"
    refine u20 (by
     rcases List.eq_nil_or_concat q with e | ⟨r,b,e⟩
     ·exact absurd e hq0
     ·exact (w20 r b (by rw [e,List.concat_eq_append])):∃ r b,q=r++[b]) fun r b z0=>?_; subst z0
    refine itemLastS (c:=b) (by walk_at "li") (fun _ _=>?_) (by simp)
    walk_at "ms"
    by_cases hb45:b=45
    ·subst hb45
     refine if_bt (decide_eq_true rfl) ?_
     walk_at "ms"
     intro h₃ I₃ hI₃ k₃ hT₃
     have F₃:=F.keeps k₃
     walk_at "ms"
     refine slcDropS (by walk_at "li") hT₃ fun u₄ k₄=>?_
     walk_at "ms"
     intro h₅ F₅ e₅
     walk_at "ms"
     have hc₃:∃ ps,CT h₃ c P ps:=hcode.elim fun ps x=>⟨ps,x.keeps k₃⟩
     refine TurnWZ.go hQt (w21 _ _ rfl (stepC e₅ hc₃)) r.length (by simp) ⟨rfl,r,u₄,rfl,by simp at hq; exact q1 0x222e02001116f100021a 1 3 (by kernel_rfl) hq,rfl,?_⟩ (F₅.pick ["platform"] rfl)
     rw [← hs]; unfold dropR; simp
    ·refine if_bf (decide_eq_false (fun e=>hb45 (by simpa using e))) ?_
     walk_at "ms"
     have e:r++[b]=safeN xs:=by rw [← hs]; unfold dropR; simp [hb45]
     exact TurnOZ.go hQo (w21 _ _ rfl hcode) ⟨rfl,u,by rw [← e]; rfl⟩ (F.pick ["platform"] rfl)
  ·intro l₁ own₁ _ y0; obtain ⟨rfl,u,rfl⟩:=y0; intro F y1; refine u21 y1 fun h k z0 hcode=>?_; clear y1; subst z0
   walk_at "ms"
   refine ⟨⟨_,rfl⟩,⟨fun b o hbP e=>?_,hcode,hb₂,rfl,rfl⟩⟩
   subst hG
   exact F.keep b o (hideAll_get _ (k₀ _ _ e) (by simpa using hbP))
end
open PySem (Ctx)
noncomputable def Cl (Γ:Ctx):Prop:=(Γ.code.isCaller || Γ.below.any fun x=>x.1.isCaller)=true
noncomputable def wpC {α:Type} (M:Model) (A:Around) (t:Sem α) (Q:α→Shared→Prop) (E:Value→Shared→Prop) (s:Shared):Prop :=
 ∀ Γ p,Γ.In A→Cl Γ→Sem.wp M Γ t (fun a _ s'=>Q a s') (fun e _ s'=>E e s') p s
noncomputable def codeC (M:Model) (A:Around) (c:Code) (R:Result→Shared→Prop) (s:Shared):Prop :=
 ∀ Γ p,Γ.code=c→Γ.Below A→(Γ.below.any fun x=>x.1.isCaller)=true→wpCode M Γ R p s
section
variable {α β:Type} {M:Model} {A:Around} {E:Value→Shared→Prop} {s:Shared} {env:Env}
theorem wpC_of {t:Sem α} {Q:α→Shared→Prop} (h:wpAny M A t Q E s):wpC M A t Q E s:=fun Γ p hΓ _=>h Γ p hΓ
theorem codeC_of {c:Code} {R:Result→Shared→Prop} (h:codeAny M A c R s):codeC M A c R s:=fun Γ p hc hΓ _=>h Γ p hc hΓ
theorem wpC_mono {t:Sem α} {Q Q':α→Shared→Prop} {E':Value→Shared→Prop} (h:wpC M A t Q E s) (hQ:∀ a s,Q a s→Q' a s) (hE:∀ e s,E e s→E' e s):wpC M A t Q' E' s :=
 fun Γ p hΓ c=>Sem.wp_mono M Γ t (fun a _ s=>hQ a s) (fun e _ s=>hE e s) p s (h Γ p hΓ c)
theorem wpC_bind {m:Sem α} {f:α→Sem β} {Q:β→Shared→Prop} (h:wpC M A m (fun a s'=>wpC M A (f a) Q E s') E s):wpC M A (m >>= f) Q E s:=fun Γ p hΓ c=>by
 rw [Sem.wp_bind']
 exact Sem.wp_mono M Γ m (fun a p' s' h'=>h' Γ p' hΓ c) (fun _ _ _ h'=>h') p s (h Γ p hΓ c)
theorem wpC_bindA {m:Sem α} {f:α→Sem β} {Q:β→Shared→Prop} (h:wpAny M A m (fun a s'=>wpC M A (f a) Q E s') E s):wpC M A (m >>= f) Q E s:=wpC_bind (wpC_of h)
theorem wpC_pure {a:α} {Q:α→Shared→Prop} (h:Q a s):wpC M A (pure a) Q E s:=wpC_of (wpAny_pure h)
theorem wpC_onRaise {m:Sem α} {k:Value→Sem Unit} {Q:α→Shared→Prop}
  (h:wpC M A m Q (fun e s'=>wpC M A (k e) (fun _ s''=>E e s'') E s') s):wpC M A (m.onRaise k) Q E s:=fun Γ p hΓ c=>by
 rw [Sem.wp_onRaise]
 exact Sem.wp_mono M Γ m (fun _ _ _ h'=>h') (fun e p' s' h'=>h' Γ p' hΓ c) p s (h Γ p hΓ c)
theorem wpC_attempt {m:Sem α} {Q:Except Value α→Shared→Prop} (h:wpC M A m (fun a=>Q (.ok a)) (fun e=>Q (.error e)) s):wpC M A m.attempt Q E s :=
 fun Γ p hΓ c=>by rw [Sem.wp_attempt]; exact h Γ p hΓ c
theorem wpC_holding {vs:List Value} {m:Sem α} {Q:α→Shared→Prop} (h:wpC M A m Q E s):wpC M A (holding vs m) Q E s :=
 fun Γ p hΓ c=>by rw [Sem.wp_holding]; exact h Γ p hΓ c
theorem Cl.below {Γ:Ctx} (c:Cl Γ) (k:Code) (h:Option Value) (p:Pos):((Γ.enter k h p).below.any fun x=>x.1.isCaller)=true:=c
theorem wpC_run {c:Code} {h:Option Value} {Q:Flow→Shared→Prop}
  (hc:codeC M (A.mark h) c (fun r s'=>match r with | .ok f=>Q f s' | .error e=>E e s') s) (hnb:h≠some byPass:=by intro x; cases x):wpC M A (run c h) Q E s :=
 fun Γ p hΓ cl=>by rw [Sem.wp_run]; exact hc _ p rfl (hΓ.enter c h p hnb) (cl.below c h p)
theorem wpC_runValue {c:Code} {Q:Value→Shared→Prop}
  (hc:codeC M A c (fun r s'=>match r with | .ok (.ret v)=>Q v s' | .ok _=>False | .error e=>E e s') s):wpC M A (runValue c) Q E s :=
 fun Γ p hΓ cl=>by rw [Sem.wp_runValue]; exact hc _ p rfl (hΓ.enter c none p (by intro x; cases x)) (cl.below c none p)
theorem wpC_call {f:Value} {pos:List Value} {kw:List (Str × Value)} {Q:Value→Shared→Prop}
  (hc:codeC M A (.call f ⟨pos,kw⟩) (fun r s'=>match r with | .ok (.ret v)=>Q v s' | .ok _=>False | .error e=>E e s') s):wpC M A (call f pos kw) Q E s:=wpC_runValue hc
theorem codeC_mono {c:Code} {R R':Result→Shared→Prop} (h:codeC M A c R s) (hR:∀ r s,R r s→R' r s):codeC M A c R' s :=
 fun Γ p hc hΓ cl=>wpCode_mono hR (h Γ p hc hΓ cl)
theorem codeC_of_tree {c:Code} {R:Result→Shared→Prop}
  (h:wpC M (A.under c) (M.den c) (fun fin s'=>match fin with | .done f=>R (.ok f) s' | .again c'=>c'.quiet=true∧codeC M A c' R s') (fun e s'=>R (.error e) s') s):codeC M A c R s:=fun Γ p hc hΓ cl=>by
 rw [wpCode_iff_wp,hc]
 refine Sem.wp_mono M Γ _ (fun fin p' s' h'=>?_) (fun _ _ _ h'=>h') p s (h Γ p (hc▸hΓ.in) (by unfold Cl; rw [cl,Bool.or_true]))
 cases fin with
 | done f=>exact h'
 | again c'=>exact ⟨h'.1,h'.2 (Γ.goto c') p' rfl (hΓ.goto c') cl⟩
theorem codeC_loop {c:Code} {R:Result→Shared→Prop} (hq:c.quiet=true) (I:Nat→Shared→Prop)
  (turn:∀ n s,I n s→wpC M (A.under c) (M.den c)
   (fun fin s'=>match fin with
    | .done f=>R (.ok f) s'
    | .again c'=>(c'=c∧∃ m,m<n∧I m s')∨(c'.quiet=true∧codeC M A c' R s')) (fun e s'=>R (.error e) s') s)
  (n:Nat) (h:I n s):codeC M A c R s:=by
 induction n using Nat.strongRecOn generalizing s with
 | ind n ih =>
  refine codeC_of_tree (wpC_mono (turn n s h) (fun fin s' hf=>?_) fun _ _ h'=>h')
  cases fin with
  | done f=>exact hf
  | again c' =>
   rcases hf with ⟨rfl,m,hm,hI⟩ | hf
   ·exact ⟨hq,ih m hm hI⟩
   ·exact hf
theorem execsC_cons {st rest} {Q:Flow→Shared→Prop}
  (h:wpC M A (exec st env) (fun f s'=>match f with | .next=>wpC M A (execs rest env) Q E s' | f=>Q f s') E s):wpC M A (execs (st::rest) env) Q E s:=by
 rw [execs_cons]
 refine wpC_bind (wpC_mono h (fun f s' h'=>?_) fun _ _ e=>e)
 cases f <;> first | exact h' | exact wpC_pure h'
theorem execsC_consA {st rest} {Q:Flow→Shared→Prop}
  (h:wpAny M A (exec st env) (fun f s'=>match f with | .next=>wpC M A (execs rest env) Q E s' | f=>Q f s') E s):wpC M A (execs (st::rest) env) Q E s:=execsC_cons (wpC_of h)
theorem AssignC_Name {x pos' value pos} {Q:Flow→Shared→Prop}
  (h:wpC M A (eval value env) (fun v s₁=>wpAny M A (storeName env x v) (fun _=>Q .next) E s₁) E s)
  (hs:swapsWith value (some (.Name x pos')) pos.line env=pure false:=by rfl):wpC M A (exec (.Assign [.Name x pos'] value pos) env) Q E s:=fun Γ p hΓ c=>by
 simp -iota only [exec_Assign_Name env x pos' value pos hs,Sem.wp_bind',Sem.wp_cmd_standAt,Sem.wp_bindName,Sem.wp_pure']
 exact Sem.wp_mono M Γ _ (fun v _ s₁ h₁=>h₁ Γ _ hΓ) (fun _ _ _ h'=>h') _ _ (h Γ _ hΓ c)
theorem IfC {test body orelse pos} {Q:Flow→Shared→Prop}
  (h:wpC M A (isTrue test env (eval test env)) (fun b s₂=>if b then wpC M A (execs body env) Q E s₂ else wpC M A (execs orelse env) Q E s₂) E s):wpC M A (exec (.If test body orelse pos) env) Q E s:=fun Γ p hΓ c=>by
 simp -iota only [exec_If,Sem.wp_bind',Sem.wp_cmd_standAt]
 refine Sem.wp_mono M Γ _ (fun b p₂ s₂ h₂=>?_) (fun _ _ _ h'=>h') _ _ (h Γ _ hΓ c)
 cases b <;> exact h₂ Γ p₂ hΓ c
theorem isTrueC_Compare1 {l op r pos whole} {Q:Bool→Shared→Prop}
  (h:wpC M A (eval l env) (fun a s₁=>wpAny M A (eval r env) (fun b s₂=>wpAny M A (compareOp op a b) (fun c s₃=>wpAny M A (truthy c) Q E s₃) E s₂) E s₁) E s)
  (hm:behindInMarks op r=false:=by with_unfolding_all rfl):wpC M A (isTrue (.Compare l [op] [r] pos) env whole) Q E s:=fun Γ p hΓ c=>by
 simp -iota only [isTrue_Compare1,markedBehindIn_of_false hm,Sem.wp_bind',Sem.wp_holding,Sem.wp_cmd_standAt,Sem.wp_operate]
 exact Sem.wp_mono M Γ _ (fun a p₁ s₁ h₁=>Sem.wp_mono M Γ _ (fun b _ s₂ h₂=>Sem.wp_mono M Γ _ (fun c p₃ s₃ h₃=>h₃ Γ p₃ hΓ)
  (fun _ _ _ h'=>h') _ _ (h₂ Γ _ hΓ)) (fun _ _ _ h'=>h') _ _ (h₁ Γ p₁ hΓ)) (fun _ _ _ h'=>h') _ _ (h Γ p hΓ c)
theorem runOwnC {c:Code} {h:Option Value} {Q:Flow→Shared→Prop}
  (hc:codeC M (A.mark h) c (fun r s'=>match r with | .ok f=>Q f s' | .error e=>cameBackBy M A env E e s') s) (hnb:h≠some byPass:=by intro x; cases x):wpC M A (runOwn c env h) Q E s:=by
 unfold runOwn
 exact wpC_onRaise (wpC_mono (wpC_run hc hnb) (fun _ _ x=>x) fun _ _ x=>wpC_of x)
theorem ForC {target iter body orelse pos} {Q:Flow→Shared→Prop}
  (h:wpAny M A (eval iter env) (fun x s₁=>wpAny M A (pyIter x) (fun it s₂ =>
   codeC M A (.forLoop target it body orelse env) (fun r s'=>match r with | .ok f=>Q f s' | .error e=>cameBackBy M A env E e s') s₂) E s₁) E s)
  (hs:∀ x,foldedSetIterable iter env x=pure x:=by intro _; rfl):wpC M A (exec (.For target iter body orelse pos) env) Q E s:=by
 rw [exec_For]
 refine wpC_bindA (wpAny_standAt (wpC_bindA (wpAny_mono h (fun x s₁ h₁=>?_) fun _ _ e=>e)))
 refine wpC_bindA (wpAny_of_eq (hs x) (wpC_bindA (wpAny_standAt (wpC_bindA (wpAny_holding (wpAny_mono h₁ (fun it s₂ h₂=>?_) fun _ _ e=>e))))))
 exact runOwnC h₂
theorem CallC {func:Expr} {args:List Expr} {pos:Pos} {Q:Value→Shared→Prop}
  (h:wpAny M A (eval func env) (fun f s₁=>wpC M A (callWith pos f [] (backTo pos (starEach args env)) []) Q E s₁) E s)
  (he:eval (.Call func args [] pos) env=(do callWith pos (← eval func env) [] (backTo pos (starEach args env)) (backToKw pos (keywordEach [] env))):=by rfl) :
  wpC M A (eval (.Call func args [] pos) env) Q E s:=by
 rw [he]; exact wpC_bindA h
theorem callWithC_def {pos:Pos} {f:Addr} {o:Obj} {fd:FuncData} {e:Expr} {rest:List Expr} {Q:Value→Shared→Prop} (hdat:o.data=.func fd)
  (h:wpAny M A (spliced (backTo pos (starEach (e::rest) env))) (fun vs s₁=>s₁.heap.get? f=some o∧wpC M A (call (.ref f) vs) Q E s₁) E s)
  (he:starEach (e::rest) env=(false,eval e env)::starEach rest env:=by rfl) (hpl:(backTo pos (starEach rest env)).any (·.1)=false:=by rfl) :
  wpC M A (callWith pos (.ref f) [] (backTo pos (starEach (e::rest) env)) []) Q E s:=by
 rw [he] at h ⊢
 unfold callWith
 refine wpC_bindA (wpAny_holding (evalArgs_plain (wpAny_mono h (fun vs s₁ h₁=>?_) fun _ _ x=>x)))
 refine wpC_bindA (wpAny_standAt ?_)
 have tail:∀ {t:Sem Value},wpC M A t Q E s₁→wpC M A (t >>= fun r=>holding [r] point >>= fun _=>pure r) Q E s₁ :=
  fun ht=>wpC_bind (wpC_mono ht (fun r s₂ hr=>wpC_of (wpAny_bind (wpAny_holding (wpAny_point (wpAny_pure hr))))) fun _ _ x=>x)
 have hs:(((backTo pos ((false,eval e env)::starEach rest env)).any fun x=>x.fst) || ([]:List (Option Str × Sem Value)).any fun x=>x.fst.isNone)=false:=by
  rw [List.any_nil,Bool.or_false]
  show (false || (backTo pos (starEach rest env)).any (·.1))=false
  rw [hpl]; rfl
 have hk:wpAny M A (keeperOf (.ref f)) (fun k s'=>k=.frame∧s'=s₁) E s₁:=by
  unfold keeperOf
  refine wpAny_bind (wpAny_load h₁.1 ?_)
  rw [hdat]
  exact wpAny_pure ⟨rfl,rfl⟩
 simp -iota only [hs]
 refine wpC_bindA (wpAny_mono hk (fun k s' hk=>?_) fun _ _ x=>x)
 obtain ⟨rfl,rfl⟩:=hk
 dsimp only
 split
 ·exact tail h₁.2
 ·refine tail ?_
  unfold callMarked
  exact fun Γ p hΓ c=>by rw [Sem.wp_keep]; exact h₁.2 Γ p hΓ c
end
section
variable {prog:Program} {w:World} {A:Around} {E:Value→Shared→Prop} {R:Result→Shared→Prop} {s:Shared}
theorem notedC {α:Type} {env:Env} {m:Sem α} {Q:α→Shared→Prop} {M:Model} (h:wpC M A m Q (notedBy M A env E) s):wpC M A (m.onRaise fun x=>do noteFrame x env; theTreesLotGoes x) Q E s :=
 wpC_onRaise (wpC_mono h (fun _ _ q=>q) fun _ _ hx=>wpC_of (wpAny_bind (wpAny_mono hx (fun _ _ e=>wpAny_theTreesLotGoes e) fun _ _ e=>e)))
theorem codeC_forLoop {target it body env} (I:Nat→Shared→Prop)
  (turn:∀ n s,I n s→wpAny (model prog w) A (pyNext it) (fun r s₁=>match r with
   | none=>R (.ok .next) s₁
   | some v=>wpAny (model prog w) A (letOwnedTupleGo target it v) (fun _ s₁' =>
     wpAny (model prog w) A (assign target env v) (fun _ s₂=>wpC (model prog w) A (execs body env) (fun f s₃=>match f with
      | .next | .cont=>∃ m,m<n∧I m s₃
      | .brk=>R (.ok .next) s₃
      | .ret v=>R (.ok (.ret v)) s₃) (notedBy (model prog w) A env fun e s'=>R (.error e) s') s₂) (notedBy (model prog w) A env fun e s'=>R (.error e) s') s₁') (notedBy (model prog w) A env fun e s'=>R (.error e) s') s₁) (notedBy (model prog w) A env fun e s'=>R (.error e) s') s)
  (n:Nat) (h:I n s):codeC (model prog w) A (.forLoop target it body [] env) R s:=by
 refine codeC_loop rfl I (fun n s hI=>?_) n h
 show wpC _ A ((forTurn target it body [] env).onRaise (fun x=>do noteFrame x env; theTreesLotGoes x)) _ _ s
 refine notedC ?_
 simp -iota only [forTurn]
 refine wpC_bindA (wpAny_standAt (wpC_bindA (wpAny_onRaise (wpAny_mono (turn n s hI) (fun r s₁ h₁=>?_) fun _ _ h'=>wpAny_standAt h'))))
 cases r with
 | none=>exact wpC_pure (.inr ⟨rfl,codeC_of (codeAny_block (wpAny_execs_nil h₁))⟩)
 | some v =>
  refine wpC_bindA (wpAny_mono h₁ (fun _ s₁' h₁'=>?_) fun _ _ h'=>h')
  refine wpC_bindA (wpAny_mono h₁' (fun _ s₂ h₂=>wpC_bind (wpC_mono h₂ (fun f s₃ h₃=>?_) fun _ _ h'=>h')) fun _ _ h'=>h')
  cases f with
  | next=>exact wpC_pure (.inl ⟨rfl,h₃⟩)
  | cont=>exact wpC_pure (.inl ⟨rfl,h₃⟩)
  | brk=>exact wpC_pure h₃
  | ret v=>exact wpC_pure h₃
theorem codeC_func {body env}
  (h:wpC (model prog w) (A.deeper env) (execs body env) (fun f s'=>R (.ok (.ret (match f with | .ret v=>v | _=>.none))) s')
   (fun e s'=>wpAny (model prog w) (A.deeper env) (leaving env e) (fun _ s''=>R (.error e) s'') (fun e' s''=>R (.error e') s'') s') s):codeC (model prog w) A (.func body env) R s:=by
 refine codeC_of_tree ?_
 show wpC _ (A.deeper env) (do point; match ← (execs body env).onRaise (leaving env) with | .ret v=>ret v | _=>ret .none) _ _ s
 refine wpC_bindA (wpAny_point (wpC_bind (wpC_onRaise (wpC_mono h (fun f s' h'=>?_) fun _ _ h'=>wpC_of h'))))
 cases f <;> exact wpC_pure h'
theorem codeC_call_function {a:Addr} {args:Args} {o:Obj} {fd:FuncData} {body:List Stmt} (hroom:A.depth<recursionLimit)
  (ho:s.heap.get? a=some o)
  (hd':o.data=.func fd) (hco:fd.scope.isCoroutine=false) (hgen:fd.scope.isGenerator=false) (hbody:fd.body=.stmts body) (hcd:s.heap.CodeRec fd.code fd.qualname)
  (h:wpAny (model prog w) A.in1 (bindArgs fd args) (fun binds s₁ =>
   wpAny (model prog w) A.in1 (newFunctionEnv fd.scope fd.globals fd.closure binds (fd.qualname ++ ".<locals>.") (some a) fd.code none fd.builtins)
    (fun env s₂=>s₂.heap.NoLimit∧codeC (model prog w) A (.func body env) R s₂) (fun e s'=>R (.error e) s') s₁) (fun e s'=>R (.error e) s') s) :
  codeC (model prog w) A (.call (.ref a) args) R s:=by
 refine codeC_of_tree ?_
 show wpC _ A.in1 (callAny (.ref a) args) _ _ s
 simp -iota only [callAny]
 refine wpC_bindA (wpAny_load ho ?_)
 refine u43 hcd fun c oc vs tq hc hoc hdc hq=>?_; clear hcd
 rw [hd']
 dsimp only
 unfold callFunction
 rw [hco,hgen,hbody,hc]
 rw [hc] at h
 dsimp only
 refine wpC_bindA (m:=field (.ref c) 1) (wpAny_field hoc hdc hq (wpC_bindA (wpAny_pure ?_)))
 exact wpC_bindA (wpAny_mono h (fun binds s₁ h₁=>wpC_bindA (wpAny_mono h₁ (fun env s₂ h₂=>wpC_bindA (wpAny_enterFrame h₂.1 hroom
  (wpC_pure (And.intro rfl h₂.2)))) fun _ _ h'=>h')) fun _ _ h'=>h')
theorem enterC {x:Str} {a:Addr} {mg:Str→Option Value} (F:Fn x) (T:TK w mg s.heap) (ha:mg x=some (.ref a)) (hA:A.depth<recursionLimit) {pos:List Value} {kw:List (Str × Value)} {binds:List (Str × Value)} {Q:Value→Shared→Prop}
  (hb:∀ pm cd doc,BindsTo s (docDef x F.params F.body F.scope pm cd doc) ⟨pos,kw⟩ binds)
  (hloc:∀ y∈binds,F.scope.names.lookup y.1=some .local)
  (hcell:(F.scope.names.all fun x=>x.2 != .cell)=true)
  (h:∀ cd h₁,Fr s.heap s.heap.objs.size h₁ (fun y=>binds.reverse.lookup y) →
   wpC (model prog w) (A.deeper (envOf x F.scope s.heap.objs.size a cd)) (execs F.body (envOf x F.scope s.heap.objs.size a cd))
    (fun f s'=>Q (match f with | .ret v=>v | _=>.none) s') (fun _ _=>False)
    { s with heap:=h₁,toks:=s.toks+binds.length }) :
  wpC (model prog w) A (call (.ref a) pos kw) Q E s:=by
 refine u42 (T.at_ F ha) fun o pm cd doc ho hd hc=>?_
 refine wpC_call ?_
 refine codeC_call_function hA ho hd F.co F.gen rfl hc (hb pm cd doc _ _ _ _ ?_)
 refine wpAny_newFunctionEnv ?_ hloc (fun h₁ hns hsb=>⟨T.lim.fresh _ hsb,codeC_func (wpC_mono (h cd h₁ ⟨hns,fun b o e=>?_,Nat.le_refl _⟩) (fun _ _ x=>x) fun _ _ x=>x.elim)⟩) F.kind
 ·intro y hy e
  have:=List.all_eq_true.mp hcell y hy
  rw [e] at this
  exact absurd this (by decide)
 ·exact hsb.extBut b o (Nat.ne_of_lt (Heap.lt_size e)) (Heap.get?_push_of_some _ e)
end
section
variable {prog:Program} {w:World} {A:Around} {E:Value→Shared→Prop} {s:Shared} {env:Env}
theorem TryC {body orelse:List Stmt} {h₀:ExceptHandler} {hs:List ExceptHandler} {pos:Pos} {Q:Flow→Shared→Prop}
  (h:wpC (model prog w) A (execs body env) (fun f s₁=>match f with | .next=>wpAny (model prog w) A (execs orelse env) Q E s₁ | f=>Q f s₁)
   (fun e s₁=>wpAny (model prog w) A (noteFrame e env) (fun _ s₂=>wpAny (model prog w) A (setFlight e none) (fun _ s₃=>wpAny (model prog w) A (handleBy e env (h₀::hs)) Q E s₃) E s₂) E s₁) s) :
  wpC (model prog w) A (exec (.Try body (h₀::hs) orelse [] pos) env) Q E s:=by
 rw [arm_exec_Try]
 refine wpC_bindA (wpAny_standAt ?_)
 unfold tryStmt
 simp -iota only [List.isEmpty_nil,if_true,List.isEmpty_cons,Bool.false_and,Bool.false_eq_true,if_false]
 refine wpC_bind (wpC_attempt (wpC_mono h (fun f s₁ h₁=>?_) fun e s₁ h₁=>?_))
 ·cases f <;> first | exact wpC_of h₁ | exact wpC_pure h₁
 ·exact wpC_bindA (wpAny_mono h₁ (fun _ _ h₂=>wpC_bindA (wpAny_mono h₂ (fun _ _ h₃=>wpC_of h₃) fun _ _ x=>x)) fun _ _ x=>x)
end
section
variable {prog:Program} {w:World} {A:Around} {R:Result→Shared→Prop} {s:Shared}
theorem codeC_builtin {id:String} {args:Args} {b:Builtin} (hb:entryFor table id=some b)
  (h:wpC (model prog w) (A.under (.builtin id args)) (b args)
   (fun fin s'=>match fin with | .done f=>R (.ok f) s' | .again c'=>c'.quiet=true∧codeC (model prog w) A c' R s') (fun e s'=>R (.error e) s') s) :
  codeC (model prog w) A (.builtin id args) R s:=by
 refine codeC_of_tree ?_
 show wpC _ _ (match entryFor table id with | some b=>b args | none=>unsupported ((withoutEnding? id "#data").getD id)) _ _ s
 rw [hb]; exact h
theorem codeC_call_builtin {id:String} {args:Args} {b:Builtin} (hq:plainId id=true) (hb:entryFor table id=some b)
  (h:wpAny (model prog w) A.in1 (checkBuiltinCall id args) (fun _ s₁=>wpC (model prog w) A.in1 (b args)
   (fun fin s'=>match fin with | .done f=>R (.ok f) s' | .again c'=>c'.quiet=true∧codeC (model prog w) A c' R s') (fun e s'=>R (.error e) s') s₁)
   (fun e s'=>R (.error e) s') s):codeC (model prog w) A (.call (.builtin id) args) R s:=by
 refine codeC_of_tree ?_
 show wpC _ A.in1 (do checkBuiltinCall id args; again (.builtin id args)) _ _ s
 refine wpC_bindA (wpAny_mono h (fun _ s₁ h₁=>wpC_pure (And.intro (plainId_quiet hq args) (codeC_builtin hb ?_))) fun _ _ h'=>h')
 rw [Around.under_plainId hq args]; exact h₁
end
theorem in_caller:Cl (⟨.builtin "claim.caller" {},none,none,[],none⟩:PySem.Ctx):=by unfold Cl; decide +kernel
theorem endsC {prog:Program} {w:World} {t:Sem PySem.Fin} {s:Shared} {R:Result→Shared→Prop} (hreg:s.asleep)
  (h:wpC (model prog w) callerA t (fun fin s'=>∃ f,fin=.done f∧(R (.ok f) s'∧leftWithCleanup s'.gens=false)) (fun e s'=>R (.error e) s'∧leftWithCleanup s'.gens=false) s) :
  ∃ n r s' s'',runN (denote table) prog w n s ⟨t,.builtin "claim.caller" {},default,[]⟩=.halted (outcomeOf r) s' ∧
   schedN (denote table) prog w n (.single s ⟨t,.builtin "claim.caller" {},default,[]⟩)=.halted (outcomeOf r) s'∧s'.forget=s''.forget∧R r s'':=by
 have hw:Sem.wp (model prog w) ⟨.builtin "claim.caller" {},none,none,[],none⟩ t (Sem.finPost (model prog w) ⟨.builtin "claim.caller" {},none,none,[],none⟩ (fun r s'=>R r s'∧leftWithCleanup s'.gens=false)) (fun e _ s'=>R (.error e) s'∧leftWithCleanup s'.gens=false) default s:=by
  refine Sem.wp_mono _ _ t (fun fin p' s' h'=>?_) (fun _ _ _ h'=>h') default s (h _ default caller_in in_caller)
  refine u11 h' fun f z0 hf=>?_; clear h'; subst z0
  exact hf
 refine u43 (wp_halts_full (M:=model prog w) (R:=R) hreg hw) fun n r s₁ s₂ hs hn hfo hR=>?_
 exact (w43 n r s₂ s₁ hn hs hfo hR)
theorem callFromC {c:ClaimW} {tree:List Value→Sem PySem.Fin} {w:World} {s:Shared} {free:Addr→Prop} {gens:Prop} {kept:Heap→Prop} (hz:s.asleep) (hgens:s.gens=#[])
  (hspec:∀ args,c.pre args=true→WData.layableAll args=true →
   ∀ ord:List DictEntry→List DictEntry,(∀ l,(ord l).Perm l) →
   ∃ vs s₁,layAllW c.records (classAt s.heap) w.params ord args s=some (vs,s₁) ∧
    wpC (model c.prog w) callerA (tree vs) (fun fin s'=>∃ f,fin=.done f∧(c.Ends s args vs s₁ (.ok f) s'∧s'.os=s.os∧AllBare s'.gens∧kept s'.heap))
     (fun e s'=>c.Ends s args vs s₁ (.error e) s'∧s'.os=s.os∧AllBare s'.gens∧kept s'.heap) s₁) :
  c.CallFrom (fun vs=>⟨tree vs,.builtin "claim.caller" {},default,[]⟩) w free gens kept s:=by
 intro args hpre hlay ord hord
 refine u21 (hspec args hpre hlay ord hord) fun vs s₁ hlaid hcode=>?_
 have hal:=layAllW_rest _ _ _ hlaid
 refine u45 (endsC (prog:=c.prog) (w:=w) (t:=tree vs) (s:=s₁)
  (R:=fun r s'=>c.Ends s args vs s₁ r s'∧s'.os=s.os∧kept s'.heap)
  (Shared.asleep_of_life hal.2.2.2 hz)
  (wpC_mono hcode (by
   intro fin s' y0; refine u14 y0 fun f e h1 h2 h3 h4=>?_; clear y0
   exact (w12 f e ⟨h1,h2,h4⟩ (leftWithCleanup_false_of_bare h3))) (by
   intro e s' y0; refine u03 y0 fun h1 h2 h3 h4=>?_; clear y0
   exact ⟨⟨h1,h2,h4⟩,leftWithCleanup_false_of_bare h3⟩))) fun k r s' s'' hrun hsched hfo hcase hos hkp=>?_
 refine u04 (Shared.forget_eq hfo) fun eh _ _ eo _=>?_
 have hcase:=hcase.congr eh
 have hkp:kept s'.heap:=by first | exact eh▸hkp | (rw [eh] at hkp; exact hkp) | (rw [← eh] at hkp; exact hkp)
 rw [← eo] at hos
 have hlife:s'.heap.life=s.heap.life:=(runN_life _ _ _ hrun).trans hal.2.2.2
 refine (w21 vs s₁ hlaid ⟨k,_,s',hsched,?_,(fun _ i x hx=>by rw [hgens] at hx; simp at hx),hkp,by rw [hlife],Shared.rest_eq hos⟩)
 rcases hcase with ⟨v,rfl,d1,d2,d3,d4,d5⟩ | ⟨e,ob,cls,rfl,d1,d2,d3,d4,d5⟩
 ·exact .inl (w15 v rfl d1 d2 d3 (fun b o y _=>d4 b o y) d5)
 ·exact .inr (w35 e ob cls rfl d1 d2 d3 d4 (fun b o y _=>d5 b o y))
noncomputable abbrev WalkC (q:Program) (loose:List Str) (XP:(Str→Option Value)→Heap→Prop) (YP:World→Heap→Prop) (r:RowW):Prop :=
 ∀ (w:World) (s₀ s₁:Shared) (mg mb:Str→Option Value),Ground q loose r.records XP w s₀ mg mb s₁.heap→YP w s₁.heap→∀ (a:Addr),mg r.name=some (.ref a)→s₁.gens=#[] →
  ∀ (args:List WData) (vals:List Value) (as:List Addr),r.claim.pre args=true→WData.layableAll args=true→ReadsAllW r.records (classAt s₀.heap) s₁.heap vals args as →
   wpC (model r.prog w) callerA (PySem.call (.ref a) vals) (fun v s'=>GoodWG r.claim (classAt s₀.heap) (ExcName.means s₀.heap) args s₁ (.ok (.ret v)) s')
    (fun e s'=>GoodWG r.claim (classAt s₀.heap) (ExcName.means s₀.heap) args s₁ (.error e) s') s₁
theorem holdsC {r:OpenRow} {q:Program} {loose:List Str} {Xt:Shared→Bool} {XP:(Str→Option Value)→Heap→Prop} {α:Type} {Yf:Shared→α} {Ya:World→α} {YP:World→Heap→Prop} {d:DefRec} {kwd:List (Str × Expr)} {N:Nat}
  (left:LeftO r.prog q loose Xt Yf Ya N) (hY:∀ w s,Yf s=Ya w→YP w s.heap) (hYk:∀ w h h',YP w h→(∀ b o,h.get? b=some o→h'.get? b=some o)→YP w h')
  (hX:∀ s,Xt s=true→XP (s.heap.nsMap mainGlobals) s.heap) (hXk:∀ mg h h',XP mg h→(∀ b o,h.get? b=some o→h'.get? b=some o)→XP mg h')
  (hdef:defOf q r.name=some (d,kwd)) (hp:r.prog.theDef r.name=some (d.params,d.body,d.scope)) (hk:kwWritten? d.params.kwonlyargs d.params.kw_defaults=some kwd) (hRf:∀ s,Xt s=true→RecFacts r.records s.heap) (hwr:(!r.writes || r.records.isEmpty)=true)
  (k1:r.wellSaid=true) (ok:(chainsOk q && opensWell r.prog && (frees r.toRowW && r.within.isEmpty))=true) (hb:r.prog.bare) (hw:r.toRowW.promised)
  (call:WalkC q loose XP YP r.toRowW):r.Holds:=by
 refine ⟨k1,hw,?_⟩
 obtain ⟨ok,k5⟩:=Bool.and_eq_true_iff.mp ok
 obtain ⟨hch,o1⟩:=Bool.and_eq_true_iff.mp ok
 obtain ⟨k5,k6⟩:=Bool.and_eq_true_iff.mp k5
 refine u04 (frees_parts k5) fun hsame hu ha hap hm=>?_
 refine ⟨⟨hb,o1,by show r.makers.map _=[]; rw [hm]; rfl⟩,hw.witness,fun w=>⟨(left.behind hX hch w).1,fun s' hs'=>?_⟩⟩
 refine u12 ((left.behind (XP:=fun mg h=>XP mg h∧RecFacts r.records h) (fun s hs=>⟨hX s hs,hRf s hs⟩) hch w).2 s' hs') fun s₀ hf hg0 z0=>?_; refine u15 z0 fun s hT hz hgens hg G00 y=>?_; clear z0
 have G0:Ground q loose [] XP w s (s.heap.nsMap mainGlobals) (s.heap.nsMap builtinsNs) s.heap:=⟨G00.T,G00.B,G00.D,G00.TE,G00.TD,G00.W,G00.X.1,G00.cls,G00.has,G00.apart,G00.once,G00.K⟩
 have RF:=G00.X.2
 have hT':=hT
 refine (w12 s₀ hf hg0 ⟨s,hT,fun n hn=>?_,RF.1,RF.2.1,?_⟩)
 ·obtain rfl:n=r.name:=by split at hn <;> simp_all
  exact pinned_of_view hg G0 hdef hp hk
 have hgens:s.gens=#[]:=Array.eq_empty_of_size_eq_zero (beq_iff_eq.mp hgens)
 have G:Ground q loose r.records XP w s _ _ s.heap:=RF.ground G0
 refine callFromC (c:=r.claim) hz hgens fun args hpre hlay ord hord=>?_
 obtain ⟨⟨vs,s₁⟩,hlaid⟩:=Option.isSome_iff_exists.mp (layAllW_isSome (P:=w.params) (ord:=ord) G.has args r.args s (pre_splitW hpre).1)
 have keeps:=layAllW_keeps _ _ _ hlaid
 have hal:=layAllW_rest _ _ _ hlaid
 refine u12 (reads_layAllW hord _ _ _ hlaid hlay s₁.heap (fun _ _ e=>e)) fun as hrd hin hold=>?_
 have L:Laid r.records w s s₁ args vs as:=⟨(w11 ord hord hlaid),hrd,hin,hold,keeps,hal.1.trans hgens,hal.2.2.1⟩
 have G₁:=G.keeps hXk keeps
 refine u74 (G₁.fn hdef) fun a o pm cd doc dV kV h1 h2 h3 h4 h5=>?_
 have h:=call w s s₁ _ _ G₁ (hYk _ _ _ (hY w s y) keeps) a h1 L.gens args vs as hpre hlay L.reads
 have hi:=ident_freeW hu ha hap
 have hwi:r.claim.within=[]:=List.isEmpty_iff.mp k6
 refine (w21 vs s₁ hlaid ?_)
 show wpC _ callerA (do match ← nsGet mainNs r.name with
   | some f=>do ret (← PySem.call f vs)
   | none=>unsupported "claim.caller:no-such-global") _ _ s₁
 refine wpC_bindA (wpAny_nsGet G₁.T.g ?_)
 rw [h1]
 refine wpC_bind (wpC_mono h (fun v s' g=>wpC_pure ?_) fun e s' g=>?_)
 ·have z:=g.laid (c:=r.claim) hsame hwi hi L
  exact (w14 _ rfl z.1 z.2.1 z.2.2 (fun q=>⟨namesKept_of hT' hg _ keeps g.2.1.old,noTable hwr q⟩))
 ·have z:=g.laid (c:=r.claim) hsame hwi hi L
  exact ⟨z.1,z.2.1,z.2.2,fun q=>⟨namesKept_of hT' hg _ keeps g.2.1.old,noTable hwr q⟩⟩
theorem look2 {a b:Bool} (x:a=true) (y:b=true):(a && b)=true:=by rw [x,y]; rfl
set_option maxHeartbeats 0 in
theorem said:OpenLaw.wellSaid PySem.Challenge.rw_in0309_01=true:=by
 unfold OpenLaw.wellSaid
 refine look2 (look2 (look2 (look2 (look2 (look2 (look2 (look2 (look2 (look2 (look2 (look2 (look2 (look2 (look2 (look2 (look2 (look2 ?_ ?_) ?_) ?_) ?_) ?_) ?_) ?_) ?_) ?_) ?_) ?_) ?_) ?_) ?_) ?_) ?_) ?_) ?_
 all_goals decide +kernel
set_option maxHeartbeats 0 in
theorem hdC (hc:WalkC vw lsNames (XL vw []) SaysP rowO.toRowW):PySem.Challenge.rw_in0309_01.Holds:=by
 refine holds_law said fun said=>?_
 refine holdsC (q:=vw) (loose:=lsNames) (Xt:=fun s=>xlAt vw [] s && recOk (RowW.records rowO.toRowW) s) (XP:=XL vw []) (Yf:=Hook.obs HK2) (Ya:=Hook.val HK2) (YP:=Hook.says HK2) (N:=3382) (d:=theLaw.1) (kwd:=theLaw.2) left (Hook.of HK2) (Hook.keeps HK2) (fun s e=>xl_of s (Bool.and_eq_true_iff.mp e).1) XL.keeps ?h1 ?h2 ?h3 (fun s e=>recFacts_of (Bool.and_eq_true_iff.mp e).2) (by rfl) (by assumption) (by decide +kernel) ⟨rfl,rfl,rfl,rfl,rfl,by decide +kernel⟩ ?hw hc
 case h1=>exact rfl
 case h2=>exact rfl
 case h3=>exact rfl
 case hw=>w_witness2
theorem marked_no {own:List String} {codes:List Code} (h:codes.any Code.isCaller=true):pythonCodeMadeTheCall own codes=false:=by
 unfold pythonCodeMadeTheCall
 show ((!(codes.any Code.isCaller)) && _ && _)=false
 rw [h]; rfl
theorem markC {M:Model} {A:Around} {E:Value→Shared→Prop} {s:Shared} {own:List String} {e:Value} {Q:Unit→Shared→Prop} (h:Q () s):wpC M A (markTheRefusal own e) Q E s:=fun Γ p _ c=>by
 have hc:(((Γ.code,p)::Γ.below).map (·.1)).any Code.isCaller=true:=by
  rw [List.map_cons,List.any_cons,List.any_map]
  exact c
 have hp:=marked_no (own:=own) hc
 unfold markTheRefusal
 rw [Sem.wp_bind']
 unfold stack
 rw [Sem.wp_stack,Sem.wp_pure]
 dsimp only
 rw [hp,if_neg Bool.false_ne_true]
 exact h
section
variable {prog:Program} {w:World} {A:Around} {E:Value→Shared→Prop} {s:Shared}
open PySem.NumText
theorem ift_bad {x:List Nat} {t:Tok} {text:List Nat} {Q:Value→Shared→Prop} (hA:A.handled=none) (hx:x.length≤640) (hc:∀ c∈x,c<16 ^ 8)
  (hs:(text.takeWhile (· != 0)).length≤640) (hr:(int_private% "readNumeral") 0 10 (text.takeWhile (· != 0))=(int_private% "Numeral.invalid"))
  (h:∀ h' tk e,Kp s.heap h'→Heap.NewExc s.heap h' e "ValueError" → E (.ref e) { s with heap:=h',toks:=tk }) :
  wpC (model prog w) A ((int_private% "intFromText") (.str (S x) t) text 10) Q E s:=by
 show wpC (model prog w) A (if (text.takeWhile (· != 0)).length≤640 then _ else _) Q E s
 rw [if_pos hs]
 refine wpC_bindA (wpAny_pure ?_)
 dsimp only
 rw [hr]
 dsimp only
 refine wpC_bindA (wpAny_of_eq (a:=none) rfl ?_)
 rw [if_neg (by simp)]
 refine wpC_bindA (wpAny_rule (wpC_bindA (wpAny_of_eq (a:=none) rfl ?_)))
 dsimp only
 refine wpC_bindA (wpAny_pyRepr_str ?_ ?_)
 ·refine wpC_bindA (wpAny_mkStr ?_ ?_)
  ·refine wpC_bindA (wpAny_newExc_plain plainExc_ValueError fun h' e hm=>wpC_bind (markC (wpC_of (wpAny_raiseNew_none hA ?_))))
   exact h _ _ _ hm.keeps hm.newExc
  ·have e:∀ a b:Str,(a++b).length=a.length+b.length:=fun a b=>Array.size_append
   rw [e,sizeLine_eq]
   have h1:(Str.ofString (toString "invalid literal for int() with base " ++ toString 10++toString ": ")).length≤100:=by decide +kernel
   have h2:(⟨(reprText (S x)).cps.extract 0 200⟩:Str).length≤200:=by
    show ((reprText (S x)).cps.extract 0 200).size≤200
    rw [Array.size_extract]; exact q1 0x1903c810c6183250 1 841 (by kernel_rfl)
   exact q2 0x200000030002110c8180280ed64100017a 1 7 (by kernel_rfl) h1 h2
 ·have:=StrLaws.reprText_len (S x) hc
  rw [S_len x] at this
  rw [sizeLine_eq]; exact Nat.le_trans this (by exact q1 0x100000018681104088828010001aa 4 26 (by kernel_rfl) hx)
theorem int_new_bad {x:List Nat} {t u:Tok} {Q:PySem.Fin→Shared→Prop} (hA:A.handled=none) (hx:x.length≤640) (hc:∀ c∈x,c<16 ^ 8)
  (hs:(numSeenOf (S x)).length≤640) (hr:(int_private% "readNumeral") 0 10 (numSeenOf (S x))=(int_private% "Numeral.invalid"))
  (h:∀ h' tk e,Kp s.heap h'→Heap.NewExc s.heap h' e "ValueError" → E (.ref e) { s with heap:=h',toks:=tk }) :
  wpC (model prog w) A (Builtin.«int.__new__» ⟨[.type "int", .str (S x) t,.int 10 u],[]⟩) Q E s:=by
 have f1:=F.conv_sub_int
 have f2:=F.madeHere_int
 unfold Builtin.«int.__new__»
 dsimp only
 refine wpC_bindA (wpAny_of_eq (a:=true) (by kernel_rfl) ?_)
 rw [if_neg (by decide)]
 refine wpC_bindA (wpAny_of_eq f1 ?_)
 rw [if_neg (by decide)]
 refine wpC_bindA (wpAny_of_eq f2 ?_)
 rw [if_neg (by simp)]
 rw [if_neg (by simp)]
 refine wpC_bindA (wpAny_of_eq (a:=PUnit.unit) rfl ?_)
 dsimp only [List.head?_cons,List.getElem?_cons_succ,List.getElem?_cons_zero]
 rw [show ((some (Value.int 10 u) <|> Option.map (fun x=>x.snd) ([]:List (Str × Value)).head?))=some (.int 10 u) from rfl]
 dsimp only
 have hidx:wpAny (model prog w) A (Builtin.Int.intIndex "int.__new__" (.int 10 u)) (fun b s'=>b=10∧s'=s) E s:=by
  obtain ⟨hp,g,d,tk,os⟩:=s
  repeat (any_goals (first | assumption | wp_step))
  exact ⟨rfl,rfl⟩
 refine wpC_bindA (wpAny_mono hidx (fun b s' hb=>?_) fun _ _ e=>e)
 obtain ⟨rfl,rfl⟩:=hb
 rw [if_neg (by decide)]
 refine wpC_bindA (wpAny_of_eq (a:=some (numTextOf (S x))) rfl ?_)
 dsimp only
 refine wpC_bind (wpC_mono (ift_bad (Q:=fun _ _=>False) hA hx hc hs hr h) (fun _ _ hf=>hf.elim) fun _ _ e=>e)
theorem callInt_bad {x:List Nat} {t u:Tok} {Q:Value→Shared→Prop} (hA:A.handled=none) (hx:x.length≤640) (hc:∀ c∈x,c<16 ^ 8)
  (hs:(numSeenOf (S x)).length≤640) (hr:(int_private% "readNumeral") 0 10 (numSeenOf (S x))=(int_private% "Numeral.invalid"))
  (h:∀ h' tk e,Kp s.heap h'→Heap.NewExc s.heap h' e "ValueError" → E (.ref e) { s with heap:=h',toks:=tk }) :
  wpC (model prog w) A (call (.type "int") [.str (S x) t,.int 10 u]) Q E s:=by
 have ft:=F.called_int
 refine wpC_call (codeC_of_tree ?_)
 show wpC _ _ (callAny (.type "int") _) _ _ _
 refine wpC_pure ⟨Code.quiet_builtin _ (by decide +kernel),codeC_builtin F.entry_type_call ?_⟩
 rw [Around.under_plain (weight_type_call_type "int" _ []) (units_type_call_type "int" _ [])]
 unfold Builtin.«type.__call__»
 dsimp only
 rw [if_neg (by rw [ft.notType]; exact Bool.false_ne_true)]
 rw [if_neg (by rw [ft.canCreate]; exact Bool.false_ne_true)]
 refine wpC_bindA (wpAny_of_eq (a:=()) (by kernel_rfl) ?_)
 refine wpC_bindA (wpAny_of_eq F.mro_int ?_)
 rw [if_neg (by decide)]
 refine wpC_bindA (wpAny_of_eq ft.made ?_)
 refine wpC_bindA (wpAny_pure ?_)
 refine wpC_bind (wpC_holding (wpC_call (codeC_call_builtin ft.plain F.entry_int_new (wpAny_of_eq (a:=()) (by kernel_rfl) (wpC_mono (int_new_bad (Q:=fun _ _=>False) hA hx hc hs hr h) (fun _ _ hf=>hf.elim) fun _ _ e=>e)))))
set_option tactic.hygienic true in
theorem bad_digits:∀ (l:List Nat),(∀ c∈l,isD c=false)→digits? 10 l=none
 | [],_=>rfl
 | c::r,h=>by
  have hc:isD c=false:=h c (List.mem_cons_self ..)
  have hs:PySem.NumText.step 10 ((#[]:Array Nat),false) c=none:=by
   unfold PySem.NumText.step
   split
   ·rfl
   ·unfold digit?
    have hc':¬ (48≤c∧c≤57):=by
     intro hh
     rw [dig_of hh.1 hh.2] at hc; cases hc
    rw [if_neg (by simpa using hc')]
    split
    ·rename_i d hd
     split at hd
     ·rename_i h1
      simp at h1
      injection hd with hd
      rw [if_neg (by exact q2 0x50c0146215c400c5c8a2bd08006110b01763aa 1 1125 (by kernel_rfl) h1 hd)]
     ·split at hd
      ·rename_i h1
       simp at h1
       injection hd with hd
       rw [if_neg (by exact q2 0x28600a310dc400c5889ead08004110b01763aa 1 1125 (by kernel_rfl) h1 hd)]
      ·cases hd
    ·rfl
  unfold digits?
  rw [List.foldlM_cons,hs]
  rfl
theorem core_sub {l:List Nat} {c:Nat} (h:c∈core l):c∈l:=by
 unfold core at h
 rw [List.mem_reverse] at h
 have h:=(List.dropWhile_sublist _).mem h
 rw [List.mem_reverse] at h
 have hs:∀ l:List Nat,∀ c,c∈(sign l).2→c∈l:=by
  intro l c hc
  unfold sign at hc
  split at hc
  ·exact List.mem_cons_of_mem _ hc
  ·exact List.mem_cons_of_mem _ hc
  ·exact hc
 exact (List.dropWhile_sublist _).mem (hs _ _ h)
theorem numberText_id:∀ {x:List Nat},(∀ c∈x,c<127∨c=233)→∀ c∈Unicode.numberText x,c∈x∨c=63
 | [],_,c,h=>by simp [Unicode.numberText] at h
 | d::r,hx,c,h=>by
  have ih:=numberText_id (x:=r) (fun e he=>hx e (List.mem_cons_of_mem _ he))
  rw [Unicode.numberText] at h
  by_cases hd:d<127
  ·rw [if_pos hd] at h
   rcases List.mem_cons.mp h with e | h
   ·exact .inl (e▸List.mem_cons_self ..)
   ·rcases ih c h with q | q
    ·exact .inl (List.mem_cons_of_mem _ q)
    ·exact .inr q
  ·have e:d=233:=(hx d (List.mem_cons_self ..)).resolve_left hd
   subst e
   rw [if_neg (by decide),if_neg (by decide +kernel)] at h
   have hv:Unicode.decimalValue? 233=none:=by decide +kernel
   rw [hv] at h
   exact .inr (List.mem_singleton.mp h)
theorem num_chars {x:List Nat} (hx:∀ c∈x,(c<127∨c=233)∧c≠0∧isD c=false):∀ c∈numTextOf (S x),c≠0∧isD c=false:=by
 intro c hc
 unfold numTextOf at hc
 split at hc
 ·exact (hx c hc).2
 ·rcases numberText_id (fun d hd=>(hx d hd).1) c hc with q | q
  ·exact (hx c q).2
  ·subst q; decide
theorem bad_read {x:List Nat} (hx:∀ c∈x,(c<127∨c=233)∧c≠0∧isD c=false):(int_private% "readNumeral") 0 10 (numSeenOf (S x))=(int_private% "Numeral.invalid"):=by
 rw [readNumeral_ten,bad_digits _ fun c hc=>?_]
 ·exact judge_none
 ·exact (num_chars hx c ((List.takeWhile_sublist _).mem (core_sub hc))).2
end
section
open PySem.NumText
theorem vt_eq (x:List Nat):valN x=((digitsVal x:Nat):Int):=by
 suffices ∀ l:List Nat,valN l.reverse=((digitsVal l.reverse:Nat):Int) by
  have:=this x.reverse
  rwa [List.reverse_reverse] at this
 intro l
 induction l with
 | nil=>rfl
 | cons c r ih =>
  rw [List.reverse_cons,valN_snoc,digitsVal_snoc,ih]
  push_cast
  rw [Int.mul_comm]
theorem gives_text10 {x:PySem.Str} {t u:Tok} {n:Int} (hl:x.length≤640) (hn:PySem.intText? x=some n):Gives (Builtin.«int.__new__» ⟨[.type "int", .str x t,.int 10 u],[]⟩) (.int n) :=
 .of_wp fun M A E s Q h=>by
  obtain ⟨hp,g,d,tk,os⟩:=s
  have f1:=F.conv_sub_int
  have f2:=F.madeHere_int
  have hs:(numSeenOf x).length≤640:=Nat.le_trans (seen_length x) hl
  have hr:(int_private% "readNumeral") 0 10 (numSeenOf x)=(int_private% "Numeral.value") n∧((numSeenOf x).length == (numTextOf x).length)=true:=by
   rcases read0 x hs with ⟨m,h1,h2,h3⟩ | ⟨h1,_⟩
   ·rw [hn] at h1
    injection h1 with h1
    subst h1
    exact ⟨h3,h2⟩
   ·rw [hn] at h1
    cases h1
  have hk:=KIN.Hid.mk (And.intro hs hr)
  clear hs hr hl hn
  repeat (any_goals (first
   | assumption
   | ((with_reducible show wpAny _ _ ((int_private% "intFromText") _ _ _) _ _ _); refine KIN.wp_text hk.out.1 hk.out.2.1 hk.out.2.2 ?_)
   | wp_step))
  all_goals first | exact (w11 _ rfl h) | skip
end
section
variable {prog:Program} {w:World} {A:Around} {E:Value→Shared→Prop} {s:Shared}
theorem typeCall_int_2 (a b:Value):checkTypeCall "int" ⟨[a,b],[]⟩=pure ():=by kernel_rfl
theorem newCall_int_2 (a b:Value):checkBuiltinCall "int.__new__" ⟨[.type "int", a,b],[]⟩=pure ():=by kernel_rfl
theorem callInt_ok {x:List Nat} {t u:Tok} {Q:Value→Shared→Prop} (hx:x.length≤640) (hd:∀ c∈x,isD c=true) (hne:x≠[])
  (h:∀ t' k,Q (.int (valN x) t') { s with toks:=k }):wpAny (model prog w) A (call (.type "int") [.str (S x) t,.int 10 u]) Q E s:=by
 have hall:PySem.NumText.AllDigits (S x).cps.toList:=fun c hc=>by
  have:=dig_facts (hd c hc)
  exact ⟨this.1,this.2.1⟩
 have hn:PySem.intText? (S x)=some (valN x):=by
  rw [vt_eq]
  exact intText_digits hall hne (by rw [S_len]; exact q1 0x433040028010001aa 1 3 (by kernel_rfl) hx)
 exact callType_new F.called_int F.newNe_int (typeCall_int_2 _ _) (newCall_int_2 _ _) (fun obj=>F.args_object_init_3 obj _ _) F.entry_int_new
  (gives_text10 (by rw [S_len]; exact hx) hn).meets (show (Made.int (valN x)).post _ s from ⟨rfl,h _ _⟩)
end
noncomputable def mS (T:Array Nat) (s:Nat) (o:Bool) (pc pos hd:Nat) (mk:Array (Option Nat)) (lm li:Int) (fr:List PySem.Sre.Frame) (wt:Nat) (an:Option Bool) (sn:PySem.Sre.Seen):PySem.Sre.M :=
 { code:=#[14,4,0,1,4294967295,17,0,7,14,24,10,1,4294967295,13,5,22,48,57,0,1,15,17,15,13,11,9,0,26624,2147483648,0,0,0,0,0,0,15,2,0,17,1,1],text:=T,lim:=T.size,start:=s,lastStart:=T.size,pc:=pc,pos:=pos,handed:=hd,outermost:=o,marks:=mk,lastmark:=lm,lastindex:=li,frames:=fr,weight:=wt,answer:=an,seen:=sn }
noncomputable abbrev reW:Array Nat:=#[14,4,0,1,4294967295,17,0,7,14,24,10,1,4294967295,13,5,22,48,57,0,1,15,17,15,13,11,9,0,26624,2147483648,0,0,0,0,0,0,15,2,0,17,1,1]
noncomputable abbrev nS (s:Nat) (o:Bool):PySem.Sre.Frame:={ wait:=.nextStart,pc:=5,pos:=s,outermost:=o }
noncomputable abbrev nB (pc s:Nat) (o:Bool):PySem.Sre.Frame:={ wait:=.nextBranch,pc:=pc,pos:=s,outermost:=o,kept:={ lastmark:=0 } }
noncomputable abbrev gB (s n:Nat) (o:Bool):PySem.Sre.Frame:={ wait:=.giveBack,pc:=9,pos:=s+n,outermost:=o,count:=n,kept:={ lastmark:=0 } }
section
open PySem.Sre.M
variable {T:Array Nat} {s n:Nat} {o:Bool} {a b:Option Nat} {sn:PySem.Sre.Seen} {fr:List PySem.Sre.Frame} {hd:Nat}
theorem st1:(mS T s o 5 s hd #[a,b] (-1) (-1) fr 1 none sn).step=mS T s o 7 s hd #[some s,b] 0 (-1) fr 1 none (sn.add 17):=by kernel_rfl
theorem st2:(mS T s o 7 s hd #[a,b] 0 (-1) fr 1 none sn).step=mS T s o 9 s s #[a,b] 0 (-1) (nB 8 s o::fr) 2 none (sn.add 7):=by kernel_rfl
theorem st3:(mS T s o 9 s s #[a,b] 0 (-1) fr 2 none sn).step =
  if (1:Int)>(T.size:Int)-s then mS T s o 9 s s #[a,b] 0 (-1) fr 2 (some false) (sn.add 24) else
  match PySem.Sre.run reW T 13 (min 4294967295 ((T.size:Int)-s).toNat) s 0 ((sn.add 24).add 13) with
  | Except.error why=>(mS T s o 9 s s #[a,b] 0 (-1) fr 2 none (sn.add 24)).stick why
  | Except.ok (n,sn')=>if n<1 then mS T s o 9 s s #[a,b] 0 (-1) fr 2 (some false) sn' else mS T s o 20 (s+n) (s+n) #[a,b] 0 (-1) (gB s n o::fr) 3 none sn':=by kernel_rfl
theorem st4 {p h:Nat} {k:Nat}:(mS T s o 20 p h #[a,b] 0 (-1) fr k none sn).step=mS T s o 38 p h #[a,b] 0 (-1) fr k none (sn.add 15):=by kernel_rfl
theorem st4' {p h:Nat} {k:Nat}:(mS T s o 35 p h #[a,b] 0 (-1) fr k none sn).step=mS T s o 38 p h #[a,b] 0 (-1) fr k none (sn.add 15):=by kernel_rfl
theorem st5 {p h:Nat} {k:Nat}:(mS T s o 38 p h #[a,b] 0 (-1) fr k none sn).step=mS T s o 40 p h #[a,some p] 1 1 fr k none (sn.add 17):=by kernel_rfl
theorem st6 {p h:Nat} {k:Nat}:(mS T s o 40 p h #[a,b] 1 1 fr k none sn).step=mS T s o 40 p p #[a,b] 1 1 fr k (some true) (sn.add 1):=by cases o <;> kernel_rfl
theorem st7 {p h pc:Nat} {k:Nat} {f:Nat} {x:Bool}:(mS T s o pc p h #[a,b] 1 1 (gB s f x::fr) k (some true) sn).step=mS T s x 9 (s+f) h #[a,b] 1 1 fr (k-1) (some true) sn:=by kernel_rfl
theorem st8 {p h pc pc' q:Nat} {k:Nat} {x:Bool}:(mS T s o pc p h #[a,b] 1 1 (nB pc' q x::fr) k (some true) sn).step=mS T s x pc' q h #[a,b] 1 1 fr (k-1) (some true) sn:=by kernel_rfl
theorem st9 {p h pc q:Nat} {k:Nat} {x:Bool}:(mS T s o pc p h #[a,b] 1 1 (nS q x::fr) k (some true) sn).step=mS T s x 5 q h #[a,b] 1 1 fr (k-1) (some true) sn:=by kernel_rfl
theorem st10 {p h pc:Nat} {lm li:Int} {k:Nat} {y:Bool}:(mS T s o pc p h #[a,b] lm li [] k (some y) sn).step={ mS T s o pc p h #[a,b] lm li [] k (some y) sn with outcome:=some (if y then .matched else .failed) }:=by kernel_rfl
theorem st11 {p h pc:Nat} {x:Bool}:(mS T s o pc p h #[a,b] 0 (-1) (nB 8 s x::fr) 2 (some false) sn).step=mS T s x 23 s s #[a,b] 0 (-1) (nB 22 s x::fr) 2 none sn:=by kernel_rfl
theorem st12 {h:Nat}:(mS T s o 23 s h #[a,b] 0 (-1) fr 2 none sn).step =
  if s ≥ T.size then mS T s o 23 s h #[a,b] 0 (-1) fr 2 (some false) (sn.add 13) else
  match PySem.Sre.accepts reW 23 (T.getD s 0) (sn.add 13) with
  | Except.error why=>(mS T s o 23 s h #[a,b] 0 (-1) fr 2 none (sn.add 13)).stick why
  | Except.ok (false,sn')=>mS T s o 23 s h #[a,b] 0 (-1) fr 2 (some false) sn'
  | Except.ok (true,sn')=>mS T s o 35 (s+1) h #[a,b] 0 (-1) fr 2 none sn':=by kernel_rfl
theorem st13 {p h pc:Nat} {x:Bool}:(mS T s o pc p h #[a,b] 0 (-1) (nB 22 s x::fr) 2 (some false) sn).step=mS T s x 22 s h #[a,b] 0 (-1) fr 1 (some false) sn:=by kernel_rfl
theorem st14 {p h pc:Nat} {x:Bool}:(mS T s o pc p h #[a,b] 0 (-1) [nS s x] 1 (some false) sn).step =
  if s<T.size then mS T (s+1) false 5 (s+1) (s+1) #[a,b] (-1) (-1) [nS (s+1) false] 1 none sn else mS T s x 5 s h #[a,b] 0 (-1) [] 0 (some false) sn:=by kernel_rfl
end
section
open PySem.Sre.M
theorem acc13 (c:Nat) (sn:PySem.Sre.Seen):PySem.Sre.accepts reW 13 c sn=if (decide (48≤c) && decide (c≤57))=true then Except.ok (true,sn.add 22) else Except.ok (false,(sn.add 22).add 0):=by kernel_rfl
theorem isD_iff (c:Nat):(decide (48≤c) && decide (c≤57))=isD c:=by
 rw [Bool.eq_iff_iff,Bool.and_eq_true,decide_eq_true_eq,decide_eq_true_eq]
 exact ⟨fun h=>dig_of h.1 h.2,fun h=>⟨(dig_facts h).1,(dig_facts h).2.1⟩⟩
theorem acc13' (c:Nat) (sn:PySem.Sre.Seen):∃ sn',PySem.Sre.accepts reW 13 c sn=Except.ok (isD c,sn'):=by
 rw [acc13,isD_iff]
 cases h:isD c with
 | true=>exact ⟨_,rfl⟩
 | false=>exact ⟨_,rfl⟩
theorem acc23 (c:Nat) (sn:PySem.Sre.Seen):PySem.Sre.accepts reW 23 c sn=if (decide (c<256) && (reW.getD (25+(1+c/32)) 0).testBit (c % 32))=true then Except.ok (true,sn.add 9) else Except.ok (false,(sn.add 9).add 0):=by kernel_rfl
theorem sep_all:∀ c,c<256→(reW.getD (25+(1+c/32)) 0).testBit (c % 32)=decide (c∈seps):=by decide +kernel
theorem sep_iff (c:Nat):(decide (c<256) && (reW.getD (25+(1+c/32)) 0).testBit (c % 32))=decide (c∈seps):=by
 by_cases h:c<256
 ·rw [decide_eq_true h,Bool.true_and,sep_all c h]
 ·rw [decide_eq_false h,Bool.false_and]
  symm
  apply decide_eq_false
  simp only [List.mem_cons,List.not_mem_nil,or_false]
  exact q1 0x2d1002ac400859ef88010bbdc20042cf100100181da 1 1755 (by kernel_rfl) h
theorem acc23' (c:Nat) (sn:PySem.Sre.Seen):∃ sn',PySem.Sre.accepts reW 23 c sn=Except.ok (decide (c∈seps),sn'):=by
 rw [acc23,sep_iff]
 cases h:decide (c∈seps) with
 | true=>exact ⟨_,rfl⟩
 | false=>exact ⟨_,rfl⟩
theorem getD_at {x:List Nat} {s c:Nat} {r:List Nat} (h:x.drop s=c::r):x.toArray.getD s 0=c:=by
 have h1:x[s]?=some c:=by
  have:=congrArg (fun l=>l[0]?) h
  simpa [List.getElem?_drop] using this
 rw [Array.getD_eq_getD_getElem?,List.getElem?_toArray,h1]
 rfl
theorem run13 (x:List Nat):∀ (l:List Nat) (p found:Nat) (sn:PySem.Sre.Seen),x.drop p=l→∃ sn',PySem.Sre.run reW x.toArray 13 l.length p found sn=Except.ok (found+(l.takeWhile isD).length,sn')
 | [],p,found,sn,_=>⟨sn,rfl⟩
 | c::r,p,found,sn,h=>by
  obtain ⟨sn1,h1⟩:=acc13' c sn
  have hr:x.drop (p+1)=r:=by rw [← List.drop_drop,h]; rfl
  rw [List.length_cons,PySem.Sre.run,getD_at h,h1]
  show ∃ sn',(if isD c=true then PySem.Sre.run reW x.toArray 13 r.length (p+1) (found+1) sn1 else Except.ok (found,sn1))=_
  rw [List.takeWhile_cons]
  cases hc:isD c with
  | true =>
   obtain ⟨sn2,h2⟩:=run13 x r (p+1) (found+1) sn1 hr
   refine ⟨sn2,?_⟩
   rw [if_pos rfl,h2,if_pos rfl,List.length_cons,Nat.add_assoc,Nat.add_comm 1]
  | false=>exact ⟨sn1,rfl⟩
theorem rf {T:Array Nat} {s:Nat} {o:Bool} {pc pos hd:Nat} {mk:Array (Option Nat)} {lm li:Int} {fr:List PySem.Sre.Frame} {wt:Nat} {an:Option Bool} {sn:PySem.Sre.Seen} (k:Nat) :
  runFor (k+1) (mS T s o pc pos hd mk lm li fr wt an sn)=runFor k (mS T s o pc pos hd mk lm li fr wt an sn).step:=rfl
theorem st3n {x:List Nat} {s:Nat} {o:Bool} {a b:Option Nat} {fr:List PySem.Sre.Frame} {sn:PySem.Sre.Seen} {c:Nat} {r:List Nat} (h:x.drop s=c::r) (hx:x.length≤100000):∃ sn',(mS x.toArray s o 9 s s #[a,b] 0 (-1) fr 2 none sn).step =
  if isD c then mS x.toArray s o 20 (s+((c::r).takeWhile isD).length) (s+((c::r).takeWhile isD).length) #[a,b] 0 (-1) (gB s ((c::r).takeWhile isD).length o::fr) 3 none sn' else mS x.toArray s o 9 s s #[a,b] 0 (-1) fr 2 (some false) sn':=by
 have hl:(c::r).length=x.length-s:=by rw [← h,List.length_drop]
 have hlt:s<x.length:=by
  simp only [List.length_cons] at hl; exact q3 0x4200618200a7100211234a 1 25 (by kernel_rfl) hl
 obtain ⟨sn1,h1⟩:=run13 x (c::r) s 0 ((sn.add 24).add 13) h
 have hm:min 4294967295 (((x.toArray).size:Int)-s).toNat=(c::r).length:=by
  rw [hl,List.size_toArray]; exact q2 0x4000e000073fffffffe248c92586a0100021a 1 0x120cc3204a1284450843 (by kernel_rfl) hx
 rw [st3,if_neg (by rw [List.size_toArray]; exact q2 0x46001262a91000111a 1 3 (by kernel_rfl) hlt),hm,h1]
 refine ⟨sn1,?_⟩
 dsimp only
 rw [List.takeWhile_cons,Nat.zero_add]
 cases hc:isD c with
 | true=>simp
 | false=>simp
theorem st12n {x:List Nat} {s h:Nat} {o:Bool} {a b:Option Nat} {fr:List PySem.Sre.Frame} {sn:PySem.Sre.Seen} {c:Nat} {r:List Nat} (hx:x.drop s=c::r):∃ sn',(mS x.toArray s o 23 s h #[a,b] 0 (-1) fr 2 none sn).step =
  if c∈seps then mS x.toArray s o 35 (s+1) h #[a,b] 0 (-1) fr 2 none sn' else mS x.toArray s o 23 s h #[a,b] 0 (-1) fr 2 (some false) sn':=by
 have hl:(c::r).length=x.length-s:=by rw [← hx,List.length_drop]
 have hlt:s<x.length:=by
  simp only [List.length_cons] at hl; exact q3 0x4200618200a7100211234a 1 25 (by kernel_rfl) hl
 obtain ⟨sn1,h1⟩:=acc23' c (sn.add 13)
 rw [st12,if_neg (by rw [List.size_toArray]; exact q2 0x200a11000111a 1 3 (by kernel_rfl) hlt),getD_at hx,h1]
 refine ⟨sn1,?_⟩
 by_cases hc:c∈seps
 ·rw [decide_eq_true hc,if_pos hc]
 ·rw [decide_eq_false hc,if_neg hc]
theorem runFor_some:∀ (n:Nat) (m:PySem.Sre.M),m.outcome.isSome=true→runFor n m=m
 | 0,_,_=>rfl
 | n+1,m,h=>by rw [runFor,if_pos h]
theorem runFor_add:∀ (a b:Nat) (m:PySem.Sre.M),runFor (a+b) m=runFor b (runFor a m)
 | 0,b,m=>by rw [Nat.zero_add]; rfl
 | a+1,b,m=>by
  by_cases h:m.outcome.isSome=true
  ·rw [runFor_some _ m h,runFor_some _ m h,runFor_some _ m h]
  ·rw [Nat.add_right_comm,runFor,if_neg h,runFor,if_neg h,runFor_add a b]
noncomputable def fnd:List Nat→Nat→Option (Nat × Nat)
 | [],_=>none
 | c::r,s=>if isD c then some (s,s+((c::r).takeWhile isD).length) else if c∈seps then some (s,s+1) else fnd r (s+1)
noncomputable def Found (m:PySem.Sre.M):Option (Nat × Nat)→Prop
 | some (b,e)=>m.outcome=some .matched∧m.start=b∧m.handed=e∧m.lastmark=1∧m.marks=#[some b,some e]
 | none=>m.outcome=some .failed
theorem runFor_0 (m:PySem.Sre.M):runFor 0 m=m:=rfl
theorem found10 {T:Array Nat} {s:Nat} {o:Bool} {pc p h k:Nat} {sn:PySem.Sre.Seen}:Found (runFor 1 (mS T s o pc p h #[some s,some h] 1 1 [] k (some true) sn)) (some (s,h)) :=
 ⟨by kernel_rfl,by kernel_rfl,by kernel_rfl,by kernel_rfl,by kernel_rfl⟩
theorem foundN {T:Array Nat} {s:Nat} {o:Bool} {pc p h k:Nat} {a b:Option Nat} {lm li:Int} {sn:PySem.Sre.Seen}:Found (runFor 1 (mS T s o pc p h #[a,b] lm li [] k (some false) sn)) none:=by unfold Found; kernel_rfl
theorem search (x:List Nat) (hx:x.length≤100000):∀ (l:List Nat) (s:Nat) (o:Bool) (a b:Option Nat) (sn:PySem.Sre.Seen),x.drop s=l→s≤x.length →
  ∃ k,k≤7*l.length+11∧Found (runFor k (mS x.toArray s o 5 s s #[a,b] (-1) (-1) [nS s o] 1 none sn)) (fnd l s)
 | [],s,o,a,b,sn,h,hs=>by
  have hsx:s=x.length:=by
   have:=congrArg List.length h
   rw [List.length_drop] at this
   simp at this; exact q2 0x8001600a62243d5000011a 1 582194 (by kernel_rfl) hs this
  have hz:x.toArray.size=s:=by rw [List.size_toArray,hsx]
  refine (w11 8 (by simp) ?_)
  rw [rf,st1,rf,st2,rf,st3,if_pos (by rw [hz]; exact q1 290852 1 1 (by kernel_rfl)),rf,st11,rf,st12,if_pos (by rw [hz]; exact Nat.le_refl _),rf,st13,rf,st14,if_neg (by rw [hz]; exact Nat.lt_irrefl _)]
  exact foundN
 | c::r,s,o,a,b,sn,h,hs=>by
  have hl:(c::r).length=x.length-s:=by rw [← h,List.length_drop]
  have hlt:s<x.length:=by
   simp only [List.length_cons] at hl; exact q3 0x4200618200a7100211234a 1 25 (by kernel_rfl) hl
  obtain ⟨sn3,h3⟩:=st3n (o:=o) (a:=some s) (b:=b) (fr:=[nB 8 s o,nS s o]) (sn:=(sn.add 17).add 7) h hx
  by_cases hd:isD c=true
  ·rw [if_pos hd] at h3
   refine (w11 10 (by simp only [List.length_cons]; exact q1 0xb188017034202a1080 1 1 (by kernel_rfl)) ?_)
   rw [rf,st1,rf,st2,rf,h3,rf,st4,rf,st5,rf,st6,rf,st7,rf,st8,rf,st9]
   unfold fnd
   rw [if_pos hd]
   exact found10
  ·rw [if_neg hd] at h3
   obtain ⟨sn4,h4⟩:=st12n (o:=o) (h:=s) (a:=some s) (b:=b) (fr:=[nB 22 s o,nS s o]) (sn:=sn3) h
   by_cases hc:c∈seps
   ·rw [if_pos hc] at h4
    refine (w11 11 (by simp) ?_)
    rw [rf,st1,rf,st2,rf,h3,rf,st11,rf,h4,rf,st4',rf,st5,rf,st6,rf,st8,rf,st9]
    unfold fnd
    rw [if_neg hd,if_pos hc]
    exact found10
   ·rw [if_neg hc] at h4
    have hr:x.drop (s+1)=r:=by rw [← List.drop_drop,h]; rfl
    refine u11 (search x hx r (s+1) false (some s) b sn4 hr hlt) fun k hk hf=>?_
    refine (w11 (7+k) (by simp only [List.length_cons]; exact q2 0xb18c014b81a12971072130b18703414200034a 1 3 (by kernel_rfl) hk) ?_)
    have e7:runFor 7 (mS x.toArray s o 5 s s #[a,b] (-1) (-1) [nS s o] 1 none sn)=mS x.toArray (s+1) false 5 (s+1) (s+1) #[some s,b] (-1) (-1) [nS (s+1) false] 1 none sn4:=by
     rw [rf,st1,rf,st2,rf,h3,rf,st11,rf,h4,rf,st13,rf,st14,if_pos (by rw [List.size_toArray]; exact hlt),runFor_0]
    rw [runFor_add,e7]
    unfold fnd
    rw [if_neg hd,if_neg hc]
    exact hf
end
section
open PySem.Sre.M PySem.Builtin.Re
variable {M:Model} {A:Around} {E:Value→Shared→Prop} {s:Shared}
theorem forIn_any {α β:Type} {f:α→β→Sem (ForInStep β)} {Q:β→Shared→Prop} (I:Nat→β→Shared→Prop)
  (turn:∀ k a b s,I (k+1) b s→wpAny M A (f a b) (fun r s'=>∃ b',r=ForInStep.yield b'∧I k b' s') E s) (fin:∀ b s,I 0 b s→Q b s) :
  ∀ (l:List α) (b:β) (s:Shared),I l.length b s→wpAny M A (forIn l b f) Q E s
 | [],b,s,h=>by
  rw [List.forIn_nil]
  exact wpAny_pure (fin b s h)
 | a::l,b,s,h=>by
  rw [List.forIn_cons]
  refine wpAny_bind (wpAny_mono (turn l.length a b s h) (fun r s' hr=>?_) fun _ _ e=>e)
  refine u11 hr fun b' z0 hb=>?_; clear hr; subst z0
  exact forIn_any I turn fin l b' s' hb
theorem drive {Q:PySem.Sre.M→Shared→Prop}:∀ (f k:Nat) (m:PySem.Sre.M),k≤4*f→0<f→(runFor k m).outcome.isSome=true→Q (runFor k m) s→wpAny M A (reDrive f m) Q E s
 | 0,_,_,_,h0,_,_=>absurd h0 (by exact q0 196888 1 1 (by kernel_rfl))
 | f+1,k,m,hk,_,ho,hq=>by
  unfold reDrive
  dsimp only
  show wpAny M A (if (runFor 4 m).outcome.isSome=true then pure (runFor 4 m) else do rule "sre.turn"; reDrive f (runFor 4 m)) Q E s
  by_cases h4:(runFor 4 m).outcome.isSome=true
  ·rw [if_pos h4]
   have e:runFor 4 m=runFor k m:=by
    rcases Nat.le_total k 4 with h | h
    ·obtain ⟨d,hd⟩:=Nat.exists_eq_add_of_le h
     rw [hd,runFor_add,runFor_some _ _ ho]
    ·obtain ⟨d,rfl⟩:=Nat.exists_eq_add_of_le h
     rw [runFor_add,runFor_some _ _ h4]
   rw [e]
   exact wpAny_pure hq
  ·rw [if_neg h4]
   have hk4:4≤k:=by
    rcases Nat.le_total 4 k with h | h
    ·exact h
    ·exfalso
     obtain ⟨d,hd⟩:=Nat.exists_eq_add_of_le h
     apply h4
     rw [hd,runFor_add,runFor_some _ _ ho]; exact ho
   obtain ⟨d,rfl⟩:=Nat.exists_eq_add_of_le hk4
   rw [runFor_add] at ho hq
   have hf:0<f:=by
    rcases Nat.eq_zero_or_pos f with h | h
    ·subst h
     exfalso
     have hd:d=0:=by exact q1 0x10028c04a01a4107213040a 1 14 (by kernel_rfl) hk
     subst hd
     exact h4 ho
    ·exact h
   exact wpAny_bind (wpAny_rule (drive f d _ (by exact q2 0x840340008c014a01a4107213044a 1 3 (by kernel_rfl) hk) hf ho hq))
theorem toEnd {m:PySem.Sre.M} {k:Nat} {Q:Option PySem.Sre.M→Shared→Prop} (hk:k≤1000000) (r:Option (Nat × Nat)) (hf:Found (runFor k m) r)
  (h:Q (r.map fun _=>runFor k m) s):wpAny M A (reRunToEnd m) Q E s:=by
 have ho:(runFor k m).outcome.isSome=true:=by
  cases r with
  | none=>rw [show (runFor k m).outcome=some .failed from hf]; rfl
  | some p=>rw [show (runFor k m).outcome=some .matched from hf.1]; rfl
 unfold reRunToEnd
 refine wpAny_bind (drive (2 ^ 64) k m (by walk_at "li") (by decide) ho ?_)
 refine wpAny_bind (forIn_any (fun _ _ s'=>s'=s) (fun j a b s' hs=>?_) (fun b s' hs=>?_) _ _ _ rfl)
 ·subst hs
  split
  ·exact wpAny_bind (wpAny_rule (wpAny_pure (w11 _ rfl rfl)))
  ·exact wpAny_pure (w11 _ rfl rfl)
 ·subst hs
  cases r with
  | none =>
   rw [show (runFor k m).outcome=some .failed from hf]
   exact wpAny_pure h
  | some p =>
   rw [show (runFor k m).outcome=some .matched from hf.1]
   exact wpAny_pure h
theorem fs_eq (x:List Nat) (p:Nat):PySem.Sre.forSearch reW x.toArray 1 p x.toArray.size false=if (decide (p>x.toArray.size) || decide (x.toArray.size-p<1))=true then { (mS x.toArray p true 5 p p #[none,none] (-1) (-1) [] 0 (some false) (({}:PySem.Sre.Seen).add 14)) with lastStart:=0 } else mS x.toArray p true 5 p p #[none,none] (-1) (-1) [nS p true] 1 none (({}:PySem.Sre.Seen).add 14):=by kernel_rfl
theorem fs_fail (T:Array Nat) (p:Nat) (sn:PySem.Sre.Seen):Found (runFor 1 { (mS T p true 5 p p #[none,none] (-1) (-1) [] 0 (some false) sn) with lastStart:=0 }) none:=by unfold Found; kernel_rfl
theorem nextFound {x:List Nat} {pat str:Value} {p:Nat} {Q:Option PySem.Sre.M→Shared→Prop} (hx:x.length≤100000) (hp:p≤x.length)
  (h:∀ m,Found m (fnd (x.drop p) p)→Q ((fnd (x.drop p) p).map fun _=>m) s) :
  wpAny M A (reNextFound { pattern:=pat,string:=str,code:=reW,text:=x.toArray,kind:=0,groups:=1,pos:=0,lim:=x.toArray.size } p false) Q E s:=by
 unfold reNextFound
 dsimp only
 rw [fs_eq]
 by_cases hlt:p<x.length
 ·rw [if_neg (by rw [List.size_toArray]; simp only [Bool.or_eq_true,decide_eq_true_eq]; exact q2 0x8c014c44600a222f1000111a 1 175 (by kernel_rfl) hlt)]
  refine u11 (search x hx (x.drop p) p true none none (({}:PySem.Sre.Seen).add 14) rfl hp) fun k hk hf=>?_
  have hl:(x.drop p).length≤x.length:=by rw [List.length_drop]; exact q2 268448016 1 5 (by kernel_rfl)
  exact toEnd (k:=k) (by exact q3 0x3d0900600a1003009558c1c0d054a00a075586a0100021a 3 975 (by kernel_rfl) hx hk hl) _ hf (h _ hf)
 ·have hpe:p=x.length:=by exact q2 0x4000a000302b5000011a 1 46 (by kernel_rfl) hp hlt
  subst hpe
  rw [if_pos (by rw [List.size_toArray]; simp only [Bool.or_eq_true,decide_eq_true_eq]; exact q1 2382639127 1 18 (by kernel_rfl))]
  have e:fnd (x.drop x.length) x.length=none:=by rw [List.drop_length]; rfl
  refine toEnd (k:=1) (by exact q0 0x1e848031050 1 1 (by kernel_rfl)) none (fs_fail _ _ _) ?_
  have:=h _ (by rw [e]; exact fs_fail x.toArray x.length (({}:PySem.Sre.Seen).add 14))
  rw [e] at this
  exact this
end
noncomputable def pcsF:Nat→List Nat→Txts
 | 0,l=>[l]
 | k+1,l=>match l.dropWhile isT with
  | []=>[l.takeWhile isT]
  | c::r=>if isD c then l.takeWhile isT::(c::r).takeWhile isD::pcsF k ((c::r).dropWhile isD) else l.takeWhile isT::[c]::pcsF k r
theorem fnd_eq:∀ (l:List Nat) (s:Nat),fnd l s=match l.dropWhile isT with
  | []=>none
  | c::r=>if isD c then some (s+(l.takeWhile isT).length,s+(l.takeWhile isT).length+((c::r).takeWhile isD).length) else some (s+(l.takeWhile isT).length,s+(l.takeWhile isT).length+1)
 | [],s=>rfl
 | c::r,s=>by
  have ih:=fnd_eq r (s+1)
  unfold fnd
  by_cases hd:isD c=true
  ·have ht:isT c=false:=by
    unfold isT
    rw [decide_eq_true (dig_facts hd).2.2.2]; rfl
   rw [if_pos hd,List.dropWhile_cons,ht,List.takeWhile_cons (p:=isT),ht]
   simp [hd]
  ·by_cases hs:c∈seps
   ·have ht:isT c=false:=by
     unfold isT
     rw [decide_eq_true (seps_in c hs).1]; rfl
    rw [if_neg hd,if_pos hs,List.dropWhile_cons,ht,List.takeWhile_cons (p:=isT),ht]
    simp [hd]
   ·have ht:isT c=true:=by
     exact isT_of (by simpa using hd) hs
    rw [if_neg hd,if_neg hs,ih,List.dropWhile_cons,ht,List.takeWhile_cons (p:=isT),ht]
    simp only [if_true]
    cases e:r.dropWhile isT with
    | nil=>rfl
    | cons d q =>
     have e1:s+1+(List.takeWhile isT r).length=s+(c::List.takeWhile isT r).length:=by simp; exact q2 0x8c014800a11002112222 1 3 (by kernel_rfl)
     simp only [e1]
namespace BP
theorem entry_split:entryFor table "re.Pattern.split" = some Builtin.«re.Pattern.split»:=entryFor_of_tree (by kernel_rfl)
theorem plainAttrs:PlainAttrs "re.Pattern" :=
 ⟨(w11 ("object.__getattribute__") (by rw [typeLookup_type,builtinLookup_eq_fast]; kernel_rfl) (by decide +kernel)),by rw [typeLookup_type,builtinLookup_eq_fast]; kernel_rfl⟩
theorem slot_split:Slot "re.Pattern" "split" "re.Pattern.split" :=
 .of (owner := "re.Pattern") (n := "split") (by rw [typeLookup_type,builtinLookup_eq_fast]; kernel_rfl) (by decide +kernel) (by decide +kernel) (by decide +kernel)
  (by first | exact .inl (by decide +kernel) | exact .inr (by decide +kernel)) (by rw [isSubtype_type]; kernel_rfl)
theorem type_split:typeOf (.builtin "re.Pattern.split")=pure (.type "method_descriptor"):=by show builtinType _=_; rw [builtinType_eq_fast]; kernel_rfl
theorem args_split (a b:Value):argsOk "re.Pattern.split" ⟨[a,b],[]⟩:=by unfold argsOk; kernel_rfl
end BP
theorem reWords_map:(reWords.map (·.toNat)).toArray=reW:=by rfl
section
variable {prog:Program} {w:World} {A:Around} {E:Value→Shared→Prop} {s:Shared}
theorem gmSplit {pl:Sem Bool} {Q:Value × List Value→Shared→Prop} (ho:s.heap.get? 43=some ⟨.type "re.Pattern", none,.fields #[.str "([0-9]+|[._+-])" 292,.int 32 336,.int 1 0,.none,.none,.ref 42,.int 0 0],#[]⟩) (h:Q (.builtin "re.Pattern.split", [.ref 43]) s) :
  wpAny (model prog w) A (getMethod (.ref 43) "split" pl) Q E s :=
 getMethod_builtin (T := "re.Pattern") (w11 _ ho rfl) BP.plainAttrs BP.slot_split BP.type_split (fun a e=>by cases e; exact (w11 _ ho rfl)) h
theorem wholeT {x:List Nat} {t:Tok} {Q:Builtin.Re.ReTarget→Shared→Prop} (ho:s.heap.get? 43=some ⟨.type "re.Pattern", none,.fields #[.str "([0-9]+|[._+-])" 292,.int 32 336,.int 1 0,.none,.none,.ref 42,.int 0 0],#[]⟩)
  (hw:s.heap.get? 42=some ⟨.type "tuple", none,.seq (reWords.map fun i=>Value.int i 0).toArray 0,#[]⟩)
  (h:Q { pattern:=.ref 43,string:=.str (S x) t,code:=reW,text:=x.toArray,kind:=0,groups:=1,pos:=0,lim:=x.toArray.size } s):wpAny (model prog w) A (Builtin.Re.reWholeTarget (.ref 43) (.str (S x) t)) Q E s:=by
 unfold Builtin.Re.reWholeTarget
 refine wpAny_bind (wpAny_fieldsOf ho rfl ?_)
 refine wpAny_bind (wpAny_of_eq (a:=(x.toArray,0)) rfl ?_)
 dsimp only
 rw [if_neg (by simp)]
 rw [if_neg (by simp [Builtin.Re.reRawNat])]
 refine wpAny_bind (wpAny_of_eq (a:=()) rfl ?_)
 have hi:wpAny (model prog w) A (Builtin.Re.reRawItems (.ref 42)) (fun r s'=>r=((reWords.map fun i=>Value.int i 0).toArray).map Builtin.Re.reRawOf∧s'=s) E s:=by
  unfold Builtin.Re.reRawItems
  exact wpAny_bind (wpAny_seqItems hw rfl (wpAny_pure ⟨rfl,rfl⟩))
 refine wpAny_bind (wpAny_mono hi (fun r s' hr=>?_) fun _ _ e=>e)
 obtain ⟨rfl,rfl⟩:=hr
 refine wpAny_pure ?_
 have e1:Array.map (fun x:Int=>x.toNat) (Array.map Builtin.Re.reRawOf (List.map (fun i=>Value.int i 0) reWords).toArray)=reW:=by decide +kernel
 rw [e1]
 exact h
theorem ext_S {x:List Nat} (b e:Nat):(⟨x.toArray.extract b e⟩:Str)=S ((x.drop b).take (e-b)):=by
 show _=(⟨_⟩:Str)
 congr 1
 simp
theorem slice_S {x:List Nat} {b e:Nat} {Q:Value→Shared→Prop} (hx:x.length≤100000) (h:∀ t k,Q (.str (S ((x.drop b).take (e-b))) t) { s with toks:=k }):wpAny (model prog w) A (Builtin.Re.reSlice x.toArray 0 b e) Q E s:=by
 unfold Builtin.Re.reSlice
 rw [if_pos (by rfl),ext_S]
 refine wpAny_mkStr (h _ _) (S_le ?_)
 rw [List.length_take,List.length_drop]; exact q3 0x61a80600038200a62ec6a186a0100021a 1 0x108c211867 (by kernel_rfl) hx
theorem tw_all {p:Nat→Bool}:∀ {l:List Nat},l.dropWhile p=[]→l.takeWhile p=l
 | [],_=>rfl
 | c::r,h=>by
  rw [List.dropWhile_cons] at h
  by_cases hc:p c=true
  ·rw [if_pos hc] at h
   rw [List.takeWhile_cons,if_pos hc,tw_all h]
  ·rw [if_neg hc] at h; cases h
theorem pcsF_len:∀ (k:Nat) (l:List Nat),(pcsF k l).length≤2*l.length+1
 | 0,l=>by simp [pcsF]
 | k+1,l=>by
  rw [pcsF]
  have happ:l.takeWhile isT++l.dropWhile isT=l:=List.takeWhile_append_dropWhile
  have hl:=congrArg List.length happ
  rw [List.length_append] at hl
  cases e:l.dropWhile isT with
  | nil=>simp
  | cons c r =>
   rw [e] at hl
   dsimp only
   simp only [List.length_cons] at hl
   by_cases hd:isD c=true
   ·rw [if_pos hd]
    have ih:=pcsF_len k ((c::r).dropWhile isD)
    have h1:((c::r).dropWhile isD).length≤r.length:=by
     rw [List.dropWhile_cons,if_pos hd]
     exact (List.dropWhile_sublist _).length_le
    simp only [List.length_cons]; exact q5 0x11820241428c7006217228084007018a8c0809054b006038a823005200222234a 2 402 (by kernel_rfl) hl ih h1
   ·rw [if_neg hd]
    have ih:=pcsF_len k r
    simp only [List.length_cons]; exact q4 0x460809050a31c01885c8a023080904cb006036a823005200222234a 2 82 (by kernel_rfl) hl ih
theorem reSplit {x:List Nat} {t:Tok} {Q:Value→Shared→Prop} (ho:s.heap.get? 43=some ⟨.type "re.Pattern", none,.fields #[.str "([0-9]+|[._+-])" 292,.int 32 336,.int 1 0,.none,.none,.ref 42,.int 0 0],#[]⟩)
  (hw:s.heap.get? 42=some ⟨.type "tuple", none,.seq (reWords.map fun i=>Value.int i 0).toArray 0,#[]⟩) (hx:x.length≤100000)
  (h:∀ h' D vs k,Kp s.heap h'→h'.get? D=some { cls:=.type "list", data:=.seq vs.toArray }→s.heap.get? D=none→StrsAre vs ((pcsF (x.length+1) x).map S)→Q (.ref D) { s with heap:=h',toks:=k }) :
  wpAny (model prog w) A (call (.builtin "re.Pattern.split") [.ref 43,.str (S x) t]) Q E s:=by
 have hT:s.TypeIs (.ref 43) "re.Pattern" := (w11 _ ho rfl)
 have hlen:=pcsF_len (x.length+1) x
 obtain ⟨tot,htot⟩:∃ tot,tot=pcsF (x.length+1) x:=⟨_,rfl⟩
 rw [← htot] at h hlen
 refine wpAny_call (codeAny_call_builtin BP.slot_split.plain BP.entry_split (BP.slot_split.check _ _ _ _ _ _ _ _ hT (BP.args_split _ _) ?_))
 unfold Builtin.«re.Pattern.split»
 dsimp only
 refine wpAny_bind (wpAny_of_eq (a:=[some (.str (S x) t),none]) (by kernel_rfl) ?_)
 dsimp only
 refine wpAny_bind (wpAny_pure ?_)
 refine wpAny_bind (wholeT ho hw ?_)
 dsimp only
 refine wpAny_bind (forIn_any (fun k b s'=>∃ tk out p n over done,s'={ s with toks:=tk }∧b=(out,p,p,false,n,over)∧StrsAre out.toList (done.map S)∧p≤x.length ∧
  ((over=false∧x.length-p+1≤k∧∃ j,(x.drop p).length+1≤j∧done++pcsF j (x.drop p)=tot)∨(over=true∧done++[x.drop p]=tot))) ?_ ?_ _ _ _ ?_)
 ·intro k _ b s' y0; refine u64 y0 fun tk out p n over done z0 z1 hd hp hc=>?_; clear y0; subst z0; subst z1
  dsimp only
  rcases hc with ⟨rfl,hk,j,hj,hall⟩ | ⟨rfl,hall⟩
  ·rw [if_pos (by rfl),if_neg (by simp)]
   refine wpAny_bind (nextFound hx hp fun m hm=>?_)
   obtain ⟨j',rfl⟩:∃ j',j=j'+1:=⟨j-1,by exact q2 0x23180298b14014a1100211022a 1 3226 (by kernel_rfl) hj⟩
   rw [fnd_eq] at hm ⊢
   rw [pcsF] at hall
   have happ:(x.drop p).takeWhile isT++(x.drop p).dropWhile isT=x.drop p:=List.takeWhile_append_dropWhile
   cases e:(x.drop p).dropWhile isT with
   | nil =>
    rw [e] at hm hall
    dsimp only [Option.map_none] at hm hall ⊢
    rw [tw_all e] at hall
    exact wpAny_pure (w11 _ rfl ⟨tk,out,p,n,true,done,rfl,rfl,hd,hp,.inr ⟨rfl,hall⟩⟩)
   | cons c r =>
    rw [e] at hm hall happ
    dsimp only at hm hall ⊢
    obtain ⟨q,hq⟩:∃ q,q=(x.drop p).takeWhile isT:=⟨_,rfl⟩
    rw [← hq] at hm hall happ ⊢
    obtain ⟨b,hb⟩:∃ b,b=p+q.length:=⟨_,rfl⟩
    have hpre:(x.drop p).take (b-p)=q:=by
     rw [hb,Nat.add_sub_cancel_left,← happ]
     exact List.take_left' rfl
    have hxb:x.drop b=c::r:=by
     rw [hb,← List.drop_drop,← happ]
     exact List.drop_left' rfl
    have hbl:b+(c::r).length=x.length:=by
     have h1:=congrArg List.length hxb
     rw [List.length_drop] at h1
     simp only [List.length_cons] at h1 ⊢
     exact q3 0x8c00c500522828c00c5000311234a 1 8873 (by kernel_rfl) h1
    rw [← hb] at hm ⊢
    have go:∀ e,Found m (some (b,e))→b<e→e≤x.length→done++((x.drop p).take (b-p)::(x.drop b).take (e-b)::pcsF j' (x.drop e))=tot→wpAny (model prog w) A.in1 (do
      let __do_lift ← Builtin.Re.reSlice x.toArray 0 p m.start
      let __s_1 ← forIn (List.range 1) (out.push __do_lift) fun g __s=>do
       let __do_lift ← Builtin.Re.reMachineGroup { pattern:=.ref 43,string:=.str (S x) t,code:=reW,text:=x.toArray,kind:=0,groups:=1,pos:=0,lim:=x.toArray.size } m (g+1) (pure Value.none)
       pure (ForInStep.yield (__s.push __do_lift))
      pure (ForInStep.yield (__s_1,m.handed,m.handed,m.handed == m.start,n+1,false)))
      (fun r s'=>∃ b',r=ForInStep.yield b'∧∃ tk out p n over done,s'={ s with toks:=tk }∧b'=(out,p,p,false,n,over)∧StrsAre out.toList (done.map S)∧p≤x.length ∧
  ((over=false∧x.length-p+1≤k∧∃ j,(x.drop p).length+1≤j∧done++pcsF j (x.drop p)=tot)∨(over=true∧done++[x.drop p]=tot))) (fun e s'=>E e s') { s with toks:=tk }:=by
     intro e y0; refine u04 y0 fun _ m2 m3 m4 m5=>?_; clear y0; intro hbe hel hall'
     rw [m2,m3]
     refine wpAny_bind (slice_S hx fun t1 k1=>?_)
     rw [show List.range 1=[0] from rfl,List.forIn_cons]
     have hg:wpAny (model prog w) A.in1 (Builtin.Re.reMachineGroup { pattern:=.ref 43,string:=.str (S x) t,code:=reW,text:=x.toArray,kind:=0,groups:=1,pos:=0,lim:=x.toArray.size } m (0+1) (pure Value.none)) (fun v s'=>(∃ t,v=.str (S ((x.drop b).take (e-b))) t)∧∃ k,s'={ s with toks:=k }) (fun e s'=>E e s') { s with toks:=k1 }:=by
      unfold Builtin.Re.reMachineGroup
      rw [m4,m5,if_neg (by decide)]
      show wpAny (model prog w) A.in1 (if e<b then Builtin.Re.reWrongSpan else Builtin.Re.reSlice x.toArray 0 b e) _ _ _
      rw [if_neg (by exact q2 0x200a31000111a 1 3 (by kernel_rfl) hbe)]
      exact slice_S hx fun t2 k2=>⟨⟨_,rfl⟩,_,rfl⟩
     refine wpAny_bind (wpAny_bind (wpAny_bind (wpAny_mono hg (fun v s' hv=>?_) fun _ _ e=>e)))
     obtain ⟨⟨t2,rfl⟩,k2,rfl⟩:=hv
     refine wpAny_pure (wpAny_pure ?_)
     refine wpAny_pure ?_
     have hne:(e == b)=false:=by simp; exact q2 0x200a51000111a 1 3 (by kernel_rfl) hbe
     rw [hne]
     refine (w11 _ rfl ⟨k2,_,e,n+1,false,done++[(x.drop p).take (b-p),(x.drop b).take (e-b)],rfl,rfl,?_,hel,.inl ⟨rfl,by exact q6 0x104680018991205007013aa180308cd408029600c455518018a3000311222045a 1 976910681 (by kernel_rfl) hk hb hbe hel,j',?_,by rw [← hall']; simp⟩⟩)
     ·rw [Array.toList_push,Array.toList_push,List.map_append,List.append_assoc]
      exact hd.append' (.cons _ _ (.cons _ _ .nil))
     ·rw [List.length_drop] at hj ⊢
      exact q6 0x104680018991205007013aa180308cd408029600c455518018a3000311222045a 1 976910681 (by kernel_rfl) hj hb hbe hel
    by_cases hdc:isD c=true
    ·rw [if_pos hdc] at hm hall ⊢
     have htl:=tw_len_le isD (c::r)
     refine go (b+((c::r).takeWhile isD).length) hm (by rw [List.takeWhile_cons,if_pos hdc]; simp) (by exact q4 0x20c0008482180300bd41000211223a 1 13 (by kernel_rfl) hbl htl) ?_
     rw [hpre,hxb,Nat.add_sub_cancel_left,← List.drop_drop,hxb,takeWhile_len,← (List.prefix_iff_eq_take.mp (List.takeWhile_prefix isD))]
     exact hall
    ·rw [if_neg hdc] at hm hall ⊢
     refine go (b+1) hm (by exact q1 285220865 1 1 (by kernel_rfl)) (by simp only [List.length_cons] at hbl; exact q3 0x411002110823005200222234a 1 5 (by kernel_rfl) hbl) ?_
     rw [hpre,hxb,Nat.add_sub_cancel_left,← List.drop_drop,hxb]
     exact hall
  ·rw [if_neg (by simp)]
   exact wpAny_pure (w11 _ rfl ⟨tk,out,p,n,true,done,rfl,rfl,hd,hp,.inr ⟨rfl,hall⟩⟩)
 ·intro b s' y0; refine u64 y0 fun tk out p n over done z0 z1 hd hp hc=>?_; clear y0; subst z0; subst z1
  rcases hc with ⟨rfl,hk,_⟩ | ⟨rfl,hall⟩
  ·(exfalso; exact q2 0x4e300031122202fa 1 7 (by kernel_rfl) hk)
  ·dsimp only
   rw [if_neg (by simp)]
   refine wpAny_bind (slice_S hx fun t' k'=>?_)
   refine wpAny_bind (wpAny_newList ?_ ?_)
   ·refine wpAny_pure ?_
    refine h _ _ (out.push (.str _ t')).toList _ (fun b o e=>Heap.get?_push_of_some _ e) (Heap.get?_push_size _ rfl) (Heap.get?_none_of_le (Nat.le_refl _)) ?_
    rw [Array.toList_push,← hall,List.map_append,List.size_toArray,List.take_of_length_le (by rw [List.length_drop]; exact q2 0x200070003110 1 729 (by kernel_rfl))]
    exact hd.append' (.cons _ _ .nil)
   ·have h1:=strsAre_len hd
    rw [← hall,List.length_append,List.length_singleton] at hlen
    rw [List.length_map] at h1
    rw [Array.toList_push,List.length_append,List.length_singleton,h1,sizeLine_eq]
    exact q2 0x100000018c014858230120714600a42c083586a0100021a 2 22 (by kernel_rfl) hx hlen
 ·exact (w64 s.toks (#[]) 0 0 false ([]) rfl rfl .nil (Nat.zero_le _) (.inl ⟨rfl,by show x.length-0+1≤(List.range (2*x.toArray.size+3)).length; rw [List.length_range,List.size_toArray]; exact q1 0x31809038a30030d21e0 1 7 (by kernel_rfl),x.length+1,by simp,by rw [htot]; rfl⟩))
end
noncomputable def itemsOf:List Nat→List Pr
 | []=>[]
 | c::r=>if isD c then [(100,.inl (valN (c::r)))] else if c∈seps then [] else [(rankOf (c::r),.inr (c::r))]
theorem items_cons (c:Nat) (r:List Nat):itemsOf (c::r)=if isD c then [(100,.inl (valN (c::r)))] else if c∈seps then [] else [(rankOf (c::r),.inr (c::r))]:=rfl
theorem isT_parts {c:Nat} (h:isT c=true):isD c=false∧c∉seps:=by
 have h':c∉digseps:=fun m=>by rw [isT,decide_eq_true m] at h; cases h
 exact ⟨decide_eq_false fun hd=>h' (digs_facts c hd).2.2.2,fun hs=>h' (seps_in c hs).1⟩
theorem notT_parts {c:Nat} (h:isT c=false) (hd:isD c=false):c∈seps:=by
 by_cases hs:c∈seps
 ·exact hs
 ·rw [isT_of hd hs] at h; cases h
theorem rowG_split (l:List Nat):rowG l=itemsOf (l.takeWhile isT)++rowG (l.dropWhile isT):=by
 cases l with
 | nil=>rfl
 | cons c r =>
  by_cases ht:isT c=true
  ·obtain ⟨hd,hs⟩:=isT_parts ht
   rw [rowG_txt hd hs]
   have e:(c::r).takeWhile isT=c::r.takeWhile isT:=by rw [List.takeWhile_cons,if_pos ht]
   rw [e,items_cons,if_neg (by rw [hd]; exact Bool.false_ne_true),if_neg hs]
   rfl
  ·rw [List.takeWhile_cons,if_neg ht,List.dropWhile_cons,if_neg ht]
   rfl
theorem dropWhile_head {p:Nat→Bool}:∀ {l:List Nat} {c:Nat} {r:List Nat},l.dropWhile p=c::r→p c=false
 | [],_,_,h=>by cases h
 | a::q,c,r,h=>by
  rw [List.dropWhile_cons] at h
  by_cases ha:p a=true
  ·rw [if_pos ha] at h; exact dropWhile_head h
  ·rw [if_neg ha] at h
   injection h with h _
   subst h
   exact Bool.eq_false_iff.mpr ha
theorem pcs_row:∀ (k:Nat) (l:List Nat),l.length+1≤k→(pcsF k l).flatMap itemsOf=rowG l
 | 0,l,h=>absurd h (by exact q1 0x310021108 1 1 (by kernel_rfl))
 | k+1,l,h=>by
  have happ:l.takeWhile isT++l.dropWhile isT=l:=List.takeWhile_append_dropWhile
  have hl:=congrArg List.length happ
  rw [List.length_append] at hl
  rw [rowG_split,pcsF]
  cases e:l.dropWhile isT with
  | nil=>simp [rowG,rowF_n,rowF_z,rowF_c]
  | cons c r =>
   rw [e] at hl
   simp only [List.length_cons] at hl
   have ht:=dropWhile_head e
   dsimp only
   by_cases hd:isD c=true
   ·rw [if_pos hd,rowG_dig hd,List.flatMap_cons,List.flatMap_cons,pcs_row k _ (by have:=dw_lt (p:=isD) (r:=r) hd; exact q5 0x211800e430184007019a8e00c500311491ad4600a5100211033a 1 27 (by kernel_rfl) h hl this)]
    congr 1
    have e2:(c::r).takeWhile isD=c::r.takeWhile isD:=by rw [List.takeWhile_cons,if_pos hd]
    rw [e2,items_cons,if_pos hd]
    rfl
   ·have hd':isD c=false:=Bool.eq_false_iff.mpr hd
    have hs:=notT_parts ht hd'
    rw [if_neg hd,rowG_sep hd' hs,List.flatMap_cons,List.flatMap_cons,pcs_row k r (by exact q4 0x84700621708e00c500311491ad4600a5100211033a 1 11 (by kernel_rfl) h hl)]
    congr 1
    rw [items_cons,if_neg hd,if_pos hs]
    rfl
noncomputable def Kind (p:List Nat):Prop:=(p=[]∨∃ c∈seps,p=[c])∨(p≠[]∧∀ c∈p,isD c=true)∨(p≠[]∧∀ c∈p,isT c=true)
theorem tw_mem {p:Nat→Bool} {l:List Nat} {c:Nat} (h:c∈l.takeWhile p):p c=true:=by
 induction l with
 | nil=>cases h
 | cons a r ih =>
  rw [List.takeWhile_cons] at h
  by_cases ha:p a=true
  ·rw [if_pos ha] at h
   rcases List.mem_cons.mp h with e | h
   ·rw [e]; exact ha
   ·exact ih h
  ·rw [if_neg ha] at h; cases h
theorem kind_T (l:List Nat):Kind (l.takeWhile isT):=by
 by_cases h:l.takeWhile isT=[]
 ·exact .inl (.inl h)
 ·exact .inr (.inr ⟨h,fun c hc=>tw_mem hc⟩)
theorem pcs_kind:∀ (k:Nat) (l p:List Nat),l.length+1≤k→p∈pcsF k l→Kind p∧(∀ c∈p,c∈l)∧p.length≤l.length
 | 0,l,p,h,_=>absurd h (by exact q1 0x310021108 1 1 (by kernel_rfl))
 | k+1,l,p,h,hp=>by
  have happ:l.takeWhile isT++l.dropWhile isT=l:=List.takeWhile_append_dropWhile
  have hl:=congrArg List.length happ
  rw [List.length_append] at hl
  have hT:Kind (l.takeWhile isT)∧(∀ c∈l.takeWhile isT,c∈l)∧(l.takeWhile isT).length≤l.length :=
   ⟨kind_T l,fun c hc=>(List.takeWhile_sublist _).mem hc,(List.takeWhile_sublist _).length_le⟩
  rw [pcsF] at hp
  cases e:l.dropWhile isT with
  | nil =>
   rw [e] at hp
   rw [List.mem_singleton.mp hp]; exact hT
  | cons c r =>
   rw [e] at hp hl
   simp only [List.length_cons] at hl
   have hin:∀ d∈c::r,d∈l:=fun d hd=>(List.dropWhile_sublist isT).mem (e▸hd)
   have ht:=dropWhile_head e
   dsimp only at hp
   by_cases hd:isD c=true
   ·rw [if_pos hd] at hp
    rcases List.mem_cons.mp hp with rfl | hp
    ·exact hT
    ·rcases List.mem_cons.mp hp with rfl | hp
     ·refine ⟨.inr (.inl ⟨by rw [List.takeWhile_cons,if_pos hd]; simp,fun d hd'=>tw_mem hd'⟩),fun d hd'=>hin d ((List.takeWhile_sublist _).mem hd'),?_⟩
      have:=(List.takeWhile_sublist isD (l:=c::r)).length_le
      simp only [List.length_cons] at this; exact q4 0x8300608c014b006028a823005200222234a 1 13 (by kernel_rfl) hl this
     ·have hle:=dw_lt (p:=isD) (r:=r) hd
      refine u02 (pcs_kind k _ p (by exact q5 0x211800e430184007019a8e00c500311491ad4600a5100211033a 1 27 (by kernel_rfl) h hl hle) hp) fun h1 h2 h3=>?_
      exact ⟨h1,fun d hd'=>hin d ((List.dropWhile_sublist _).mem (h2 d hd')),by exact q5 0x1040070c200380cd43006017a823005200222234a 1 29 (by kernel_rfl) hl hle h3⟩
   ·have hd':isD c=false:=Bool.eq_false_iff.mpr hd
    have hs:=notT_parts ht hd'
    rw [if_neg hd] at hp
    rcases List.mem_cons.mp hp with rfl | hp
    ·exact hT
    ·rcases List.mem_cons.mp hp with rfl | hp
     ·exact ⟨.inl (.inr (w11 c hs rfl)),fun d hd'=>by rw [List.mem_singleton.mp hd']; exact hin c (List.mem_cons_self ..),by simp; exact q3 0x411050823005200222234a 1 5 (by kernel_rfl) hl⟩
     ·refine u02 (pcs_kind k r p (by exact q4 0x84700621708e00c500311491ad4600a5100211033a 1 11 (by kernel_rfl) h hl) hp) fun h1 h2 h3=>?_
      exact ⟨h1,fun d hd'=>hin d (List.mem_cons_of_mem _ (h2 d hd')),by exact q4 0x41803043006017a823005200222234a 1 13 (by kernel_rfl) hl h3⟩
theorem has_no {c:Nat} {r l:List Nat} (h:c∉l):hasL (c::r) l=false:=by
 unfold hasL
 rw [List.any_eq_false]
 intro k _
 cases e:l.drop k with
 | nil=>simp [List.isPrefixOf]
 | cons d q =>
  have hd:d∈l:=(List.drop_sublist k l).mem (e▸List.mem_cons_self ..)
  have:(c == d)=false:=by simp; rintro rfl; exact h hd
  simp [List.isPrefixOf,this]
theorem has_sep:∀ c∈seps,hasL [c] [46,95,43,45]=true:=by decide
inductive RV:List Pr→List Value→Prop
 | nil:RV [] []
 | cons {p:Pr} {ps:List Pr} {t:Tok} {u:Value} {vs:List Value}:isIt p.2 u→RV ps vs→RV (p::ps) (.int p.1 t::u::vs)
theorem RV.snoc {ps:List Pr} {vs:List Value} {p:Pr} {t:Tok} {u:Value} (h:RV ps vs) (hu:isIt p.2 u):RV (ps++[p]) (vs++[.int p.1 t,u]):=by
 induction h with
 | nil=>exact .cons hu .nil
 | cons hv _ ih=>exact .cons hv ih
theorem RV.len {ps:List Pr} {vs:List Value} (h:RV ps vs):vs.length=2*ps.length:=by
 induction h with
 | nil=>rfl
 | cons _ _ ih=>simp only [List.length_cons,ih]; exact q1 0x4400a0248c60240e21f2302 1 3 (by kernel_rfl)
noncomputable abbrev stagesD:List (PyData × PyData):=stageRows.map fun r=>(.str r.1,.int r.2.2.1)
section
variable {prog:Program} {w:World} {A:Around} {E:Value→Shared→Prop} {s:Shared}
theorem flatStages:∀ rows:List (Str × Nat × Int × Nat),PyProof.V.FlatPairs PyData.str (rows.map fun r=>(r.1,Value.int r.2.2.1 r.2.2.2)) (rows.map fun r=>(.str r.1,.int r.2.2.1))
 | []=>.nil
 | r::rows =>  .cons (PyProof.V.Flat.int _ _) (flatStages rows)
theorem pairStages (P:Params):∀ rows:List (Str × Nat × Int × Nat),Pairs (PySem.strKind prog w) (rows.map fun r=>⟨PyData.keyHash P r.1,.str r.1 r.2.1,.int r.2.2.1 r.2.2.2⟩) (rows.map fun r=>(r.1,Value.int r.2.2.1 r.2.2.2))
 | []=>.nil
 | r::rows=>.cons (PySem.strKind_is prog w _ _) rfl (pairStages P rows)
theorem stageTab (ho:s.heap.get? 44=some ⟨.type "dict", none,.dict (stageEntries w.params).toArray 10,#[]⟩):StrTab prog w s.heap 44 stagesD:=by
 refine ⟨by decide,_,(w35 _ _ _ ho ⟨rfl,rfl,rfl⟩ rfl ?_ (pairStages w.params stageRows) ?_),flatStages stageRows⟩
 ·intro e he
  refine u11 (List.mem_map.mp (List.mem_toArray.mp he)) fun r _ z0=>?_; subst z0
  exact (w11 r.1 (PySem.strKind_is prog w _ _) rfl)
 ·decide +kernel
theorem rank_look (x:List Nat):((PySem.Spec.lookup (.str (S x)) stagesD).getD (.int 0))=.int (rankOf x):=by
 have key:∀ a:List Nat,PySem.Spec.same (.str (S a)) (.str (S x))=decide (x=a):=fun a=>by
  rw [PyProof.V.same_str]
  by_cases h:x=a
  ·subst h; simp
  ·rw [decide_eq_false (fun e=>h (S_inj e).symm),decide_eq_false h]
 have e:stagesD=[(.str (S [100,101,118]),.int 10),(.str (S [97,108,112,104,97]),.int 20),(.str (S [97]),.int 20),(.str (S [98,101,116,97]),.int 30),(.str (S [98]),.int 30),(.str (S [99]),.int 40),
  (.str (S [82,67]),.int 50),(.str (S [114,99]),.int 50),(.str (S [112,108]),.int 200),(.str (S [112]),.int 200)]:=by rfl
 rw [e]
 simp only [PySem.Spec.lookup,key]
 by_cases h1:x=[100,101,118]
 ·subst h1; rfl
 by_cases h2:x=[97,108,112,104,97]
 ·subst h2; rfl
 by_cases h3:x=[97]
 ·subst h3; rfl
 by_cases h4:x=[98,101,116,97]
 ·subst h4; rfl
 by_cases h5:x=[98]
 ·subst h5; rfl
 by_cases h6:x=[99]
 ·subst h6; rfl
 by_cases h7:x=[82,67]
 ·subst h7; rfl
 by_cases h8:x=[114,99]
 ·subst h8; rfl
 by_cases h9:x=[112,108]
 ·subst h9; rfl
 by_cases h10:x=[112]
 ·subst h10; rfl
 simp [h1,h2,h3,h4,h5,h6,h7,h8,h9,h10,rankOf,rankTab]
theorem getStage {x:List Nat} {t u:Tok} {Q:Value→Shared→Prop} (ho:s.heap.get? 44=some ⟨.type "dict", none,.dict (stageEntries w.params).toArray 10,#[]⟩) (h:∀ t k,Q (.int (rankOf x) t) { s with toks:=k }) :
  wpAny (model prog w) A (call (.builtin "dict.get") [.ref 44,.str (S x) t,.int 0 u]) Q E s:=by
 refine call_get2_strTab (stageTab ho) (PyProof.V.Flat.int 0 u) fun v hv=>?_
 rw [rank_look] at hv
 obtain ⟨t',rfl⟩:∃ t',v=.int (rankOf x) t':=by
  cases hv s.heap with
  | int i t=>exact ⟨t,rfl⟩
 exact h _ _
end
section
variable {prog:Program} {w:World} {A:Around} {g:Heap} {env:Env} {l:List (Str × Value)} {own:List (Addr × List Value)}
noncomputable abbrev Same (hid:List Addr) (h h':Heap):Prop:=∀ b∈hid,∀ o,h.get? b=some o→h'.get? b=some o
theorem forHC {target:Expr} {body:List Stmt} {I:Addr} {fp wr hid:List Addr} {n:Nat} {W:Nat→Heap→Prop} {P:Nat→List (Str × Value)→Prop} {R:Result→Shared→Prop} {s:Shared}
  (Inv:Nat→List (Str × Value)→List (Addr × List Value)→Heap→Prop) (Z:Shared→Prop)
  (D:∀ g',(∀ b∈wr,g'.get? b=none)→Dr prog w A g' env target I fp n W P) (F:St g env.locals s.heap l own) (hW:W 0 s.heap) (hof:∀ p∈own,p.1∉fp) (hL:env.locals∉fp) (hfh:∀ b∈fp,b∉hid) (hg:∀ b∈hid,g.get? b=none)
  (hoh:∀ p∈own,p.1∉hid) (hLh:env.locals∉hid)
  (hgw:∀ b∈wr,g.get? b=none) (hwf:∀ b∈wr,b∈fp) (hal:∀ i h,W i h→∀ b∈fp,∃ o,h.get? b=some o∧(b∈wr→o.cls=.type "list_iterator"))
  (h0:Inv 0 l own g) (hZ:Z s) (hZk:∀ s h tk,Same hid s.heap h→Z s→Z { s with heap:=h,toks:=tk })
  (turn:∀ i b l₁ own₁ g₁ g' s₁ E',i<n→P i b→Inv i l₁ own₁ g₁→Kp g g₁→Kp g₁ g'→(∀ b∈hid,g'.get? b=none)→St g' env.locals s₁.heap (b++l₁) own₁→Z s₁ →
   wpC (model prog w) A (execs body env) (fun f s₂=>match f with
    | .next | .cont=>Z s₂∧∃ l₂ own₂ G,Kp g' G∧(∀ b∈hid,G.get? b=none)∧own₂.map (·.1)=own₁.map (·.1)∧St G env.locals s₂.heap l₂ own₂∧∀ Γ,Dat G Γ→Inv (i+1) l₂ own₂ Γ
    | .brk=>False
    | .ret v=>R (.ok (.ret v)) s₂) E' s₁)
  (fin:∀ l₁ own₁ g₁ s₁,Inv n l₁ own₁ g₁→Kp g g₁→(∀ b∈hid,g₁.get? b=none)→St g₁ env.locals s₁.heap l₁ own₁→Z s₁→R (.ok .next) s₁) :
  codeC (model prog w) A (.forLoop target (.ref I) body [] env) R s:=by
 let J:Nat→Shared→Prop:=fun k s'=>∃ i l₁ own₁ g₁,k=n-i∧i≤n∧W i s'.heap∧Kp g g₁∧(∀ b∈hid,g₁.get? b=none)∧(∀ b∈wr,g₁.get? b=none)∧St g₁ env.locals s'.heap l₁ own₁∧own₁.map (·.1)=own.map (·.1)∧Inv i l₁ own₁ g₁∧Z s'
 refine codeC_forLoop J ?_ n (w49 0 l own g rfl (Nat.zero_le _) hW (fun _ _ e=>e) hg hgw F rfl h0 hZ)
 intro k s' y0; refine u49 y0 fun i l₁ own₁ g₁ z0 hi hW' kg hh₁ hw₁ F' hown hInv hZ'=>?_; clear y0; subst z0
 have hmem:∀ p∈own₁,∃ q∈own,q.1=p.1:=fun p hp=>by
  have:p.1∈own.map (·.1):=hown▸List.mem_map_of_mem hp
  refine u11 (List.mem_map.mp this) fun q hq e=>?_
  exact (w11 q hq e)
 have hof':∀ p∈own₁,p.1∉fp:=fun p hp=>by
  refine u11 (hmem p hp) fun q hq e=>?_
  exact e▸hof q hq
 have hoh':∀ p∈own₁,p.1∉hid:=fun p hp=>by
  refine u11 (hmem p hp) fun q hq e=>?_
  exact e▸hoh q hq
 refine u14 (F'.rebaseH wr hw₁) fun gX x1 x2 x3 x4 FX=>?_
 have hid_same:∀ (h':Heap),Kp gX h'→Same hid s'.heap h':=fun h' kk b hb o e =>
  kk b o (x3 b o (fun q=>hLh (q▸hb)) (fun p hp q=>hoh' p hp (q▸hb)) (fun q=>hfh b (hwf b q) hb) e)
 by_cases hlt:i<n
 ·refine wpAny_mono ((D gX x4).item i s' l₁ own₁ (fun _ s₂=>wpC (model prog w) A (execs body env) (fun f s₃=>match f with
      | .next | .cont=>∃ m,m<n-i∧J m s₃
      | .brk=>R (.ok .next) s₃
      | .ret v=>R (.ok (.ret v)) s₃) (notedBy (model prog w) A env fun e s'=>R (.error e) s') s₂) (notedBy (model prog w) A env fun e s'=>R (.error e) s') hlt hW' FX hof' hL ?hq) (fun r s₁ h=>?_) fun _ _ e=>e
  case hq =>
   intro b h' tk hP hW₁ FX₁
   have hZ₁:Z { s' with heap:=h',toks:=tk }:=hZk _ _ _ (hid_same h' FX₁.keep) hZ'
   have F₁:St g₁ env.locals h' (b++l₁) own₁:=FX₁.base x1
   refine u14 (F₁.rebaseH hid hh₁) fun g' k1 k2 k3 k4 F₂=>?_
   have fpg:∀ b∈fp,∃ o,h'.get? b=some o∧g'.get? b=some o∧(b∈wr→o.cls=.type "list_iterator"):=fun b hb=>by
    refine u11 (hal _ _ hW₁ b hb) fun o ho hc=>?_
    exact (w12 o ho (k3 b o (fun q=>hL (q▸hb)) (fun p hp q=>hof' p hp (q▸hb)) (hfh b hb) ho) hc)
   refine wpC_mono (turn i b l₁ own₁ g₁ g' { s' with heap:=h',toks:=tk } _ hlt hP hInv kg k1 k4 F₂ hZ₁) (fun f s₂ p=>?_) fun _ _ e=>e
   have go:(Z s₂∧∃ l₂ own₂ G,Kp g' G∧(∀ b∈hid,G.get? b=none)∧own₂.map (·.1)=own₁.map (·.1)∧St G env.locals s₂.heap l₂ own₂∧∀ Γ,Dat G Γ→Inv (i+1) l₂ own₂ Γ) →
     ∃ m,m<n-i∧J m s₂:=by
    rintro ⟨z,l₂,own₂,G,kG,hG,ho₂,F₃,hI⟩
    have kk:Kp (hideAll G wr) G:=fun b o e=>of_hideAll _ e
    refine (w11 (n-(i+1)) (by exact q2 0x8029c400a00a6443000111a 1 21810 (by kernel_rfl) hlt) ⟨i+1,l₂,own₂,hideAll G wr,rfl,hlt,(D gX x4).frame _ _ _ hW₁ ?_,?_,?_,fun b hb=>hideAll_none _ hb,F₃.base kk,ho₂.trans hown,hI _ ?_,z⟩)
    ·intro b hb o e
     refine u12 (fpg b hb) fun o' e' e'' _=>?_
     rw [e] at e'; cases e'
     exact F₃.keep b o (kG b o e'')
    ·intro b o e
     refine hideAll_get _ (kG b o (k1 b o (kg b o e))) fun hm=>?_
     have:=kg b o e
     rw [hw₁ b hm] at this; cases this
    ·intro b hb
     cases e:(hideAll G wr).get? b with
     | none=>rfl
     | some o=>have:=of_hideAll _ e; rw [hG b hb] at this; cases this
    ·intro b o e hc
     refine hideAll_get _ e fun hm=>?_
     refine u12 (fpg b (hwf b hm)) fun o' _ e' hc'=>?_
     have:=kG _ _ e'
     rw [e] at this; cases this
     exact hc (hc' hm)
   cases f with
   | next=>exact go p
   | cont=>exact go p
   | brk=>exact p.elim
   | ret v=>exact p
  cases r with
  | none=>exact h.elim
  | some v=>exact h
 ·have hin:i=n:=by exact q2 0x4000a000302b5000011a 1 46 (by kernel_rfl) hi hlt
  subst hin
  refine wpAny_mono ((D gX x4).done s' l₁ own₁ (fun s₁=>R (.ok .next) s₁) _ hW' FX hof' hL fun h' tk FX₁=>fin _ _ _ _ hInv kg hh₁ (FX₁.base x1) (hZk _ _ _ (hid_same h' FX₁.keep) hZ')) (fun r s₁ h=>?_) fun _ _ e=>e
  cases r with
  | none=>exact h
  | some v=>exact h.elim
end
section
variable {prog:Program} {w:World} {A:Around} {E:Value→Shared→Prop} {g:Heap} {name:Str} {scope:Scope} {L f:Addr} {cd:Value} {cl:List (Str × Addr)} {l:List (Str × Value)} {own:List (Addr × List Value)} {s:Shared} {R:Result→Shared→Prop} {body:List Stmt}
noncomputable abbrev TurnC (g':Heap) (L:Addr) (R:Result→Shared→Prop) (hid:List Addr) (Z:Shared→Prop) (as:List Addr) (J:List (Str × Value)→List (Addr × List Value)→Heap→Prop) (fl:Flow) (s₂:Shared):Prop :=
 match fl with
 | .next | .cont=>Z s₂∧∃ l₂ own₂ G,Kp g' G∧(∀ b∈hid,G.get? b=none)∧own₂.map (·.1)=as∧St G L s₂.heap l₂ own₂∧∀ Γ,Dat G Γ→J l₂ own₂ Γ
 | .brk=>False
 | .ret v=>R (.ok (.ret v)) s₂
theorem TurnC.go {g':Heap} {L:Addr} {R:Result→Shared→Prop} {hid:List Addr} {Z:Shared→Prop} {as:List Addr} {J:List (Str × Value)→List (Addr × List Value)→Heap→Prop} {Q:Flow→Shared→Prop} {s₂:Shared} {l₂:List (Str × Value)} {own₂:List (Addr × List Value)}
  (hQ:OutL Q (TurnC g' L R hid Z as J)) (z:Z s₂) (G:Heap) (kG:Kp g' G) (hG:∀ b∈hid,G.get? b=none) (F:St G L s₂.heap l₂ own₂) (hJ:∀ Γ,Dat G Γ→J l₂ own₂ Γ) (ho:own₂.map (·.1)=as:=by rfl):Q .next s₂:=hQ.go _ _ ⟨z,l₂,own₂,G,kG,hG,ho,F,hJ⟩
theorem itLC {x:Str} {px:Pos} {D:Addr} {vs:List Value} {hid:List Addr}
  (Inv:Nat→List (Str × Value)→List (Addr × List Value)→Heap→Prop) (Z:Shared→Prop)
  (hh:A.handled=none) (F:St g L s.heap l own) (hl:g.IsList D vs.toArray) (hg:∀ b∈hid,g.get? b=none) (hoh:∀ p∈own,p.1∉hid) (hLh:L∉hid) (hhs:∀ b∈hid,b<s.heap.objs.size) (h0:Inv 0 l own g)
  (hZ:Z s) (hZk:∀ s h tk,Same hid s.heap h→Z s→Z { s with heap:=h,toks:=tk })
  (turn:∀ i v l₁ own₁ g₁ g' s₁ E' Qt,OutL Qt (TurnC g' L R hid Z (own₁.map (·.1)) (Inv (i+1)))→vs[i]?=some v→Inv i l₁ own₁ g₁→Kp g g₁→Kp g₁ g'→(∀ b∈hid,g'.get? b=none)→St g' L s₁.heap ((x,v)::l₁) own₁→Z s₁ →
   wpC (model prog w) A (execs body (envX name scope L f cd cl)) Qt E' s₁)
  (fin:∀ l₁ own₁ g₁ s₁,Inv vs.length l₁ own₁ g₁→Kp g g₁→(∀ b∈hid,g₁.get? b=none)→St g₁ L s₁.heap l₁ own₁→Z s₁→R (.ok .next) s₁)
  (hk:scope.kind=.function:=by rfl) (hx:(envX name scope L f cd cl).kindOf x=some .local:=by rfl) :
  wpAny (model prog w) A (pyIter (.ref D)) (fun it s₂=>codeC (model prog w) A (.forLoop (.Name x px) it body [] (envX name scope L f cd cl)) R s₂) E s:=by
 refine u03 (listL F hl) fun hls hlt hDL hDo=>?_
 refine wpAny_pyIter_list hls ?_
 have hn:s.heap.get? s.heap.objs.size=none:=Heap.get?_none_of_le (Nat.le_refl _)
 refine u02 (noI F hn) fun n1 n2 n3=>?_
 have kk:Kp s.heap (s.heap.push { cls:=.type "list_iterator", data:=.fields #[.ref D,.int 0 0] }):=fun b o e=>Heap.get?_push_of_some _ e
 have F':=F.keeps kk
 have W:=Walks.list (prog:=prog) (w:=w) hh s.heap.objs.size D (Nat.ne_of_lt hlt) vs.toArray
 refine forHC (hid:=hid) (wr:=[s.heap.objs.size]) (s:={ s with heap:=s.heap.push { cls:=.type "list_iterator", data:=.fields #[.ref D,.int 0 0] } }) Inv
  Z (fun g' hg'=>Dr.name W hg' hx (by show (scope.kind == .class || (scope.kind == .module && L != mainGlobals))=false; rw [hk]; rfl)) F'
  ⟨(w12 _ (Heap.get?_push_size _ rfl) rfl rfl),hls.at fun o e=>Heap.get?_push_of_some _ e⟩ ?_ ?_ ?_ hg hoh hLh (fun b hb=>by rw [List.mem_singleton.mp hb]; exact n1) (fun b hb=>by rw [List.mem_singleton.mp hb]; exact List.mem_cons_self ..) ?_ h0 (hZk _ _ s.toks (fun b _ o e=>kk b o e) hZ) hZk ?_ ?_
 ·intro p hp hm
  rcases List.mem_cons.mp hm with e | hm
  ·exact n3 p hp e
  ·exact hDo p hp (List.mem_singleton.mp hm)
 ·intro hm
  rcases List.mem_cons.mp hm with e | hm
  ·exact n2 e.symm
  ·exact hDL (List.mem_singleton.mp hm).symm
 ·intro b hb hm
  rcases List.mem_cons.mp hb with e | hb
  ·exact Nat.lt_irrefl _ (e▸hhs b hm)
  ·have:=hg b hm
   rw [List.mem_singleton.mp hb] at this
   refine u11 hl fun o ho _=>?_; clear hl
   rw [this] at ho; cases ho
 ·rintro i h ⟨⟨o,ho,hc,_⟩,⟨o',ho',hc',_⟩⟩ b hb
  rcases List.mem_cons.mp hb with rfl | hb
  ·exact (w11 o ho (fun _=>hc))
  ·rw [List.mem_singleton.mp hb]
   refine (w11 o' ho' (fun hm=>?_))
   exact absurd (List.mem_singleton.mp hm) (Nat.ne_of_lt hlt)
 ·intro i _ l₁ own₁ g₁ g' s₁ E' hi y0; refine u11 y0 fun v hv z0=>?_; clear y0; subst z0; intro hI kg k hh' F₁ z
  exact turn i v l₁ own₁ g₁ g' s₁ E' _ .same (by simpa using hv) hI kg k hh' F₁ z
 ·intro l₁ own₁ g₁ s₁ hI kg hh' F₁ z
  exact fin l₁ own₁ g₁ s₁ (by simpa using hI) kg hh' F₁ z
end
noncomputable def SlotsKept (Ls:List Addr) (h h':Heap):Prop:=∀ L∈Ls,∀ o,h.get? L=some o→∃ sl,h'.get? L=some { o with slots:=sl }
theorem SlotsKept.trans {Ls:List Addr} {h h' h'':Heap} (x:SlotsKept Ls h h') (y:SlotsKept Ls h' h''):SlotsKept Ls h h'':=fun L hL o e=>by
 obtain ⟨sl,e1⟩:=x L hL o e
 obtain ⟨sl',e2⟩:=y L hL _ e1
 exact ⟨sl',e2⟩
theorem SlotsKept.of {Ls:List Addr} {h h':Heap} (x:Same Ls h h'):SlotsKept Ls h h':=fun L hL o e=>⟨o.slots,x L hL o e⟩
theorem SlotsKept.of_kp {Ls:List Addr} {h h':Heap} (x:Kp h h'):SlotsKept Ls h h':=.of fun b _ o e=>x b o e
noncomputable def Below (Ls:List Addr) (outer:List Env) (h:Heap):Prop:=∀ env∈outer,env.scope.kind≠.module∧∃ L o,env.frame=some L∧L∈Ls∧h.get? L=some o∧∀ vs,o.data≠.fields vs
theorem Below.slots {Ls:List Addr} {outer:List Env} {h h':Heap} (x:Below Ls outer h) (k:SlotsKept Ls h h'):Below Ls outer h':=fun env he=>by
 obtain ⟨h1,L,o,h2,h3,h4,h5⟩:=x env he
 obtain ⟨sl,e⟩:=k L h3 o h4
 exact ⟨h1,L,_,h2,h3,e,h5⟩
theorem funFrames {Ls:List Addr} {base h:Heap} (hb:∀ b∈Ls,base.get? b=none):∀ {outer:List Env},Below Ls outer h→Heap.FunFrames h base outer
 | [],_=>trivial
 | env::outer,x=>by
  obtain ⟨h1,L,o,h2,h3,h4,h5⟩:=x env (List.mem_cons_self ..)
  exact ⟨h1,(w23 L o h2 (hb L h3) h4 h5),funFrames hb fun e he=>x e (List.mem_cons_of_mem _ he)⟩
theorem St.slots {g h h':Heap} {L:Addr} {l:List (Str × Value)} {own:List (Addr × List Value)} {X:List Addr} (F:St g L h l own) (hk:∀ b o,b≠L→b∉X→h.get? b=some o→h'.get? b=some o)
  (hL:∀ o,h.get? L=some o→∃ sl,h'.get? L=some { o with slots:=sl }) (hg:∀ b∈X,g.get? b=none) (ho:∀ p∈own,p.1∉X):St g L h' l own:=by
 obtain ⟨⟨m,F',hm⟩,kp,gl,ow,nd⟩:=F
 refine ⟨(w11 m ?_ hm),fun b o e=>hk b o (fun q=>by subst q; rw [gl] at e; cases e) (fun hx=>by rw [hg b hx] at e; cases e) (kp b o e),gl,fun p hp=>⟨(ow p hp).1,(ow p hp).2.1,?_⟩,nd⟩
 ·refine u32 F' fun o es ep h1 h2 r=>?_; clear F'
  obtain ⟨sl,e⟩:=hL o h1
  exact (w32 _ es ep e h2 r)
 ·obtain ⟨n,hn⟩:=(ow p hp).2.2
  exact ⟨n,hk _ _ (ow p hp).2.1 (ho p hp) hn⟩
section
variable {prog:Program} {w:World} {A:Around} {E:Value→Shared→Prop} {s:Shared}
structure Rel (L:Addr) (Ls:List Addr) (h h':Heap):Prop where
 same:∀ b o,b≠L→b∉Ls→h.get? b=some o→h'.get? b=some o
 slots:∀ b o,b=L∨b∈Ls→h.get? b=some o→(∀ vs,o.data≠.fields vs)→∃ sl,h'.get? b=some { o with slots:=sl }
theorem caught {env:Env} {outer:List Env} {Ls:List Addr} {L e:Addr} {h₀:Heap} {t:Expr} {b₀:Stmt} {suite:List Stmt} {pos:Pos} {Q:Flow→Shared→Prop} (hfr:A.frames=some (env::outer)) (hf:env.frame=some L) (hke:env.scope.kind≠.module) (hx:Heap.NewExc h₀ s.heap e "ValueError")
  (hL:∃ o,h₀.get? L=some o∧∀ vs,o.data≠.fields vs) (hB:Below Ls outer h₀)
  (ht:∀ h' E',Rel L Ls h₀ h'→wpAny (model prog w) (A.mark (some (.ref e))) (eval t env) (fun c s₁=>c=.type "ValueError" ∧ s₁={ s with heap:=h' }) E' { s with heap:=h' })
  (h:∀ h' E',Rel L Ls h₀ h'→wpAny (model prog w) (A.mark (some (.ref e))) (execs (b₀::suite) env) Q E' { s with heap:=h' }) :
  wpAny (model prog w) A (noteFrame (.ref e) env) (fun _ s₂=>wpAny (model prog w) A (setFlight (.ref e) none) (fun _ s₃=>wpAny (model prog w) A (handleBy (.ref e) env [.ExceptHandler (some t) none (b₀::suite) pos]) Q E s₃) E s₂) E s:=by
 refine u22 hx.there fun ob a0 he hcls hd=>?_
 refine u11 hL fun oL hoL hdL=>?_; clear hL
 have hLs:=hx.keeps _ _ hoL
 obtain ⟨base,hb⟩:∃ base,base=hideAll s.heap (e::L::Ls):=⟨_,rfl⟩
 have hbn:∀ b∈e::L::Ls,base.get? b=none:=fun b hm=>hb▸hideAll_none _ hm
 have hkb:base.StaysIn s.heap:=fun b o q=>by rw [hb] at q; exact of_hideAll _ q
 have hfun:Heap.FunFrames s.heap base (env::outer):=⟨hke,(w23 L oL hf (hbn L (by simp)) hLs hdL),funFrames (fun b hm=>hbn b (by simp [hm])) (hB.slots (.of_kp hx.keeps))⟩
 have rel:∀ h',base.StaysIn h'→(∀ b o,s.heap.get? b=some o→(∀ vs,o.data≠.fields vs)→∃ sl,h'.get? b=some { o with slots:=sl })→Rel L Ls h₀ h':=fun h' k1 k2 =>
  ⟨fun b o h1 h2 q=>k1 b o (by
   rw [hb]
   refine hideAll_get _ (hx.keeps _ _ q) fun hm=>?_
   rcases List.mem_cons.mp hm with r | hm
   ·rw [r,hx.new] at q; cases q
   ·rcases List.mem_cons.mp hm with r | hm
    ·exact h1 r
    ·exact h2 hm),fun b o _ q hn=>k2 b o (hx.keeps _ _ q) hn⟩
 have hfl:wpAny (model prog w) A (noteFrame (.ref e) env) (fun _ s₂=>wpAny (model prog w) A (setFlight (.ref e) none) (fun _ s₃=>∃ h',s₃={ s with heap:=h' }∧Rel L Ls h₀ h'∧base.StaysIn h'∧Heap.FunFrames h' base (env::outer)∧Heap.TracedW h' base e (.type "ValueError") a0 ∧
   ∀ b o,s.heap.get? b=some o→(∀ vs,o.data≠.fields vs)→∃ sl,h'.get? b=some { o with slots:=sl }) E s₂) E s:=by
  unfold noteFrame
  simp -iota only [hf]
  refine wpAny_bind (wpAny_field he hd (x:=.none) rfl ?_)
  rw [if_neg (by decide)]
  refine wpAny_newEntryW hfr hfun hf he hkb (hbn e (by simp)) hd (by simp) (a0:=a0) rfl fun h' hN=>?_
  refine u03 hN fun n1 n2 n3 n4=>?_; clear hN
  rw [hcls] at n3
  exact (w15 h' rfl (rel h' n1 n4) n1 n2 n3 n4)
 refine wpAny_mono hfl (fun _ s₂ h₂=>wpAny_mono h₂ (fun _ s₃ h₃=>?_) fun _ _ x=>x) fun _ _ x=>x
 refine u15 h₃ fun h' z0 hr n1 n2 n3 n4=>?_; clear h₃; subst z0
 refine wpAny_handleBy_builtin (X := "ValueError") (T := "ValueError") (b:=true) (by rw [isSubtype_type]; kernel_rfl) (by rw [show ((Manifest.find? "ValueError").elim "type" fun x=>x.metatype) = "type" from by kernel_rfl,isSubtype_type]; kernel_rfl) (by rw [isSubtype_type]; kernel_rfl) (wpAny_mono (ht h' _ hr) (fun c s₁ hc=>?_) fun _ _ x=>x)
 obtain ⟨rfl,rfl⟩:=hc
 refine u52 (id n3) fun oe _ _ _ _ he' z0 _=>?_; obtain ⟨hc',_⟩:=z0
 refine ⟨rfl,(w11 oe he' hc'),?_⟩
 rw [if_pos rfl]
 refine wpAny_setFlight_noneW n1 n2 n3.at fun h'' m1 m2 m3 m4=>?_
 exact h h'' _ (rel h'' m1 fun b o q hn=>by
  obtain ⟨sl,e1⟩:=n4 b o q hn
  exact ⟨sl,m4 b _ e1 hn⟩)
theorem callWithC_type {env:Env} {pos:Pos} {T:String} {e:Expr} {rest:List Expr} {Q:Value→Shared→Prop}
  (h:wpAny (model prog w) A (spliced (backTo pos (starEach (e::rest) env))) (fun vs s₁=>wpC (model prog w) A (call (.type T) vs) Q E s₁) E s)
  (he:starEach (e::rest) env=(false,eval e env)::starEach rest env:=by rfl)
  (hplain:(backTo pos (starEach rest env)).any (·.1)=false:=by rfl) :
  wpC (model prog w) A (callWith pos (.type T) [] (backTo pos (starEach (e::rest) env)) []) Q E s:=by
 rw [he] at h ⊢
 unfold callWith
 refine wpC_bindA (wpAny_holding (evalArgs_plain (wpAny_mono h (fun vs s₁ h₁=>?_) fun _ _ x=>x)))
 refine wpC_bindA (wpAny_standAt ?_)
 have hs:(((backTo pos ((false,eval e env)::starEach rest env)).any fun x=>x.fst) || ([]:List (Option Str × Sem Value)).any fun x=>x.fst.isNone)=false:=by
  rw [List.any_nil,Bool.or_false]
  show (false || (backTo pos (starEach rest env)).any (·.1))=false
  rw [hplain]; rfl
 simp -iota only [hs]
 refine wpC_bindA (wpAny_pure ?_)
 exact wpC_bind (wpC_mono h₁ (fun r s₂ hr=>wpC_of (wpAny_bind (wpAny_holding (wpAny_point (wpAny_pure hr))))) fun _ _ x=>x)
theorem extT {g:Heap} {L D B:Addr} {l:List (Str × Value)} {pre post:List (Addr × List Value)} {items us:List Value} {Q:Value→Shared→Prop} (F:St g L s.heap l (pre++(D,items)::post)) (hB:s.heap.get? B=some { cls:=.type "tuple", data:=.seq us.toArray }) (hz:items.length+us.length≤100000)
  (h:∀ h',St g L h' l (pre++(D,items++us)::post)→Heap.SameBut D s.heap h'→Q .none { s with heap:=h' }):wpAny (model prog w) A (call (.builtin "list.extend") [.ref D,.ref B]) Q E s:=by
 have hD:s.heap.PlainList D items.toArray:=(F.ow (D,items) (by simp)).2.2
 obtain ⟨n,hD⟩:=hD
 have hs:=Heap.SameBut.update (h:=s.heap) (a:=D) (f:=Obj.mapSeq fun x=>x++us.toArray)
 refine call_meets PySem.F.slot_list_extend (w11 _ hD rfl) PySem.F.entry_list_extend (PySem.F.args_list_extend_2 _ _) (PySem.AutoSeq1.list_extend_list_tuple_0 D items.toArray n B us.toArray 0 ?_ ?_ ?_) ⟨hD,hB,h _ (F.turn hs ?_) hs⟩
 ·intro hh
  rw [Bool.and_eq_true] at hh
  have h2:=hh.2
  unfold Builtin.List.listTooLong at h2
  have h3:=of_decide_eq_true h2
  rw [List.size_toArray,List.size_toArray,sizeLine_eq] at h3
  exact q2 0x9800140000004744eab0d403000211032a 1 3 (by kernel_rfl) hz h3
 ·rw [List.size_toArray,sizeLine_eq]; exact q2 0x400000040030d403000211032a 1 3 (by kernel_rfl) hz
 ·rw [List.size_toArray,List.size_toArray,sizeLine_eq]; exact q2 0x1180000008e9400084430d403000211032a 1 3 (by kernel_rfl) hz
 ·have:=Heap.get?_update_self (h:=s.heap) (Obj.mapSeq fun x=>x++us.toArray) hD rfl
  have e:(items++us).toArray=items.toArray++us.toArray:=by simp
  rw [e]
  exact ⟨_,this⟩
end
theorem Says.o43 {w:World} {h:Heap} (x:Says w h):h.get? 43=some ⟨.type "re.Pattern", none,.fields #[.str "([0-9]+|[._+-])" 292,.int 32 336,.int 1 0,.none,.none,.ref 42,.int 0 0],#[]⟩:=by
 have:=congrArg (·[1]?) x.objs
 simpa [hookAddrs,hookObjs] using this
theorem Says.o42 {w:World} {h:Heap} (x:Says w h):h.get? 42=some ⟨.type "tuple", none,.seq (reWords.map fun i=>Value.int i 0).toArray 0,#[]⟩:=by
 have:=congrArg (·[0]?) x.objs
 simpa [hookAddrs,hookObjs] using this
theorem Says.o44 {w:World} {h:Heap} (x:Says w h):h.get? 44=some ⟨.type "dict", none,.dict (stageEntries w.params).toArray 10,#[]⟩:=by
 have:=congrArg (·[2]?) x.objs
 simpa [hookAddrs,hookObjs] using this
theorem TK.re1 {w:World} {mg:Str→Option Value} {h:Heap} (T:TK w mg h):mg "_twin_re_1" = some (.ref 43):=T.nameH (by
 have:=congrArg (·[0]?) T.hook.names
 simpa [hookNames,hookVals] using this)
theorem TK.stages {w:World} {mg:Str→Option Value} {h:Heap} (T:TK w mg h):mg "_ver_stages" = some (.ref 44):=T.nameH (by
 have:=congrArg (·[1]?) T.hook.names
 simpa [hookNames,hookVals] using this)
theorem hideL_keep {g h:Heap} {Ls:List Addr} (k:Kp g h) (hP:∀ b∈Ls,g.get? b=none):Kp g (hideAll h Ls):=fun b o e=>by
 refine hideAll_get _ (k b o e) fun hm=>?_
 rw [hP b hm] at e; cases e
theorem St.withH {g h:Heap} {L:Addr} {l:List (Str × Value)} {own:List (Addr × List Value)} (F:St g L h l own) {C:Addr} {o:Obj} (hid:List Addr) (hg:∀ b∈hid,g.get? b=none) (hC:h.get? C=some o) (hd:∀ es ep,o.data≠.dict es ep) (hne:∀ p∈own,p.1≠C) (hCh:C∉hid) :
  ∃ g',Kp g g'∧g'.get? C=some o∧(∀ b∈hid,g'.get? b=none)∧St g' L h l own:=by
 refine u14 (F.rebaseH hid hg) fun g' k1 _ k3 k4 F'=>?_
 refine (w13 g' k1 (k3 C o ?_ (fun p hp e=>hne p hp e.symm) hCh hC) k4 F')
 rintro rfl
 refine u11 F.fl fun m Fn _=>?_
 refine u32 Fn fun o' es ep h1 h2 _=>?_; clear Fn
 rw [hC] at h1; cases h1
 exact hd _ _ h2
section
variable {prog:Program} {w:World} {mg:Str→Option Value} {A:Around} {E:Value→Shared→Prop} {s:Shared} {a:Addr}
theorem items_le:∀ l:Txts,(l.flatMap itemsOf).length≤l.length
 | []=>Nat.le_refl _
 | p::r=>by
  have ih:=items_le r
  rw [List.flatMap_cons,List.length_append,List.length_cons]
  have h1:(itemsOf p).length≤1:=by
   cases p with
   | nil=>exact Nat.zero_le _
   | cons c q =>
    rw [items_cons]
    split
    ·exact Nat.le_refl _
    ·split
     ·exact Nat.zero_le _
     ·exact Nat.le_refl _
  exact q3 0x8c014a00621208c00c02f5000011a 1 7 (by kernel_rfl) ih h1
theorem gmGet {pl:Sem Bool} {Q:Value × List Value→Shared→Prop} {o:Obj} (ho:s.heap.get? 44=some o) (hc:o.cls=.type "dict") (hd:o.dict=none) (h:Q (.builtin "dict.get", [.ref 44]) s):wpAny (model prog w) A (getMethod (.ref 44) "get" pl) Q E s :=
 getMethod_builtin (T := "dict") (w11 _ ho hc) F.plainAttrs_dict F.slot_dict_get F.type_dict_get (fun a e=>by cases e; exact (w11 _ ho hd)) h
theorem cv_spec {g:Heap} (T:TK w mg g) (kg:Kp g s.heap) (ha:mg "_comparable_version" = some (.ref a)) (R:Room A 5) {outer:List Env} {Ls:List Addr} (hfr:A.frames=some outer) (hLs:∀ b∈Ls,g.get? b=none) (hB:Below Ls outer s.heap) (hLd:∀ b∈Ls,∃ o,s.heap.get? b=some o∧∀ vs,o.data≠.fields vs) {x:List Nat} {t:Tok} (hx:x.length≤640) (hc:∀ c∈x,(c<127∨c=233)∧c≠0) :
  wpC (model prog w) A (call (.ref a) [.str (S x) t]) (fun v s'=>∃ h k D vs,s'={ s with heap:=h,toks:=k }∧v=.ref D∧h.PlainList D vs.toArray∧s.heap.get? D=none∧RV (rowG x) vs∧SlotsKept Ls s.heap h∧∀ b o,b∉Ls→s.heap.get? b=some o→h.get? b=some o) E s:=by
 have T₀:=T.keeps kg
 refine enterC F_cv T₀ ha R.lim (binds:=[("version", .str (S x) t)]) (fun _ _ _=>BindsTo.of_eq rfl) (locs rfl) rfl fun cd h₁ F₀=>?_
 obtain ⟨L,hL⟩:∃ L,L=s.heap.objs.size:=⟨_,rfl⟩
 have hLn:s.heap.get? L=none:=by rw [hL]; exact Heap.get?_none_of_le (Nat.le_refl _)
 have F:=(St.init F₀).pick ["version"] rfl
 rw [← hL] at F ⊢
 have hre:=T₀.re1
 have hst:=T₀.stages
 have hLL:L∉Ls:=fun hm=>by (refine u11 (hLd L hm) fun o ho _=>?_); rw [hLn] at ho; cases ho
 refine execsC_consA ?_
 walk_at "ms"
 intro h₂ F₂ e₂
 refine execsC_consA ?_
 walk_at "ms"
 refine ⟨szl (by simp),fun h₃ N hN hk₃ hT₃=>?_⟩
 have hNs:s.heap.get? N=none:=(noI F₂ hN).1
 have F₃:=F₂.own1 (items:=[]) hk₃ hN ⟨_,hT₃⟩
 walk_at "ms"
 intro h₄ F₄ e₄
 refine execsC_cons ?_
 refine ForC ?_
 walk_at "ms"
 refine gmSplit (T₀.keeps F₄.keep).hook.o43 ?_
 walk_at "ms"
 refine reSplit (T₀.keeps F₄.keep).hook.o43 (T₀.keeps F₄.keep).hook.o42 (by walk_at "li") fun h₅ D vs k₅ hk₅ hD hDn hvs=>?_
 have F₅:=F₄.keeps hk₅
 have hsl₅:SlotsKept Ls s.heap h₅:=.of_kp F₅.keep
 have hNL:∀ b∈Ls,b≠N:=fun b hb q=>by (refine u11 (hLd b hb) fun o ho _=>?_); rw [q,hNs] at ho; cases ho
 have hDL:D∉Ls:=fun hm=>by
  refine u11 (hLd D hm) fun o ho _=>?_
  have:=F₄.keep _ _ ho
  rw [hDn] at this; cases this
 have hDN:∀ p∈[(N,([]:List Value))],p.1≠D:=fun p hp q=>by
  rw [List.mem_singleton.mp hp] at q
  obtain ⟨n,hn⟩:=(F₄.ow (N,[]) (by simp)).2.2
  rw [show N=D from q,hDn] at hn; cases hn
 have T₁:TK w mg (hideAll s.heap Ls):=T.keeps (hideL_keep kg hLs)
 have F₆:St (hideAll s.heap Ls) L h₅ [(("result" : Str),Value.ref N)] [(N,[])]:=(F₅.base fun b o e=>of_hideAll _ e).pick ["result"] rfl
 refine u13 (F₆.withH Ls (fun b hb=>hideAll_none _ hb) hD (fun _ _ q=>by cases q) hDN hDL) fun g₂ kg₂ hD₂ hid₂ F₇=>?_
 have T₂:=T₁.keeps kg₂
 have hks:∀ b o,b∉Ls→s.heap.get? b=some o→g₂.get? b=some o:=fun b o hb q=>kg₂ b o (hideAll_get _ q hb)
 clear F₆ F₅ F₄ F₃ F₂ F F₀ T₁ T₀ T
 obtain ⟨l₀,hl₀⟩:∃ l₀:List (Str × Value),l₀=([("result", Value.ref N)]:List (Str × Value)):=⟨_,rfl⟩
 rw [← hl₀] at F₇
 have hfr':(A.deeper (envOf "_comparable_version" F_cv.scope L a cd)).frames=some (envOf "_comparable_version" F_cv.scope L a cd::outer):=by
  show A.frames.map _=_
  rw [hfr]; rfl
 refine itLC (hid:=Ls) (fun i l own g=>∃ items,l=l₀∧own=[(N,items)]∧RV (((pcsF (x.length+1) x).take i).flatMap itemsOf) items)
  (fun s'=>∃ h k,s'=(⟨h,s.gens,s.drawn,k,s.os⟩:Shared)∧SlotsKept Ls s.heap h) R.hh F₇ (isL_of hD₂) hid₂ (fun p hp hm=>hNL _ hm (by rw [List.mem_singleton.mp hp])) hLL ?_ (w12 ([]) rfl rfl .nil) (w21 _ _ rfl hsl₅) ?_ ?_ ?_
 ·intro b hb
  refine u11 (hLd b hb) fun o ho _=>?_
  obtain ⟨sl,e⟩:=hsl₅ b hb o ho
  exact Heap.lt_size e
 ·intro _ h' k' hs y0; refine u21 y0 fun h k z0 hsl=>?_; clear y0; subst z0
  exact (w21 _ _ rfl (hsl.trans (.of hs)))
 ·intro i v l₁ own₁ g₃ g' _ E' _ hQt hvi y0; refine u12 y0 fun items z0 z1 hrv=>?_; clear y0; subst z0; subst z1; intro kg₃ kg' hid' F y1; refine u21 y1 fun h k z0 hsl=>?_; clear y1; subst z0
  subst hl₀
  refine u21 (strs_get hvs hvi) fun p tp z0 hpi=>?_; subst z0
  refine u02 (pcs_kind _ x p (Nat.le_refl _) (List.mem_of_getElem? hpi)) fun hkind hsub hpl=>?_
  have htk:((pcsF (x.length+1) x).take (i+1)).flatMap itemsOf=((pcsF (x.length+1) x).take i).flatMap itemsOf++itemsOf p:=by
   rw [take_snoc hpi,List.flatMap_append]; simp
  have T:=T₂.keeps (fun b o e=>kg' b o (kg₃ b o e))
  have hitl:items.length≤50000:=by
   have h1:=hrv.len
   have h2:=items_le ((pcsF (x.length+1) x).take i)
   have h3:=pcsF_len (x.length+1) x
   rw [List.length_take] at h2
   exact q5 0x186a0300508c0481c5001c0caa0600cd003015d410124014896a8010001aa 3 0xa08185240c (by kernel_rfl) hx h1 h2 h3
  refine execsC_cons ?_
  refine IfC (wpC_of ?_)
  walk_at "ms"
  refine ninS ?_
  walk_at "ms"
  rcases hkind with hskip | hkind
  ·have h1:hasL p [46,95,43,45]=true∧itemsOf p=[]:=by
    rcases hskip with rfl | ⟨c,hc',rfl⟩
    ·exact ⟨by decide,rfl⟩
    ·refine ⟨has_sep c hc',?_⟩
     rw [items_cons,if_neg (fun hd=>?_),if_pos hc']
     exact (dig_facts hd).2.2.1 hc'
   rw [h1.1,if_neg (by simp)]
   refine wpC_of (wpAny_execs_nil ?_)
   refine wpC_of (wpAny_execs_nil ?_)
   walk_at "ms"
   refine TurnC.go hQt (w21 _ _ rfl hsl) g' (fun _ _ e=>e) hid' (F.pick ["result"] rfl) (fun Γ _=>(w12 items rfl rfl ?_))
   rw [htk,h1.2,List.append_nil]; exact hrv
  ·have hch:∀ c∈p,(c<127∨c=233)∧c≠0:=fun c hc'=>hc c (hsub c hc')
   have hpn:p≠[]:=hkind.elim (·.1) (·.1)
   refine u20 (by
    cases p with
    | nil=>exact absurd rfl hpn
    | cons c r=>exact (w20 c r rfl):∃ c r,p=c::r) fun c r hcr=>?_
   have hcs:c∉seps∧(isD c=true∨isT c=true):=by
    rcases hkind with ⟨_,hd⟩ | ⟨_,ht⟩
    ·have hd:=hd c (hcr▸List.mem_cons_self ..)
     exact ⟨(dig_facts hd).2.2.1,.inl hd⟩
    ·have ht:=ht c (hcr▸List.mem_cons_self ..)
     exact ⟨(isT_parts ht).2,.inr ht⟩
   have hhas:hasL p [46,95,43,45]=false:=by rw [hcr]; exact has_no hcs.1
   rw [hhas,if_pos (by rfl)]
   refine execsC_cons ?_
   refine wpC_mono (Q:=fun f s'=>f=.next∧∃ h₂ k₂ tt vv pr,s'=(⟨h₂,s.gens,s.drawn,k₂,s.os⟩:Shared)∧SlotsKept Ls s.heap h₂∧St g' L h₂ [(("t" : Str),Value.int pr.1 tt),(("v" : Str),vv),(("result" : Str),Value.ref N)] [(N,items)]∧isIt pr.2 vv∧itemsOf p=[pr]) (TryC ?_) (fun f s' hm=>?_) (fun _ _ e=>e)
   ·rcases hkind with ⟨_,hd⟩ | ⟨_,ht⟩
    ·refine wpC_of ?_
     walk_at "ms"
     refine callInt_ok (by exact q2 0x280180284014046a8010001aa 1 7 (by kernel_rfl) hx hpl) hd hpn fun tv kv=>?_
     walk_at "ms"
     intro h₂ F₂ e₂
     walk_at "ms"
     intro h₃ F₃ e₃
     walk_at "ms"
     refine ⟨rfl,_,_,_,_,(100,.inl (valN p)),rfl,?_,F₃.pick ["t", "v", "result"] rfl,⟨_,rfl⟩,?_⟩
     ·exact hsl.trans (.of fun b hb o q=>e₃.extBut b o (fun q'=>hLL (q'▸hb)) (e₂.extBut b o (fun q'=>hLL (q'▸hb)) q))
     ·rw [hcr,items_cons,if_pos (hd c (hcr▸List.mem_cons_self ..))]
    ·have hTc:=ht c (hcr▸List.mem_cons_self ..)
     have hio:itemsOf p=[(rankOf p,.inr p)]:=by
      rw [hcr,items_cons,if_neg (by rw [(isT_parts hTc).1]; exact Bool.false_ne_true),if_neg hcs.1]
     have hLo:∃ o,h.get? L=some o∧∀ vs,o.data≠.fields vs:=by
      refine u11 F.fl fun m Fn _=>?_
      refine u32 Fn fun o es ep h1 h2 _=>?_; clear Fn
      exact (w11 o h1 (fun vs q=>by rw [h2] at q; cases q))
     have hLs₀:∀ b∈Ls,∀ o,h.get? b=some o→∀ vs,o.data≠.fields vs:=fun b hb o q vs hq=>by
      refine u11 (hLd b hb) fun o' ho' hn=>?_
      obtain ⟨sl,e⟩:=hsl b hb o' ho'
      rw [q] at e; cases e
      exact hn vs hq
     have after:∀ h'',Rel L Ls h h''→St g' L h'' [(("v" : Str),Value.str (S p) tp),(("result" : Str),Value.ref N)] [(N,items)]∧SlotsKept Ls s.heap h'':=fun h'' hr =>
      ⟨(F.pick ["v", "result"] rfl).slots hr.same (fun o q=>hr.slots L o (.inl rfl) q (by (refine u11 hLo fun o' h1 h2=>?_; clear hLo); rw [q] at h1; cases h1; exact h2)) hid' (fun p hp hm=>hNL _ hm (by rw [List.mem_singleton.mp hp])),
       hsl.trans fun b hb o q=>hr.slots b o (.inr hb) q (hLs₀ b hb o q)⟩
     refine execsC_cons (AssignC_Name (CallC ?_))
     walk_at "nm"
     refine callWithC_type ?_
     walk_at "ms"
     refine callInt_bad R.hh (by exact q2 0x280180284014046a8010001aa 1 7 (by kernel_rfl) hx hpl) (fun c hc'=>by have:=hch c hc'; exact q1 0x11005800180147488017f10011773b658a 1 9514 (by kernel_rfl) this) ?_ (bad_read fun c hc'=>⟨(hch c hc').1,(hch c hc').2,(isT_parts (ht c hc')).1⟩) fun h₂ k₂ e hk₂ hx₂=>?_
     ·have:=PySem.seen_length (S p)
      rw [S_len] at this
      exact q3 0x280180182100300bd4014046a8010001aa 1 15 (by kernel_rfl) hx hpl this
     ·refine caught hfr' rfl (by show ScopeKind.function≠ScopeKind.module; decide) hx₂ hLo (hB.slots hsl) (fun h'' E'' hr=>?_) (fun h'' E'' hr=>?_)
      ·obtain ⟨F',_⟩:=after h'' hr
       exact nmU F' T (by decide) (by boot_by_name) ⟨rfl,rfl⟩
      ·obtain ⟨F',hsl'⟩:=after h'' hr
       walk_at "ms"
       refine gmGet (T.keeps F'.keep).hook.o44 rfl rfl ?_
       walk_at "ms"
       refine getStage (T.keeps F'.keep).hook.o44 fun tt kk=>?_
       walk_at "ms"
       intro h₃ F₃ e₃
       walk_at "ms"
       exact ⟨rfl,_,_,_,_,(rankOf p,.inr p),rfl,hsl'.trans (.of fun b hb o q=>e₃.extBut b o (fun q'=>hLL (q'▸hb)) q),F₃.pick ["t", "v", "result"] rfl,⟨_,rfl⟩,hio⟩
   ·obtain ⟨rfl,h₂,k₂,tt,vv,pr,rfl,hsl₂,F₂,hit,hio⟩:=hm
    refine wpC_of ?_
    walk_at "ms"
    refine gmExt (F₂.ow (N,items) (by simp)).2.2 ?_
    walk_at "ms"
    refine ⟨szl (by simp),fun h₃ D₃ hD₃ hk₃ hT₃=>?_⟩
    have F₃:=F₂.keeps hk₃
    walk_at "ms"
    refine extT (pre:=[]) F₃ hT₃ (by simp; exact q1 0x1869e1000c350100020a 1 3 (by kernel_rfl) hitl) fun h₄ F₄ e₄=>?_
    walk_at "ms"
    refine wpC_of (wpAny_execs_nil ?_)
    walk_at "ms"
    refine TurnC.go hQt (w21 _ _ rfl ?_) g' (fun _ _ e=>e) hid' (F₄.pick ["result"] rfl) (fun Γ _=>(w12 _ rfl rfl ?_))
    ·exact hsl₂.trans (.of fun b hb o q=>e₄.extBut b o (fun q'=>hNL b hb q') (hk₃ b o q))
    ·rw [htk,hio]
     exact hrv.snoc hit
 ·intro l₁ own₁ g₃ _ y0; refine u12 y0 fun items z0 z1 hrv=>?_; clear y0; subst z0; subst z1; intro kg₃ hid₃ F y1; refine u21 y1 fun h k z0 hsl=>?_; clear y1; subst z0
  subst hl₀
  refine execsC_consA ?_
  walk_at "ms"
  refine (w46 h k N items rfl rfl (F.ow (N,items) (by simp)).2.2 hNs ?_ hsl (fun b o hb q=>F.keep _ _ (kg₃ _ _ (hks b o hb q))))
  have hlen:vs.length=(pcsF (x.length+1) x).length:=by rw [strsAre_len hvs,List.length_map]
  rw [hlen,List.take_length,pcs_row _ _ (Nat.le_refl _)] at hrv
  exact hrv
end
noncomputable abbrev DatL (G H:Heap):Prop:=∀ b o,G.get? b=some o→(o.cls=.type "list" ∨ o.cls=.type "tuple")∧(∃ xs n,o.data=.seq xs n)→H.get? b=some o
theorem DatL.of {G H:Heap} (k:Kp G H):DatL G H:=fun b o e _=>k b o e
theorem DatL.list {G H:Heap} (k:DatL G H) {a:Addr} {vs:Array Value} (x:G.IsList a vs):H.IsList a vs:=by
 refine u12 x fun o ho hc z0=>?_; clear x; obtain ⟨n,hd⟩:=z0
 exact (w12 o (k a o ho ⟨.inl hc,_,_,hd⟩) hc ⟨n,hd⟩)
theorem DatL.tuple {G H:Heap} (k:DatL G H) {a:Addr} {vs:Array Value} (x:G.IsTuple a vs):H.IsTuple a vs:=by
 refine u12 x fun o ho hc z0=>?_; clear x; obtain ⟨n,hd⟩:=z0
 exact (w12 o (k a o ho ⟨.inr hc,_,_,hd⟩) hc ⟨n,hd⟩)
section
variable {prog:Program} {w:World} {A:Around} {E:Value→Shared→Prop} {env:Env}
theorem compBlock {elt iter:Expr} {x:Str} {px:Pos} {scope:Scope} {cl:List (Str × Addr)} {pos:Pos} {s₂:Shared} {I:Addr} {fp wr:List Addr} {n:Nat} {P:Nat→Value→Prop}
  {W:Nat→Heap→Prop} (K:Walks prog w A I fp wr n P W) (hsz:n≤100000) (R:Heap→Nat→Value→Prop) (hR:∀ G H i v,DatL G H→R G i v→R H i v) {RR:Value→Addr→Result→Shared→Prop}
  (hcell:∀ y∈scope.names,y.2≠.cell) (hkind:scope.kind=.function) (hx:scope.names.lookup x=some .local) (hst:W 0 s₂.heap) (hfp:∀ b∈fp,b<s₂.heap.objs.size)
  (hwc:∀ i h,W i h→∀ b∈wr,∃ o,h.get? b=some o∧o.cls≠.type "list" ∧ o.cls≠.type "tuple")
  (helt:∀ i v gX h tk C D E',i<n→P i v→(∀ b o,b∉wr→s₂.heap.get? b=some o→gX.get? b=some o)→(∃ o,h.get? D=some o)→St gX C h [(x,v)] [] →
   wpAny (model prog w) A (eval elt (compEnvC scope cl C env)) (fun y s'=>R (hideAll s'.heap [D]) i y∧Keeps { s₂ with heap:=h,toks:=tk } s') E' { s₂ with heap:=h,toks:=tk })
  (hRR:∀ D C h' tk m' (ys:List Value),s₂.heap.get? D=none→s₂.heap.get? C=none→D≠C→h'.Ns C m'→h'.PlainList D ys.toArray→ys.length=n→(∀ j y,ys[j]?=some y→R (hideAll h' [D]) j y) →
   (∀ b o,b∉wr→s₂.heap.get? b=some o→h'.get? b=some o)→RR (.ref D) C (.ok .next) { s₂ with heap:=h',toks:=tk }) :
  wpAny (model prog w) A (newList []) (fun acc s₃=>wpAny (model prog w) A (newFunctionEnv scope env.globals cl [] env.qual none .none (some env)) (fun cenv s₄ =>
   codeAny (model prog w) A (.compStart (.ListComp elt [⟨.Name x px,iter,[],0⟩] scope pos) 0 (.ref I) acc { cenv with scope:=relabel scope env }) (RR acc cenv.locals) s₄) E s₃) E s₂:=by
 refine wpAny_newObj_type (wpAny_newFunctionEnv hcell (by intro y hy; simp at hy) (fun h₁ hns₁ hsb₁=>?_) hkind)
 dsimp only at hns₁ hsb₁ ⊢
 generalize hH2:s₂.heap.push { cls:=.type "list", dict:=none,data:=.seq ([]:List Value).toArray }=H2 at hns₁ hsb₁ ⊢
 obtain ⟨D,hDe⟩:∃ D,D=s₂.heap.objs.size:=⟨_,rfl⟩
 obtain ⟨C,hCe⟩:∃ C,C=H2.objs.size:=⟨_,rfl⟩
 rw [← hDe]
 rw [← hCe] at hns₁ hsb₁ ⊢
 have hC:C=s₂.heap.objs.size+1:=by rw [hCe,← hH2,Heap.size_push]
 have hDC:D≠C:=by rw [hC,hDe]; exact Nat.ne_of_lt (Nat.lt_succ_self _)
 have fresh:∀ a,s₂.heap.objs.size≤a→s₂.heap.get? a=none:=fun a ha=>Heap.get?_none_of_le ha
 have hDn:=fresh D (by rw [hDe]; exact Nat.le_refl _)
 have hCn:=fresh C (by rw [hC]; exact Nat.le_succ _)
 have hDf:D∉fp:=fun hm=>Nat.lt_irrefl _ (hDe▸hfp _ hm)
 have hCf:C∉fp:=fun hm=>by have:=hfp _ hm; rw [hC] at this; exact Nat.lt_irrefl _ (Nat.lt_of_succ_lt this)
 have hDw:D∉wr:=fun h=>hDf (K.sub _ h)
 have hCw:C∉wr:=fun h=>hCf (K.sub _ h)
 have old:∀ b o,s₂.heap.get? b=some o→h₁.get? b=some o:=fun b o e=>hsb₁.extBut b o (fun q=>by rw [q,hCn] at e; cases e) (Heap.get?_push_of_some _ (hH2▸Heap.get?_push_of_some _ e))
 have hacc:h₁.PlainList D #[]:=⟨_,hsb₁.extBut _ _ hDC (Heap.get?_push_of_some _ (by rw [hDe]; exact hH2▸Heap.get?_push_size _ rfl))⟩
 have hst₁:W 0 h₁:=K.frame _ _ _ hst fun b _ o e=>old b o e
 have loop:∀ tk₁,codeAny (model prog w) A (.compLoop (.ListComp elt [⟨.Name x px,iter,[],0⟩] scope pos) 0 (.ref I) (.ref D) (compEnvC scope cl C env)) (RR (.ref D) C) { s₂ with heap:=h₁,toks:=tk₁ }:=by
  intro tk₁
  refine codeAny_compLoop_list (fun k s'=>∃ i h tk m ys,k=n-i∧i≤n∧s'={ s₂ with heap:=h,toks:=tk }∧W i h∧h.PlainList D ys.toArray∧h.Ns C m∧ys.length=i∧(∀ j y,ys[j]?=some y→R (hideAll h [D]) j y) ∧
   (∀ b o,b∉wr→s₂.heap.get? b=some o→h.get? b=some o)) ?_ n (w58 0 h₁ tk₁ _ ([]) rfl (Nat.zero_le _) rfl hst₁ hacc hns₁ rfl (by simp) (fun b o _ e=>old b o e))
  intro k _ y0; refine u58 y0 fun i h tk m ys z0 hi z1 hW hpl hns hlen hRy hk=>?_; clear y0; subst z0; subst z1
  by_cases hlt:i<n
  ·refine wpAny_mono (K.item i _ (fun r s₁=>match r with
     | none=>False
     | some v=>P i v∧∃ h' tk',s₁={ s₂ with heap:=h',toks:=tk' }∧W (i+1) h'∧∀ b o,b∉wr→h.get? b=some o→h'.get? b=some o) _ hlt hW fun v h' tk' hPv hW' hk'=>⟨hPv,h',tk',rfl,hW',hk'⟩) (fun r s₁ hr=>?_) fun _ _ e=>e
   cases r with
   | none=>exact hr.elim
   | some v =>
    obtain ⟨hPv,h',tk',rfl,hW',hk'⟩:=hr
    refine wpAny_assign_Name (wpAny_storeName_local (lookup_relabel_local hx) (hns.at' fun o e=>hk' _ o hCw e) (fun h₂ hn₂ hs₂=>?_) (by simp [compEnvC,relabel,hkind]))
    have hs₂':Heap.SameBut C h' h₂:=hs₂
    have up₂:∀ b o,b≠C→b∉wr→h.get? b=some o→h₂.get? b=some o:=fun b o hbC hbw e=>hs₂'.extBut b o hbC (hk' b o hbw e)
    have hpl₂:h₂.PlainList D ys.toArray:=by
     obtain ⟨q,hq⟩:=hpl
     exact ⟨q,up₂ _ _ hDC hDw hq⟩
    have F₂:St (hideAll h₂ (D::C::wr)) C h₂ [(x,v)] []:=by
     refine ⟨(w11 _ hn₂ (fun y u e=>?_)),fun b o e=>of_hideAll _ e,hideAll_none _ (by simp),(fun _ hp=>nomatch hp),List.nodup_nil⟩
     rw [List.lookup_cons] at e
     by_cases q:y=x
     ·subst q
      rw [beq_self_eq_true] at e
      simpa using e
     ·have q':(y == x)=false:=by simpa using q
      rw [q'] at e
      cases e
    have hb:∀ b o,b∉wr→s₂.heap.get? b=some o→(hideAll h₂ (D::C::wr)).get? b=some o:=fun b o hbw e=>by
     have hbD:b≠D:=fun q=>by rw [q,hDn] at e; cases e
     have hbC:b≠C:=fun q=>by rw [q,hCn] at e; cases e
     refine hideAll_get _ (up₂ b o hbC hbw (hk b o hbw e)) fun hm=>?_
     rcases List.mem_cons.mp hm with q | hm
     ·exact hbD q
     ·rcases List.mem_cons.mp hm with q | hm
      ·exact hbC q
      ·exact hbw hm
    refine wpAny_mono (helt i v _ h₂ _ C D _ hlt hPv hb (by obtain ⟨q,hq⟩:=hpl₂; exact ⟨_,hq⟩) F₂) (fun y s₃ hy=>?_) fun _ _ e=>e
    obtain ⟨hRi,h₃,tk₃,rfl,k₃⟩:=hy
    have hpl₃:h₃.PlainList D ys.toArray:=by obtain ⟨q,hq⟩:=hpl₂; exact ⟨q,k₃ _ _ hq⟩
    refine wpAny_list_append_plain hpl₃ (fun h₄ hpl₄ hs₄=>?_) (by rw [List.size_toArray,sizeLine_eq]; exact q3 0x8000000c0142006112a8200a42f586a0100021a 1 27 (by kernel_rfl) hsz hlen hlt)
    have hdat:∀ G:Heap,DatL (hideAll h₃ [D]) (hideAll h₄ [D]):=fun _ b o e _=>by
     have hbD:b≠D:=fun q=>by rw [q,hideAll_none _ (by simp)] at e; cases e
     exact hideAll_get _ (hs₄.extBut b o hbD (of_hideAll _ e)) (by simpa using hbD)
    have hdat₂:DatL (hideAll h [D]) (hideAll h₃ [D]):=fun b o e hcls=>by
     have hbD:b≠D:=fun q=>by rw [q,hideAll_none _ (by simp)] at e; cases e
     have e':=of_hideAll _ e
     have hbC:b≠C:=fun q=>by
      refine u32 hns fun o' es ep h1 h2 _=>?_; clear hns
      rw [q] at e'
      rw [h1] at e'; cases e'
      obtain ⟨_,xs,q,hq⟩:=hcls
      rw [h2] at hq; cases hq
     have hbw:b∉wr:=fun hm=>by
      refine u12 (hwc i h hW b hm) fun o' h1 h2 h3=>?_
      rw [h1] at e'; cases e'
      exact hcls.1.elim h2 h3
     exact hideAll_get _ (k₃ _ _ (up₂ b o hbC hbw e')) (by simpa using hbD)
    refine (w11 (n-(i+1)) (by exact q2 0x8029c400a00a6443000111a 1 21810 (by kernel_rfl) hlt) ⟨i+1,h₄,tk₃,_,ys++[y],rfl,hlt,rfl,K.frame _ _ _ (K.frame _ _ _ hW' fun b hb o e=>k₃ b o (hs₂'.extBut b o (fun q=>hCf (q▸hb)) e)) fun b hb o e=>hs₄.extBut b o (fun q=>hDf (q▸hb)) e,?_,(hn₂.keeps k₃).sameBut hs₄ (Ne.symm hDC),by simp [hlen],?_,?_⟩)
    ·have e:ys.toArray.push y=(ys++[y]).toArray:=by simp
     rw [← e]; exact hpl₄
    ·intro j u hj
     rcases Nat.lt_trichotomy j ys.length with q | q | q
     ·rw [List.getElem?_append_left q] at hj
      exact hR _ _ _ _ (hdat h) (hR _ _ _ _ hdat₂ (hRy j u hj))
     ·subst q
      simp at hj
      subst hj
      rw [hlen]
      exact hR _ _ _ _ (hdat h) hRi
     ·rw [List.getElem?_eq_none (by simp; exact q2 0x422004221000111a 1 3 (by kernel_rfl) q)] at hj; cases hj
    ·intro b o hbw e
     have hbD:b≠D:=fun q=>by rw [q,hDn] at e; cases e
     have hbC:b≠C:=fun q=>by rw [q,hCn] at e; cases e
     exact hs₄.extBut b o hbD (k₃ _ _ (up₂ b o hbC hbw (hk b o hbw e)))
  ·have hin:i=n:=by exact q2 0x4000a000302b5000011a 1 46 (by kernel_rfl) hi hlt
   subst hin
   refine wpAny_mono (K.done _ (fun r s₁=>r=none∧∃ h' tk',s₁={ s₂ with heap:=h',toks:=tk' }∧∀ b o,b∉wr→h.get? b=some o→h'.get? b=some o) _ hW fun h' tk' hk'=>⟨rfl,h',tk',rfl,hk'⟩) (fun r s₁ hr=>?_) fun _ _ e=>e
   obtain ⟨rfl,h',tk',rfl,hk'⟩:=hr
   refine hRR D C h' tk' m ys hDn hCn hDC (hns.at' fun o e=>hk' _ o hCw e) ?_ hlen (fun j y hj=>hR _ _ _ _ (fun b o e hcls=>?_) (hRy j y hj)) fun b o hbw e=>hk' b o hbw (hk b o hbw e)
   ·obtain ⟨q,hq⟩:=hpl
    exact ⟨q,hk' _ _ hDw hq⟩
   ·have hbD:b≠D:=fun q=>by rw [q,hideAll_none _ (by simp)] at e; cases e
    have e':=of_hideAll _ e
    have hbw:b∉wr:=fun hm=>by
     refine u12 (hwc _ h hW b hm) fun o' h1 h2 h3=>?_
     rw [h1] at e'; cases e'
     exact hcls.1.elim h2 h3
    exact hideAll_get _ (hk' b o hbw e') (by simpa using hbD)
 exact codeAny_compStart_list (loop _) (K.self 0 _ _ _ hst₁ (loop _))
end
noncomputable def Src (prog:Program) (w:World) (A:Around) (xv:Value) (s:Shared) (n:Nat) (P:Nat→Value→Prop):Prop :=
 ∀ (Q:Value→Shared→Prop) (E:Value→Shared→Prop),(∀ I fp wr W h',Kp s.heap h'→Walks prog w A I fp wr n P W→W 0 h'→(∀ b∈fp,b<h'.objs.size) →
  (∀ i h,W i h→∀ b∈wr,∃ o,h.get? b=some o∧o.cls≠.type "list" ∧ o.cls≠.type "tuple")→(∀ b∈wr,s.heap.get? b=none)→Q (.ref I) { s with heap:=h' })→wpAny (model prog w) A (pyIter xv) Q E s
section
variable {prog:Program} {w:World} {A:Around} {E:Value→Shared→Prop} {s:Shared}
theorem Src.list {D:Addr} {vs:List Value} (hh:A.handled=none) (hl:s.heap.IsList D vs.toArray):Src prog w A (.ref D) s vs.length (fun i v=>vs[i]?=some v):=by
 intro Q E h
 refine u11 (id hl) fun o ho _=>?_
 have hlt:=Heap.lt_size ho
 have kk:Kp s.heap (s.heap.push { cls:=.type "list_iterator", data:=.fields #[.ref D,.int 0 0] }):=fun b o e=>Heap.get?_push_of_some _ e
 refine wpAny_pyIter_list hl (h s.heap.objs.size [s.heap.objs.size,D] [s.heap.objs.size] (fun i h=>h.IsListIter s.heap.objs.size D i∧h.IsList D vs.toArray) _ kk (by simpa using Walks.list (prog:=prog) (w:=w) hh s.heap.objs.size D (Nat.ne_of_lt hlt) vs.toArray) ⟨(w12 _ (Heap.get?_push_size _ rfl) rfl rfl),hl.at fun o e=>kk _ o e⟩ ?_ ?_ ?_)
 ·intro b hb
  rw [Heap.size_push]
  rcases List.mem_cons.mp hb with rfl | hb
  ·exact Nat.lt_succ_self _
  ·rw [List.mem_singleton.mp hb]; exact Nat.lt_succ_of_lt hlt
 ·rintro i h ⟨⟨o,ho,hc,_⟩,_⟩ b hb
  rw [List.mem_singleton.mp hb]
  exact (w12 o ho (by rw [hc]; decide) (by rw [hc]; decide))
 ·intro b hb
  rw [List.mem_singleton.mp hb]
  exact Heap.get?_none_of_le (Nat.le_refl _)
theorem Src.tuple {D:Addr} {vs:List Value} (hh:A.handled=none) (hl:s.heap.IsTuple D vs.toArray):Src prog w A (.ref D) s vs.length (fun i v=>vs[i]?=some v):=by
 intro Q E h
 refine u11 (id hl) fun o ho _=>?_
 have hlt:=Heap.lt_size ho
 have kk:Kp s.heap (s.heap.push { cls:=.type "tuple_iterator", data:=.fields #[.ref D,.int 0 0] }):=fun b o e=>Heap.get?_push_of_some _ e
 refine wpAny_pyIter_tuple hl (h s.heap.objs.size [s.heap.objs.size,D] [s.heap.objs.size] (fun i h=>h.IsTupleIter s.heap.objs.size D i∧h.IsTuple D vs.toArray) _ kk (by simpa using Walks.tuple (prog:=prog) (w:=w) hh s.heap.objs.size D (Nat.ne_of_lt hlt) vs.toArray) ⟨(w12 _ (Heap.get?_push_size _ rfl) rfl rfl),hl.at fun o e=>kk _ o e⟩ ?_ ?_ ?_)
 ·intro b hb
  rw [Heap.size_push]
  rcases List.mem_cons.mp hb with rfl | hb
  ·exact Nat.lt_succ_self _
  ·rw [List.mem_singleton.mp hb]; exact Nat.lt_succ_of_lt hlt
 ·rintro i h ⟨⟨o,ho,hc,_⟩,_⟩ b hb
  rw [List.mem_singleton.mp hb]
  exact (w12 o ho (by rw [hc]; decide) (by rw [hc]; decide))
 ·intro b hb
  rw [List.mem_singleton.mp hb]
  exact Heap.get?_none_of_le (Nat.le_refl _)
end
section
variable {prog:Program} {w:World} {A:Around} {E:Value→Shared→Prop} {env:Env} {s:Shared}
theorem compE {elt iter:Expr} {x:Str} {px:Pos} {scope:Scope} {cl:List (Str × Addr)} {pos:Pos} {Q:Value→Shared→Prop}
  (h:wpAny (model prog w) A (eval iter env) (fun xv s₁=>∃ (n:Nat) (P:Nat→Value→Prop) (R:Heap→Nat→Value→Prop),Src prog w A xv s₁ n P∧n≤100000∧(∀ G H i v,DatL G H→R G i v→R H i v) ∧
   (∀ i v gX h tk C D E',i<n→P i v→Kp s₁.heap gX→(∃ o,h.get? D=some o)→St gX C h [(x,v)] [] →
    wpAny (model prog w) A (eval elt (compEnvC scope cl C env)) (fun y s'=>R (hideAll s'.heap [D]) i y∧Keeps { s₁ with heap:=h,toks:=tk } s') E' { s₁ with heap:=h,toks:=tk }) ∧
   (∀ D h' tk (ys:List Value),s₁.heap.get? D=none→h'.PlainList D ys.toArray→ys.length=n→(∀ j y,ys[j]?=some y→R h' j y)→Kp s₁.heap h'→Q (.ref D) { s₁ with heap:=h',toks:=tk })) E s)
  (hclos:closureFor scope env=pure cl:=by rfl) (hcell:∀ y∈scope.names,y.2≠.cell:=by decide) (hkind:scope.kind=.function:=by rfl)
  (hnames:∀ y∈scope.names,y.2=.local→scope.names.lookup y.1=some .local:=by decide) (hx:scope.names.lookup x=some .local:=by rfl)
  (hs:∀ x,foldedSetIterable iter env x=pure x:=by intro _; rfl) :
  wpAny (model prog w) A (eval (.ListComp elt [⟨.Name x px,iter,[],0⟩] scope pos) env) Q E s:=by
 rw [eval_ListComp]
 refine wpAny_comprehension_free (use:=none) rfl hs hclos hkind hnames (wpAny_mono h (fun xv s₁ h₁=>?_) fun _ _ e=>e)
 refine u34 h₁ fun n P R hsrc hn hR helt hQ=>?_; clear h₁
 refine hsrc _ _ fun I fp wr W h' k K hW hfp hwc hwn=>?_
 refine compBlock (RR:=fun acc C=>compPost (model prog w) A E none Q acc C) (s₂:={ s₁ with heap:=h' }) K hn R hR hcell hkind hx hW hfp hwc (fun i v gX h'' tk C D E' hi hP hb hD F=>helt i v gX h'' tk C D E' hi hP (fun b o e=>hb b o (fun hm=>by rw [hwn b hm] at e; cases e) (k b o e)) hD F) ?_
 intro D C h'' tk m' ys hD hC hDC hn' hpl hlen hRy hk
 have hDn:s₁.heap.get? D=none:=by
  cases e:s₁.heap.get? D with
  | none=>rfl
  | some o=>have:=k _ _ e; rw [hD] at this; cases this
 have hCn:∀ b o,s₁.heap.get? b=some o→b≠C:=fun b o e q=>by have:=k _ _ e; rw [q,hC] at this; cases this
 refine (w11 m' hn' (fun h₃ hs₃=>hQ D h₃ tk ys hDn (hpl.extBut hs₃.extBut hDC) hlen (fun j y hj=>hR _ _ _ _ (fun b o e hcls=>?_) (hRy j y hj)) fun b o e=>hs₃.extBut b o (hCn b o e) (hk b o (fun hm=>by rw [hwn b hm] at e; cases e) (k b o e))))
 have e':=of_hideAll _ e
 refine hs₃.extBut b o (fun q=>?_) e'
 refine u32 hn' fun o' es ep h1 h2 _=>?_; clear hn'
 rw [q,h1] at e'; cases e'
 obtain ⟨_,xs,z,hz⟩:=hcls
 rw [h2] at hz; cases hz
theorem compA {elt iter:Expr} {x y:Str} {px py:Pos} {scope:Scope} {cl:List (Str × Addr)} {pos spos:Pos} {Q:Flow→Shared→Prop}
  (h:wpAny (model prog w) A (eval iter env) (fun xv s₁=>∃ (n:Nat) (P:Nat→Value→Prop) (R:Heap→Nat→Value→Prop) (g:Heap) (l:List (Str × Value)) (own:List (Addr × List Value)),Src prog w A xv s₁ n P∧n≤100000∧(∀ G H i v,DatL G H→R G i v→R H i v)∧St g env.locals s₁.heap l own ∧
   (∀ i v gX h tk C D E',i<n→P i v→Kp s₁.heap gX→(∃ o,h.get? D=some o)→St gX C h [(x,v)] [] →
    wpAny (model prog w) A (eval elt (compEnvC scope cl C env)) (fun y s'=>R (hideAll s'.heap [D]) i y∧Keeps { s₁ with heap:=h,toks:=tk } s') E' { s₁ with heap:=h,toks:=tk }) ∧
   (∀ D h' tk (ys:List Value),s₁.heap.get? D=none→h'.PlainList D ys.toArray→ys.length=n→(∀ j y,ys[j]?=some y→R h' j y)→(∀ b o,b≠env.locals→s₁.heap.get? b=some o→h'.get? b=some o)→St g env.locals h' ((y,.ref D)::l) own→Q .next { s₁ with heap:=h',toks:=tk })) E s)
  (hsw:swapsWith (.ListComp elt [⟨.Name x px,iter,[],0⟩] scope pos) (some (.Name y py)) spos.line env=pure true:=by rfl)
  (hclos:closureFor scope env=pure cl:=by rfl) (hcell:∀ y∈scope.names,y.2≠.cell:=by decide) (hkind:scope.kind=.function:=by rfl)
  (hnames:∀ y∈scope.names,y.2=.local→scope.names.lookup y.1=some .local:=by decide) (hx:scope.names.lookup x=some .local:=by rfl)
  (hy:env.kindOf y=some .local:=by rfl) (hp:env.scope.kind=.function:=by rfl)
  (hs:∀ x,foldedSetIterable iter env x=pure x:=by intro _; rfl) :
  wpAny (model prog w) A (exec (.Assign [.Name y py] (.ListComp elt [⟨.Name x px,iter,[],0⟩] scope pos) spos) env) Q E s:=by
 rw [exec_Assign_Name_used _ _ _ _ hsw]
 refine wpAny_bind (wpAny_standAt (wpAny_bind ?_))
 show wpAny _ A (do let _ ← comprehension (.ListComp elt [⟨.Name x px,iter,[],0⟩] scope pos) scope env _ (newList []) false (eval iter env) (some (assign (.Name y py) env))) _ _ s
 refine wpAny_bind (wpAny_mono (wpAny_comprehension_free (use:=some (assign (.Name y py) env)) (Q:=fun _ s'=>Q .next s') rfl hs hclos hkind hnames
  (wpAny_mono h (fun xv s₁ h₁=>?_) fun _ _ e=>e)) (fun _ s' hq=>wpAny_pure (wpAny_pure hq)) fun _ _ e=>e)
 refine u65 h₁ fun n P R g l own hsrc hn hR F helt hQ=>?_; clear h₁
 refine hsrc _ _ fun I fp wr W h' k K hW hfp hwc hwn=>?_
 refine compBlock (RR:=fun acc C=>compPost (model prog w) A E (some (assign (.Name y py) env)) (fun _ s'=>Q .next s') acc C) (s₂:={ s₁ with heap:=h' }) K hn R hR hcell hkind hx hW hfp hwc (fun i v gX h'' tk C D E' hi hP hb hD F=>helt i v gX h'' tk C D E' hi hP (fun b o e=>hb b o (fun hm=>by rw [hwn b hm] at e; cases e) (k b o e)) hD F) ?_
 intro D C h'' tk m' ys hD hC hDC hn' hpl hlen hRy hk
 have hDn:s₁.heap.get? D=none:=by
  cases e:s₁.heap.get? D with
  | none=>rfl
  | some o=>have:=k _ _ e; rw [hD] at this; cases this
 have hCn:∀ b o,s₁.heap.get? b=some o→b≠C:=fun b o e q=>by have:=k _ _ e; rw [q,hC] at this; cases this
 have hkk:Kp s₁.heap h'':=fun b o e=>hk b o (fun hm=>by rw [hwn b hm] at e; cases e) (k b o e)
 have F₁:St g env.locals h'' l own:=F.keeps hkk
 have hLa:∃ o,s₁.heap.get? env.locals=some o:=by
  refine u11 F.fl fun m Fn _=>?_
  refine u31 Fn fun o _ _ h1 _=>?_; clear Fn
  exact ⟨o,h1⟩
 have hLC:env.locals≠C:=by obtain ⟨o,ho⟩:=hLa; exact hCn _ _ ho
 have hLD:env.locals≠D:=fun q=>by obtain ⟨o,ho⟩:=hLa; rw [q,hDn] at ho; cases ho
 show wpAny _ A (assign (.Name y py) env (.ref D)) _ _ _
 refine wpAny_assign_Name (stG F₁ (fun h₂ F₂ hs₂=>?_) rfl hp hy)
 refine (w11 m' (hn'.sameBut hs₂ (Ne.symm hLC)) (fun h₃ hs₃=>?_))
 have F₃:St g env.locals h₃ ((y,.ref D)::l) own:=F₂.but (wr:=[C]) (fun b o hb e=>hs₃.extBut b o (fun q=>hb (by simp [q])) e) (fun b hb=>?_) (fun hm=>hLC (List.mem_singleton.mp hm)) (fun p hp hm=>?_)
 ·refine hQ D h₃ _ ys hDn ((hpl.extBut hs₂.extBut (Ne.symm hLD)).extBut hs₃.extBut hDC) hlen (fun j u hj=>hR _ _ _ _ (fun b o e hcls=>?_) (hRy j u hj)) (fun b o hb e=>hs₃.extBut b o (hCn b o e) (hs₂.extBut b o hb (hkk b o e))) F₃
  have e':=of_hideAll _ e
  have hne:∀ a m,h''.Ns a m→b≠a:=fun a m hns q=>by
   refine u32 hns fun o' es ep h1 h2 _=>?_; clear hns
   rw [q,h1] at e'; cases e'
   obtain ⟨_,xs,z,hz⟩:=hcls
   rw [h2] at hz; cases hz
  refine u11 F₁.fl fun m Fn _=>?_
  exact hs₃.extBut b o (hne _ _ hn') (hs₂.extBut b o (hne _ _ Fn) e')
 ·rw [List.mem_singleton.mp hb]
  cases e:g.get? C with
  | none=>rfl
  | some o=>exact absurd rfl (hCn _ _ (F.keep _ _ e))
 ·rw [List.mem_singleton] at hm
  obtain ⟨q,hq⟩:=(F.ow p hp).2.2
  exact hCn _ _ hq hm
end
noncomputable def setE (led:Bool):Obj:={ cls:=.type "set", data:=.set #[] 0 (.fresh 0 0 led) }
section
variable {prog:Program} {w:World} {A:Around} {E:Value→Shared→Prop} {s:Shared}
theorem lay1 (led:Bool):layNew (.fresh 0 0 led) #[] 1 (.bool true)=(#[(1,.bool true)],(layNew (.fresh 0 0 led) #[] 1 (.bool true)).2.1,false,false):=by
 cases led <;> rfl
theorem lay1':(layNew (.fresh 0 0 true) #[] 1 (.bool true)).2.1={ mask:=7,place:=#[1],dummies:=#[],finger:=0,led:=true,moves:=0,plain:=true }:=by rfl
theorem newSetS {Q:Value→Shared→Prop} (h:∀ led,(led=!w.params.followText "set-order")→Q (.ref s.heap.objs.size) { s with heap:=s.heap.push (setE led) }):wpAny (model prog w) A (newSet (.type "set")) Q E s:=by
 unfold newSet setsByText
 refine wpAny_bind (wpAny_bind (wpAny_askSetting (wpAny_pure ?_)))
 dsimp only
 simp only [newObj]
 exact wpAny_bind (wpAny_alloc (wpAny_pure (h _ rfl)))
namespace BSet
theorem slot_bool_hash:Slot "bool" "__hash__" "int.__hash__" :=
 .of (owner := "int") (n := "__hash__") (by rw [typeLookup_type,builtinLookup_eq_fast]; kernel_rfl) (by decide +kernel) (by decide +kernel) (by decide +kernel)
  (by first | exact .inl (by decide +kernel) | exact .inr (by decide +kernel)) (by rw [isSubtype_type]; kernel_rfl)
end BSet
theorem hashTrue {Q:Int→Shared→Prop} (h:∀ k,Q 1 { s with toks:=k }):wpAny (model prog w) A (pyHash (.bool true)) Q E s:=by
 have hT:s.TypeIs (.bool true) "bool" := rfl
 unfold pyHash pyHashByItsType
 have hv:[Value.bool true].any Value.onHeap=false:=rfl
 refine wpAny_bind ?_
 rw [cRoomFor,if_neg (by rw [hv]; exact Bool.false_ne_true)]; refine wpAny_pure ?_
 refine wpAny_bind (wpAny_specialOf hT BSet.slot_bool_hash.lookup ?_)
 show wpAny _ _ (if (some (Value.builtin "int.__hash__") == some Value.none)=true then _ else _) Q E s
 rw [if_neg (by rw [beq_builtin_none]; exact Bool.false_ne_true)]
 refine wpAny_bind (wpAny_specialOf hT BSet.slot_bool_hash.lookup ?_)
 show wpAny _ _ (callSpecialIfBoundUnlessNone? (.bool true) "__hash__" _ >>= _) Q E s
 refine wpAny_bind (wpAny_callSpecialIfBoundUnlessNone?_slot hT BSet.slot_bool_hash
  (wpAny_call_entry BSet.slot_bool_hash hT entry_int_hash ?_ (args_int_hash _)))
 show wpAny _ _ (do ret (← mkInt 1)) _ _ s
 refine wpAny_ret_mkInt ?_
 show wpAny _ _ (if (decide (-(2:Int) ^ 63≤1) && decide ((1:Int)<2 ^ 63))=true then _ else _) Q E _
 rw [if_pos (by decide)]
 exact wpAny_pure (h _)
theorem eqTrue {Q:Bool→Shared→Prop} (h:Q true s):wpAny (model prog w) A (eqBool (.bool true) (.bool true)) Q E s:=by
 unfold eqBool
 exact wpAny_holding (by
  show wpAny _ _ (if (Value.bool true == Value.bool true)=true then _ else _) Q E s
  rw [if_pos (by rfl)]
  exact wpAny_bind (wpAny_rule (wpAny_pure h)))
noncomputable def tab1 (led:Bool):SetTable:={ mask:=7,place:=#[1],dummies:=#[],finger:=0,led:=led,moves:=0,plain:=true }
theorem lay1t (led:Bool):layNew (.fresh 0 0 led) #[] 1 (.bool true)=(#[(1,.bool true)],tab1 led,false,false):=by cases led <;> rfl
theorem addFirst {a:Addr} {led:Bool} {Q:Value→Shared→Prop} (ho:s.heap.get? a=some (setE led)) (h:∀ h' ep k,h'.get? a=some { cls:=.type "set", data:=.set #[(1,.bool true)] ep (tab1 led) }→Heap.SameBut a s.heap h'→Q .none { s with heap:=h',toks:=k }) :
  wpAny (model prog w) A (call (.builtin "set.add") [.ref a,.bool true]) Q E s:=by
 have hT:s.TypeIs (.ref a) "set" := (w11 _ ho rfl)
 refine wpAny_call_entry F.slot_set_add hT F.entry_set_add ?_ (F.args_set_add_2 _ _)
 unfold Builtin.«set.add» Builtin.Frozenset.oneOther
 simp -iota only [List.isEmpty_nil,bind_assoc]
 unfold Builtin.Frozenset.addrOf setAdd
 refine wpAny_bind (wpAny_pure ?_)
 try dsimp only
 refine wpAny_bind ?_
 refine wpAny_holding ?_
 refine wpAny_bind (hashTrue fun k=>?_)
 unfold setAddHashed
 refine wpAny_holding ?_
 show wpAny _ _ (setState a >>= _) _ _ _
 have ho':(⟨s.heap,s.gens,s.drawn,k,s.os⟩:Shared).heap.get? a=some (setE led):=ho
 refine wpAny_bind (wpAny_setState_of ho' rfl (by cases led <;> rfl) ?_)
 dsimp only
 rw [if_pos (by decide +kernel)]
 unfold setAddByScan
 refine wpAny_bind (wpAny_bind (wpAny_rule (wpAny_bind ?_)))
 show wpAny _ _ (setScanFrom a (.bool true) 1 true [] 0) _ _ _
 unfold setScanFrom
 refine wpAny_pure ?_
 dsimp only
 refine wpAny_bind (wpAny_pure ?_)
 rw [lay1t]
 dsimp only
 rw [if_pos (by rfl)]
 refine wpAny_bind (wpAny_of_eq (a:=true) (by kernel_rfl) ?_)
 simp only [if_true]
 have hst:wpAny (model prog w) A.in1 (storeSet a #[(1,.bool true)] (tab1 led)) (fun _ s'=>∃ h' ep,s'={ s with heap:=h',toks:=k }∧h'.get? a=some { cls:=.type "set", data:=.set #[(1,.bool true)] ep (tab1 led) }∧Heap.SameBut a s.heap h') E { s with heap:=s.heap,toks:=k }:=by
  unfold storeSet
  refine wpAny_bind (wpAny_load ho' ?_)
  show wpAny _ _ (if (1:Nat)>sizeLine then _ else _) _ _ _
  rw [if_neg (by rw [sizeLine_eq]; decide)]
  refine wpAny_update ho' (w22 _ 1 rfl ?_ (Heap.SameBut.update ..))
  exact Heap.get?_update_self _ ho rfl
 refine wpAny_bind (wpAny_mono hst (fun _ s' hs=>?_) fun _ _ e=>e)
 refine u22 hs fun h' ep z0 h1 h2=>?_; clear hs; subst z0
 rw [if_neg (by cases led <;> decide)]
 refine wpAny_pure ?_
 dsimp only
 refine wpAny_pure ?_
 show wpAny _ _ (ret Value.none) _ _ _
 exact wpAny_pure (w11 _ rfl (h h' ep k h1 h2))
theorem addAgain {a:Addr} {ep:Nat} {led:Bool} {Q:Value→Shared→Prop} (ho:s.heap.get? a=some { cls:=.type "set", data:=.set #[(1,.bool true)] ep (tab1 led) }) (h:∀ k,Q .none { s with toks:=k }) :
  wpAny (model prog w) A (call (.builtin "set.add") [.ref a,.bool true]) Q E s:=by
 have hT:s.TypeIs (.ref a) "set" := (w11 _ ho rfl)
 refine wpAny_call_entry F.slot_set_add hT F.entry_set_add ?_ (F.args_set_add_2 _ _)
 unfold Builtin.«set.add» Builtin.Frozenset.oneOther
 simp -iota only [List.isEmpty_nil,bind_assoc]
 unfold Builtin.Frozenset.addrOf setAdd
 refine wpAny_bind (wpAny_pure ?_)
 try dsimp only
 refine wpAny_bind ?_
 refine wpAny_holding ?_
 refine wpAny_bind (hashTrue fun k=>?_)
 unfold setAddHashed
 refine wpAny_holding ?_
 show wpAny _ _ (setState a >>= _) _ _ _
 have hf:(tab1 led).fits (#[((1:Int),Value.bool true)]:Array (Int × Value)).size=true:=by cases led <;> rfl
 have ho':(⟨s.heap,s.gens,s.drawn,k,s.os⟩:Shared).heap.get? a=some { cls:=.type "set", data:=.set #[(1,.bool true)] ep (tab1 led) }:=ho
 refine wpAny_bind (wpAny_setState_of ho' rfl hf ?_)
 dsimp only
 rw [if_pos (by decide +kernel)]
 unfold setAddByScan
 refine wpAny_bind (wpAny_bind (wpAny_rule (wpAny_bind ?_)))
 show wpAny _ _ (setScanFrom a (.bool true) 1 true [(1,.bool true)] 0) _ _ _
 unfold setScanFrom
 rw [if_pos (by rfl)]
 refine wpAny_bind (wpAny_setEpoch_of ho' rfl hf ?_)
 refine wpAny_bind (eqTrue ?_)
 rw [if_pos (by rfl)]
 refine wpAny_pure ?_
 dsimp only
 refine wpAny_pure ?_
 dsimp only
 refine wpAny_pure ?_
 show wpAny _ _ (ret Value.none) _ _ _
 exact wpAny_pure (w11 _ rfl (h k))
namespace BSet
theorem entry_set_iter:entryFor table "set.__iter__" = some Builtin.«frozenset.__iter__» :=
 entryFor_alias (id' := "frozenset.__iter__") (by kernel_rfl) (by first | rfl | decide +kernel | (unfold String.splitOn; simp +decide [String.splitOnAux])) (by decide +kernel) (by kernel_rfl)
theorem slot_set_iter:Slot "set" "__iter__" "set.__iter__" :=
 .of (owner := "set") (n := "__iter__") (by rw [typeLookup_type,builtinLookup_eq_fast]; kernel_rfl) (by decide +kernel) (by decide +kernel) (by decide +kernel)
  (by first | exact .inl (by decide +kernel) | exact .inr (by decide +kernel)) (by rw [isSubtype_type]; kernel_rfl)
theorem args_set_iter (a:Value):argsOk "set.__iter__" ⟨[a],[]⟩:=by unfold argsOk; kernel_rfl
theorem slot_it_next:Slot "set_iterator" "__next__" "set_iterator.__next__" :=
 .of (owner := "set_iterator") (n := "__next__") (by rw [typeLookup_type,builtinLookup_eq_fast]; kernel_rfl) (by decide +kernel) (by decide +kernel) (by decide +kernel)
  (by first | exact .inl (by decide +kernel) | exact .inr (by decide +kernel)) (by rw [isSubtype_type]; kernel_rfl)
theorem entry_it_next:entryFor table "set_iterator.__next__" = some Builtin.«set_iterator.__next__»:=entryFor_of_tree (by kernel_rfl)
theorem args_it_next (a:Value):argsOk "set_iterator.__next__" ⟨[a],[]⟩:=by unfold argsOk; kernel_rfl
end BSet
noncomputable abbrev SetT (led:Bool) (ep:Nat):Obj:={ cls:=.type "set", data:=.set #[(1,.bool true)] ep (tab1 led) }
noncomputable abbrev SetIt (i:Nat) (slot:Nat) (a:Addr) (ep:Nat):Obj:={ cls:=.type "set_iterator", data:=.fields #[rawInt slot,rawInt i,.ref a,rawInt 1,rawInt ep] }
theorem iterT {a:Addr} {ep:Nat} {led:Bool} {Q:Value→Shared→Prop} (hl:led=!w.params.followText "set-order") (ho:s.heap.get? a=some (SetT led ep)) (h:∀ h' I,Kp s.heap h'→s.heap.get? I=none→h'.get? I=some (SetIt 0 0 a ep)→Q (.ref I) { s with heap:=h' }) :
  wpAny (model prog w) A (pyIter (.ref a)) Q E s:=by
 have hT:s.TypeIs (.ref a) "set" := (w11 _ ho rfl)
 have hf:(tab1 led).fits (#[((1:Int),Value.bool true)]:Array (Int × Value)).size=true:=by cases led <;> rfl
 refine wpAny_pyIter_slot hT BSet.slot_set_iter (wpAny_call_entry BSet.slot_set_iter hT BSet.entry_set_iter ?_ (BSet.args_set_iter _))
 unfold Builtin.«frozenset.__iter__»
 refine wpAny_bind (wpAny_of_eq (a:=a) (by rfl) ?_)
 have hb:wpAny (model prog w) A.in1 setsByText (fun b s'=>b=w.params.followText "set-order" ∧ s'=s) E s:=by
  unfold setsByText
  exact wpAny_bind (wpAny_askSetting (wpAny_pure ⟨rfl,rfl⟩))
 unfold Builtin.Frozenset.sizeOf
 refine wpAny_bind (wpAny_bind (wpAny_setEntries_of ho rfl hf (wpAny_pure ?_)))
 unfold setDrawn
 refine wpAny_bind (wpAny_bind (wpAny_setState_of ho rfl hf (wpAny_bind (wpAny_mono hb (fun b s' hb=>?_) fun _ _ e=>e))))
 obtain ⟨rfl,rfl⟩:=hb
 refine wpAny_pure ?_
 rw [if_neg (by cases led <;> cases w.params.followText "set-order" <;> decide)]
 refine wpAny_bind (wpAny_pure ?_)
 refine wpAny_bind (wpAny_setEpoch_of ho rfl hf ?_)
 unfold newFields
 refine wpAny_bind (wpAny_newObj_type ?_ ?_)
 ·refine wpAny_pure (w11 _ rfl ⟨"set_iterator", _,⟨_,Heap.get?_push_size _ rfl,rfl⟩,BSet.slot_it_next.lookup,?_⟩)
  exact h _ _ (fun b o e=>Heap.get?_push_of_some _ e) (Heap.get?_none_of_le (Nat.le_refl _)) (Heap.get?_push_size _ rfl)
 ·size_fits
theorem pick1 (f:Nat→Nat) (x:Int × Value):pickOrder f #[x]=#[x]:=by
 have e:pickOrder f #[x]=Option.elim ([x][f 0 % 1]?) #[] fun y=>#[].push y:=by kernel_rfl
 rw [e,Nat.mod_one]; rfl
theorem nextIn {a:Addr} {ep:Nat} {led:Bool} {i sl:Nat} {Q:Option (Value × Nat)→Shared→Prop} (hl:led=!w.params.followText "set-order") (ho:s.heap.get? a=some (SetT led ep))
  (h:Q (if w.params.followText "set-order" then (if i=0 then some (.bool true,sl) else none) else (if sl≤1 then some (.bool true,2) else none)) s) (hi:i≤1) (hsl:sl≤2) :
  wpAny (model prog w) A (setNext a sl i ep) Q E s:=by
 have hf:(tab1 led).fits (#[((1:Int),Value.bool true)]:Array (Int × Value)).size=true:=by cases led <;> rfl
 have hb:∀ Q:Bool→Shared→Prop,Q (w.params.followText "set-order") s→wpAny (model prog w) A setsByText Q E s:=fun Q hq=>by
  unfold setsByText
  exact wpAny_bind (wpAny_askSetting (wpAny_pure hq))
 unfold setNext
 refine wpAny_bind (wpAny_setState_of ho rfl hf ?_)
 dsimp only
 refine wpAny_bind (hb _ ?_)
 cases hbt:w.params.followText "set-order" with
 | true =>
  rw [hbt] at h
  rw [if_pos rfl] at h ⊢
  rw [if_neg (by simp)]
  unfold setWalk
  refine wpAny_bind (wpAny_bind (wpAny_setState_of ho rfl hf ?_))
  dsimp only
  refine wpAny_bind (hb _ ?_)
  rw [hbt,if_pos rfl]
  refine wpAny_bind (wpAny_askSetting (wpAny_pure ?_))
  rw [pick1]
  refine wpAny_pure ?_
  obtain rfl | rfl:i=0∨i=1:=by exact q1 0x4400a0041af100011a 1 2986 (by kernel_rfl) hi
  ·exact h
  ·exact h
 | false =>
  rw [hbt] at h hl
  subst hl
  rw [if_neg Bool.false_ne_true] at h ⊢
  rw [if_neg (by decide)]
  refine wpAny_bind (wpAny_of_eq (a:=()) (by rfl) (wpAny_pure ?_))
  obtain rfl | rfl | rfl:sl=0∨sl=1∨sl=2:=by exact q1 0x21002880108bc00835e100012a 1 2623956626 (by kernel_rfl) hsl
  ·exact h
  ·exact h
  ·exact h
noncomputable abbrev slotT (w:World):Nat:=if w.params.followText "set-order" then 0 else 2
theorem nextT1 {a I:Addr} {ep:Nat} {led:Bool} {Q:Option Value→Shared→Prop} (hl:led=!w.params.followText "set-order") (ho:s.heap.get? a=some (SetT led ep)) (hI:s.heap.get? I=some (SetIt 0 0 a ep)) (hne:a≠I) (h:∀ h',Heap.SameBut I s.heap h'→h'.get? I=some (SetIt 1 (slotT w) a ep)→Q (some (.bool true)) { s with heap:=h' }) :
  wpAny (model prog w) A (pyNext (.ref I)) Q E s:=by
 have hT:s.TypeIs (.ref I) "set_iterator" := (w11 _ hI rfl)
 have hf:(tab1 led).fits (#[((1:Int),Value.bool true)]:Array (Int × Value)).size=true:=by cases led <;> rfl
 unfold pyNext
 refine wpAny_bind (wpAny_attempt (wpAny_callSpecial?_slot (name:=Str.ofString "__next__") hT BSet.slot_it_next (wpAny_call_entry BSet.slot_it_next hT BSet.entry_it_next ?_ (BSet.args_it_next _))))
 unfold Builtin.«set_iterator.__next__»
 refine wpAny_bind (wpAny_of_eq (a:=(Value.ref I,[])) (by rfl) ?_)
 refine wpAny_bind (wpAny_fieldsOf hI rfl ?_)
 dsimp only
 refine wpAny_bind (wpAny_setEntries_of ho rfl hf ?_)
 rw [if_neg (by decide)]
 refine wpAny_bind (nextIn hl ho ?_ (by decide) (by decide))
 have e1:(if w.params.followText "set-order" = true then (if Int.toNat (0:Nat)=0 then some (Value.bool true,Int.toNat (0:Nat)) else none) else if Int.toNat (0:Nat)≤1 then some (Value.bool true,2) else none)=some (.bool true,slotT w):=by
  unfold slotT
  cases w.params.followText "set-order" <;> rfl
 rw [e1]
 dsimp only
 refine wpAny_bind (wpAny_setField hI rfl (by simp) ?_)
 have h2:=Heap.get?_update_self (h:=s.heap) (Obj.mapFields (·.setIfInBounds 0 (rawInt (slotT w)))) hI rfl
 refine wpAny_bind (wpAny_setField h2 rfl (by simp [Obj.mapFields]) ?_)
 refine wpAny_pure (w11 _ rfl (wpAny_pure (h _ ((Heap.SameBut.update ..).trans (Heap.SameBut.update ..)) ?_)))
 have h3:=Heap.get?_update_self (Obj.mapFields (·.setIfInBounds 1 (rawInt (((0:Nat):Int)+1)))) h2 rfl
 exact h3
theorem nextT2 {a I:Addr} {ep:Nat} {led:Bool} {Q:Option Value→Shared→Prop} (hh:A.handled=none) (hl:led=!w.params.followText "set-order") (ho:s.heap.get? a=some (SetT led ep)) (hI:s.heap.get? I=some (SetIt 1 (slotT w) a ep)) (h:∀ h' tk,(∀ b o,b≠I→s.heap.get? b=some o→h'.get? b=some o)→Q none { s with heap:=h',toks:=tk }) :
  wpAny (model prog w) A (pyNext (.ref I)) Q E s:=by
 have hT:s.TypeIs (.ref I) "set_iterator" := (w11 _ hI rfl)
 have hf:(tab1 led).fits (#[((1:Int),Value.bool true)]:Array (Int × Value)).size=true:=by cases led <;> rfl
 unfold pyNext
 refine wpAny_bind (wpAny_attempt (wpAny_callSpecial?_slot (name:=Str.ofString "__next__") hT BSet.slot_it_next (wpAny_call_entry BSet.slot_it_next hT BSet.entry_it_next ?_ (BSet.args_it_next _))))
 unfold Builtin.«set_iterator.__next__»
 refine wpAny_bind (wpAny_of_eq (a:=(Value.ref I,[])) (by rfl) ?_)
 refine wpAny_bind (wpAny_fieldsOf hI rfl ?_)
 dsimp only
 refine wpAny_bind (wpAny_setEntries_of ho rfl hf ?_)
 rw [if_neg (by decide)]
 refine wpAny_bind (nextIn hl ho ?_ (by decide) ?_)
 ·have e1:(if w.params.followText "set-order" = true then (if Int.toNat (1:Nat)=0 then some (Value.bool true,Int.toNat (slotT w)) else none) else if Int.toNat (slotT w)≤1 then some (Value.bool true,2) else none)=none:=by
   unfold slotT
   cases w.params.followText "set-order" <;> rfl
  rw [e1]
  dsimp only
  refine wpAny_bind (wpAny_setField hI rfl (by simp) ?_)
  refine wpAny_bind ?_
  simp -iota only [newExc,newTuple]
  refine wpAny_bind (wpAny_newObj_type ?_ (by size_fits))
  refine wpAny_bind (m:=firstArgMember _ _) (wpAny_of_eq (a:=Value.none) (by rfl) ?_)
  refine wpAny_newObj_type ?_ (by size_fits)
  refine wpAny_raiseNew_none hh ?_
  refine wpAny_bind (wpAny_isInstance (T := "StopIteration") (b:=true) (w11 _ (Heap.get?_push_size _ rfl) rfl) isSubtype_stop ?_)
  exact wpAny_pure (h _ _ fun b o hb e=>Heap.get?_push_of_some _ (Heap.get?_push_of_some _ ((Heap.SameBut.update ..).extBut b o hb e)))
 ·unfold slotT
  cases w.params.followText "set-order" <;> decide
end
section
variable {prog:Program} {w:World} {mg:Str→Option Value} {A:Around} {E:Value→Shared→Prop} {s:Shared} {x:Str} {a:Addr}
theorem enterCl (F:Fn x) (T:TK w mg s.heap) (ha:mg x=some (.ref a)) (hA:A.depth<recursionLimit) {pos:List Value} {kw:List (Str × Value)} {binds:List (Str × Value)} {Q:Value→Shared→Prop}
  (hb:∀ pm cd doc,BindsTo s (docDef x F.params F.body F.scope pm cd doc) ⟨pos,kw⟩ binds)
  (hkind:∀ n,∀ y∈binds,F.scope.names.lookup y.1=some .local∨(F.scope.names.lookup y.1=some .cell∧((cellsFrom n F.scope.names []).lookup y.1).isSome=true))
  {l:List (Str × Value)} {cm:Str→Option Value}
  (hm:∀ L cd y v,l.lookup y=some v→bindL (envOfC x F.scope L a cd).kindOf binds (fun _=>none) y=some v)
  (hcm:∀ L cd,bindC (envOfC x F.scope L a cd).kindOf binds (fun _=>none)=cm)
  (h:∀ L cd h₁ tk,s.heap.get? L=none→St s.heap L h₁ l []→(∀ n c,(cellsFrom (L+1) F.scope.names []).lookup n=some c→h₁.IsCell c (cm n)∧s.heap.get? c=none∧c≠L) →
   wpAny (model prog w) (A.deeper (envOfC x F.scope L a cd)) (execs F.body (envOfC x F.scope L a cd))
    (fun f s'=>Q (match f with | .ret v=>v | _=>.none) s') (fun _ _=>False)
    { s with heap:=h₁,toks:=tk }) :
  wpAny (model prog w) A (call (.ref a) pos kw) Q E s:=by
 refine u42 (T.at_ F ha) fun o pm cd doc ho hd hc=>?_
 refine wpAny_call ?_
 refine codeAny_call_function hA ho hd F.co F.gen rfl hc (hb pm cd doc _ _ _ _ ?_)
 refine wpAny_newFunctionEnv_cells F.kind (hkind _) fun env' he s' y=>?_
 subst he
 refine ⟨T.lim.keeps y.toInCall.keep,codeAny_func ?_⟩
 refine u21 y.done fun h₁ tk z0 _=>?_; subst z0
 refine wpAny_mono (h s.heap.objs.size cd h₁ tk (Heap.get?_none_of_le (Nat.le_refl _)) ⟨(w11 _ y.toInCall.ns (fun z v e=>hm _ cd z v e)),y.toInCall.keep,Heap.get?_none_of_le (Nat.le_refl _),(fun _ q=>nomatch q),List.nodup_nil⟩ fun n c hn=>⟨?_,?_,?_⟩) (fun _ _ q=>q) fun _ _ q=>q.elim
 ·have:=y.cell n c hn
  rw [← hcm s.heap.objs.size cd]
  exact this
 ·exact Heap.get?_none_of_le (Nat.le_of_lt (y.above n c (mem_of_lookup hn)))
 ·exact Nat.ne_of_gt (y.above n c (mem_of_lookup hn))
end
section
variable {M:Model} {A:Around} {E:Value→Shared→Prop} {s:Shared} {L:Addr} {env:Env} {g:Heap} {l:List (Str × Value)}
theorem stC {x:Str} {v:Value} {c:Addr} {v₀:Option Value} {Q:Unit→Shared→Prop} (F:St g L s.heap l []) (hv:s.heap.IsCell c v₀) (hg:g.get? c=none) (hL:c≠L)
  (h:∀ h',St g L h' l []→h'.IsCell c (some v)→Heap.SameBut c s.heap h'→Q () { s with heap:=h' })
  (hc:env.cells.lookup x=some c:=by rfl) (hk:env.scope.kind=.function:=by rfl) (hl:env.kindOf x=some .cell:=by rfl) :
  wpAny M A (storeName env x v) Q E s :=
 wpAny_storeName_cell hk hl hc hv fun h' hv' hs=>h h' (F.but (wr:=[c]) (fun b o hb e=>hs.extBut b o (fun q=>hb (by simp [q])) e) (fun b hb=>by rw [List.mem_singleton.mp hb]; exact hg) (fun hm=>hL (List.mem_singleton.mp hm).symm) (fun p hp=>nomatch hp)) hv' hs
theorem ldF {x:Str} {pos:Pos} {c:Addr} {v:Value} {Q:Value→Shared→Prop} (hv:s.heap.IsCell c (some v)) (h:Q v s)
  (hc:env.cells.lookup x=some c:=by rfl) (hk:env.scope.kind=.function:=by rfl) (hl:env.kindOf x=some .free:=by rfl) (hd:(x == ("__debug__" : Str))=false:=by decide) (hn:(x == ("__classdict__" : Str))=false:=by decide) :
  wpAny M A (eval (.Name x pos) env) Q E s:=wpAny_Name (wpAny_loadName_free hk hl hc hv h hn) hd
theorem St.withC {h:Heap} {own:List (Addr × List Value)} (F:St g L h l own) {c:Addr} {v:Option Value} (hc:h.IsCell c v) (hne:∀ p∈own,p.1≠c) :
  ∃ g',Kp g g'∧g'.IsCell c v∧St g' L h l own:=by
 refine u11 hc fun o ho hd=>?_; clear hc
 refine u12 (F.withO ho (fun es ep q=>by rw [hd] at q; cases q) hne) fun g' k e F'=>?_
 exact (w12 g' k ⟨o,e,hd⟩ F')
theorem isC_keeps {h h':Heap} {c:Addr} {v:Option Value} (x:h.IsCell c v) (k:Kp h h'):h'.IsCell c v:=u11 x fun o ho hd=>(w11 o (k _ _ ho) hd)
end
section
variable {prog:Program} {w:World} {A:Around} {E:Value→Shared→Prop} {R:Result→Shared→Prop} {s:Shared}
theorem compTurn_set1 (elt target iter:Expr) (scope:Scope) (pos:Pos) (it acc:Value) (env:Env) :
  compTurn (.SetComp elt [⟨target,iter,[],0⟩] scope pos) 0 it acc env=(standAt iter.pos >>= fun _=>pyNext it >>= fun r=>match r with
   | none=>pure (.done .next)
   | some v=>letOwnedTupleGo target it v >>= fun _=>assign target env v >>= fun _ =>
    (eval elt env >>= fun x=>standAt elt.pos >>= fun _=>call (.builtin "set.add") [acc,x] >>= fun _=>pure ()) >>= fun _ =>
     again (.compLoop (.SetComp elt [⟨target,iter,[],0⟩] scope pos) 0 it acc env)):=by rfl
theorem codeAny_compStart_set {elt target iter ifs rest scope pos it acc env}
  (h0:codeAny (model prog w) A (.compLoop (.SetComp elt (⟨target,iter,ifs,0⟩::rest) scope pos) 0 it acc env) R s)
  (h:wpAny (model prog w) A (pyIter it) (fun it' s'=>codeAny (model prog w) A (.compLoop (.SetComp elt (⟨target,iter,ifs,0⟩::rest) scope pos) 0 it' acc env) R s')
   (notedBy (model prog w) A env fun x s'=>R (.error x) s') s) :
  codeAny (model prog w) A (.compStart (.SetComp elt (⟨target,iter,ifs,0⟩::rest) scope pos) 0 it acc env) R s:=by
 refine codeAny_of_tree ?_
 show wpAny _ _ ((compStart (.SetComp elt (⟨target,iter,ifs,0⟩::rest) scope pos) 0 it acc env).onRaise (fun x=>do noteFrame x env; standAt theWindowsPlace)) _ _ s
 refine wpAny_notedAt ?_
 unfold compStart
 show wpAny _ _ (ask >>= _) _ _ s
 refine wpAny_bind (wpAny_askSetting (wpAny_ite ?_))
 split
 ·first
   | exact wpAny_bind (wpAny_pure (wpAny_pure (And.intro rfl h0)))
   | exact wpAny_pure (And.intro rfl h0)
 ·first
   | exact wpAny_bind (wpAny_rule (wpAny_bind (wpAny_standAt (wpAny_bind (wpAny_mono h (fun it' s' h'=>wpAny_pure (And.intro rfl h')) fun _ _ x=>x)))))
   | (refine wpAny_bind (wpAny_rule ?_); show wpAny _ _ (standAt iter.pos >>= _) _ _ s; exact wpAny_bind (wpAny_standAt (wpAny_bind (wpAny_mono h (fun it' s' h'=>wpAny_pure (And.intro rfl h')) fun _ _ x=>x))))
theorem codeAny_compLoop_set {elt target iter:Expr} {scope:Scope} {pos:Pos} {it acc:Value} {env:Env} (I:Nat→Shared→Prop)
  (turn:∀ n s,I n s→wpAny (model prog w) A (pyNext it) (fun r s₁=>match r with
   | none=>R (.ok .next) s₁
   | some v=>wpAny (model prog w) A (assign target env v) (fun _ s₂=>wpAny (model prog w) A (eval elt env) (fun x s₃ =>
     wpAny (model prog w) A (call (.builtin "set.add") [acc,x]) (fun _ s₄=>∃ m,m<n∧I m s₄) (notedBy (model prog w) A env fun e s'=>R (.error e) s') s₃)
     (notedBy (model prog w) A env fun e s'=>R (.error e) s') s₂) (notedBy (model prog w) A env fun e s'=>R (.error e) s') s₁) (notedBy (model prog w) A env fun e s'=>R (.error e) s') s)
  (n:Nat) (h:I n s) (ht:∀ v,letOwnedTupleGo target it v=pure ():=by intro _; rfl) :
  codeAny (model prog w) A (.compLoop (.SetComp elt [⟨target,iter,[],0⟩] scope pos) 0 it acc env) R s:=by
 refine codeAny_loop rfl I (fun n s hI=>?_) n h
 show wpAny _ _ ((compTurn (.SetComp elt [⟨target,iter,[],0⟩] scope pos) 0 it acc env).onRaise (fun x=>do noteFrame x env; theTreesLotGoes x)) _ _ s
 refine wpAny_noted ?_
 rw [compTurn_set1]
 refine wpAny_bind (wpAny_standAt (wpAny_bind (wpAny_mono (turn n s hI) (fun r s₁ h₁=>?_) fun _ _ h'=>h')))
 cases r with
 | none=>exact wpAny_pure h₁
 | some v =>
  refine wpAny_bind (wpAny_of_eq (ht v) ?_)
  exact wpAny_bind (wpAny_mono h₁ (fun _ s₂ h₂=>wpAny_bind (wpAny_bind (wpAny_mono h₂ (fun x s₃ h₃=>wpAny_bind (wpAny_standAt (wpAny_bind (wpAny_mono h₃
   (fun _ s₄ h₄=>wpAny_pure (wpAny_pure ⟨rfl,h₄⟩)) fun _ _ h'=>h')))) fun _ _ h'=>h'))) fun _ _ h'=>h')
end
section
variable {prog:Program} {w:World} {A:Around} {E:Value→Shared→Prop} {env:Env} {s:Shared}
noncomputable def SetAt (led:Bool) (i:Nat) (o:Obj):Prop:=if i=0 then o=setE led else ∃ ep,o=SetT led ep
theorem eval_SetComp_ (elt gens scope pos):eval (.SetComp elt gens scope pos) env=comprehension (.SetComp elt gens scope pos) scope env (firstIterPos gens pos) (newSet (.type "set")) (firstAsync gens) (firstIter gens env):=by rfl
theorem setC {elt iter:Expr} {x:Str} {px:Pos} {scope:Scope} {cl:List (Str × Addr)} {pos:Pos} {Q:Value→Shared→Prop}
  (h:wpAny (model prog w) A (eval iter env) (fun xv s₁=>∃ (n:Nat) (P:Nat→Value→Prop),Src prog w A xv s₁ n P∧0<n∧n≤100000 ∧
   (∀ i v gX h tk C E',i<n→P i v→Kp s₁.heap gX→St gX C h [(x,v)] [] →
    wpAny (model prog w) A (eval elt (compEnvC scope cl C env)) (fun y s'=>y=.bool true∧Keeps { s₁ with heap:=h,toks:=tk } s') E' { s₁ with heap:=h,toks:=tk }) ∧
   (∀ D h' tk led ep,led=(!w.params.followText "set-order")→s₁.heap.get? D=none→h'.get? D=some (SetT led ep)→Kp s₁.heap h'→Q (.ref D) { s₁ with heap:=h',toks:=tk })) E s)
  (hclos:closureFor scope env=pure cl:=by rfl) (hcell:∀ y∈scope.names,y.2≠.cell:=by decide) (hkind:scope.kind=.function:=by rfl)
  (hnames:∀ y∈scope.names,y.2=.local→scope.names.lookup y.1=some .local:=by decide) (hx:scope.names.lookup x=some .local:=by rfl)
  (hs:∀ x,foldedSetIterable iter env x=pure x:=by intro _; rfl) :
  wpAny (model prog w) A (eval (.SetComp elt [⟨.Name x px,iter,[],0⟩] scope pos) env) Q E s:=by
 rw [eval_SetComp_]
 refine wpAny_comprehension_free (use:=none) rfl hs hclos hkind hnames (wpAny_mono h (fun xv s₁ h₁=>?_) fun _ _ e=>e)
 refine u24 h₁ fun n P hsrc hn0 hn helt hQ=>?_; clear h₁
 refine hsrc _ _ fun I fp wr W h' k K hW hfp hwc hwn=>?_
 refine newSetS fun led hled=>?_
 dsimp only
 refine wpAny_newFunctionEnv hcell (by intro y hy; simp at hy) (fun h₁ hns₁ hsb₁=>?_) hkind
 dsimp only at hns₁ hsb₁ ⊢
 generalize hH2:h'.push (setE led)=H2 at hns₁ hsb₁ ⊢
 obtain ⟨D,hDe⟩:∃ D,D=h'.objs.size:=⟨_,rfl⟩
 obtain ⟨C,hCe⟩:∃ C,C=H2.objs.size:=⟨_,rfl⟩
 rw [← hDe]
 rw [← hCe] at hns₁ hsb₁ ⊢
 have hC:C=h'.objs.size+1:=by rw [hCe,← hH2,Heap.size_push]
 have hDC:D≠C:=by rw [hC,hDe]; exact Nat.ne_of_lt (Nat.lt_succ_self _)
 have fresh:∀ a,h'.objs.size≤a→h'.get? a=none:=fun a ha=>Heap.get?_none_of_le ha
 have hDn:=fresh D (by rw [hDe]; exact Nat.le_refl _)
 have hCn:=fresh C (by rw [hC]; exact Nat.le_succ _)
 have hDf:D∉fp:=fun hm=>Nat.lt_irrefl _ (hDe▸hfp _ hm)
 have hCf:C∉fp:=fun hm=>by have:=hfp _ hm; rw [hC] at this; exact Nat.lt_irrefl _ (Nat.lt_of_succ_lt this)
 have hDw:D∉wr:=fun h=>hDf (K.sub _ h)
 have hCw:C∉wr:=fun h=>hCf (K.sub _ h)
 have old:∀ b o,h'.get? b=some o→h₁.get? b=some o:=fun b o e=>hsb₁.extBut b o (fun q=>by rw [q,hCn] at e; cases e) (Heap.get?_push_of_some _ (hH2▸Heap.get?_push_of_some _ e))
 have hacc:h₁.get? D=some (setE led):=hsb₁.extBut _ _ hDC (Heap.get?_push_of_some _ (by rw [hDe]; exact hH2▸Heap.get?_push_size _ rfl))
 have hst₁:W 0 h₁:=K.frame _ _ _ hW fun b _ o e=>old b o e
 have hwrn:∀ b o,s₁.heap.get? b=some o→b∉wr:=fun b o e hm=>by rw [hwn b hm] at e; cases e
 have loop:∀ tk₁,codeAny (model prog w) A (.compLoop (.SetComp elt [⟨.Name x px,iter,[],0⟩] scope pos) 0 (.ref I) (.ref D) (compEnvC scope cl C env)) (compPost (model prog w) A E none Q (.ref D) C) { s₁ with heap:=h₁,toks:=tk₁ }:=by
  intro tk₁
  refine codeAny_compLoop_set (fun k s'=>∃ i h tk m o,k=n-i∧i≤n∧s'={ s₁ with heap:=h,toks:=tk }∧W i h∧h.get? D=some o∧SetAt led i o∧h.Ns C m∧Kp s₁.heap h) ?_ n (w57 0 h₁ tk₁ _ _ rfl (Nat.zero_le _) rfl hst₁ hacc rfl hns₁ (fun b o e=>old b o (k b o e)))
  intro kk _ y0; refine u57 y0 fun i h tk m o z0 hi z1 hWi ho hso hns hk=>?_; clear y0; subst z0; subst z1
  by_cases hlt:i<n
  ·refine wpAny_mono (K.item i _ (fun r s₂=>match r with
     | none=>False
     | some v=>P i v∧∃ h' tk',s₂={ s₁ with heap:=h',toks:=tk' }∧W (i+1) h'∧∀ b o,b∉wr→h.get? b=some o→h'.get? b=some o) _ hlt hWi fun v h' tk' hPv hW' hk'=>⟨hPv,h',tk',rfl,hW',hk'⟩) (fun r s₂ hr=>?_) fun _ _ e=>e
   cases r with
   | none=>exact hr.elim
   | some v =>
    obtain ⟨hPv,h'',tk',rfl,hW',hk'⟩:=hr
    refine wpAny_assign_Name (wpAny_storeName_local (lookup_relabel_local hx) (hns.at' fun o e=>hk' _ o hCw e) (fun h₂ hn₂ hs₂=>?_) (by simp [compEnvC,relabel,hkind]))
    have hs₂':Heap.SameBut C h'' h₂:=hs₂
    have up₂:∀ b o,b≠C→b∉wr→h.get? b=some o→h₂.get? b=some o:=fun b o hbC hbw e=>hs₂'.extBut b o hbC (hk' b o hbw e)
    have ho₂:h₂.get? D=some o:=up₂ _ _ hDC hDw ho
    have hold:∀ b o,s₁.heap.get? b=some o→b≠D∧b≠C:=fun b o e=>⟨fun q=>(by have:=k _ _ e; rw [q,hDn] at this; cases this),fun q=>(by have:=k _ _ e; rw [q,hCn] at this; cases this)⟩
    have F₂:St (hideAll h₂ (D::C::wr)) C h₂ [(x,v)] []:=by
     refine ⟨(w11 _ hn₂ (fun y u e=>?_)),fun b o e=>of_hideAll _ e,hideAll_none _ (by simp),(fun _ hp=>nomatch hp),List.nodup_nil⟩
     rw [List.lookup_cons] at e
     by_cases q:y=x
     ·subst q
      rw [beq_self_eq_true] at e
      simpa using e
     ·have q':(y == x)=false:=by simpa using q
      rw [q'] at e
      cases e
    have hb:Kp s₁.heap (hideAll h₂ (D::C::wr)):=fun b o e=>by
     refine hideAll_get _ (up₂ b o (hold b o e).2 (hwrn b o e) (hk b o e)) fun hm=>?_
     rcases List.mem_cons.mp hm with q | hm
     ·exact (hold b o e).1 q
     ·rcases List.mem_cons.mp hm with q | hm
      ·exact (hold b o e).2 q
      ·exact hwrn b o e hm
    refine wpAny_mono (helt i v _ h₂ _ C _ hlt hPv hb F₂) (fun y s₃ hy=>?_) fun _ _ e=>e
    obtain ⟨rfl,h₃,tk₃,rfl,k₃⟩:=hy
    have ho₃:h₃.get? D=some o:=k₃ _ _ ho₂
    have fin:∀ h₄ ep tk₄,h₄.get? D=some (SetT led ep)→Heap.SameBut D h₃ h₄→∃ m,m<n-i∧∃ i h tk m_1 o,m=n-i∧i≤n∧(({ s₁ with heap:=h₄,toks:=tk₄ }:Shared)={ s₁ with heap:=h,toks:=tk })∧W i h∧h.get? D=some o∧SetAt led i o∧h.Ns C m_1∧Kp s₁.heap h:=fun h₄ ep tk₄ e₄ hs₄ =>
     (w11 (n-(i+1)) (by exact q2 0x8029c400a00a6443000111a 1 21810 (by kernel_rfl) hlt) ⟨i+1,h₄,tk₄,_,_,rfl,hlt,rfl,K.frame _ _ _ (K.frame _ _ _ hW' fun b hb o e=>k₃ b o (hs₂'.extBut b o (fun q=>hCf (q▸hb)) e)) fun b hb o e=>hs₄.extBut b o (fun q=>hDf (q▸hb)) e,e₄,by unfold SetAt; rw [if_neg (Nat.succ_ne_zero _)]; exact ⟨_,rfl⟩,(hn₂.keeps k₃).sameBut hs₄ (Ne.symm hDC),fun b o e=>hs₄.extBut b o (hold b o e).1 (k₃ _ _ (of_hideAll _ (hb b o e)))⟩)
    unfold SetAt at hso
    by_cases hi0:i=0
    ·rw [if_pos hi0] at hso
     subst hso
     refine addFirst (s:={ s₁ with heap:=h₃,toks:=tk₃ }) ho₃ fun h₄ ep k₄ e₄ hs₄=>fin h₄ ep k₄ e₄ hs₄
    ·rw [if_neg hi0] at hso
     obtain ⟨ep,rfl⟩:=hso
     exact addAgain (s:={ s₁ with heap:=h₃,toks:=tk₃ }) ho₃ fun k₄=>fin h₃ ep k₄ ho₃ ⟨rfl,fun _ _=>rfl⟩
  ·have hin:i=n:=by exact q2 0x4000a000302b5000011a 1 46 (by kernel_rfl) hi hlt
   subst hin
   refine wpAny_mono (K.done _ (fun r s₂=>r=none∧∃ h' tk',s₂={ s₁ with heap:=h',toks:=tk' }∧∀ b o,b∉wr→h.get? b=some o→h'.get? b=some o) _ hWi fun h' tk' hk'=>⟨rfl,h',tk',rfl,hk'⟩) (fun r s₂ hr=>?_) fun _ _ e=>e
   obtain ⟨rfl,h'',tk',rfl,hk'⟩:=hr
   unfold SetAt at hso
   rw [if_neg (by exact q1 0x200510110da 1 3 (by kernel_rfl) hn0)] at hso
   obtain ⟨ep,rfl⟩:=hso
   refine (w11 m (hns.at' fun o e=>hk' _ o hCw e) (fun h₃ hs₃=>?_))
   have hold:∀ b o,s₁.heap.get? b=some o→b≠C:=fun b o e q=>by have:=k _ _ e; rw [q,hCn] at this; cases this
   refine hQ D h₃ _ led ep hled ?_ (hs₃.extBut _ _ hDC (hk' _ _ hDw ho)) fun b o e=>hs₃.extBut b o (hold b o e) (hk' b o (hwrn b o e) (hk b o e))
   cases e:s₁.heap.get? D with
   | none=>rfl
   | some o=>have:=k _ _ e; rw [hDn] at this; cases this
 exact codeAny_compStart_set (loop _) (K.self 0 _ _ _ hst₁ (loop _))
end
section
variable {prog:Program} {w:World} {A:Around} {E:Value→Shared→Prop} {env:Env} {s:Shared}
theorem unpackT {a:Addr} {led:Bool} {ep:Nat} {Q:List Value→Shared→Prop} (hh:A.handled=none) (hl:led=!w.params.followText "set-order") (ho:s.heap.get? a=some (SetT led ep))
  (hQ:∀ h' tk,Kp s.heap h'→Q [.bool true] { s with heap:=h',toks:=tk }):wpAny (model prog w) A (unpackItems (.ref a) 1 none) Q E s:=by
 have hT:s.TypeIs (.ref a) "set" := (w11 _ ho rfl)
 unfold unpackItems
 refine wpAny_bind ?_
 unfold notIterableAtAll
 refine wpAny_bind (wpAny_specialOf hT BSet.slot_set_iter.lookup ?_)
 refine wpAny_pure ?_
 simp -iota only [Bool.false_eq_true,if_false]
 refine wpAny_bind (wpAny_holding (iterT hl ho fun h₁ I k₁ hI hit=>?_))
 have hne:a≠I:=fun q=>by rw [q,hI] at ho; cases ho
 refine wpAny_bind (wpAny_holding ?_)
 unfold draw
 refine wpAny_bind (nextT1 (s:={ s with heap:=h₁ }) hl (k₁ _ _ ho) hit hne fun h₂ hs₂ hit₂=>?_)
 refine wpAny_bind (wpAny_holding ?_)
 unfold draw
 refine wpAny_pure (wpAny_pure ?_)
 rw [if_neg (by simp)]
 have hn:∀ b o,s.heap.get? b=some o→b≠I:=fun b o e q=>by rw [q,hI] at e; cases e
 refine wpAny_bind (wpAny_holding (nextT2 (s:={ s with heap:=h₂ }) hh hl (hs₂.extBut _ _ hne (k₁ _ _ ho)) hit₂ fun h₃ tk k₃=>?_))
 simp -iota only [Option.isSome_none,Bool.false_eq_true,if_false]
 exact wpAny_pure (hQ h₃ tk fun b o e=>k₃ b o (hn b o e) (hs₂.extBut b o (hn b o e) (k₁ b o e)))
theorem asgT1 {x:Str} {px:Pos} {k tpos value pos} {Q:Flow→Shared→Prop} (hh:A.handled=none)
  (h:wpAny (model prog w) A (eval value env) (fun v s₁=>∃ a led ep,v=.ref a∧led=(!w.params.followText "set-order")∧s₁.heap.get? a=some (SetT led ep)∧∀ h' tk,Kp s₁.heap h' →
   wpAny (model prog w) A (storeName env x (.bool true)) (fun _=>Q .next) E { s₁ with heap:=h',toks:=tk }) E s)
  (hs:swapsWithSole [.Tuple [.Name x px] k tpos] value pos.line env=pure false:=by rfl)
  (hw:swappedStores [.Tuple [.Name x px] k tpos] value env=pure none:=by rfl) :
  wpAny (model prog w) A (exec (.Assign [.Tuple [.Name x px] k tpos] value pos) env) Q E s:=by
 refine PyProof.Rows.Assign_Tuple (wpAny_mono h (fun v s₁ p=>?_) fun _ _ x=>x) hs hw
 refine u33 p fun a led ep z0 hl ho hQ=>?_; clear p; subst z0
 rw [arm_assign_Tuple]
 refine wpAny_bind (wpAny_standAt ?_)
 unfold unpack
 refine wpAny_bind (wpAny_holding ?_)
 refine wpAny_mono (unpackT (Q:=fun items s'=>items=[.bool true]∧∃ h' tk,s'={ s₁ with heap:=h',toks:=tk }∧Kp s₁.heap h') hh hl ho fun h' tk k=>⟨rfl,h',tk,rfl,k⟩) (fun items s' q=>?_) fun _ _ e=>e
 obtain ⟨rfl,h',tk,rfl,k⟩:=q
 exact aioC (PyProof.Rows.assign_Name (wpAny_mono (hQ h' tk k) (fun _ _ p=>aioN p) fun _ _ e=>e))
end
section
variable {prog:Program} {w:World} {A:Around} {E:Value→Shared→Prop} {env:Env} {s:Shared}
theorem compF {elt iter cond:Expr} {x:Str} {px:Pos} {scope:Scope} {cl:List (Str × Addr)} {pos:Pos} {Q:Value→Shared→Prop} (p:Value→Bool) (F:Value→Value→Prop)
  (h:wpAny (model prog w) A (eval iter env) (fun xv s₁=>∃ (n:Nat) (P:Nat→Value→Prop),Src prog w A xv s₁ n P∧n≤100000 ∧
   (∀ i v gX C s₃ E',P i v→Kp s₁.heap gX→St gX C s₃.heap [(x,v)] [] →
    wpAny (model prog w) A (isTrue cond (compEnvC scope cl C env) (eval cond (compEnvC scope cl C env))) (fun ok s₄=>ok=p v∧Keeps s₃ s₄) E' s₃) ∧
   (∀ i v gX C s₃ E',P i v→p v=true→Kp s₁.heap gX→St gX C s₃.heap [(x,v)] [] →
    wpAny (model prog w) A (eval elt (compEnvC scope cl C env)) (fun y s₄=>F v y∧Keeps s₃ s₄) E' s₃) ∧
   (∀ D h' tk ys (vs:List Value),s₁.heap.get? D=none→h'.PlainList D ys→vs.length=n→(∀ j v,vs[j]?=some v→P j v)→Paired F (vs.filter p) ys.toList→Kp s₁.heap h'→Q (.ref D) { s₁ with heap:=h',toks:=tk })) E s)
  (hclos:closureFor scope env=pure cl:=by rfl) (hcell:∀ y∈scope.names,y.2≠.cell:=by decide) (hkind:scope.kind=.function:=by rfl)
  (hnames:∀ y∈scope.names,y.2=.local→scope.names.lookup y.1=some .local:=by decide) (hx:scope.names.lookup x=some .local:=by rfl)
  (hs:∀ x,foldedSetIterable iter env x=pure x:=by intro _; rfl) :
  wpAny (model prog w) A (eval (.ListComp elt [⟨.Name x px,iter,[cond],0⟩] scope pos) env) Q E s:=by
 refine wpAny_ListComp_free p F hclos hcell hkind hnames hx (wpAny_mono h (fun xv s₁ h₁=>?_) fun _ _ e=>e) hs
 refine u24 h₁ fun n P hsrc hn ht he hQ=>?_; clear h₁
 refine hsrc _ _ fun I fp wr W h' k K hW hfp hwc hwn=>?_
 have mk:∀ C (v:Value) (s₃:Shared) (m₃:Str→Option Value),h'.objs.size≤C→s₃.heap.Ns C m₃→m₃ x=some v→(∀ b o,b∉wr→h'.get? b=some o→s₃.heap.get? b=some o) →
   ∃ gX,Kp s₁.heap gX∧St gX C s₃.heap [(x,v)] []:=by
  intro C v s₃ m₃ hC hns hm hk
  refine (w11 (hideAll s₃.heap (C::wr)) (fun b o e=>?_) ⟨⟨_,hns,fun y u e=>?_⟩,fun b o e=>of_hideAll _ e,hideAll_none _ (by simp),(fun _ hp=>nomatch hp),List.nodup_nil⟩)
  ·have hbw:b∉wr:=fun hm=>by rw [hwn b hm] at e; cases e
   refine hideAll_get _ (hk b o hbw (k b o e)) fun hm=>?_
   rcases List.mem_cons.mp hm with q | hm
   ·have:=Heap.lt_size (k b o e); rw [q] at this; exact Nat.lt_irrefl _ (Nat.lt_of_lt_of_le this hC)
   ·exact hbw hm
  ·rw [List.lookup_cons] at e
   by_cases q:y=x
   ·subst q
    rw [beq_self_eq_true] at e
    simp only [Option.some.injEq] at e
    rw [← e]; exact hm
   ·have q':(y == x)=false:=by simpa using q
    rw [q'] at e
    cases e
 refine (w66 I fp wr n P W rfl K (by rw [sizeLine_eq]; exact q1 0x2000000200186a0100021a 1 3 (by kernel_rfl) hn) hW hfp ⟨fun C i v s₃ m₃ E' hC hP hns hm hk _=>?_,fun C i v s₃ m₃ E' hC hP hp hns hm hk _=>?_⟩ (fun D h'' tk ys vs hD hl hpl hlen hP hF hk=>hQ D h'' tk ys vs ?_ hpl hlen hP hF fun b o e=>hk b o (fun hm=>by rw [hwn b hm] at e; cases e) (k b o e)))
 ·refine u11 (mk C v s₃ m₃ hC hns hm hk) fun gX kg F₂=>?_
  rw [List.forIn_cons,if_pos rfl,bind_assoc]
  refine wpAny_bind (wpAny_mono (ht i v gX C s₃ E' hP kg F₂) (fun ok s₄ q=>?_) fun _ _ e=>e)
  rw [pure_bind]
  dsimp only
  rw [List.forIn_nil]
  exact wpAny_pure q
 ·refine u11 (mk C v s₃ m₃ hC hns hm hk) fun gX kg F₂=>?_
  exact he i v gX C s₃ E' hP hp kg F₂
 ·cases e:s₁.heap.get? D with
  | none=>rfl
  | some o=>have:=k _ _ e; rw [hD] at this; cases this
end
section
variable {prog:Program} {w:World} {mg:Str→Option Value} {A:Around} {E:Value→Shared→Prop} {s:Shared}
theorem splitF {x:List Nat} {c:Nat} {t u:Tok} {Q:Value→Shared→Prop} (hx:x.length≤100000) (h:∀ D vs h' k,s.heap.get? D=none→Kp s.heap h'→h'.IsList D vs.toArray→StrsAre vs ((spl c x).map S)→Q (.ref D) { s with heap:=h',toks:=k }) :
  wpAny (model prog w) A (call (.builtin "str.split") [.str (S x) t,.str (S [c]) u]) Q E s:=by
 have hq:∀ (l:List (Str × Tok)) tk,l.map (·.1)=Txt.split (S x) (S [c])→Q (.ref s.heap.objs.size) { s with heap:=s.heap.push { cls:=.type "list", data:=.seq (strValues l).toArray },toks:=tk }:=fun l tk ht =>
  h _ _ _ _ (Heap.get?_none_of_le (Nat.le_refl _)) (fun b o e=>Heap.get?_push_of_some _ e) (w12 _ (Heap.get?_push_size _ rfl) rfl ⟨_,rfl⟩) (by rw [← txtSplit_S,← ht]; exact strsAre_of_values l)
 have hy:((S [c]).length == 0)=false:=rfl
 have hsz2:(Builtin.Str.partsBetween (S x) (Builtin.Str.occurrences (S x) (S [c]) 0 (S x).length ((S x).length+1)) (S [c]).length).length≤sizeLine:=by
  rw [length_partsBetween,sizeLine_eq]
  have:=StrLaws.occ_length_le (S x) (S [c]) 0 (S x).length ((S x).length+1)
  rw [S_len] at this ⊢
  exact q2 0x20000003180290b04400a00a045586a0100021a 1 7 (by kernel_rfl) hx this
 cases h1:(decide ((S x).length<(S [c]).length) || decide (Builtin.Str.strKind (S x)<Builtin.Str.strKind (S [c])))
 ·cases hf:(Builtin.Str.occurrences (S x) (S [c]) 0 (S x).length ((S x).length+1)).isEmpty
  ·refine call_meets F.slot_str_split (typeIs_str _ _ _) F.entry_str_split (F.args_str_split_2 _ _) (meets_str_split_sep (S x) (S [c]) t u h1 hy hf (S_le hx) hsz2) ?_
   show wants Q E _ { s with toks:=_,heap:=s.heap.push { cls:=.type "list", data:=.seq (strsFrom s.toks (Builtin.Str.partsBetween (S x) (Builtin.Str.occurrences (S x) (S [c]) 0 (S x).length ((S x).length+1)) (S [c]).length)).toArray } }
   rw [strsFrom_eq]
   exact hq (numbered s.toks _) _ ((numbered_texts _ _).trans ((if_neg (ne_true_of_eq_false h1)).trans (if_neg (ne_true_of_eq_false hf))).symm)
  ·exact call_meets F.slot_str_split (typeIs_str _ _ _) F.entry_str_split (F.args_str_split_2 _ _) (meets_str_split_not_found (S x) (S [c]) t u h1 hy hf)
    (hq [(S x,t)] _ ((if_neg (ne_true_of_eq_false h1)).trans (if_pos hf)).symm)
 ·exact call_meets F.slot_str_split (typeIs_str _ _ _) F.entry_str_split (F.args_str_split_2 _ _) (meets_str_split_cannot_occur (S x) (S [c]) t u h1)
   (hq [(S x,t)] _ (if_pos h1).symm)
theorem joinL_le_of_prefix:∀ (a b:Txts),(joinL [47] a).length≤(joinL [47] (a++b)).length
 | [],_=>Nat.zero_le _
 | [x],[]=>Nat.le_refl _
 | [x],y::r=>by
  show (joinL [47] [x]).length≤(joinL [47] (x::y::r)).length
  simp only [joinL_n,joinL_1,joinL_c,List.length_append]; exact q3 0x410002112000 1 1 (by kernel_rfl)
 | x::y::r,b=>by
  have:=joinL_le_of_prefix (y::r) b
  show (joinL [47] (x::y::r)).length≤(joinL [47] (x::y::(r++b))).length
  simp only [joinL_n,joinL_1,joinL_c,List.length_append]
  simp only [List.cons_append] at this
  exact q4 0x218400c43058400c4304481000011a 1 3 (by kernel_rfl) this
theorem paired_eq {α:Type} {a b:List α} (h:Paired (fun v y=>y=v) a b):b=a:=by
 induction h with
 | nil=>rfl
 | cons e _ ih=>rw [e,ih]
noncomputable def cpP:Value→Bool
 | .str y _=>!(y.cps.toList == []) && !(y.cps.toList == [46])
 | _=>false
theorem cpP_S (x:List Nat) (t:Tok):cpP (.str (S x) t)=(decide (x≠[]) && decide (x≠[46])):=by
 show (!((S x).cps.toList == []) && !((S x).cps.toList == [46]))=_
 rw [S_toList]
 cases x with
 | nil=>rfl
 | cons a l =>
  have e1:(a::l == ([]:List Nat))=false:=rfl
  have e2:(a::l == [46])=decide (a::l=[46]):=by rw [Bool.eq_iff_iff]; simp
  rw [e1,e2]
  simp only [decide_not,ne_eq,Bool.not_false,reduceCtorEq,not_false_eq_true,decide_true,Bool.true_and]
theorem spl_part (c:Nat):∀ (l p:List Nat),p∈spl c l→p.length≤l.length
 | [],p,hp=>by simp [spl] at hp; simp [hp]
 | a::r,p,hp=>by
  rw [spl] at hp
  split at hp
  ·rcases List.mem_cons.mp hp with rfl | hp
   ·simp
   ·exact Nat.le_succ_of_le (spl_part c r p hp)
  ·cases e:spl c r with
   | nil=>exact absurd e (spl_ne c r)
   | cons q qs =>
    rw [e] at hp
    rcases List.mem_cons.mp hp with rfl | hp
    ·have:=spl_part c r q (by rw [e]; simp)
     simp only [List.length_cons]; exact q2 0x8c014a2004221000011a 1 3 (by kernel_rfl) this
    ·exact Nat.le_succ_of_le (spl_part c r p (by rw [e]; exact List.mem_cons_of_mem _ hp))
theorem strs_filter {us:List Value} {xs:List (List Nat)} (h:StrsAre us (xs.map S)):StrsAre (us.filter cpP) ((xs.filter fun x=>decide (x≠[]) && decide (x≠[46])).map S):=by
 induction xs generalizing us with
 | nil=>cases h; exact .nil
 | cons x xs ih =>
  cases h with
  | cons _ t h =>
   rw [List.filter_cons,List.filter_cons,cpP_S]
   split
   ·exact .cons _ t (ih h)
   ·exact ih h
set_option tactic.hygienic true in
theorem cp_pieces {ps:Txts} (h:∀ p∈ps,Piece p):((spl 47 (47::joinL [47] ps)).filter fun x=>decide (x≠[]) && decide (x≠[46]))=ps:=by
 rw [spl,if_pos rfl,spl_pcs h,List.filter_cons,if_neg (by simp)]
 unfold pcs
 split
 ·rename_i e; rw [e]; rfl
 ·refine List.filter_eq_self.mpr fun x hx=>?_
  have:=h x hx
  simp [this.1,this.2.2.1]
theorem tTu {D:Addr} {vs:List Value} {Q:Bool→Shared→Prop} (hl:s.heap.IsTuple D vs.toArray) (hz:vs.length≤100000) (h:∀ k,Q (decide (vs≠[])) { s with toks:=k }):wpAny (model prog w) A (truthy (.ref D)) Q E s:=by
 refine u12 hl fun o ho hc z0=>?_; clear hl; obtain ⟨n,hd⟩:=z0
 refine PyProof.Rows.truthy_tuple (w12 o ho hc ⟨n,hd⟩) (by rw [List.size_toArray]; exact q1 0x1fc04a00986a0100021a 1 3 (by kernel_rfl) hz) ?_
 have e:(!vs.toArray.isEmpty)=decide (vs≠[]):=by cases vs <;> simp
 first
  | (rw [e]; exact h _)
  | (show Q _ _; simp only [List.isEmpty_toArray]; have:=h s.toks; simpa using this)
theorem nmC {x:Str} {pos:Pos} {c:Addr} {v:Value} {env:Env} {g:Heap} {L:Addr} {l own} {Q:Value→Shared→Prop} (F:St g L s.heap l own) (hv:g.IsCell c (some v)) (h:Q v s)
  (hc:env.cells.lookup x=some c:=by rfl) (hk:env.scope.kind=.function:=by rfl) (hl:env.kindOf x=some .free:=by rfl) (hd:(x == ("__debug__" : Str))=false:=by decide) (hn:(x == ("__classdict__" : Str))=false:=by decide) :
  wpAny (model prog w) A (eval (.Name x pos) env) Q E s:=ldF (isC_keeps hv F.keep) h hc hk hl hd hn
theorem nmCell {x:Str} {pos:Pos} {c:Addr} {v:Value} {env:Env} {g:Heap} {L:Addr} {l own} {Q:Value→Shared→Prop} (F:St g L s.heap l own) (hv:g.IsCell c (some v)) (h:Q v s)
  (hc:env.cells.lookup x=some c:=by rfl) (hk:env.scope.kind=.function:=by rfl) (hl:env.kindOf x=some .cell:=by rfl) (hd:(x == ("__debug__" : Str))=false:=by decide) :
  wpAny (model prog w) A (eval (.Name x pos) env) Q E s:=ldC (isC_keeps hv F.keep) h hc hk hl hd
theorem isL_ne {g h:Heap} {L a:Addr} {l own} {vs:Array Value} (F:St g L h l own) (hl:h.IsList a vs):a≠L:=by
 rintro rfl
 refine u11 F.fl fun m Fn _=>?_
 refine u32 Fn fun o' es ep h1 h2 _=>?_; clear Fn
 refine u12 hl fun o ho _ z0=>?_; clear hl; obtain ⟨n,hd⟩:=z0
 rw [h1] at ho; cases ho
 rw [h2] at hd; cases hd
theorem commonpath_spec {f:Addr} (T:TK w mg s.heap) (ha:mg "commonpath" = some (.ref f)) (R:Room A 10) {D:Addr} {vs:List Value} {pss:List Txts} (hD:s.heap.IsList D vs.toArray)
  (hv:StrsAre vs ((pss.map fun ps=>47::joinL [47] ps).map S)) (hp:∀ ps∈pss,∀ p∈ps,Piece p) (hn:pss≠[]) (hz:pss.length≤100) (hl:∀ ps∈pss,(joinL [47] ps).length≤10000) :
  wpAny (model prog w) A (call (.ref f) [.ref D]) (fun v s'=>(∃ m M t,m∈pss∧M∈pss∧(∀ z∈pss,¬ z<m)∧(∀ z∈pss,¬ M<z)∧v=.str (S (47::joinL [47] (lcp m M))) t)∧Keeps s s') E s:=by
 obtain ⟨f1,hf1⟩:=T.addr F_fspath
 have lv:vs.length=pss.length:=by rw [strsAre_len hv,List.length_map,List.length_map]
 refine enterCl F_commonpath T ha R.lim (binds:=[("paths", .ref D)]) (fun _ _ _=>BindsTo.of_eq rfl) (fun n y hy=>?_) (l:=[("paths", .ref D)]) (cm:=fun _=>none) (fun L cd y v e=>?_) (fun L cd=>by rfl) fun L cd h₁ tk₁ hLn F cells=>?_
 ·rw [List.mem_singleton] at hy; subst hy
  exact .inl rfl
 ·show (if y=("paths" : Str) then some (Value.ref D) else none)=some v
  rw [List.lookup_cons] at e
  by_cases q:y=("paths" : Str)
  ·subst q
   rw [beq_self_eq_true] at e
   rw [if_pos rfl]; simpa using e
  ·have q':(y == ("paths" : Str))=false:=by simpa using q
   rw [q'] at e; cases e
 refine u02 (cells "sep" (L+1) rfl) fun hsep hsg hsL=>?_
 refine u02 (cells "curdir" (L+2) rfl) fun hcur hcg hcL=>?_
 clear cells
 have R':=R.deeper (env:=envOfC "commonpath" F_commonpath.scope L f cd) (by decide:9+1≤10)
 generalize A.deeper (envOfC "commonpath" F_commonpath.scope L f cd)=A' at R' ⊢
 refine stepO fun _ _ _ _=>?_
 walk_at "ms"
 refine wpAny_mono (tupMapFspath (s:={ s with heap:=h₁,toks:=tk₁ }) (T.keeps F.keep) hf1 (R'.le (by decide)) (isL_keeps hD F.keep) hv (by exact q2 0x7d030050802908d64100017a 1 11 (by kernel_rfl) hz lv) fun h₂ tk₂ P k₂ hP=>?_) (fun v s₁ p=>args_nil p) fun _ _ e=>e
 have F₂:=F.keeps k₂
 have hsep₂:=isC_keeps hsep k₂
 have hcur₂:=isC_keeps hcur k₂
 clear F hsep hcur
 refine u12 hP fun oP hoP hocP z0=>?_; clear hP; obtain ⟨nP,hodP⟩:=z0
 have hPc:P∉[L+1,L+2]:=fun hm=>by
  simp only [List.mem_cons,List.not_mem_nil,or_false] at hm
  rcases hm with q | q
  ·refine u11 hsep₂ fun o h1 h2=>?_; clear hsep₂
   rw [← q,hoP] at h1; cases h1; rw [hodP] at h2; cases h2
  ·refine u11 hcur₂ fun o h1 h2=>?_; clear hcur₂
   rw [← q,hoP] at h1; cases h1; rw [hodP] at h2; cases h2
 refine u13 (F₂.withH [L+1,L+2] (fun b hb=>by
  simp only [List.mem_cons,List.not_mem_nil,or_false] at hb
  rcases hb with rfl | rfl
  ·exact hsg
  ·exact hcg) hoP (fun es ep q=>by rw [hodP] at q; cases q) noOwn hPc) fun g₁ kg₁ hgP hgc F₂'=>?_
 have hP:g₁.IsTuple P vs.toArray:=(w12 oP hgP hocP ⟨nP,hodP⟩)
 replace T:=T.keeps kg₁
 clear F₂ k₂
 walk_at "ms"
 intro h₃ F₃ hs₃
 have hsep₃:=hsep₂.sameBut hs₃ hsL
 have hcur₃:=hcur₂.sameBut hs₃ hcL
 clear F₂' hsep₂ hcur₂ hs₃
 walk_at "ms"
 refine tTu (isTu_keeps hP F₃.keep) (by exact q2 0x30d4030050802908d64100017a 1 11 (by kernel_rfl) hz lv) fun _=>?_
 refine u20 (by
  obtain ⟨ps,hps⟩:∃ ps,pss[0]?=some ps:=by cases pss with | nil=>exact absurd rfl hn | cons a l=>exact ⟨a,rfl⟩
  refine u11 ((Al.of_strs hv).get' (i:=0) (x:=47::joinL [47] ps) (by rw [List.getElem?_map,hps]; rfl)) fun v' hv' z0=>?_; obtain ⟨t,rfl⟩:=z0
  exact (w20 _ _ hv'):∃ x t,vs[0]?=some (Value.str x t)) fun v₀ t₀ hv₀=>?_
 rw [decide_eq_true (by rintro rfl; cases hv₀)]
 walk_at "ms"
 refine idxT 0 rfl (by (refine u12 (isTu_keeps hP F₃.keep) fun o a b z0=>?_; obtain ⟨c,d⟩:=z0); exact (w12 o a b ⟨c,d⟩)) hv₀ (by exact q2 0x30d4030050802908d64100017a 1 11 (by kernel_rfl) hz lv) ?_
 walk_at "ms"
 refine IsiPair.str_bytes ?_
 walk_at "ms"
 refine stC F₃ hsep₃ (hgc _ (by simp)) hsL fun h₄ F₄ hsep₄ hs₄=>?_
 have hcur₄:=hcur₃.sameBut hs₄ (by exact fun q=>absurd q (by simp))
 walk_at "ms"
 refine stC F₄ hcur₄ (hgc _ (by simp)) hcL fun h₅ F₅ hcur₅ hs₅=>?_
 have hsep₅:=hsep₄.sameBut hs₅ (by exact fun q=>absurd q (by simp))
 refine u12 (F₅.withC hsep₅ noOwn) fun g₂ kg₂ hsep F₆=>?_
 refine u12 (F₆.withC hcur₅ noOwn) fun g₃ kg₃ hcur F₇=>?_
 replace hP:=isTu_keeps (isTu_keeps hP kg₂) kg₃
 replace hsep:=isC_keeps hsep kg₃
 replace T:=(T.keeps kg₂).keeps kg₃
 have kg:Kp s.heap g₃:=fun b o e=>kg₃ b o (kg₂ b o (kg₁ b o e))
 clear F₃ F₄ F₅ F₆ hsep₃ hcur₃ hsep₄ hcur₄ hsep₅ hcur₅ kg₁ kg₂ kg₃ hgc hgP hs₄ hs₅ hodP hoP hocP nP hsg hcg hPc
 walk_at "ms"
 refine wpAny_Try_except ?_
 walk_at "ms"
 have lz:∀ ps∈pss,(spl 47 (47::joinL [47] ps)).length≤10010:=fun ps hps=>by
  have h1:=spl_len 47 (47::joinL [47] ps)
  have h2:=hl ps hps
  simp only [List.length_cons] at h1
  exact q2 0x9c6840027101802811d463005216200033a 1 7 (by kernel_rfl) h1 h2
 have hget:∀ i v,vs[i]?=some v→∃ ps t,pss[i]?=some ps∧v=Value.str (S (47::joinL [47] ps)) t:=fun i v hi=>by
  refine u21 (strs_get hv hi) fun x t z0 hx=>?_; subst z0
  rw [List.getElem?_map] at hx
  refine u11 (Option.map_eq_some_iff.mp hx) fun ps e z0=>?_; subst z0
  exact (w21 ps t e rfl)
 refine compA (cl:=[("sep", L+1)]) ?_
 walk_at "ms"
 refine (w65 _ _ (fun H i y=>∃ ps,pss[i]?=some ps∧Ts H (spl 47 (47::joinL [47] ps)) y) _ _ _ (Src.tuple R'.hh (isTu_keeps hP F₇.keep)) (by exact q2 0x30d4030050802908d64100017a 1 11 (by kernel_rfl) hz lv) ?_ F₇ ?_ ?_)
 ·intro G H i v k y0; refine u11 y0 fun ps e z0=>?_; clear y0; refine u22 z0 fun a us z1 hl hi=>?_; clear z0; subst z1
  exact (w11 ps e ⟨a,us,rfl,k.list hl,hi⟩)
 ·intro i v gX h tk C D' E' hi hPv kX hex FX
  refine u21 (hget i v hPv) fun ps t hps z0=>?_; subst z0
  have hsX:=isC_keeps (isC_keeps hsep F₇.keep) kX
  have hlp:=hl ps (List.mem_of_getElem? hps)
  walk_at "ms"
  refine nmCell FX hsX ?_
  walk_at "ms"
  refine splitF (by simp only [List.length_cons]; exact q1 0xc3500c400844271010001ea 1 3 (by kernel_rfl) hlp) fun D₁ us h₁ k hn hk hl hi=>?_
  refine ⟨(w11 ps hps ⟨D₁,us,rfl,?_,hi⟩),Keeps.mk' hk⟩
  refine u11 hl fun o ho r=>?_; clear hl
  exact (w11 o (hideAll_get _ ho (fun hm=>by rw [List.mem_singleton] at hm; rw [hm] at hn; obtain ⟨q,hq⟩:=hex; rw [hn] at hq; cases hq)) r)
 intro D₁ h₈ tk₈ ys hD₁ hpl hlen hR k₈ F₈
 refine u12 F₈.rebaseN fun g₄ kg₄ kn F₉=>?_
 have hys:Al (Ts g₄) (pss.map fun ps=>spl 47 (47::joinL [47] ps)) ys:=by
  refine ⟨by rw [List.length_map]; exact q3 0x210031400c4255000211a 1 698 (by kernel_rfl) lv hlen,fun i x v hx hv=>?_⟩
  refine u11 (hR i v hv) fun ps hps z0=>?_; refine u22 z0 fun a us z1 z2 hi=>?_; clear z0; subst z1; refine u12 z2 fun o ho hc z3=>?_; clear z2; obtain ⟨n,hd⟩:=z3
  rw [List.getElem?_map,hps] at hx
  cases hx
  exact (w22 a us rfl ⟨o,kn a o ho (fun es ep q=>by rw [hd] at q; cases q),hc,n,hd⟩ hi)
 have hD₁:g₄.IsList D₁ ys.toArray:=by
  obtain ⟨n,hn⟩:=hpl
  exact (w12 _ (kn _ _ hn (fun es ep q=>by cases q)) rfl ⟨n,rfl⟩)
 replace hP:=isTu_keeps hP kg₄
 replace hsep:=isC_keeps hsep kg₄
 replace hcur:=isC_keeps hcur kg₄
 replace T:=T.keeps kg₄
 replace kg:Kp s.heap g₄:=fun b o e=>kg₄ b o (kg b o e)
 clear F₇ F₈ k₈ kn kg₄ hR hpl
 walk_at "ms"
 refine wpAny_Try_except ?_
 walk_at "ms"
 refine asgT1 R'.hh (setC (cl:=[("sep", L+1)]) ?_)
 walk_at "ms"
 refine (w24 _ _ (Src.tuple R'.hh (isTu_keeps hP F₉.keep)) (by rw [lv]; exact List.length_pos_iff.mpr hn) (by exact q2 0x30d4030050802908d64100017a 1 11 (by kernel_rfl) hz lv) ?_ ?_)
 ·intro i v gX h tk C E' hi hPv kX FX
  refine u21 (hget i v hPv) fun ps t hps z0=>?_; subst z0
  have hsX:=isC_keeps (isC_keeps hsep F₉.keep) kX
  have hlp:=hl ps (List.mem_of_getElem? hps)
  walk_at "ms"
  refine nmCell FX hsX ?_
  walk_at "ms"
  exact ⟨by simp [List.isPrefixOf],Keeps.rfl'⟩
 intro D₂ h₁₀ tk₁₀ led ep hled hD₂ hT₂ k₁₀
 refine (w33 _ _ _ rfl hled hT₂ (fun h₁₁ tk₁₁ k₁₁=>?_))
 have F₁₁:=F₉.keeps fun b o e=>k₁₁ b o (k₁₀ b o e)
 clear F₉ k₁₀ k₁₁ hT₂ hD₂ hled
 walk_at "ms"
 intro h₁₂ F₁₂ _
 walk_at "ms"
 refine compA (cl:=[("curdir", L+2)]) ?_
 walk_at "ms"
 refine (w65 _ _ (fun H i y=>∃ ps,pss[i]?=some ps∧Ts H ps y) _ _ _ (Src.list R'.hh (isL_keeps hD₁ F₁₂.keep)) (by rw [hlen]; exact q2 0x30d4030050802908d64100017a 1 11 (by kernel_rfl) hz lv) ?_ F₁₂ ?_ ?_)
 ·intro G H i v k y0; refine u11 y0 fun ps e z0=>?_; clear y0; refine u22 z0 fun a us z1 hl hi=>?_; clear z0; subst z1
  exact (w11 ps e ⟨a,us,rfl,k.list hl,hi⟩)
 ·intro i v gX h tk C D' E' hi hPv kX hex FX
  refine u11 (hys.get hPv) fun xs hxs z0=>?_; refine u22 z0 fun a us z1 hla hus=>?_; clear z0; subst z1
  rw [List.getElem?_map] at hxs
  refine u11 (Option.map_eq_some_iff.mp hxs) fun ps hps z0=>?_; subst z0
  have kX':Kp g₄ gX:=fun b o e=>kX b o (F₁₂.keep b o e)
  have hcX:=isC_keeps hcur kX'
  have hlp:=lz ps (List.mem_of_getElem? hps)
  have lu:us.length=(spl 47 (47::joinL [47] ps)).length:=by rw [strsAre_len hus,List.length_map]
  refine compF (cl:=[("curdir", L+2)]) cpP (fun v y=>y=v) ?_
  walk_at "ms"
  refine (w24 _ _ (Src.list R'.hh (isL_keeps hla fun b o e=>FX.keep b o (kX' b o e))) (by exact q2 0x186a0180284014846a71a10001ea 1 11 (by kernel_rfl) hlp lu) ?_ ?_ ?_)
  ·intro j v gY C' s₃ E'' hPv' kY FY
   refine u21 (strs_get hus hPv') fun x t z0 hx=>?_; subst z0
   have hcY:=isC_keeps (isC_keeps hcX FX.keep) kY
   have hxl:x.length≤10010:=by
    have h1:=spl_part 47 _ _ (List.mem_of_getElem? hx)
    have h2:=hl ps (List.mem_of_getElem? hps)
    simp only [List.length_cons] at h1
    exact q2 0x4e3420013880c01408ea3005200022a 1 7 (by kernel_rfl) h1 h2
   rw [cpP_S]
   walk_at "ms"
   refine tS (by walk_at "li") fun _=>?_
   by_cases hx0:x=[]
   ·rw [decide_eq_false (by simpa using hx0)]
    walk_at "ms"
    exact ⟨rfl,Keeps.tok⟩
   ·rw [decide_eq_true hx0]
    walk_at "ms"
    refine nmCell FY hcY ?_
    walk_at "ms"
    by_cases h46:x=[46]
    ·rw [decide_eq_false (by simpa using h46)]
     walk_at "ms"
     exact ⟨rfl,Keeps.tok⟩
    ·rw [decide_eq_true h46]
     walk_at "ms"
     exact ⟨rfl,Keeps.tok⟩
  ·intro j v gY C' s₃ E'' hPv' hpv kY FY
   refine u21 (strs_get hus hPv') fun x t z0 hx=>?_; subst z0
   walk_at "ms"
   exact ⟨rfl,Keeps.rfl'⟩
  ·intro D₃ h' tk' ys' vs' hn₃ hpl₃ hlen₃ hP₃ hF₃ k₃
   have e₁:vs'=us:=by
    apply List.ext_getElem?
    intro j
    rcases Nat.lt_or_ge j vs'.length with q | q
    ·have:=hP₃ j _ (List.getElem?_eq_getElem q)
     rw [List.getElem?_eq_getElem q,this]
    ·rw [List.getElem?_eq_none q,List.getElem?_eq_none (by exact q3 0x20802840000255000211a 1 14 (by kernel_rfl) hlen₃ q)]
   subst e₁
   have e₂:=paired_eq hF₃
   refine ⟨(w11 ps hps ⟨D₃,ys'.toList,rfl,?_,?_⟩),Keeps.mk' k₃⟩
   rw [Array.toArray_toList]
   ·obtain ⟨n,hn'⟩:=hpl₃
    exact (w12 _ (hideAll_get _ hn' (fun hm=>by rw [List.mem_singleton] at hm; rw [hm] at hn₃; obtain ⟨q,hq⟩:=hex; rw [hn₃] at hq; cases hq)) rfl ⟨n,rfl⟩)
   ·have:=strs_filter hus
    rw [cp_pieces (hp ps (List.mem_of_getElem? hps))] at this
    rw [e₂]
    exact this
 intro D₃ h₁₃ tk₁₃ zs hD₃ hpl hlen₃ hR k₁₃ F₁₃
 refine u12 F₁₃.rebaseN fun g₅ kg₅ kn F₁₄=>?_
 have hzs:Al (Ts g₅) pss zs:=by
  refine ⟨by exact q4 0x2180314180310c5400c4255000211a 1 10986 (by kernel_rfl) lv hlen hlen₃,fun i x v hx hv=>?_⟩
  refine u11 (hR i v hv) fun ps hps z0=>?_; refine u22 z0 fun a us z1 z2 hi=>?_; clear z0; subst z1; refine u12 z2 fun o ho hc z3=>?_; clear z2; obtain ⟨n,hd⟩:=z3
  rw [hps] at hx; cases hx
  exact (w22 a us rfl ⟨o,kn a o ho (fun es ep q=>by rw [hd] at q; cases q),hc,n,hd⟩ hi)
 replace hD₃:g₅.IsList D₃ zs.toArray:=by
  obtain ⟨n,hn⟩:=hpl
  exact (w12 _ (kn _ _ hn (fun es ep q=>by cases q)) rfl ⟨n,rfl⟩)
 replace hsep:=isC_keeps hsep kg₅
 replace T:=T.keeps kg₅
 replace kg:Kp s.heap g₅:=fun b o e=>kg₅ b o (kg b o e)
 clear F₁₁ F₁₂ F₁₃ k₁₃ kn kg₅ hR hpl hP hcur hys hD₁
 have hun:A'.units+1<cLine:=by have:=R'.un; show A'.units+1<9900; exact q1 0x13560c4008446328191804400224142a 1 3 (by kernel_rfl) this
 walk_at "ms"
 refine minS R'.hh hun (isL_keeps hD₃ F₁₄.keep) (hzs.mono fun _ _ x=>x.keeps F₁₄.keep) hn fun k₁ v₁ m₁ h₁₅ _ hv₁ hm₁ hmin hk₁₅=>?_
 have F₁₅:=F₁₄.keeps hk₁₅
 obtain ⟨_,e₁,c₁,u₁,rfl,hc₁,hu₁⟩:=hzs.get hv₁
 rw [hm₁] at e₁; cases e₁
 walk_at "ms"
 intro h₁₆ F₁₆ _
 walk_at "ms"
 refine maxS R'.hh hun (isL_keeps hD₃ F₁₆.keep) (hzs.mono fun _ _ x=>x.keeps F₁₆.keep) hn fun k₂ v₂ m₂ h₁₇ _ hv₂ hm₂ hmax hk₁₇=>?_
 have F₁₇:=F₁₆.keeps hk₁₇
 obtain ⟨_,e₂,c₂,u₂,rfl,hc₂,hu₂⟩:=hzs.get hv₂
 rw [hm₂] at e₂; cases e₂
 have hle:¬ m₂<m₁:=hmin m₂ (List.mem_of_getElem? hm₂)
 have hz₁:m₁.length≤10010:=by
  have:=joinL_cnt (hl _ (List.mem_of_getElem? hm₁)); exact q1 0x138d08004671011220002fa 1 3 (by kernel_rfl) this
 have hz₂:m₂.length≤10010:=by
  have:=joinL_cnt (hl _ (List.mem_of_getElem? hm₂)); exact q1 0x138d08004671011220002fa 1 3 (by kernel_rfl) this
 have l₁:u₁.length=m₁.length:=by rw [strsAre_len hu₁,List.length_map]
 have l₂:u₂.length=m₂.length:=by rw [strsAre_len hu₂,List.length_map]
 clear F₁₄ F₁₅ F₁₆
 walk_at "ms"
 intro h₁₈ F₁₈ _
 walk_at "ms"
 intro h₁₉ F₁₉ _
 walk_at "ms"
 refine wpAny_For ?_
 walk_at "ms"
 refine u11 (F₁₉.pickE ["common", "isabs", "s1", "s2"]) fun l₀ hl₀ F₂₀=>?_
 refine itE (fun i l own=>l=l₀∧own=[]∧∀ j<i,m₁[j]?=m₂[j]?) (fun l own=>∃ (a:Addr) (i:Nat),l=[(("common" : Str),Value.ref a),("isabs", Value.bool true)]∧own=[(a,u₁.take i)]∧lcp m₁ m₂=m₁.take i) R'.hh F₂₀ hc₁ ⟨rfl,rfl,fun j hj=>absurd hj (by exact q1 65560 1 1 (by kernel_rfl))⟩ ?_ ?_
 ·intro i v t l₁ own₁ g' h tk E' _ hQt hv y0; refine u02 y0 fun z0 z1 hsame=>?_; clear y0; subst z0; subst z1; intro kg' F
  subst hl₀
  refine u21 (strs_get hu₁ hv) fun x tx z0 hx=>?_; subst z0
  have hi:i<m₁.length:=(List.getElem?_eq_some_iff.mp hx).1
  have hi₂:i<m₂.length:=le_within i m₁ m₂ hle hsame hi
  obtain ⟨y,hy⟩:∃ y,m₂[i]?=some y:=⟨_,List.getElem?_eq_getElem hi₂⟩
  refine u11 ((Al.of_strs hu₂).get' hy) fun v' hv' z0=>?_; obtain ⟨ty,rfl⟩:=z0
  have hkg:Kp g₅ h:=fun b o e=>F.keep b o (kg' b o e)
  walk_at "ms"
  refine idxL i rfl (isL_keeps hc₂ hkg) hv' (by exact q2 0x186a0180284014846a71a10001ea 1 11 (by kernel_rfl) hz₂ l₂) ?_
  walk_at "ms"
  by_cases hxy:x=y
  ·subst hxy
   refine if_bf (decide_eq_false (by simp)) ?_
   walk_at "ms"
   refine Turn.go hQt ⟨rfl,rfl,fun j hj=>?_⟩ (F.pick ["common", "isabs", "s1", "s2"] rfl)
   rcases Nat.lt_or_ge j i with q | q
   ·exact hsame j q
   ·have:j=i:=by exact q2 0x80014014046a3005200122a 1 46 (by kernel_rfl) hj q
    subst this; rw [hx,hy]
  ·refine if_bt (decide_eq_true hxy) ?_
   walk_at "ms"
   intro h₈ I hI hk₈ hT₈
   have F₈:=F.keeps hk₈
   walk_at "ms"
   refine slcToL i rfl (isL_keeps hc₁ fun b o e=>hk₈ b o (hkg b o e)) hT₈ (by exact q3 0x200608400c22f5000211a 1 14 (by kernel_rfl) l₁ hi) (by exact q2 0x186a0180284014846a71a10001ea 1 11 (by kernel_rfl) hz₁ l₁) fun h₉ a₉ hn₉ hk₉ hT₉=>?_
   have F₉:=F₈.own1 hk₉ hn₉ ⟨_,hT₉⟩
   walk_at "ms"
   intro h₁₀ F₁₀ _
   walk_at "ms"
   refine Turn.brk hQt (w22 a₉ i rfl rfl ?_) (F₁₀.pick ["common", "isabs"] rfl)
   exact lcp_at i m₁ m₂ hsame hi (by rw [hx,hy]; simpa using hxy) hi₂
 ·rintro l₁ own₁ h tk hI F
  have key:∃ a us,St g₅ L h [("common", .ref a),("isabs", .bool true)] own₁∧h.IsList a us.toArray∧StrsAre us ((lcp m₁ m₂).map S):=by
   rcases hI with ⟨rfl,rfl,hsame⟩ | ⟨a,i,rfl,rfl,hl⟩
   ·subst hl₀
    refine (w22 c₁ u₁ (F.pick ["common", "isabs"] rfl) (isL_keeps hc₁ F.keep) ?_)
    rw [lcp_all m₁ m₂ hle (l₁▸hsame)]
    exact hu₁
   ·subst hl₀
    refine (w22 a _ (F.pick ["common", "isabs"] rfl) ?_ (by rw [hl]; exact ((Al.of_strs hu₁).take i).strs))
    obtain ⟨n,hn⟩:=(F.ow _ (List.mem_singleton.mpr rfl)).2.2
    exact (w12 _ hn rfl ⟨n,rfl⟩)
  refine u22 key fun a us F' hla hus=>?_; clear key
  clear F hI
  walk_at "ms"
  refine nmCell F' hsep ?_
  walk_at "ms"
  intro h₂₁ F₂₁ hs₂₁
  walk_at "ms"
  refine nmCell F₂₁ hsep ?_
  walk_at "ms"
  have hpre:=lcp_prefix m₁ m₂
  refine joinS (hla.extBut hs₂₁.extBut (isL_ne F' hla)) hus (by simp) ?_ fun _ _=>?_
  ·obtain ⟨r,hr⟩:=hpre
   have h1:=joinL_len (hl _ (List.mem_of_getElem? hm₁))
   rw [← hr,List.map_append,List.sum_append,List.length_append] at h1
   exact q4 0x3d0900600021208ce2022458400c5000211235064a 1 3 (by kernel_rfl) h1
  walk_at "ms"
  refine addS (by
   obtain ⟨r,hr⟩:=hpre
   have h1:=hl _ (List.mem_of_getElem? hm₁)
   have h2:=joinL_le_of_prefix (lcp m₁ m₂) r
   rw [hr] at h2
   simp only [List.length_cons,List.length_nil]
   exact q2 0xc35006118090911184014046a71010001ea 1 7 (by kernel_rfl) h1 h2) fun _ _=>?_
  walk_at "ms"
  exact ⟨(w34 m₁ m₂ _ (List.mem_of_getElem? hm₁) (List.mem_of_getElem? hm₂) hmin hmax rfl),Keeps.mk' fun b o e=>F₂₁.keep b o (kg b o e)⟩
end
section
variable {prog:Program} {w:World} {A:Around} {E:Value→Shared→Prop} {s:Shared} {a b:Int} {t u:Tok} {Q:Value→Shared→Prop}
theorem iMod (hb:b≠0) (h:∀ t' k,Q (.int (a.fmod b) t') { s with toks:=k }):wpAny (model prog w) A (binaryOp .Mod (.int a t) (.int b u)) Q E s:=PyProof.Rows.mod_int' hb (h _ _)
theorem iDiv (hb:b≠0) (hs:b.natAbs<1073741824) (h:∀ t' k,Q (.int (a.fdiv b) t') { s with toks:=k }):wpAny (model prog w) A (binaryOp .FloorDiv (.int a t) (.int b u)) Q E s :=
 AutoIntOps.floordiv_1 (by simpa using hb) (by rw [PyProof.noPylong_small hs]; decide) (h _ _)
theorem iIdiv (hb:b≠0) (hs:b.natAbs<1073741824) (h:∀ t' k,Q (.int (a.fdiv b) t') { s with toks:=k }):wpAny (model prog w) A (inplaceOp .FloorDiv (.int a t) (.int b u)) Q E s :=
 AutoIntOps.ifloordiv_1 (by simpa using hb) (by rw [PyProof.noPylong_small hs]; decide) (h _ _)
theorem iPow106 (h:∀ t' k,Q (.int 1000000 t') { s with toks:=k }):wpAny (model prog w) A (binaryOp .Pow (.int 10 t) (.int 6 u)) Q E s :=
 AutoIntOps.pow_4 (by decide) (by decide) (by decide) (by decide) (by decide +kernel) (by
  show Made.post (.int ((10:Int) ^ (6:Nat))) Q s
  rw [show (10:Int) ^ (6:Nat)=1000000 by decide]
  exact h _ _)
theorem Src.range {r:Addr} {n:Nat} {t₁ t₂ t₃:Tok} (hh:A.handled=none) (hr:IsRange s.heap r 0 n 1 t₁ t₂ t₃) (hn:n<2 ^ 31):Src prog w A (.ref r) s n (fun i v=>∃ t,v=.int i t):=by
 intro Q E h
 have hrs:Builtin.Range.rangeSize 0 (n:Int) 1=(n:Int):=by
  unfold Builtin.Range.rangeSize
  rcases Nat.eq_zero_or_pos n with e | e
  ·subst e; rfl
  ·simp; exact q1 0x202b0020da 1 53 (by kernel_rfl)
 have hsm:Builtin.Range.small 0 (n:Int) 1=true:=by
  unfold Builtin.Range.small
  rw [if_pos (by decide:(1:Int)>0),hrs]
  unfold Builtin.Range.rangeFitsLong
  simp only [decide_eq_true_eq,Bool.and_eq_true,Bool.or_eq_true]
  refine ⟨?_,.inr ?_⟩ <;> (first | exact q1 0x7f012c620a6004449188298017f012b0c1a337e0280011fa 1 14 (by kernel_rfl) hn | lia)
 refine wpAny_pyIter_range hr hsm ?_
 rw [hrs]
 have W:=Walks.range (prog:=prog) (w:=w) hh s.heap.objs.size 0 1 n
 refine h s.heap.objs.size [s.heap.objs.size] [s.heap.objs.size] (fun i h=>IsRangeIter h s.heap.objs.size (0+(i:Nat)*1) ((n:Int)-(i:Nat)) 1) _ (fun b o e=>Heap.get?_push_of_some _ e)
  ⟨W.sub,W.frame,fun i s' Q' E' hi st hQ=>W.item i s' Q' E' hi st fun v h' tk hP=>hQ v h' tk (by obtain ⟨t,rfl⟩:=hP; exact ⟨t,by simp⟩),W.done,W.self⟩ ?_ ?_ ?_ ?_
 ·show IsRangeIter _ _ _ _ _
  simpa using Heap.get?_push_size s.heap (o:={ cls:=.type "range_iterator", data:=.fields #[rawInt 0,rawInt n,rawInt 1] }) rfl
 ·intro b hb
  rw [List.mem_singleton.mp hb,Heap.size_push]; exact Nat.lt_succ_self _
 ·intro i h st b hb
  rw [List.mem_singleton.mp hb]
  exact (w12 _ st ((by decide:Value.type "range_iterator" ≠ .type "list")) ((by decide:Value.type "range_iterator" ≠ .type "tuple")))
 ·intro b hb
  rw [List.mem_singleton.mp hb]
  exact Heap.get?_none_of_le (Nat.le_refl _)
noncomputable def intOf:Option Value→Int
 | some (.int a _)=>a
 | _=>0
theorem sumL {D:Addr} {vs:List Value} (hh:A.handled=none) (hl:s.heap.IsList D vs.toArray) (hi:∀ (i:Nat) (v:Value),vs[i]?=some v→∃ a t,v=Value.int a t) (h:∀ a t h' tk,Kp s.heap h'→Q (.int a t) { s with heap:=h',toks:=tk }) :
  wpAny (model prog w) A (call (.builtin "sum") [.ref D]) Q E s:=by
 have hh':A.in1.handled=none:=hh
 refine call_sum_walkG ?_
 refine Src.list hh' hl _ _ fun I fp wr W h' k K hW hfp hwc hwn=>?_
 refine ⟨I,fp,wr,_,_,W,fun i=>intOf (vs[i]?),rfl,K,hW,hfp,fun i v hv=>?_,fun h'' tk t' hk=>h _ _ _ _ fun b o e=>hk b o (fun hm=>by rw [hwn b hm] at e; cases e) (k b o e)⟩
 have hv':vs[i]?=some v:=by simpa using hv
 refine u20 (hi i v hv') fun a t z0=>?_; subst z0
 exact ⟨t,by show _=Value.int (intOf vs[i]?) t; rw [hv']; rfl⟩
theorem absI (h:∀ t' k,Q (.int (if a<0 then -a else a) t') { s with toks:=k }):wpAny (model prog w) A (call (.builtin "abs") [.int a t]) Q E s:=PyProof.Rows.call_abs_int h
theorem abs_nn (a:Int):0≤(if a<0 then -a else a):=by
 split
 ·exact Int.neg_nonneg_of_nonpos (Int.le_of_lt ‹_›)
 ·exact Int.not_lt.mp ‹_›
end
theorem ll_nil {α:Type} {k:Nat}:([]:List α).length≤k:=Nat.zero_le _
theorem ll_cons {α:Type} {a:α} {l:List α} {k:Nat} (h:l.length≤k):(a::l).length≤k+1:=Nat.succ_le_succ h
noncomputable def Pcs21:Txts:=[[49],[46],[48],[114,99],[97],[45],[100,101,118],[112],[108],[95],[43],[32],[98],[117,110,107,110,111,119,110],[99],[50,53],[82,67],[108,112,104,97],[47,40],[101,116,97],[233]]
theorem Pcs21_length:Pcs21.length=21:=rfl
theorem strsPcs (t0 t1 t2 t3 t4 t5 t6 t7 t8 t9 t10 t11 t12 t13 t14 t15 t16 t17 t18 t19 t20:Tok) :
  StrsAre [Value.str (S [49]) t0,Value.str (S [46]) t1,Value.str (S [48]) t2,Value.str (S [114,99]) t3,Value.str (S [97]) t4,Value.str (S [45]) t5,Value.str (S [100,101,118]) t6,Value.str (S [112]) t7,Value.str (S [108]) t8,Value.str (S [95]) t9,Value.str (S [43]) t10,Value.str (S [32]) t11,Value.str (S [98]) t12,Value.str (S [117,110,107,110,111,119,110]) t13,Value.str (S [99]) t14,Value.str (S [50,53]) t15,Value.str (S [82,67]) t16,Value.str (S [108,112,104,97]) t17,Value.str (S [47,40]) t18,Value.str (S [101,116,97]) t19,Value.str (S [233]) t20]
   (Pcs21.map S):=by
 unfold Pcs21
 simp only [List.map_cons,List.map_nil]
 repeat (first | exact StrsAre.nil | refine StrsAre.cons _ _ ?_)
theorem strsPcs_len {pv:List Value} (h:StrsAre pv (Pcs21.map S)):pv.length≤100000:=by
 rw [strsAre_len h]; decide
theorem Pcs21_get {pv:List Value} (h:StrsAre pv (Pcs21.map S)) {j:Nat} (hj:j<21):∃ p t,pv[j]?=some (Value.str (S p) t)∧p∈Pcs21:=by
 have h':j<Pcs21.length:=hj
 refine u11 ((Al.of_strs h).get' (List.getElem?_eq_getElem h')) fun v hv z0=>?_; obtain ⟨t,rfl⟩:=z0
 exact (w21 _ t hv (List.getElem_mem h'))
theorem Pcs21_len:∀ p∈Pcs21,p.length≤7:=by decide
set_option tactic.hygienic true in
theorem min10 (m:Nat):∃ n:Nat,n≤10∧(if 10<(m:Int) then 10 else (m:Int))=(n:Int) :=
 (w11 (min m 10) (Nat.min_le_right _ _) (by split <;> (first | (rename_i z0; exact q1 0xa10060a1085a108414a 1 1237 (by kernel_rfl) z0) | (rename_i z0; exact q1 0xa10060005a1084818a 1 1714 (by kernel_rfl) z0))))
theorem slicePick_mem {vs:List Value} {lo hi st:Option Int} {j:Nat} {v:Value} (h:(slicePick vs.toArray lo hi st).toList[j]?=some v):∃ i:Nat,vs[i]?=some v:=by
 have hm:=List.mem_of_getElem? h
 unfold slicePick at hm
 simp only [List.mem_filterMap] at hm
 refine u11 hm fun i _ hi=>?_; clear hm
 exact ⟨i,by simpa using hi⟩
theorem fmod_bounds {a:Int} (h:0≤a):0≤a.fmod 1000000∧a.fmod 1000000<1000000:=by
 rw [Int.fmod_eq_emod_of_nonneg _ (by decide)]
 exact ⟨Int.emod_nonneg _ (by decide),Int.emod_lt_of_pos _ (by decide)⟩
noncomputable def Glue (x:List Nat):Prop:=∃ ws:Txts,ws.length≤4∧(∀ p∈ws,p∈Pcs21)∧x=ws.flatten
theorem joinL_empty:∀ ws:Txts,joinL [] ws=ws.flatten
 | []=>rfl
 | [x]=>by simp [joinL_n,joinL_1,joinL_c]
 | x::y::r=>by
  rw [joinL_c,joinL_empty (y::r)]
  simp
noncomputable def RelsOf (rows:List Txts):Prop:=rows≠[]∧rows.length≤3∧(∀ r∈rows,r≠[])∧(∀ r∈rows,∀ x∈r,Glue x)∧(rows.map (·.length)).sum≤10
theorem St.sel {g h:Heap} {L:Addr} {l:List (Str × Value)} {own own':List (Addr × List Value)} (F:St g L h l own) (hs:∀ p∈own',p∈own) (hn:(own'.map (·.1)).Nodup):St g L h l own' :=
 ⟨F.fl,F.keep,F.gL,fun x hx=>F.ow x (hs x hx),hn⟩
theorem St.sel3 {g h:Heap} {L:Addr} {l:List (Str × Value)} {a b c:Addr × List Value} (F:St g L h l [a,b,c]):St g L h l [c,a] :=
 F.sel (fun p hp=>by simp only [List.mem_cons,List.not_mem_nil,or_false] at hp ⊢; rcases hp with h | h <;> simp [h]) (by
  have h:=F.nd
  simp only [List.map_cons,List.map_nil,List.nodup_cons,List.mem_cons,List.not_mem_nil,or_false,not_or,not_false_eq_true,List.nodup_nil,and_true] at h ⊢
  exact fun e=>h.1.2 e.symm)
theorem St.sel4 {g h:Heap} {L:Addr} {l:List (Str × Value)} {a b c d:Addr × List Value} (F:St g L h l [a,b,c,d]):St g L h l [c,a] :=
 F.sel (fun p hp=>by simp only [List.mem_cons,List.not_mem_nil,or_false] at hp ⊢; rcases hp with h | h <;> simp [h]) (by
  have h:=F.nd
  simp only [List.map_cons,List.map_nil,List.nodup_cons,List.mem_cons,List.not_mem_nil,or_false,not_or,not_false_eq_true,List.nodup_nil,and_true] at h ⊢
  exact fun e=>h.1.2.1 e.symm)
theorem St.perm {g h:Heap} {L:Addr} {l:List (Str × Value)} {own own':List (Addr × List Value)} (F:St g L h l own) (p:own'.Perm own):St g L h l own' :=
 ⟨F.fl,F.keep,F.gL,fun x hx=>F.ow x (p.mem_iff.mp hx),(p.map (·.1)).nodup_iff.mpr F.nd⟩
theorem glue_len {ws:Txts} (h:∀ p∈ws,p∈Pcs21) (hl:ws.length≤4):(ws.map (·.length)).sum+ws.length≤1000000:=by
 have:∀ (ws:Txts),(∀ p∈ws,p∈Pcs21)→(ws.map (·.length)).sum≤7*ws.length:=by
  intro ws
  induction ws with
  | nil=>intro _; simp
  | cons x r ih =>
   intro h
   have h1:=Pcs21_len x (h x (by simp))
   have h2:=ih fun p hp=>h p (by simp [hp])
   simp only [List.map_cons,List.sum_cons,List.length_cons]
   exact q3 0x8c00c5c0d200042210703480281357100013a 1 7 (by kernel_rfl) h1 h2
 have:=this ws h
 exact q2 0xf424018029088703480281054100013a 4 280 (by kernel_rfl) hl this
theorem fmod21 {r:Int} (h:0<r):∃ j:Nat,j<21∧(r-1).fmod 21=(j:Int):=by
 refine (w11 ((r-1) % 21).toNat ?_ ?_)
 ·exact (Int.toNat_lt (Int.emod_nonneg _ (by decide))).mpr (Int.emod_lt_of_pos _ (by decide))
 ·rw [Int.fmod_eq_emod_of_nonneg _ (by decide)]; exact (Int.toNat_of_nonneg (Int.emod_nonneg _ (by decide))).symm
theorem fdiv21 {r:Int} (h:0<r):0≤(r-1).fdiv 21:=by
 rw [Int.fdiv_eq_ediv_of_nonneg _ (by decide)]; exact Int.ediv_nonneg (Int.sub_nonneg_of_le h) (by decide)
theorem fdiv6 {r:Int} (h:0≤r):0≤r.fdiv 6:=by
 rw [Int.fdiv_eq_ediv_of_nonneg _ (by decide)]; exact Int.ediv_nonneg h (by decide)
section
variable {prog:Program} {w:World} {mg:Str→Option Value} {A:Around} {E:Value→Shared→Prop} {s:Shared} {f:Addr}
noncomputable def RowsAt (Dr:Addr) (i:Nat) (own:List (Addr × List Value)) (G:Heap):Prop :=
 (i=0∧own=[(Dr,[])])∨∃ (done:List Txts) (vsd:List Value) (last:Txts) (Dl:Addr) (items:List Value),own=[(Dr,vsd++[.ref Dl]),(Dl,items)]∧Al (Ts G) done vsd∧StrsAre items (last.map S)∧last≠[] ∧
  (∀ r∈done,r≠[])∧(∀ r∈done,∀ x∈r,Glue x)∧(∀ x∈last,Glue x)∧done.length+1≤3∧(done.map (·.length)).sum+last.length≤i
theorem rel_tail {g:Heap} {L:Addr} {cd:Value} {Dc DP:Addr} {cs pv:List Value} {Q:Flow→Shared→Prop} (hh:A.handled=none) (T:TK w mg g) (F:St g L s.heap [("cells", .ref Dc),("pieces", .ref DP)] []) (hc:g.IsList Dc cs.toArray)
  (hci:∀ (i:Nat) (v:Value),cs[i]?=some v→∃ c t,v=Value.int c t∧0≤c∧c<1000000) (hcn:cs≠[]) (hcl:cs.length≤10) (hp:g.IsList DP pv.toArray) (hpv:StrsAre pv (Pcs21.map S))
  (hQ:∀ rows a us h tk,RelsOf rows→h.IsList a us.toArray→Al (Ts h) rows us→Kp g h→Q (.ret (.ref a)) { s with heap:=h,toks:=tk }) :
  wpAny (model prog w) A (execs (F_releases.body.drop 3) (envOfC "_law_releases" F_releases.scope L f cd)) Q E s:=by
 refine stepO fun _ _ _ _=>?_
 walk_at "ms"
 refine ⟨szl (by simp),fun h₂ Dr hDr hk hT=>?_⟩
 have F₂:=F.own1 (items:=[]) hk hDr ⟨_,hT⟩
 walk_at "ms"
 intro h₃ F₃ _
 walk_at "ms"
 refine wpAny_For ?_
 walk_at "ms"
 obtain ⟨l₀,hl₀⟩:∃ l₀:List (Str × Value),l₀=([("rows", Value.ref Dr),("pieces", Value.ref DP)]:List (Str × Value)):=⟨_,rfl⟩
 have F₄:St g L h₃ l₀ [(Dr,[])]:=by subst hl₀; exact F₃.pick ["rows", "pieces"] rfl
 refine itLG (fun i l own G=>l=l₀∧RowsAt Dr i own G) hh F₄ hc ⟨rfl,.inl ⟨rfl,rfl⟩⟩ ?_ ?_
 ·rintro i v l₁ own₁ g₁ g' h tk E' _ hQt hvi ⟨rfl,hrows⟩ kg kg' F
  subst hl₀
  refine u22 (hci i v hvi) fun c tc z0 hc0 hc1=>?_; subst z0
  have kk:Kp g g':=fun b o e=>kg' b o (kg b o e)
  have T':=T.keeps kk
  clear T F₂ F₃ F₄
  walk_at "ms"
  refine ⟨szl (by simp),fun h₅ Dw hDw hk₅ hT₅=>?_⟩
  have F₅:=F.own1 (items:=[]) hk₅ hDw ⟨_,hT₅⟩
  walk_at "ms"
  intro h₆ F₆ _
  walk_at "ms"
  refine iDiv (by decide) (by decide) fun _ _=>?_
  walk_at "ms"
  intro h₇ F₇ _
  walk_at "ms"
  refine wpAny_While ?_
  obtain ⟨l₂,hl₂⟩:∃ l₂:List (Str × Value),l₂=([("words", Value.ref Dw),("cell", Value.int c tc),("rows", Value.ref Dr),("pieces", Value.ref DP)]:List (Str × Value)):=⟨_,rfl⟩
  obtain ⟨t₀,F₈⟩:∃ t₀,St g' L h₇ ((("rest" : Str),Value.int (c.fdiv 6) t₀)::l₂) ((Dw,[])::own₁):=⟨_,by subst hl₂; exact F₇.pick ["rest", "words", "cell", "rows", "pieces"] rfl⟩
  clear F₇ F₆ F₅ F
  refine itW 4 (fun k l own=>∃ (ws:Txts) (wsv:List Value) (r:Int) (t:Tok),own=(Dw,wsv)::own₁∧StrsAre wsv (ws.map S)∧ws.length+k=4∧(∀ p∈ws,p∈Pcs21)∧l=(("rest" : Str),Value.int r t)::l₂∧0≤r)
   (fun l own=>∃ (ws:Txts) (wsv:List Value) (v:Value),own=(Dw,wsv)::own₁∧StrsAre wsv (ws.map S)∧ws.length≤4∧(∀ p∈ws,p∈Pcs21)∧l=(("rest" : Str),v)::l₂)
   F₈ (w45 ([]) ([]) _ t₀ rfl .nil rfl (by simp) rfl (fdiv6 hc0)) ?_ ?_
  ·intro k l₃ own₃ h₈ tk₈ E'' _ _ hQt hQo y0; refine u45 y0 fun ws wsv r t z0 hws hk4 hpc z1 hr=>?_; clear y0; subst z0; subst z1; intro F
   subst hl₂
   have hwl:wsv.length=ws.length:=by rw [strsAre_len hws,List.length_map]
   walk_at "ms"
   by_cases hr0:0<r
   ·refine if_bt (decide_eq_true hr0) ?_
    walk_at "ms"
    refine lenL (vs:=wsv) (F.ow (Dw,wsv) (by simp)).2.2.isList (by exact q3 0x186a0180182006212a83000211224a 1 21 (by kernel_rfl) hk4 hwl) fun _ _=>?_
    rw [hwl]
    walk_at "ms"
    by_cases hlt:ws.length<4
    ·refine if_bt (decide_eq_true (by exact q1 0x208024100113a 1 3 (by kernel_rfl) hlt)) ?_
     walk_at "ms"
     intro h₉ F₉ _
     walk_at "ms"
     refine gmApp (F₉.ow (Dw,wsv) (by simp)).2.2 ?_
     walk_at "ms"
     refine iMod (by decide) fun _ _=>?_
     walk_at "ms"
     refine u11 (fmod21 hr0) fun j hj ej=>?_
     refine u21 (Pcs21_get hpv hj) fun p tp hpj hpm=>?_
     refine idxL j ej (isL_keeps hp fun b o e=>F₉.keep b o (kk b o e)) hpj (strsPcs_len hpv) ?_
     walk_at "ms"
     refine appS (pre:=[]) F₉ (by exact q2 0x30d4020010600a2315000211a 1 13 (by kernel_rfl) hwl hlt) fun h₁₀ F₁₀ _=>?_
     walk_at "ms"
     refine iIdiv (by decide) (by decide) fun _ _=>?_
     walk_at "ms"
     intro h₁₁ F₁₁ _
     walk_at "ms"
     refine TurnW.go hQt (k-1) (by exact q2 0x21180298b0c100113a83000211224a 1 456 (by kernel_rfl) hk4 hlt) (w45 (ws++[p]) (wsv++[Value.str (S p) tp]) _ _ rfl ?_ ?_ ?_ rfl (fdiv21 hr0)) (F₁₁.pick ["rest", "words", "cell", "rows", "pieces"] rfl)
     ·rw [List.map_append]; exact strs_snoc hws
     ·rw [List.length_append,List.length_singleton]; exact q2 0x1063005388010891994100113a83000211224a 1 403274 (by kernel_rfl) hk4 hlt
     ·intro q hq
      rcases List.mem_append.mp hq with hq | hq
      ·exact hpc q hq
      ·rw [List.mem_singleton.mp hq]; exact hpm
    ·refine if_bf (decide_eq_false (by exact q1 0x20802441001817a 1 3 (by kernel_rfl) hlt)) ?_
     walk_at "ms"
     exact TurnO.go hQo (w34 ws wsv _ rfl hws (by exact q2 0x4100083000211224a 1 5 (by kernel_rfl) hk4) hpc rfl) F
   ·refine if_bf (decide_eq_false hr0) ?_
    walk_at "ms"
    exact TurnO.go hQo (w34 ws wsv _ rfl hws (by exact q2 0x4100083000211224a 1 5 (by kernel_rfl) hk4) hpc rfl) F
  ·intro l₃ own₃ h₈ tk₈ y0; refine u34 y0 fun ws wsv v₃ z0 hws hw4 hpc z1=>?_; clear y0; subst z0; subst z1; intro F
   subst hl₂
   have hgl:Glue (joinL [] ws):=(w12 ws hw4 hpc (joinL_empty ws))
   have hjl:=glue_len hpc hw4
   walk_at "ms"
   rcases hrows with ⟨rfl,rfl⟩ | ⟨done,vsd,last,Dl,items,rfl,hdone,hlast,hln,hdn,hdg,hlg,hd3,hsum⟩
   ·refine tL (vs:=[]) (F.ow (Dr,[]) (by simp)).2.2.isList (by simp) fun _=>?_
    rw [decide_eq_false (by simp)]
    walk_at "ms"
    refine gmApp (vs:=[]) (F.ow (Dr,[]) (by simp)).2.2 ?_
    walk_at "ms"
    refine joinS (vs:=wsv) (F.ow (Dw,wsv) (by simp)).2.2.isList hws (by simp) hjl fun tj kj=>?_
    walk_at "ms"
    refine ⟨szl (by simp),fun h₉ Dn hDn hk₉ hT₉=>?_⟩
    have F₉:=F.own1 (items:=[Value.str (S (joinL [] ws)) tj]) hk₉ hDn ⟨_,hT₉⟩
    walk_at "ms"
    refine appS (pre:=[(Dn,[Value.str (S (joinL [] ws)) tj]),(Dw,wsv)]) (post:=[]) (items:=[]) F₉ (by simp) fun h₁₀ F₁₀ _=>?_
    walk_at "ms"
    have F₁₁:=F₁₀.sel3
    refine TurnG.go hQt g' (fun _ _ e=>e) (F₁₁.pick ["rows", "pieces"] rfl) (fun Γ kΓ=>⟨rfl,.inr (w58 ([]) ([]) ([joinL [] ws]) Dn _ rfl .nil (.cons _ _ .nil) (by simp) (by simp) (by simp) ?_ (by simp) (by simp))⟩)
    intro x hx
    rw [List.mem_singleton.mp hx]; exact hgl
   ·have hdl:vsd.length=done.length:=hdone.1
    refine tL (vs:=vsd++[.ref Dl]) (F.ow (Dr,vsd++[.ref Dl]) (by simp)).2.2.isList (by simp; exact q2 0x30d3e30050802908d63100211023a 1 11 (by kernel_rfl) hd3 hdl) fun _=>?_
    rw [decide_eq_true (by simp)]
    walk_at "ms"
    refine iMod (by decide) fun _ _=>?_
    walk_at "ms"
    have hlr:(vsd++[Value.ref Dl]).length=done.length+1:=by simp [hdl]
    by_cases h6:c.fmod 6=0
    case' pos =>
     refine if_bt (decide_eq_true h6) ?_
     walk_at "ms"
     refine lenL (vs:=vsd++[.ref Dl]) (F.ow (Dr,vsd++[.ref Dl]) (by simp)).2.2.isList (by exact q2 0x61a80600a11002802911563100211023a 1 11 (by kernel_rfl) hd3 hlr) fun _ _=>?_
     rw [hlr]
     walk_at "ms"
     by_cases h3:done.length+1<3
     case pos =>
      refine if_bt (decide_eq_true (by exact q1 0x31880100aa63100211123a 1 3 (by kernel_rfl) h3)) ?_
      walk_at "ms"
      refine gmApp (vs:=vsd++[.ref Dl]) (F.ow (Dr,vsd++[.ref Dl]) (by simp)).2.2 ?_
      walk_at "ms"
      refine joinS (vs:=wsv) (F.ow (Dw,wsv) (by simp)).2.2.isList hws (by simp) hjl fun tj kj=>?_
      walk_at "ms"
      refine ⟨szl (by simp),fun h₉ Dn hDn hk₉ hT₉=>?_⟩
      have F₉:=F.own1 (items:=[Value.str (S (joinL [] ws)) tj]) hk₉ hDn ⟨_,hT₉⟩
      walk_at "ms"
      refine appS (pre:=[(Dn,[Value.str (S (joinL [] ws)) tj]),(Dw,wsv)]) (post:=[(Dl,items)]) (items:=vsd++[.ref Dl]) F₉ (by exact q2 0x61a80400318c0148584a2a3005200222a 1 13 (by kernel_rfl) hlr h3) fun h₁₀ F₁₀ _=>?_
      walk_at "ms"
      have hlL:=(F₁₀.ow (Dl,items) (by simp)).2.2.isList
      have hnd:=F₁₀.nd
      have F₁₁:=F₁₀.sel4
      have z:=F₁₁.withL hlL (fun p hp e=>by
       simp only [List.map_cons,List.map_nil,List.cons_append,List.nil_append,List.nodup_cons,List.mem_cons,List.not_mem_nil,or_false,not_or] at hnd hp
       rcases hp with rfl | rfl
       ·exact hnd.2.2.1 e
       ·exact hnd.1.2.2 e)
      obtain ⟨G,kG,hGl,z⟩:=z
      refine TurnG.go hQt G kG (z.pick ["rows", "pieces"] rfl) (fun Γ kΓ=>⟨rfl,.inr (w58 (done++[last]) (vsd++[.ref Dl]) ([joinL [] ws]) Dn _ rfl ?_ (.cons _ _ .nil) (by simp) ?_ ?_ ?_ (by simp; exact q1 0x880063100211123a 1 3 (by kernel_rfl) h3) ?_)⟩)
      ·refine (hdone.mono fun _ _ x=>?_).append (.one (w22 Dl items rfl (kΓ.list hGl) hlast))
       refine u22 x fun a us e ha hu=>?_; clear x
       exact (w22 a us e (kΓ.list (isL_keeps (isL_keeps ha kg') kG)) hu)
      ·intro r hr
       rcases List.mem_append.mp hr with hr | hr
       ·exact hdn r hr
       ·rw [List.mem_singleton.mp hr]; exact hln
      ·intro r hr
       rcases List.mem_append.mp hr with hr | hr
       ·exact hdg r hr
       ·rw [List.mem_singleton.mp hr]; exact hlg
      ·intro x hx
       rw [List.mem_singleton.mp hx]; exact hgl
      ·simp only [List.map_append,List.map_cons,List.map_nil,List.sum_append,List.sum_cons,List.sum_nil,List.length_singleton]
       exact q3 0x118018a380290010f117841000211023a 1 3 (by kernel_rfl) hsum
     refine if_bf (decide_eq_false (by exact q1 0x31880100aa4631002111827a 1 3 (by kernel_rfl) h3)) ?_
    case' neg=>refine if_bf (decide_eq_false h6) ?_
    all_goals
     walk_at "ms"
     refine idxLastL (v:=.ref Dl) (vs:=vsd++[.ref Dl]) (F.ow (Dr,vsd++[.ref Dl]) (by simp)).2.2.isList (by simp) (by exact q2 0x61a80600a11002802911563100211023a 1 11 (by kernel_rfl) hd3 hlr) ?_
     walk_at "ms"
     refine gmApp (vs:=items) (F.ow (Dl,items) (by simp)).2.2 ?_
     walk_at "ms"
     refine joinS (vs:=wsv) (F.ow (Dw,wsv) (by simp)).2.2.isList hws (by simp) hjl fun tj kj=>?_
     walk_at "ms"
     have hil:items.length=last.length:=by rw [strsAre_len hlast,List.length_map]
     have hlL:last.length≤i:=by exact q3 0x20802841000211023a 1 3 (by kernel_rfl) hsum
     have hil':i<cs.length:=(List.getElem?_eq_some_iff.mp hvi).1
     refine appS (pre:=[(Dw,wsv),(Dr,vsd++[.ref Dl])]) (post:=[]) (items:=items) F (by exact q5 0xc3500c0070c01844aa0800e4335841005217029aa100014a 1 55 (by kernel_rfl) hcl hsum hil hil') fun h₁₀ F₁₀ _=>?_
     walk_at "ms"
     have F₁₁:=F₁₀.disown (own':=[(Dr,vsd++[.ref Dl]),(Dl,items++[Value.str (S (joinL [] ws)) tj])]) (by simp)
     refine TurnG.go hQt g' (fun _ _ e=>e) (F₁₁.pick ["rows", "pieces"] rfl) (fun Γ kΓ=>⟨rfl,.inr (w58 done vsd (last++[joinL [] ws]) Dl _ rfl ?_ ?_ (by simp) hdn hdg ?_ hd3 (by rw [List.length_append,List.length_singleton]; exact q3 0x8c00c51802900111041000211023a 1 3 (by kernel_rfl) hsum))⟩)
     ·refine hdone.mono fun _ _ x=>?_
      refine u22 x fun a us e ha hu=>?_; clear x
      exact (w22 a us e (kΓ.list (isL_keeps ha kg')) hu)
     ·rw [List.map_append]; exact strs_snoc hlast
     ·intro x hx
      rcases List.mem_append.mp hx with hx | hx
      ·exact hlg x hx
      ·rw [List.mem_singleton.mp hx]; exact hgl
 ·rintro l₁ own₁ g₁ h tk ⟨rfl,hrows⟩ kg F
  subst hl₀
  walk_at "ms"
  have hcp:0<cs.length:=List.length_pos_iff.mpr hcn
  rcases hrows with ⟨h0,_⟩ | ⟨done,vsd,last,Dl,items,rfl,hdone,hlast,hln,hdn,hdg,hlg,hd3,hsum⟩
  ·exact absurd h0 (Nat.ne_of_gt hcp)
  ·have hlL:=(F.ow (Dl,items) (by simp)).2.2.isList
   refine hQ (done++[last]) Dr _ h tk ⟨by simp,by simp; exact q1 0x1080063100211023a 1 3 (by kernel_rfl) hd3,?_,?_,?_⟩ (F.ow (Dr,vsd++[.ref Dl]) (by simp)).2.2.isList ((hdone.mono fun _ _ x=>x.keeps F.keep).append (.one (w22 Dl items rfl hlL hlast))) fun b o e=>F.keep b o (kg b o e)
   ·intro r hr
    rcases List.mem_append.mp hr with hr | hr
    ·exact hdn r hr
    ·rw [List.mem_singleton.mp hr]; exact hln
   ·intro r hr
    rcases List.mem_append.mp hr with hr | hr
    ·exact hdg r hr
    ·rw [List.mem_singleton.mp hr]; exact hlg
   ·simp only [List.map_append,List.map_cons,List.map_nil,List.sum_append,List.sum_cons,List.sum_nil]
    exact q3 0x50e0062802912041005217023aa100014a 1 7 (by kernel_rfl) hcl hsum
end
section
variable {prog:Program} {w:World} {mg:Str→Option Value} {A:Around} {E:Value→Shared→Prop} {s:Shared} {f:Addr}
theorem releases_spec (T:TK w mg s.heap) (ha:mg "_law_releases" = some (.ref f)) (R:Room A 5) {D:Addr} {vs:List Value}
  (hD:s.heap.IsList D vs.toArray) (hv:∀ (i:Nat) (v:Value),vs[i]?=some v→∃ a t,v=Value.int a t) (hz:vs.length≤63) :
  wpAny (model prog w) A (call (.ref f) [.ref D]) (fun v s'=>(∃ rows a us,RelsOf rows∧v=.ref a∧s'.heap.IsList a us.toArray∧Al (Ts s'.heap) rows us)∧Keeps s s') E s:=by
 refine enterCl F_releases T ha R.lim (binds:=[("script", .ref D)]) (fun _ _ _=>BindsTo.of_eq rfl) (fun n y hy=>?_) (l:=[]) (cm:=fun y=>if y=("script" : Str) then some (.ref D) else none) (fun L cd y v e=>by cases e) (fun L cd=>by rfl) fun L cd h₁ tk₁ hLn F cells=>?_
 ·rw [List.mem_singleton] at hy; subst hy
  exact .inr ⟨rfl,rfl⟩
 obtain ⟨hsc,hsg,hsL⟩:=cells "script" (L+1) rfl
 rw [if_pos rfl] at hsc
 clear cells
 have R':=R.deeper (env:=envOfC "_law_releases" F_releases.scope L f cd) (by decide:4+1≤5)
 generalize A.deeper (envOfC "_law_releases" F_releases.scope L f cd)=A' at R' ⊢
 obtain ⟨g₁,kg₁,hsc,F₁⟩:=F.withC hsc noOwn
 replace T:=T.keeps kg₁
 replace hD:=isL_keeps hD kg₁
 refine stepO ?_
 intro _ _ _ _
 walk_at "ms"
 refine ⟨szl (by repeat (first | exact ll_nil | refine ll_cons ?_)),?_⟩
 intro h₂ DP hDP hk hT
 have F₂:=F₁.keeps hk
 have q:∃ pv:List Value,StrsAre pv (Pcs21.map S)∧h₂.get? DP=some { cls:=.type "list", data:=.seq pv.toArray }:=(w11 _ (strsPcs _ _ _ _ _ _ _ _ _ _ _ _ _ _ _ _ _ _ _ _ _) hT)
 clear hT
 obtain ⟨pv,hpv,hT⟩:=q
 have hpl:=strsPcs_len hpv
 have z:=F₂.withL (isL_of hT) noOwn
 obtain ⟨g₂,kg₂,hPL,z⟩:=z
 clear hT F₂ F₁
 have F₂:=z
 clear z
 replace hsc:=isC_keeps hsc kg₂
 replace T:=T.keeps kg₂
 replace hD:=isL_keeps hD kg₂
 walk_at "ms"
 intro h₃ F₃ _
 walk_at "ms"
 refine compA (cl:=[("script", L+1)]) ?_
 walk_at "ms"
 refine nmCell F₃ hsc ?_
 walk_at "ms"
 refine lenL (isL_keeps hD F₃.keep) (Nat.le_trans hz (by decide)) fun _ _=>?_
 walk_at "ms"
 refine min2 R'.hh fun _ h₄ tk₄ hk₄=>?_
 have F₄:=F₃.keeps hk₄
 walk_at "ms"
 obtain ⟨n,hn10,hn⟩:=min10 vs.length
 rw [hn]
 refine call_range_1 ?_
 generalize hH:h₄.push _=h₅
 have hr:h₅.get? h₄.objs.size=some { cls:=.type "range", data:=.fields #[.int 0 tk₄,.int n _,.int 1 (tk₄+1)] }:=hH▸Heap.get?_push_size _ rfl
 have F₅:=F₄.keeps (h':=h₅) fun b o e=>hH▸Heap.get?_push_of_some _ e
 clear hH F₄ hk₄
 refine (w65 n _ (fun H i y=>∃ c t,y=Value.int c t∧0≤c∧c<1000000) _ _ _ (Src.range R'.hh hr (Nat.lt_of_le_of_lt hn10 (by decide))) (Nat.le_trans hn10 (by decide)) (fun G H i v _ h=>h) F₅ ?_ ?_)
 ·rintro i v gX h tk C D' E' hi ⟨tv,rfl⟩ kX hex FX
  have k':Kp g₂ gX:=fun b o e=>kX b o (F₅.keep b o e)
  have hcX:=isC_keeps hsc k'
  have hDX:=isL_keeps hD k'
  have TX:=T.keeps k'
  clear T
  walk_at "ms"
  refine nmCell FX hcX ?_
  walk_at "ms"
  intro h₆ I hI hk₆ hT₆
  have F₆:=FX.keeps hk₆
  walk_at "ms"
  refine slcL (isL_keeps hDX F₆.keep) hT₆ (.int _ _) .none (.int _ _) (by decide) (Nat.le_trans hz (by decide)) fun h₇ a₇ hn₇ hk₇ hT₇=>?_
  walk_at "ms"
  refine sumL (vs:=(slicePick vs.toArray (some (i:Int)) none (some 10)).toList) R'.hh (by rw [Array.toArray_toList]; exact isL_of hT₇) (fun j v hj=>by
   obtain ⟨q,hq⟩:=slicePick_mem hj
   exact hv q v hq) fun a ta h₈ tk₈ hk₈=>?_
  walk_at "ms"
  refine absI fun _ _=>?_
  walk_at "ms"
  refine iPow106 fun _ _=>?_
  refine iMod (by decide) fun _ _=>?_
  exact ⟨(w21 _ _ rfl (fmod_bounds (abs_nn a))),Keeps.mk' fun b o e=>hk₈ b o (hk₇ b o (hk₆ b o e))⟩
 intro D₁ h₆ tk₆ ys hD₁ hpl₁ hlen hR k₆ F₆
 have hlp:h₆.IsList D₁ ys.toArray:=hpl₁.isList
 have z:=F₆.withL hlp noOwn
 obtain ⟨g₃,kg₃,hL₃,z⟩:=z
 have hci:∀ (i:Nat) (v:Value),ys[i]?=some v→∃ c t,v=Value.int c t∧0≤c∧c<1000000:=fun i v h=>hR i v h
 have hyl:ys.length≤10:=by rw [hlen]; exact hn10
 have kk:Kp s.heap g₃:=fun b o e=>kg₃ b o (kg₂ b o (kg₁ b o e))
 have T₃:=T.keeps kg₃
 have hPL₃:=isL_keeps hPL kg₃
 clear F₆ F₅ F₃ F T hR hD hsc hPL kg₁ kg₂ kg₃
 walk_at "m"
 walk_at "m"
 refine wpAny_mono (Q:=fun fl s'=>fl=Flow.next∧∃ g₄ h tk Dc cs,s'={ s with heap:=h,toks:=tk }∧Kp g₃ g₄∧St g₄ L h [("cells", Value.ref Dc),("pieces", Value.ref DP)] []∧g₄.IsList Dc cs.toArray ∧
  (∀ (i:Nat) (v:Value),cs[i]?=some v→∃ c t,v=Value.int c t∧0≤c∧c<1000000)∧cs≠[]∧cs.length≤10) ?_ (fun fl s' hq=>?_) fun _ _ e=>e
 ·walk_at "ms"
  refine tL (isL_keeps hL₃ z.keep) (Nat.le_trans hyl (by decide)) fun _=>?_
  by_cases hy:ys=[]
  ·rw [decide_eq_false (by simpa using hy)]
   walk_at "ms"
   refine ⟨szl (by simp),fun h₇ D₂ hD₂ hk₇ hT₇=>?_⟩
   have z₂:=(z.keeps hk₇).withL (isL_of hT₇) noOwn
   obtain ⟨g₄,kg₄,hL₄,z₂⟩:=z₂
   walk_at "ms"
   intro h₈ F₈ _
   walk_at "ms"
   refine ⟨rfl,g₄,_,_,_,_,rfl,kg₄,F₈.pick ["cells", "pieces"] rfl,hL₄,?_,by simp,by simp⟩
   intro i v hi
   rcases i with _ | _ | _ | _ | i
   ·cases hi; exact (w22 _ _ rfl (by decide) (by decide))
   ·cases hi; exact (w22 _ _ rfl (by decide) (by decide))
   ·cases hi; exact (w22 _ _ rfl (by decide) (by decide))
   ·cases hi; exact (w22 _ _ rfl (by decide) (by decide))
   ·cases hi
  ·rw [decide_eq_true hy]
   walk_at "ms"
   exact ⟨rfl,g₃,_,_,_,_,rfl,fun _ _ e=>e,z.pick ["cells", "pieces"] rfl,hL₃,hci,hy,hyl⟩
 ·obtain ⟨rfl,g₄,h,tk,Dc,cs,rfl,kg₄,F₈,hL₄,hci₄,hc0,hc10⟩:=hq
  walk_at "m"
  refine rel_tail (s:=⟨h,s.gens,s.drawn,tk,s.os⟩) R'.hh (T₃.keeps kg₄) F₈ hL₄ hci₄ hc0 hc10 (isL_keeps hPL₃ kg₄) hpv fun rows a us h' tk' hrel hl hal hkp=>?_
  walk_at "ms"
  exact ⟨(w33 rows a us hrel rfl hl hal),Keeps.mk' fun b o e=>hkp b o (kg₄ b o (kk b o e))⟩
end
set_option tactic.hygienic true in
noncomputable def decD (n:Nat):List Nat:=if n<10 then [48+n] else decD (n/10)++[48+n % 10]
termination_by n
decreasing_by rename_i h; exact Nat.div_lt_self (Nat.lt_of_lt_of_le (by decide:0<10) (Nat.le_of_not_lt h)) (by decide)
theorem dec_lt {n:Nat} (h:¬ n<10):n/10<n:=Nat.div_lt_self (Nat.lt_of_lt_of_le (by decide:0<10) (Nat.le_of_not_lt h)) (by decide)
theorem decD_lt {n:Nat} (h:n<10):decD n=[48+n]:=by rw [decD,if_pos h]
theorem decD_ge {n:Nat} (h:¬ n<10):decD n=decD (n/10)++[48+n % 10]:=by rw [decD,if_neg h]
theorem isD_of {k:Nat} (h:k<10):isD (48+k)=true:=by
 have:∀ k:Fin 10,isD (48+k.1)=true:=by decide
 exact this ⟨k,h⟩
theorem decD_dig (n:Nat):∀ c∈decD n,isD c=true:=by
 induction n using Nat.strongRecOn with
 | _ n ih =>
  by_cases h:n<10
  ·rw [decD_lt h]
   intro c hc
   rw [List.mem_singleton.mp hc]
   exact isD_of h
  ·rw [decD_ge h]
   intro c hc
   rcases List.mem_append.mp hc with hc | hc
   ·exact ih (n/10) (dec_lt h) c hc
   ·rw [List.mem_singleton.mp hc]
    exact isD_of (Nat.mod_lt _ (by decide))
theorem decD_ne (n:Nat):decD n≠[]:=by
 by_cases h:n<10
 ·rw [decD_lt h]; simp
 ·rw [decD_ge h]; simp
theorem decD_val (n:Nat):valN (decD n)=(n:Int):=by
 induction n using Nat.strongRecOn with
 | _ n ih =>
  by_cases h:n<10
  ·rw [decD_lt h]
   unfold valN
   simp
  ·rw [decD_ge h,valN_snoc,ih (n/10) (dec_lt h),Nat.add_sub_cancel_left]
   exact congrArg Int.ofNat (Nat.div_add_mod n 10)
theorem decD_len:∀ (k n:Nat),0<k→n<10 ^ k→(decD n).length≤k
 | 0,_,h,_=>absurd h (Nat.lt_irrefl _)
 | 1,n,_,h=>by rw [decD_lt (by simpa using h)]; simp
 | k+2,n,_,h=>by
  by_cases hn:n<10
  ·rw [decD_lt hn]; simp
  ·rw [decD_ge hn,List.length_append,List.length_singleton]
   have:=decD_len (k+1) (n/10) (Nat.succ_pos _) (Nat.div_lt_of_lt_mul (by rw [Nat.pow_succ,Nat.mul_comm] at h; exact h))
   exact q2 0x218029440084423005200022a 1 3 (by kernel_rfl) this
theorem snocInd {P:List Nat→Prop} (h0:P []) (h1:∀ l c,P l→P (l++[c])):∀ l,P l:=fun l=>by
 have h:∀ l:List Nat,P l.reverse:=fun l=>by
  induction l with
  | nil=>exact h0
  | cons a r ih=>rw [List.reverse_cons]; exact h1 _ _ ih
 have:=h l.reverse
 rwa [List.reverse_reverse] at this
theorem valN_nn (l:List Nat):0≤valN l:=by
 induction l using snocInd with
 | h0=>exact Int.le_refl _
 | h1 l c ih=>rw [valN_snoc]; exact Int.add_nonneg (Int.mul_nonneg (by decide) ih) (Int.natCast_nonneg _)
theorem valN_lt:∀ (l:List Nat),(∀ c∈l,isD c=true)→(valN l).toNat<10 ^ l.length:=by
 intro l
 induction l using snocInd with
 | h0=>intro _; decide
 | h1 l c ih =>
  intro h
  have h1:=ih fun c hc=>h c (List.mem_append_left _ hc)
  have h2:=valN_nn l
  have hc:isD c=true:=h c (by simp)
  have h3:c≤57:=by
   exact (dig_facts hc).2.1
  rw [valN_snoc,List.length_append,List.length_singleton,Nat.pow_succ]
  obtain ⟨v,hv⟩:=Int.eq_ofNat_of_zero_le h2
  rw [hv] at h1 ⊢
  exact q3 0x2a0065c0400c20140883252863040243447eb9100016a 4 0x10a0001aa00010a0001aa10010a00010a00010a00010a1 (by kernel_rfl) h3 h1
theorem digitChar_toNat {k:Nat} (h:k<10):(Nat.digitChar k).toNat=48+k:=by
 have:∀ k:Fin 10,(Nat.digitChar k.1).toNat=48+k.1:=by decide
 exact this ⟨k,h⟩
theorem toDigits_dec:∀ (f n:Nat) (ds:List Char),n<f→(Nat.toDigitsCore 10 f n ds).map Char.toNat=decD n++ds.map Char.toNat
 | 0,_,_,h=>absurd h (Nat.not_lt_zero _)
 | f+1,n,ds,h=>by
  unfold Nat.toDigitsCore
  by_cases hn:n<10
  ·rw [if_pos (Nat.div_eq_of_lt hn),decD_lt hn]
   simp only [List.map_cons,List.cons_append,List.nil_append]
   rw [digitChar_toNat (Nat.mod_lt _ (by decide)),Nat.mod_eq_of_lt hn]
  ·rw [if_neg (Nat.ne_of_gt (Nat.div_pos (Nat.le_of_not_lt hn) (by decide))),decD_ge hn,toDigits_dec f (n/10) _ (Nat.lt_of_lt_of_le (dec_lt hn) (Nat.le_of_lt_succ h))]
   simp only [List.map_cons,List.append_assoc,List.cons_append,List.nil_append]
   rw [digitChar_toNat (Nat.mod_lt _ (by decide))]
theorem repr_dec (n:Nat):(Nat.repr n).toList.map Char.toNat=decD n:=by
 have h:(Nat.repr n).toList=Nat.toDigits 10 n:=by
  unfold Nat.repr
  simp
 rw [h]
 unfold Nat.toDigits
 rw [toDigits_dec _ _ _ (Nat.lt_succ_self _)]
 simp
theorem str_dec (n:Nat):Str.ofString (toString (n:Int))=S (decD n):=by
 rw [← repr_dec n,Str.ofString_eq_toList]
 rfl
noncomputable def itN:It→List Nat
 | .inl k=>decD k.toNat
 | .inr x=>x
noncomputable def nmN (ps:List Pr):Txts:=ps.map fun p=>itN p.2
noncomputable def GoodP (p:Pr):Prop:=match p.2 with
 | .inl k=>p.1=100∧0≤k
 | .inr x=>p.1=rankOf x∧x≠[]∧∀ c∈x,isT c=true
theorem tw_allp {p:Nat→Bool} {l:List Nat}:∀ c∈l.takeWhile p,p c=true:=fun c h=>tw_mem h
theorem rowG_nil:rowG []=[]:=rfl
theorem rowG_good:∀ (n:Nat) (l:List Nat),l.length≤n→∀ p∈rowG l,GoodP p
 | _,[],_,p,hp=>by rw [rowG_nil] at hp; cases hp
 | 0,c::r,h,_,_=>by simp at h
 | n+1,c::r,h,p,hp=>by
  simp only [List.length_cons,Nat.add_le_add_iff_right] at h
  by_cases hd:isD c=true
  ·rw [rowG_dig hd] at hp
   rcases List.mem_cons.mp hp with rfl | hp
   ·exact ⟨rfl,valN_nn _⟩
   ·exact rowG_good n _ (Nat.le_trans (dw_lt hd) h) p hp
  ·have hd':isD c=false:=by simpa using hd
   by_cases hs:c∈seps
   ·rw [rowG_sep hd' hs] at hp
    exact rowG_good n r h p hp
   ·rw [rowG_txt hd' hs] at hp
    have ht:=isT_of hd' hs
    rcases List.mem_cons.mp hp with rfl | hp
    ·refine ⟨rfl,?_,tw_allp⟩
     rw [List.takeWhile_cons,if_pos ht]; simp
    ·exact rowG_good n _ (Nat.le_trans (dw_lt ht) h) p hp
theorem tw_self {p:Nat→Bool} {l:List Nat} (h:∀ c∈l,p c=true):l.takeWhile p=l∧l.dropWhile p=[]:=by
 induction l with
 | nil=>exact ⟨rfl,rfl⟩
 | cons a r ih =>
  have ha:=h a (by simp)
  have:=ih fun c hc=>h c (by simp [hc])
  rw [List.takeWhile_cons,List.dropWhile_cons,if_pos ha,if_pos ha,this.1,this.2]
  exact ⟨rfl,rfl⟩
theorem rowG_item {p:Pr} (h:GoodP p):rowG (itN p.2)=[p]:=by
 obtain ⟨r,i⟩:=p
 cases i with
 | inl k =>
  obtain ⟨h1,h2⟩:r=100∧0≤k:=h
  subst h1
  show rowG (decD k.toNat)=_
  refine u20 (by
   cases hq:decD k.toNat with
   | nil=>exact absurd hq (decD_ne _)
   | cons c q=>exact (w20 c q rfl):∃ c q,decD k.toNat=c::q) fun c q e=>?_
  have hall:=decD_dig k.toNat
  have hv:=decD_val k.toNat
  rw [e] at hall hv ⊢
  have:=tw_self hall
  rw [rowG_dig (hall c (by simp)),this.1,this.2,hv,rowG_nil]
  congr 3
  exact Int.toNat_of_nonneg h2
 | inr x =>
  obtain ⟨h1,h2,h3⟩:r=rankOf x∧x≠[]∧∀ c∈x,isT c=true:=h
  subst h1
  show rowG x=_
  refine u20 (by cases x with | nil=>exact absurd rfl h2 | cons c q=>exact (w20 c q rfl):∃ c q,x=c::q) fun c q z0=>?_; subst z0
  have:=tw_self h3
  have hp:=isT_parts (h3 c (by simp))
  rw [rowG_txt hp.1 hp.2,this.1,this.2,rowG_nil]
theorem itN_inj {p q:Pr} (hp:GoodP p) (hq:GoodP q) (e:itN p.2=itN q.2):p=q:=by
 have h1:=rowG_item hp
 rw [e,rowG_item hq] at h1
 cases h1; rfl
set_option tactic.hygienic true in
theorem rankOf_ne (x:List Nat):rankOf x≠100:=by
 unfold rankOf
 split
 ·rename_i p hp
  have hm:=List.mem_of_find?_eq_some hp
  have:∀ p∈rankTab,p.1≠100:=by decide
  exact this p hm
 ·decide
theorem okp_good {p:Pr} (h:GoodP p):Okp p:=by
 obtain ⟨r,i⟩:=p
 cases i with
 | inl k=>exact ⟨fun _=>rfl,fun _=>h.1⟩
 | inr x=>exact ⟨fun e=>absurd (h.1.symm.trans e) (rankOf_ne x),fun e=>by cases e⟩
theorem rowG_cut {s:Nat} (hs:s∈seps):∀ (n:Nat) (a b:List Nat),a.length≤n→rowG (a++s::b)=rowG a++rowG b
 | _,[],b,_=>by
  have:isD s=false:=by
   have:∀ c∈seps,isD c=false:=by decide
   exact this s hs
  rw [List.nil_append,rowG_sep this hs,rowG_nil,List.nil_append]
 | 0,c::r,_,h=>by simp at h
 | n+1,c::r,b,h=>by
  simp only [List.length_cons,Nat.add_le_add_iff_right] at h
  have hsd:isD s=false:=by
   have:∀ c∈seps,isD c=false:=by decide
   exact this s hs
  have hst:isT s=false:=by
   have:∀ c∈seps,isT c=false:=by decide
   exact this s hs
  have tw:∀ (p:Nat→Bool),p s=false→∀ l:List Nat,(l++s::b).takeWhile p=l.takeWhile p∧(l++s::b).dropWhile p=l.dropWhile p++s::b:=by
   intro p hp l
   induction l with
   | nil=>simp [hp]
   | cons x l ih =>
    rw [List.cons_append,List.takeWhile_cons,List.dropWhile_cons,List.takeWhile_cons,List.dropWhile_cons]
    by_cases hx:p x=true
    ·rw [if_pos hx,if_pos hx,if_pos hx,if_pos hx,ih.1,ih.2]; exact ⟨rfl,rfl⟩
    ·rw [if_neg hx,if_neg hx,if_neg hx,if_neg hx]; exact ⟨rfl,rfl⟩
  by_cases hd:isD c=true
  ·have t:=tw isD hsd (c::r)
   rw [List.cons_append] at t ⊢
   rw [rowG_dig hd,rowG_dig hd,t.1,t.2,rowG_cut hs n _ b (Nat.le_trans (dw_lt hd) h)]
   rfl
  ·have hd':isD c=false:=by simpa using hd
   by_cases hcs:c∈seps
   ·rw [List.cons_append,rowG_sep hd' hcs,rowG_sep hd' hcs,rowG_cut hs n r b h]
   ·have ht:=isT_of hd' hcs
    have t:=tw isT hst (c::r)
    rw [List.cons_append] at t ⊢
    rw [rowG_txt hd' hcs,rowG_txt hd' hcs,t.1,t.2,rowG_cut hs n _ b (Nat.le_trans (dw_lt ht) h)]
    rfl
theorem rowG_join:∀ (ps:List Pr),(∀ p∈ps,GoodP p)→rowG (joinL [45] (nmN ps))=ps
 | [],_=>rfl
 | [p],h=>by
  show rowG (itN p.2)=[p]
  exact rowG_item (h p (by simp))
 | p::q::r,h=>by
  have ih:=rowG_join (q::r) fun x hx=>h x (by simp only [List.mem_cons] at hx ⊢; exact .inr hx)
  show rowG (itN p.2++[45]++joinL [45] (nmN (q::r)))=_
  rw [List.append_assoc,List.singleton_append,rowG_cut (by decide) _ _ _ (Nat.le_refl _),ih,rowG_item (h p (by simp))]
  rfl
noncomputable def cleanC (c:Nat):Prop:=c≠32∧c≠9∧c≠117∧c∉badL
theorem clean_strip {x:List Nat} (h:∀ c∈x,cleanC c):stripT x=x:=by
 have hb:∀ c∈x,bl c=false:=fun c hc=>by
  have:=h c hc
  unfold bl
  simp only [List.mem_cons,List.not_mem_nil,or_false,decide_eq_false_iff_not,not_or]
  exact ⟨this.1,this.2.1⟩
 unfold stripT
 have h1:x.dropWhile bl=x:=by
  cases x with
  | nil=>rfl
  | cons a r=>rw [List.dropWhile_cons,if_neg (by rw [hb a (by simp)]; decide)]
 rw [h1]
 unfold dropR
 have h2:x.reverse.dropWhile bl=x.reverse:=by
  cases e:x.reverse with
  | nil=>rfl
  | cons a r =>
   have:a∈x:=by rw [← List.mem_reverse,e]; simp
   rw [List.dropWhile_cons,if_neg (by rw [hb a this]; decide)]
 rw [h2,List.reverse_reverse]
theorem signs_clean:∀ (xs:Txts) (acc:List Nat),(∀ x∈xs,x≠[]∧∀ c∈x,cleanC c)→xs.foldl stepS (acc,true)=(acc++(xs.map fun x=>45::x).flatten,true)
 | [],acc,_=>by simp
 | x::r,acc,h=>by
  have hx:=h x (by simp)
  rw [List.foldl_cons]
  have e:stepS (acc,true) x=(acc++45::x,true):=by
   unfold stepS
   rw [if_neg hx.1,clean_strip hx.2]
   simp
  rw [e,signs_clean r _ fun y hy=>h y (by simp [hy])]
  simp
theorem joinL_flat5:∀ (x:List Nat) (r:Txts),joinL [45] (x::r)=x++(r.map fun x=>45::x).flatten
 | x,[]=>by simp [joinL_n,joinL_1,joinL_c]
 | x,y::r=>by
  have:=joinL_flat5 y r
  rw [joinL_c,this]
  simp
theorem signs_join5 (xs:Txts) (h:∀ x∈xs,x≠[]∧∀ c∈x,cleanC c):signsN xs=joinL [45] xs:=by
 unfold signsN
 cases xs with
 | nil=>rfl
 | cons x r =>
  have hx:=h x (by simp)
  rw [List.foldl_cons]
  have e:stepS ([],false) x=(x,true):=by
   unfold stepS
   rw [if_neg hx.1,clean_strip hx.2]
   simp
  rw [e,signs_clean r _ fun y hy=>h y (by simp [hy]),joinL_flat5]
theorem kept_clean:∀ (x rest:List Nat) (o:Bool),x≠[]→(∀ c∈x,cleanC c)→keptN 0 o (x++rest)=(if o then [45] else [])++x++keptN 0 false rest
 | [],_,_,h,_=>absurd rfl h
 | c::r,rest,o,_,h=>by
  have hc:=h c (by simp)
  have hu:unk.isPrefixOf (c::(r++rest))=false:=by
   unfold unk
   rw [List.isPrefixOf]
   have:((117:Nat) == c)=false:=by simpa using fun e:117=c=>hc.2.2.1 e.symm
   rw [this]; rfl
  rw [List.cons_append,keptN_c,hu,if_neg Bool.false_ne_true,if_neg hc.2.2.2,if_neg hc.1]
  cases r with
  | nil=>simp
  | cons d q =>
   rw [kept_clean (d::q) rest false (by simp) fun x hx=>h x (by simp only [List.mem_cons] at hx ⊢; exact .inr hx)]
   simp
theorem safe_clean:∀ (xs:Txts),(∀ x∈xs,x≠[]∧∀ c∈x,cleanC c)→safeN xs=joinL [45] xs:=by
 intro xs h
 unfold safeN
 rw [signs_join5 xs h]
 have key:∀ (xs:Txts),(∀ x∈xs,x≠[]∧∀ c∈x,cleanC c)→∀ o,xs≠[]→keptN 0 o (joinL [45] xs)=(if o then [45] else [])++joinL [45] xs:=by
  intro xs
  induction xs with
  | nil=>intro _ _ h; exact absurd rfl h
  | cons x r ih =>
   intro h o _
   have hx:=h x (by simp)
   cases r with
   | nil =>
    have:=kept_clean x [] o hx.1 hx.2
    rw [List.append_nil] at this
    simp only [joinL_n,joinL_1,joinL_c]
    rw [this]
    simp [keptN_n,keptN_k,keptN_c]
   | cons y q =>
    have ih':=ih (fun z hz=>h z (by simp only [List.mem_cons] at hz ⊢; exact .inr hz)) true (by simp)
    rw [joinL_c,List.append_assoc,kept_clean x _ o hx.1 hx.2]
    have hb:keptN 0 false ([45]++joinL [45] (y::q))=keptN 0 true (joinL [45] (y::q)):=by
     rw [List.singleton_append,keptN_c]
     have:unk.isPrefixOf (45::joinL [45] (y::q))=false:=rfl
     rw [this,if_neg Bool.false_ne_true,if_pos (by decide)]
    rw [hb,ih']
    simp
 cases xs with
 | nil=>rfl
 | cons x r=>have:=key (x::r) h false (by simp); simpa using this
noncomputable def alph:List Nat:=[49,46,48,114,99,97,45,100,101,118,112,108,95,43,32,98,50,53,82,67,104,47,40,116,233]
noncomputable def outA:List Nat:=[49,46,48,114,99,97,45,100,101,118,112,108,95,43,98,50,53,82,67,104,116,233]
inductive Tks:List Nat→Prop
 | nil:Tks []
 | c {c:Nat} {l:List Nat}:c∈alph→Tks l→Tks (c::l)
 | u {l:List Nat}:Tks l→Tks (unk++l)
theorem Tks.app {a b:List Nat} (h:Tks a) (k:Tks b):Tks (a++b):=by
 induction h with
 | nil=>exact k
 | c hc _ ih=>exact .c hc ih
 | u _ ih=>rw [List.append_assoc]; exact .u ih
theorem Tks.of_all:∀ {l:List Nat},(∀ c∈l,c∈alph)→Tks l
 | [],_=>.nil
 | a::r,h=>.c (h a (by simp)) (Tks.of_all fun x hx=>h x (by simp [hx]))
theorem Tks.piece {p:List Nat} (h:p∈Pcs21):Tks p:=by
 have:∀ p∈Pcs21,p=unk∨∀ c∈p,c∈alph:=by decide
 rcases this p h with rfl | h
 ·exact (Tks.u .nil:Tks (unk++[]))
 ·exact .of_all h
set_option tactic.hygienic true in
theorem Tks.glue {x:List Nat} (h:Glue x):Tks x:=by
 refine u12 h fun ws _ hw z0=>?_; clear h; subst z0
 induction ws with
 | nil=>exact .nil
 | cons w r ih=>exact (Tks.piece (hw w (by simp))).app (ih (by simp only [List.length_cons] at *; (rename_i z0; exact q1 0x4100083100211024a 1 3 (by kernel_rfl) z0)) fun p hp=>hw p (by simp [hp]))
theorem alph_u {c:Nat} (h:c∈alph):c≠117:=by rintro rfl; revert h; decide
theorem dropR_cons5 (p:Nat→Bool) (c:Nat) (l:List Nat):dropR p (c::l)=if dropR p l=[] then (if p c then [] else [c]) else c::dropR p l:=by
 unfold dropR
 rw [List.reverse_cons,List.dropWhile_append]
 by_cases h:l.reverse.dropWhile p=[]
 ·rw [h]
  simp only [List.isEmpty_nil,if_true,List.reverse_nil,List.dropWhile_cons,List.dropWhile_nil]
  split <;> simp
 ·have h':(l.reverse.dropWhile p).isEmpty=false:=by cases e:l.reverse.dropWhile p with | nil=>exact absurd e h | cons=>rfl
  rw [h',if_neg Bool.false_ne_true,if_neg (by simpa using h)]
  simp
set_option tactic.hygienic true in
theorem dropR_keep {p:Nat→Bool} {c:Nat} {l:List Nat} (h:p c=false):dropR p (c::l)=c::dropR p l:=by
 rw [dropR_cons5,h]
 split
 ·rename_i e; rw [e]; rfl
 ·rfl
theorem Tks.dropR {x:List Nat} (h:Tks x):Tks (Mine.dropR bl x):=by
 induction h with
 | nil=>exact .nil
 | c hc hl ih =>
  rw [dropR_cons5]
  split
  ·split
   ·exact .nil
   ·exact .c hc .nil
  ·exact .c hc ih
 | u hl ih =>
  unfold unk
  simp only [List.cons_append,List.nil_append]
  rw [dropR_keep (by decide),dropR_keep (by decide),dropR_keep (by decide),dropR_keep (by decide),dropR_keep (by decide),dropR_keep (by decide),dropR_keep (by decide)]
  exact .u ih
theorem Tks.dropL {x:List Nat} (h:Tks x):Tks (x.dropWhile bl):=by
 induction h with
 | nil=>exact .nil
 | c hc hl ih =>
  rw [List.dropWhile_cons]
  split
  ·exact ih
  ·exact .c hc hl
 | u hl ih=>exact .u hl
theorem Tks.strip {x:List Nat} (h:Tks x):Tks (stripT x):=h.dropL.dropR
theorem Tks.signs:∀ (xs:Txts) (st:List Nat × Bool),(∀ x∈xs,Tks x)→Tks st.1→Tks (xs.foldl stepS st).1
 | [],st,_,h=>h
 | x::r,st,hx,h=>by
  rw [List.foldl_cons]
  refine Tks.signs r _ (fun y hy=>hx y (by simp [hy])) ?_
  unfold stepS
  split
  ·exact h
  ·refine (h.app ?_).app (hx x (by simp)).strip
   split
   ·exact .c (by decide) .nil
   ·exact .nil
theorem unk_no {c:Nat} {l:List Nat} (h:c≠117):unk.isPrefixOf (c::l)=false:=by
 unfold unk
 rw [List.isPrefixOf]
 have:((117:Nat) == c)=false:=by simpa using fun e:117=c=>h e.symm
 rw [this]; rfl
theorem kept_unk (o:Bool) (l:List Nat):keptN 0 o (unk++l)=keptN 0 o l:=by
 have h:unk.isPrefixOf (unk++l)=true:=by rw [List.isPrefixOf_iff_prefix]; exact List.prefix_append _ _
 have e:unk++l=117::([110,107,110,111,119,110]++l):=rfl
 rw [e] at h ⊢
 rw [keptN_c,h,if_pos rfl,keptN_skip]
 rfl
theorem kept_c (o:Bool) {c:Nat} {l:List Nat} (h:c≠117):keptN 0 o (c::l)=if c∈badL then keptN 0 true l else (if o then [45] else [])++[if c=32 then 95 else c]++keptN 0 false l:=by
 rw [keptN_c,unk_no h,if_neg Bool.false_ne_true]
set_option tactic.hygienic true in
theorem kept_out {l:List Nat} (h:Tks l):∀ o,∀ c∈keptN 0 o l,c∈outA:=by
 induction h with
 | nil=>intro o c hc; simp [keptN_n,keptN_k,keptN_c] at hc
 | @c a l ha hl ih =>
  intro o x hx
  rw [kept_c o (alph_u ha)] at hx
  split at hx
  ·exact ih true x hx
  ·rename_i hb
   rcases List.mem_append.mp hx with hx | hx
   ·rcases List.mem_append.mp hx with hx | hx
    ·split at hx
     ·rw [List.mem_singleton.mp hx]; decide
     ·cases hx
    ·rw [List.mem_singleton.mp hx]
     have:∀ a∈alph,a∉badL→(if a=32 then 95 else a)∈outA:=by decide
     exact this a ha hb
   ·exact ih false x hx
 | u hl ih=>intro o x hx; rw [kept_unk] at hx; exact ih o x hx
theorem kept_len:∀ (n:Nat) (l:List Nat) (o:Bool),l.length≤n→(keptN 0 o l).length≤l.length+(if o then 1 else 0)
 | _,[],o,_=>by simp [keptN_n,keptN_k,keptN_c]
 | 0,c::r,_,h=>by simp at h
 | n+1,c::r,o,h=>by
  simp only [List.length_cons,Nat.add_le_add_iff_right] at h
  rw [keptN_c]
  split
  ·rw [keptN_skip]
   have:=kept_len n (r.drop 6) o (by rw [List.length_drop]; exact q2 0x10c2006261000011a 1 19 (by kernel_rfl) h)
   rw [List.length_drop] at this
   simp only [List.length_cons]
   exact q3 0x208c01485880020c3005318200036a 1 45 (by kernel_rfl) this
  ·split
   ·have:=kept_len n r true h
    simp only [List.length_cons,if_true] at this ⊢
    exact q3 0x208c01485880023005200022a 1 3 (by kernel_rfl) this
   ·have:=kept_len n r false h
    simp only [List.length_append,List.length_cons,List.length_nil] at this ⊢
    cases o <;> simp at this ⊢ <;> (first | exact q2 0x8c014a20a4221000011a 1 3 (by kernel_rfl) this | exact q2 0x23180290b1420c4241000011a 1 3 (by kernel_rfl) this)
noncomputable def kind (c:Nat):Nat:=if isD c then 1 else if c∈seps∨c=32∨c∈badL then 0 else 2
noncomputable def cntF:Nat→List Nat→Nat
 | _,[]=>0
 | p,c::r=>(if kind c=0∨kind c=p then 0 else 1)+cntF (kind c) r
theorem cntF_n {p:Nat}:cntF p []=0:=rfl
theorem cntF_c {p c:Nat} {r:List Nat}:cntF p (c::r)=(if kind c=0∨kind c=p then 0 else 1)+cntF (kind c) r:=rfl
theorem cnt_le (p q:Nat):∀ l,cntF p l≤1+cntF q l
 | []=>by simp [cntF_n,cntF_c]
 | c::r=>by rw [cntF_c,cntF_c]; split <;> split <;> (first | exact q1 0x404a20a50120d0 1 1 (by kernel_rfl) | exact q1 0x4414a20a50120d0 1 1 (by kernel_rfl) | exact q1 0x404a20a51052110 1 1 (by kernel_rfl) | exact q1 0x4414a20a51052110 1 1 (by kernel_rfl))
theorem cnt_zero (q:Nat):∀ l,cntF q l≤cntF 0 l
 | []=>Nat.le_refl _
 | c::r=>by
  rw [cntF_c,cntF_c]
  by_cases h:kind c=0
  ·rw [if_pos (.inl h),if_pos (.inl h)]; exact Nat.le_refl _
  ·rw [if_neg (by simp [h]:¬ (kind c=0∨kind c=0))]
   split <;> (first | exact q1 0x220a50120d0 1 1 (by kernel_rfl) | exact q1 0x220a51052110 1 1 (by kernel_rfl))
theorem cnt_app:∀ (p:Nat) (a b:List Nat),cntF p (a++b)≤cntF p a+cntF 0 b
 | p,[],b=>by simpa [cntF_n,cntF_c] using cnt_zero p b
 | p,c::r,b=>by
  have:=cnt_app (kind c) r b
  rw [List.cons_append,cntF_c,cntF_c]
  exact q4 0x208600c42e5803109041005200023a 1 3 (by kernel_rfl) this
theorem cnt_pre:∀ (p:Nat) (a b:List Nat),cntF p a≤cntF p (a++b)
 | p,[],b=>Nat.zero_le _
 | p,c::r,b=>by
  have:=cnt_pre (kind c) r b
  rw [List.cons_append,cntF_c,cntF_c]
  exact q3 0x210031400c4241000011a 1 3 (by kernel_rfl) this
theorem cnt_suf:∀ (a b:List Nat),cntF 0 b≤cntF 0 (a++b)
 | [],b=>Nat.le_refl _
 | c::r,b=>by
  have h1:=cnt_suf r b
  rw [List.cons_append,cntF_c]
  by_cases h:kind c=0
  ·rw [h,if_pos (.inl rfl)]; exact q2 0x42024001000011a 1 3 (by kernel_rfl) h1
  ·rw [if_neg (by simp [h])]
   have:=cnt_le 0 (kind c) (r++b)
   exact q3 0x8220a400104414a00a0515000011a 1 7 (by kernel_rfl) h1 this
theorem cnt_glue {x:List Nat} (h:Glue x):cntF 0 x≤4:=by
 refine u12 h fun ws hl hw z0=>?_; clear h; subst z0
 have:∀ (ws:Txts),(∀ p∈ws,p∈Pcs21)→cntF 0 ws.flatten≤ws.length:=by
  intro ws
  induction ws with
  | nil=>intro _; exact Nat.le_refl _
  | cons w r ih =>
   intro h
   have h1:=ih fun p hp=>h p (by simp [hp])
   have h2:∀ p∈Pcs21,cntF 0 p≤1:=by decide
   have h3:=h2 w (h w (by simp))
   have h4:=cnt_app 0 w r.flatten
   rw [List.flatten_cons,List.length_cons]
   exact q4 0x8c014b00608018b006024a8c00c02f5000011a 1 15 (by kernel_rfl) h1 h3 h4
 exact Nat.le_trans (this ws hw) hl
theorem cnt_strip (x:List Nat):cntF 0 (stripT x)≤cntF 0 x:=by
 unfold stripT
 have h1:cntF 0 (x.dropWhile bl)≤cntF 0 x:=by
  have:=cnt_suf (x.takeWhile bl) (x.dropWhile bl)
  rwa [List.takeWhile_append_dropWhile] at this
 have h2:cntF 0 (dropR bl (x.dropWhile bl))≤cntF 0 (x.dropWhile bl):=by
  unfold dropR
  have e:=List.takeWhile_append_dropWhile (p:=bl) (l:=(x.dropWhile bl).reverse)
  have e':=congrArg List.reverse e
  rw [List.reverse_append,List.reverse_reverse] at e'
  have:=cnt_pre 0 ((x.dropWhile bl).reverse.dropWhile bl).reverse ((x.dropWhile bl).reverse.takeWhile bl).reverse
  rwa [e'] at this
 exact Nat.le_trans h2 h1
theorem cnt_signs:∀ (xs:Txts) (st:List Nat × Bool),(∀ x∈xs,Glue x)→cntF 0 (xs.foldl stepS st).1≤cntF 0 st.1+4*xs.length
 | [],st,_=>by simp
 | x::r,st,h=>by
  rw [List.foldl_cons]
  have ih:=cnt_signs r (stepS st x) fun y hy=>h y (by simp [hy])
  have hg:=cnt_glue (h x (by simp))
  have hs:cntF 0 (stepS st x).1≤cntF 0 st.1+4:=by
   unfold stepS
   split
   ·exact q1 1090527232 1 1 (by kernel_rfl)
   ·have h1:=cnt_app 0 (st.1++if st.2=true then [45] else []) (stripT x)
    have h2:=cnt_app 0 st.1 (if st.2=true then [45] else [])
    have h3:cntF 0 (if st.2=true then [45] else [])=0:=by split <;> decide
    have h4:=cnt_strip x
    simp only at h1 ⊢
    exact q6 0x106003940143006012ad007214aa1001ca00602cac20062802814d4100013a 1 111 (by kernel_rfl) hg h1 h2 h3 h4
  rw [List.length_cons]
  exact q4 0x8c00c500d3006200083803140140aaa08069005200032a 1 7 (by kernel_rfl) ih hs
set_option tactic.hygienic true in
theorem cnt_kept {l:List Nat} (h:Tks l):∀ (o:Bool) (q:Nat),cntF q (keptN 0 o l)≤cntF (if o then 0 else q) l:=by
 induction h with
 | nil=>intro o q; simp [keptN_n,keptN_k,keptN_c,cntF_n,cntF_c]
 | @c a l ha hl ih =>
  intro o q
  rw [kept_c o (alph_u ha)]
  by_cases hb:a∈badL
  ·rw [if_pos hb]
   have hk:kind a=0:=by
    have:∀ a∈badL,kind a=0:=by decide
    exact this a hb
   have:=ih true q
   rw [if_pos rfl] at this
   rw [cntF_c,hk,if_pos (.inl rfl)]
   exact q2 0x42024001000011a 1 3 (by kernel_rfl) this
  ·rw [if_neg hb]
   have hk:kind (if a=32 then 95 else a)=kind a:=by
    split
    ·rename_i e; subst e; decide
    ·rfl
   have h1:=ih false (kind a)
   rw [if_neg Bool.false_ne_true] at h1
   cases o with
   | false =>
    simp only [List.nil_append,List.singleton_append,Bool.false_eq_true,if_false]
    rw [cntF_c,cntF_c,hk]
    exact q3 0x210031400c4241000011a 1 3 (by kernel_rfl) h1
   | true =>
    simp only [if_true,List.cons_append,List.nil_append]
    rw [cntF_c,cntF_c,cntF_c,hk]
    have:kind 45=0:=by decide
    rw [this,if_pos (.inl rfl)]
    exact q3 0x4200628018a0243e1000011a 1 3 (by kernel_rfl) h1
 | @u l hl ih =>
  intro o q
  rw [kept_unk]
  refine Nat.le_trans (ih o q) ?_
  have e:cntF (if o then 0 else q) (unk++l)=(if (2:Nat)=(if o then 0 else q) then 0 else 1)+cntF 2 l:=by
   unfold unk
   simp only [List.cons_append,List.nil_append,cntF_n,cntF_c]
   have k1:kind 117=2:=by decide
   have k2:kind 110=2:=by decide
   have k3:kind 107=2:=by decide
   have k4:kind 111=2:=by decide
   have k5:kind 119=2:=by decide
   simp only [k1,k2,k3,k4,k5]
   simp
  rw [e]
  generalize (if o=true then 0 else q)=p
  split
  ·rename_i e2; rw [← e2]; exact q1 16850944 1 1 (by kernel_rfl)
  ·exact cnt_le _ _ _
theorem cnt_run {k:Nat} (hk:k≠0):∀ (a b:List Nat),(∀ c∈a,kind c=k)→cntF k (a++b)=cntF k b
 | [],b,_=>rfl
 | c::r,b,h=>by
  have hc:=h c (by simp)
  rw [List.cons_append,cntF_c,hc,if_pos (.inr rfl),cnt_run hk r b fun x hx=>h x (by simp [hx])]
  exact q1 16851154 1 3 (by kernel_rfl)
theorem kind_D {c:Nat} (h:isD c=true):kind c=1:=by unfold kind; rw [if_pos h]
theorem kind_out {c:Nat} (h:c∈outA):kind c=if isD c then 1 else if isT c then 2 else 0:=by
 have:∀ c∈outA,kind c=if isD c then 1 else if isT c then 2 else 0:=by decide
 exact this c h
set_option tactic.hygienic true in
theorem row_cnt:∀ (n:Nat) (l:List Nat),l.length≤n→(∀ c∈l,c∈outA)→(rowG l).length≤cntF 0 l
 | _,[],_,_=>Nat.le_refl _
 | 0,c::r,h,_=>by simp at h
 | n+1,c::r,h,ho=>by
  simp only [List.length_cons,Nat.add_le_add_iff_right] at h
  have sub:∀ (p:Nat→Bool),∀ x∈(c::r).dropWhile p,x∈outA:=fun p x hx=>ho x ((List.dropWhile_sublist p).mem hx)
  have ext:∀ (p:Nat→Bool) (k:Nat),k≠0→kind c=k→p c=true→(∀ x∈(c::r).takeWhile p,kind x=k)→(∀ x q,(c::r).dropWhile p=x::q→kind x≠k)→1+cntF 0 ((c::r).dropWhile p)≤cntF 0 (c::r):=by
   intro p k hk hc hpc hrun hd
   have e:=List.takeWhile_append_dropWhile (p:=p) (l:=c::r)
   have e1:cntF 0 (c::r)=1+cntF k r:=by rw [cntF_c,hc,if_neg (by simp [hk])]
   have e2:cntF k (c::r)=cntF k r:=by rw [cntF_c,hc,if_pos (.inr rfl)]; exact q1 16851154 1 3 (by kernel_rfl)
   have e3:cntF k (c::r)=cntF k ((c::r).dropWhile p):=by
    have:=cnt_run hk ((c::r).takeWhile p) ((c::r).dropWhile p) hrun
    rwa [e] at this
   have e4:cntF 0 ((c::r).dropWhile p)=cntF k ((c::r).dropWhile p):=by
    cases q:(c::r).dropWhile p with
    | nil=>rfl
    | cons x y =>
     have hx:=hd x y q
     rw [cntF_c,cntF_c]
     by_cases hx0:kind x=0
     ·rw [if_pos (.inl hx0),if_pos (.inl hx0)]
     ·rw [if_neg (by simp [hx0]),if_neg (by simp [hx0,hx])]
   exact q5 0x20441486030800e43358400c43150801885ea1105200222a 1 358 (by kernel_rfl) e1 e2 e3 e4
  by_cases hd:isD c=true
  ·rw [rowG_dig hd,List.length_cons]
   have ih:=row_cnt n _ (Nat.le_trans (dw_lt hd) h) (sub isD)
   have:=ext isD 1 (by decide) (kind_D hd) hd (fun x hx=>kind_D (tw_mem hx)) (fun x q e=>by
    have h1:=dropWhile_head e
    have h2:=kind_out (sub isD x (by rw [e]; simp))
    rw [h1] at h2
    rw [h2]
    split
    ·rename_i h; cases h
    ·split <;> decide)
   exact q3 0x82200422104220a42c0515000011a 1 7 (by kernel_rfl) ih this
  ·have hd':isD c=false:=by simpa using hd
   by_cases hs:c∈seps
   ·rw [rowG_sep hd' hs]
    have ih:=row_cnt n r h fun x hx=>ho x (by simp [hx])
    have:=cnt_suf [c] r
    rw [List.singleton_append] at this
    exact q3 0x200008200a02f5000011a 1 7 (by kernel_rfl) ih this
   ·have ht:=isT_of hd' hs
    rw [rowG_txt hd' hs,List.length_cons]
    have ih:=row_cnt n _ (Nat.le_trans (dw_lt ht) h) (sub isT)
    have kT:∀ x,x∈outA→isT x=true→kind x=2:=fun x hx hxt=>by
     rw [kind_out hx,hxt]
     have:=(isT_parts hxt).1
     rw [this]; rfl
    have:=ext isT 2 (by decide) (kT c (ho c (by simp)) ht) ht (fun x hx=>kT x (ho x ((List.takeWhile_sublist isT).mem hx)) (tw_mem hx)) (fun x q e=>by
     have h1:=dropWhile_head e
     have h2:=kind_out (sub isT x (by rw [e]; simp))
     rw [h1] at h2
     rw [h2]
     split
     ·decide
     ·split
      ·rename_i h; cases h
      ·decide)
    exact q3 0x82200422104220a42c0515000011a 1 7 (by kernel_rfl) ih this
theorem row_chars:∀ (n:Nat) (l:List Nat),l.length≤n→∀ p∈rowG l,∀ c∈itN p.2,isD c=true∨(c∈l∧isT c=true)
 | _,[],_,p,hp,_,_=>by rw [rowG_nil] at hp; cases hp
 | 0,c::r,h,_,_,_,_=>by simp at h
 | n+1,c::r,h,p,hp,x,hx=>by
  simp only [List.length_cons,Nat.add_le_add_iff_right] at h
  by_cases hd:isD c=true
  ·rw [rowG_dig hd] at hp
   rcases List.mem_cons.mp hp with rfl | hp
   ·exact .inl (decD_dig _ x hx)
   ·rcases row_chars n _ (Nat.le_trans (dw_lt hd) h) p hp x hx with h1 | h1
    ·exact .inl h1
    ·exact .inr ⟨(List.dropWhile_sublist isD).mem h1.1,h1.2⟩
  ·have hd':isD c=false:=by simpa using hd
   by_cases hs:c∈seps
   ·rw [rowG_sep hd' hs] at hp
    rcases row_chars n r h p hp x hx with h1 | h1
    ·exact .inl h1
    ·exact .inr ⟨by simp [h1.1],h1.2⟩
   ·rw [rowG_txt hd' hs] at hp
    have ht:=isT_of hd' hs
    rcases List.mem_cons.mp hp with rfl | hp
    ·exact .inr ⟨(List.takeWhile_sublist isT).mem hx,tw_mem hx⟩
    ·rcases row_chars n _ (Nat.le_trans (dw_lt ht) h) p hp x hx with h1 | h1
     ·exact .inl h1
     ·exact .inr ⟨(List.dropWhile_sublist isT).mem h1.1,h1.2⟩
theorem row_sum:∀ (n:Nat) (l:List Nat),l.length≤n→((nmN (rowG l)).map (·.length)).sum≤l.length
 | _,[],_=>Nat.le_refl _
 | 0,c::r,h=>by simp at h
 | n+1,c::r,h=>by
  simp only [List.length_cons,Nat.add_le_add_iff_right] at h
  have split:∀ p:Nat→Bool,((c::r).takeWhile p).length+((c::r).dropWhile p).length=(c::r).length:=fun p=>by
   rw [← List.length_append,List.takeWhile_append_dropWhile]
  by_cases hd:isD c=true
  ·have ih:=row_sum n _ (Nat.le_trans (dw_lt hd) h)
   have e:=split isD
   have hl:(decD (valN ((c::r).takeWhile isD)).toNat).length≤((c::r).takeWhile isD).length :=
    decD_len _ _ (by rw [List.takeWhile_cons,if_pos hd]; simp) (valN_lt _ fun x hx=>tw_mem hx)
   rw [rowG_dig hd]
   show (List.map (·.length) (decD (valN ((c::r).takeWhile isD)).toNat::nmN (rowG ((c::r).dropWhile isD)))).sum≤_
   rw [List.map_cons,List.sum_cons]
   exact q5 0xc2003909841001c066b08400c42e4535000011a 1 27 (by kernel_rfl) ih e hl
  ·have hd':isD c=false:=by simpa using hd
   by_cases hs:c∈seps
   ·have ih:=row_sum n r h
    rw [rowG_sep hd' hs,List.length_cons]
    exact q2 0x4600a4001000011a 1 3 (by kernel_rfl) ih
   ·have ht:=isT_of hd' hs
    have ih:=row_sum n _ (Nat.le_trans (dw_lt ht) h)
    have e:=split isT
    rw [rowG_txt hd' hs]
    show (List.map (·.length) ((c::r).takeWhile isT::nmN (rowG ((c::r).dropWhile isT)))).sum≤_
    rw [List.map_cons,List.sum_cons]
    exact q4 0x308018848308400c42e4535000011a 1 11 (by kernel_rfl) ih e
theorem glue_le {x:List Nat} (h:Glue x):x.length≤28:=by
 refine u12 h fun ws hl hw z0=>?_; clear h; subst z0
 have:∀ (ws:Txts),(∀ p∈ws,p∈Pcs21)→ws.flatten.length≤7*ws.length:=by
  intro ws
  induction ws with
  | nil=>intro _; simp
  | cons w r ih =>
   intro h
   have h1:=ih fun p hp=>h p (by simp [hp])
   have h2:=Pcs21_len w (h w (by simp))
   rw [List.flatten_cons,List.length_append,List.length_cons]
   exact q3 0x8c014b81a400c4241c6006019a8703400020a 1 7 (by kernel_rfl) h1 h2
 have:=this ws hw
 exact q2 0x1c18028703480281054100013a 3 79 (by kernel_rfl) hl this
theorem signs_len:∀ (xs:Txts) (st:List Nat × Bool),(∀ x∈xs,x.length≤28)→(xs.foldl stepS st).1.length≤st.1.length+29*xs.length
 | [],st,_=>by simp
 | x::r,st,h=>by
  rw [List.foldl_cons]
  have ih:=signs_len r (stepS st x) fun y hy=>h y (by simp [hy])
  have hx:=h x (by simp)
  have hs:(stepS st x).1.length≤st.1.length+29:=by
   unfold stepS
   split
   ·exact q1 7801413632 1 1 (by kernel_rfl)
   ·have:=stripT_le x
    simp only [List.length_append]
    split <;> simp <;> (first | exact q3 0x1d18018a11801885c8a0200a0235c100015a 1 7 (by kernel_rfl) hx this | exact q2 0xe8c014200a0235c100015a 1 7 (by kernel_rfl) hx this)
  rw [List.length_cons]
  exact q4 0x230031741530062000e8e00c500502ca83a0a9005200034a 1 7 (by kernel_rfl) ih hs
section
variable {ts:Txts} (ht:∀ x∈ts,Glue x) (hl:ts.length≤10)
include ht hl
theorem rel_len:(safeN ts).length≤290:=by
 have h1:=signs_len ts ([],false) fun x hx=>glue_le (ht x hx)
 have h2:=kept_len _ (signsN ts) false (Nat.le_refl _)
 unfold safeN
 unfold signsN at h2 ⊢
 simp at h1 h2
 exact q3 0x910c00c10801805eba0a9005022aa100014a 5 33853 (by kernel_rfl) hl h1 h2
omit hl in
theorem rel_tks:Tks (signsN ts):=Tks.signs ts ([],false) (fun x hx=>.glue (ht x hx)) .nil
omit hl in
theorem rel_out:∀ c∈safeN ts,c∈outA:=fun c hc=>kept_out (rel_tks ht) false c hc
theorem rel_cnt:(rowG (safeN ts)).length≤40:=by
 refine Nat.le_trans (row_cnt _ _ (Nat.le_refl _) (rel_out ht)) ?_
 have h1:=cnt_kept (rel_tks ht) false 0
 have h2:=cnt_signs ts ([],false) ht
 simp only [Bool.false_eq_true,if_false] at h1
 have h3:cntF 0 ([]:List Nat)=0:=rfl
 unfold safeN
 unfold signsN at h1 ⊢
 simp only [h3] at h2
 exact q3 0xa0600a100d2025003017541005017aa100014a 3 588 (by kernel_rfl) hl h1 h2
omit ht hl in
theorem good_row (l:List Nat):∀ p∈rowG l,GoodP p:=rowG_good _ l (Nat.le_refl _)
omit ht hl in
theorem item_ne {p:Pr} (h:GoodP p):itN p.2≠[]:=by
 obtain ⟨r,i⟩:=p
 cases i with
 | inl k=>exact decD_ne _
 | inr x=>exact h.2.1
omit hl in
theorem rel_sign:∀ x∈nmN (rowG (safeN ts)),x≠[]∧∀ c∈x,(cleanC c∧c≠47∧c≠46)∧((c<127∨c=233)∧c≠0):=by
 intro x hx
 refine u11 (List.mem_map.mp hx) fun p hp z0=>?_; subst z0
 refine ⟨item_ne (good_row _ p hp),fun c hc=>?_⟩
 rcases row_chars _ _ (Nat.le_refl _) p hp c hc with h | ⟨h1,h2⟩
 ·have:∀ c∈digs,(cleanC c∧c≠47∧c≠46)∧((c<127∨c=233)∧c≠0):=by unfold cleanC; decide
  exact this c (by simpa [isD] using h)
 ·have:∀ c∈outA,isT c=true→(cleanC c∧c≠47∧c≠46)∧((c<127∨c=233)∧c≠0):=by unfold cleanC; decide
  exact this c (rel_out ht c h1) h2
omit hl in
theorem rel_piece:∀ x∈nmN (rowG (safeN ts)),Piece x:=by
 intro x hx
 obtain ⟨h1,h2⟩:=rel_sign ht x hx
 refine ⟨h1,fun h=>(h2 47 h).1.2.1 rfl,?_,?_⟩
 ·rintro rfl; exact (h2 46 (by simp)).1.2.2 rfl
 ·rintro rfl; exact (h2 46 (by simp)).1.2.2 rfl
omit hl in
theorem rel_safe:safeN (nmN (rowG (safeN ts)))=joinL [45] (nmN (rowG (safeN ts))) :=
 safe_clean _ fun x hx=>⟨(rel_sign ht x hx).1,fun c hc=>((rel_sign ht x hx).2 c hc).1.1⟩
omit hl in
theorem rel_again:rowG (safeN (nmN (rowG (safeN ts))))=rowG (safeN ts):=by
 rw [rel_safe ht,rowG_join _ (good_row _)]
theorem rel_names_sum:((nmN (rowG (safeN ts))).map (·.length)).sum≤290:=Nat.le_trans (row_sum _ _ (Nat.le_refl _)) (rel_len ht hl)
theorem rel_names_len:(nmN (rowG (safeN ts))).length≤40:=by
 unfold nmN
 rw [List.length_map]; exact rel_cnt ht hl
omit ht hl in
theorem joinL_le1 (c:Nat):∀ ys:Txts,(joinL [c] ys).length≤(ys.map (·.length)).sum+ys.length
 | []=>by simp [joinL_n,joinL_1,joinL_c]
 | [x]=>by simp [joinL_n,joinL_1,joinL_c]
 | x::y::r=>by
  have:=joinL_le1 c (y::r)
  simp only [joinL_n,joinL_1,joinL_c,List.length_append,List.map_cons,List.sum_cons,List.length_cons,List.length_nil] at this ⊢
  exact q5 0x118e00c42e504014a003915146025001c8948c423803141005217200046a 1 3 (by kernel_rfl) this
theorem rel_join (c:Nat):(joinL [c] (nmN (rowG (safeN ts)))).length≤330:=by
 have h1:=joinL_le1 c (nmN (rowG (safeN ts)))
 have h2:=rel_names_sum ht hl
 have h3:=rel_names_len ht hl
 exact q3 0x294200140c00c039522180280f541005200023a 1 15 (by kernel_rfl) h1 h2 h3
end
theorem joinL_mem:∀ (ys:Txts) (c:Nat) (P:Nat→Prop),P c→(∀ y∈ys,∀ b∈y,P b)→∀ b∈joinL [c] ys,P b
 | [],_,_,_,_,b,hb=>by simp [joinL_n,joinL_1,joinL_c] at hb
 | [x],_,_,_,h,b,hb=>h x (by simp) b hb
 | x::y::r,c,P,hc,h,b,hb=>by
  rw [joinL_c] at hb
  rcases List.mem_append.mp hb with hb | hb
  ·rcases List.mem_append.mp hb with hb | hb
   ·exact h x (by simp) b hb
   ·rw [List.mem_singleton.mp hb]; exact hc
  ·exact joinL_mem (y::r) c P hc (fun z hz=>h z (by simp only [List.mem_cons] at hz ⊢; exact .inr hz)) b hb
theorem lcp_names:∀ (xs ys:List Pr),(∀ p∈xs,GoodP p)→(∀ p∈ys,GoodP p)→lcp (nmN xs) (nmN ys)=nmN (xs.take (shN xs ys))
 | [],ys,_,_=>by cases ys <;> rfl
 | x::xs,[],_,_=>rfl
 | x::xs,y::ys,hx,hy=>by
  have ih:=lcp_names xs ys (fun p hp=>hx p (by simp [hp])) fun p hp=>hy p (by simp [hp])
  show lcp (itN x.2::nmN xs) (itN y.2::nmN ys)=_
  rw [lcp_c,shN_c]
  by_cases e:x=y
  ·subst e
   rw [if_pos rfl,if_pos rfl,ih]
   rfl
  ·rw [if_neg e,if_neg fun q=>e (itN_inj (hx x (by simp)) (hy y (by simp)) q)]
   rfl
theorem nmN_len (xs:List Pr):(nmN xs).length=xs.length:=List.length_map ..
theorem lcp_sh {xs ys:List Pr} (hx:∀ p∈xs,GoodP p) (hy:∀ p∈ys,GoodP p):(lcp (nmN xs) (nmN ys)).length=shN xs ys:=by
 rw [lcp_names xs ys hx hy,nmN_len,List.length_take]
 have:=shN_le xs ys
 exact q3 0x80030894000100001162fa 1 50260 (by kernel_rfl) this
theorem prefix_lcp:∀ (p a b:Txts),p <+: a→p <+: b→p <+: lcp a b
 | [],_,_,_,_=>List.nil_prefix
 | x::p,[],_,h,_=>by simp at h
 | x::p,_::_,[],_,h=>by simp at h
 | x::p,a::as,b::bs,h,k=>by
  rw [List.cons_prefix_cons] at h k
  obtain ⟨rfl,h⟩:=h
  obtain ⟨rfl,k⟩:=k
  rw [lcp_c,if_pos rfl,List.cons_prefix_cons]
  exact ⟨rfl,prefix_lcp p as bs h k⟩
theorem fold_lcp:∀ (l:List Txts) (x:Txts),l.foldl lcp x <+: x∧(∀ z∈l,l.foldl lcp x <+: z)∧∀ p,p <+: x→(∀ z∈l,p <+: z)→p <+: l.foldl lcp x
 | [],x=>⟨List.prefix_refl _,(fun _ h=>nomatch h),fun p h _=>h⟩
 | y::l,x=>by
  refine u02 (fold_lcp l (lcp x y)) fun h1 h2 h3=>?_
  rw [List.foldl_cons]
  refine ⟨h1.trans (lcp_prefix x y),fun z hz=>?_,fun p hx hz=>h3 p (prefix_lcp p x y hx (hz y (by simp))) fun z hz'=>hz z (by simp [hz'])⟩
  rcases List.mem_cons.mp hz with rfl | hz
  ·exact h1.trans (by rw [lcp_comm]; exact lcp_prefix z x)
  ·exact h2 z hz
theorem com_fold:∀ (rows:List (List Pr)) (f:List Pr),(∀ p∈f,GoodP p)→(∀ r∈rows,∀ p∈r,GoodP p)→nmN (comN f rows)=(rows.map nmN).foldl lcp (nmN f)
 | [],f,_,_=>rfl
 | r::rows,f,hf,hr=>by
  show nmN (comN (f.take (shN f r)) rows)=(rows.map nmN).foldl lcp (lcp (nmN f) (nmN r))
  rw [lcp_names f r hf (hr r (by simp))]
  exact com_fold rows _ (fun p hp=>hf p (List.mem_of_mem_take hp)) fun q hq=>hr q (by simp [hq])
theorem prefix_anti {a b:Txts} (h:a <+: b) (k:b <+: a):a=b:=h.eq_of_length_le k.length_le
theorem com_names {p₀:List Pr} {rest:List (List Pr)} (hg:∀ r∈p₀::rest,∀ p∈r,GoodP p) {m M:Txts} (hm:m∈(p₀::rest).map nmN) (hM:M∈(p₀::rest).map nmN)
  (h1:∀ z∈(p₀::rest).map nmN,¬ z<m) (h2:∀ z∈(p₀::rest).map nmN,¬ M<z):lcp m M=nmN (comN p₀ (p₀::rest)):=by
 rw [com_fold _ _ (hg p₀ (by simp)) hg]
 refine u02 (fold_lcp ((p₀::rest).map nmN) (nmN p₀)) fun f1 f2 f3=>?_
 refine prefix_anti ?_ (prefix_lcp _ _ _ (f2 m hm) (f2 M hM))
 refine f3 _ ?_ fun z hz=>lcp_between m z M (h1 z hz) (h2 z hz)
 exact lcp_between m _ M (h1 _ (by simp)) (h2 _ (by simp))
theorem rel_steps {xs ys:List Pr} (hx:∀ p∈xs,GoodP p) (hy:∀ p∈ys,GoodP p) :
  relTxt (nmN xs) (nmN ys)=if List.replicate (xs.length-shN xs ys) [46,46]++nmN (ys.drop (shN xs ys))=[] then [46] else joinL [47] (List.replicate (xs.length-shN xs ys) [46,46]++nmN (ys.drop (shN xs ys))):=by
 unfold relTxt
 rw [lcp_sh hx hy,nmN_len]
 unfold nmN
 rw [List.map_drop]
noncomputable def fl (ps:List Pr):List It:=ps.flatMap fun p=>[.inl p.1,p.2]
theorem fl_cons (p:Pr) (r:List Pr):fl (p::r)=.inl p.1::p.2::fl r:=rfl
theorem fl_len:∀ ps:List Pr,(fl ps).length=2*ps.length
 | []=>rfl
 | p::r=>by rw [fl_cons]; simp only [List.length_cons,fl_len r]; exact q1 0x4400a0248c60240e21f2302 1 3 (by kernel_rfl)
theorem RV.al {ps:List Pr} {vs:List Value} (h:RV ps vs):Al isIt (fl ps) vs:=by
 induction h with
 | nil=>exact .nil
 | cons hu _ ih=>exact .cons ⟨_,rfl⟩ (.cons hu ih)
noncomputable def od:List Value→List Value
 | _::b::r=>b::od r
 | _=>[]
theorem RV.od {ps:List Pr} {vs:List Value} (h:RV ps vs):Al (fun (p:Pr) v=>isIt p.2 v) ps (Mine.od vs):=by
 induction h with
 | nil=>exact .nil
 | cons hu _ ih=>exact .cons hu ih
theorem od_pick:∀ (m:Nat) (vs:List Value),vs.length=2*m→((List.range m).map (fun (k:Nat)=>((1:Int)+2*(k:Int)).toNat)).filterMap (vs.toArray[·]?)=od vs
 | 0,vs,h=>by
  have:vs=[]:=List.length_eq_zero_iff.mp h
  subst this; rfl
 | m+1,[],h=>by simp at h
 | m+1,[a],h=>by have h:1=2*(m+1):=h; exact absurd h (by exact q1 0x8801404910528 1 2 (by kernel_rfl))
 | m+1,a::b::r,h=>by
  have ih:=od_pick m r (by simp at h; exact q2 0x10809000a3005280923100211222252a 1 46 (by kernel_rfl) h)
  rw [List.range_succ_eq_map,List.map_cons,List.filterMap_cons]
  have e0:(a::b::r).toArray[((1:Int)+2*((0:Nat):Int)).toNat]?=some b:=rfl
  rw [e0]
  show b::_=b::od r
  congr 1
  rw [← ih,List.map_map,List.filterMap_map,List.filterMap_map]
  refine congrArg (fun f=>List.filterMap f (List.range m)) (funext fun k=>?_)
  simp only [Function.comp,List.getElem?_toArray]
  have e1:((1:Int)+2*((Nat.succ k:Nat):Int)).toNat=((1:Int)+2*(k:Int)).toNat+1+1:=by exact q1 0x118c0491052923234288010404910529382 1 2921609 (by kernel_rfl)
  rw [e1,List.getElem?_cons_succ,List.getElem?_cons_succ]
set_option tactic.hygienic true in
theorem pick_odd {vs:List Value} {m:Nat} (h:vs.length=2*m):slicePick vs.toArray (some 1) none (some 2)=(od vs).toArray:=by
 have hb:sliceBounds (some 1) none (some 2) vs.toArray.size=(((min 1 vs.length:Nat):Int),(vs.length:Int),2):=by
  simp [sliceBounds]; rw [show ((1:Int))=((1:Nat):Int) from rfl,← Lean.Omega.Int.ofNat_min]; exact Int.max_eq_right (Int.natCast_nonneg _)
 unfold slicePick
 rw [hb]
 simp only [sliceRange]
 have hc:(if (2:Int)>0 then (if ((min 1 vs.length:Nat):Int)<(vs.length:Int) then ((vs.length:Int)-((min 1 vs.length:Nat):Int)+2-1)/2 else 0) else (if ((min 1 vs.length:Nat):Int)>(vs.length:Int) then (((min 1 vs.length:Nat):Int)-(vs.length:Int)-2-1)/(-2) else 0)).toNat=m:=by
  rw [if_pos (by decide)]
  split <;> (first | (rename_i z0; exact q2 0x219052882b00aa412d420240021fa 2 0x100100244244100100214214 (by kernel_rfl) h z0) | lia)
 rw [hc]
 rcases Nat.eq_zero_or_pos m with rfl | hm
 ·have:vs=[]:=List.length_eq_zero_iff.mp h
  subst this; rfl
 ·have h1:min 1 vs.length=1:=by exact q2 0x4620ac2250808895420240021fa 2 0x5004019040 (by kernel_rfl) h hm
  rw [h1]
  exact congrArg List.toArray (od_pick m vs h)
section
variable {prog:Program} {w:World} {A:Around} {E:Value→Shared→Prop} {s:Shared}
theorem neRV {D₁ D₂:Addr} {vs us:List Value} {ps:List Pr} {Q:Value→Shared→Prop} (hA:A.units<cLine) (h1:s.heap.IsList D₁ vs.toArray) (h2:s.heap.IsList D₂ us.toArray) (hv:RV ps vs) (hu:RV ps us) (h:Q (.bool false) s) :
  wpAny (model prog w) A (compareOp .NotEq (.ref D₁) (.ref D₂)) Q E s:=by
 have av:=hv.al
 have au:=hu.al
 refine PySem.EqBoolInt.of_rcne (k:=false) ?_ h
 have e:=PySem.SeqAt.RcNeAt.lists (A:=A) (s:=s) (e:=fun _=>true) h1 h2 (by simp [av.1,au.1]) hA fun j a b=>?_
 ·have:(!(List.range vs.toArray.size).all fun _=>true)=false:=by simp
  rw [this] at e
  exact e
 ·have a':j<vs.length:=by simpa using a
  have b':j<us.length:=by simpa using b
  refine u11 (av.get (List.getElem?_eq_getElem a')) fun i hi hiv=>?_
  have hiu:=au.2 j i us[j] hi (List.getElem?_eq_getElem b')
  have:=eqIt (A:=A.in1) (s:=s) hiv hiu
  rw [decide_eq_true rfl] at this
  simpa using this
theorem neLL {D₁ D₂:Addr} {vs us:List Value} {xs:Txts} {Q:Value→Shared→Prop} (hA:A.units<cLine) (h1:s.heap.IsList D₁ vs.toArray) (h2:s.heap.IsList D₂ us.toArray) (hv:StrsAre vs (xs.map S)) (hu:StrsAre us (xs.map S)) (h:Q (.bool false) s) :
  wpAny (model prog w) A (compareOp .NotEq (.ref D₁) (.ref D₂)) Q E s:=by
 have av:=Al.of_strs hv
 have au:=Al.of_strs hu
 refine PySem.EqBoolInt.of_rcne (k:=false) ?_ h
 have e:=PySem.SeqAt.RcNeAt.lists (A:=A) (s:=s) (e:=fun _=>true) h1 h2 (by simp [av.1,au.1]) hA fun j a b=>?_
 ·have:(!(List.range vs.toArray.size).all fun _=>true)=false:=by simp
  rw [this] at e
  exact e
 ·have a':j<vs.length:=by simpa using a
  have b':j<us.length:=by simpa using b
  refine u11 (av.get (List.getElem?_eq_getElem a')) fun x hx hxv=>?_
  have hxu:=au.2 j x us[j] hx (List.getElem?_eq_getElem b')
  have:=eqIt (A:=A.in1) (s:=s) (i:=.inr x) (j:=.inr x) hxv hxu
  rw [decide_eq_true rfl] at this
  simpa using this
theorem neBool {a b:Bool} {Q:Value→Shared→Prop} (h:Q (.bool (!(a == b))) s):wpAny (model prog w) A (compareOp .NotEq (.bool a) (.bool b)) Q E s :=
 PySem.EqBoolInt.of_rcne (PySem.SeqAt.RcNeAt.bool_bool a b) h
noncomputable def eF (xs ys:List Pr) (j:Nat):Bool:=decide ((fl xs)[j]?=(fl ys)[j]?)
noncomputable def cF (xs ys:List Pr) (j:Nat):Bool:=match (fl xs)[j]?,(fl ys)[j]? with
 | some a,some b=>itLt a b
 | _,_=>false
theorem cmpRes_sh (e c:Nat→Bool) (fin:Bool) (d:Nat):∀ (k i:Nat),cmpRes e c fin k (i+d)=cmpRes (fun j=>e (j+d)) (fun j=>c (j+d)) fin k i
 | 0,_=>rfl
 | k+1,i=>by
  rw [cmpRes_c,cmpRes_c]
  have:=cmpRes_sh e c fin d k (i+1)
  rw [show i+1+d=i+d+1 from by exact q2 0x8c000844a11002112222 1 3 (by kernel_rfl)] at this
  rw [this]
theorem cmp_less:∀ (xs ys:List Pr),cmpRes (eF xs ys) (cF xs ys) (decide (2*xs.length<2*ys.length)) (min (2*xs.length) (2*ys.length)) 0=lessN xs ys
 | [],[]=>rfl
 | [],y::t=>by
  simp only [List.length_nil,Nat.mul_zero,Nat.zero_min,cmpRes_n,cmpRes_c,lessN_n,lessN_z,lessN_c,List.length_cons]
  simp
 | x::r,[]=>by
  simp only [List.length_nil,Nat.mul_zero,Nat.min_zero,cmpRes_n,cmpRes_c,lessN_n,lessN_z,lessN_c,List.length_cons]
  simp
 | x::r,y::t=>by
  have ih:=cmp_less r t
  have hm:min (2*(x::r).length) (2*(y::t).length)=min (2*r.length) (2*t.length)+1+1:=by simp only [List.length_cons]; exact q2 0x231840490120731691f14600a50124400a0241f64f2 1 3576681 (by kernel_rfl)
  have hd:decide (2*(x::r).length<2*(y::t).length)=decide (2*r.length<2*t.length):=by
   rw [Bool.eq_iff_iff,decide_eq_true_eq,decide_eq_true_eq]; simp only [List.length_cons]; exact ⟨fun h=>by exact q2 0x84049012070c600a50124400a0241f14fa 1 3 (by kernel_rfl) h,fun h=>by exact q2 0x8c014a024880140483e3080920240e12da 1 3 (by kernel_rfl) h⟩
  have e0:eF (x::r) (y::t) 0=decide (x.1=y.1):=by
   unfold eF; rw [fl_cons,fl_cons,Bool.eq_iff_iff,decide_eq_true_eq,decide_eq_true_eq]; simp
  have e1:eF (x::r) (y::t) 1=decide (x.2=y.2):=by
   unfold eF; rw [fl_cons,fl_cons,Bool.eq_iff_iff,decide_eq_true_eq,decide_eq_true_eq]; simp
  have c0:cF (x::r) (y::t) 0=decide (x.1<y.1):=rfl
  have c1:cF (x::r) (y::t) 1=itLt x.2 y.2:=rfl
  have e2:(fun j=>eF (x::r) (y::t) (j+2))=eF r t:=rfl
  have c2:(fun j=>cF (x::r) (y::t) (j+2))=cF r t:=rfl
  rw [hm,hd,cmpRes_c,e0,c0,lessN_c]
  by_cases h0:x.1=y.1
  ·rw [decide_eq_true h0,if_pos rfl,if_pos h0,cmpRes_c,e1,c1]
   by_cases h1:x.2=y.2
   ·rw [decide_eq_true h1,if_pos rfl,if_pos h1,← ih,← e2,← c2]
    exact cmpRes_sh _ _ _ 2 _ 0
   ·rw [decide_eq_false h1,if_neg Bool.false_ne_true,if_neg h1]
  ·rw [decide_eq_false h0,if_neg Bool.false_ne_true,if_neg h0]
theorem ltIt {i j:It} {v u:Value} (hv:isIt i v) (hu:isIt j u) (hs:i.isLeft=j.isLeft):CmpAt .Lt A s v u (itLt i j):=by
 cases i <;> cases j <;> obtain ⟨t,rfl⟩:=hv <;> obtain ⟨t',rfl⟩:=hu
 ·intro prog w E Q h
  exact P.lt_int h
 ·cases hs
 ·cases hs
 ·exact cmpAt_ltStr
theorem fl_side:∀ (xs ys:List Pr) (j:Nat) (a b:It),(∀ p∈xs,Okp p)→(∀ p∈ys,Okp p)→(fl xs)[j]?=some a→(fl ys)[j]?=some b→(∀ q<j,eF xs ys q=true)→a.isLeft=b.isLeft
 | [],_,j,_,_,_,_,h,_,_=>by cases h
 | _::_,[],_,_,_,_,_,_,h,_=>by cases h
 | x::r,y::t,0,a,b,_,_,h1,h2,_=>by
  rw [fl_cons] at h1 h2
  cases h1; cases h2; rfl
 | x::r,y::t,1,a,b,hx,hy,h1,h2,hq=>by
  rw [fl_cons] at h1 h2
  have h0:=hq 0 (by exact q0 143377 1 1 (by kernel_rfl))
  unfold eF at h0
  rw [fl_cons,fl_cons,decide_eq_true_eq] at h0
  have e:x.1=y.1:=by simpa using h0
  cases h1; cases h2
  have ox:=hx x (by simp)
  have oy:=hy y (by simp)
  unfold Okp at ox oy
  rw [e] at ox
  have:=ox.symm.trans oy
  rw [Bool.eq_iff_iff]
  exact this
 | x::r,y::t,j+2,a,b,hx,hy,h1,h2,hq =>
  fl_side r t j a b (fun p hp=>hx p (by simp [hp])) (fun p hp=>hy p (by simp [hp])) h1 h2 fun q hj=>hq (q+2) (by exact q2 0x21802942004243000111a 1 3 (by kernel_rfl) hj)
theorem ltRV {D₁ D₂:Addr} {vs us:List Value} {xs ys:List Pr} {Q:Value→Shared→Prop} (hA:A.units<cLine) (h1:s.heap.IsList D₁ vs.toArray) (h2:s.heap.IsList D₂ us.toArray) (hv:RV xs vs) (hu:RV ys us)
  (ox:∀ p∈xs,Okp p) (oy:∀ p∈ys,Okp p) (h:Q (.bool (lessN xs ys)) s):wpAny (model prog w) A (compareOp .Lt (.ref D₁) (.ref D₂)) Q E s:=by
 have av:=hv.al
 have au:=hu.al
 have:=ltListsB (A:=A) (s:=s) (e:=eF xs ys) (c:=cF xs ys) h1 h2 hA fun j a b=>?_
 ·rw [List.size_toArray,List.size_toArray,hv.len,hu.len,cmp_less] at this
  exact this prog w E Q h
 ·have a':j<vs.length:=by simpa using a
  have b':j<us.length:=by simpa using b
  refine u11 (av.get (List.getElem?_eq_getElem a')) fun i hi hiv=>?_
  refine u11 (au.get (List.getElem?_eq_getElem b')) fun k hk hku=>?_
  have he:eF xs ys j=decide (i=k):=by
   unfold eF; rw [hi,hk,Bool.eq_iff_iff,decide_eq_true_eq,decide_eq_true_eq]
   exact ⟨fun e=>Option.some.inj e,fun e=>congrArg some e⟩
  have hc:cF xs ys j=itLt i k:=by unfold cF; rw [hi,hk]
  refine ⟨?_,fun hq _=>?_⟩
  ·rw [he]
   simpa using eqIt (A:=A.in1) (s:=s) hiv hku
  ·rw [hc]
   simpa using ltIt (A:=A.in1) (s:=s) hiv hku (fl_side xs ys j i k ox oy hi hk hq)
noncomputable def okI:It→Prop
 | .inl k=>0≤k∧k.toNat<10 ^ 300
 | .inr _=>True
theorem log_ok {n:Nat} (h:n<10 ^ 300):n.log2<1920:=by
 rcases Nat.eq_zero_or_pos n with rfl | hp
 ·decide
 ·rw [Nat.log2_lt (Nat.ne_of_gt hp)]
  exact Nat.lt_trans h (by decide +kernel)
theorem strIt {i:It} {v:Value} {Q:Value→Shared→Prop} (hi:isIt i v) (hk:okI i) (h:∀ t k,Q (.str (S (itN i)) t) { s with toks:=k }):wpAny (model prog w) A (call (.type "str") [v]) Q E s:=by
 cases i with
 | inl k =>
  obtain ⟨t,rfl⟩:=hi
  obtain ⟨h0,h1⟩:=hk
  refine P.str_of_int (log_ok (by walk_at "li")) ?_
  have e:Str.ofString (toString k)=S (decD k.toNat):=by
   have:=str_dec k.toNat
   rwa [Int.toNat_of_nonneg h0] at this
  rw [e]
  exact h _ _
 | inr x =>
  obtain ⟨t,rfl⟩:=hi
  exact P.str_of_str (h _ s.toks)
theorem starL {D:Addr} {vs:List Value} {Q:List Value→Shared→Prop} (hl:s.heap.IsList D vs.toArray) (hz:vs.length≤100000) (h:∀ h',Kp s.heap h'→Q vs { s with heap:=h' }):StarOf (model prog w) A E (.ref D) Q s:=by
 refine u12 (id hl) fun o ho hc z0=>?_; obtain ⟨n,hd⟩:=z0
 have z:wpAny (model prog w) A (collect (.ref D)) Q E s:=wpAny_collect_seq D (.inl rfl) ho hc hd (fun h' hk=>by simpa using h h' hk) (by rw [List.size_toArray,sizeLine_eq]; exact q1 0x2000000200186a0100021a 1 3 (by kernel_rfl) hz)
 unfold StarOf notIterableAtAll
 exact wpAny_bind (wpAny_specialOf (w11 o ho hc) PySem.F.slot_list_iter.lookup (wpAny_pure ⟨rfl,z⟩))
theorem callWith_fnS {mg:Str→Option Value} {x:Str} {pos p:Pos} {f:Addr} {g:Heap} {env:Env} (Fn:Fn x) {e:Expr} {Q:Value→Shared→Prop} (T:TK w mg g) (ha:mg x=some (.ref f))
  (h:wpAny (model prog w) A (eval e env) (fun v s₁=>StarOf (model prog w) A E v (fun vs s₂=>Kp g s₂.heap∧wpAny (model prog w) A (call (.ref f) vs) Q E s₂) s₁) E s)
  (he:starEach [.Starred e p] env=[(true,eval e env)]:=by rfl) :
  wpAny (model prog w) A (callWith pos (.ref f) [] (backTo pos (starEach [.Starred e p] env)) []) Q E s:=by
 refine u42 (T.at_ Fn ha) fun o pm cd doc ho hd _=>?_
 rw [he]
 refine callWith_function (o:=o) (fd:=docDef x Fn.params Fn.body Fn.scope pm cd doc) ?_
 exact ks_lone (wpAny_mono h (fun v s₁ p=>by
  unfold StarOf at p ⊢
  exact wpAny_mono p (fun b s₂ q=>⟨q.1,wpAny_mono q.2 (fun vs s₃ r=>⟨⟨r.1 _ _ ho,hd⟩,r.2⟩) fun _ _ x=>x⟩) fun _ _ x=>x) fun _ _ x=>x)
end
section
variable {prog:Program} {w:World} {A:Around} {E:Value→Shared→Prop} {R:Result→Shared→Prop} {s:Shared}
noncomputable abbrev lc2 (elt t0 i0 t1 i1:Expr) (scope:Scope) (pos:Pos):Expr:=.ListComp elt [⟨t0,i0,[],0⟩,⟨t1,i1,[],0⟩] scope pos
theorem compTurn_d1 (elt t0 i0 t1 i1:Expr) (scope:Scope) (pos:Pos) (it acc:Value) (env:Env) :
  compTurn (lc2 elt t0 i0 t1 i1 scope pos) 1 it acc env=(standAt i1.pos >>= fun _=>pyNext it >>= fun r=>match r with
   | none=>pure (.done .next)
   | some v=>letOwnedTupleGo t1 it v >>= fun _=>assign t1 env v >>= fun _ =>
    (eval elt env >>= fun x=>call (.builtin "list.append") [acc,x] >>= fun _=>pure ()) >>= fun _ =>
     again (.compLoop (lc2 elt t0 i0 t1 i1 scope pos) 1 it acc env)):=by rfl
theorem compTurn_d0 (elt t0 i0 t1 i1:Expr) (scope:Scope) (pos:Pos) (it acc:Value) (env:Env) :
  compTurn (lc2 elt t0 i0 t1 i1 scope pos) 0 it acc env=(standAt i0.pos >>= fun _=>pyNext it >>= fun r=>match r with
   | none=>pure (.done .next)
   | some v=>letOwnedTupleGo t0 it v >>= fun _=>assign t0 env v >>= fun _=>eval i1 env >>= fun x=>standAt i1.pos >>= fun _=>foldedSetIterable i1 env x >>= fun x=>holding [x] (pyIter x) >>= fun it' =>
     runOwn (.compStart (lc2 elt t0 i0 t1 i1 scope pos) 1 it' acc env) env >>= fun _ =>
     again (.compLoop (lc2 elt t0 i0 t1 i1 scope pos) 0 it acc env)):=by rfl
theorem compStart_d1 {elt t0 i0 t1 i1 scope pos it acc env}
  (h0:codeAny (model prog w) A (.compLoop (lc2 elt t0 i0 t1 i1 scope pos) 1 it acc env) R s)
  (h:wpAny (model prog w) A (pyIter it) (fun it' s'=>codeAny (model prog w) A (.compLoop (lc2 elt t0 i0 t1 i1 scope pos) 1 it' acc env) R s')
   (notedBy (model prog w) A env fun x s'=>R (.error x) s') s) :
  codeAny (model prog w) A (.compStart (lc2 elt t0 i0 t1 i1 scope pos) 1 it acc env) R s:=by
 refine codeAny_of_tree ?_
 show wpAny _ _ ((compStart (lc2 elt t0 i0 t1 i1 scope pos) 1 it acc env).onRaise (fun x=>do noteFrame x env; standAt theWindowsPlace)) _ _ s
 refine wpAny_notedAt ?_
 unfold compStart
 show wpAny _ _ (ask >>= _) _ _ s
 refine wpAny_bind (wpAny_askSetting (wpAny_ite ?_))
 split
 ·first
   | exact wpAny_bind (wpAny_pure (wpAny_pure (And.intro rfl h0)))
   | exact wpAny_pure (And.intro rfl h0)
 ·first
   | exact wpAny_bind (wpAny_rule (wpAny_bind (wpAny_standAt (wpAny_bind (wpAny_mono h (fun it' s' h'=>wpAny_pure (And.intro rfl h')) fun _ _ x=>x)))))
   | (refine wpAny_bind (wpAny_rule ?_); show wpAny _ _ (standAt i1.pos >>= _) _ _ s; exact wpAny_bind (wpAny_standAt (wpAny_bind (wpAny_mono h (fun it' s' h'=>wpAny_pure (And.intro rfl h')) fun _ _ x=>x))))
theorem compLoop_d1 {elt t0 i0 t1 i1:Expr} {scope:Scope} {pos:Pos} {it acc:Value} {env:Env} (I:Nat→Shared→Prop)
  (turn:∀ n s,I n s→wpAny (model prog w) A (pyNext it) (fun r s₁=>match r with
   | none=>R (.ok .next) s₁
   | some v=>wpAny (model prog w) A (assign t1 env v) (fun _ s₂=>wpAny (model prog w) A (eval elt env) (fun x s₃ =>
     wpAny (model prog w) A (call (.builtin "list.append") [acc,x]) (fun _ s₄=>∃ m,m<n∧I m s₄) (notedBy (model prog w) A env fun e s'=>R (.error e) s') s₃)
     (notedBy (model prog w) A env fun e s'=>R (.error e) s') s₂) (notedBy (model prog w) A env fun e s'=>R (.error e) s') s₁) (notedBy (model prog w) A env fun e s'=>R (.error e) s') s)
  (n:Nat) (h:I n s) (ht:∀ v,letOwnedTupleGo t1 it v=pure ():=by intro _; rfl) :
  codeAny (model prog w) A (.compLoop (lc2 elt t0 i0 t1 i1 scope pos) 1 it acc env) R s:=by
 refine codeAny_loop rfl I (fun n s hI=>?_) n h
 show wpAny _ _ ((compTurn (lc2 elt t0 i0 t1 i1 scope pos) 1 it acc env).onRaise (fun x=>do noteFrame x env; theTreesLotGoes x)) _ _ s
 refine wpAny_noted ?_
 rw [compTurn_d1]
 refine wpAny_bind (wpAny_standAt (wpAny_bind (wpAny_mono (turn n s hI) (fun r s₁ h₁=>?_) fun _ _ h'=>h')))
 cases r with
 | none=>exact wpAny_pure h₁
 | some v =>
  refine wpAny_bind (wpAny_of_eq (ht v) ?_)
  exact wpAny_bind (wpAny_mono h₁ (fun _ s₂ h₂=>wpAny_bind (wpAny_bind (wpAny_mono h₂ (fun x s₃ h₃=>wpAny_bind (wpAny_mono h₃
   (fun _ s₄ h₄=>wpAny_pure (wpAny_pure ⟨rfl,h₄⟩)) fun _ _ h'=>h')) fun _ _ h'=>h'))) fun _ _ h'=>h')
theorem compLoop_d0 {elt t0 i0 t1 i1:Expr} {scope:Scope} {pos:Pos} {it acc:Value} {env:Env} (I:Nat→Shared→Prop)
  (turn:∀ n s E',I n s→wpAny (model prog w) A (pyNext it) (fun r s₁=>match r with
   | none=>R (.ok .next) s₁
   | some v=>wpAny (model prog w) A (assign t0 env v) (fun _ s₂=>wpAny (model prog w) A (eval i1 env) (fun x s₃ =>
     wpAny (model prog w) A (pyIter x) (fun it' s₄=>codeAny (model prog w) A (.compStart (lc2 elt t0 i0 t1 i1 scope pos) 1 it' acc env) (fun r s'=>r=.ok .next∧∃ m,m<n∧I m s') s₄) E' s₃) E' s₂) E' s₁) E' s)
  (n:Nat) (h:I n s) (ht:∀ v,letOwnedTupleGo t0 it v=pure ():=by intro _; rfl) (hs:∀ x,foldedSetIterable i1 env x=pure x:=by intro _; rfl) :
  codeAny (model prog w) A (.compLoop (lc2 elt t0 i0 t1 i1 scope pos) 0 it acc env) R s:=by
 refine codeAny_loop rfl I (fun n s hI=>?_) n h
 show wpAny _ _ ((compTurn (lc2 elt t0 i0 t1 i1 scope pos) 0 it acc env).onRaise (fun x=>do noteFrame x env; theTreesLotGoes x)) _ _ s
 refine wpAny_noted ?_
 rw [compTurn_d0]
 refine wpAny_bind (wpAny_standAt (wpAny_bind (wpAny_mono (turn n s _ hI) (fun r s₁ h₁=>?_) fun _ _ h'=>h')))
 cases r with
 | none=>exact wpAny_pure h₁
 | some v =>
  refine wpAny_bind (wpAny_of_eq (ht v) ?_)
  refine wpAny_bind (wpAny_mono h₁ (fun _ s₂ h₂=>wpAny_bind (wpAny_mono h₂ (fun x s₃ h₃=>wpAny_bind (wpAny_standAt (wpAny_bind (wpAny_of_eq (hs x) (wpAny_bind (wpAny_holding (wpAny_mono h₃ (fun it' s₄ h₄=>?_) fun _ _ h'=>h'))))))) fun _ _ h'=>h')) fun _ _ h'=>h')
  have hA:A.mark none=A:=Around.mark_none A
  refine wpAny_bind (wpAny_runOwn (h:=none) (codeAny_mono (R:=fun r s'=>r=.ok .next∧∃ m,m<n∧I m s') ?_ (fun r s' hr=>?_)) (by intro q; cases q))
  ·show codeAny (model prog w) (A.mark none) _ _ _
   rw [hA]; exact h₄
  ·obtain ⟨rfl,m,hm,hI'⟩:=hr
   exact wpAny_pure ⟨rfl,m,hm,hI'⟩
end
section
variable {prog:Program} {w:World} {A:Around} {E:Value→Shared→Prop} {env:Env} {s:Shared}
noncomputable def flatV (pr:Nat→Value × Value):Nat→List Value
 | 0=>[]
 | n+1=>flatV pr n++[(pr n).1,(pr n).2]
theorem flatV_c {pr:Nat→Value × Value} {n:Nat}:flatV pr (n+1)=flatV pr n++[(pr n).1,(pr n).2]:=rfl
theorem flatV_len (pr:Nat→Value × Value):∀ n,(flatV pr n).length=2*n
 | 0=>rfl
 | n+1=>by rw [flatV_c,List.length_append,flatV_len pr n]; simp; exact q1 0x4400a024860240e2202 1 3 (by kernel_rfl)
theorem comp2 {i0:Expr} {x y:Str} {px px' py py':Pos} {scope:Scope} {cl:List (Str × Addr)} {pos:Pos} {Q:Value→Shared→Prop} (hh:A.handled=none)
  (h:wpAny (model prog w) A (eval i0 env) (fun xv s₁=>∃ (B:Addr) (us:List Value) (pr:Nat→Value × Value),xv=.ref B∧s₁.heap.IsList B us.toArray∧us.length≤1000 ∧
   (∀ (i:Nat) (v:Value),us[i]?=some v→∃ T,v=.ref T∧s₁.heap.IsTuple T #[(pr i).1,(pr i).2]) ∧
   (∀ D h' tk,s₁.heap.get? D=none→h'.PlainList D (flatV pr us.length).toArray→Kp s₁.heap h'→Q (.ref D) { s₁ with heap:=h',toks:=tk })) E s)
  (hclos:closureFor scope env=pure cl:=by rfl) (hcell:∀ y∈scope.names,y.2≠.cell:=by decide) (hkind:scope.kind=.function:=by rfl)
  (hnames:∀ y∈scope.names,y.2=.local→scope.names.lookup y.1=some .local:=by decide) (hx:scope.names.lookup x=some .local:=by rfl) (hy:scope.names.lookup y=some .local:=by rfl)
  (hs:∀ x,foldedSetIterable i0 env x=pure x:=by intro _; rfl) (hdx:(x == ("__debug__" : Str))=false:=by decide) (hdy:(y == ("__debug__" : Str))=false:=by decide) :
  wpAny (model prog w) A (eval (lc2 (.Name y py) (.Name x px) i0 (.Name y py') (.Name x px') scope pos) env) Q E s:=by
 show wpAny (model prog w) A (eval (.ListComp _ _ scope pos) env) Q E s
 rw [eval_ListComp]
 refine wpAny_comprehension_free (use:=none) rfl hs hclos hkind hnames (wpAny_mono h (fun xv s₁ h₁=>?_) fun _ _ e=>e)
 refine u34 h₁ fun B us pr z0 hB hn hpr hQ=>?_; clear h₁; subst z0
 refine Src.list hh hB _ _ fun I fp wr W h' k K hW hfp hwc hwn=>?_
 refine wpAny_newObj_type (wpAny_newFunctionEnv hcell (by intro y hy; simp at hy) (fun h₁ hns₁ hsb₁=>?_) hkind)
 dsimp only at hns₁ hsb₁ ⊢
 generalize hH2:h'.push { cls:=.type "list", dict:=none,data:=.seq ([]:List Value).toArray }=H2 at hns₁ hsb₁ ⊢
 obtain ⟨D,hDe⟩:∃ D,D=h'.objs.size:=⟨_,rfl⟩
 obtain ⟨C,hCe⟩:∃ C,C=H2.objs.size:=⟨_,rfl⟩
 rw [← hDe]
 rw [← hCe] at hns₁ hsb₁ ⊢
 have hC:C=h'.objs.size+1:=by rw [hCe,← hH2,Heap.size_push]
 have hDC:D≠C:=by rw [hC,hDe]; exact Nat.ne_of_lt (Nat.lt_succ_self _)
 have fresh:∀ a,h'.objs.size≤a→h'.get? a=none:=fun a ha=>Heap.get?_none_of_le ha
 have hDn:=fresh D (by rw [hDe]; exact Nat.le_refl _)
 have hCn:=fresh C (by rw [hC]; exact Nat.le_succ _)
 have hDf:D∉fp:=fun hm=>Nat.lt_irrefl _ (hDe▸hfp _ hm)
 have hCf:C∉fp:=fun hm=>by have:=hfp _ hm; rw [hC] at this; exact Nat.lt_irrefl _ (Nat.lt_of_succ_lt this)
 have hDw:D∉wr:=fun h=>hDf (K.sub _ h)
 have hCw:C∉wr:=fun h=>hCf (K.sub _ h)
 have old:∀ b o,h'.get? b=some o→h₁.get? b=some o:=fun b o e=>hsb₁.extBut b o (fun q=>by rw [q,hCn] at e; cases e) (Heap.get?_push_of_some _ (hH2▸Heap.get?_push_of_some _ e))
 have hacc:h₁.PlainList D #[]:=⟨_,hsb₁.extBut _ _ hDC (Heap.get?_push_of_some _ (by rw [hDe]; exact hH2▸Heap.get?_push_size _ rfl))⟩
 have hst₁:W 0 h₁:=K.frame _ _ _ hW fun b _ o e=>old b o e
 have hwrn:∀ b o,s₁.heap.get? b=some o→b∉wr:=fun b o e hm=>by rw [hwn b hm] at e; cases e
 have hold:∀ b o,s₁.heap.get? b=some o→b≠D∧b≠C:=fun b o e=>⟨fun q=>(by have:=k _ _ e; rw [q,hDn] at this; cases this),fun q=>(by have:=k _ _ e; rw [q,hCn] at this; cases this)⟩
 have loop:∀ tk₁,codeAny (model prog w) A (.compLoop (lc2 (.Name y py) (.Name x px) i0 (.Name y py') (.Name x px') scope pos) 0 (.ref I) (.ref D) (compEnvC scope cl C env)) (compPost (model prog w) A E none Q (.ref D) C) { s₁ with heap:=h₁,toks:=tk₁ }:=by
  intro tk₁
  refine compLoop_d0 (fun k s'=>∃ i h tk m,k=us.length-i∧i≤us.length∧s'={ s₁ with heap:=h,toks:=tk }∧W i h∧h.PlainList D (flatV pr i).toArray∧h.Ns C m∧Kp s₁.heap h) ?_ us.length (w46 0 h₁ tk₁ _ rfl (Nat.zero_le _) rfl hst₁ hacc hns₁ (fun b o e=>old b o (k b o e)))
  intro kk _ E' y0; refine u46 y0 fun i h tk m z0 hi z1 hWi hpl hns hk=>?_; clear y0; subst z0; subst z1
  by_cases hlt:i<us.length
  ·refine wpAny_mono (K.item i _ (fun r s₂=>match r with
     | none=>False
     | some v=>us[i]?=some v∧∃ h' tk',s₂={ s₁ with heap:=h',toks:=tk' }∧W (i+1) h'∧∀ b o,b∉wr→h.get? b=some o→h'.get? b=some o) _ hlt hWi fun v h' tk' hPv hW' hk'=>⟨hPv,h',tk',rfl,hW',hk'⟩) (fun r s₂ hr=>?_) fun _ _ e=>e
   cases r with
   | none=>exact hr.elim
   | some v =>
    obtain ⟨hPv,h₂,tk₂,rfl,hW₂,hk₂⟩:=hr
    refine u11 (hpr i v hPv) fun T z0 hT=>?_; subst z0
    have hT₂:h₂.IsTuple T #[(pr i).1,(pr i).2]:=hT.at fun o e=>hk₂ _ _ (hwrn _ _ e) (hk _ _ e)
    refine wpAny_assign_Name (wpAny_storeName_local (lookup_relabel_local hx) (hns.at' fun o e=>hk₂ _ o hCw e) (fun h₃ hn₃ hs₃=>?_) (by simp [compEnvC,relabel,hkind]))
    have hs₃':Heap.SameBut C h₂ h₃:=hs₃
    have hTo:∃ o,s₁.heap.get? T=some o:=by (refine u11 hT fun o ho _=>?_; clear hT); exact ⟨o,ho⟩
    have hTC:T≠C:=by obtain ⟨o,ho⟩:=hTo; exact (hold _ _ ho).2
    have hTD:T≠D:=by obtain ⟨o,ho⟩:=hTo; exact (hold _ _ ho).1
    have hT₃:h₃.IsTuple T #[(pr i).1,(pr i).2]:=hT₂.extBut hs₃'.extBut hTC
    have hpl₃:h₃.PlainList D (flatV pr i).toArray:=by
     obtain ⟨q,hq⟩:=hpl
     exact ⟨q,hs₃'.extBut _ _ hDC (hk₂ _ _ hDw hq)⟩
    have hW₃:W (i+1) h₃:=K.frame _ _ _ hW₂ fun b hb o e=>hs₃'.extBut b o (fun q=>hCf (q▸hb)) e
    have hk₃:Kp s₁.heap h₃:=fun b o e=>hs₃'.extBut b o (hold b o e).2 (hk₂ b o (hwrn b o e) (hk b o e))
    refine wpAny_Name (wpAny_loadName_local (by exact hkind) (lookup_relabel_local hx) hn₃ (if_pos rfl) ?_) hdx
    have Wt:=Walks.tuple (prog:=prog) (w:=w) (A:=A) hh h₃.objs.size T (Nat.ne_of_lt (by (refine u11 hT₃ fun o ho _=>?_; clear hT₃); exact Heap.lt_size ho)) #[(pr i).1,(pr i).2]
    refine wpAny_pyIter_tuple hT₃ ?_
    generalize hH4:h₃.push _=h₄
    have k₄:Kp h₃ h₄:=fun b o e=>hH4▸Heap.get?_push_of_some _ e
    have hit:h₄.IsTupleIter h₃.objs.size T 0:=hH4▸(w12 _ (Heap.get?_push_size _ rfl) rfl rfl)
    obtain ⟨J,hJ⟩:∃ J,J=h₃.objs.size:=⟨_,rfl⟩
    rw [← hJ] at hit Wt ⊢
    have hJn:h₃.get? J=none:=by rw [hJ]; exact Heap.get?_none_of_le (Nat.le_refl _)
    have hJne:∀ b o,h₃.get? b=some o→b≠J:=fun b o e q=>by rw [q,hJn] at e; cases e
    have hCJ:C≠J:=by (refine u31 (id hn₃) fun o _ _ ho _=>?_); exact hJne _ _ ho
    have hJfp:J∉fp:=fun hm=>by
     have h1:=hfp J hm
     have h2:D<J:=by obtain ⟨q,hq⟩:=hpl₃; rw [hJ]; exact Heap.lt_size hq
     rw [hDe] at h2
     exact Nat.lt_irrefl _ (Nat.lt_trans h1 h2)
    have hDJ:D≠J:=by obtain ⟨q,hq⟩:=hpl₃; exact hJne _ _ hq
    have inner:∀ tk₄,codeAny (model prog w) A (.compLoop (lc2 (.Name y py) (.Name x px) i0 (.Name y py') (.Name x px') scope pos) 1 (.ref J) (.ref D) (compEnvC scope cl C env)) (fun r s'=>r=.ok .next∧∃ m,m<us.length-i∧∃ i h tk m_1,m=us.length-i∧i≤us.length∧s'={ s₁ with heap:=h,toks:=tk }∧W i h∧h.PlainList D (flatV pr i).toArray∧h.Ns C m_1∧Kp s₁.heap h) { s₁ with heap:=h₄,toks:=tk₄ }:=by
     intro tk₄
     refine compLoop_d1 (fun k s'=>∃ j h tk m,k=2-j∧j≤2∧s'={ s₁ with heap:=h,toks:=tk }∧(h.IsTupleIter J T j∧h.IsTuple T #[(pr i).1,(pr i).2])∧h.PlainList D (flatV pr i++[(pr i).1,(pr i).2].take j).toArray∧h.Ns C m∧W (i+1) h∧Kp s₁.heap h) ?_ 2
      (w47 0 h₄ tk₄ _ rfl (Nat.zero_le _) rfl ⟨hit,hT₃.at fun o e=>k₄ _ _ e⟩ (by obtain ⟨q,hq⟩:=hpl₃; rw [List.take_zero,List.append_nil]; exact ⟨q,k₄ _ _ hq⟩) (hn₃.keeps k₄) (K.frame _ _ _ hW₃ fun b _ o e=>k₄ _ _ e) (fun b o e=>k₄ _ _ (hk₃ b o e)))
     intro kj _ y0; refine u47 y0 fun j h tk m z0 hj z1 hWj hpl₅ hns₅ hW₅ hk₅=>?_; clear y0; subst z0; subst z1
     by_cases hj2:j<2
     ·refine wpAny_mono (Wt.item j _ (fun r s₂=>match r with
        | none=>False
        | some v=>(#[(pr i).1,(pr i).2]:Array Value)[j]?=some v∧∃ h' tk',s₂={ s₁ with heap:=h',toks:=tk' }∧(h'.IsTupleIter J T (j+1)∧h'.IsTuple T #[(pr i).1,(pr i).2])∧∀ b o,b∉[J]→h.get? b=some o→h'.get? b=some o) _ (by simpa using hj2) hWj fun v h' tk' hPv hW' hk'=>⟨hPv,h',tk',rfl,hW',hk'⟩) (fun r s₂ hr=>?_) fun _ _ e=>e
      cases r with
      | none=>exact hr.elim
      | some v =>
       obtain ⟨hvj,h₆,tk₆,rfl,hW₆,hk₆⟩:=hr
       have hJw:∀ b,b≠J→b∉[J]:=fun b hb hm=>hb (List.mem_singleton.mp hm)
       refine wpAny_assign_Name (wpAny_storeName_local (lookup_relabel_local hy) (hns₅.at' fun o e=>hk₆ _ o (hJw _ hCJ) e) (fun h₇ hn₇ hs₇=>?_) (by simp [compEnvC,relabel,hkind]))
       have hs₇':Heap.SameBut C h₆ h₇:=hs₇
       refine wpAny_Name (wpAny_loadName_local (by exact hkind) (lookup_relabel_local hy) hn₇ (if_pos rfl) ?_) hdy
       have hpl₇:h₇.PlainList D (flatV pr i++[(pr i).1,(pr i).2].take j).toArray:=by
        obtain ⟨q,hq⟩:=hpl₅
        exact ⟨q,hs₇'.extBut _ _ hDC (hk₆ _ _ (hJw _ hDJ) hq)⟩
       refine wpAny_list_append_plain hpl₇ (fun h₈ hpl₈ hs₈=>?_) (by
        rw [List.size_toArray,sizeLine_eq,List.length_append,flatV_len]
        have:([(pr i).1,(pr i).2].take j).length≤2:=by rw [List.length_take]; exact Nat.min_le_right _ _
        exact q3 0x100000018210120991284300300c54014446be810001aa 2 90 (by kernel_rfl) hn hlt this)
       have kb:∀ b o,b≠J→b≠C→b≠D→h.get? b=some o→h₈.get? b=some o:=fun b o b1 b2 b3 e=>hs₈.extBut b o b3 (hs₇'.extBut b o b2 (hk₆ b o (hJw b b1) e))
       have hJ₈:∀ o,h₆.get? J=some o→h₈.get? J=some o:=fun o e=>hs₈.extBut _ _ (Ne.symm hDJ) (hs₇'.extBut _ _ (Ne.symm hCJ) e)
       have hs₁J:∀ b o,s₁.heap.get? b=some o→b≠J:=fun b o e=>hJne b o (hk₃ b o e)
       refine (w11 (2-(j+1)) (by exact q1 0x420c710028418c8c6100112a 1 21810 (by kernel_rfl) hj2) ⟨j+1,h₈,tk₆+1,_,rfl,by exact q1 0x10c4008442100112a 1 3 (by kernel_rfl) hj2,rfl,⟨hW₆.1.at hJ₈,hW₆.2.at fun o e=>hs₈.extBut _ _ hTD (hs₇'.extBut _ _ hTC e)⟩,?_,hn₇.sameBut hs₈ (Ne.symm hDC),K.frame _ _ _ hW₅ fun b hb o e=>?_,fun b o e=>kb b o (hs₁J b o e) (hold b o e).2 (hold b o e).1 (hk₅ b o e)⟩)
       ·have e:(flatV pr i++[(pr i).1,(pr i).2].take j).toArray.push v=(flatV pr i++[(pr i).1,(pr i).2].take (j+1)).toArray:=by
         have hj':j=0∨j=1:=by exact q1 0x8801400835e100112a 1 2986 (by kernel_rfl) hj2
         rcases hj' with rfl | rfl
         ·have:v=(pr i).1:=by simpa using hvj.symm
          subst this; simp
         ·have:v=(pr i).2:=by simpa using hvj.symm
          subst this; simp
        rw [← e]; exact hpl₈
       ·exact kb b o (fun q=>hJfp (q▸hb)) (fun q=>hCf (q▸hb)) (fun q=>hDf (q▸hb)) e
     ·have hj':j=2:=by exact q1 0x210028400605aa100012a 1 46 (by kernel_rfl) hj hj2
      subst hj'
      refine wpAny_mono (Wt.done _ (fun r s₂=>r=none∧∃ h' tk',s₂={ s₁ with heap:=h',toks:=tk' }∧∀ b o,b∉[J]→h.get? b=some o→h'.get? b=some o) _ hWj fun h' tk' hk'=>⟨rfl,h',tk',rfl,hk'⟩) (fun r s₂ hr=>?_) fun _ _ e=>e
      obtain ⟨rfl,h₆,tk₆,rfl,hk₆⟩:=hr
      have hJw:∀ b,b≠J→b∉[J]:=fun b hb hm=>hb (List.mem_singleton.mp hm)
      refine ⟨rfl,us.length-(i+1),by exact q2 0x8029c400a00a6443000111a 1 21810 (by kernel_rfl) hlt,i+1,h₆,tk₆,m,rfl,hlt,rfl,K.frame _ _ _ hW₅ fun b hb o e=>hk₆ b o (hJw b fun q=>hJfp (q▸hb)) e,?_,hns₅.at' fun o e=>hk₆ _ _ (hJw _ hCJ) e,fun b o e=>hk₆ b o (hJw b (hJne b o (hk₃ b o e))) (hk₅ b o e)⟩
      ·obtain ⟨q,hq⟩:=hpl₅
       exact ⟨q,hk₆ _ _ (hJw _ hDJ) hq⟩
    exact compStart_d1 (inner _) (Wt.self 0 _ _ _ ⟨hit,hT₃.at fun o e=>k₄ _ _ e⟩ (inner _))
  ·have hin:i=us.length:=by exact q2 0x4000a000302b5000011a 1 46 (by kernel_rfl) hi hlt
   subst hin
   refine wpAny_mono (K.done _ (fun r s₂=>r=none∧∃ h' tk',s₂={ s₁ with heap:=h',toks:=tk' }∧∀ b o,b∉wr→h.get? b=some o→h'.get? b=some o) _ hWi fun h' tk' hk'=>⟨rfl,h',tk',rfl,hk'⟩) (fun r s₂ hr=>?_) fun _ _ e=>e
   obtain ⟨rfl,h'',tk',rfl,hk'⟩:=hr
   refine (w11 m (hns.at' fun o e=>hk' _ o hCw e) (fun h₃ hs₃=>?_))
   refine hQ D h₃ _ ?_ ?_ fun b o e=>hs₃.extBut b o (hold b o e).2 (hk' b o (hwrn b o e) (hk b o e))
   ·cases e:s₁.heap.get? D with
    | none=>rfl
    | some o=>exact absurd rfl (hold _ _ e).1
   ·obtain ⟨q,hq⟩:=hpl
    exact ⟨q,hs₃.extBut _ _ hDC (hk' _ _ hDw hq)⟩
 exact codeAny_compStart_list (loop _) (K.self 0 _ _ _ hst₁ (loop _))
end
noncomputable abbrev tabObj (ps:Array Value):Obj:={ cls:=.none,data:=.fields ps }
noncomputable def TabO (h:Heap):Prop:=∃ ps,h.get? 53=some (tabObj ps)∧TriplesOk ps.toList
theorem TabO.same {h h':Heap} (x:TabO h) (k:Same [53] h h'):TabO h':=u11 x fun ps e t=>(w11 ps (k 53 (by simp) _ e) t)
theorem TabO.keeps {h h':Heap} (x:TabO h) (k:Kp h h'):TabO h':=u11 x fun ps e t=>(w11 ps (k _ _ e) t)
theorem TabO.ct {h:Heap} (x:TabO h) (hc:h.get? 57=some platCode):∃ ps,CT h 57 53 ps :=
 u11 x fun ps e t=>(w11 ps ⟨_,_,_,_,_,_,_,_,_,_,hc,rfl,rfl,rfl,rfl,rfl,rfl,e,rfl,t,by decide⟩ ⟨⟨_,_,hc,rfl,rfl,rfl⟩,e⟩)
theorem CT.tab {h:Heap} {ps:Array Value} (x:CT h 57 53 ps):TabO h:=by
 refine u1010 (x.1) fun o vs file tf flags tg inF text tt op _ _ _ _ _ _ _ hop hd ht _=>?_
 obtain ⟨_,e⟩:=x.2
 exact (w11 ps e ht)
theorem hide_other {h:Heap} {a:Addr} (ha:a≠53):(hideAll h [53]).get? a=h.get? a:=by
 cases e:h.get? a with
 | some o=>exact hideAll_get _ e (by simpa using ha)
 | none =>
  cases q:(hideAll h [53]).get? a with
  | none=>rfl
  | some o=>have:=of_hideAll _ q; rw [e] at this; cases this
theorem TK.hide53 {w:World} {mg:Str→Option Value} {h:Heap} (T:TK w mg h) (hp:h.get? 53=some platTab):TK w mg (hideAll h [53]):=by
 have ns:∀ {a:Addr} {m:Str→Option Value},h.Ns a m→(hideAll h [53]).Ns a m:=by
  intro a m hn
  refine u32 hn fun o es ep e hd r=>?_; clear hn
  refine (w32 o es ep ?_ hd r)
  rw [hide_other]
  ·exact e
  ·rintro rfl
   rw [hp] at e; cases e; cases hd
 have hm:mainGlobals≠53:=by
  intro q
  refine u32 T.g fun o es ep e hd r=>?_
  rw [q,hp] at e; cases e; cases hd
 obtain ⟨h1,h2,h3⟩:=T.hook
 refine ⟨ns T.g,u11 (T.b) fun mb b1 b2=>(w11 mb (ns b1) b2),u11 (T.lim) fun mc b1 b2=>(w11 mc (ns b1) b2),u11 (T.dig) fun mc b1 b2=>(w11 mc (ns b1) b2),fun d hd=>?_,⟨?_,?_,?_⟩,T.nb,?_⟩
 ·refine u53 (T.fn d hd) fun a o pm code doc f1 f2 f3 z0=>?_; refine u43 z0 fun c oc vs t g1 g2 g3 g4=>?_; clear z0
  refine (w53 a o pm code doc f1 ?_ f3 ⟨c,oc,vs,t,g1,?_,g3,g4⟩)
  ·rw [hide_other]
   ·exact f2
   ·rintro rfl
    rw [hp] at f2; cases f2; cases f3
  ·rw [hide_other]
   ·exact g2
   ·rintro rfl
    rw [hp] at g2; cases g2; cases g3; cases g4
 ·rw [← h1]
  refine List.map_congr_left fun a ha=>hide_other ?_
  rintro rfl
  revert ha; decide
 ·rw [← h2]
  refine List.map_congr_left fun x _=>?_
  unfold nameOf
  rw [hide_other hm]
 ·rw [← h3]
  unfold codeName
  rw [hide_other (by decide)]
 ·refine u25 T.bm fun bm ob b1 b2 b3 b4 b5 b6=>?_
  refine (w25 bm ob b1 b2 ?_ b4 b5 b6)
  rw [hide_other]
  ·exact b3
  ·rintro rfl
   rw [hp] at b3; cases b3; cases b4
theorem St.open53 {g h:Heap} {L:Addr} {l:List (Str × Value)} {own:List (Addr × List Value)} (F:St g L h l own) (x:TabO h):∃ g',Kp g g'∧Kp g' h∧TabO g' ∧
  (∀ b o,b≠L→(∀ p∈own,b≠p.1)→h.get? b=some o→g'.get? b=some o)∧St g' L h l own:=by
 refine u13 F.rebase fun g' k1 k2 k3 F'=>?_
 refine (w14 g' k1 k2 ?_ k3 F')
 refine u11 x fun ps e t=>?_; clear x
 refine (w11 ps (k3 53 _ ?_ ?_ e) t)
 ·rintro rfl
  refine u11 F.fl fun m Fn _=>?_
  refine u32 Fn fun o es ep h1 h2 _=>?_; clear Fn
  rw [e] at h1; cases h1; cases h2
 ·rintro p hp q
  obtain ⟨n,hn⟩:=(F.ow p hp).2.2
  rw [← q,e] at hn; cases hn
theorem St.close53 {g h:Heap} {L:Addr} {l:List (Str × Value)} {own:List (Addr × List Value)} (F:St g L h l own):St (hideAll g [53]) L h l own:=F.base fun _ _ e=>of_hideAll _ e
theorem keep53 {g g':Heap} (k:Kp g g') (h:g.get? 53=none):Kp g (hideAll g' [53]):=fun b o e=>by
 rw [hide_other]
 ·exact k b o e
 ·rintro rfl; rw [h] at e; cases e
theorem DatL.hide {g:Heap} (x:TabO g):DatL g (hideAll g [53]):=fun b o e hc=>by
 rw [hide_other]
 ·exact e
 ·rintro rfl
  refine u11 x fun ps e' _=>?_; clear x
  rw [e'] at e; cases e
  rcases hc.1 with q | q <;> cases q
theorem DatL.trans {a b c:Heap} (x:DatL a b) (y:DatL b c):DatL a c:=fun p o e hc=>y p o (x p o e hc) hc
theorem DatL.dat {a b:Heap} (x:Dat a b):DatL a b:=fun p o e hc=>x p o e fun q=>by rcases hc.1 with r | r <;> (rw [q] at r; exact absurd r (by decide))
noncomputable def RL (h:Heap) (ps:List Pr) (v:Value):Prop:=∃ a us,v=.ref a∧h.IsList a us.toArray∧RV ps us
theorem RL.datL {G H:Heap} {p:List Pr} {v:Value} (x:RL G p v) (k:DatL G H):RL H p v:=u22 x fun a us e hl hi=>(w22 a us e (k.list hl) hi)
theorem PV.datL {G H:Heap} {p:Pr} {v:Value} (x:PV G p v) (k:DatL G H):PV H p v:=u32 x fun a t u e ht hi=>(w32 a t u e (k.tuple ht) hi)
theorem PL.datL {G H:Heap} {p:List Pr} {v:Value} (x:PL G p v) (k:DatL G H):PL H p v:=u22 x fun a us e hl hi=>(w22 a us e (k.list hl) (hi.mono fun _ _ y=>y.datL k))
theorem Ts.datL {G H:Heap} {p:Txts} {v:Value} (x:Ts G p v) (k:DatL G H):Ts H p v:=u22 x fun a us e hl hi=>(w22 a us e (k.list hl) hi)
theorem tupF {g h:Heap} {L:Addr} {l:List (Str × Value)} {own:List (Addr × List Value)} {g':Heap} (F:St g L h l own) (k:∀ b o,b≠L→(∀ p∈own,b≠p.1)→h.get? b=some o→g'.get? b=some o) {a:Addr} {vs:Array Value} (x:h.IsTuple a vs):g'.IsTuple a vs:=by
 refine u12 x fun o ho hc z0=>?_; clear x; obtain ⟨n,hd⟩:=z0
 refine (w12 o (k a o ?_ ?_ ho) hc ⟨n,hd⟩)
 ·rintro rfl
  refine u11 F.fl fun m Fn _=>?_
  refine u32 Fn fun o' es ep h1 h2 _=>?_; clear Fn
  rw [ho] at h1; cases h1; rw [hd] at h2; cases h2
 ·rintro p hp rfl
  obtain ⟨n',hn⟩:=(F.ow p hp).2.2
  rw [ho] at hn; cases hn; exact absurd (show Value.type "list" = Value.type "tuple" from hc) (by decide)
theorem lstF {g h:Heap} {L:Addr} {l:List (Str × Value)} {own:List (Addr × List Value)} {g':Heap} (F:St g L h l own) (k:∀ b o,b≠L→(∀ p∈own,b≠p.1)→h.get? b=some o→g'.get? b=some o) {a:Addr} {vs:Array Value} (x:h.IsList a vs) (hn:∀ p∈own,a≠p.1):g'.IsList a vs:=by
 refine u12 x fun o ho hc z0=>?_; clear x; obtain ⟨n,hd⟩:=z0
 refine (w12 o (k a o ?_ hn ho) hc ⟨n,hd⟩)
 rintro rfl
 refine u11 F.fl fun m Fn _=>?_
 refine u32 Fn fun o' es ep h1 h2 _=>?_; clear Fn
 rw [ho] at h1; cases h1; rw [hd] at h2; cases h2
theorem newOwn {g h:Heap} {L:Addr} {l:List (Str × Value)} {own:List (Addr × List Value)} (F:St g L h l own) {a:Addr} (e:h.get? a=none):∀ p∈own,a≠p.1:=by
 rintro p hp rfl
 obtain ⟨n,hn⟩:=(F.ow p hp).2.2
 rw [e] at hn; cases hn
theorem PLF {g h:Heap} {L:Addr} {l:List (Str × Value)} {own:List (Addr × List Value)} {g':Heap} (F:St g L h l own) (k:∀ b o,b≠L→(∀ p∈own,b≠p.1)→h.get? b=some o→g'.get? b=some o) {ps:List Pr} {v:Value} (x:PL h ps v) (hn:∀ a,v=.ref a→∀ p∈own,a≠p.1):PL g' ps v:=by
 refine u22 x fun a us z0 hl hi=>?_; clear x; subst z0
 refine (w22 a us rfl (lstF F k hl (hn a rfl)) (hi.mono fun p u y=>?_))
 refine u32 y fun b t z e ht hz=>?_; clear y
 exact (w32 b t z e (tupF F k ht) hz)
section
variable {M:Model} {A:Around} {E:Value→Shared→Prop} {s:Shared} {env:Env}
theorem callWithC_fn {w:World} {mg:Str→Option Value} {x:Str} {pos:Pos} {f:Addr} {g:Heap} (Fn:Fn x) {e:Expr} {rest:List Expr} {Q:Value→Shared→Prop} (T:TK w mg g) (ha:mg x=some (.ref f))
  (h:wpAny M A (spliced (backTo pos (starEach (e::rest) env))) (fun vs s₁=>Kp g s₁.heap∧wpC M A (call (.ref f) vs) Q E s₁) E s)
  (he:starEach (e::rest) env=(false,eval e env)::starEach rest env:=by rfl) (hpl:(backTo pos (starEach rest env)).any (·.1)=false:=by rfl) :
  wpC M A (callWith pos (.ref f) [] (backTo pos (starEach (e::rest) env)) []) Q E s:=by
 refine u42 (T.at_ Fn ha) fun o pm cd doc ho hd _=>?_
 exact callWithC_def (o:=o) hd (wpAny_mono h (fun vs s₁ p=>⟨p.1 _ _ ho,p.2⟩) fun _ _ x=>x) he hpl
end
noncomputable def bodyOf:Option PySem.Stmt→List PySem.Stmt
 | some (PySem.Stmt.For _ _ b _ _)=>b
 | _=>[]
noncomputable def law3:List PySem.Stmt:=bodyOf F_law.body[3]?
theorem law3_len:law3.length=14:=rfl
namespace Z3
open PySem.F
theorem typeCall_zip_3 (a b c:Value):checkTypeCall "zip" ⟨[a,b,c],[]⟩=pure ():=by kernel_rfl
theorem newCall_zip_3 (a b c:Value):checkBuiltinCall "zip.__new__" ⟨[.type "zip", a,b,c],[]⟩=pure ():=by kernel_rfl
theorem args_object_init_4 (a b c d:Value):argsOk "object.__init__" ⟨[a,b,c,d],[]⟩:=by
 unfold argsOk; rw [signature?_of (id := "object.__init__") (n:=['_', '_', 't', 'i', 'n', 'i', '_', '_']) (o:=['t', 'c', 'e', 'j', 'b', 'o']) (by kernel_rfl) owner_object]; kernel_rfl
end Z3
noncomputable abbrev IsTrip (h:Heap) (T:Addr) (a b c:Value):Prop:=h.get? T=some { cls:=.type "tuple", data:=.seq #[a,b,c] }
structure ZipApart3 (z TI TO i1 i2 i3 l1 l2 l3:Addr):Prop where
 TIz:TI≠z
 TOz:TO≠z
 i1z:i1≠z
 i2z:i2≠z
 i3z:i3≠z
 TITO:TI≠TO
 TIi1:TI≠i1
 TIi2:TI≠i2
 TIi3:TI≠i3
 TOi1:TO≠i1
 TOi2:TO≠i2
 TOi3:TO≠i3
 i12:i1≠i2
 i13:i1≠i3
 i23:i2≠i3
 l1z:l1≠z
 l1TO:l1≠TO
 l1i1:l1≠i1
 l1i2:l1≠i2
 l1i3:l1≠i3
 l2z:l2≠z
 l2TO:l2≠TO
 l2i1:l2≠i1
 l2i2:l2≠i2
 l2i3:l2≠i3
 l3z:l3≠z
 l3TO:l3≠TO
 l3i1:l3≠i1
 l3i2:l3≠i2
 l3i3:l3≠i3
section
variable {prog:Program} {w:World} {A:Around} {E:Value→Shared→Prop} {s:Shared}
theorem updTrip {T:Addr} {a b c x:Value} {k:Nat} {Q:Unit→Shared→Prop} (hT:IsTrip s.heap T a b c)
  (h:∀ h',h'.get? T=some { cls:=.type "tuple", data:=.seq ((#[a,b,c]:Array Value).setIfInBounds k x) }→Heap.SameBut T s.heap h'→Q () { s with heap:=h' }) :
  wpAny (model prog w) A (updateSeq T (·.setIfInBounds k x)) Q E s:=by
 refine wpAny_updateSeq hT rfl (h _ ?_ (Heap.SameBut.update ..))
 rw [Heap.get?_update_self _ hT rfl]
 simp [Obj.mapSeq]
theorem zip3_next {z TI TO i1 i2 i3 l1 l2 l3:Addr} {k:Nat} {xs ys zs:Array Value} {x y v a b c:Value} {Q:Value→Shared→Prop} (D:ZipApart3 z TI TO i1 i2 i3 l1 l2 l3)
  (hz:IsZip s.heap z TI TO .none) (hTI:IsTrip s.heap TI (.ref i1) (.ref i2) (.ref i3)) (hTO:IsTrip s.heap TO a b c)
  (h1:s.heap.IsListIter i1 l1 k) (h2:s.heap.IsListIter i2 l2 k) (h3:s.heap.IsListIter i3 l3 k) (hl1:s.heap.IsList l1 xs) (hl2:s.heap.IsList l2 ys) (hl3:s.heap.IsList l3 zs) (hx:xs[k]?=some x) (hy:ys[k]?=some y) (hv:zs[k]?=some v)
  (hQ:∀ h',IsZip h' z TI TO (rawInt s.heap.objs.size)→IsTrip h' TO x y v→h'.IsListIter i1 l1 (k+1)→h'.IsListIter i2 l2 (k+1)→h'.IsListIter i3 l3 (k+1)→IsTrip h' s.heap.objs.size x y v →
   (∀ c o,c≠z→c≠TO→c≠i1→c≠i2→c≠i3→s.heap.get? c=some o→h'.get? c=some o)→Q (.ref s.heap.objs.size) { s with heap:=h' }) :
  wpAny (model prog w) A (Builtin.«zip.__next__» ⟨[.ref z],[]⟩) (fun fin s'=>∃ v,fin=.done (.ret v)∧Q v s') E s:=by
 show wpAny _ _ (field (.ref z) 2 >>= _) _ _ _
 refine wpAny_bind (wpAny_field hz rfl (x:=.bool false) rfl ?_)
 show wpAny _ _ (field (.ref z) 3 >>= _) _ _ _
 refine wpAny_bind (wpAny_field hz rfl (x:=.ref TI) rfl ?_)
 refine wpAny_bind (wpAny_seqItems hTI rfl ?_)
 show wpAny _ _ (Builtin.SmallTypes.ownedTupleIsFree (.ref z) >>= _) _ _ _
 refine wpAny_bind ?_
 unfold Builtin.SmallTypes.ownedTupleIsFree
 refine wpAny_bind (wpAny_field hz rfl (x:=.none) rfl (wpAny_pure ?_))
 simp -iota only [if_true]
 refine wpAny_bind (wpAny_rule ?_)
 refine wpAny_bind (wpAny_field hz rfl (x:=.ref TO) rfl ?_)
 refine wpAny_bind (wpAny_setField_rec hz (by simp) fun h₁ hz₁ hs₁=>?_)
 replace hz₁:IsZip h₁ z TI TO .ellipsis:=hz₁
 refine wpAny_bind ?_
 simp -iota only [List.zipIdx_cons,List.zipIdx_nil,List.forIn_cons,List.forIn_nil]
 refine wpAny_bind (wpAny_bind (wpAny_onRaise ?_))
 show wpAny _ _ (Builtin.SmallTypes.nextOf (.ref i1) >>= _) _ _ _
 refine wpAny_bind (wpAny_nextOf_list_item (h1.extBut hs₁.extBut D.i1z) (hl1.extBut hs₁.extBut D.l1z) hx fun h₂ h1₂ hs₂=>wpAny_pure ?_)
 have hTO₂:IsTrip h₂ TO a b c:=hs₂.extBut _ _ D.TOi1 (hs₁.extBut _ _ D.TOz hTO)
 refine wpAny_bind (wpAny_seqItems hTO₂ rfl ?_)
 refine wpAny_bind (updTrip hTO₂ fun h₃ hTO₃ hs₃=>?_)
 replace hTO₃:IsTrip h₃ TO x b c:=hTO₃
 refine wpAny_bind (wpAny_letGo (wpAny_pure ?_))
 refine wpAny_bind (wpAny_bind (wpAny_onRaise ?_))
 show wpAny _ _ (Builtin.SmallTypes.nextOf (.ref i2) >>= _) _ _ _
 refine wpAny_bind (wpAny_nextOf_list_item (((h2.extBut hs₁.extBut D.i2z).extBut hs₂.extBut D.i12.symm).extBut hs₃.extBut D.TOi2.symm)
  (((hl2.extBut hs₁.extBut D.l2z).extBut hs₂.extBut D.l2i1).extBut hs₃.extBut D.l2TO) hy fun h₄ h2₄ hs₄=>wpAny_pure ?_)
 have hTO₄:IsTrip h₄ TO x b c:=hs₄.extBut _ _ D.TOi2 hTO₃
 refine wpAny_bind (wpAny_seqItems hTO₄ rfl ?_)
 refine wpAny_bind (updTrip hTO₄ fun h₅ hTO₅ hs₅=>?_)
 replace hTO₅:IsTrip h₅ TO x y c:=hTO₅
 refine wpAny_bind (wpAny_letGo (wpAny_pure ?_))
 refine wpAny_bind (wpAny_bind (wpAny_onRaise ?_))
 show wpAny _ _ (Builtin.SmallTypes.nextOf (.ref i3) >>= _) _ _ _
 refine wpAny_bind (wpAny_nextOf_list_item (((((h3.extBut hs₁.extBut D.i3z).extBut hs₂.extBut D.i13.symm).extBut hs₃.extBut D.TOi3.symm).extBut hs₄.extBut D.i23.symm).extBut hs₅.extBut D.TOi3.symm)
  (((((hl3.extBut hs₁.extBut D.l3z).extBut hs₂.extBut D.l3i1).extBut hs₃.extBut D.l3TO).extBut hs₄.extBut D.l3i2).extBut hs₅.extBut D.l3TO) hv fun h₆ h3₆ hs₆=>wpAny_pure ?_)
 have hTO₆:IsTrip h₆ TO x y c:=hs₆.extBut _ _ D.TOi3 hTO₅
 refine wpAny_bind (wpAny_seqItems hTO₆ rfl ?_)
 refine wpAny_bind (updTrip hTO₆ fun h₇ hTO₇ hs₇=>?_)
 replace hTO₇:IsTrip h₇ TO x y v:=hTO₇
 refine wpAny_bind (wpAny_letGo (wpAny_pure (wpAny_pure ?_)))
 refine wpAny_bind (wpAny_seqItems hTO₇ rfl ?_)
 refine wpAny_bind (wpAny_newTuple ?_)
 have hsz:h₇.objs.size=s.heap.objs.size:=by rw [hs₇.1,hs₆.1,hs₅.1,hs₄.1,hs₃.1,hs₂.1,hs₁.1]
 have hz₇:IsZip h₇ z TI TO .ellipsis:=hs₇.extBut _ _ D.TOz.symm (hs₆.extBut _ _ D.i3z.symm (hs₅.extBut _ _ D.TOz.symm (hs₄.extBut _ _ D.i2z.symm (hs₃.extBut _ _ D.TOz.symm (hs₂.extBut _ _ D.i1z.symm hz₁)))))
 have hk₇:∀ c o,c≠z→c≠TO→c≠i1→c≠i2→c≠i3→s.heap.get? c=some o→h₇.get? c=some o:=fun c o c1 c2 c3 c4 c5 e =>
  hs₇.extBut _ _ c2 (hs₆.extBut _ _ c5 (hs₅.extBut _ _ c2 (hs₄.extBut _ _ c4 (hs₃.extBut _ _ c2 (hs₂.extBut _ _ c3 (hs₁.extBut _ _ c1 e))))))
 have h1₇:h₇.IsListIter i1 l1 (k+1):=((((h1₂.extBut hs₃.extBut D.TOi1.symm).extBut hs₄.extBut D.i12).extBut hs₅.extBut D.TOi1.symm).extBut hs₆.extBut D.i13).extBut hs₇.extBut D.TOi1.symm
 have h2₇:h₇.IsListIter i2 l2 (k+1):=((h2₄.extBut hs₅.extBut D.TOi2.symm).extBut hs₆.extBut D.i23).extBut hs₇.extBut D.TOi2.symm
 have h3₇:h₇.IsListIter i3 l3 (k+1):=h3₆.extBut hs₇.extBut D.TOi3.symm
 have hzlt:z<h₇.objs.size:=Heap.lt_size hz₇
 show wpAny _ _ (Builtin.SmallTypes.ownedTupleHandOut (.ref z) (.ref h₇.objs.size) >>= _) _ _ _
 refine wpAny_bind ?_
 unfold Builtin.SmallTypes.ownedTupleHandOut
 have hz₈:IsZip (h₇.push { cls:=.type "tuple", data:=.seq #[x,y,v] }) z TI TO .ellipsis:=Heap.get?_push_of_some _ hz₇
 refine wpAny_bind (wpAny_setField_rec hz₈ (by simp) fun h₉ hz₉ hs₉=>?_)
 replace hz₉:IsZip h₉ z TI TO (rawInt h₇.objs.size):=hz₉
 refine wpAny_setField_rec hz₉ (by simp) fun h₈ hz₈ hs₈=>?_
 replace hz₈:IsZip h₈ z TI TO (rawInt h₇.objs.size):=hz₈
 have up:∀ c o,c≠z→h₇.get? c=some o→h₈.get? c=some o:=fun c o c1 e=>hs₈.extBut _ _ c1 (hs₉.extBut _ _ c1 (Heap.get?_push_of_some _ e))
 have hT₈:IsTrip h₈ h₇.objs.size x y v:=hs₈.extBut _ _ (Nat.ne_of_gt hzlt) (hs₉.extBut _ _ (Nat.ne_of_gt hzlt) (Heap.get?_push_size _ rfl))
 rw [hsz] at hz₈ hT₈
 refine wpAny_pure (w11 _ rfl ?_)
 show Q (.ref h₇.objs.size) _
 rw [hsz]
 exact hQ h₈ hz₈ (up _ _ D.TOz hTO₇) (h1₇.at fun o e=>up _ o D.i1z e) (h2₇.at fun o e=>up _ o D.i2z e) (h3₇.at fun o e=>up _ o D.i3z e) hT₈ fun c o c1 c2 c3 c4 c5 e=>up c o c1 (hk₇ c o c1 c2 c3 c4 c5 e)
theorem zip3_end {z TI TO i1 i2 i3 l1 l2 l3:Addr} {k:Nat} {xs:Array Value} {a b c:Value} {Q:Fin→Shared→Prop} (hh:A.handled=none) (D:ZipApart3 z TI TO i1 i2 i3 l1 l2 l3)
  (hz:IsZip s.heap z TI TO .none) (hTI:IsTrip s.heap TI (.ref i1) (.ref i2) (.ref i3)) (hTO:IsTrip s.heap TO a b c)
  (h1:s.heap.IsListIter i1 l1 k) (hl1:s.heap.IsList l1 xs) (hx:xs[k]?=none)
  (hE:∀ h' e,(∀ c o,c≠z→c≠TO→c≠i1→s.heap.get? c=some o→h'.get? c=some o)→(∃ o,h'.get? e=some o∧o.cls=.type "StopIteration")→E (.ref e) { s with heap:=h' }) :
  wpAny (model prog w) A (Builtin.«zip.__next__» ⟨[.ref z],[]⟩) Q E s:=by
 show wpAny _ _ (field (.ref z) 2 >>= _) _ _ _
 refine wpAny_bind (wpAny_field hz rfl (x:=.bool false) rfl ?_)
 show wpAny _ _ (field (.ref z) 3 >>= _) _ _ _
 refine wpAny_bind (wpAny_field hz rfl (x:=.ref TI) rfl ?_)
 refine wpAny_bind (wpAny_seqItems hTI rfl ?_)
 show wpAny _ _ (Builtin.SmallTypes.ownedTupleIsFree (.ref z) >>= _) _ _ _
 refine wpAny_bind ?_
 unfold Builtin.SmallTypes.ownedTupleIsFree
 refine wpAny_bind (wpAny_field hz rfl (x:=.none) rfl (wpAny_pure ?_))
 simp -iota only [if_true]
 refine wpAny_bind (wpAny_rule ?_)
 refine wpAny_bind (wpAny_field hz rfl (x:=.ref TO) rfl ?_)
 refine wpAny_bind (wpAny_setField_rec hz (by simp) fun h₁ hz₁ hs₁=>?_)
 replace hz₁:IsZip h₁ z TI TO .ellipsis:=hz₁
 refine wpAny_bind ?_
 simp -iota only [List.zipIdx_cons,List.zipIdx_nil,List.forIn_cons,List.forIn_nil]
 refine wpAny_bind (wpAny_bind (wpAny_onRaise ?_))
 show wpAny _ _ (Builtin.SmallTypes.nextOf (.ref i1) >>= _) _ _ _
 refine wpAny_bind (wpAny_nextOf_list_end hh (h1.extBut hs₁.extBut D.i1z) (hl1.extBut hs₁.extBut D.l1z) hx fun h₂ e hs₂ he=>?_)
 refine u11 he fun oe hoe hce=>?_; clear he
 have hz₂:IsZip h₂ z TI TO .ellipsis:=hs₂ _ _ D.i1z.symm hz₁
 have hez:e≠z:=fun x=>by subst x; rw [hz₂] at hoe; cases hoe; simp at hce
 refine wpAny_setField_rec hz₂ (by simp) fun h₃ _ hs₃=>hE h₃ e (fun c o c1 _ c3 x=>hs₃.extBut _ _ c1 (hs₂ _ _ c3 (hs₁.extBut _ _ c1 x))) (w11 oe (hs₃.extBut _ _ hez hoe) hce)
theorem zip3_new (l1 l2 l3:Addr) (xs ys zs:Array Value) :
  Meets (Builtin.«zip.__new__» ⟨[.type "zip", .ref l1,.ref l2,.ref l3],[]⟩) (fun _ R s=>s.heap.IsList l1 xs∧s.heap.IsList l2 ys∧s.heap.IsList l3 zs ∧
   R (.ok (.ret (.ref (s.heap.objs.size+5)))) { s with heap:=(((((s.heap.push { cls:=.type "list_iterator", data:=.fields #[.ref l1,.int 0 0] }).push { cls:=.type "list_iterator", data:=.fields #[.ref l2,.int 0 0] }).push { cls:=.type "list_iterator", data:=.fields #[.ref l3,.int 0 0] }).push
    { cls:=.type "tuple", data:=.seq #[.ref s.heap.objs.size,.ref (s.heap.objs.size+1),.ref (s.heap.objs.size+2)] }).push { cls:=.type "tuple", data:=.seq #[.none,.none,.none] }).push { cls:=.type "zip", data:=.fields #[.none,.bool false,.bool false,.ref (s.heap.objs.size+3),.ref (s.heap.objs.size+4)] } }) :=
 .of_wp fun prog w A R s h=>by
  obtain ⟨hp,g,d,tk,os⟩:=s; obtain ⟨hl1,hl2,hl3,h⟩:=h
  have hsub:=sub_zip
  have hL1:Heap.IsList (Shared.heap ⟨hp,g,d,tk,os⟩) l1 xs:=hl1
  have hL2:Heap.IsList (Shared.heap ⟨hp.push { cls:=.type "list_iterator", data:=.fields #[.ref l1,.int 0 0] },g,d,tk,os⟩) l2 ys:=Heap.IsList.push hl2 _
  have hL3:Heap.IsList (Shared.heap ⟨(hp.push { cls:=.type "list_iterator", data:=.fields #[.ref l1,.int 0 0] }).push { cls:=.type "list_iterator", data:=.fields #[.ref l2,.int 0 0] },g,d,tk,os⟩) l3 zs:=Heap.IsList.push (Heap.IsList.push hl3 _) _
  wp_walk using wpAny_pyIter_list hL1,wpAny_pyIter_list hL2,wpAny_pyIter_list hL3
  simp -iota only [Heap.size_push] at h ⊢
  exact (w11 _ rfl h)
theorem wpAny_pyNext_zip3_item {z TI TO i1 i2 i3 l1 l2 l3:Addr} {k:Nat} {xs ys zs:Array Value} {x y v a b c:Value} {Q:Option Value→Shared→Prop} (D:ZipApart3 z TI TO i1 i2 i3 l1 l2 l3)
  (hz:IsZip s.heap z TI TO .none) (hTI:IsTrip s.heap TI (.ref i1) (.ref i2) (.ref i3)) (hTO:IsTrip s.heap TO a b c)
  (h1:s.heap.IsListIter i1 l1 k) (h2:s.heap.IsListIter i2 l2 k) (h3:s.heap.IsListIter i3 l3 k) (hl1:s.heap.IsList l1 xs) (hl2:s.heap.IsList l2 ys) (hl3:s.heap.IsList l3 zs) (hx:xs[k]?=some x) (hy:ys[k]?=some y) (hv:zs[k]?=some v)
  (hQ:∀ h',IsZip h' z TI TO (rawInt s.heap.objs.size)→IsTrip h' TO x y v→h'.IsListIter i1 l1 (k+1)→h'.IsListIter i2 l2 (k+1)→h'.IsListIter i3 l3 (k+1)→IsTrip h' s.heap.objs.size x y v →
   (∀ c o,c≠z→c≠TO→c≠i1→c≠i2→c≠i3→s.heap.get? c=some o→h'.get? c=some o)→Q (some (.ref s.heap.objs.size)) { s with heap:=h' }) :
  wpAny (model prog w) A (pyNext (.ref z)) Q E s:=by
 have hT:s.TypeIs (.ref z) "zip" := (w11 _ hz rfl)
 unfold pyNext
 exact wpAny_bind (wpAny_attempt (wpAny_callSpecial?_slot (name:=Str.ofString "__next__") hT PySem.F.slot_zip_next
  (wpAny_call_entry PySem.F.slot_zip_next hT PySem.F.entry_zip_next
   (zip3_next D hz hTI hTO h1 h2 h3 hl1 hl2 hl3 hx hy hv fun h' a1 a2 a3 a4 a5 a6 a7=>wpAny_pure (hQ h' a1 a2 a3 a4 a5 a6 a7)) (PySem.F.args_zip_next_1 _))))
theorem wpAny_pyNext_zip3_end {z TI TO i1 i2 i3 l1 l2 l3:Addr} {k:Nat} {xs:Array Value} {a b c:Value} {Q:Option Value→Shared→Prop} (hh:A.handled=none) (D:ZipApart3 z TI TO i1 i2 i3 l1 l2 l3)
  (hz:IsZip s.heap z TI TO .none) (hTI:IsTrip s.heap TI (.ref i1) (.ref i2) (.ref i3)) (hTO:IsTrip s.heap TO a b c)
  (h1:s.heap.IsListIter i1 l1 k) (hl1:s.heap.IsList l1 xs) (hx:xs[k]?=none)
  (hQ:∀ h',(∀ c o,c≠z→c≠TO→c≠i1→s.heap.get? c=some o→h'.get? c=some o)→Q none { s with heap:=h' }):wpAny (model prog w) A (pyNext (.ref z)) Q E s:=by
 have hT:s.TypeIs (.ref z) "zip" := (w11 _ hz rfl)
 unfold pyNext
 refine wpAny_bind (wpAny_attempt (wpAny_callSpecial?_slot (name:=Str.ofString "__next__") hT PySem.F.slot_zip_next
  (wpAny_call_entry PySem.F.slot_zip_next hT PySem.F.entry_zip_next (zip3_end hh D hz hTI hTO h1 hl1 hx fun h' e hk he=>?_) (PySem.F.args_zip_next_1 _))))
 refine u11 he fun o ho hc=>?_; clear he
 refine wpAny_bind (wpAny_isInstance (T := "StopIteration") (b:=true) (w11 o ho hc) isSubtype_stop ?_)
 exact wpAny_pure (hQ _ hk)
theorem call_zip_3 {l1 l2 l3:Addr} {xs ys zs:Array Value} {Q:Value→Shared→Prop} (hl1:s.heap.IsList l1 xs) (hl2:s.heap.IsList l2 ys) (hl3:s.heap.IsList l3 zs)
  (h:∀ h',IsZip h' (s.heap.objs.size+5) (s.heap.objs.size+3) (s.heap.objs.size+4) .none→IsTrip h' (s.heap.objs.size+3) (.ref s.heap.objs.size) (.ref (s.heap.objs.size+1)) (.ref (s.heap.objs.size+2)) →
   IsTrip h' (s.heap.objs.size+4) .none .none .none→h'.IsListIter s.heap.objs.size l1 0→h'.IsListIter (s.heap.objs.size+1) l2 0→h'.IsListIter (s.heap.objs.size+2) l3 0→Kp s.heap h'→Q (.ref (s.heap.objs.size+5)) { s with heap:=h' }) :
  wpAny (model prog w) A (call (.type "zip") [.ref l1,.ref l2,.ref l3]) Q E s:=by
 refine callType_new PySem.F.called_zip (by decide) (Z3.typeCall_zip_3 _ _ _) (Z3.newCall_zip_3 _ _ _) (fun obj=>Z3.args_object_init_4 obj _ _ _) PySem.F.entry_zip_new
  (zip3_new l1 l2 l3 xs ys zs) ⟨hl1,hl2,hl3,?_⟩
 obtain ⟨n,hn⟩:∃ n,n=s.heap.objs.size:=⟨_,rfl⟩
 obtain ⟨o1,e1⟩:∃ o:Obj,o={ cls:=.type "list_iterator", data:=.fields #[.ref l1,.int 0 0] }:=⟨_,rfl⟩
 obtain ⟨o2,e2⟩:∃ o:Obj,o={ cls:=.type "list_iterator", data:=.fields #[.ref l2,.int 0 0] }:=⟨_,rfl⟩
 obtain ⟨o3,e3⟩:∃ o:Obj,o={ cls:=.type "list_iterator", data:=.fields #[.ref l3,.int 0 0] }:=⟨_,rfl⟩
 obtain ⟨o4,e4⟩:∃ o:Obj,o={ cls:=.type "tuple", data:=.seq #[.ref s.heap.objs.size,.ref (s.heap.objs.size+1),.ref (s.heap.objs.size+2)] }:=⟨_,rfl⟩
 obtain ⟨o5,e5⟩:∃ o:Obj,o={ cls:=.type "tuple", data:=.seq #[.none,.none,.none] }:=⟨_,rfl⟩
 obtain ⟨o6,e6⟩:∃ o:Obj,o={ cls:=.type "zip", data:=.fields #[.none,.bool false,.bool false,.ref (s.heap.objs.size+3),.ref (s.heap.objs.size+4)] }:=⟨_,rfl⟩
 rw [← e1,← e2,← e3,← e4,← e5,← e6]
 have p:∀ (h:Heap) (o o':Obj) (a:Addr),h.get? a=some o→(h.push o').get? a=some o:=fun h o o' a e=>Heap.get?_push_of_some _ e
 have q:∀ (h:Heap) (o:Obj) (a:Addr),h.objs.size=a→o.isFreed=false→(h.push o).get? a=some o:=fun h o a e f=>e▸Heap.get?_push_size h f
 have z1:(s.heap.push o1).objs.size=s.heap.objs.size+1:=Heap.size_push ..
 have z2:((s.heap.push o1).push o2).objs.size=s.heap.objs.size+2:=by rw [Heap.size_push,z1]
 have z3:(((s.heap.push o1).push o2).push o3).objs.size=s.heap.objs.size+3:=by rw [Heap.size_push,z2]
 have z4:((((s.heap.push o1).push o2).push o3).push o4).objs.size=s.heap.objs.size+4:=by rw [Heap.size_push,z3]
 have z5:(((((s.heap.push o1).push o2).push o3).push o4).push o5).objs.size=s.heap.objs.size+5:=by rw [Heap.size_push,z4]
 generalize hH:(((((s.heap.push o1).push o2).push o3).push o4).push o5).push o6=H
 have g6:H.get? (s.heap.objs.size+5)=some o6:=hH▸q _ _ _ z5 (e6▸rfl)
 have g5:H.get? (s.heap.objs.size+4)=some o5:=hH▸p _ _ _ _ (q _ _ _ z4 (e5▸rfl))
 have g4:H.get? (s.heap.objs.size+3)=some o4:=hH▸p _ _ _ _ (p _ _ _ _ (q _ _ _ z3 (e4▸rfl)))
 have g3:H.get? (s.heap.objs.size+2)=some o3:=hH▸p _ _ _ _ (p _ _ _ _ (p _ _ _ _ (q _ _ _ z2 (e3▸rfl))))
 have g2:H.get? (s.heap.objs.size+1)=some o2:=hH▸p _ _ _ _ (p _ _ _ _ (p _ _ _ _ (p _ _ _ _ (q _ _ _ z1 (e2▸rfl)))))
 have g1:H.get? s.heap.objs.size=some o1:=hH▸p _ _ _ _ (p _ _ _ _ (p _ _ _ _ (p _ _ _ _ (p _ _ _ _ (q _ _ _ rfl (e1▸rfl))))))
 have gk:Kp s.heap H:=fun b o e=>hH▸p _ _ _ _ (p _ _ _ _ (p _ _ _ _ (p _ _ _ _ (p _ _ _ _ (p _ _ _ _ e)))))
 rw [e6] at g6
 rw [e5] at g5
 rw [e4] at g4
 rw [e3] at g3
 rw [e2] at g2
 rw [e1] at g1
 exact ⟨(w11 _ g6 rfl),h H g6 g4 g5 (w12 _ g1 rfl rfl) (w12 _ g2 rfl rfl) (w12 _ g3 rfl rfl) gk⟩
theorem WalksT.zip3 (hh:A.handled=none) (z TI TO i1 i2 i3 l1 l2 l3:Addr) (D:ZipApart3 z TI TO i1 i2 i3 l1 l2 l3) (xs ys zs:Array Value) (hy:ys.size=xs.size) (hz:zs.size=xs.size) :
  WalksT prog w A z [z,TI,TO,i1,i2,i3,l1,l2,l3] [z,TO,i1,i2,i3] xs.size
   (fun i vals=>∃ x y v,xs[i]?=some x∧ys[i]?=some y∧zs[i]?=some v∧vals=#[x,y,v])
   (fun i h=>IsZip h z TI TO .none∧IsTrip h TI (.ref i1) (.ref i2) (.ref i3)∧(∃ a b c,IsTrip h TO a b c)∧h.IsListIter i1 l1 i∧h.IsListIter i2 l2 i∧h.IsListIter i3 l3 i∧h.IsList l1 xs∧h.IsList l2 ys∧h.IsList l3 zs)
   (fun i T h=>IsZip h z TI TO (rawInt T)∧IsTrip h TI (.ref i1) (.ref i2) (.ref i3)∧(∃ a b c,IsTrip h TO a b c)∧h.IsListIter i1 l1 (i+1)∧h.IsListIter i2 l2 (i+1)∧h.IsListIter i3 l3 (i+1)∧h.IsList l1 xs∧h.IsList l2 ys∧h.IsList l3 zs ∧
    T≠z∧T≠TO∧T≠i1∧T≠i2∧T≠i3) where
 sub:=fun c hc=>(List.Sublist.cons_cons z (.cons TI (.cons_cons TO (.cons_cons i1 (.cons_cons i2 (.cons_cons i3 (List.nil_sublist _))))))).subset hc
 frame:=fun i h h' hst hk=>by
  refine u08 hst fun hz hTI z0 h1 h2 h3 hl1 hl2 hl3=>?_; clear hst; refine u30 z0 fun a b c hTO=>?_; clear z0
  exact ⟨hk z (.head _) _ hz,hk TI (.tail _ (.head _)) _ hTI,(w30 a b c (hk TO (.tail _ (.tail _ (.head _))) _ hTO)),h1.at fun o e=>hk i1 (.tail _ (.tail _ (.tail _ (.head _)))) o e,h2.at fun o e=>hk i2 (.tail _ (.tail _ (.tail _ (.tail _ (.head _))))) o e,h3.at fun o e=>hk i3 (.tail _ (.tail _ (.tail _ (.tail _ (.tail _ (.head _)))))) o e,
   hl1.at fun o e=>hk l1 (.tail _ (.tail _ (.tail _ (.tail _ (.tail _ (.tail _ (.head _))))))) o e,hl2.at fun o e=>hk l2 (.tail _ (.tail _ (.tail _ (.tail _ (.tail _ (.tail _ (.tail _ (.head _)))))))) o e,hl3.at fun o e=>hk l3 (.tail _ (.tail _ (.tail _ (.tail _ (.tail _ (.tail _ (.tail _ (.tail _ (.head _))))))))) o e⟩
 item:=fun i s Q E hi hst hQ=>by
  refine u08 hst fun hz' hTI z0 h1 h2 h3 hl1 hl2 hl3=>?_; clear hst; refine u30 z0 fun a b c hTO=>?_; clear z0
  have hiy:i<ys.size:=hy▸hi
  have hiz:i<zs.size:=hz▸hi
  refine wpAny_pyNext_zip3_item D hz' hTI hTO h1 h2 h3 hl1 hl2 hl3 (Array.getElem?_eq_getElem hi) (Array.getElem?_eq_getElem hiy) (Array.getElem?_eq_getElem hiz) fun h' a1 a2 a3 a4 a5 a6 hk=>?_
  have lt:∀ {c o},s.heap.get? c=some o→s.heap.objs.size≠c:=fun e=>Nat.ne_of_gt (Heap.lt_size e)
  exact hQ s.heap.objs.size #[xs[i],ys[i],zs[i]] h' s.toks (w33 _ _ _ (Array.getElem?_eq_getElem hi) (Array.getElem?_eq_getElem hiy) (Array.getElem?_eq_getElem hiz) rfl) (Nat.le_refl _) (w12 _ a6 rfl ⟨_,rfl⟩)
   ⟨a1,hk _ _ D.TIz D.TITO D.TIi1 D.TIi2 D.TIi3 hTI,(w30 _ _ _ a2),a3,a4,a5,hl1.at fun o e=>hk _ o D.l1z D.l1TO D.l1i1 D.l1i2 D.l1i3 e,hl2.at fun o e=>hk _ o D.l2z D.l2TO D.l2i1 D.l2i2 D.l2i3 e,hl3.at fun o e=>hk _ o D.l3z D.l3TO D.l3i1 D.l3i2 D.l3i3 e,
    lt hz',lt hTO,(by obtain ⟨_,e,_⟩:=h1; exact lt e),(by obtain ⟨_,e,_⟩:=h2; exact lt e),(by obtain ⟨_,e,_⟩:=h3; exact lt e)⟩
   fun c o hc e=>hk c o (fun x=>hc (x▸.head _)) (fun x=>hc (x▸.tail _ (.head _))) (fun x=>hc (x▸.tail _ (.tail _ (.head _)))) (fun x=>hc (x▸.tail _ (.tail _ (.tail _ (.head _))))) (fun x=>hc (x▸.tail _ (.tail _ (.tail _ (.tail _ (.head _)))))) e
 go:=fun elts k pos i T s Q E hm hQ=>by
  refine u09 hm fun hz hTI z0 h1 h2 h3 hl1 hl2 hl3 _=>?_; clear hm; refine u30 z0 fun a b c hTO=>?_; clear z0
  refine wpAny_letOwnedTupleGo_zip hz fun h' hz' hs'=>hQ h' ⟨hz',hs'.extBut _ _ D.TIz hTI,(w30 a b c (hs'.extBut _ _ D.TOz hTO)),h1.extBut hs'.extBut D.i1z,h2.extBut hs'.extBut D.i2z,h3.extBut hs'.extBut D.i3z,
   hl1.extBut hs'.extBut D.l1z,hl2.extBut hs'.extBut D.l2z,hl3.extBut hs'.extBut D.l3z⟩ fun c o hc e=>hs'.extBut _ _ (fun x=>hc (by simp [x])) e
 apart:=fun i T h hm hT=>by
  obtain ⟨_,_,_,_,_,_,_,_,_,t1,t2,t3,t4,t5⟩:=hm
  simp at hT
  rcases hT with rfl | rfl | rfl | rfl | rfl
  ·exact t1 rfl
  ·exact t2 rfl
  ·exact t3 rfl
  ·exact t4 rfl
  ·exact t5 rfl
 done:=fun s Q E hst hQ=>by
  refine u08 hst fun hz hTI z0 h1 h2 h3 hl1 hl2 hl3=>?_; clear hst; refine u30 z0 fun a b c hTO=>?_; clear z0
  exact wpAny_pyNext_zip3_end hh D hz hTI hTO h1 hl1 (Array.getElem?_eq_none (Nat.le_refl _)) fun h' hk=>hQ h' s.toks fun c o hc e =>
   hk c o (fun x=>hc (by simp [x])) (fun x=>hc (by simp [x])) (fun x=>hc (by simp [x])) e
 self:=fun i s Q E hst hQ=>wpAny_pyIter_zip hst.1 hQ
end
section
variable {prog:Program} {w:World} {A:Around} {g:Heap} {env:Env} {l:List (Str × Value)} {own:List (Addr × List Value)}
theorem Dr.three {x y z:Str} {px py pz pt:Pos} {k:Nat} {I:Addr} {fp wr:List Addr} {n:Nat} {Pt:Nat→Array Value→Prop} {W:Nat→Heap→Prop} {Mid:Nat→Addr→Heap→Prop} (hh:A.handled=none)
  (K:WalksT prog w A I fp wr n Pt W Mid) (P3:Nat→Value→Value→Value→Prop) (h3:∀ i vals,Pt i vals→∃ v0 v1 v2,vals=#[v0,v1,v2]∧P3 i v0 v1 v2) (hwr:∀ b∈wr,g.get? b=none)
  (hx:env.kindOf x=some .local) (hy:env.kindOf y=some .local) (hz:env.kindOf z=some .local) (hp:(env.scope.kind == .class || (env.scope.kind == .module && env.locals != env.globals))=false) :
  Dr prog w A g env (.Tuple [.Name x px,.Name y py,.Name z pz] k pt) I fp n W (fun i b=>∃ v u t,P3 i v u t∧b=[(z,t),(y,u),(x,v)]) where
 frame:=K.frame
 item:=fun i s l own Q E hi hW F hof hL hQ=>by
  refine K.item i s _ E hi hW fun T vals h₁ tk₁ hPt _ hT hMid hk₁=>?_
  refine u31 (h3 i vals hPt) fun v0 v1 v2 z0 hP3=>?_; subst z0
  have hLw:env.locals∉wr:=fun h=>hL (K.sub _ h)
  have how:∀ p∈own,p.1∉wr:=fun p hp h=>hof p hp (K.sub _ h)
  have F₁:=F.but hk₁ hwr hLw how
  refine K.go _ k pt i T _ _ _ hMid fun h₂ hW₂ hk₂=>?_
  have F₂:St g env.locals h₂ l own:=F₁.but hk₂ hwr hLw how
  have ht₂:h₂.IsTuple T #[v0,v1,v2]:=hT.at fun o e=>hk₂ T o (K.apart i T h₁ hMid) e
  refine wpAny_assign_Tuple hh ht₂ rfl rfl fun h₃ hx₃=>?_
  have up₃:∀ b o,h₂.get? b=some o→h₃.get? b=some o:=fun b o x=>hx₃ b o (Nat.ne_of_lt (Heap.lt_size x)) x
  have F₃:=F₂.keeps up₃
  have one:∀ {z:Str} {pz:Pos} {v:Value} {h:Heap} {l:List (Str × Value)} {s':Shared} {Q:Unit→Shared→Prop},env.kindOf z=some .local→St g env.locals s'.heap l own →
    (∀ h',St g env.locals h' ((z,v)::l) own→Heap.SameBut env.locals s'.heap h'→Q () { s' with heap:=h',toks:=s'.toks+1 }) →
    wpAny (model prog w) A (assign (.Name z pz) env v) Q E s':=by
   intro z pz v h l s' Q hz F hQ
   refine PyProof.Rows.assign_Name ?_
   refine u11 F.fl fun m hn hm=>?_
   refine wpAny_storeName_local hz hn (fun h₂ hn₂ hs₂=>hQ h₂ (F.store hs₂ fun m' hm'=>?_) hs₂) hp
   have:m'=m:=by
    refine u33 hn fun o es ep h1 h2 h3 h4=>?_; clear hn
    refine u33 hm' fun o' es' ep' h1' h2' h3' h4'=>?_; clear hm'
    have q1:o=o':=Option.some.inj (h1.symm.trans h1')
    subst q1
    rw [h2] at h2'; cases h2'
    funext y
    rw [← h4 y,← h4' y]
   subst this
   exact hn₂
  show wpAny _ A (do holding [v1,v2] (assign (.Name x px) env v0); do holding [v2] (assign (.Name y py) env v1); do holding [] (assign (.Name z pz) env v2); pure ()) _ _ _
  refine wpAny_bind (wpAny_holding (one (h:=h₃) hx F₃ fun h₄ F₄ hs₄=>?_))
  refine wpAny_bind (wpAny_holding (one (h:=h₃) hy F₄ fun h₅ F₅ hs₅=>?_))
  refine wpAny_bind (wpAny_holding (one (h:=h₃) hz F₅ fun h₆ F₆ hs₆=>wpAny_pure ?_))
  exact hQ _ h₆ _ (w31 v0 v1 v2 hP3 rfl) (K.frame _ _ _ hW₂ fun b hb o e=>hs₆.extBut b o (fun q=>hL (q▸hb)) (hs₅.extBut b o (fun q=>hL (q▸hb)) (hs₄.extBut b o (fun q=>hL (q▸hb)) (up₃ b o e)))) F₆
 done:=fun s l own Q E hW F hof hL hQ=>by
  refine K.done s _ E hW fun h' tk hk=>hQ h' tk ?_
  exact F.but hk hwr (fun h=>hL (K.sub _ h)) fun p hp h=>hof p hp (K.sub _ h)
end
theorem zapart3 (m d₁ d₂ d₃ z TI TO i1 i2 i3:Nat) (e1:z=m+5) (e2:TI=m+3) (e3:TO=m+4) (e4:i1=m) (e5:i2=m+1) (e6:i3=m+2) (h₁:d₁<m) (h₂:d₂<m) (h₃:d₃<m):ZipApart3 z TI TO i1 i2 i3 d₁ d₂ d₃:=by
 constructor <;> (intro e; have e':@Eq Nat _ _:=e; (first | exact q3 0x4c00c42558c014a006229aa3005200224a 1 38 (by kernel_rfl) e1 e2 e' | exact q3 0x9801884aa0c014a00622aaa3005200224a 1 38 (by kernel_rfl) e1 e3 e' | exact q3 0x13003109542006217aa3005200224a 1 38 (by kernel_rfl) e1 e4 e' | exact q3 0x26006212a8c014a006228aa3005200224a 1 38 (by kernel_rfl) e1 e5 e' | exact q3 0x4c00c42550c014a006229aa3005200224a 1 38 (by kernel_rfl) e1 e6 e' | exact q3 0x4c00042550600a5003115563005200223a 1 41 (by kernel_rfl) e2 e3 e' | exact q3 0x9800084aa100310bd63005200223a 1 22 (by kernel_rfl) e2 e4 e' | exact q3 0x1300010954600a5003114563005200223a 1 22 (by kernel_rfl) e2 e5 e' | exact q3 0x26000212a8600a5003114d63005200223a 1 22 (by kernel_rfl) e2 e6 e' | exact q3 0x13000109542006217a83005200224a 1 22 (by kernel_rfl) e3 e4 e' | exact q3 0x26000212a8c014a006228a83005200224a 1 22 (by kernel_rfl) e3 e5 e' | exact q3 0x4c00042550c014a006229a83005200224a 1 22 (by kernel_rfl) e3 e6 e' | exact q3 0x4c000425518029400c4515000211a 1 41 (by kernel_rfl) e4 e5 e' | exact q3 0x9800084aa18029400c4535000211a 1 41 (by kernel_rfl) e4 e6 e' | exact q3 0x13000109543005280188a6a3005200222a 1 41 (by kernel_rfl) e5 e6 e' | exact q3 0x13003109542006117aa3005200224a 1 22 (by kernel_rfl) e1 h₁ e' | exact q3 0x13003109542006117a83005200224a 1 22 (by kernel_rfl) e3 h₁ e' | exact q3 0x26006212a8400c22f5000211a 1 22 (by kernel_rfl) e4 h₁ e' | exact q3 0x4c00c42550801845ea3005200222a 1 22 (by kernel_rfl) e5 h₁ e' | exact q3 0x9801884aa100308bd43005200223a 1 22 (by kernel_rfl) e6 h₁ e' | exact q3 0x13003109542006117aa3005200224a 1 22 (by kernel_rfl) e1 h₂ e' | exact q3 0x13003109542006117a83005200224a 1 22 (by kernel_rfl) e3 h₂ e' | exact q3 0x26006212a8400c22f5000211a 1 22 (by kernel_rfl) e4 h₂ e' | exact q3 0x4c00c42550801845ea3005200222a 1 22 (by kernel_rfl) e5 h₂ e' | exact q3 0x9801884aa100308bd43005200223a 1 22 (by kernel_rfl) e6 h₂ e' | exact q3 0x13003109542006117aa3005200224a 1 22 (by kernel_rfl) e1 h₃ e' | exact q3 0x13003109542006117a83005200224a 1 22 (by kernel_rfl) e3 h₃ e' | exact q3 0x26006212a8400c22f5000211a 1 22 (by kernel_rfl) e4 h₃ e' | exact q3 0x4c00c42550801845ea3005200222a 1 22 (by kernel_rfl) e5 h₃ e' | exact q3 0x9801884aa100308bd43005200223a 1 22 (by kernel_rfl) e6 h₃ e'))
section
variable {prog:Program} {w:World} {A:Around} {E:Value→Shared→Prop} {g:Heap} {name:Str} {scope:Scope} {L f:Addr} {cd:Value} {cl:List (Str × Addr)} {l:List (Str × Value)} {own:List (Addr × List Value)} {s:Shared} {R:Result→Shared→Prop} {body:List Stmt}
theorem itZ3 {x y z:Str} {px py pz pt:Pos} {k:Nat} {D₁ D₂ D₃:Addr} {vs us ts:List Value} (hn₂:us.length=vs.length) (hn₃:ts.length=vs.length)
  (Inv:Nat→List (Str × Value)→List (Addr × List Value)→Prop) (Brk:List (Str × Value)→List (Addr × List Value)→Prop)
  (hh:A.handled=none) (F:St g L s.heap l own) (hl₁:g.IsList D₁ vs.toArray) (hl₂:g.IsList D₂ us.toArray) (hl₃:g.IsList D₃ ts.toArray) (h0:Inv 0 l own)
  (turn:∀ i v u t l₁ own₁ g' h tk E' Qt,OutL Qt (Turn g' L R (Inv (i+1)) Brk (own₁.map (·.1)) s)→vs[i]?=some v→us[i]?=some u→ts[i]?=some t→Inv i l₁ own₁→Kp g g'→St g' L h ((z,t)::(y,u)::(x,v)::l₁) own₁ →
   wpAny (model prog w) A (execs body (envX name scope L f cd cl)) Qt E' { s with heap:=h,toks:=tk })
  (fin:∀ l₁ own₁ h tk,Inv vs.length l₁ own₁∨Brk l₁ own₁→St g L h l₁ own₁→R (.ok .next) { s with heap:=h,toks:=tk })
  (hk:scope.kind=.function:=by rfl) (hx:(envX name scope L f cd cl).kindOf x=some .local:=by rfl) (hy:(envX name scope L f cd cl).kindOf y=some .local:=by rfl) (hz:(envX name scope L f cd cl).kindOf z=some .local:=by rfl) :
  wpAny (model prog w) A (call (.type "zip") [.ref D₁,.ref D₂,.ref D₃]) (fun v s₁=>wpAny (model prog w) A (pyIter v) (fun it s₂=>codeAny (model prog w) A (.forLoop (.Tuple [.Name x px,.Name y py,.Name z pz] k pt) it body [] (envX name scope L f cd cl)) R s₂) E s₁) E s:=by
 refine u03 (listL F hl₁) fun hls₁ hlt₁ hDL₁ hDo₁=>?_
 refine u03 (listL F hl₂) fun hls₂ hlt₂ hDL₂ hDo₂=>?_
 refine u03 (listL F hl₃) fun hls₃ hlt₃ hDL₃ hDo₃=>?_
 refine call_zip_3 hls₁ hls₂ hls₃ fun h' hzz hTI hTO hi1 hi2 hi3 hk'=>?_
 have nn:∀ j,s.heap.get? (s.heap.objs.size+j)=none:=fun j=>Heap.get?_none_of_le (Nat.le_add_right _ _)
 have hb:∀ b∈[s.heap.objs.size+5,s.heap.objs.size+3,s.heap.objs.size+4,s.heap.objs.size,s.heap.objs.size+1,s.heap.objs.size+2],s.heap.get? b=none:=by
  intro b hb
  simp -iota only [List.mem_cons,List.mem_nil_iff,or_false] at hb
  rcases hb with rfl | rfl | rfl | rfl | rfl | rfl
  ·exact nn 5
  ·exact nn 3
  ·exact nn 4
  ·exact nn 0
  ·exact nn 1
  ·exact nn 2
 have F':=F.keeps hk'
 refine wpAny_pyIter_zip hzz ?_
 have W:=WalksT.zip3 (prog:=prog) (w:=w) hh (s.heap.objs.size+5) (s.heap.objs.size+3) (s.heap.objs.size+4) s.heap.objs.size (s.heap.objs.size+1) (s.heap.objs.size+2) D₁ D₂ D₃
  (zapart3 _ D₁ D₂ D₃ _ _ _ _ _ _ rfl rfl rfl rfl rfl rfl hlt₁ hlt₂ hlt₃) vs.toArray us.toArray ts.toArray (by simpa using hn₂) (by simpa using hn₃)
 have mem:∀ b,b∈[s.heap.objs.size+5,s.heap.objs.size+3,s.heap.objs.size+4,s.heap.objs.size,s.heap.objs.size+1,s.heap.objs.size+2,D₁,D₂,D₃] →
   b∈[s.heap.objs.size+5,s.heap.objs.size+3,s.heap.objs.size+4,s.heap.objs.size,s.heap.objs.size+1,s.heap.objs.size+2]∨b=D₁∨b=D₂∨b=D₃:=by
  intro b hb
  simp -iota only [List.mem_cons,List.mem_nil_iff,or_false] at hb ⊢
  rcases hb with h | h | h | h | h | h | h | h | h <;> simp [h]
 refine forC (s:={ s with heap:=h' }) Inv Brk
  (Dr.three hh W (fun i v u t=>vs[i]?=some v∧us[i]?=some u∧ts[i]?=some t) ?_ ?_ hx hy hz (by show (scope.kind == .class || (scope.kind == .module && L != mainGlobals))=false; rw [hk]; rfl)) F'
  ⟨hzz,hTI,(w30 _ _ _ hTO),hi1,hi2,hi3,hls₁.at fun o e=>hk' _ _ e,hls₂.at fun o e=>hk' _ _ e,hls₃.at fun o e=>hk' _ _ e⟩ ?_ ?_ h0 ?_ ?_
 ·intro i vals y0; refine u33 y0 fun v u t hv hu ht z0=>?_; clear y0; subst z0
  exact (w33 _ _ _ rfl (by simpa using hv) (by simpa using hu) (by simpa using ht))
 ·intro b hm
  refine (noI F (hb b ?_)).1
  simp -iota only [List.mem_cons,List.mem_nil_iff,or_false] at hm ⊢
  rcases hm with h | h | h | h | h <;> simp [h]
 ·intro p hp hm
  rcases mem _ hm with h | h | h | h
  ·exact (noI F (hb _ h)).2.2 p hp rfl
  ·exact hDo₁ p hp h
  ·exact hDo₂ p hp h
  ·exact hDo₃ p hp h
 ·intro hm
  rcases mem _ hm with h | h | h | h
  ·exact (noI F (hb _ h)).2.1 rfl
  ·exact hDL₁ h.symm
  ·exact hDL₂ h.symm
  ·exact hDL₃ h.symm
 ·intro i _ l₁ own₁ g' h tk E' hi y0; refine u31 y0 fun v u t z0 z1=>?_; clear y0; refine u02 z0 fun hv hu ht=>?_; clear z0; subst z1; intro hI k F₁
  exact turn i v u t l₁ own₁ g' h tk E' _ .same hv hu ht hI k F₁
 ·intro l₁ own₁ h tk hI F₁
  exact fin l₁ own₁ h tk (by simpa using hI) F₁
end
section
variable {prog:Program} {w:World} {mg:Str→Option Value} {A:Around} {E:Value→Shared→Prop} {Q:Flow→Shared→Prop} {s:Shared} {g:Heap} {L f:Addr} {cd:Value} {l:List (Str × Value)} {own:List (Addr × List Value)}
noncomputable abbrev lawEnv (L f:Addr) (cd:Value):Env:=envX "law" F_law.scope L f cd []
noncomputable def Plain (xs:Txts):Prop:=xs.length≤100∧(∀ x∈xs,x.length≤640)∧∀ x∈xs,∀ b∈x,Unicode.isSpace b=bl b
noncomputable abbrev l₀ (Nr Nt Ns:Addr):List (Str × Value):=[("ranked", .ref Nr),("told", .ref Nt),("spots", .ref Ns)]
set_option tactic.hygienic true in
theorem law_b0 {Nr Nt Ns:Addr} (T:TK w mg g) (hm:mg "_platform" = some (.ref 58)) (hc:CodeOf g 58 57) (h57:g.get? 57=some platCode) (hg:g.get? 53=none) (ht:TabO s.heap) (R:Room A 10) {v:Value} (F:St g L s.heap ((("texts" : Str),v)::l₀ Nr Nt Ns) own) {xs:Txts} (hv:Ts g xs v) (hx:Plain xs)
  {sm:Stmt} (hb:law3[0]?=some sm)
  (kx:∀ h gens k t,(AllBare s.gens→AllBare gens)→TabO h→St g L h ((("name" : Str),.str (S (safeN xs)) t)::(("texts" : Str),v)::l₀ Nr Nt Ns) own→Q .next ⟨h,gens,s.drawn,k,s.os⟩) :
  wpAny (model prog w) A (exec sm (lawEnv L f cd)) Q E s:=by
 cases hb
 refine u22 hv fun D vs z0 hD hs=>?_; clear hv; subst z0
 walk_at "ms"
 refine callWith_fnS F_platform T hm ?_
 walk_at "ms"
 refine starL (isL_keeps hD F.keep) (by have:=strsAre_len hs; have:=hx.1; rw [List.length_map] at *; (rename_i z0; exact q2 0x30d40200190600a0395000211a 1 13 (by kernel_rfl) z0 this)) fun h₁ k₁=>?_
 have F₁:=F.keeps k₁
 refine ⟨F₁.keep,?_⟩
 obtain ⟨ps,hct⟩:=(ht.keeps k₁).ct (F₁.keep _ _ h57)
 refine wpAny_mono (platform_spec T F₁.keep hm hc hg hct R hs hx.1 hx.2.1 hx.2.2) (fun r s₂ hr=>?_) fun _ _ e=>e
 obtain ⟨⟨t,rfl⟩,m1,⟨ps',m2⟩,m3,m4,m5⟩:=hr
 obtain ⟨h₂,g₂,d₂,k₂,o₂⟩:=s₂
 dsimp only at m1 m2 m3 m4 m5
 subst m4 m5
 have hL:L≠53:=fun q=>by
  refine u11 F₁.fl fun m Fn _=>?_
  refine u32 Fn fun o es ep h1 h2 _=>?_; clear Fn
  refine u11 (ht.keeps k₁) fun ps e _=>?_
  rw [q] at h1
  have h1:h₁.get? 53=some o:=h1
  rw [e] at h1; cases h1; cases h2
 have hown:∀ p∈own,p.1∉[53]:=fun p hp hm=>by
  obtain ⟨n,hn⟩:=(F₁.ow p hp).2.2
  refine u11 (ht.keeps k₁) fun ps e _=>?_
  rw [List.mem_singleton.mp hm] at hn
  rw [e] at hn; cases hn
 have F₂:St g L h₂ _ own:=F₁.but (wr:=[53]) (fun b o hb e=>m1 b o (fun q=>hb (by simp [q])) e) (fun b hb=>by rw [List.mem_singleton.mp hb]; exact hg) (fun q=>hL (List.mem_singleton.mp q)) hown
 walk_at "ms"
 intro h₃ F₃ e₃
 walk_at "ms"
 exact kx h₃ g₂ _ t m3 (m2.tab.same fun b hb o e=>e₃.extBut b o (fun q=>hL (by rw [← q]; exact List.mem_singleton.mp hb)) e) F₃
noncomputable abbrev Step (s:Shared) (g:Heap) (L:Addr) (l:List (Str × Value)) (own:List (Addr × List Value)) (fl:Flow) (s':Shared):Prop :=
 fl=Flow.next∧∃ h k,s'={ s with heap:=h,toks:=k }∧St g L h l own
theorem law_b1 {Nr Nt Ns:Addr} (T:TK w mg g) (R:Room A 10) {v:Value} {n:List Nat} {t:Tok} (F:St g L s.heap ((("name" : Str),.str (S n) t)::(("texts" : Str),v)::l₀ Nr Nt Ns) own) {xs:Txts} (hv:Ts g xs v) (hx:xs.length≤100∧∀ x∈xs,x.length≤100) (hn:n=safeN xs)
  {sm:Stmt} (hb:law3[1]?=some sm)
  (kx:∀ h k,St g L h ((("name" : Str),.str (S n) t)::l₀ Nr Nt Ns) own→Q .next { s with heap:=h,toks:=k }) :
  wpAny (model prog w) A (exec sm (lawEnv L f cd)) Q E s:=by
 cases hb
 obtain ⟨f1,hf1⟩:=T.addr F_safe
 refine u22 hv fun D vs z0 hD hs=>?_; clear hv; subst z0
 walk_at "ms"
 refine useK (P:=fun v s'=>∃ t',v=.str (S (safeN xs)) t') F (safe_spec (T.keeps F.keep) hf1 (R.le (by decide)) (isL_keeps hD F.keep) hs hx.1 hx.2) fun v h₁ tk₁ hv F₁ k₁=>?_
 obtain ⟨t',rfl⟩:=hv
 walk_at "ms"
 refine if_bf (decide_eq_false (by simpa using hn)) ?_
 walk_at "ms"
 exact kx _ _ (F₁.pick ["name", "ranked", "told", "spots"] rfl)
theorem law_b2 {Nr Nt Ns:Addr} (T:TK w mg g) (R:Room A 10) {n:List Nat} {t:Tok} (F:St g L s.heap ((("name" : Str),.str (S n) t)::l₀ Nr Nt Ns) own) (hn:n.length≤10000)
  {sm:Stmt} (hb:law3[2]?=some sm)
  (kx:∀ g₂ pv h k,Kp g g₂→PL g₂ (rowG n) pv→St g₂ L h ((("pairs" : Str),pv)::(("name" : Str),.str (S n) t)::l₀ Nr Nt Ns) own→Q .next { s with heap:=h,toks:=k }) :
  wpAny (model prog w) A (exec sm (lawEnv L f cd)) Q E s:=by
 cases hb
 obtain ⟨f1,hf1⟩:=T.addr F_row
 walk_at "ms"
 refine useK (P:=fun v s'=>PL s'.heap (rowG n) v∧NewV s.heap v) F (row_spec (T.keeps F.keep) hf1 (R.le (by decide)) hn) fun pv h₁ tk₁ hv F₁ k₁=>?_
 obtain ⟨hp,hnew⟩:=hv
 refine u13 F₁.rebase fun g₂ kg _ kr F₂=>?_
 have hp₂:=PLF F₁ kr hp fun a e=>newOwn F (hnew a e)
 walk_at "ms"
 intro h₃ F₃ e₃
 walk_at "ms"
 exact kx g₂ pv _ _ kg hp₂ F₃
theorem law_b3 {Nr Nt Ns:Addr} (T:TK w mg g) (R:Room A 10) (hfr:A.frames=some [lawEnv L f cd]) {n:List Nat} {t:Tok} {pv:Value} (F:St g L s.heap ((("pairs" : Str),pv)::(("name" : Str),.str (S n) t)::l₀ Nr Nt Ns) own) (hn:n.length≤640) (hc:∀ c∈n,(c<127∨c=233)∧c≠0)
  {sm:Stmt} (hb:law3[3]?=some sm)
  (kx:∀ g₂ rv h k,Kp g g₂→RL g₂ (rowG n) rv→St g₂ L h ((("row" : Str),rv)::(("pairs" : Str),pv)::l₀ Nr Nt Ns) own→Q .next { s with heap:=h,toks:=k }) :
  wpC (model prog w) A (exec sm (lawEnv L f cd)) Q E s:=by
 cases hb
 obtain ⟨f1,hf1⟩:=T.addr F_cv
 have hLo:∃ o,s.heap.get? L=some o∧∀ vs,o.data≠.fields vs:=by
  refine u11 F.fl fun m Fn _=>?_
  refine u32 Fn fun o es ep h1 h2 _=>?_; clear Fn
  exact (w11 o h1 (fun vs q=>by rw [h2] at q; cases q))
 refine AssignC_Name (CallC ?_)
 walk_at "ms"
 refine callWithC_fn F_cv T hf1 ?_
 walk_at "ms"
 refine ⟨F.keep,wpC_mono (cv_spec (Ls:=[L]) T F.keep hf1 (R.le (by decide)) hfr (fun b hb=>by rw [List.mem_singleton.mp hb]; exact F.gL) (fun env he=>?_) (fun b hb=>by rw [List.mem_singleton.mp hb]; exact hLo) hn hc) (fun v s' hq=>?_) fun _ _ e=>e⟩
 ·rw [List.mem_singleton.mp he]
  refine u11 hLo fun o h1 h2=>?_; clear hLo
  exact ⟨by show ScopeKind.function≠ScopeKind.module; decide,L,o,rfl,by simp,h1,h2⟩
 refine u46 hq fun h₁ k₁ D vs z0 z1 hD hDn hrv hsl hk=>?_; clear hq; subst z0; subst z1
 have F₁:St g L h₁ _ own:=F.slots (X:=[]) (fun b o hb _ e=>hk b o (by simpa using hb) e) (fun o e=>hsl L (by simp) o e) (fun _ h=>nomatch h) (fun _ _ h=>nomatch h)
 have hDi:=hD.isList
 refine u13 F₁.rebase fun g₂ kg _ kr F₂=>?_
 have hp₂:=lstF F₁ kr hDi (newOwn F hDn)
 walk_at "ms"
 intro h₃ F₃ e₃
 exact kx g₂ _ _ _ kg (w22 D vs rfl hp₂ hrv) (F₃.pick ["row", "pairs", "ranked", "told", "spots"] rfl)
theorem rv_flat {ps:List Pr} {pr:Nat→Value × Value} (h:∀ (i:Nat) (p:Pr),ps[i]?=some p→(∃ t,(pr i).1=.int p.1 t)∧isIt p.2 (pr i).2):∀ k,k≤ps.length→RV (ps.take k) (flatV pr k)
 | 0,_=>.nil
 | k+1,hk=>by
  have ih:=rv_flat h k (by exact q2 0x400021100211022a 1 3 (by kernel_rfl) hk)
  have e:ps[k]?=some ps[k]:=List.getElem?_eq_getElem (by exact q2 0x400061100211022a 1 3 (by kernel_rfl) hk)
  obtain ⟨⟨t,h1⟩,h2⟩:=h k _ e
  rw [take_snoc e,flatV_c,h1]
  exact ih.snoc h2
theorem pl_pairs {h:Heap} {ps:List Pr} {us:List Value} (x:Al (PV h) ps us):∃ pr:Nat→Value × Value,(∀ (i:Nat) (v:Value),us[i]?=some v→∃ T,v=.ref T∧h.IsTuple T #[(pr i).1,(pr i).2])∧RV ps (flatV pr us.length):=by
 have hh:∀ i:Nat,∃ q:Value × Value,∀ p:Pr,ps[i]?=some p→(∀ v:Value,us[i]?=some v→∃ T,v=.ref T∧h.IsTuple T #[q.1,q.2])∧(∃ t,q.1=.int p.1 t)∧isIt p.2 q.2:=by
  intro i
  cases hp:ps[i]? with
  | none=>exact ⟨(.none,.none),fun p q=>by cases q⟩
  | some p =>
   refine u11 (x.get' hp) fun v hv z0=>?_; refine u32 z0 fun a t u z1 ht hi=>?_; clear z0; subst z1
   refine ⟨(.int p.1 t,u),fun p' q=>?_⟩
   cases q
   exact ⟨fun v' e=>by rw [hv] at e; cases e; exact (w11 a rfl ht),⟨t,rfl⟩,hi⟩
 obtain ⟨pr,hpr⟩:=Classical.skolem.mp hh
 refine (w11 pr (fun i v hv=>?_) ?_)
 ·refine u11 (x.get hv) fun p hp _=>?_
  exact (hpr i p hp).1 v hv
 ·have:=rv_flat (pr:=pr) (fun i p hp=>(hpr i p hp).2) ps.length (Nat.le_refl _)
  rwa [List.take_length,← x.1] at this
theorem law_b4 {Nr Nt Ns:Addr} (R:Room A 10) {ps:List Pr} {rv pv:Value} (F:St g L s.heap ((("row" : Str),rv)::(("pairs" : Str),pv)::l₀ Nr Nt Ns) own) (hr:RL g ps rv) (hp:PL g ps pv) (hz:ps.length≤1000)
  {sm:Stmt} (hb:law3[4]?=some sm)
  (kx:∀ h k,St g L h ((("row" : Str),rv)::(("pairs" : Str),pv)::l₀ Nr Nt Ns) own→Q .next { s with heap:=h,toks:=k }) :
  wpAny (model prog w) A (exec sm (lawEnv L f cd)) Q E s:=by
 cases hb
 refine u22 hr fun a rs z0 hra hrv=>?_; clear hr; subst z0
 refine u22 hp fun b us z0 hpb hal=>?_; clear hp; subst z0
 refine u11 (pl_pairs hal) fun pr hpr hfl=>?_
 have hun:A.units<cLine:=R.units
 walk_at "ms"
 refine comp2 (cl:=[]) R.hh ?_
 walk_at "ms"
 refine (w34 b us pr rfl (isL_keeps hpb F.keep) (by rw [hal.1]; exact hz) (fun i v hv=>?_) (fun D h₁ tk₁ hD hpl k₁=>?_))
 ·refine u11 (hpr i v hv) fun T e ht=>?_
  exact (w11 T e (isTu_keeps ht F.keep))
 have F₁:=F.keeps k₁
 walk_at "ms"
 refine neRV hun (isL_keeps hra F₁.keep) hpl.isList hrv hfl ?_
 walk_at "ms"
 exact kx _ _ F₁
end
section
variable {prog:Program} {w:World} {mg:Str→Option Value} {A:Around} {E:Value→Shared→Prop} {Q:Flow→Shared→Prop} {s:Shared} {g:Heap} {L f:Addr} {cd:Value} {l:List (Str × Value)} {own:List (Addr × List Value)}
theorem al_strs {ps:List Pr} {ys:List Value} (hl:ys.length=ps.length) (h:∀ (j:Nat) (y:Value),ys[j]?=some y→∃ p:Pr,ps[j]?=some p∧∃ t,y=.str (S (itN p.2)) t):StrsAre ys ((nmN ps).map S):=by
 refine Al.strs ⟨by rw [hl,nmN_len],fun i x v hx hv=>?_⟩
 refine u11 (h i v hv) fun p hp z0=>?_; obtain ⟨t,rfl⟩:=z0
 have:(nmN ps)[i]?=some (itN p.2):=by unfold nmN; rw [List.getElem?_map,hp]; rfl
 rw [this] at hx; cases hx
 exact ⟨t,rfl⟩
theorem law_b5 {Nr Nt Ns:Addr} (T:TK w mg g) (R:Room A 10) {ps:List Pr} {rv pv:Value} (F:St g L s.heap ((("row" : Str),rv)::(("pairs" : Str),pv)::l₀ Nr Nt Ns) own) (hr:RL g ps rv) (hz:ps.length≤1000) (hok:∀ p∈ps,okI p.2)
  {sm:Stmt} (hb:law3[5]?=some sm)
  (kx:∀ g₂ nv h k,Kp g g₂→Ts g₂ (nmN ps) nv→St g₂ L h ((("names" : Str),nv)::(("row" : Str),rv)::(("pairs" : Str),pv)::l₀ Nr Nt Ns) own→Q .next { s with heap:=h,toks:=k }) :
  wpAny (model prog w) A (exec sm (lawEnv L f cd)) Q E s:=by
 cases hb
 refine u22 hr fun a rs z0 hra hrv=>?_; clear hr; subst z0
 refine compA (cl:=[]) ?_
 walk_at "ms"
 intro h₁ I hI hk₁ hT₁
 have F₁:=F.keeps hk₁
 walk_at "ms"
 refine slcL (isL_keeps hra F₁.keep) hT₁ (.int _ _) .none (.int _ _) (by decide) (by rw [hrv.len]; exact q1 0x186a018090383e810001aa 2 6 (by kernel_rfl) hz) fun h₂ a₂ hn₂ hk₂ hT₂=>?_
 rw [pick_odd hrv.len] at hT₂
 have hod:=hrv.od
 have F₂:=F₁.keeps hk₂
 refine (w65 (od rs).length _ (fun _ i y=>∃ p:Pr,ps[i]?=some p∧∃ t,y=Value.str (S (itN p.2)) t) _ _ _ (Src.list R.hh (isL_of hT₂)) (by rw [hod.1]; exact q1 0x61a804003e810001aa 1 3 (by kernel_rfl) hz) (fun G H i v _ h=>h) F₂ ?_ ?_)
 ·intro i v gX h tk C D E' hi hv kX hex FX
  refine u11 (hod.get hv) fun p hp hpv=>?_
  have TX:=T.keeps fun b o e=>kX b o (F₂.keep b o e)
  clear T
  walk_at "ms"
  refine strIt hpv (hok p (List.mem_of_getElem? hp)) fun t k=>?_
  exact ⟨(w11 p hp ⟨t,rfl⟩),Keeps.tok⟩
 ·intro D h₃ tk₃ ys hD hpl hlen hR hk₃ F₃
  refine u13 F₃.rebase fun g₂ kg _ kr F₄=>?_
  have hp₂:=lstF F₃ kr hpl.isList (newOwn F₂ hD)
  exact kx g₂ _ _ _ kg (w22 D ys rfl hp₂ (al_strs (hlen.trans hod.1) hR)) F₄
noncomputable abbrev pth (ps:List Pr):List Nat:=47::joinL [47] (nmN ps)
theorem law_b6 {Nr Nt Ns:Addr} (T:TK w mg g) (R:Room A 10) {ps:List Pr} {rv pv nv:Value} (F:St g L s.heap ((("names" : Str),nv)::(("row" : Str),rv)::(("pairs" : Str),pv)::l₀ Nr Nt Ns) own) (hn:Ts g (nmN ps) nv) (hz:ps.length≤1000) (hp:∀ x∈nmN ps,Piece x) (hl:(joinL [47] (nmN ps)).length≤9000)
  {sm:Stmt} (hb:law3[6]?=some sm)
  (kx:∀ t h k,St g L h ((("spot" : Str),.str (S (pth ps)) t)::(("names" : Str),nv)::(("row" : Str),rv)::(("pairs" : Str),pv)::l₀ Nr Nt Ns) own→Q .next { s with heap:=h,toks:=k }) :
  wpAny (model prog w) A (exec sm (lawEnv L f cd)) Q E s:=by
 cases hb
 obtain ⟨f1,hf1⟩:=T.addr F_join
 refine u22 hn fun D vs z0 hD hs=>?_; clear hn; subst z0
 have hvl:vs.length≤1000:=by have:=strsAre_len hs; rw [List.length_map,nmN_len] at this; exact q2 0x3e8180284014846be810001aa 1 11 (by kernel_rfl) hz this
 walk_at "ms"
 refine items_star ?_
 walk_at "ms"
 refine starL (isL_keeps hD F.keep) (by walk_at "li") fun h₁ k₁=>?_
 have F₁:=F.keeps k₁
 walk_at "ms"
 rw [List.append_nil]
 refine useK (P:=fun v s'=>∃ t',v=.str (S (47::joinL [47] (nmN ps))) t') F₁ (join_spec (T.keeps F₁.keep) hf1 (R.le (by decide)) hs hp (by walk_at "li")) fun v h₂ tk₂ hv F₂ k₂=>?_
 obtain ⟨t',rfl⟩:=hv
 walk_at "ms"
 intro h₃ F₃ e₃
 walk_at "ms"
 exact kx t' _ _ F₃
theorem law_b7 {Nr Nt Ns:Addr} (T:TK w mg g) (R:Room A 10) {ps:List Pr} {rv pv nv:Value} {t:Tok} (F:St g L s.heap ((("spot" : Str),.str (S (pth ps)) t)::(("names" : Str),nv)::(("row" : Str),rv)::(("pairs" : Str),pv)::l₀ Nr Nt Ns) own) (hp:PL g ps pv) (hz:ps.length≤1000) (hok:∀ p∈ps,okI p.2) (hl:(joinL [47] (nmN ps)).length≤9000)
  {sm:Stmt} (hb:law3[7]?=some sm)
  (kx:∀ h k,St g L h ((("spot" : Str),.str (S (pth ps)) t)::(("names" : Str),nv)::(("row" : Str),rv)::(("pairs" : Str),pv)::l₀ Nr Nt Ns) own→Q .next { s with heap:=h,toks:=k }) :
  wpAny (model prog w) A (exec sm (lawEnv L f cd)) Q E s:=by
 cases hb
 refine u22 hp fun b us z0 hpb hal=>?_; clear hp; subst z0
 walk_at "ms"
 refine compE (cl:=[]) ?_
 walk_at "ms"
 refine (w34 us.length _ (fun _ i y=>∃ p:Pr,ps[i]?=some p∧∃ t,y=Value.str (S (itN p.2)) t) (Src.list R.hh (isL_keeps hpb F.keep)) (by rw [hal.1]; exact q1 0x61a804003e810001aa 1 3 (by kernel_rfl) hz) (fun G H i v _ h=>h) ?_ ?_)
 ·intro i v gX h tk C D E' hi hv kX hex FX
  refine u11 (hal.get hv) fun p hp z0=>?_; obtain ⟨a,tt,u,rfl,ha,hpv⟩:=z0
  have TX:=T.keeps fun b o e=>kX b o (F.keep b o e)
  have ha':=isTu_keeps ha fun b o e=>kX b o (F.keep b o e)
  clear T
  walk_at "ms"
  refine idxT 1 rfl (ha'.at fun o e=>FX.keep _ o e) (v:=u) (vs:=[.int p.1 tt,u]) rfl (by simp) ?_
  walk_at "ms"
  refine strIt hpv (hok p (List.mem_of_getElem? hp)) fun t k=>?_
  exact ⟨(w11 p hp ⟨t,rfl⟩),Keeps.tok⟩
 ·intro D h₃ tk₃ ys hD hpl hlen hR hk₃
  have hys:=al_strs (hlen.trans hal.1) hR
  have F₃:=F.keeps hk₃
  walk_at "ms"
  have hw:=joinL_cnt hl
  have hw2:=joinL_len (Nat.le_refl (joinL [47] (nmN ps)).length)
  refine joinS hpl.isList hys (by decide) (by exact q3 0x1e848030401485c220050401485c0d2a32810001ea 1 7 (by kernel_rfl) hl hw2) fun t' k=>?_
  walk_at "ms"
  refine addS (by simp; exact q1 0x186a00c414844232810001ea 1 3 (by kernel_rfl) hl) fun t'' k'=>?_
  walk_at "ms"
  refine if_bf (decide_eq_false (by simp)) ?_
  walk_at "ms"
  exact kx _ _ F₃
theorem law_b8 {Nr Nt Ns:Addr} (T:TK w mg g) (R:Room A 10) {ps:List Pr} {rv pv nv:Value} {t:Tok} (F:St g L s.heap ((("spot" : Str),.str (S (pth ps)) t)::(("names" : Str),nv)::(("row" : Str),rv)::(("pairs" : Str),pv)::l₀ Nr Nt Ns) own) (hz:ps.length≤40) (hp:∀ x∈nmN ps,Piece x) (hl:(joinL [47] (nmN ps)).length≤9000)
  {sm:Stmt} (hb:law3[8]?=some sm)
  (kx:∀ g₂ av h k,Kp g g₂→Ts g₂ (nmN ps) av→St g₂ L h ((("apart" : Str),av)::(("spot" : Str),.str (S (pth ps)) t)::(("names" : Str),nv)::(("row" : Str),rv)::(("pairs" : Str),pv)::l₀ Nr Nt Ns) own→Q .next { s with heap:=h,toks:=k }) :
  wpAny (model prog w) A (exec sm (lawEnv L f cd)) Q E s:=by
 cases hb
 obtain ⟨f1,hf1⟩:=T.addr F_climb
 walk_at "ms"
 refine useK (P:=fun v s'=>Ts s'.heap (nmN ps) v∧NewV s.heap v) F (climb_spec (T.keeps F.keep) hf1 (R.le (by decide)) hp hl (by rw [nmN_len]; exact q1 0xf040068100016a 1 3 (by kernel_rfl) hz)) fun av h₁ tk₁ hv F₁ k₁=>?_
 obtain ⟨⟨a,us,rfl,ha,hi⟩,hnew⟩:=hv
 refine u13 F₁.rebase fun g₂ kg _ kr F₂=>?_
 have hp₂:=lstF F₁ kr ha (newOwn F (hnew a rfl))
 walk_at "ms"
 intro h₃ F₃ e₃
 walk_at "ms"
 exact kx g₂ _ _ _ kg (w22 a us rfl hp₂ hi) F₃
theorem law_b9 {Nr Nt Ns:Addr} (R:Room A 10) {ps:List Pr} {rv pv nv av:Value} {t:Tok} (F:St g L s.heap ((("apart" : Str),av)::(("spot" : Str),.str (S (pth ps)) t)::(("names" : Str),nv)::(("row" : Str),rv)::(("pairs" : Str),pv)::l₀ Nr Nt Ns) own) (ha:Ts g (nmN ps) av) (hn:Ts g (nmN ps) nv)
  {sm:Stmt} (hb:law3[9]?=some sm)
  (kx:∀ h k,St g L h ((("apart" : Str),av)::(("spot" : Str),.str (S (pth ps)) t)::(("row" : Str),rv)::(("pairs" : Str),pv)::l₀ Nr Nt Ns) own→Q .next { s with heap:=h,toks:=k }) :
  wpAny (model prog w) A (exec sm (lawEnv L f cd)) Q E s:=by
 cases hb
 obtain ⟨a,us,rfl,ha,hi⟩:=ha
 refine u22 hn fun b ws z0 hb hj=>?_; clear hn; subst z0
 walk_at "ms"
 refine neLL R.units (isL_keeps ha F.keep) (isL_keeps hb F.keep) hi hj ?_
 walk_at "ms"
 exact kx _ _ (F.pick ["apart", "spot", "row", "pairs", "ranked", "told", "spots"] rfl)
end
section
variable {prog:Program} {w:World} {mg:Str→Option Value} {A:Around} {E:Value→Shared→Prop} {Q:Flow→Shared→Prop} {s:Shared} {g:Heap} {L f:Addr} {cd:Value} {l:List (Str × Value)} {own:List (Addr × List Value)}
set_option tactic.hygienic true in
theorem law_b10 {Nr Nt Ns:Addr} (T:TK w mg g) (hm:mg "_platform" = some (.ref 58)) (hc:CodeOf g 58 57) (h57:g.get? 57=some platCode) (hg:g.get? 53=none) (ht:TabO s.heap) (R:Room A 10) (hfr:A.frames=some [lawEnv L f cd]) {ps:List Pr} {rv pv av sv:Value}
  (F:St g L s.heap ((("apart" : Str),av)::(("spot" : Str),sv)::(("row" : Str),rv)::(("pairs" : Str),pv)::l₀ Nr Nt Ns) own) (ha:Ts g (nmN ps) av) (hr:RL g ps rv) (hx:Plain (nmN ps)) (hag:rowG (safeN (nmN ps))=ps)
  (hn:(safeN (nmN ps)).length≤640) (hch:∀ c∈safeN (nmN ps),(c<127∨c=233)∧c≠0) {sm:Stmt} (hb:law3[10]?=some sm)
  (kx:∀ h gens k,(AllBare s.gens→AllBare gens)→TabO h→St g L h ((("spot" : Str),sv)::(("row" : Str),rv)::(("pairs" : Str),pv)::l₀ Nr Nt Ns) own→Q .next ⟨h,gens,s.drawn,k,s.os⟩) :
  wpC (model prog w) A (exec sm (lawEnv L f cd)) Q E s:=by
 cases hb
 obtain ⟨f1,hf1⟩:=T.addr F_cv
 refine u22 ha fun D vs z0 hD hs=>?_; clear ha; subst z0
 refine u22 hr fun a rs z0 hra hrv=>?_; clear hr; subst z0
 refine IfC (isTrueC_Compare1 (CallC ?_))
 walk_at "ms"
 refine callWithC_fn F_cv T hf1 ?_
 walk_at "ms"
 refine callWith_fnS F_platform T hm ?_
 walk_at "ms"
 refine starL (isL_keeps hD F.keep) (by have:=strsAre_len hs; have:=hx.1; rw [List.length_map] at *; (rename_i z0; exact q2 0x30d40200190600a0395000211a 1 13 (by kernel_rfl) z0 this)) fun h₁ k₁=>?_
 have F₁:=F.keeps k₁
 refine ⟨F₁.keep,?_⟩
 obtain ⟨pp,hct⟩:=(ht.keeps k₁).ct (F₁.keep _ _ h57)
 refine wpAny_mono (platform_spec T F₁.keep hm hc hg hct R hs hx.1 hx.2.1 hx.2.2) (fun r s₂ hr=>?_) fun _ _ e=>e
 obtain ⟨⟨t,rfl⟩,m1,⟨ps',m2⟩,m3,m4,m5⟩:=hr
 obtain ⟨h₂,g₂,d₂,k₂,o₂⟩:=s₂
 dsimp only at m1 m2 m3 m4 m5
 subst m4 m5
 have hL:L≠53:=fun q=>by
  refine u11 F₁.fl fun m Fn _=>?_
  refine u32 Fn fun o es ep h1 h2 _=>?_; clear Fn
  refine u11 (ht.keeps k₁) fun ps e _=>?_
  rw [q] at h1
  have h1:h₁.get? 53=some o:=h1
  rw [e] at h1; cases h1; cases h2
 have hown:∀ p∈own,p.1∉[53]:=fun p hp hm=>by
  obtain ⟨n,hn⟩:=(F₁.ow p hp).2.2
  refine u11 (ht.keeps k₁) fun ps e _=>?_
  rw [List.mem_singleton.mp hm] at hn
  rw [e] at hn; cases hn
 have F₂:St g L h₂ _ own:=F₁.but (wr:=[53]) (fun b o hb e=>m1 b o (fun q=>hb (by simp [q])) e) (fun b hb=>by rw [List.mem_singleton.mp hb]; exact hg) (fun q=>hL (List.mem_singleton.mp q)) hown
 have hLo:∃ o,h₂.get? L=some o∧∀ vs,o.data≠.fields vs:=by
  refine u11 F₂.fl fun m Fn _=>?_
  refine u32 Fn fun o es ep h1 h2 _=>?_; clear Fn
  exact (w11 o h1 (fun vs q=>by rw [h2] at q; cases q))
 walk_at "ms"
 refine ⟨F₂.keep,wpC_mono (cv_spec (s:=⟨h₂,g₂,s.drawn,k₂,s.os⟩) (Ls:=[L]) T F₂.keep hf1 (R.le (by decide)) hfr (fun b hb=>by rw [List.mem_singleton.mp hb]; exact F.gL) (fun env he=>?_) (fun b hb=>by rw [List.mem_singleton.mp hb]; exact hLo) hn hch) (fun v s' hq=>?_) fun _ _ e=>e⟩
 ·rw [List.mem_singleton.mp he]
  refine u11 hLo fun o h1 h2=>?_; clear hLo
  exact ⟨by show ScopeKind.function≠ScopeKind.module; decide,L,o,rfl,by simp,h1,h2⟩
 refine u46 hq fun h₃ k₃ B us z0 z1 hB hBn hbv hsl hk=>?_; clear hq; subst z0; subst z1
 have F₃:St g L h₃ _ own:=F₂.slots (X:=[]) (fun b o hb _ e=>hk b o (by simpa using hb) e) (fun o e=>hsl L (by simp) o e) (fun _ h=>nomatch h) (fun _ _ h=>nomatch h)
 rw [hag] at hbv
 walk_at "ms"
 refine neRV R.units hB.isList (isL_keeps hra F₃.keep) hbv hrv ?_
 walk_at "ms"
 refine wpC_of ?_
 walk_at "ms"
 exact kx h₃ g₂ _ m3 (m2.tab.same fun b hb o e=>hk b o (fun q=>hL (by rw [← List.mem_singleton.mp q]; exact List.mem_singleton.mp hb)) e) (F₃.pick ["spot", "row", "pairs", "ranked", "told", "spots"] rfl)
theorem law_b11 {Nr Nt Ns:Addr} {rv pv sv:Value} {rk tl sp:List Value} (F:St g L s.heap ((("spot" : Str),sv)::(("row" : Str),rv)::(("pairs" : Str),pv)::l₀ Nr Nt Ns) [(Nr,rk),(Nt,tl),(Ns,sp)])
  (h1:rk.length≤100) (h2:tl.length≤100) (h3:sp.length≤100) {sms:List Stmt} (hb:law3.drop 11=sms)
  (kx:∀ h k,St g L h (l₀ Nr Nt Ns) [(Nr,rk++[rv]),(Nt,tl++[pv]),(Ns,sp++[sv])]→Q .next { s with heap:=h,toks:=k }) :
  wpAny (model prog w) A (execs sms (lawEnv L f cd)) Q E s:=by
 cases hb
 show wpAny (model prog w) A (execs (law3.drop 11) (lawEnv L f cd)) _ _ _
 refine stepO fun _ _ _ _=>?_
 walk_at "ms"
 refine gmApp (F.ow (Nr,rk) (by simp)).2.2 ?_
 walk_at "ms"
 refine appS (pre:=[]) F (by walk_at "li") fun h₁ F₁ _=>?_
 walk_at "ms"
 refine gmApp (F₁.ow (Nt,tl) (by simp)).2.2 ?_
 walk_at "ms"
 refine appS (pre:=[(Nr,rk++[rv])]) F₁ (by walk_at "li") fun h₂ F₂ _=>?_
 walk_at "ms"
 refine gmApp (F₂.ow (Ns,sp) (by simp)).2.2 ?_
 walk_at "ms"
 refine appS (pre:=[(Nr,rk++[rv]),(Nt,tl++[pv])]) F₂ (by walk_at "li") fun h₃ F₃ _=>?_
 walk_at "ms"
 exact kx _ _ (F₃.pick ["ranked", "told", "spots"] rfl)
end
noncomputable abbrev rowT (ts:Txts):List Pr:=rowG (safeN ts)
structure RelF (ts:Txts):Prop where
 plain:Plain ts
 short:ts.length≤100∧∀ x∈ts,x.length≤100
 len:(safeN ts).length≤640
 chars:∀ c∈safeN ts,(c<127∨c=233)∧c≠0
 cnt:(rowT ts).length≤40
 okI:∀ p∈rowT ts,okI p.2
 okp:∀ p∈rowT ts,Okp p
 good:∀ p∈rowT ts,GoodP p
 piece:∀ x∈nmN (rowT ts),Piece x
 joined:(joinL [47] (nmN (rowT ts))).length≤330
 plain2:Plain (nmN (rowT ts))
 again:rowG (safeN (nmN (rowT ts)))=rowT ts
 len2:(safeN (nmN (rowT ts))).length≤640
 chars2:∀ c∈safeN (nmN (rowT ts)),(c<127∨c=233)∧c≠0
theorem glue_chars {x:List Nat} (h:Glue x):∀ b∈x,Unicode.isSpace b=bl b:=by
 refine u12 h fun ws _ hw z0=>?_; clear h; subst z0
 intro b hb
 refine u11 (List.mem_flatten.mp hb) fun p hp hbp=>?_
 have:∀ p∈Pcs21,∀ b∈p,Unicode.isSpace b=bl b:=by decide
 exact this p (hw p hp) b hbp
theorem le_sum_len {xs:Txts} {x:List Nat} (h:x∈xs):x.length≤(xs.map (·.length)).sum:=le_sum_of_mem (List.mem_map_of_mem h)
theorem relF {ts:Txts} (ht:∀ x∈ts,Glue x) (hl:ts.length≤10):RelF ts:=by
 have h290:=rel_len ht hl
 have hgood:=good_row (safeN ts)
 have hsum:=rel_names_sum ht hl
 have hnl:=rel_names_len ht hl
 have hsign:=rel_sign ht
 have hs45:safeN (nmN (rowT ts))=joinL [45] (nmN (rowT ts)):=rel_safe ht
 refine ⟨⟨by walk_at "li", fun x hx=>by have:=glue_le (ht x hx); exact q1 0x5002001c100015a 1 3 (by kernel_rfl) this,fun x hx=>glue_chars (ht x hx)⟩,⟨by walk_at "li", fun x hx=>by have:=glue_le (ht x hx); exact q1 0xc82001c100015a 1 3 (by kernel_rfl) this⟩,by walk_at "li", fun c hc=>?_,rel_cnt ht hl,fun p hp=>?_,fun p hp=>okp_good (hgood p hp),hgood,
  rel_piece ht,rel_join ht hl 47,⟨Nat.le_trans hnl (by decide),fun x hx=>?_,fun x hx b hb=>?_⟩,rel_again ht,?_,fun c hc=>?_⟩
 ·have:∀ c∈outA,(c<127∨c=233)∧c≠0:=by decide
  exact this c (rel_out ht c hc)
 ·have hg:=hgood p hp
  obtain ⟨r,i⟩:=p
  cases i with
  | inr x=>trivial
  | inl k =>
   obtain ⟨_,h0⟩:r=100∧0≤k:=hg
   refine ⟨h0,?_⟩
   have h1:(decD k.toNat).length≤290:=Nat.le_trans (le_sum_len (List.mem_map_of_mem (f:=fun p:Pr=>itN p.2) hp)) hsum
   have h2:=valN_lt (decD k.toNat) (decD_dig _)
   rw [decD_val,Int.toNat_natCast] at h2
   exact Nat.lt_of_lt_of_le h2 (Nat.pow_le_pow_right (by decide) (Nat.le_trans h1 (by decide)))
 ·have:=le_sum_len hx
  exact Nat.le_trans (Nat.le_trans this hsum) (by decide)
 ·refine u11 (List.mem_map.mp hx) fun p hp z0=>?_; subst z0
  rcases row_chars _ _ (Nat.le_refl _) p hp b hb with h | ⟨h1,_⟩
  ·have:∀ c∈digs,Unicode.isSpace c=bl c:=by decide
   exact this b (by simpa [isD] using h)
  ·have:∀ c∈outA,Unicode.isSpace c=bl c:=by decide
   exact this b (rel_out ht b h1)
 ·rw [hs45]
  have:=rel_join ht hl 45
  exact Nat.le_trans this (by decide)
 ·rw [hs45] at hc
  exact joinL_mem _ 45 (fun c=>(c<127∨c=233)∧c≠0) (by decide) (fun y hy b hb=>((hsign y hy).2 b hb).2) c hc
section
variable {prog:Program} {w:World} {mg:Str→Option Value} {A:Around} {E:Value→Shared→Prop} {s:Shared} {g:Heap} {L f:Addr} {cd:Value}
noncomputable def SP (ps:List Pr) (v:Value):Prop:=∃ t,v=.str (S (pth ps)) t
structure Got (h:Heap) (rows:List (List Pr)) (rk tl sp:List Value):Prop where
 r:Al (RL h) rows rk
 t:Al (PL h) rows tl
 s:Al SP rows sp
theorem Got.datL {G H:Heap} {rows:List (List Pr)} {rk tl sp:List Value} (x:Got G rows rk tl sp) (k:DatL G H):Got H rows rk tl sp :=
 ⟨x.r.mono fun _ _ y=>y.datL k,x.t.mono fun _ _ y=>y.datL k,x.s⟩
theorem Got.keeps {G H:Heap} {rows:List (List Pr)} {rk tl sp:List Value} (x:Got G rows rk tl sp) (k:Kp G H):Got H rows rk tl sp:=x.datL (.of k)
theorem Got.snoc {G:Heap} {rows:List (List Pr)} {rk tl sp:List Value} {ps:List Pr} {rv pv sv:Value} (x:Got G rows rk tl sp) (h1:RL G ps rv) (h2:PL G ps pv) (h3:SP ps sv):Got G (rows++[ps]) (rk++[rv]) (tl++[pv]) (sp++[sv]) :=
 ⟨x.r.snoc h1,x.t.snoc h2,x.s.snoc h3⟩
noncomputable abbrev Zs (s s':Shared):Prop:=∃ h gens k,s'=(⟨h,gens,s.drawn,k,s.os⟩:Shared)∧AllBare gens∧TabO h
set_option tactic.hygienic true in
theorem law_turn {Q:Flow→Shared→Prop} {Nr Nt Ns:Addr} (T:TK w mg g) (hm:mg "_platform" = some (.ref 58)) (hc:CodeOf g 58 57) (h57:g.get? 57=some platCode) (hg:g.get? 53=none) (R:Room A 10) (hfr:A.frames=some [lawEnv L f cd]) {h:Heap} {gens:Array GenState} {k:Nat} {v:Value} {rk tl sp:List Value} {rows:List (List Pr)}
  (F:St g L h ((("texts" : Str),v)::l₀ Nr Nt Ns) [(Nr,rk),(Nt,tl),(Ns,sp)]) {ts:Txts} (hts:Ts g ts v) (hF:RelF ts) (hG:Got g rows rk tl sp) (hrl:rows.length≤3) (hb:AllBare gens) (htab:TabO h)
  (kx:∀ h gens k,AllBare gens→TabO h→∀ rk' tl' sp' G,Kp g G→G.get? 53=none→St G L h (l₀ Nr Nt Ns) [(Nr,rk'),(Nt,tl'),(Ns,sp')]→Got G (rows++[rowT ts]) rk' tl' sp'→Q .next ⟨h,gens,s.drawn,k,s.os⟩) :
  wpC (model prog w) A (execs law3 (lawEnv L f cd)) Q E ⟨h,gens,s.drawn,k,s.os⟩:=by
 refine u02 (by
  have:=hG.r.1; have:=hG.t.1; have:=hG.s.1; (rename_i z0 z1; exact q4 0x19070060c8300300eb64180280e3600c425500310954014846b100012a 1 10586499 (by kernel_rfl) hrl z0 z1 this):rk.length≤100∧tl.length≤100∧sp.length≤100) fun hrn htn hsn=>?_
 show wpC (model prog w) A (execs law3 (lawEnv L f cd)) _ _ _
 refine execsC_consA (law_b0 T hm hc h57 hg htab R F hts hF.plain rfl fun h₀ gens₀ k₀ t₀ hb₀ htab₀ F₀=>?_)
 refine u14 (F₀.open53 htab₀) fun g₁ kg₁ _ tg₁ _ F₁=>?_
 have T₁:=T.keeps kg₁
 refine execsC_consA (law_b1 T₁ R F₁ (hts.keeps kg₁) hF.short rfl rfl fun h₁ k₁ F₁=>?_)
 refine execsC_consA (law_b2 T₁ R F₁ (Nat.le_trans hF.len (by decide)) rfl fun g₂ pv h₂ k₂ kg₂ hpv F₂=>?_)
 have T₂:=T₁.keeps kg₂
 refine execsC_cons (law_b3 T₂ R hfr F₂ hF.len hF.chars rfl fun g₃ rv h₃ k₃ kg₃ hrv F₃=>?_)
 have T₃:=T₂.keeps kg₃
 have hpv₃:=hpv.keeps kg₃
 refine execsC_consA (law_b4 R F₃ hrv hpv₃ (Nat.le_trans hF.cnt (by decide)) rfl fun h₄ k₄ F₄=>?_)
 refine execsC_consA (law_b5 T₃ R F₄ hrv (Nat.le_trans hF.cnt (by decide)) hF.okI rfl fun g₅ nv h₅ k₅ kg₅ hnv F₅=>?_)
 have T₅:=T₃.keeps kg₅
 refine execsC_consA (law_b6 T₅ R F₅ hnv (Nat.le_trans hF.cnt (by decide)) hF.piece (Nat.le_trans hF.joined (by decide)) rfl fun t₆ h₆ k₆ F₆=>?_)
 refine execsC_consA (law_b7 T₅ R F₆ (hpv₃.keeps kg₅) (Nat.le_trans hF.cnt (by decide)) hF.okI (Nat.le_trans hF.joined (by decide)) rfl fun h₇ k₇ F₇=>?_)
 refine execsC_consA (law_b8 T₅ R F₇ hF.cnt hF.piece (Nat.le_trans hF.joined (by decide)) rfl fun g₈ av h₈ k₈ kg₈ hav F₈=>?_)
 refine execsC_consA (law_b9 R F₈ hav (hnv.keeps kg₈) rfl fun h₉ k₉ F₉=>?_)
 have kg₃₈:Kp g₃ g₈:=fun b o e=>kg₈ b o (kg₅ b o e)
 have kgg:Kp g g₈:=fun b o e=>kg₃₈ b o (kg₃ b o (kg₂ b o (kg₁ b o e)))
 have tg₈:TabO g₈:=tg₁.keeps fun b o e=>kg₃₈ b o (kg₃ b o (kg₂ b o e))
 have d₈:=DatL.hide tg₈
 have kG:Kp g (hideAll g₈ [53]):=keep53 kgg hg
 have hrv':=(hrv.datL (.of kg₃₈)).datL d₈
 have hpv':=(hpv₃.datL (.of kg₃₈)).datL d₈
 have hG':=(hG.keeps kgg).datL d₈
 refine execsC_cons (law_b10 (T.keeps kG) hm (hc.keeps kG) (kG _ _ h57) (hideAll_none _ (List.mem_singleton_self _)) (tg₈.keeps F₉.keep) R hfr F₉.close53 (hav.datL d₈) hrv' hF.plain2 hF.again hF.len2 hF.chars2 rfl fun h₁₀ gens₁₀ k₁₀ hb₁₀ htab₁₀ F₁₀=>?_)
 refine u14 (F₁₀.open53 htab₁₀) fun g₁₁ kg₁₁ _ tg₁₁ _ F₁₁=>?_
 refine wpC_of (law_b11 F₁₁ hrn htn hsn rfl fun h₁₂ k₁₂ F₁₂=>?_)
 have d₁₁:=DatL.hide tg₁₁
 exact kx h₁₂ gens₁₀ _ (hb₁₀ (hb₀ hb)) (tg₁₁.keeps F₁₂.keep) _ _ _ _ (keep53 (fun b o e=>kg₁₁ b o (kG b o e)) hg) (hideAll_none _ (List.mem_singleton_self _)) F₁₂.close53
  (((hG'.keeps kg₁₁).datL d₁₁).snoc ((hrv'.datL (.of kg₁₁)).datL d₁₁) ((hpv'.datL (.of kg₁₁)).datL d₁₁) ⟨t₆,rfl⟩)
theorem emptyNe {h:Heap} {l:List (Str × Value)} {own:List (Addr × List Value)} (F:St g L h l own) (he:∀ p∈own,p.2=[]) {a:Addr} {us:List Value} (hl:h.IsList a us.toArray) (hu:us≠[]):∀ p∈own,a≠p.1:=by
 rintro p hp rfl
 obtain ⟨n,hn⟩:=(F.ow p hp).2.2
 refine u12 hl fun o ho _ z0=>?_; clear hl; obtain ⟨n',hd⟩:=z0
 rw [hn] at ho; cases ho
 rw [he p hp] at hd
 have:us.toArray=#[]:=by injection hd with h1; exact h1.symm
 exact hu (by simpa using this)
theorem rels_len {rels:List Txts} (h:RelsOf rels):∀ ts∈rels,ts.length≤10:=fun ts ht=>by
 exact Nat.le_trans (le_sum_of_mem (List.mem_map_of_mem (f:=fun x:Txts=>x.length) ht)) h.2.2.2.2
theorem law_for {Q:Flow→Shared→Prop} {Nr Nt Ns D:Addr} {vs:List Value} (T:TK w mg g) (hm:mg "_platform" = some (.ref 58)) (hc:CodeOf g 58 57) (h57:g.get? 57=some platCode) (hg:g.get? 53=none) (R:Room A 10) (hfr:A.frames=some [lawEnv L f cd])
  (F:St g L s.heap ((("script" : Str),.ref D)::l₀ Nr Nt Ns) [(Nr,[]),(Nt,[]),(Ns,[])]) (ht:TabO s.heap) (hb:AllBare s.gens) (hD:g.IsList D vs.toArray) (hv:∀ (i:Nat) (v:Value),vs[i]?=some v→∃ a t,v=Value.int a t) (hz:vs.length≤63)
  {sm:Stmt} (hsm:F_law.body[3]?=some sm)
  (kx:∀ h gens k,AllBare gens→TabO h→∀ rels rk tl sp G,RelsOf rels→Kp g G→St G L h (l₀ Nr Nt Ns) [(Nr,rk),(Nt,tl),(Ns,sp)]→Got G (rels.map rowT) rk tl sp→Q .next ⟨h,gens,s.drawn,k,s.os⟩) :
  wpC (model prog w) A (exec sm (lawEnv L f cd)) Q E s:=by
 cases hsm
 obtain ⟨f1,hf1⟩:=T.addr F_releases
 refine ForC ?_
 walk_at "ms"
 refine useK (P:=fun v s'=>∃ rows a us,RelsOf rows∧v=.ref a∧s'.heap.IsList a us.toArray∧Al (Ts s'.heap) rows us) F (releases_spec (T.keeps F.keep) hf1 (R.le (by decide)) (isL_keeps hD F.keep) hv hz) fun v h₁ tk₁ hv F₁ k₁=>?_
 refine u33 hv fun rels a us hrel z0 ha hal=>?_; clear hv; subst z0
 have ht₁:TabO h₁:=ht.keeps k₁
 have hun:us≠[]:=fun e=>by have:=hal.1; rw [e] at this; exact hrel.1 (List.length_eq_zero_iff.mp this.symm)
 have hown:∀ p∈[(Nr,([]:List Value)),(Nt,[]),(Ns,[])],p.2=[]:=by
  intro p hp
  simp only [List.mem_cons,List.not_mem_nil,or_false] at hp
  rcases hp with rfl | rfl | rfl <;> rfl
 refine u14 (F₁.open53 ht₁) fun g₀ kg₀ _ t₀ kr F₀=>?_
 have ha₀:=lstF F₁ kr ha (emptyNe F₁ hown ha hun)
 have hal₀:Al (Ts g₀) rels us:=⟨hal.1,fun i ts v h1 h2=>by
  refine u22 (hal.2 i ts v h1 h2) fun b ws z0 hb hi=>?_; subst z0
  refine (w22 b ws rfl (lstF F₁ kr hb (emptyNe F₁ hown hb fun e=>?_)) hi)
  rw [e] at hi
  have:=strsAre_len hi
  rw [List.length_map] at this
  exact hrel.2.2.1 ts (List.mem_of_getElem? h1) (List.length_eq_zero_iff.mp this.symm)⟩
 have d₀:=DatL.hide t₀
 have F₂:=(F₀.close53).pick ["ranked", "told", "spots"] rfl
 have kg₂:Kp g (hideAll g₀ [53]):=keep53 kg₀ hg
 have ha₂:=d₀.list ha₀
 have hal₂:=hal₀.mono fun _ _ y=>y.datL d₀
 generalize hide:hideAll g₀ [53]=g₂ at d₀ F₂ kg₂ ha₂ hal₂
 have hg₂:∀ b∈[53],g₂.get? b=none:=fun b hb=>hide▸hideAll_none _ hb
 have hL53:L∉[53]:=fun hm=>by
  have q:=List.mem_singleton.mp hm
  refine u11 F₁.fl fun m Fn _=>?_
  refine u32 Fn fun o es ep h1 h2 _=>?_; clear Fn
  refine u11 ht₁ fun ps e _=>?_; clear ht₁
  rw [q] at h1
  have h1:h₁.get? 53=some o:=h1
  rw [e] at h1; cases h1; cases h2
 have ho53:∀ p∈[(Nr,([]:List Value)),(Nt,[]),(Ns,[])],p.1∉[53]:=fun p hp hm=>by
  obtain ⟨n,hn⟩:=(F₁.ow p hp).2.2
  refine u11 ht₁ fun ps e _=>?_; clear ht₁
  rw [List.mem_singleton.mp hm] at hn
  rw [e] at hn; cases hn
 walk_at "ms"
 refine itLC (hid:=[53]) (s:=⟨h₁,s.gens,s.drawn,tk₁,s.os⟩) (fun i l own g=>∃ rk tl sp,l=l₀ Nr Nt Ns∧own=[(Nr,rk),(Nt,tl),(Ns,sp)]∧Got g ((rels.take i).map rowT) rk tl sp) (Zs s) R.hh F₂ ha₂ hg₂ ho53 hL53 ?_ (w32 ([]) ([]) ([]) rfl rfl ⟨.nil,.nil,.nil⟩) (w32 _ _ _ rfl hb ht₁) ?_ ?_ ?_
 ·intro b hb
  rw [List.mem_singleton.mp hb]
  refine u11 ht₁ fun ps e _=>?_; clear ht₁
  exact Heap.lt_size e
 ·intro _ h' k' hs y0; refine u32 y0 fun h gens k z0 hb htab=>?_; clear y0; subst z0
  exact (w32 _ _ _ rfl hb (htab.same hs))
 ·intro i v l₁ own₁ g₃ g' s₁ E' _ hQt hvi y0; refine u32 y0 fun rk tl sp z0 z1 hG=>?_; clear y0; subst z0; subst z1; intro kg₃ kg' hid' F y1; refine u32 y1 fun h gens k z0 hb htab=>?_; clear y1; subst z0
  refine u11 (hal₂.get hvi) fun ts hts htv=>?_
  have hmem:=List.mem_of_getElem? hts
  have kk:Kp g₂ g':=fun b o e=>kg' b o (kg₃ b o e)
  have kkg:Kp g g':=fun b o e=>kk b o (kg₂ b o e)
  have hF:=relF (hrel.2.2.2.1 ts hmem) (rels_len hrel ts hmem)
  refine law_turn (s:=s) (T.keeps kkg) hm (hc.keeps kkg) (kkg _ _ h57) (hid' 53 (by simp)) R hfr F (htv.keeps kk) hF (hG.keeps kg') ?_ hb htab fun h gens k hb htab rk' tl' sp' G kG hG53 F' hG'=>?_
  ·have:=hrel.2.1
   rw [List.length_map,List.length_take]; exact q2 0x18c0158443100012a 1 31 (by kernel_rfl) this
  refine hQt.go _ _ ⟨(w32 _ _ _ rfl hb htab),l₀ Nr Nt Ns,[(Nr,rk'),(Nt,tl'),(Ns,sp')],G,kG,fun b hb=>by rw [List.mem_singleton.mp hb]; exact hG53,rfl,F',fun Γ kΓ=>(w32 rk' tl' sp' rfl rfl ?_)⟩
  rw [take_snoc hts,List.map_append]
  exact hG'.datL (DatL.dat kΓ)
 ·intro l₁ own₁ g₃ _ y0; refine u32 y0 fun rk tl sp z0 z1 hG=>?_; clear y0; subst z0; subst z1; intro kg₃ hid' F y1; refine u32 y1 fun h gens k z0 hb htab=>?_; clear y1; subst z0
  rw [hal₂.1,List.take_length] at hG
  exact kx h gens k hb htab rels rk tl sp g₃ hrel (fun b o e=>kg₃ b o (kg₂ b o e)) F hG
end
structure RowOk (r:List Pr):Prop where
 okI:∀ p∈r,okI p.2
 okp:∀ p∈r,Okp p
 good:∀ p∈r,GoodP p
 piece:∀ x∈nmN r,Piece x
 joined:(joinL [47] (nmN r)).length≤330
 cnt:r.length≤40
structure RowsF (rows:List (List Pr)):Prop where
 ne:rows≠[]
 len:rows.length≤3
 ok:∀ r∈rows,RowOk r
theorem rowsF {rels:List Txts} (h:RelsOf rels):RowsF (rels.map rowT):=by
 refine ⟨fun e=>h.1 (by simpa using e),by rw [List.length_map]; exact h.2.1,fun r hr=>?_⟩
 refine u11 (List.mem_map.mp hr) fun ts ht z0=>?_; subst z0
 have x:=relF (h.2.2.2.1 ts ht) (rels_len h ts ht)
 exact ⟨x.okI,x.okp,x.good,x.piece,x.joined,x.cnt⟩
theorem com_mem:∀ (rows:List (List Pr)) (f:List Pr),∀ p∈comN f rows,p∈f
 | [],_,_,h=>h
 | r::rows,f,p,h=>List.mem_of_mem_take (com_mem rows (f.take (shN f r)) p h)
section
variable {prog:Program} {w:World} {mg:Str→Option Value} {A:Around} {E:Value→Shared→Prop} {Q:Flow→Shared→Prop} {s:Shared} {g:Heap} {L f:Addr} {cd:Value}
theorem law_lists {h:Heap} {l:List (Str × Value)} {Nr Nt Ns:Addr} {rk tl sp:List Value} (F:St g L h l [(Nr,rk),(Nt,tl),(Ns,sp)]) (x:TabO h) :
  ∃ g',Kp g g'∧TabO g'∧g'.IsList Nr rk.toArray∧g'.IsList Nt tl.toArray∧g'.IsList Ns sp.toArray∧St g' L h l []:=by
 have F':=F.disown (own':=[]) (List.nil_sublist _)
 refine u14 (F'.open53 x) fun g' k1 _ t k3 F''=>?_
 have hl:∀ p∈[(Nr,rk),(Nt,tl),(Ns,sp)],g'.IsList p.1 p.2.toArray:=fun p hp=>lstF F' k3 ((F.ow p hp).2.2.isList) fun _ h=>nomatch h
 exact (w15 g' k1 t (hl (Nr,rk) (by simp)) (hl (Nt,tl) (by simp)) (hl (Ns,sp) (by simp)) F'')
theorem sp_strs {rows:List (List Pr)} {sp:List Value} (h:Al SP rows sp):StrsAre sp (((rows.map nmN).map fun ps=>47::joinL [47] ps).map S):=by
 refine Al.strs ⟨by rw [h.1]; simp,fun i x v hx hv=>?_⟩
 refine u11 (h.get hv) fun r hr z0=>?_; obtain ⟨t,rfl⟩:=z0
 rw [List.getElem?_map,List.getElem?_map,hr] at hx
 cases hx
 exact ⟨t,rfl⟩
theorem law_c4 {Nr Nt Ns:Addr} {rk tl sp:List Value} {rows:List (List Pr)} (T:TK w mg g) (R:Room A 10) (F:St g L s.heap (l₀ Nr Nt Ns) []) (hG:Got g rows rk tl sp) (hR:RowsF rows) (ht:g.IsList Nt tl.toArray) (hs:g.IsList Ns sp.toArray)
  {sm:Stmt} (hb:F_law.body[4]?=some sm)
  (kx:∀ h k,St g L h (l₀ Nr Nt Ns) []→Q .next { s with heap:=h,toks:=k }) :
  wpAny (model prog w) A (exec sm (lawEnv L f cd)) Q E s:=by
 cases hb
 obtain ⟨f1,hf1⟩:=T.addr F_commonpath
 obtain ⟨f2,hf2⟩:=T.addr F_common
 refine u20 (by
  cases hq:rows with
  | nil=>exact absurd hq hR.ne
  | cons a b=>exact (w20 a b rfl):∃ p₀ rest,rows=p₀::rest) fun p₀ rest hrows=>?_
 have hlen:=hR.len
 have hpss:∀ ps∈rows.map nmN,(∀ p∈ps,Piece p)∧(joinL [47] ps).length≤330:=fun ps hp=>by
  refine u11 (List.mem_map.mp hp) fun r hr z0=>?_; subst z0
  exact ⟨(hR.ok r hr).piece,(hR.ok r hr).joined⟩
 walk_at "ms"
 refine useK (P:=fun v s'=>∃ m M t,m∈rows.map nmN∧M∈rows.map nmN∧(∀ z∈rows.map nmN,¬ z<m)∧(∀ z∈rows.map nmN,¬ M<z)∧v=.str (S (47::joinL [47] (lcp m M))) t) F
  (commonpath_spec (T.keeps F.keep) hf1 (R.le (by decide)) (isL_keeps hs F.keep) (sp_strs hG.s) (fun ps hp=>(hpss ps hp).1) (by simpa using hR.ne) (by rw [List.length_map]; exact q1 0x1904003100012a 1 3 (by kernel_rfl) hlen) fun ps hp=>Nat.le_trans (hpss ps hp).2 (by decide)) fun v h₁ tk₁ hv F₁ k₁=>?_
 refine u34 hv fun m M t hm hM hm' hM' z0=>?_; clear hv; subst z0
 have hcom:lcp m M=nmN (comN p₀ (p₀::rest)):=by
  rw [hrows] at hm hM hm' hM'
  exact com_names (fun r hr=>(hR.ok r (by rw [hrows]; exact hr)).good) hm hM hm' hM'
 have hcl:(joinL [47] (nmN (comN p₀ (p₀::rest)))).length≤330:=by
  obtain ⟨z,hz⟩:=lcp_prefix m M
  have h1:=joinL_le_of_prefix (lcp m M) z
  rw [hz,hcom] at h1
  exact Nat.le_trans h1 (hpss m hm).2
 rw [hcom]
 have hp₀:=hR.ok p₀ (by rw [hrows]; simp)
 generalize hcm:comN p₀ (p₀::rest)=cm at hcl
 have hok:∀ p∈cm,okI p.2:=fun p hp=>hp₀.okI p (com_mem _ _ p (hcm▸hp))
 walk_at "ms"
 refine compE (cl:=[]) ?_
 walk_at "ms"
 refine useK (P:=fun v s'=>PL s'.heap cm v) F₁ ?_ fun v h₂ tk₂ hv F₂ k₂=>?_
 ·rw [← hcm]
  exact common_spec (T.keeps F₁.keep) hf2 (R.le (by decide)) (isL_keeps ht F₁.keep) (hrows▸hG.t.mono fun _ _ y=>y.keeps F₁.keep) (by rw [← hrows]; exact q1 0x9c404003100012a 1 3 (by kernel_rfl) hlen) fun p hp=>by
   have:=(hR.ok p (by rw [hrows]; exact hp)).cnt; exact q1 0x9c4040028100016a 1 3 (by kernel_rfl) this
 refine u22 hv fun b us z0 hpb hal=>?_; clear hv; subst z0
 have hcn:=joinL_cnt hcl
 rw [nmN_len] at hcn
 refine (w34 us.length _ (fun _ i y=>∃ p:Pr,cm[i]?=some p∧∃ t,y=Value.str (S (itN p.2)) t) (Src.list R.hh hpb) (by rw [hal.1]; exact q1 0x61a80400234a10d20002aa 1 3 (by kernel_rfl) hcn) (fun G H i v _ h=>h) ?_ ?_)
 ·intro i v gX h tk C D E' hi hv kX hex FX
  refine u11 (hal.get hv) fun p hp z0=>?_; obtain ⟨a,tt,u,rfl,ha,hpv⟩:=z0
  have TX:=T.keeps fun b o e=>kX b o (F₂.keep b o e)
  have ha':=isTu_keeps ha kX
  clear T
  walk_at "ms"
  refine idxT 1 rfl (ha'.at fun o e=>FX.keep _ o e) (v:=u) (vs:=[.int p.1 tt,u]) rfl (by simp) ?_
  walk_at "ms"
  refine strIt hpv (hok p (List.mem_of_getElem? hp)) fun t k=>?_
  exact ⟨(w11 p hp ⟨t,rfl⟩),Keeps.tok⟩
 ·intro D h₃ tk₃ ys hD hpl hlen hR hk₃
  have hys:=al_strs (hlen.trans hal.1) hR
  have F₃:=F₂.keeps hk₃
  walk_at "ms"
  have hw:=joinL_cnt hcl
  have hw2:=joinL_len (Nat.le_refl (joinL [47] (nmN cm)).length)
  refine joinS hpl.isList hys (by decide) (by exact q3 0xf424018200a42e110028200a42e06954a100019a 1 7 (by kernel_rfl) hcl hw2) fun t' k=>?_
  walk_at "ms"
  refine addS (by simp; exact q1 0xc3500620a42214a100019a 1 3 (by kernel_rfl) hcl) fun t'' k'=>?_
  walk_at "ms"
  refine if_bf (decide_eq_false (by simp)) ?_
  walk_at "ms"
  exact kx _ _ F₃
end
section
variable {prog:Program} {w:World} {mg:Str→Option Value} {A:Around} {E:Value→Shared→Prop} {Q:Flow→Shared→Prop} {s:Shared} {g:Heap} {L f:Addr} {cd:Value}
noncomputable def law5:List PySem.Stmt:=bodyOf F_law.body[5]?
noncomputable def law5in:List PySem.Stmt:=bodyOf law5[0]?
theorem law5_len:law5in.length=4:=rfl
noncomputable abbrev lA (rv pv sv:Value) (Nr Nt Ns:Addr):List (Str × Value):=("left", rv)::("low", pv)::("here", sv)::l₀ Nr Nt Ns
noncomputable abbrev lB (rv₂ pv₂ sv₂ rv pv sv:Value) (Nr Nt Ns:Addr):List (Str × Value):=("right", rv₂)::("high", pv₂)::("there", sv₂)::lA rv pv sv Nr Nt Ns
theorem callRel {pos:Pos} {env:Env} {e:Expr} {rest:List Expr} {Q:Value→Shared→Prop} (T:TK w mg g)
  (h:wpAny (model prog w) A (spliced (backTo pos (starEach (e::rest) env))) (fun vs s₁=>Kp g s₁.heap∧wpAny (model prog w) A (call (.ref 195) vs) Q E s₁) E s)
  (he:starEach (e::rest) env=(false,eval e env)::starEach rest env:=by rfl) :
  wpAny (model prog w) A (callWith pos (.ref 195) [] (backTo pos (starEach (e::rest) env)) []) Q E s:=by
 have ho:g.get? 195=some ⟨.type "function", none,.func relFd,#[]⟩:=by
  have:=congrArg (·[4]?) T.hook.objs
  simpa [hookAddrs,hookObjs] using this
 exact callWith_def (o:=⟨.type "function", none,.func relFd,#[]⟩) (fd:=relFd) rfl (wpAny_mono h (fun vs s₁ p=>⟨p.1 _ _ ho,p.2⟩) fun _ _ x=>x) he
theorem law_i0 {rv₂ pv₂ sv₂ rv pv sv:Value} {Nr Nt Ns:Addr} {xs ys:List Pr} (T:TK w mg g) (R:Room A 10) (F:St g L s.heap (lB rv₂ pv₂ sv₂ rv pv sv Nr Nt Ns) []) (hr:RL g xs rv) (hp:PL g xs pv) (hr₂:RL g ys rv₂) (hp₂:PL g ys pv₂) (hx:RowOk xs) (hy:RowOk ys)
  {sm:Stmt} (hb:law5in[0]?=some sm)
  (kx:∀ h k,St g L h (lB rv₂ pv₂ sv₂ rv pv sv Nr Nt Ns) []→Q .next { s with heap:=h,toks:=k }) :
  wpAny (model prog w) A (exec sm (lawEnv L f cd)) Q E s:=by
 cases hb
 obtain ⟨f1,hf1⟩:=T.addr F_less
 refine u22 hr fun a us z0 ha hus=>?_; clear hr; subst z0
 refine u22 hr₂ fun b ws z0 hb hws=>?_; clear hr₂; subst z0
 refine u22 hp fun a' us' z0 ha' hus'=>?_; clear hp; subst z0
 refine u22 hp₂ fun b' ws' z0 hb' hws'=>?_; clear hp₂; subst z0
 have h1:=hx.cnt
 have h2:=hy.cnt
 walk_at "ms"
 refine ltRV R.units (isL_keeps ha F.keep) (isL_keeps hb F.keep) hus hws hx.okp hy.okp ?_
 walk_at "ms"
 refine useK (P:=fun v s'=>v=.bool (lessN xs ys)) F (less_spec (T.keeps F.keep) hf1 (R.le (by decide)) (isL_keeps ha' F.keep) (isL_keeps hb' F.keep) (hus'.mono fun _ _ y=>y.keeps F.keep) (hws'.mono fun _ _ y=>y.keeps F.keep) (by walk_at "li") (by walk_at "li") hx.okp hy.okp) fun v h₁ tk₁ hv F₁ k₁=>?_
 subst hv
 refine neBool ?_
 rw [show (!(lessN xs ys == lessN xs ys))=false by simp]
 walk_at "ms"
 exact kx _ _ F₁
theorem law_i1 {rv₂ pv₂ sv₂ rv pv sv:Value} {Nr Nt Ns:Addr} {xs ys:List Pr} (T:TK w mg g) (R:Room A 10) (F:St g L s.heap (lB rv₂ pv₂ sv₂ rv pv sv Nr Nt Ns) []) (hp:PL g xs pv) (hp₂:PL g ys pv₂) (hx:RowOk xs) (hy:RowOk ys)
  {sm:Stmt} (hb:law5in[1]?=some sm)
  (kx:∀ t h k,St g L h ((("shared" : Str),.int (shN xs ys:Nat) t)::lB rv₂ pv₂ sv₂ rv pv sv Nr Nt Ns) []→Q .next { s with heap:=h,toks:=k }) :
  wpAny (model prog w) A (exec sm (lawEnv L f cd)) Q E s:=by
 cases hb
 obtain ⟨f1,hf1⟩:=T.addr F_shared
 refine u22 hp fun a' us' z0 ha' hus'=>?_; clear hp; subst z0
 refine u22 hp₂ fun b' ws' z0 hb' hws'=>?_; clear hp₂; subst z0
 have h1:=hx.cnt
 have h2:=hy.cnt
 walk_at "ms"
 refine useK (P:=fun v s'=>∃ t,v=.int (shN xs ys:Nat) t) F (shared_spec (T.keeps F.keep) hf1 (R.le (by decide)) (isL_keeps ha' F.keep) (isL_keeps hb' F.keep) (hus'.mono fun _ _ y=>y.keeps F.keep) (hws'.mono fun _ _ y=>y.keeps F.keep) (by walk_at "li") (by walk_at "li")) fun v h₁ tk₁ hv F₁ k₁=>?_
 obtain ⟨t,rfl⟩:=hv
 walk_at "ms"
 intro h₃ F₃ e₃
 walk_at "ms"
 exact kx t _ _ F₃
noncomputable abbrev stepsN (xs ys:List Pr):Txts:=List.replicate (xs.length-shN xs ys) [46,46]++nmN (ys.drop (shN xs ys))
theorem law_i2 {rv₂ pv₂ sv₂ rv pv sv:Value} {Nr Nt Ns:Addr} {xs ys:List Pr} {t:Tok} (T:TK w mg g) (R:Room A 10) (F:St g L s.heap ((("shared" : Str),.int (shN xs ys:Nat) t)::lB rv₂ pv₂ sv₂ rv pv sv Nr Nt Ns) []) (hp:PL g xs pv) (hp₂:PL g ys pv₂) (hx:RowOk xs) (hy:RowOk ys)
  {sm:Stmt} (hb:law5in[2]?=some sm)
  (kx:∀ g₂ stv h k,Kp g g₂→Ts g₂ (stepsN xs ys) stv→St g₂ L h ((("steps" : Str),stv)::lB rv₂ pv₂ sv₂ rv pv sv Nr Nt Ns) []→Q .next { s with heap:=h,toks:=k }) :
  wpAny (model prog w) A (exec sm (lawEnv L f cd)) Q E s:=by
 cases hb
 refine u22 hp fun a' us' z0 ha' hus'=>?_; clear hp; subst z0
 refine u22 hp₂ fun b' ws' z0 hb' hws'=>?_; clear hp₂; subst z0
 have h1:=hx.cnt
 have h2:=hy.cnt
 have l1:=hus'.1
 have l2:=hws'.1
 have hsh:=shN_le xs ys
 walk_at "ms"
 refine ⟨szl (by simp),fun h₁ P₁ hP₁ hk₁ hT₁=>?_⟩
 have F₁:=F.keeps hk₁
 walk_at "ms"
 refine lenL (isL_keeps ha' F₁.keep) (by exact q2 0x186a0180284014846a8100016a 1 11 (by kernel_rfl) h1 l1) fun _ _=>?_
 rw [l1]
 walk_at "ms"
 refine mulL1 (xs.length-shN xs ys) (by exact q3 0x100530800498aac000100001162fa 1 50260 (by kernel_rfl) hsh) (by exact q2 0xc3500c000c4428100016a 1 19 (by kernel_rfl) h1) (isL_of hT₁) fun h₂ P₂ hP₂ hk₂ hT₂=>?_
 have F₂:=F₁.keeps hk₂
 walk_at "ms"
 refine compE (cl:=[]) ?_
 walk_at "ms"
 intro h₃ I hI hk₃ hT₃
 have F₃:=F₂.keeps hk₃
 walk_at "ms"
 refine slcFromL (shN xs ys) rfl (isL_keeps hb' F₃.keep) hT₃ (by exact q4 0x200608400c18400c030c775000211a 1 26 (by kernel_rfl) l2 hsh) (by exact q2 0x186a0180284014846a8100016a 1 11 (by kernel_rfl) h2 l2) fun h₄ P₄ hP₄ hk₄ hT₄=>?_
 have F₄:=F₃.keeps hk₄
 have hdr:=hws'.drop (shN xs ys)
 refine (w34 (ws'.drop (shN xs ys)).length _ (fun _ i y=>∃ p:Pr,(ys.drop (shN xs ys))[i]?=some p∧∃ t,y=Value.str (S (itN p.2)) t) (Src.list R.hh (isL_of hT₄)) (by rw [hdr.1,List.length_drop]; exact q2 0xc3500c000c4428100016a 1 19 (by kernel_rfl) h2) (fun G H i v _ h=>h) ?_ ?_)
 ·intro i v gX h tk C D E' hi hv kX hex FX
  refine u11 (hdr.get hv) fun p hp z0=>?_; obtain ⟨a,tt,u,rfl,ha,hpv⟩:=z0
  have TX:=T.keeps fun b o e=>kX b o (F₄.keep b o e)
  have ha':=isTu_keeps ha fun b o e=>kX b o (F₄.keep b o e)
  clear T
  walk_at "ms"
  refine idxT 1 rfl (ha'.at fun o e=>FX.keep _ o e) (v:=u) (vs:=[.int p.1 tt,u]) rfl (by simp) ?_
  walk_at "ms"
  refine strIt hpv (hy.okI p (List.mem_of_mem_drop (List.mem_of_getElem? hp))) fun t k=>?_
  exact ⟨(w11 p hp ⟨t,rfl⟩),Keeps.tok⟩
 ·intro D h₅ tk₅ zs hD hpl hlen hR hk₅
  have hzs:=al_strs (hlen.trans hdr.1) hR
  have F₅:=F₄.keeps hk₅
  have hzl:zs.length≤40:=by rw [hlen,hdr.1,List.length_drop]; exact q2 0x140c000c4428100016a 1 19 (by kernel_rfl) h2
  walk_at "ms"
  refine addL (isL_of (hk₅ _ _ (hk₄ _ _ (hk₃ _ _ hT₂)))) hpl.isList (by rw [List.length_replicate]; exact q3 0x186a0184000624446140c01406ea8100016a 1 103 (by kernel_rfl) h1 hzl) fun h₆ P₆ hP₆ hk₆ hT₆=>?_
  refine u12 ((F₅.keeps hk₆).withL (isL_of hT₆) noOwn) fun g₂ kg₂ hT₆ F₆=>?_
  walk_at "ms"
  intro h₇ F₇ e₇
  walk_at "ms"
  refine kx g₂ _ _ _ kg₂ (w22 P₆ _ rfl hT₆ ?_) (F₇.pick ["steps", "right", "high", "there", "left", "low", "here", "ranked", "told", "spots"] rfl)
  rw [List.map_append]
  exact (strs_rep _).append' hzs
theorem law_i3 {rv₂ pv₂ sv₂ rv pv sv stv:Value} {Nr Nt Ns:Addr} {xs ys:List Pr} (T:TK w mg g) (R:Room A 10) (F:St g L s.heap ((("steps" : Str),stv)::lB rv₂ pv₂ sv₂ rv pv sv Nr Nt Ns) []) (hst:Ts g (stepsN xs ys) stv) (hs:SP xs sv) (hs₂:SP ys sv₂) (hx:RowOk xs) (hy:RowOk ys)
  {sm:Stmt} (hb:law5in[3]?=some sm)
  (kx:∀ h k,St g L h (lA rv pv sv Nr Nt Ns) []→Q .next { s with heap:=h,toks:=k }) :
  wpAny (model prog w) A (exec sm (lawEnv L f cd)) Q E s:=by
 cases hb
 have hrel:=T.rel
 refine u22 hst fun D us z0 hD hus=>?_; clear hst; subst z0
 obtain ⟨t,rfl⟩:=hs
 obtain ⟨t₂,rfl⟩:=hs₂
 have h1:=hx.cnt
 have h2:=hy.cnt
 have hul:us.length≤80:=by
  have:=strsAre_len hus
  rw [List.length_map,List.length_append,List.length_replicate,nmN_len,List.length_drop] at this
  exact q4 0x14060060c200a78001891400c48f540c01406ea8100016a 1 143762119 (by kernel_rfl) h1 h2 this
 have hj1:=Nat.le_trans hx.joined (by decide:330≤10000)
 have hj2:=Nat.le_trans hy.joined (by decide:330≤10000)
 have hst:=rel_steps hx.good hy.good
 have hsum:((stepsN xs ys).map (·.length)).sum+(stepsN xs ys).length≤1000000:=by
  have e1:=joinL_len (Nat.le_trans hy.joined (Nat.le_refl 330))
  have e2:((nmN (ys.drop (shN xs ys))).map (·.length)).sum≤((nmN ys).map (·.length)).sum:=by
   unfold nmN
   rw [List.map_drop,List.map_drop]
   exact sum_drop _ _
  have e3:((stepsN xs ys).map (·.length)).sum=2*(xs.length-shN xs ys)+((nmN (ys.drop (shN xs ys))).map (·.length)).sum:=by
   rw [List.map_append,List.sum_append,List.map_replicate,List.sum_replicate_nat]
   simp; exact q2 0x20007012500031151f2 2 0x49241049241 (by kernel_rfl)
  have e4:(stepsN xs ys).length=(xs.length-shN xs ys)+(ys.drop (shN xs ys)).length:=by
   rw [List.length_append,List.length_replicate,nmN_len]
  rw [List.length_drop] at e4
  exact q8 0x7a1200f0a00e43418200a78000c4cb803925540c00070121095007247a8200380cd469421a58400c430085540c01406ea8100016a 2 0x40415040415440515040415548415048415442c153404157 (by kernel_rfl) h1 h2 e1 e2 e3 e4
 walk_at "ms"
 refine callRel T ?_
 walk_at "ms"
 refine useK (P:=fun v s'=>∃ t',v=.str (S (relTxt (nmN xs) (nmN ys))) t') F (relpath_spec (T.keeps F.keep) (R.le (by decide)) hx.piece hy.piece hj1 hj2) fun v h₁ tk₁ hv F₁ k₁=>?_
 obtain ⟨t',rfl⟩:=hv
 rw [hst]
 walk_at "ms"
 refine tL (isL_keeps hD F₁.keep) (by walk_at "li") fun _=>?_
 have hnil:us=[]↔stepsN xs ys=[]:=by
  have:=strsAre_len hus
  rw [List.length_map] at this
  rw [← List.length_eq_zero_iff,← List.length_eq_zero_iff,this]
 by_cases he:us=[]
 ·rw [decide_eq_false (by simpa using he),if_pos (hnil.mp he)]
  walk_at "ms"
  refine if_bf (decide_eq_false (by simp)) ?_
  walk_at "ms"
  exact kx _ _ (F₁.pick ["left", "low", "here", "ranked", "told", "spots"] rfl)
 ·rw [decide_eq_true he,if_neg (fun q=>he (hnil.mpr q))]
  walk_at "ms"
  refine joinS (isL_keeps hD F₁.keep) hus (by decide) hsum fun t'' k=>?_
  walk_at "ms"
  refine if_bf (decide_eq_false (by simp)) ?_
  walk_at "ms"
  exact kx _ _ (F₁.pick ["left", "low", "here", "ranked", "told", "spots"] rfl)
end
section
variable {prog:Program} {w:World} {mg:Str→Option Value} {A:Around} {E:Value→Shared→Prop} {Q:Flow→Shared→Prop} {s:Shared} {g:Heap} {L f:Addr} {cd:Value}
theorem law_in {rv₂ pv₂ sv₂ rv pv sv:Value} {Nr Nt Ns:Addr} {xs ys:List Pr} (T:TK w mg g) (R:Room A 10) (F:St g L s.heap (lB rv₂ pv₂ sv₂ rv pv sv Nr Nt Ns) []) (hr:RL g xs rv) (hp:PL g xs pv) (hs:SP xs sv) (hr₂:RL g ys rv₂) (hp₂:PL g ys pv₂) (hs₂:SP ys sv₂) (hx:RowOk xs) (hy:RowOk ys)
  (kx:∀ h k,St g L h (lA rv pv sv Nr Nt Ns) []→Q .next { s with heap:=h,toks:=k }) :
  wpAny (model prog w) A (execs law5in (lawEnv L f cd)) Q E s:=by
 show wpAny (model prog w) A (execs law5in (lawEnv L f cd)) _ _ _
 refine wpAny_execs_cons (law_i0 T R F hr hp hr₂ hp₂ hx hy rfl fun h₁ k₁ F₁=>?_)
 refine wpAny_execs_cons (law_i1 T R F₁ hp hp₂ hx hy rfl fun t h₂ k₂ F₂=>?_)
 refine wpAny_execs_cons (law_i2 T R F₂ hp hp₂ hx hy rfl fun g₂ stv h₃ k₃ kg hst F₃=>?_)
 refine wpAny_execs_cons (law_i3 (T.keeps kg) R F₃ hst hs hs₂ hx hy rfl fun h₄ k₄ F₄=>?_)
 exact wpAny_execs_nil (kx _ _ (F₄.base kg))
theorem law_c5 {Nr Nt Ns:Addr} {rk tl sp:List Value} {rows:List (List Pr)} (T:TK w mg g) (R:Room A 10) (F:St g L s.heap (l₀ Nr Nt Ns) []) (hG:Got g rows rk tl sp) (hR:RowsF rows) (hr:g.IsList Nr rk.toArray) (ht:g.IsList Nt tl.toArray) (hs:g.IsList Ns sp.toArray)
  {sm:Stmt} (hb:F_law.body[5]?=some sm)
  (kx:∀ h k,St g L h (l₀ Nr Nt Ns) []→Q .next { s with heap:=h,toks:=k }) :
  wpAny (model prog w) A (exec sm (lawEnv L f cd)) Q E s:=by
 cases hb
 have e1:tl.length=sp.length:=by rw [hG.t.1,hG.s.1]
 have e2:rk.length=sp.length:=by rw [hG.r.1,hG.s.1]
 have get:∀ (i:Nat) (v u t:Value),sp[i]?=some v→tl[i]?=some u→rk[i]?=some t→∃ r,RowOk r∧SP r v∧PL g r u∧RL g r t:=fun i v u t h1 h2 h3=>by
  refine u11 (hG.s.get h1) fun r hr hv=>?_
  exact (w13 r (hR.ok r (List.mem_of_getElem? hr)) hv (hG.t.2 i r u hr h2) (hG.r.2 i r t hr h3))
 refine wpAny_For ?_
 walk_at "ms"
 refine itZ3 e1 e2 (fun _ l own=>own=[]∧l=l₀ Nr Nt Ns) (fun _ _=>False) R.hh F hs ht hr ⟨rfl,rfl⟩ ?_ ?_
 ·rintro i v u t l₁ own₁ g' h tk E' _ hQt h1 h2 h3 ⟨rfl,rfl⟩ kg' F
  refine u13 (get i v u t h1 h2 h3) fun xs hx hv hu ht'=>?_
  have T':=T.keeps kg'
  clear T
  refine stepO fun _ _ _ _=>?_
  refine wpAny_For ?_
  walk_at "ms"
  refine itZ3 (s:=⟨h,s.gens,s.drawn,tk,s.os⟩) e1 e2 (fun _ l own=>own=[]∧l=lA t u v Nr Nt Ns) (fun _ _=>False) R.hh F (isL_keeps hs kg') (isL_keeps ht kg') (isL_keeps hr kg') ⟨rfl,rfl⟩ ?_ ?_
  ·rintro j v₂ u₂ t₂ l₁ own₁ g'' h tk E' _ hQt q1 q2 q3 ⟨rfl,rfl⟩ kg'' F
   refine u13 (get j v₂ u₂ t₂ q1 q2 q3) fun ys hy hv₂ hu₂ ht₂=>?_
   have kk:Kp g g'':=fun b o e=>kg'' b o (kg' b o e)
   refine law_in (s:=⟨h,s.gens,s.drawn,tk,s.os⟩) (T'.keeps kg'') R F (ht'.datL (.of kk)) (hu.keeps kk) hv (ht₂.datL (.of kk)) (hu₂.keeps kk) hv₂ hx hy fun h' k' F'=>?_
   walk_at "ms"
   exact Turn.go hQt ⟨rfl,rfl⟩ F'
  ·rintro l₁ own₁ h tk hI F
   obtain ⟨rfl,rfl⟩:own₁=[]∧l₁=lA t u v Nr Nt Ns:=hI.elim id fun x=>x.elim
   walk_at "ms"
   exact Turn.go hQt ⟨rfl,rfl⟩ (F.pick ["ranked", "told", "spots"] rfl)
 ·rintro l₁ own₁ h tk hI F
  obtain ⟨rfl,rfl⟩:own₁=[]∧l₁=l₀ Nr Nt Ns:=hI.elim id fun x=>x.elim
  exact kx _ _ F
end
section
variable {prog:Program} {w:World} {mg:Str→Option Value} {E:Value→Shared→Prop} {s:Shared}
theorem room_caller {env:Env}:Room (callerA.deeper env) 10:=Room.deeper (A:=callerA) (n:=11) ⟨rfl,by decide,by decide⟩ (by decide)
set_option tactic.hygienic true in
theorem law_call {a D:Addr} {vs:List Value} (T:TK w mg s.heap) (hS:SaysP w s.heap) (ha:mg "law" = some (.ref a)) (hb:AllBare s.gens) (hD:s.heap.IsList D vs.toArray) (hv:∀ (i:Nat) (v:Value),vs[i]?=some v→∃ a t,v=Value.int a t) (hz:vs.length≤63) :
  wpC (model prog w) callerA (PySem.call (.ref a) [.ref D]) (fun v s'=>v=.bool true∧∃ h gens k,s'=⟨h,gens,s.drawn,k,s.os⟩∧AllBare gens∧TabO h∧Kp (hideAll s.heap [53]) h) E s:=by
 have hp:=hS.p53
 have T':=T.hide53 hp
 have hm:mg "_platform" = some (.ref 58):=T.nameH hS.nm
 have ht:TabO s.heap:=(w11 _ hp trivial)
 have h57:(hideAll s.heap [53]).get? 57=some platCode:=by rw [hide_other (by decide)]; exact hS.c57
 have hc:CodeOf (hideAll s.heap [53]) 58 57:=by
  have h:=hS.fc
  unfold codeAt58 at h
  split at h
  ·rename_i c d fd sl e
   refine (w22 ⟨c,d,.func fd,sl⟩ fd ?_ rfl (Option.some.inj h))
   rw [hide_other (by decide)]
   exact e
  ·cases h
 have hD':(hideAll s.heap [53]).IsList D vs.toArray:=(DatL.hide ht).list hD
 refine enterC F_law T ha (by decide) (binds:=[("script", .ref D)]) (fun _ _ _=>BindsTo.of_eq rfl) (locs rfl) rfl fun cd h₁ F₀=>?_
 have R:Room (callerA.deeper (envOf "law" F_law.scope s.heap.objs.size a cd)) 10:=room_caller
 have hfr:(callerA.deeper (envOf "law" F_law.scope s.heap.objs.size a cd)).frames=some [lawEnv s.heap.objs.size a cd]:=rfl
 generalize callerA.deeper (envOf "law" F_law.scope s.heap.objs.size a cd)=A at R hfr
 have F:=St.init F₀
 refine execsC_consA ?_
 walk_at "ms"
 refine ⟨szl (by simp),fun h₂ Nr hN₂ hk₂ hT₂=>?_⟩
 have F₂:=F.own1 (items:=[]) hk₂ hN₂ ⟨_,hT₂⟩
 walk_at "ms"
 intro h₃ F₃ e₃
 refine execsC_consA ?_
 walk_at "ms"
 refine ⟨szl (by simp),fun h₄ Nt hN₄ hk₄ hT₄=>?_⟩
 have F₄:=F₃.own1 (items:=[]) hk₄ hN₄ ⟨_,hT₄⟩
 walk_at "ms"
 intro h₅ F₅ e₅
 refine execsC_consA ?_
 walk_at "ms"
 refine ⟨szl (by simp),fun h₆ Ns hN₆ hk₆ hT₆=>?_⟩
 have F₆:=F₅.own1 (items:=[]) hk₆ hN₆ ⟨_,hT₆⟩
 walk_at "ms"
 intro h₇ F₇ e₇
 have F₈:=(F₇.pick ["script", "ranked", "told", "spots"] rfl).perm (own':=[(Nr,[]),(Nt,[]),(Ns,[])]) (List.reverse_perm [(Ns,[]),(Nt,[]),(Nr,[])])
 have ht₇:TabO h₇:=ht.keeps F₈.keep
 have F₉:=F₈.close53
 clear F₈ F₇ F₆ F₅ F₄ F₃ F₂ F F₀ e₃ e₅ e₇ hk₂ hk₄ hk₆ hT₂ hT₄ hT₆ hN₂ hN₄ hN₆ T
 generalize hG₀:hideAll s.heap [53]=g₀ at F₉ T' h57 hc hD'
 have hg₀:g₀.get? 53=none:=hG₀▸hideAll_none _ (List.mem_singleton_self _)
 refine execsC_cons (law_for (s:=⟨h₇,s.gens,s.drawn,_,s.os⟩) T' hm hc h57 hg₀ R hfr F₉ ht₇ hb hD' hv hz rfl fun h₈ gens₈ k₈ hb₈ ht₈ rels rk tl sp G hrel kG F₁₀ hG=>?_)
 refine u15 (law_lists F₁₀ ht₈) fun g₁ kg₁ tg₁ lr lt ls F₁₁=>?_
 have kk:Kp g₀ g₁:=fun b o e=>kg₁ b o (kG b o e)
 have T₁:=T'.keeps kk
 have hG₁:=hG.keeps kg₁
 have hR:=rowsF hrel
 refine execsC_consA (law_c4 (s:=⟨h₈,gens₈,s.drawn,k₈,s.os⟩) T₁ R F₁₁ hG₁ hR lt ls rfl fun h₁₂ k₁₂ F₁₂=>?_)
 refine execsC_consA (law_c5 (s:=⟨h₁₂,gens₈,s.drawn,k₁₂,s.os⟩) T₁ R F₁₂ hG₁ hR lr lt ls rfl fun h₁₃ k₁₃ F₁₃=>?_)
 refine execsC_consA ?_
 walk_at "ms"
 exact ⟨rfl,h₁₃,gens₈,_,rfl,hb₈,tg₁.keeps F₁₃.keep,fun b o e=>F₁₃.keep _ _ (kk b o e)⟩
theorem oldK {h h':Heap} (hp:h.get? 53=some platTab) (hc:h.get? 57=some platCode) (ht:TabO h') (k:Kp (hideAll h [53]) h'):OldK h h':=by
 refine u11 ht fun ps e _=>?_; clear ht
 obtain ⟨_,hct⟩:=TabO.ct (w11 _ hp trivial) hc
 have key:∀ b o,b≠53→h.get? b=some o→h'.get? b=some o:=fun b o hb q=>k b o (by rw [hide_other hb]; exact q)
 refine ⟨fun b o q=>?_,fun b o q=>?_⟩
 ·by_cases hb:b=53
  ·subst hb
   rw [hp] at q; cases q
   exact .inr (.inl ⟨hct.2.isCodeTable,rfl,#[],ps,rfl,by rw [Array.empty_append]; exact e⟩)
  ·exact .inl (key b o hb q)
 ·by_cases hb:b=53
  ·exact ⟨_,hb▸e⟩
  ·exact ⟨o,key b o hb q⟩
end
theorem ints_of {R:WRecords} {cl:Str→Option Addr} {h:Heap}:∀ {ns:List Int} {vs:List Value} {as:List Addr},ReadsAllW R cl h vs (ns.map WData.int) as→vs.length=ns.length∧∀ (i:Nat) (v:Value),vs[i]?=some v→∃ a t,v=Value.int a t
 | [],vs,as,r=>by
  obtain ⟨rfl,_⟩:=readsAllW_nil_inv r
  exact ⟨rfl,fun i v e=>by cases e⟩
 | n::ns,vs,as,r=>by
  refine u43 (readsAllW_cons_inv r) fun v us a b z0 _ r1 r2=>?_; subst z0
  refine u11 (readsW_int_inv r1) fun t z0 _=>?_; subst z0
  obtain ⟨h1,h2⟩:=ints_of r2
  refine ⟨by simp [h1],fun i v e=>?_⟩
  cases i with
  | zero=>cases e; exact (w20 _ _ rfl)
  | succ i=>exact h2 i v (by simpa using e)
theorem law_walk:WalkC vw lsNames (XL vw []) SaysP rowO.toRowW:=by
 intro w s₀ s₁ mg mb G hS a ha hgens args vals as hpre hlay hrd
 have T:TK w mg s₁.heap:=TK.of_top G.T hS.base
 obtain ⟨hsh,hcond⟩:=pre_splitW hpre
 refine u22 (hasAllW_cons hsh) fun d r z0 hx hr=>?_; subst z0
 have:=hasAllW_nil hr
 subst this
 refine u11 (hasW_list hx) fun xs z0 hall=>?_; subst z0
 obtain ⟨ns,rfl⟩:=items_int hall
 refine u43 (readsAllW_cons_inv hrd) fun v us a₁ a₂ z0 z1 r1 r2=>?_; subst z0; subst z1
 obtain ⟨rfl,_⟩:=readsAllW_nil_inv r2
 refine u55 (readsW_list_open r1) fun D o its n ai z0 ho hc hd r3 _=>?_; subst z0
 obtain ⟨hl,hi⟩:=ints_of r3
 have hz:ns.length≤63:=by
  have h1:=(holds_andW (a:=.not (.lt (.lit (.int 63)) (.len (.arg 0)))) (b:=.lit (.bool true)) hcond).1
  replace h1:(!decide ((63:Int)<((ns.map WData.int).length:Int)))=true:=(holdsW_of_value (by kernel_rfl)).symm.trans h1
  rw [List.length_map] at h1
  rcases Nat.lt_or_ge 63 ns.length with q | q
  ·rw [decide_eq_true (show (63:Int)<(ns.length:Int) by exact q1 0xfc4293f10a116a 1 3 (by kernel_rfl) q)] at h1
   cases h1
  ·exact q
 refine wpC_mono (law_call T hS ha (AllBare.of_eq hgens) (D:=D) (vs:=its.toList) (w12 o ho hc ⟨n,by rw [hd]⟩) hi (by exact q2 0x3f1000fc600a0375000211a 1 13 (by kernel_rfl) hl hz)) (fun v s' hq=>?_) fun _ _ e=>e
 obtain ⟨rfl,h,gens,k,rfl,hb,ht,kk⟩:=hq
 refine ⟨.inl (w34 (.bool true) (.bool true) ([]) rfl (fun _=>rfl) (.bool true) ?_ (fun _=>⟨List.nodup_nil,fun a h=>nomatch h⟩)),oldK hS.p53 hS.c57 ht kk,rfl,hb⟩
 have h1:WShape.has rowO.records (WData.bool true) WShape.bool=true:=by kernel_rfl
 have h2:(WTm.eq .res (.lit (.bool true))).holds rowO.records { args:=[WData.list (List.map WData.int ns)],res:=some (.bool true),after:=[WData.list (List.map WData.int ns)] }=true:=holdsW_of_value (by kernel_rfl)
 exact Bool.and_eq_true_iff.mpr ⟨h1,h2⟩
end Mine
set_option maxHeartbeats 8000000 in
theorem PySem.Challenge.cw_in0309_01_holds : PySem.Challenge.rw_in0309_01.Holds := by
  exact Mine.hdC Mine.law_walk
