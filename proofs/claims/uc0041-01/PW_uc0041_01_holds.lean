import PyProof.Rows.All
import Wide.All
import OpenK.AllK
import Wide.FinOn
import KE.KLam
import PyProof.AutoListH
import PyProof.GenQ
import PySem.Challenge.RW_uc0041_01
open PySem PySem.Calls PyProof.Rows PySem.W
set_option Elab.async false
set_option tactic.hygienic false
set_option compiler.extract_closed false
set_option bootstrap.genMatcherCode false
set_option genSizeOf false
set_option linter.all false
namespace Mine
theorem bc {p : Prop} (h : ¬ ¬ p) : p:=Classical.byContradiction h
noncomputable abbrev tabA : Addr:=335
noncomputable abbrev codA : Addr:=337
noncomputable def topStmt (i : Nat) : Stmt:=PySem.Challenge.pw_uc0041_01.main.body.getD i (.Pass ⟨0,0,0,0⟩)
noncomputable def sBody : Stmt→List Stmt
 | .FunctionDef _ _ b _ _ _ _ _ _ _=>b
 | _=>[]
noncomputable def sArgs : Stmt→Arguments
 | .FunctionDef _ a _ _ _ _ _ _ _ _=>a
 | _=>⟨[],[],none,[],[],none,[]⟩
noncomputable def sScope : Stmt→Scope
 | .FunctionDef _ _ _ _ _ _ s _ _ _=>s
 | _=>default
noncomputable abbrev hdrC : Addr:=241
noncomputable def nameCode : Array Nat:=#[14,10,4,1,1,22,0,31,16,127,0,13,7,22,0,31,16,127,0,1]
noncomputable def valCode : Array Nat:=#[14,14,4,1,1,9,4294966783,0,0,2147483648,0,0,0,0,0,13,11,9,4294966783,0,0,2147483648,0,0,0,0,0,1]
noncomputable def hBody : List Stmt:=match topStmt 17 with
 | .ClassDef _ _ _ b _ _ _ _ _ _ _=>b
 | _=>[]
noncomputable def meth (i : Nat) : Stmt:=hBody.getD i (.Pass ⟨0,0,0,0⟩)
end Mine
open PySem.Builtin PySem.Builtin.Re
namespace Mine
noncomputable abbrev rowP : Program:=PySem.Challenge.rw_uc0041_01.row.prog
noncomputable def viewQ : Program:={ rowP with main:={ rowP.main with body:=[0,1,8,9,10,11,13,14,15,17,19,20,21,22,23,24,25,26,27,28,29,30,31,32,33,34,35].filterMap fun i=>rowP.main.body[i]? } }
noncomputable def looseN : List Str:=[PySem.Str.ofString "insort_right",PySem.Str.ofString "bisect_right",PySem.Str.ofString "insort_left",PySem.Str.ofString "bisect_left",PySem.Str.ofString "tspecials",PySem.Str.ofString "_name_disallowed_re",PySem.Str.ofString "_value_disallowed_re",PySem.Str.ofString "_formatparam"]
noncomputable def cview (h : Heap) : Value→Option Str
 | .ref cc=>(h.get? cc).bind fun oc=>match oc.data with
  | .fields vc=>(match (vc[1]? : Option Value) with
   | some (Value.str q _)=>some q
   | _=>none)
  | _=>none
 | _=>none
noncomputable def dview (h : Heap) : Value→Nat
 | .none=>0
 | .ref x=>if x = tabA then 9 else match h.get? x with
  | some oc=>(match oc.data with
   | .seq xs _=>(match xs.toList with
    | [.int 0 _,.none]=>1
    | [.none]=>2
    | _=>3)
   | _=>3)
  | none=>3
 | _=>3
noncomputable def fview (h : Heap) (a : Addr):=(h.get? a).bind fun o=>match o.data with
 | .func fd=>some (o.cls,fd.params,fd.body,fd.scope,fd.globals,fd.builtins,fd.closure,fd.code,fd.qualname,cview h fd.code,dview h fd.defaults,dview h fd.kwdefaults)
 | _=>none
noncomputable def fexp (x : Addr × Stmt × Str × Nat × Nat):=some (Value.type "function",sArgs x.2.1,FuncBody.stmts (sBody x.2.1),sScope x.2.1,mainGlobals,builtinsNs,([] : List (Str × Addr)),Value.ref (x.1 - 1),x.2.2.1,some x.2.2.1,x.2.2.2.1,x.2.2.2.2)
noncomputable def fns : List (Addr × Stmt × Str × Nat × Nat):=[(47,topStmt 3,"insort_right",1,3),(56,topStmt 4,"bisect_right",1,3),(65,topStmt 5,"insort_left",1,3),(74,topStmt 6,"bisect_left",1,3),(81,topStmt 8,"_strcoll",0,0),(88,topStmt 9,"_strxfrm",0,0),(95,topStmt 11,"_grouping_intervals",0,0),(252,topStmt 19,"_law_cells",0,0),(259,topStmt 20,"_law_words",0,0),(266,topStmt 21,"_law_place",0,0),(273,topStmt 22,"_law_store",0,0),(280,topStmt 23,"_law_order",0,0),(285,topStmt 24,"_law_lowered",0,0),(290,topStmt 25,"_law_final",0,0),(295,topStmt 26,"_law_plan",0,0),(302,topStmt 27,"_law_moved",0,0),(307,topStmt 28,"_law_due",0,0),(314,topStmt 29,"_law_runs",0,0),(321,topStmt 30,"_law_ruler",0,0),(328,topStmt 31,"_law_marks",0,0),(333,topStmt 32,"_law_sums",0,0),(338,topStmt 33,"_law_fronts",0,0),(343,topStmt 34,"_law_all_fronts",0,0),(348,topStmt 35,"law",0,0),(133,meth 0,"Headers.__init__",2,0),(140,meth 1,"Headers._convert_string_type",0,0),(154,meth 3,"Headers.__setitem__",0,0),(159,meth 4,"Headers.__delitem__",0,0),(188,meth 8,"Headers.get",2,0),(205,meth 11,"Headers.items",0,0),(238,meth 16,"Headers.add_header",0,0)]
noncomputable def ofIs (h : Heap) (ks : List Addr) : Frag:=ks.filterMap fun a=>(h.get? a).map (a,·)
noncomputable def kOf (h : Heap) : Frag:=ofIs h [241,240,133,140,154,159,188,205,238]
noncomputable def hview (K : Frag):=((["__getattribute__","__getattr__","__init__","_convert_string_type","__setitem__","__delitem__","get","items","add_header","_headers","__setattr__"] : List Str).map fun n=>findIn K (.ref hdrC) n,[133,140,154,159,188,205,238].map fun a=>typeIn K (.ref a),
 (K.lookup tabA).isNone && makesIn K hdrC && (clsIn K hdrC).any (·.hasDict) && plainOver K hdrC && noSeq K hdrC && keepIn K (.ref hdrC))
noncomputable def glv (h : Heap) (n : Str) : Option Value:=match h.get? mainGlobals with
 | some o=>(match o.data with
  | .dict es _=>nsFind es n
  | _=>none)
 | none=>none
noncomputable def pview (h : Heap) (a : Addr):=(h.get? a).bind fun o=>match o.data with
 | .fields fs=>(match fs.getD 5 .none with
  | .ref cd=>some (o.cls,o.dict,reRawNat (fs.getD 6 .none),reRawNat (fs.getD 2 .none),cd,(h.get? cd).bind fun oc=>match oc.data with
   | .seq items _=>some ((items.map reRawOf).map (·.toNat))
   | _=>none)
  | _=>none)
 | _=>none
noncomputable def vtag : Value→Nat
 | .str _ _=>1
 | .int _ _=>2
 | .bool _=>3
 | _=>0
noncomputable def tview (h : Heap):=(h.get? codA).bind fun o=>match o.data with
 | .fields vs=>some (o.cls,vs[11]?,vtag (vs.getD 18 .none),vtag (vs.getD 7 .none),vtag (vs.getD 9 .none),vtag (vs.getD 10 .none))
 | _=>none
noncomputable def gn1 : List (Str × Addr):=[("insort_right",47),("bisect_right",56),("insort_left",65),("bisect_left",74),("_strcoll",81),("_strxfrm",88),("_grouping_intervals",95),("_law_cells",252),("_law_words",259),("_law_place",266),("_law_store",273),("_law_order",280),("_law_lowered",285),("_law_final",290),("_law_plan",295),("_law_moved",302),("_law_due",307),("_law_runs",314),("_law_ruler",321),("_law_marks",328),("_law_sums",333),("_law_fronts",338),("_law_all_fronts",343),("law",348),("Headers",hdrC),("_name_disallowed_re",105),("_value_disallowed_re",110)]
noncomputable def gn2 : List Str:=["range","len","list","sorted","sum","type","int","ValueError","str"]
noncomputable def obsH (h : Heap):=(fns.map fun x=>fview h x.1,hview (kOf h),gn1.map (fun x=>glv h x.1),gn2.map (fun x=>glv h x),(match glv h "CHAR_MAX" with | some (.int i _)=>some i | _=>none),(h.get? mainGlobals).map (·.cls),pview h 105,pview h 110,tview h,h.get? tabA)
noncomputable def valH:=(fns.map fexp,(([some (some (.builtin "object.__getattribute__")),some none,some (some (.ref 133)),some (some (.ref 140)),some (some (.ref 154)),some (some (.ref 159)),some (some (.ref 188)),some (some (.ref 205)),some (some (.ref 238)),some none,some (some (.builtin "object.__setattr__"))] : List (Option (Option Value))),
 List.replicate 7 (some (Value.type "function")),true),gn1.map (fun x=>some (Value.ref x.2)),gn2.map (fun J=>(none : Option Value)),(some 127 : Option Int),some (Value.type "dict"),some (Value.type "re.Pattern",(none : Option Addr),(0 : Nat),(0 : Nat),(104 : Addr),some nameCode),some (Value.type "re.Pattern",(none : Option Addr),(0 : Nat),(0 : Nat),(109 : Addr),some valCode),some (Value.type "code",some (Value.ref tabA),1,2,3,2),some ({ cls:=.none,data:=.fields #[] } : Obj))
example : obsH default = valH→True:=fun J=>trivial
end Mine
open PySem.Builtin PySem.Builtin.Re
namespace Mine
abbrev StT:=SharedT→Thread→Option (SharedT × Thread)
theorem cond_on {α β : Type} {b : Bool} {x y : Option α} {x' y' : Option β} {v : α} {v' : β} (h : cond b x y = some v) (h1 : x = some v→x' = some v') (h2 : y = some v→y' = some v') : cond b x' y' = some v':=by
 cases b
 ·exact h2 h
 ·exact h1 h
noncomputable def exK {α : Type} (x : Option (List Value)) (a b : Option α) : Option α:=match x with
 | some []=>a
 | some (_::_)=>none
 | none=>b
theorem exK_on {α β : Type} {b : Option (List Value)} {x y : Option α} {x' y' : Option β} {v : α} {v' : β} (h : exK b x y = some v) (h1 : x = some v→x' = some v') (h2 : y = some v→y' = some v') : exK b x' y' = some v':=by
 cases b with
 | none=>exact h2 h
 | some l =>
  cases l with
  | nil=>exact h1 h
  | cons=>exact nomatch h
noncomputable def stK (x : Step) (k : Shared→Thread→Option Shared) : Option Shared:=match x with
 | .go s t=>k s t
 | .halt _ _=>none
noncomputable def topT (ok : Thread→Bool) (st : StT) : Nat→SharedT→Thread→Option SharedT
 | 0,_,_=>none
 | n + 1,s,t=>cond (through t) (some s) (cond (ok t) ((st s t).bind fun x=>topT ok st n x.1 x.2) none)
section
variable {tb : String→Option Builtin} {p : Program} {w : World} {n₀ : Nat} {ann : Option Value} {s' : SharedT} {n : Nat}
theorem topRun_succ {s : Shared} {t : Thread} : topRun tb p w n₀ ann (n + 1) s t = cond (through t) (some s) (cond (stepOk n₀ ann t) (stK (step (denote tb) p w s t) (fun s' t'=>topRun tb p w n₀ ann n s' t')) none):=by kernel_rfl
theorem topT_of (n : Nat) : ∀ {s : SharedT} {t : Thread},topT (stepOk n₀ ann) (stepT (denote tb) p w) n s t = some s'→topRun tb p w n₀ ann n s.abs t = some s'.abs:=by
 induction n with
 | zero=>intro s t h; exact nomatch h
 | succ n ih =>
  intro s t h
  refine topRun_succ.trans (cond_on (b:=through t) h (fun e=>congrArg (·.map SharedT.abs) e) fun h=>cond_on h (fun h=>?_) fun e=>nomatch e)
  obtain ⟨x,hs,h⟩:=Option.bind_eq_some_iff.mp h
  exact (congrArg (stK · _) (stepT_spec hs)).trans (ih h)
noncomputable def impT (ex : Thread→Option (List Value)) (st : StT) : Nat→SharedT→Thread→Option SharedT
 | 0,_,_=>none
 | n + 1,s,t=>exK (ex t) (some s) ((st s t).bind fun x=>impT ex st n x.1 x.2)
theorem impT_of (n : Nat) : ∀ {s : SharedT} {t : Thread},impT Thread.atExitBegin (stepT (denote tb) p w) n s t = some s'→importEnds tb p w n s.abs t = some s'.abs:=by
 induction n with
 | zero=>intro s t h; exact nomatch h
 | succ n ih =>
  intro s t h
  refine exK_on (α:=SharedT) (b:=t.atExitBegin) (v:=s') h (fun e=>congrArg (·.map SharedT.abs) e) fun h=>?_
  obtain ⟨x,hs,h⟩:=Option.bind_eq_some_iff.mp h
  show stK (step (denote tb) p w s.abs t) (fun s' t'=>importEnds tb p w n s' t') = _
  exact (congrArg (stK · _) (stepT_spec hs)).trans (ih h)
end
noncomputable def mkT : List Obj→BT→Nat→Option (BT × Nat)
 | [],t,n=>some (t,n)
 | o::l,t,n=>cond ((t.ins n o).get n).isSome (mkT l (t.ins n o) (n + 1)) none
theorem mkT_of {life : Life} {x : BT × Nat} (l : List Obj) : ∀ {t : BT} {n : Nat},mkT l t n = some x→some (absHeap x.1 x.2 life) = some ⟨(absHeap t n life).objs ++ l.toArray,life⟩:=by
 induction l with
 | nil=>intro t n h; cases h; exact congrArg (fun a=>some (Heap.mk a life)) Array.append_empty.symm
 | cons o l ih =>
  intro t n h
  cases e : ((t.ins n o).get n).isSome with
  | false=>exact nomatch (congrArg (cond · _ none) e).symm.trans h
  | true =>
   refine (ih ((congrArg (cond · _ none) e).symm.trans h)).trans (congrArg (fun a=>some (Heap.mk a life)) ?_)
   rw [absHeap_ins e]
   exact (congrArg (· ++ l.toArray) Array.push_eq_append).trans (Array.append_assoc.trans (congrArg _ (List.append_toArray [o] l)))
noncomputable def toT (s : Shared) : Option SharedT:=(mkT s.heap.objs.toList .nil 0).map fun x=>⟨x.1,x.2,s.heap.life,s.gens,s.drawn,s.toks,s.os⟩
theorem toT_of {s : Shared} {x : SharedT} (h : toT s = some x) : x.abs = s:=by
 obtain ⟨y,h1,h2⟩:=Option.map_eq_some_iff.mp h
 exact h2▸congrArg (fun a=>Shared.mk a s.gens s.drawn s.toks s.os) ((Option.some.inj (mkT_of _ h1)).trans (congrArg (Heap.mk · s.heap.life) Array.empty_append))
noncomputable def openQ (sp : Program→Shared × Thread) (ex : Thread→Option (List Value)) (st : Program→World→StT) (fm : Program→Shared→Option Shared) (p : Program) (w : World) (N : Nat) : Option Shared:=(toT (sp (opening p)).1).bind fun a=>(impT ex (st (opening p) w) N a (sp (opening p)).2).bind fun b=>fm p b.abs
noncomputable def fromQ (ok : Nat→Option Value→Thread→Bool) (st : Program→World→StT) (p : Program) (w : World) (N : Nat) (s₀ : Shared) : Option Shared :=
 cond (s₀.heap.isNs mainGlobals && s₀.gens.size == 0) ((toT s₀).bind fun c=>(topT (ok s₀.heap.objs.size (s₀.heap.nsMap mainGlobals "__annotations__")) (st p w) N c (topStub p)).bind fun d=>cond (staticsOk (importedModules p.main.body) s₀.heap d.abs.heap && namesBound p d.abs.heap && gensDone d.abs && laidKept s₀.heap d.abs.heap) (some d.abs) none) none
theorem openQ_of {p : Program} {w : World} {N : Nat} {s : Shared} (h : openQ start Thread.atExitBegin (stepT (denote treeTable)) fenceModules? p w N = some s) : fencedOpening treeTable p w N = some s:=by
 obtain ⟨a,h1,h⟩:=Option.bind_eq_some_iff.mp h
 obtain ⟨b,h2,h⟩:=Option.bind_eq_some_iff.mp h
 exact Option.bind_eq_some_iff.mpr ⟨_,toT_of h1▸impT_of N h2,h⟩
theorem fromQ_of {p : Program} {w : World} {N : Nat} {s₀ s : Shared} (h : fromQ stepOk (stepT (denote treeTable)) p w N s₀ = some s) : topFrom treeTable p w N s₀ = some s:=by
 refine cond_on h (fun h=>?_) fun e=>nomatch e
 obtain ⟨c,h1,h⟩:=Option.bind_eq_some_iff.mp h
 obtain ⟨d,h2,h⟩:=Option.bind_eq_some_iff.mp h
 have h2:=topT_of N h2
 rw [toT_of h1] at h2
 exact Option.bind_eq_some_iff.mpr ⟨_,h2,h⟩
theorem endsQ {α : Type} {p : Program} {w : World} {N : Nat} {F : Shared→α} {v : α} (h : ((openQ start Thread.atExitBegin (stepT (denote treeTable)) fenceModules? p w N).bind (fromQ stepOk (stepT (denote treeTable)) p w N)).map F = some v) : (openEnds treeTable p w N).map F = some v:=by
 obtain ⟨s,h,hv⟩:=Option.map_eq_some_iff.mp h
 obtain ⟨s₀,h1,h2⟩:=Option.bind_eq_some_iff.mp h
 exact Option.map_eq_some_iff.mpr ⟨s,Option.bind_eq_some_iff.mpr ⟨s₀,openQ_of h1,fromQ_of h2⟩,hv⟩
set_option maxRecDepth 1000000 in
theorem leftAB (w : World) : ((openEnds treeTable rowP w 3732).map fun s=>(openSeen viewQ looseN (importedModules rowP.main.body) (fun s=>xlAt viewQ [] s && recOk (RowW.records PySem.Challenge.rw_uc0041_01.row.toRowW) s) true s,obsH s.heap)) = some (openGood viewQ looseN,valH):=by
 refine endsQ ?_
 first | (rw [Fast.te4187177175401517315,Fast.te1435165496053646825,Fast.te3805553451399329143,Fast.te10156331382660048174,Fast.te11892475500146522536,Fast.te14364793385576792824,Fast.te14289696077712309145,Fast.te6613529449190102663]; kernel_rfl) | kernel_rfl
inductive CV where
 | unb
 | none
 | bool (b : Bool)
 | int (i : Int)
 | str (x : Str)
 | list (vs : List CV)
 | tup (vs : List CV)
 | rng (a b c : Int)
 | ref (a : Addr)
 | ty (n : String)
 | bi (n : String)
 | own (i : Nat)
 | mlist (vs : List CV)
 | hdr (its : List (Str × Str))
 | mhdr (its : List (Str × Str))
 | lam (two : Bool) (row : CV)
 | edict
 deriving Inhabited
noncomputable abbrev qlam : Str:="_law_fronts.<locals>.<lambda>"
noncomputable def LamTab (h : Heap) (ps : Array Value) : Prop:=∀ pos cv,codeAmong pos ps.toList = some cv→∃ cc oc vc tc,cv = .ref cc∧cc ≠ tabA∧h.get? cc = some oc∧oc.cls = .type "code"∧oc.data = .fields vc∧vc[1]? = some (.str qlam tc)
noncomputable def NF (h : Heap) (a : Addr) : Prop:=∃ o,h.get? a = some o∧(o.cls ≠ .type "code"∨∀ vs,o.data ≠ .fields vs)
structure TabOk (h : Heap) (ps : Array Value) : Prop where
 c : h.IsCode codA tabA ps
 t : h.TableAt codA tabA ps
 l : LamTab h ps
theorem LamTab.keeps {h h' : Heap} {ps} (x : LamTab h ps) (hk : ∀ b o,h.get? b = some o→h'.get? b = some o) : LamTab h' ps:=fun pos cv e=>by
 refine bc fun hG=>?_
 obtain ⟨cc,oc,vc,tc,h1,h2,h3,r⟩:=x pos cv e
 refine hG ?_
 clear hG
 exact ⟨cc,oc,vc,tc,h1,h2,hk _ _ h3,r⟩
theorem LamTab.push {h : Heap} {ps} (x : LamTab h ps) (o : Obj) : LamTab (h.push o) ps:=x.keeps fun J J e=>Heap.get?_push_of_some o e
theorem LamTab.but {h h' : Heap} {ps} {z : Addr} (x : LamTab h ps) (hz : NF h z) (hk : ∀ b o,b ≠ z→h.get? b = some o→h'.get? b = some o) : LamTab h' ps:=fun pos cv e=>by
 refine bc fun hG=>?_
 obtain ⟨cc,oc,vc,tc,h1,h2,h3,h4,h5,r⟩:=x pos cv e
 refine hG ?_
 clear hG
 refine ⟨cc,oc,vc,tc,h1,h2,hk _ _ (fun q=>?_) h3,h4,h5,r⟩
 obtain ⟨o,e1,e2⟩:=hz
 rw [← q,h3] at e1; cases e1
 rcases e2 with e2 | e2
 ·exact e2 h4
 ·exact e2 _ h5
theorem TabOk.keeps {h h' : Heap} {ps} (x : TabOk h ps) (hk : ∀ b o,h.get? b = some o→h'.get? b = some o) : TabOk h' ps :=
 ⟨x.c.keeps hk,x.t.keeps hk,x.l.keeps hk⟩
theorem NF.keeps {h h' : Heap} {a : Addr} (x : NF h a) (hk : ∀ o,h.get? a = some o→h'.get? a = some o) : NF h' a:=let ⟨o,e,r⟩:=x; ⟨o,hk o e,r⟩
structure Kp (h h' : Heap) : Prop where
 keep : ∀ b o,b ≠ tabA→h.get? b = some o→h'.get? b = some o
 tab : ∀ ps,TabOk h ps→∃ more,TabOk h' (ps ++ more)
theorem Kp.of_all {h h' : Heap} (hk : ∀ b o,h.get? b = some o→h'.get? b = some o) : Kp h h' :=
 ⟨fun b o J e=>hk b o e,fun ps t=>⟨#[],by rw [Array.append_empty]; exact t.keeps hk⟩⟩
theorem Kp.refl (h : Heap) : Kp h h:=.of_all fun J J e=>e
theorem Kp.trans {a b c : Heap} (x : Kp a b) (y : Kp b c) : Kp a c :=
 ⟨fun p o hp e=>y.keep p o hp (x.keep p o hp e),fun ps t=>by
  obtain ⟨m,t'⟩:=x.tab ps t
  obtain ⟨m',t''⟩:=y.tab _ t'
  exact ⟨m ++ m',by rw [← Array.append_assoc]; exact t''⟩⟩
theorem Kp.push (h : Heap) (o : Obj) : Kp h (h.push o):=.of_all fun J J e=>Heap.get?_push_of_some o e
noncomputable abbrev Al (h : Heap) (a : Addr) : Prop:=∃ o,h.get? a = some o
noncomputable def lamOf (two : Bool) : PySem.Expr:=match (sBody (topStmt 33)).getD (if two then 2 else 1) (.Pass ⟨0,0,0,0⟩) with
 | .Assign _ v _=>v
 | _=>.Constant .none 0 ⟨0,0,0,0⟩
noncomputable def lamArgs (two : Bool) : Arguments:=match lamOf two with
 | .Lambda a _ _ _=>a
 | _=>⟨[],[],none,[],[],none,[]⟩
noncomputable def lamBody (two : Bool) : PySem.Expr:=match lamOf two with
 | .Lambda _ b _ _=>b
 | e=>e
noncomputable def lamScope (two : Bool) : Scope:=match lamOf two with
 | .Lambda _ _ s _=>s
 | _=>default
noncomputable def lamName (two : Bool) : Str:=if two then "two" else "one"
noncomputable def hdrItem (p : Str × Str) : CV:=.tup [.str p.1,.str p.2]
mutual
inductive VR (F : Addr→Prop) (h : Heap) : CV→Value→Prop
 | none : VR F h .none .none
 | bool (b) : VR F h (.bool b) (.bool b)
 | int (i t) : VR F h (.int i) (.int i t)
 | str (x t) : VR F h (.str x) (.str x t)
 | ref (a) : VR F h (.ref a) (.ref a)
 | ty (n) : VR F h (.ty n) (.type n)
 | bi (n) : VR F h (.bi n) (.builtin n)
 | rng {a x y z t u v} : ¬ F a→IsRange h a x y z t u v→VR F h (.rng x y z) (.ref a)
 | list {a vs items n} : ¬ F a→IsL h a items n→items.size≤4096→VRs F h vs items.toList→VR F h (.list vs) (.ref a)
 | tup {a vs items n} : ¬ F a→IsT h a items n→VRs F h vs items.toList→VR F h (.tup vs) (.ref a)
 | hdr {a d l its items hs t n ne} : ¬ F a→¬ F d→¬ F l→h.get? a = some (instObj hdrC d)→h.get? d = some (dictOf [⟨hs,.str "_headers" t,.ref l⟩] n) →
   IsL h l items ne→items.size≤4096→VRs F h (its.map hdrItem) items.toList→VR F h (.hdr its) (.ref a)
 | lam {a c two row o fd v} : ¬ F a→¬ F c→h.get? a = some o→o.cls = .type "function"→o.data = .func fd→fd.params = lamArgs two→fd.body = .expr (lamBody two)→fd.scope = lamScope two →
   fd.globals = mainGlobals→fd.builtins = builtinsNs→fd.closure = [(lamName two,c)]→fd.defaults = .none→fd.kwdefaults = .none →
   (∃ cc oc vc tc,fd.code = .ref cc∧¬ F cc∧h.get? cc = some oc∧oc.cls = .type "code"∧oc.data = .fields vc∧vc[1]? = some (.str fd.qualname tc)) →
   (∃ oc,h.get? c = some oc∧oc.data = .cell (some v))→VR F h row v→VR F h (.lam two row) (.ref a)
 | edict {a} : ¬ F a→a ≠ sysModules→h.get? a = some { cls:=.type "dict",data:=.dict #[] }→VR F h .edict (.ref a)
inductive VRs (F : Addr→Prop) (h : Heap) : List CV→List Value→Prop
 | nil : VRs F h [] []
 | cons {c cs v vs} : VR F h c v→VRs F h cs vs→VRs F h (c::cs) (v::vs)
end
section
variable {F F' : Addr→Prop} {h h' : Heap}
theorem VR.move (mv : ∀ b o,¬ F b→h.get? b = some o→¬ F' b∧h'.get? b = some o) {c : CV} {v : Value} (x : VR F h c v) : VR F' h' c v:=by
 refine VR.rec (motive_1:=fun c v J=>VR F' h' c v) (motive_2:=fun cs vs J=>VRs F' h' cs vs)
  .none .bool .int .str .ref .ty .bi ?_ ?_ ?_ ?_ ?_ ?_ .nil ?_ x
 ·intro a x y z t u v hf hr; exact .rng (mv _ _ hf hr).1 (mv _ _ hf hr).2
 ·intro a vs items n hf hl hz _ ih; exact .list (mv _ _ hf hl).1 (mv _ _ hf hl).2 hz ih
 ·intro a vs items n hf hl _ ih; exact .tup (mv _ _ hf hl).1 (mv _ _ hf hl).2 ih
 ·intro a d l its items hs t n ne h1 h2 h3 g1 g2 g3 hz _ ih
  exact .hdr (mv _ _ h1 g1).1 (mv _ _ h2 g2).1 (mv _ _ h3 g3).1 (mv _ _ h1 g1).2 (mv _ _ h2 g2).2 (mv _ _ h3 g3).2 hz ih
 ·intro a c two row o fd v hfa hfc ho e1 e2 e3 e4 e5 e6 e7 e8 e9 e10 ec ecell _ ih
  refine bc fun hG=>?_
  obtain ⟨cc,oc,vc,tc,q1,q2,q3,q4,q5⟩:=ec
  obtain ⟨ok,q6,q7⟩:=ecell
  refine hG ?_
  clear hG
  exact .lam (mv _ _ hfa ho).1 (mv _ _ hfc q6).1 (mv _ _ hfa ho).2 e1 e2 e3 e4 e5 e6 e7 e8 e9 e10 ⟨cc,oc,vc,tc,q1,(mv _ _ q2 q3).1,(mv _ _ q2 q3).2,q4,q5⟩ ⟨ok,(mv _ _ hfc q6).2,q7⟩ ih
 ·intro a hf hs hg; exact .edict (mv _ _ hf hg).1 hs (mv _ _ hf hg).2
 ·intro c cs v vs _ _ i1 i2; exact .cons i1 i2
theorem VRs.nil_inv {vs} (r : VRs F h [] vs) : vs = []:=by cases r; rfl
theorem VRs.cons_inv {c cs vs} (r : VRs F h (c::cs) vs) : ∃ u us,vs = u::us∧VR F h c u∧VRs F h cs us:=by cases r; exact ⟨_,_,rfl,‹_›,‹_›⟩
theorem VRs.ind {P : List CV→List Value→Prop} (n : P [] []) (k : ∀ {c cs v vs},VR F h c v→VRs F h cs vs→P cs vs→P (c::cs) (v::vs)) {cs : List CV} : ∀ {vs : List Value},VRs F h cs vs→P cs vs:=by
 induction cs with
 | nil=>intro vs x; rw [x.nil_inv]; exact n
 | cons c cs ih =>
  intro vs x
  refine bc fun hG=>?_
  obtain ⟨v,ws,e,r,q⟩:=x.cons_inv
  exact hG (e▸k r q (ih q))
theorem VRs.move (mv : ∀ b o,¬ F b→h.get? b = some o→¬ F' b∧h'.get? b = some o) {cs : List CV} {vs : List Value} (x : VRs F h cs vs) : VRs F' h' cs vs:=x.ind .nil fun r J ih=>.cons (r.move mv) ih
theorem VR.kp (hT : F tabA) (k : Kp h h') {c : CV} {v : Value} (x : VR F h c v) : VR F h' c v :=
 x.move fun b o hf e=>⟨hf,k.keep b o (fun e'=>hf (e'▸hT)) e⟩
theorem VRs.kp (hT : F tabA) (k : Kp h h') {c : List CV} {v : List Value} (x : VRs F h c v) : VRs F h' c v :=
 x.move fun b o hf e=>⟨hf,k.keep b o (fun e'=>hf (e'▸hT)) e⟩
theorem VR.weak (hs : ∀ a,F' a→F a) {c : CV} {v : Value} (x : VR F h c v) : VR F' h c v:=x.move fun b o hf e=>⟨fun q=>hf (hs b q),e⟩
theorem VRs.weak (hs : ∀ a,F' a→F a) {c : List CV} {v : List Value} (x : VRs F h c v) : VRs F' h c v:=x.move fun b o hf e=>⟨fun q=>hf (hs b q),e⟩
theorem VRs.length {cs : List CV} {vs : List Value} (x : VRs F h cs vs) : cs.length = vs.length:=x.ind (P:=fun cs vs=>cs.length = vs.length) rfl fun J J ih=>congrArg (· + 1) ih
theorem VRs.get {cs : List CV} {vs : List Value} (x : VRs F h cs vs) {i : Nat} {c : CV} : cs[i]? = some c→∃ v,vs[i]? = some v∧VR F h c v :=
 x.ind (P:=fun cs vs=>∀ i : Nat,cs[i]? = some c→∃ v,vs[i]? = some v∧VR F h c v) (fun J e=>nomatch e) (fun r J ih i e=>by
  cases i with
  | zero=>cases e; exact ⟨_,rfl,r⟩
  | succ i=>exact ih i e) i
theorem VRs.append {cs ds : List CV} {vs ws : List Value} (x : VRs F h cs vs) (y : VRs F h ds ws) : VRs F h (cs ++ ds) (vs ++ ws):=x.ind (P:=fun cs vs=>VRs F h (cs ++ ds) (vs ++ ws)) y fun r J ih=>.cons r ih
theorem VRs.take (n : Nat) {cs : List CV} {vs : List Value} (x : VRs F h cs vs) : VRs F h (cs.take n) (vs.take n) :=
 x.ind (P:=fun cs vs=>∀ n,VRs F h (cs.take n) (vs.take n)) (fun n=>by cases n <;> exact .nil) (fun r J ih n=>by cases n with | zero=>exact .nil | succ n=>exact .cons r (ih n)) n
theorem VRs.drop (n : Nat) {cs : List CV} {vs : List Value} (x : VRs F h cs vs) : VRs F h (cs.drop n) (vs.drop n) :=
 x.ind (P:=fun cs vs=>∀ n,VRs F h (cs.drop n) (vs.drop n)) (fun n=>by cases n <;> exact .nil) (fun r q ih n=>by cases n with | zero=>exact .cons r q | succ n=>exact ih n) n
theorem VRs.eraseIdx (n : Nat) {cs : List CV} {vs : List Value} (x : VRs F h cs vs) : VRs F h (cs.eraseIdx n) (vs.eraseIdx n) :=
 x.ind (P:=fun cs vs=>∀ n,VRs F h (cs.eraseIdx n) (vs.eraseIdx n)) (fun n=>.nil) (fun r q ih n=>by cases n with | zero=>exact q | succ n=>exact .cons r (ih n)) n
theorem VRs.set (n : Nat) {cs : List CV} {vs : List Value} {c : CV} {v : Value} (x : VRs F h cs vs) (y : VR F h c v) : VRs F h (cs.set n c) (vs.set n v) :=
 x.ind (P:=fun cs vs=>∀ n,VRs F h (cs.set n c) (vs.set n v)) (fun n=>.nil) (fun r q ih n=>by cases n with | zero=>exact .cons y q | succ n=>exact .cons r (ih n)) n
end
theorem len_s {α : Type} {l : List α} {n : Nat} (h : l.length = n + 1) : ∃ a t,l = a::t∧t.length = n:=by
 cases l with
 | nil=>cases h
 | cons a t=>exact ⟨a,t,rfl,Nat.succ.inj h⟩
theorem len1 {α : Type} {l : List α} (h : l.length = 1) : ∃ a,l = [a]:=by
 obtain ⟨a,t,rfl,q⟩:=len_s h
 exact ⟨a,by rw [List.eq_nil_of_length_eq_zero q]⟩
theorem len2 {α : Type} {l : List α} (h : l.length = 2) : ∃ a b,l = [a,b]:=by
 refine bc fun hG=>?_
 obtain ⟨a,t,rfl,q⟩:=len_s h
 obtain ⟨b,rfl⟩:=len1 q
 refine hG ?_
 clear hG
 exact ⟨a,b,rfl⟩
theorem len3 {α : Type} {l : List α} (h : l.length = 3) : ∃ a b d,l = [a,b,d]:=by
 refine bc fun hG=>?_
 obtain ⟨a,t,rfl,q⟩:=len_s h
 obtain ⟨b,d,rfl⟩:=len2 q
 refine hG ?_
 clear hG
 exact ⟨a,b,d,rfl⟩
theorem six {α : Type} {l : List α} (h : l.length = 6) : ∃ a b c d e f,l = [a,b,c,d,e,f]:=by
 refine bc fun hG=>?_
 obtain ⟨a,r,rfl,q⟩:=len_s h
 obtain ⟨b,r,rfl,q2⟩:=len_s q
 obtain ⟨c,t,rfl,q3⟩:=len_s q2
 obtain ⟨d,e,f,rfl⟩:=len3 q3
 refine hG ?_
 clear hG
 exact ⟨a,b,c,d,e,f,rfl⟩
section
variable {F : Addr→Prop} {h : Heap} {v : Value}
noncomputable def VRI (F : Addr→Prop) (h : Heap) (v : Value) : CV→Prop
 | .none=>v = .none
 | .bool b=>v = .bool b
 | .int i=>∃ t,v = .int i t
 | .str x=>∃ t,v = .str x t
 | .ref a=>v = .ref a
 | .ty n=>v = .type n
 | .bi n=>v = .builtin n
 | .rng x y z=>∃ a t u q,v = .ref a∧¬ F a∧IsRange h a x y z t u q
 | .list vs=>∃ a items n,v = .ref a∧¬ F a∧IsL h a items n∧items.size≤4096∧VRs F h vs items.toList
 | .tup vs=>∃ a items n,v = .ref a∧¬ F a∧IsT h a items n∧VRs F h vs items.toList
 | .hdr _=>∃ a,v = .ref a
 | .lam _ _=>∃ a,v = .ref a
 | .edict=>∃ a,v = .ref a
 | _=>False
theorem VR.inv {c : CV} (r : VR F h c v) : VRI F h v c:=by
 cases r with
 | none=>rfl
 | bool=>rfl
 | int _ t=>exact ⟨t,rfl⟩
 | str _ t=>exact ⟨t,rfl⟩
 | ref=>rfl
 | ty=>rfl
 | bi=>rfl
 | rng a b=>exact ⟨_,_,_,_,rfl,a,b⟩
 | list a b c d=>exact ⟨_,_,_,rfl,a,b,c,d⟩
 | tup a b c=>exact ⟨_,_,_,rfl,a,b,c⟩
 | hdr=>exact ⟨_,rfl⟩
 | lam=>exact ⟨_,rfl⟩
 | edict=>exact ⟨_,rfl⟩
theorem VR.none_inv (r : VR F h .none v) : v = .none:=r.inv
theorem VR.bool_inv {b} (r : VR F h (.bool b) v) : v = .bool b:=r.inv
theorem VR.int_inv {i} (r : VR F h (.int i) v) : ∃ t,v = .int i t:=r.inv
theorem VR.str_inv {x} (r : VR F h (.str x) v) : ∃ t,v = .str x t:=r.inv
theorem VR.ref_inv {a} (r : VR F h (.ref a) v) : v = .ref a:=r.inv
theorem VR.ty_inv {n} (r : VR F h (.ty n) v) : v = .type n:=r.inv
theorem VR.bi_inv {n} (r : VR F h (.bi n) v) : v = .builtin n:=r.inv
theorem VR.rng_inv {x y z} (r : VR F h (.rng x y z) v) : ∃ a t u q,v = .ref a∧¬ F a∧IsRange h a x y z t u q:=r.inv
theorem VR.list_inv {vs} (r : VR F h (.list vs) v) : ∃ a items n,v = .ref a∧¬ F a∧IsL h a items n∧items.size≤4096∧VRs F h vs items.toList:=r.inv
theorem VR.tup_inv {vs} (r : VR F h (.tup vs) v) : ∃ a items n,v = .ref a∧¬ F a∧IsT h a items n∧VRs F h vs items.toList:=r.inv
end
section
variable {α : Type} {r : α}
theorem ff {P : Prop} (h : false = true) : P:=nomatch h
theorem ite_some {p : Prop} [Decidable p] {a : α} (h : (if p then some a else none) = some r) : p∧a = r:=by
 by_cases hp : p
 ·rw [if_pos hp] at h; exact ⟨hp,Option.some.inj h⟩
 ·rw [if_neg hp] at h; cases h
theorem ite_opt {p : Prop} [Decidable p] {o : Option α} (h : (if p then o else none) = some r) : p∧o = some r:=by
 by_cases hp : p
 ·rw [if_pos hp] at h; exact ⟨hp,h⟩
 ·rw [if_neg hp] at h; cases h
theorem oB {α β : Type} {o : Option α} {f : α→Option β} {b : β} (h : o.bind f = some b) : ∃ a,o = some a∧f a = some b:=Option.bind_eq_some_iff.mp h
theorem oM {α β : Type} {o : Option α} {f : α→β} {b : β} (h : o.map f = some b) : ∃ a,o = some a∧f a = b:=Option.map_eq_some_iff.mp h
theorem oR {α β : Type} {o : Option α} {f : α→Option β} {b : β} {P : Prop} (k : ∀ a,o = some a→f a = some b→P) (h : o.bind f = some b) : P:=by
 obtain ⟨a,x,y⟩:=oB h; exact k a x y
theorem oE {α β : Type} {o : Option α} {f : α→Option β} {b : β} {P : Prop} (h : o.bind f = some b) (k : ∀ a,o = some a→f a = some b→P) : P:=oR k h
theorem mR {α β : Type} {o : Option α} {f : α→β} {b : β} {P : Prop} (k : ∀ a,o = some a→f a = b→P) (h : o.map f = some b) : P:=by
 obtain ⟨a,x,y⟩:=oM h; exact k a x y
theorem mE {α β : Type} {o : Option α} {f : α→β} {b : β} {P : Prop} (h : o.map f = some b) (k : ∀ a,o = some a→f a = b→P) : P:=mR k h
theorem bA {a b : Bool} (h : (a && b) = true) : a = true∧b = true:=Bool.and_eq_true_iff.mp h
theorem gL {α : Type} {l : List α} {i : Nat} {a : α} (h : l[i]? = some a) : i < l.length:=(List.getElem?_eq_some_iff.mp h).1
theorem none_ne {P : Prop} (h : (none : Option α) = some r) : P:=nomatch h
noncomputable def asI (f : Int→Option α) : CV→Option α
 | .int i=>f i
 | _=>none
noncomputable def asS (f : Str→Option α) : CV→Option α
 | .str x=>f x
 | _=>none
noncomputable def asL (f : List CV→Option α) : CV→Option α
 | .list vs=>f vs
 | _=>none
noncomputable def asT (f : String→Option α) : CV→Option α
 | .ty x=>f x
 | _=>none
noncomputable def asH (f : List (Str × Str)→Option α) : CV→Option α
 | .hdr its=>f its
 | _=>none
noncomputable def asM (f : List CV→Option α) : CV→Option α
 | .mlist vs=>f vs
 | _=>none
noncomputable def asN (f : List (Str × Str)→Option α) : CV→Option α
 | .mhdr its=>f its
 | _=>none
noncomputable def asB (f : Bool→Option α) : CV→Option α
 | .bool b=>f b
 | _=>none
noncomputable def asW (f : Bool→CV→Option α) : CV→Option α
 | .lam t row=>f t row
 | _=>none
theorem asI_inv {f : Int→Option α} {v : CV} (h : asI f v = some r) : ∃ i,v = .int i∧f i = some r:=by cases v <;> first | exact none_ne h | exact ⟨_,rfl,h⟩
theorem asS_inv {f : Str→Option α} {v : CV} (h : asS f v = some r) : ∃ i,v = .str i∧f i = some r:=by cases v <;> first | exact none_ne h | exact ⟨_,rfl,h⟩
theorem asL_inv {f : List CV→Option α} {v : CV} (h : asL f v = some r) : ∃ i,v = .list i∧f i = some r:=by cases v <;> first | exact none_ne h | exact ⟨_,rfl,h⟩
theorem asT_inv {f : String→Option α} {v : CV} (h : asT f v = some r) : ∃ i,v = .ty i∧f i = some r:=by cases v <;> first | exact none_ne h | exact ⟨_,rfl,h⟩
theorem asH_inv {f : List (Str × Str)→Option α} {v : CV} (h : asH f v = some r) : ∃ i,v = .hdr i∧f i = some r:=by cases v <;> first | exact none_ne h | exact ⟨_,rfl,h⟩
theorem asM_inv {f : List CV→Option α} {v : CV} (h : asM f v = some r) : ∃ i,v = .mlist i∧f i = some r:=by cases v <;> first | exact none_ne h | exact ⟨_,rfl,h⟩
theorem asN_inv {f : List (Str × Str)→Option α} {v : CV} (h : asN f v = some r) : ∃ i,v = .mhdr i∧f i = some r:=by cases v <;> first | exact none_ne h | exact ⟨_,rfl,h⟩
theorem asB_inv {f : Bool→Option α} {v : CV} (h : asB f v = some r) : ∃ i,v = .bool i∧f i = some r:=by cases v <;> first | exact none_ne h | exact ⟨_,rfl,h⟩
theorem asW_inv {f : Bool→CV→Option α} {v : CV} (h : asW f v = some r) : ∃ i row,v = .lam i row∧f i row = some r:=by cases v <;> first | exact none_ne h | exact ⟨_,_,rfl,h⟩
noncomputable def on0 (f : Option α) : List CV→Option α
 | []=>f
 | _=>none
noncomputable def on1 (f : CV→Option α) : List CV→Option α
 | []=>none
 | a::l=>on0 (f a) l
noncomputable def on2 (f : CV→CV→Option α) : List CV→Option α
 | []=>none
 | a::l=>on1 (f a) l
noncomputable def on3 (f : CV→CV→CV→Option α) : List CV→Option α
 | []=>none
 | a::l=>on2 (f a) l
theorem on0_inv {f : Option α} {l : List CV} (h : on0 f l = some r) : l = []∧f = some r:=by cases l; exact ⟨rfl,h⟩; exact none_ne h
theorem on1_inv {f : CV→Option α} {l : List CV} (h : on1 f l = some r) : ∃ a,l = [a]∧f a = some r:=by
 cases l; exact none_ne h; obtain ⟨rfl,e⟩:=on0_inv h; exact ⟨_,rfl,e⟩
theorem on2_inv {f : CV→CV→Option α} {l : List CV} (h : on2 f l = some r) : ∃ a b,l = [a,b]∧f a b = some r:=by
 cases l; exact none_ne h; obtain ⟨_,rfl,e⟩:=on1_inv h; exact ⟨_,_,rfl,e⟩
theorem on3_inv {f : CV→CV→CV→Option α} {l : List CV} (h : on3 f l = some r) : ∃ a b c,l = [a,b,c]∧f a b c = some r:=by
 cases l; exact none_ne h; obtain ⟨_,_,rfl,e⟩:=on2_inv h; exact ⟨_,_,_,rfl,e⟩
end
structure AOk (k : Nat) (A : Around) : Prop where
 hd : A.handled = none
 dp : A.depth + k≤800
 un : A.units + 20 * k≤9000
 fs : ∃ l,A.frames = some l
section
variable {A : Around} {k : Nat}
theorem AOk.mono {j : Nat} (h : AOk k A) (hj : j≤k) : AOk j A:=⟨h.hd,by have:=h.dp; lia,by have:=h.un; lia,h.fs⟩
theorem AOk.in1 (h : AOk (k + 1) A) : AOk k A.in1:=⟨h.hd,by have:=h.dp; show A.depth + k≤800; exact Nat.le_of_succ_le this,by have:=h.un; show A.units + 1 + 20 * k≤9000; lia,h.fs⟩
theorem AOk.deeper (h : AOk (k + 1) A) (env : Env) : AOk k (A.deeper env):=⟨h.hd,by have:=h.dp; show A.depth + 1 + k≤800; lia,by have:=h.un; show A.units + 3 + 20 * k≤9000; lia,by obtain ⟨l,e⟩:=h.fs; exact ⟨env::l,by show A.frames.map (env::·) = _; rw [e]; rfl⟩⟩
theorem AOk.lim (h : AOk k A) : A.depth < recursionLimit:=by have:=h.dp; show A.depth < 1000; lia
theorem AOk.cl64 (h : AOk k A) : A.units + 64 < cLine:=by have:=h.un; show A.units + 64 < 9900; lia
end
structure FR (h : Heap) (a : Addr) (st : Stmt) (dV kV : Value) (o : Obj) (fd : FuncData) : Prop where
 ho : h.get? a = some o
 k : o.cls = .type "function"
 d : o.data = .func fd
 p : fd.params = sArgs st
 b : fd.body = .stmts (sBody st)
 s : fd.scope = sScope st
 g : fd.globals = mainGlobals
 u : fd.builtins = builtinsNs
 c : fd.closure = []
 f : fd.defaults = dV
 w : fd.kwdefaults = kV
 code : ∃ cc oc vc tc,fd.code = .ref cc∧cc ≠ tabA∧h.get? cc = some oc∧oc.data = .fields vc∧vc[1]? = some (.str fd.qualname tc)
 n : fd.code ≠ .none
structure FnRec (h : Heap) (a : Addr) (st : Stmt) (dV kV : Value) : Prop where
 ex : ∃ o fd,FR h a st dV kV o fd
structure TF (prog : Program) (h : Heap) (mg mb : Str→Option Value) : Prop where
 lim : h.NoLimit
 tab : ∃ ps,TabOk h ps
 g : h.Ns mainGlobals mg
 b : h.Ns builtinsNs mb
 bt : ∀ x : Str,x ≠ "__name__"→mb x = bootBuiltins x
 seer : h.NoSeer
 tree : prog.given.tree = none
noncomputable def FrOk (A : Around) : Prop:=∃ e l,A.frames = some (e::l)∧e.scope.isGenerator = false∧e.scope.isCoroutine = false∧e.builtins = builtinsNs∧e.globals = mainGlobals
structure GK (s s' : Shared) : Prop where
 b : AllBare s.gens→AllBare s'.gens
 k : ∀ (i : Nat) (x : GenState),s.gens[i]? = some x→s'.gens[i]? = some x
theorem GK.same {s s' : Shared} (h : s'.gens = s.gens) : GK s s':=⟨fun x=>h▸x,fun i x e=>by rw [h]; exact e⟩
theorem GK.trans {a b c : Shared} (x : GK a b) (y : GK b c) : GK a c:=⟨fun g=>y.b (x.b g),fun i z e=>y.k i z (x.k i z e)⟩
structure GB (s s' : Shared) : Prop where
 b : AllBare s'.gens
 k : ∀ (i : Nat) (x : GenState),s.gens[i]? = some x→s'.gens[i]? = some x
theorem GK.gb {a b c : Shared} (y : GK b c) (x : GB a b) : GB a c:=⟨y.b x.b,fun i z e=>y.k i z (x.k i z e)⟩
theorem GB.gk {s s' : Shared} (x : GB s s') : GK s s':=⟨fun J=>x.b,x.k⟩
structure Ex (s s' : Shared) : Prop where
 kp : Kp s.heap s'.heap
 os : s'.os = s.os
 gens : GK s s'
theorem Ex.refl (s : Shared) : Ex s s:=⟨.refl _,rfl,.same rfl⟩
theorem Ex.trans {a b c : Shared} (x : Ex a b) (y : Ex b c) : Ex a c:=⟨x.kp.trans y.kp,y.os.trans x.os,x.gens.trans y.gens⟩
theorem Ex.heap {s : Shared} {h' : Heap} {tk : Nat} (k : Kp s.heap h') : Ex s { s with heap:=h',toks:=tk }:=⟨k,rfl,.same rfl⟩
theorem Ex.all {s : Shared} {h' : Heap} {tk : Nat} (k : ∀ b o,s.heap.get? b = some o→h'.get? b = some o) : Ex s { s with heap:=h',toks:=tk }:=⟨.of_all k,rfl,.same rfl⟩
theorem Ex.tok {s : Shared} {tk : Nat} : Ex s { s with toks:=tk }:=⟨.refl _,rfl,.same rfl⟩
theorem Ex.push {s : Shared} (o : Obj) {tk : Nat} : Ex s { s with heap:=s.heap.push o,toks:=tk }:=⟨.push _ _,rfl,.same rfl⟩
structure FC where
 A : Around
 env : Env
 X : Addr→Prop
 s0 : Shared
 P : Addr→Prop
 K : Nat→Bool
noncomputable abbrev FC.names (c : FC) : List (Str × NameKind):=c.env.scope.names
noncomputable def Mut (c : FC) (own : Nat→Option Addr) (a : Addr) : Prop :=
 a = c.env.locals∨(∃ (i : Nat) (x : Str),c.names[i]? = some (x,NameKind.cell)∧c.K i = false∧c.env.cells.lookup x = some a)∨∃ i,own i = some a
noncomputable def FF (c : FC) (own : Nat→Option Addr) (a : Addr) : Prop:=c.X a∨Mut c own a
noncomputable def hdrDict (hs : Int) (t : Tok) (l : Addr) (n : Nat) : Obj:=dictOf [⟨hs,.str "_headers" t,.ref l⟩] n
noncomputable def OV (F : Addr→Prop) (own : Nat→Option Addr) (h : Heap) (i : Nat) : CV→Value→Prop
 | .mlist _,v=>∃ a,v = .ref a∧own i = some a
 | .mhdr _,v=>∃ a d l hs t n,v = .ref a∧own i = some l∧¬ F a∧¬ F d∧h.get? a = some (instObj hdrC d)∧h.get? d = some (hdrDict hs t l n)
 | _,_=>False
noncomputable def OC (F : Addr→Prop) (h : Heap) (l : Addr) : CV→Prop
 | .mlist vs=>∃ n items,IsL h l items n∧items.size≤4096∧VRs F h vs items.toList
 | .mhdr its=>∃ n items,IsL h l items n∧items.size≤4096∧VRs F h (its.map hdrItem) items.toList
 | _=>False
noncomputable def isM : CV→Bool
 | .mlist _=>true
 | .mhdr _=>true
 | _=>false
noncomputable def SV (c : FC) (own : Nat→Option Addr) (h : Heap) (i : Nat) (cv : CV) (ov : Option Value) : Prop :=
 match cv with
 | .unb=>True
 | .mlist vs=>∃ v l,ov = some v∧OV (FF c own) own h i (.mlist vs) v∧own i = some l∧OC (FF c own) h l (.mlist vs)
 | .mhdr its=>∃ v l,ov = some v∧OV (FF c own) own h i (.mhdr its) v∧own i = some l∧OC (FF c own) h l (.mhdr its)
 | .own _=>False
 | cv=>∃ v,ov = some v∧VR (FF c own) h cv v
structure SR (hT : Heap) (c : FC) (own : Nat→Option Addr) (σ : List CV) (s : Shared) : Prop where
 top : Kp hT s.heap
 top0 : Kp hT c.s0.heap
 pt : ∀ a,c.P a→hT.get? a = none
 pa : ∀ a,c.P a→a ≠ tabA∧Al s.heap a
 os : s.os = c.s0.os
 gens : GB c.s0 s
 kp : ∀ b o,¬ c.P b→b ≠ tabA→c.s0.heap.get? b = some o→s.heap.get? b = some o
 tab : ∀ ps,TabOk c.s0.heap ps→∃ more,TabOk s.heap (ps ++ more)
 tok : ∃ ps,TabOk s.heap ps
 xt : c.X tabA
 xa : ∀ a,c.X a→a ≠ tabA→NF s.heap a
 lf : c.s0.heap.get? c.env.locals = none
 ns : ∃ m,s.heap.Ns c.env.locals m∧∀ (i : Nat) x,c.names[i]? = some (x,NameKind.local)→SV c own s.heap i (σ.getD i .unb) (m x)
 cel : ∀ (i : Nat) x,c.names[i]? = some (x,NameKind.cell)→∃ a ov,c.env.cells.lookup x = some a∧s.heap.IsCell a ov∧SV c own s.heap i (σ.getD i .unb) ov ∧
  (c.K i = false→c.s0.heap.get? a = none)
 cinj : ∀ (i j : Nat) x y a,c.names[i]? = some (x,NameKind.cell)→c.names[j]? = some (y,NameKind.cell)→c.env.cells.lookup x = some a→c.env.cells.lookup y = some a→i = j
 oinj : ∀ i j a,own i = some a→own j = some a→i = j
 ofr : ∀ i a,own i = some a→(c.s0.heap.get? a = none∧¬ c.X a)∨c.P a
 oal : ∀ i a,own i = some a→∃ items n,IsL s.heap a items n
structure Wf (c : FC) : Prop where
 aok : AOk 8 c.A
 fr : FrOk c.A
 kind : c.env.scope.kind = .function
 gl : c.env.globals = mainGlobals
 bu : c.env.builtins = builtinsNs
 nd : (c.names.map (·.1)).Nodup
theorem lookup_nd {α : Type} : ∀ {l : List (Str × α)},(l.map (·.1)).Nodup→∀ {p : Str × α},p∈l→l.lookup p.1 = some p.2:=by
 intro l
 induction l with
 | nil =>
  intro _ _ h
  exact nomatch h
 | cons q l lookup_nd =>
  intro hn p h
  rw [List.map_cons,List.nodup_cons] at hn
  rw [List.lookup_cons]
  rcases List.mem_cons.mp h with rfl | h
  ·simp
  ·have : (p.1 == q.1) = false:=beq_eq_false_iff_ne.mpr fun e=>hn.1 (e▸List.mem_map_of_mem h)
   rw [this]
   exact lookup_nd hn.2 h
theorem Wf.kindOf {c : FC} (W : Wf c) {i : Nat} {x : Str} {k : NameKind} (e : c.names[i]? = some (x,k)) : c.env.kindOf x = some k :=
 lookup_nd W.nd (List.mem_of_getElem? e)
theorem Wf.idx {c : FC} (W : Wf c) {i j : Nat} {x : Str} {k k' : NameKind} (e : c.names[i]? = some (x,k)) (e' : c.names[j]? = some (x,k')) : i = j:=by
 have h1 : (c.names.map (·.1))[i]? = some x:=by rw [List.getElem?_map,e]; rfl
 have h2 : (c.names.map (·.1))[j]? = some x:=by rw [List.getElem?_map,e']; rfl
 exact (List.getElem?_inj (gL h1) W.nd).mp (h1.trans h2.symm)
section
variable {hT : Heap} {c : FC} {own : Nat→Option Addr} {σ : List CV} {s s' : Shared}
theorem SR.ft (x : SR hT c own σ s) : FF c own tabA:=.inl x.xt
theorem SR.tobj (x : SR hT c own σ s) : ∃ ps,s.heap.get? tabA = some { cls:=.none,data:=.fields ps }:=let ⟨ps,t⟩:=x.tok; ⟨ps,t.t.2⟩
theorem SR.lne (x : SR hT c own σ s) : c.env.locals ≠ tabA:=by
 intro e
 obtain ⟨m,⟨o,es,ep,ho,hd,_⟩,_⟩:=x.ns
 obtain ⟨ps,ht⟩:=x.tobj
 rw [e,ht] at ho; cases ho; cases hd
theorem SR.one (x : SR hT c own σ s) {i a} (h : own i = some a) : a ≠ tabA:=by
 intro e
 obtain ⟨items,n,hl⟩:=x.oal i a h
 obtain ⟨ps,ht⟩:=x.tobj
 have hl' : s.heap.get? a = _:=hl
 rw [e,ht] at hl'; cases hl'
theorem SR.cne (x : SR hT c own σ s) {a ov} (h : s.heap.IsCell a ov) : a ≠ tabA:=by
 intro e
 obtain ⟨o,ho,hd⟩:=h
 obtain ⟨ps,ht⟩:=x.tobj
 rw [e,ht] at ho; cases ho; cases hd
theorem SR.onl (x : SR hT c own σ s) {i a} (h : own i = some a) : a ≠ c.env.locals:=by
 intro e
 obtain ⟨items,n,hl⟩:=x.oal i a h
 obtain ⟨m,⟨o,es,ep,ho,hd,_⟩,_⟩:=x.ns
 have hl' : s.heap.get? a = _:=hl
 rw [e,ho] at hl'; cases hl'; cases hd
theorem SR.cnl (x : SR hT c own σ s) {a ov} (h : s.heap.IsCell a ov) : a ≠ c.env.locals:=by
 intro e
 obtain ⟨o,ho,hd⟩:=h
 obtain ⟨m,⟨o',es,ep,ho',hd',_⟩,_⟩:=x.ns
 rw [e,ho'] at ho; cases ho; rw [hd] at hd'; cases hd'
theorem SR.cno (x : SR hT c own σ s) {a ov i b} (h : s.heap.IsCell a ov) (ho : own i = some b) : a ≠ b:=by
 intro e
 obtain ⟨o,ho',hd⟩:=h
 obtain ⟨items,n,hl⟩:=x.oal i b ho
 have hl' : s.heap.get? b = _:=hl
 rw [← e,ho'] at hl'; cases hl'; cases hd
theorem SR.fal (x : SR hT c own σ s) {a} (h : FF c own a) (ht : a ≠ tabA) : NF s.heap a:=by
 rcases h with h | h | ⟨i,y,h1,_,h3⟩ | ⟨i,h⟩
 ·exact x.xa a h ht
 ·subst h; obtain ⟨m,⟨o,_,_,ho,hd,_⟩,_⟩:=x.ns; exact ⟨o,ho,.inr fun vs e=>by rw [hd] at e; cases e⟩
 ·obtain ⟨a',ov,e1,⟨o,ho,hd⟩,_⟩:=x.cel i y h1
  rw [e1] at h3; cases h3; exact ⟨o,ho,.inr fun vs e=>by rw [hd] at e; cases e⟩
 ·obtain ⟨items,n,hl⟩:=x.oal i a h; exact ⟨_,hl,.inr fun vs e=>by cases e⟩
theorem SR.fnew (x : SR hT c own σ s) {a} (h : s.heap.get? a = none) : ¬ FF c own a:=fun f=>by
 by_cases ht : a = tabA
 ·obtain ⟨ps,e⟩:=x.tobj
  rw [ht,e] at h; cases h
 ·obtain ⟨o,ho,_⟩:=x.fal f ht
  rw [ho] at h; cases h
theorem OV.move {F F' : Addr→Prop} {own' : Nat→Option Addr} {h h' : Heap} {i : Nat} {cv : CV} {v : Value} (mv : ∀ b o,¬ F b→h.get? b = some o→¬ F' b∧h'.get? b = some o) (ho : ∀ l,own i = some l→own' i = some l)
  (x : OV F own h i cv v) : OV F' own' h' i cv v:=by
 cases cv <;> first | exact x.elim | skip
 ·obtain ⟨a,e1,e2⟩:=x; exact ⟨a,e1,ho _ e2⟩
 ·refine bc fun hG=>?_
  obtain ⟨a,d,l,hs,t,n,e1,e2,n1,n2,e3,e4⟩:=x
  refine hG ?_
  clear hG
  exact ⟨a,d,l,hs,t,n,e1,ho _ e2,(mv _ _ n1 e3).1,(mv _ _ n2 e4).1,(mv _ _ n1 e3).2,(mv _ _ n2 e4).2⟩
theorem OC.move {F F' : Addr→Prop} {h h' : Heap} {l : Addr} {cv : CV} (mv : ∀ b o,¬ F b→h.get? b = some o→¬ F' b∧h'.get? b = some o) (hl : ∀ o,h.get? l = some o→h'.get? l = some o) (x : OC F h l cv) : OC F' h' l cv:=by
 cases cv <;> first | exact x.elim | skip
 all_goals
  obtain ⟨n,items,e1,e2,e3⟩:=x
  exact ⟨n,items,hl _ e1,e2,e3.move mv⟩
theorem SV.step {own' : Nat→Option Addr} {h h' : Heap} {i : Nat} {cv : CV} {ov : Option Value} (mv : ∀ b o,¬ FF c own b→h.get? b = some o→¬ FF c own' b∧h'.get? b = some o)
  (ho : ∀ l,own i = some l→own' i = some l∧∀ o,h.get? l = some o→h'.get? l = some o) (x : SV c own h i cv ov) : SV c own' h' i cv ov:=by
 cases cv <;> first | exact x | (obtain ⟨v,e1,e2⟩:=x; exact ⟨v,e1,e2.move mv⟩) | skip
 all_goals
  refine bc fun hG=>?_
  obtain ⟨v,l,e1,e2,e3,e4⟩:=x
  refine hG ?_
  clear hG
  exact ⟨v,l,e1,e2.move mv fun l hl=>(ho l hl).1,(ho l e3).1,e4.move mv (ho l e3).2⟩
theorem SV.kp {h h' : Heap} {i : Nat} {cv : CV} {ov : Option Value} (hT' : FF c own tabA) (hne : ∀ i a,own i = some a→a ≠ tabA) (k : Kp h h') (x : SV c own h i cv ov) : SV c own h' i cv ov :=
 x.step (fun b o hf e=>⟨hf,k.keep b o (fun e'=>hf (e'▸hT')) e⟩) fun l hl=>⟨hl,fun o=>k.keep l o (hne _ _ hl)⟩
theorem SR.ex (x : SR hT c own σ s) (e : Ex s s') : SR hT c own σ s' where
 top:=x.top.trans e.kp
 top0:=x.top0
 pt:=x.pt
 pa:=fun a h=>⟨(x.pa a h).1,by obtain ⟨o,ho⟩:=(x.pa a h).2; exact ⟨o,e.kp.keep a o (x.pa a h).1 ho⟩⟩
 os:=e.os.trans x.os
 gens:=e.gens.gb x.gens
 kp:=fun b o hp ht h=>e.kp.keep b o ht (x.kp b o hp ht h)
 tab:=fun ps t=>by
  obtain ⟨m,t'⟩:=x.tab ps t
  obtain ⟨m',t''⟩:=e.kp.tab _ t'
  exact ⟨m ++ m',by rw [← Array.append_assoc]; exact t''⟩
 tok:=by obtain ⟨ps,t⟩:=x.tok; obtain ⟨m,t'⟩:=e.kp.tab ps t; exact ⟨_,t'⟩
 xt:=x.xt
 xa:=fun a h ht=>(x.xa a h ht).keeps fun o=>e.kp.keep a o ht
 lf:=x.lf
 ns:=by
  obtain ⟨m,hm,hv⟩:=x.ns
  exact ⟨m,hm.at' fun o=>e.kp.keep _ o x.lne,fun i y hy=>(hv i y hy).kp x.ft (fun J J=>x.one) e.kp⟩
 cel:=fun i y hy=>by
  refine bc fun hG=>?_
  obtain ⟨a,ov,e1,e2,e3,e4⟩:=x.cel i y hy
  have hne:=x.cne e2
  obtain ⟨o,ho,hd⟩:=e2
  refine hG ?_
  clear hG
  exact ⟨a,ov,e1,⟨o,e.kp.keep a o hne ho,hd⟩,e3.kp x.ft (fun J J=>x.one) e.kp,e4⟩
 cinj:=x.cinj
 oinj:=x.oinj
 ofr:=x.ofr
 oal:=fun i a h=>by obtain ⟨items,n,hl⟩:=x.oal i a h; exact ⟨items,n,e.kp.keep a _ (x.one h) hl⟩
end
noncomputable def ER (c : FC) (own : Nat→Option Addr) (σ : List CV) (h : Heap) (cv : CV) (v : Value) : Prop :=
 match cv with
 | .own i=>isM (σ.getD i .unb) = true∧SV c own h i (σ.getD i .unb) (some v)
 | .mlist _=>False
 | .mhdr _=>False
 | .unb=>False
 | cv=>VR (FF c own) h cv v
noncomputable def ownRd : CV→Option CV
 | .mlist vs=>some (.list vs)
 | .mhdr its=>some (.hdr its)
 | _=>none
noncomputable def rd (σ : List CV) : CV→Option CV
 | .own i=>ownRd (σ.getD i .unb)
 | .unb=>none
 | .mlist _=>none
 | .mhdr _=>none
 | cv=>some cv
noncomputable abbrev F₀ (a : Addr) : Prop:=a = tabA
section
variable {hT : Heap} {c : FC} {own : Nat→Option Addr} {σ : List CV} {s s' : Shared}
theorem ER.kp {cv : CV} {v : Value} {h h' : Heap} (hT' : FF c own tabA) (hne : ∀ i a,own i = some a→a ≠ tabA) (k : Kp h h') (x : ER c own σ h cv v) : ER c own σ h' cv v:=by
 cases cv <;> first | exact x | exact VR.kp hT' k x | exact x.elim | skip
 exact ⟨x.1,x.2.kp hT' hne k⟩
theorem ER.ex {cv : CV} {v : Value} (x : SR hT c own σ s) (e : Ex s s') (r : ER c own σ s.heap cv v) : ER c own σ s'.heap cv v:=r.kp x.ft (fun J J=>x.one) e.kp
theorem F₀_sub (x : SR hT c own σ s) : ∀ a,F₀ a→FF c own a:=fun a e=>e▸x.ft
theorem ownRd_inv {z r : CV} (h : ownRd z = some r) : (∃ vs,z = .mlist vs∧r = .list vs)∨∃ its,z = .mhdr its∧r = .hdr its:=by
 cases z <;> first | exact none_ne h | exact .inl ⟨_,rfl,(Option.some.inj h).symm⟩ | exact .inr ⟨_,rfl,(Option.some.inj h).symm⟩
theorem rd_inv {cv r : CV} (h : rd σ cv = some r) : (∃ i,cv = .own i∧ownRd (σ.getD i .unb) = some r)∨(r = cv∧∀ (c : FC) own h v,ER c own σ h cv v→VR (FF c own) h cv v):=by
 cases cv <;> first | exact none_ne h | exact .inl ⟨_,rfl,h⟩ | exact .inr ⟨(Option.some.inj h).symm,fun J J J J q=>q⟩
theorem ER.rdG {cv cv' : CV} {v : Value} {F : Addr→Prop} (sub : ∀ a,F a→FF c own a) (nx : ∀ {i a},own i = some a→¬ F a) (e : ER c own σ s.heap cv v) (r : rd σ cv = some cv') : VR F s.heap cv' v:=by
 rcases rd_inv r with ⟨i,rfl,q⟩ | ⟨rfl,q⟩
 ·replace e:=e.2
  clear r
  rcases ownRd_inv q with ⟨vs,hz,rfl⟩ | ⟨its,hz,rfl⟩
  ·rw [hz] at e
   refine bc fun hG=>?_
   obtain ⟨v',l,e1,⟨a,rfl,e3⟩,e4,n,items,e5,e6,e7⟩:=e
   refine hG ?_
   clear hG
   cases e1
   cases e3.symm.trans e4
   exact .list (nx e3) e5 e6 (e7.weak sub)
  ·rw [hz] at e
   refine bc fun hG=>?_
   obtain ⟨v',l,e1,⟨a,d,l',hs,t,n,rfl,e3,n1,n2,e8,e9⟩,e4,ne,items,e5,e6,e7⟩:=e
   refine hG ?_
   clear hG
   cases e1
   cases e3.symm.trans e4
   exact .hdr (fun q=>n1 (sub _ q)) (fun q=>n2 (sub _ q)) (nx e3) e8 e9 e5 e6 (e7.weak sub)
 ·exact VR.weak sub (q _ _ _ _ e)
theorem ER.rd {cv cv' : CV} {v : Value} (x : SR hT c own σ s) (e : ER c own σ s.heap cv v) (r : Mine.rd σ cv = some cv') : VR F₀ s.heap cv' v:=e.rdG (F₀_sub x) x.one r
noncomputable def ownLst : CV→Option (List CV)
 | .mlist vs=>some vs
 | _=>none
noncomputable def lst (σ : List CV) : CV→Option (List CV)
 | .list vs=>some vs
 | .own i=>ownLst (σ.getD i .unb)
 | _=>none
theorem ownLst_inv {z : CV} {vs : List CV} (h : ownLst z = some vs) : z = .mlist vs:=by
 cases z <;> first | exact none_ne h | exact congrArg CV.mlist (Option.some.inj h)
theorem lst_inv {cv : CV} {vs : List CV} (h : lst σ cv = some vs) : cv = .list vs∨∃ i,cv = .own i∧σ.getD i .unb = .mlist vs:=by
 cases cv <;> first | exact none_ne h | exact .inl (congrArg CV.list (Option.some.inj h)) | exact .inr ⟨_,rfl,ownLst_inv h⟩
theorem ER.lst {cv : CV} {v : Value} {vs : List CV} (x : SR hT c own σ s) (e : ER c own σ s.heap cv v) (r : lst σ cv = some vs) :
  ∃ a n items,v = .ref a∧IsL s.heap a items n∧items.size≤4096∧VRs (FF c own) s.heap vs items.toList∧a ≠ tabA:=by
 rcases lst_inv r with rfl | ⟨i,rfl,hz⟩
 ·refine bc fun hG=>?_
  obtain ⟨a,items,n,rfl,hf,hl,hz,hv⟩:=VR.list_inv e
  refine hG ?_
  clear hG
  exact ⟨_,_,_,rfl,hl,hz,hv,fun q=>hf (q▸x.ft)⟩
 ·replace e:=e.2
  clear r
  rw [hz] at e
  refine bc fun hG=>?_
  obtain ⟨v',l,e1,⟨a,rfl,e3⟩,e4,n,items,e5,e6,e7⟩:=e
  refine hG ?_
  clear hG
  cases e1
  cases e3.symm.trans e4
  exact ⟨_,_,_,rfl,e5,e6,e7,x.one e3⟩
theorem SR.slot (x : SR hT c own σ s) {i : Nat} {y : Str} (hn : c.names[i]? = some (y,.local)∨c.names[i]? = some (y,.cell)) :
  ∃ ov,SV c own s.heap i (σ.getD i .unb) ov:=by
 rcases hn with hn | hn
 ·obtain ⟨m,_,hv⟩:=x.ns; exact ⟨_,hv i y hn⟩
 ·obtain ⟨a,ov,_,_,h,_⟩:=x.cel i y hn; exact ⟨ov,h⟩
end
noncomputable abbrev noE : Value→Shared→Prop:=fun J J=>False
noncomputable def Rf (prog : Program) (w : World) (hT : Heap) (c : FC) (e : PySem.Expr) (m : List CV→Option CV) : Prop :=
 ∀ own σ s cv,SR hT c own σ s→m σ = some cv→wpAny (model prog w) c.A (eval e c.env) (fun v s'=>Ex s s'∧ER c own σ s'.heap cv v) noE s
noncomputable def Rt (prog : Program) (w : World) (hT : Heap) (c : FC) (e : PySem.Expr) (m : List CV→Option Bool) : Prop :=
 ∀ own σ s b,SR hT c own σ s→m σ = some b→wpAny (model prog w) c.A (isTrue e c.env (eval e c.env)) (fun v s'=>Ex s s'∧v = b) noE s
noncomputable def Rfs (prog : Program) (w : World) (hT : Heap) (c : FC) (es : List PySem.Expr) (m : List CV→Option (List CV)) : Prop :=
 ∀ pos own σ s cvs,SR hT c own σ s→m σ = some cvs →
  wpAny (model prog w) c.A (spliced (backTo pos (starEach es c.env))) (fun (vs : List Value) s'=>Ex s s'∧vs.length = cvs.length∧∀ (i : Nat) (cv : CV) (v : Value),cvs[i]? = some cv→vs[i]? = some v→ER c own σ s'.heap cv v) noE s
noncomputable def nmv (i : Nat) : CV→Option CV
 | .mlist _=>some (.own i)
 | .mhdr _=>some (.own i)
 | .unb=>none
 | .own _=>none
 | cv=>some cv
noncomputable def nm (i : Nat) (σ : List CV) : Option CV:=nmv i (σ.getD i .unb)
section
variable {prog : Program} {w : World} {hT : Heap} {c : FC} {own : Nat→Option Addr} {σ : List CV} {s s' : Shared} {mg mb : Str→Option Value}
set_option tactic.hygienic true in
theorem SV.nm {h : Heap} {i : Nat} {cv : CV} {ov : Option Value} (x : SV c own h i (σ.getD i .unb) ov) (e : nm i σ = some cv) : ∃ v,ov = some v∧ER c own σ h cv v:=by
 unfold Mine.nm at e
 generalize hz : σ.getD i .unb = z at x e
 cases z <;> first | (cases e; done) | skip
 case mlist vs=>cases e; obtain ⟨v,l,e1,r⟩:=x; exact ⟨v,e1,by show isM (σ.getD i .unb) = true∧_; rw [hz]; exact ⟨rfl,v,l,rfl,r⟩⟩
 case mhdr vs=>cases e; obtain ⟨v,l,e1,r⟩:=x; exact ⟨v,e1,by show isM (σ.getD i .unb) = true∧_; rw [hz]; exact ⟨rfl,v,l,rfl,r⟩⟩
 all_goals (cases e; obtain ⟨v,e1,r⟩:=x; exact ⟨v,e1,r⟩)
theorem Rf.loc (W : Wf c) {i : Nat} {y : Str} {pos : Pos} (hn : c.names[i]? = some (y,.local)) (hd : (y == ("__debug__" : Str)) = false:=by decide) :
  Rf prog w hT c (.Name y pos) (nm i):=fun own σ s cv x e=>by
 refine bc fun hG=>?_
 obtain ⟨m,hm,hv⟩:=x.ns
 obtain ⟨v,e1,r⟩:=(hv i y hn).nm e
 refine hG ?_
 clear hG
 exact wpAny_Name (wpAny_loadName_local W.kind (W.kindOf hn) hm e1 ⟨.refl _,r⟩) hd
theorem Rf.cel (W : Wf c) {i : Nat} {y : Str} {pos : Pos} (hn : c.names[i]? = some (y,.cell)) (hd : (y == ("__debug__" : Str)) = false:=by decide) :
  Rf prog w hT c (.Name y pos) (nm i):=fun own σ s cv x e=>by
 refine bc fun hG=>?_
 obtain ⟨a,ov,e1,e2,e3,_⟩:=x.cel i y hn
 obtain ⟨v,e4,r⟩:=e3.nm e
 refine hG ?_
 clear hG
 subst e4
 exact wpAny_Name (wpAny_loadName_cell W.kind (W.kindOf hn) e1 e2 ⟨.refl _,r⟩) hd
theorem SR.globals (T : TF prog hT mg mb) (x : SR hT c own σ s) : s.heap.Ns mainGlobals mg:=T.g.at' fun J=>x.top.keep _ _ (by decide)
theorem SR.builtins (T : TF prog hT mg mb) (x : SR hT c own σ s) : s.heap.Ns builtinsNs mb:=T.b.at' fun J=>x.top.keep _ _ (by decide)
theorem SR.lim (T : TF prog hT mg mb) (x : SR hT c own σ s) : s.heap.NoLimit:=by
 obtain ⟨mc,h1,h2⟩:=T.lim
 exact ⟨mc,h1.at' fun J=>x.top.keep _ _ (by decide),h2⟩
theorem SR.seer (T : TF prog hT mg mb) (x : SR hT c own σ s) : s.heap.NoSeer where
 statics:=by obtain ⟨mc,h1,h2⟩:=T.seer.statics; exact ⟨mc,h1.at' fun J=>x.top.keep _ _ (by decide),h2⟩
 mods:=by obtain ⟨mc,h1,h2⟩:=T.seer.mods; exact ⟨mc,h1.at' fun J=>x.top.keep _ _ (by decide),h2⟩
 imp:=by obtain ⟨mc,h1,h2⟩:=T.seer.imp; exact ⟨mc,h1.at' fun J=>x.top.keep _ _ (by decide),h2⟩
 main:=by
  refine bc fun hG=>?_
  obtain ⟨mg,bm,ob,h1,h2,h3,h4,h5⟩:=T.seer.main
  refine hG ?_
  clear hG
  refine ⟨mg,bm,ob,h1.at' fun J=>x.top.keep _ _ (by decide),h2,x.top.keep _ _ ?_ h3,h4,h5⟩
  intro e
  obtain ⟨ps,ht⟩:=T.tab
  rw [e,ht.t.2] at h3; cases h3; cases h4
noncomputable def gval : Value→Option CV
 | .ref a=>some (.ref a)
 | .type n=>some (.ty n)
 | .builtin n=>some (.bi n)
 | .str x _=>some (.str x)
 | .int i _=>some (.int i)
 | _=>none
theorem gval_ER {h : Heap} {v : Value} {cv : CV} (e : gval v = some cv) : ER c own σ h cv v:=by
 cases v <;> cases e <;> first | exact VR.ref _ | exact VR.ty _ | exact VR.bi _ | exact VR.str _ _ | exact VR.int _ _
theorem Rf.glb (T : TF prog hT mg mb) (W : Wf c) {i : Nat} {y : Str} {pos : Pos} {v : Value} {cv : CV} (hn : c.names[i]? = some (y,.globalImplicit)) (hv : mg y = some v) (hc : gval v = some cv) (hd : (y == ("__debug__" : Str)) = false:=by decide) :
  Rf prog w hT c (.Name y pos) (fun J=>some cv):=fun own σ s cv' x e=>by
 cases e
 exact Name_function_global W.kind (W.kindOf hn) (loadGlobal_global (by rw [W.gl]; exact x.globals T) hv ⟨.refl _,gval_ER hc⟩) hd
theorem Rf.bui (T : TF prog hT mg mb) (W : Wf c) {i : Nat} {y : Str} {pos : Pos} {v : Value} {cv : CV} (hn : c.names[i]? = some (y,.globalImplicit)) (hm : mg y = none) (hv : bootBuiltins y = some v) (hc : gval v = some cv)
  (hy : y ≠ ("__name__" : Str):=by decide) (hd : (y == ("__debug__" : Str)) = false:=by decide) :
  Rf prog w hT c (.Name y pos) (fun J=>some cv):=fun own σ s cv' x e=>by
 cases e
 exact Name_function_global W.kind (W.kindOf hn) (loadGlobal_builtin (by rw [W.gl]; exact x.globals T) hm (by rw [W.bu]; exact x.builtins T) ((T.bt y hy).trans hv) ⟨.refl _,gval_ER hc⟩) hd
theorem Rf.int {i : Int} {k : Nat} {pos : Pos} : Rf prog w hT c (.Constant (.int i) k pos) (fun J=>some (.int i)):=fun own σ s cv x e=>by
 cases e; exact wpAny_Constant_int ⟨.tok,VR.int _ _⟩
theorem Rf.str {y : Str} {k : Nat} {pos : Pos} : Rf prog w hT c (.Constant (.str y) k pos) (fun J=>some (.str y)):=fun own σ s cv x e=>by
 cases e; exact wpAny_Constant_str ⟨.tok,VR.str _ _⟩
theorem Rf.bool {b : Bool} {k : Nat} {pos : Pos} : Rf prog w hT c (.Constant (.bool b) k pos) (fun J=>some (.bool b)):=fun own σ s cv x e=>by
 cases e; exact wpAny_Constant_bool ⟨.refl _,VR.bool _⟩
theorem Rf.non {k : Nat} {pos : Pos} : Rf prog w hT c (.Constant .none k pos) (fun J=>some .none):=fun own σ s cv x e=>by
 cases e; exact wpAny_Constant_none ⟨.refl _,VR.none⟩
theorem wp_w {M : Model} {A : Around} {α : Type} {t : Sem α} {Q Q' : α→Shared→Prop} {s : Shared} (h : wpAny M A t Q noE s) (hq : ∀ a s',Q a s'→Q' a s') : wpAny M A t Q' noE s :=
 wpAny_mono h hq fun J J x=>x
theorem Rf.bin {l r : PySem.Expr} {op : Operator} {pos : Pos} {ml mr : List CV→Option CV} (f : CV→CV→Option CV) (hl : Rf prog w hT c l ml) (hr : Rf prog w hT c r mr)
  (hf : ∀ own σ s a b va vb cv,SR hT c own σ s→ER c own σ s.heap a va→ER c own σ s.heap b vb→f a b = some cv →
   wpAny (model prog w) c.A (binaryOp op va vb) (fun v s'=>Ex s s'∧ER c own σ s'.heap cv v) noE s) :
  Rf prog w hT c (.BinOp l op r pos) (fun σ=>(ml σ).bind fun a=>(mr σ).bind fun b=>f a b):=fun own σ s cv x e=>by
 refine bc fun hG=>?_
 revert e
 refine oR fun a ea e=>?_
 revert e
 refine oR fun b eb e=>?_
 refine hG ?_
 clear hG
 refine wpAny_BinOp (wp_w (hl own σ s a x ea) fun va s₁ h₁=>?_)
 have x₁:=x.ex h₁.1
 refine wp_w (hr own σ s₁ b x₁ eb) fun vb s₂ h₂=>?_
 have x₂:=x₁.ex h₂.1
 exact wp_w (hf own σ s₂ a b va vb cv x₂ (h₁.2.ex x₁ h₂.1) h₂.2 e) fun v s₃ h₃=>⟨h₁.1.trans (h₂.1.trans h₃.1),h₃.2⟩
theorem Rf.cmp {l r : PySem.Expr} {op : CmpOp} {pos : Pos} {ml mr : List CV→Option CV} (f : List CV→CV→CV→Option Bool) (hl : Rf prog w hT c l ml) (hr : Rf prog w hT c r mr)
  (hf : ∀ own σ s a b va vb cv,SR hT c own σ s→ER c own σ s.heap a va→ER c own σ s.heap b vb→f σ a b = some cv →
   wpAny (model prog w) c.A (compareOp op va vb) (fun v s'=>Ex s s'∧v = .bool cv) noE s) (hm : behindInMarks op r = false:=by with_unfolding_all rfl) :
  Rf prog w hT c (.Compare l [op] [r] pos) (fun σ=>(ml σ).bind fun a=>(mr σ).bind fun b=>(f σ a b).map .bool):=fun own σ s cv x e=>by
 refine bc fun hG=>?_
 revert e
 refine oR fun a ea e=>?_
 revert e
 refine oR fun b eb e=>?_
 revert e
 refine mR fun q eq e=>?_
 refine hG ?_
 clear hG
 subst e
 refine wpAny_Compare1 (wp_w (hl own σ s a x ea) fun va s₁ h₁=>?_) hm
 have x₁:=x.ex h₁.1
 refine wp_w (hr own σ s₁ b x₁ eb) fun vb s₂ h₂=>?_
 have x₂:=x₁.ex h₂.1
 exact wp_w (hf own σ s₂ a b va vb q x₂ (h₁.2.ex x₁ h₂.1) h₂.2 eq) fun v s₃ h₃=>⟨h₁.1.trans (h₂.1.trans h₃.1),by rw [h₃.2]; exact VR.bool _⟩
theorem Rt.cmp {l r : PySem.Expr} {op : CmpOp} {pos : Pos} {ml mr : List CV→Option CV} (f : List CV→CV→CV→Option Bool) (hl : Rf prog w hT c l ml) (hr : Rf prog w hT c r mr)
  (hf : ∀ own σ s a b va vb cv,SR hT c own σ s→ER c own σ s.heap a va→ER c own σ s.heap b vb→f σ a b = some cv →
   wpAny (model prog w) c.A (compareOp op va vb) (fun v s'=>Ex s s'∧v = .bool cv) noE s) (hm : behindInMarks op r = false:=by with_unfolding_all rfl) :
  Rt prog w hT c (.Compare l [op] [r] pos) (fun σ=>(ml σ).bind fun a=>(mr σ).bind fun b=>f σ a b):=fun own σ s q x e=>by
 refine bc fun hG=>?_
 revert e
 refine oR fun a ea e=>?_
 revert e
 refine oR fun b eb e=>?_
 refine hG ?_
 clear hG
 refine wpAny_isTrue_Compare1 (wp_w (hl own σ s a x ea) fun va s₁ h₁=>?_) hm
 have x₁:=x.ex h₁.1
 refine wp_w (hr own σ s₁ b x₁ eb) fun vb s₂ h₂=>?_
 have x₂:=x₁.ex h₂.1
 refine wp_w (hf own σ s₂ a b va vb q x₂ (h₁.2.ex x₁ h₂.1) h₂.2 e) fun v s₃ h₃=>?_
 rw [h₃.2]
 exact wpAny_truthy_bool ⟨h₁.1.trans (h₂.1.trans h₃.1),rfl⟩
end
section
variable {prog : Program} {w : World} {hT : Heap} {c : FC} {own : Nat→Option Addr} {σ : List CV} {s s' : Shared} {mg mb : Str→Option Value}
theorem SR.newL (x : SR hT c own σ s) {items : Array Value} {vs : List CV} (hz : items.size≤4096) (hv : VRs (FF c own) s.heap vs items.toList) :
  VR (FF c own) (s.heap.push { cls:=.type "list",data:=.seq items }) (.list vs) (.ref s.heap.objs.size):=by
 refine .list (x.fnew ?_) (IsL.new _ _) hz (hv.kp x.ft (.push _ _))
 cases e : s.heap.get? s.heap.objs.size with
 | none=>rfl
 | some o=>exact absurd (Heap.lt_size e) (Nat.lt_irrefl _)
theorem SR.newT (x : SR hT c own σ s) {items : Array Value} {vs : List CV} (hv : VRs (FF c own) s.heap vs items.toList) :
  VR (FF c own) (s.heap.push { cls:=.type "tuple",data:=.seq items }) (.tup vs) (.ref s.heap.objs.size):=by
 refine .tup (x.fnew ?_) (Heap.get?_push_size _ rfl) (hv.kp x.ft (.push _ _))
 cases e : s.heap.get? s.heap.objs.size with
 | none=>rfl
 | some o=>exact absurd (Heap.lt_size e) (Nat.lt_irrefl _)
noncomputable def ii {α : Type} (f : Int→Int→Option α) (a b : CV) : Option α:=asI (fun i=>asI (f i) b) a
theorem ii_inv {α : Type} {f : Int→Int→Option α} {a b : CV} {r : α} (h : ii f a b = some r) : ∃ i j,a = .int i∧b = .int j∧f i j = some r:=by
 refine bc fun hG=>?_
 obtain ⟨i,rfl,q⟩:=asI_inv h
 clear h
 obtain ⟨j,rfl,q⟩:=asI_inv (show asI (f i) b = some r from q)
 refine hG ?_
 clear hG
 exact ⟨i,j,rfl,rfl,q⟩
theorem ER.ints {h : Heap} {i j : Int} {va vb : Value} (ra : ER c own σ h (.int i) va) (rb : ER c own σ h (.int j) vb) : ∃ t u,va = .int i t∧vb = .int j u:=by
 obtain ⟨t,rfl⟩:=VR.int_inv ra
 obtain ⟨u,rfl⟩:=VR.int_inv rb
 exact ⟨t,u,rfl,rfl⟩
theorem VRs.sz {F : Addr→Prop} {h : Heap} {vs : List CV} {items : Array Value} (hv : VRs F h vs items.toList) : vs.length = items.size:=hv.length.trans Array.length_toList
noncomputable def addL (xs ys : List CV) : Option CV:=if xs.length + ys.length≤4096 then some (.list (xs ++ ys)) else none
noncomputable def addS (a b : CV) : Option CV:=match a with
 | .int i=>asI (fun j=>some (.int (i + j))) b
 | .list xs=>asL (addL xs) b
 | _=>none
theorem addS_inv {a b r : CV} (h : addS a b = some r) : (∃ i j,a = .int i∧b = .int j∧r = .int (i + j))∨∃ xs ys,a = .list xs∧b = .list ys∧xs.length + ys.length≤4096∧r = .list (xs ++ ys):=by
 cases a <;> first | exact none_ne h | skip
 ·obtain ⟨j,rfl,q⟩:=asI_inv h
  exact .inl ⟨_,j,rfl,rfl,(Option.some.inj q).symm⟩
 ·obtain ⟨ys,rfl,q⟩:=asL_inv h
  obtain ⟨hc,q⟩:=ite_some q
  exact .inr ⟨_,ys,rfl,rfl,hc,q.symm⟩
theorem Rf.add {l r : PySem.Expr} {pos : Pos} {ml mr : List CV→Option CV} (hl : Rf prog w hT c l ml) (hr : Rf prog w hT c r mr) :
  Rf prog w hT c (.BinOp l .Add r pos) (fun σ=>(ml σ).bind fun a=>(mr σ).bind fun b=>addS a b):=by
 refine hl.bin addS hr fun own σ s a b va vb cv x ra rb e=>?_
 have q:=addS_inv e
 clear e
 rcases q with ⟨i,j,rfl,rfl,rfl⟩ | ⟨xs,ys,rfl,rfl,hz,rfl⟩
 ·obtain ⟨t,u,rfl,rfl⟩:=ra.ints rb
  exact PyProof.Rows.add_int ⟨.tok,VR.int _ _⟩
 ·refine bc fun hG=>?_
  obtain ⟨a,items,n,rfl,hf,hl,hz1,hv⟩:=VR.list_inv ra
  obtain ⟨b,items',n',rfl,hf',hl',hz2,hv'⟩:=VR.list_inv rb
  refine hG ?_
  clear hG
  rw [hv.sz,hv'.sz] at hz
  refine P.add_list hl hl' ⟨.push _,x.newL (by rw [Array.size_append]; exact hz) ?_⟩ (by rw [sizeLine_eq]; exact Nat.le_trans hz (by decide))
  rw [Array.toList_append]
  exact hv.append hv'
noncomputable def subS (a b : CV) : Option CV:=match a with
 | .int i=>asI (fun j=>some (.int (i - j))) b
 | .bool i=>asB (fun j=>some (.int (b2i i - b2i j))) b
 | _=>none
theorem subS_inv {a b r : CV} (h : subS a b = some r) : (∃ i j,a = .int i∧b = .int j∧r = .int (i - j))∨∃ i j,a = .bool i∧b = .bool j∧r = .int (b2i i - b2i j):=by
 cases a <;> first | exact none_ne h | skip
 ·obtain ⟨j,rfl,q⟩:=asB_inv h
  exact .inr ⟨_,j,rfl,rfl,(Option.some.inj q).symm⟩
 ·obtain ⟨j,rfl,q⟩:=asI_inv h
  exact .inl ⟨_,j,rfl,rfl,(Option.some.inj q).symm⟩
theorem Rf.sub {l r : PySem.Expr} {pos : Pos} {ml mr : List CV→Option CV} (hl : Rf prog w hT c l ml) (hr : Rf prog w hT c r mr) :
  Rf prog w hT c (.BinOp l .Sub r pos) (fun σ=>(ml σ).bind fun a=>(mr σ).bind fun b=>subS a b):=by
 refine hl.bin subS hr fun own σ s a b va vb cv x ra rb e=>?_
 have q:=subS_inv e
 clear e
 rcases q with ⟨i,j,rfl,rfl,rfl⟩ | ⟨i,j,rfl,rfl,rfl⟩
 ·obtain ⟨t,u,rfl,rfl⟩:=ra.ints rb
  exact PyProof.Rows.sub_int ⟨.tok,VR.int _ _⟩
 ·obtain rfl:=VR.bool_inv ra
  obtain rfl:=VR.bool_inv rb
  exact PyProof.Rows.sub_bool ⟨.tok,VR.int _ _⟩
noncomputable def mulI (a b : Int) : Option CV:=if Builtin.Int.intBits a≤64 then some (.int (a * b)) else none
noncomputable def mulL (xs : List CV) (n : Int) : Option CV:=if 0≤n∧n≤8∧xs.length≤64 then some (.list (List.replicate n.toNat xs).flatten) else none
noncomputable def mulS (a b : CV) : Option CV:=match a with
 | .int i=>asI (mulI i) b
 | .list xs=>asI (mulL xs) b
 | _=>none
theorem mulS_inv {a b r : CV} (h : mulS a b = some r) : (∃ i j,a = .int i∧b = .int j∧Builtin.Int.intBits i≤64∧r = .int (i * j))∨∃ xs n,a = .list xs∧b = .int n∧(0≤n∧n≤8∧xs.length≤64)∧r = .list (List.replicate n.toNat xs).flatten:=by
 cases a <;> first | exact none_ne h | skip
 ·obtain ⟨j,rfl,q⟩:=asI_inv h
  obtain ⟨hc,q⟩:=ite_some q
  exact .inl ⟨_,j,rfl,rfl,hc,q.symm⟩
 ·obtain ⟨j,rfl,q⟩:=asI_inv h
  obtain ⟨hc,q⟩:=ite_some q
  exact .inr ⟨_,j,rfl,rfl,hc,q.symm⟩
theorem VRs.rep {F : Addr→Prop} {h : Heap} {cs : List CV} {vs : List Value} (x : VRs F h cs vs) : ∀ n,VRs F h (List.replicate n cs).flatten (List.replicate n vs).flatten
 | 0=>.nil
 | n + 1=>by rw [List.replicate_succ,List.replicate_succ,List.flatten_cons,List.flatten_cons]; exact x.append (VRs.rep x n)
theorem Rf.mul {l r : PySem.Expr} {pos : Pos} {ml mr : List CV→Option CV} (hl : Rf prog w hT c l ml) (hr : Rf prog w hT c r mr) :
  Rf prog w hT c (.BinOp l .Mult r pos) (fun σ=>(ml σ).bind fun a=>(mr σ).bind fun b=>mulS a b):=by
 refine hl.bin mulS hr fun own σ s a b va vb cv x ra rb e=>?_
 have q:=mulS_inv e
 clear e
 rcases q with ⟨i,j,rfl,rfl,hb,rfl⟩ | ⟨xs,n,rfl,rfl,⟨h0,h8,h64⟩,rfl⟩
 ·obtain ⟨t,u,rfl,rfl⟩:=ra.ints rb
  exact PyProof.Rows.mul_int ⟨.tok,VR.int _ _⟩ (.of_left hb)
 ·refine bc fun hG=>?_
  obtain ⟨u,rfl⟩:=VR.int_inv rb
  obtain ⟨a,items,k,rfl,hf,hl,hz1,hv⟩:=VR.list_inv ra
  refine hG ?_
  clear hG
  clear ra rb
  ··have hsz : items.size≤64:=hv.sz▸h64
    have hmul : items.size * n.toNat≤64 * 8:=Nat.mul_le_mul hsz (by exact Int.toNat_le.mpr h8)
    refine wpAny_binaryOp_repeat_ref (T:="list") (U:="int") (by decide) ⟨_,hl,rfl⟩ (fun s'=>typeIs_int s' n u) noFill_list_mul F.fills_int_mul F.slot_int_rmul repeat_list F.slot_int_index.lookup
     (call_meets F.slot_int_rmul (typeIs_int s n u) F.entry_int_rmul (F.args_int_rmul_2 _ _) (int___rmul___int_list n u a items k)
      ⟨hl,rfl,⟨_,hl,rfl⟩,call_meets F.slot_list_mul ⟨_,hl,rfl⟩ F.entry_list_mul (F.args_list_mul_2 _ _)
       (AutoListH.list___mul___list_int_3 a items k n u (by simp [Builtin.List.listFitsIndex]; lia) (by lia) (by simp [Builtin.List.listTooLong,sizeLine]; exact Nat.le_trans hmul (by decide)))
       ⟨hl,?_⟩⟩)
    refine ⟨.push _,?_⟩
    have e1 : (List.foldl (fun x1 x2=>x1 ++ x2) #[] (List.replicate (if items.isEmpty = true then 0 else n.toNat) items)) = (List.replicate n.toNat items.toList).flatten.toArray:=by
     exact listMul_foldl_if items n.toNat
    rw [e1]
    refine x.newL ?_ ?_
    ·simp only [List.size_toArray,List.length_flatten,List.map_replicate,List.sum_replicate_nat,Array.length_toList]
     rw [Nat.mul_comm]; exact Nat.le_trans hmul (by decide)
    ·exact hv.rep _
noncomputable def fdivS : CV→CV→Option CV:=ii fun a b=>if b ≠ 0 then some (.int (a.fdiv b)) else none
theorem SR.pylong (T : TF prog hT mg mb) (W : Wf c) (x : SR hT c own σ s) : PylongRoom (model prog w) c.A s:=by
 refine bc fun hG=>?_
 obtain ⟨e,l,h1,h2,h3,h4,h5⟩:=W.fr
 refine hG ?_
 clear hG
 exact .of (x.lim T) (by have:=W.aok.dp; show c.A.depth + 100 < 1000; lia) (.of (x.seer T) T.tree h1 h2 h3 h4 h5)
theorem Rf.fdiv {l r : PySem.Expr} {pos : Pos} {ml mr : List CV→Option CV} (T : TF prog hT mg mb) (W : Wf c) (hl : Rf prog w hT c l ml) (hr : Rf prog w hT c r mr) :
  Rf prog w hT c (.BinOp l .FloorDiv r pos) (fun σ=>(ml σ).bind fun a=>(mr σ).bind fun b=>fdivS a b):=by
 refine hl.bin fdivS hr fun own σ s a b va vb cv x ra rb e=>?_
 have q:=ii_inv e
 clear e
 refine bc fun hG=>?_
 obtain ⟨i,j,rfl,rfl,q⟩:=q
 obtain ⟨hb,rfl⟩:=ite_some q
 obtain ⟨t,u,rfl,rfl⟩:=ra.ints rb
 refine hG ?_
 clear hG
 exact PyProof.Rows.floordiv_int hb ⟨.tok,VR.int _ _⟩ (.inr (x.pylong T W))
noncomputable def modS : CV→CV→Option CV:=ii fun a b=>if b ≠ 0 then some (.int (a.fmod b)) else none
theorem Rf.mod {l r : PySem.Expr} {pos : Pos} {ml mr : List CV→Option CV} (hl : Rf prog w hT c l ml) (hr : Rf prog w hT c r mr) :
  Rf prog w hT c (.BinOp l .Mod r pos) (fun σ=>(ml σ).bind fun a=>(mr σ).bind fun b=>modS a b):=by
 refine hl.bin modS hr fun own σ s a b va vb cv x ra rb e=>?_
 have q:=ii_inv e
 clear e
 refine bc fun hG=>?_
 obtain ⟨i,j,rfl,rfl,q⟩:=q
 obtain ⟨hb,rfl⟩:=ite_some q
 obtain ⟨t,u,rfl,rfl⟩:=ra.ints rb
 refine hG ?_
 clear hG
 exact PyProof.Rows.mod_int' hb ⟨.tok,VR.int _ _⟩
noncomputable def powS : CV→CV→Option CV:=ii fun a b=>if 0≤b∧(Builtin.Int.intBits a : Int) * b≤2 ^ 27 then some (.int (a ^ b.toNat)) else none
theorem Rf.pow {l r : PySem.Expr} {pos : Pos} {ml mr : List CV→Option CV} (hl : Rf prog w hT c l ml) (hr : Rf prog w hT c r mr) :
  Rf prog w hT c (.BinOp l .Pow r pos) (fun σ=>(ml σ).bind fun a=>(mr σ).bind fun b=>powS a b):=by
 refine hl.bin powS hr fun own σ s a b va vb cv x ra rb e=>?_
 have q:=ii_inv e
 clear e
 refine bc fun hG=>?_
 obtain ⟨i,j,rfl,rfl,q⟩:=q
 obtain ⟨hb,rfl⟩:=ite_some q
 obtain ⟨t,u,rfl,rfl⟩:=ra.ints rb
 refine hG ?_
 clear hG
 exact PyProof.Rows.pow_int hb.1 hb.2 ⟨.tok,VR.int _ _⟩
end
mutual
noncomputable def toPy : CV→Option PyData
 | .none=>some .none
 | .bool b=>some (.bool b)
 | .int i=>some (.int i)
 | .str x=>some (.str x)
 | .list vs=>(toPys vs).map .list
 | .tup vs=>(toPys vs).map .tuple
 | _=>none
noncomputable def toPys : List CV→Option (List PyData)
 | []=>some []
 | c::r=>(toPy c).bind fun d=>(toPys r).map (d::·)
end
theorem VR.reads {F : Addr→Prop} {h : Heap} {c : CV} {v : Value} (x : VR F h c v) : ∀ {d : PyData},toPy c = some d→∃ as,Reads h v d as:=by
 refine VR.rec (motive_1:=fun c v J=>∀ {d : PyData},toPy c = some d→∃ as,Reads h v d as) (motive_2:=fun cs vs J=>∀ {ds : List PyData},toPys cs = some ds→∃ as,ReadsAll h vs ds as)
  ?_ ?_ ?_ ?_ ?_ ?_ ?_ ?_ ?_ ?_ ?_ ?_ ?_ ?_ ?_ x
 ·intro d e; cases e; exact ⟨_,.none⟩
 ·intro b d e; cases e; exact ⟨_,.bool _⟩
 ·intro i t d e; cases e; exact ⟨_,.int _ _⟩
 ·intro i t d e; cases e; exact ⟨_,.str _ _⟩
 ·intro a d e; cases e
 ·intro a d e; cases e
 ·intro a d e; cases e
 ·intro a x y z t u v _ _ d e; cases e
 ·intro a vs items n _ hl _ _ ih d e
  refine mE e fun ds e1 e2=>?_
  subst e2
  obtain ⟨as,r⟩:=ih e1
  exact ⟨_,.list hl rfl rfl r⟩
 ·intro a vs items n _ hl _ ih d e
  refine bc fun hG=>?_
  refine mE e fun ds e1 e2=>?_
  refine hG ?_
  clear hG
  subst e2
  obtain ⟨as,r⟩:=ih e1
  exact ⟨_,.tuple hl rfl rfl r⟩
 ·intro a d l its items hs t n ne _ _ _ _ _ _ _ _ _ d e; cases e
 ·intro a c two row o fd v _ _ _ _ _ _ _ _ _ _ _ _ _ _ _ _ _ d e; cases e
 ·intro a _ _ _ d e; cases e
 ·intro ds e; cases e; exact ⟨_,.nil⟩
 ·intro c cs v vs _ _ i1 i2 ds e
  revert e
  refine oR fun d e1 q__=>?_
  rename _=>e
  revert e
  refine mR fun ds' e2 q__=>?_
  rename _=>e
  subst e
  obtain ⟨a1,r1⟩:=i1 e1
  obtain ⟨a2,r2⟩:=i2 e2
  exact ⟨_,.cons r1 r2⟩
noncomputable def eqS (a b : CV) : Option Bool:=(toPy a).bind fun x=>(toPy b).bind fun y=>if (SeqAt.shaped x && SeqAt.shaped y) = true then some (PyData.eqv x y) else none
noncomputable def ltC (a b : CV) : Option Bool:=match a with
 | .int i=>asI (fun j=>some (decide (i < j))) b
 | .str x=>asS (fun y=>some (decide (x.cps.toList < y.cps.toList))) b
 | _=>none
theorem ltC_inv {a b : CV} {q : Bool} (e : ltC a b = some q) : (∃ i j,a = .int i∧b = .int j∧decide (i < j) = q)∨∃ x y,a = .str x∧b = .str y∧decide (x.cps.toList < y.cps.toList) = q:=by
 cases a <;> first | exact none_ne e | skip
 ·obtain ⟨j,rfl,e⟩:=asI_inv e; cases e; exact .inl ⟨_,_,rfl,rfl,rfl⟩
 ·obtain ⟨j,rfl,e⟩:=asS_inv e; cases e; exact .inr ⟨_,_,rfl,rfl,rfl⟩
noncomputable def tyE (a b : CV) : Option Bool:=asT (fun x=>asT (fun y=>some (x == y)) b) a
noncomputable def isNn : CV→Bool
 | .none=>true
 | _=>false
theorem isNn_eq {a : CV} (e : isNn a = true) : a = .none:=by cases a <;> first | rfl | exact ff e
noncomputable def isNone : CV→Option Bool
 | .none=>some true
 | .unb=>none
 | .own _=>none
 | .mlist _=>none
 | .mhdr _=>none
 | _=>some false
section
variable {prog : Program} {w : World} {hT : Heap} {c : FC} {own : Nat→Option Addr} {σ : List CV} {s s' : Shared} {mg mb : Str→Option Value}
noncomputable def cmpS (op : CmpOp) (σ : List CV) (a b : CV) : Option Bool:=match op with
 | .Lt=>ltC a b
 | .Gt=>ltC b a
 | .Eq=>eqS a b
 | .NotEq=>(eqS a b).map (!·)
 | .Is=>if isNn b then isNone a else tyE a b
 | .IsNot=>if isNn b then (isNone a).map (!·) else (tyE a b).map (!·)
 | _=>none
theorem ER.vr {cv : CV} {v : Value} (r : ER c own σ s.heap cv v) {d : PyData} (h : toPy cv = some d) : VR (FF c own) s.heap cv v:=by
 cases cv <;> first | exact r | exact r.elim | (cases h; done)
theorem VR.nn {F : Addr→Prop} {h : Heap} {cv : CV} {v : Value} (r : VR F h cv v) (hn : isNn cv = false) : (v == .none) = false:=by cases r <;> first | rfl | exact ff hn.symm
theorem isNone_ok {cv : CV} {v : Value} {b : Bool} (r : ER c own σ s.heap cv v) (h : isNone cv = some b) : (v == .none) = b:=by
 cases hn : isNn cv with
 | true=>rw [isNn_eq hn] at r h; cases h; rw [VR.none_inv r]; rfl
 | false =>
  have q : b = false∧VR (FF c own) s.heap cv v:=by cases cv <;> first | exact none_ne h | exact ff hn.symm | exact ⟨(Option.some.inj h).symm,r⟩
  rw [q.1]; exact q.2.nn hn
theorem eqS_ok {a b : CV} {va vb : Value} {q : Bool} (ra : ER c own σ s.heap a va) (rb : ER c own σ s.heap b vb) (e : eqS a b = some q) : ∃ da db as bs,Reads s.heap va da as∧Reads s.heap vb db bs∧SeqAt.shaped da = true∧SeqAt.shaped db = true∧PyData.eqv da db = q:=by
 refine bc fun hG=>?_
 refine oE e fun da e1 q__=>?_
 refine hG ?_
 clear hG
 clear e
 rename _=>e
 refine bc fun hG=>?_
 refine oE e fun db e2 q__=>?_
 refine hG ?_
 clear hG
 clear e
 rename _=>e
 replace e:=ite_opt e
 obtain ⟨h,e⟩:=e
 ·cases e
  refine bc fun hG=>?_
  obtain ⟨h1,h2⟩:=bA h
  obtain ⟨as,r1⟩:=(ra.vr e1).reads e1
  obtain ⟨bs,r2⟩:=(rb.vr e2).reads e2
  refine hG ?_
  clear hG
  exact ⟨da,db,as,bs,r1,r2,h1,h2,rfl⟩
theorem tyE_ok {a b : CV} {va vb : Value} {q : Bool} (ra : ER c own σ s.heap a va) (rb : ER c own σ s.heap b vb) (e : tyE a b = some q) : ∃ x y,va = .type x∧vb = .type y∧(Value.type x == Value.type y) = q:=by
 refine bc fun hG=>?_
 obtain ⟨x,rfl,e⟩:=asT_inv e
 obtain ⟨y,rfl,e⟩:=asT_inv (show asT (fun y=>some (x == y)) b = some q from e)
 refine hG ?_
 clear hG
 cases e
 refine ⟨x,y,VR.ty_inv ra,VR.ty_inv rb,?_⟩
 by_cases q : x = y
 ·rw [q,beq_self_eq_true,beq_self_eq_true]
 ·rw [beq_eq_false_iff_ne.mpr q,beq_eq_false_iff_ne.mpr fun z=>q (Value.type.inj z)]
noncomputable abbrev CmpOk (prog : Program) (w : World) (c : FC) (op : CmpOp) (s : Shared) (va vb : Value) (cv : Bool) : Prop:=wpAny (model prog w) c.A (compareOp op va vb) (fun v s'=>Ex s s'∧v = .bool cv) noE s
theorem lt_ok {a b : CV} {va vb : Value} {cv : Bool} (ra : ER c own σ s.heap a va) (rb : ER c own σ s.heap b vb) (e : ltC a b = some cv) : CmpOk prog w c .Lt s va vb cv:=by
 rcases ltC_inv e with ⟨i,j,rfl,rfl,rfl⟩ | ⟨i,j,rfl,rfl,rfl⟩
 ·obtain ⟨_,rfl⟩:=VR.int_inv ra; obtain ⟨_,rfl⟩:=VR.int_inv rb; exact PyProof.Rows.lt_int ⟨.refl _,rfl⟩
 ·obtain ⟨_,rfl⟩:=VR.str_inv ra; obtain ⟨_,rfl⟩:=VR.str_inv rb; exact P.lt_str ⟨.refl _,rfl⟩
theorem gt_ok {a b : CV} {va vb : Value} {cv : Bool} (ra : ER c own σ s.heap a va) (rb : ER c own σ s.heap b vb) (e : ltC b a = some cv) : CmpOk prog w c .Gt s va vb cv:=by
 rcases ltC_inv e with ⟨i,j,rfl,rfl,rfl⟩ | ⟨i,j,rfl,rfl,rfl⟩
 ·obtain ⟨_,rfl⟩:=VR.int_inv ra; obtain ⟨_,rfl⟩:=VR.int_inv rb; exact PyProof.Rows.gt_int ⟨.refl _,rfl⟩
 ·obtain ⟨_,rfl⟩:=VR.str_inv ra; obtain ⟨_,rfl⟩:=VR.str_inv rb; exact P.gt_str ⟨.refl _,rfl⟩
theorem is_ok {a b : CV} {va vb : Value} {cv : Bool} (ra : ER c own σ s.heap a va) (rb : ER c own σ s.heap b vb) (e : cmpS .Is σ a b = some cv) : CmpOk prog w c .Is s va vb cv:=by
 have e : (if isNn b = true then isNone a else tyE a b) = some cv:=e
 split at e
 ·rename_i hb
  rw [isNn_eq hb] at rb
  obtain rfl:=VR.none_inv rb
  exact is_none ⟨.refl _,by rw [isNone_ok ra e]⟩
 ·refine bc fun hG=>?_
  obtain ⟨x,y,rfl,rfl,q⟩:=tyE_ok ra rb e
  refine hG ?_
  clear hG
  show wpAny _ _ (do return Value.bool (← isSame (.type x) (.type y)) : Sem Value) _ _ s
  exact wpAny_bind (wpAny_of_eq (a:=(Value.type x == Value.type y)) rfl (wpAny_pure ⟨.refl _,by rw [q]⟩))
theorem isNot_ok {a b : CV} {va vb : Value} {cv : Bool} (ra : ER c own σ s.heap a va) (rb : ER c own σ s.heap b vb) (e : cmpS .IsNot σ a b = some cv) : CmpOk prog w c .IsNot s va vb cv:=by
 have e : (if isNn b = true then (isNone a).map (!·) else (tyE a b).map (!·)) = some cv:=e
 split at e
 ·rename_i hb
  rw [isNn_eq hb] at rb
  obtain rfl:=VR.none_inv rb
  refine mE e fun q e1 e2=>?_
  exact isNot_none ⟨.refl _,by rw [isNone_ok ra e1,e2]⟩
 ·refine bc fun hG=>?_
  revert e
  refine mR fun q e e2=>?_
  obtain ⟨x,y,rfl,rfl,q⟩:=tyE_ok ra rb e
  refine hG ?_
  clear hG
  show wpAny _ _ (do return Value.bool (!(← isSame (.type x) (.type y))) : Sem Value) _ _ s
  exact wpAny_bind (wpAny_of_eq (a:=(Value.type x == Value.type y)) rfl (wpAny_pure ⟨.refl _,by rw [q,e2]⟩))
theorem cmpS_ok (W : Wf c) {op : CmpOp} : ∀ own σ s a b va vb cv,SR hT c own σ s→ER c own σ s.heap a va→ER c own σ s.heap b vb→cmpS op σ a b = some cv →
   wpAny (model prog w) c.A (compareOp op va vb) (fun v s'=>Ex s s'∧v = .bool cv) noE s:=fun own σ s a b va vb cv J ra rb e=>by
 cases op <;> first | exact none_ne e | skip
 case Eq =>
  refine bc fun hG=>?_
  obtain ⟨da,db,as,bs,r1,r2,h1,h2,h3⟩:=eqS_ok ra rb e
  refine hG ?_
  clear hG
  exact SeqAt.compareEq_shaped r1 r2 h1 h2 W.aok.cl64 ⟨.refl _,by rw [h3]⟩
 case NotEq =>
  refine bc fun hG=>?_
  refine mE e fun q e1 e2=>?_
  obtain ⟨da,db,as,bs,r1,r2,h1,h2,h3⟩:=eqS_ok ra rb e1
  refine hG ?_
  clear hG
  exact SeqAt.compareNe_shaped r1 r2 h1 h2 W.aok.cl64 ⟨.refl _,by rw [h3,e2]⟩
 case Lt=>exact lt_ok ra rb e
 case Gt=>exact gt_ok ra rb e
 case Is=>exact is_ok ra rb e
 case IsNot=>exact isNot_ok ra rb e
theorem Rf.com {l r : PySem.Expr} {op : CmpOp} {pos : Pos} {ml mr : List CV→Option CV} (W : Wf c) (hl : Rf prog w hT c l ml) (hr : Rf prog w hT c r mr) (hm : behindInMarks op r = false:=by with_unfolding_all rfl) :
  Rf prog w hT c (.Compare l [op] [r] pos) (fun σ=>(ml σ).bind fun a=>(mr σ).bind fun b=>(cmpS op σ a b).map .bool):=.cmp (cmpS op) hl hr (cmpS_ok W) hm
theorem Rt.com {l r : PySem.Expr} {op : CmpOp} {pos : Pos} {ml mr : List CV→Option CV} (W : Wf c) (hl : Rf prog w hT c l ml) (hr : Rf prog w hT c r mr) (hm : behindInMarks op r = false:=by with_unfolding_all rfl) :
  Rt prog w hT c (.Compare l [op] [r] pos) (fun σ=>(ml σ).bind fun a=>(mr σ).bind fun b=>cmpS op σ a b):=.cmp (cmpS op) hl hr (cmpS_ok W) hm
theorem Rt.and {x y : PySem.Expr} {pos : Pos} {m1 m2 : List CV→Option Bool} (h1 : Rt prog w hT c x m1) (h2 : Rt prog w hT c y m2) :
  Rt prog w hT c (.BoolOp .And [x,y] pos) (fun σ=>(m1 σ).bind fun a=>if a then m2 σ else some false):=fun own σ s b z e=>by
 refine bc fun hG=>?_
 refine oE e fun a ea q__=>?_
 refine hG ?_
 clear hG
 clear e
 rename _=>e
 refine wpAny_isTrue_BoolOp (wpAny_allTrue_And_cons (wp_w (h1 own σ s a z ea) fun v s₁ h₁=>?_))
 refine bc fun hG=>?_
 obtain ⟨q,rfl⟩:=h₁
 refine hG ?_
 clear hG
 cases v
 ·cases e; exact ⟨q,rfl⟩
 ·refine wpAny_allTrue_And_cons (wp_w (h2 own σ s₁ b (z.ex q) e) fun v s₂ h₂=>?_)
  obtain ⟨q2,rfl⟩:=h₂
  cases v
  ·exact ⟨q.trans q2,rfl⟩
  ·exact wpAny_allTrue_And_nil ⟨q.trans q2,rfl⟩
theorem Rt.or {x y : PySem.Expr} {pos : Pos} {m1 m2 : List CV→Option Bool} (h1 : Rt prog w hT c x m1) (h2 : Rt prog w hT c y m2) :
  Rt prog w hT c (.BoolOp .Or [x,y] pos) (fun σ=>(m1 σ).bind fun a=>if a then some true else m2 σ):=fun own σ s b z e=>by
 refine bc fun hG=>?_
 refine oE e fun a ea q__=>?_
 refine hG ?_
 clear hG
 clear e
 rename _=>e
 refine wpAny_isTrue_BoolOp (wpAny_allTrue_Or_cons (wp_w (h1 own σ s a z ea) fun v s₁ h₁=>?_))
 refine bc fun hG=>?_
 obtain ⟨q,rfl⟩:=h₁
 refine hG ?_
 clear hG
 cases v
 ·refine wpAny_allTrue_Or_cons (wp_w (h2 own σ s₁ b (z.ex q) e) fun v s₂ h₂=>?_)
  obtain ⟨q2,rfl⟩:=h₂
  cases v
  ·exact wpAny_allTrue_Or_nil ⟨q.trans q2,rfl⟩
  ·exact ⟨q.trans q2,rfl⟩
 ·cases e; exact ⟨q,rfl⟩
theorem Rf.ite {t x y : PySem.Expr} {pos : Pos} {mt : List CV→Option Bool} {m1 m2 : List CV→Option CV} (ht : Rt prog w hT c t mt) (h1 : Rf prog w hT c x m1) (h2 : Rf prog w hT c y m2) :
  Rf prog w hT c (.IfExp t x y pos) (fun σ=>(mt σ).bind fun b=>if b then m1 σ else m2 σ):=fun own σ s cv z e=>by
 refine bc fun hG=>?_
 revert e
 refine oR fun a ea e=>?_
 refine hG ?_
 clear hG
 refine wpAny_IfExp (wp_w (ht own σ s a z ea) fun v s₁ h₁=>?_)
 refine bc fun hG=>?_
 obtain ⟨q,rfl⟩:=h₁
 refine hG ?_
 clear hG
 cases v
 ·exact wp_w (h2 own σ s₁ cv (z.ex q) e) fun v s₂ h₂=>⟨q.trans h₂.1,h₂.2⟩
 ·exact wp_w (h1 own σ s₁ cv (z.ex q) e) fun v s₂ h₂=>⟨q.trans h₂.1,h₂.2⟩
theorem Rf.neg {x : PySem.Expr} {pos : Pos} {m : List CV→Option CV} (h : Rf prog w hT c x m) :
  Rf prog w hT c (.UnaryOp .USub x pos) (fun σ=>(m σ).bind (asI fun i=>some (.int (-i)))):=fun own σ s cv z e=>by
 refine bc fun hG=>?_
 revert e
 refine oR fun a ea e=>?_
 obtain ⟨i,rfl,e⟩:=asI_inv e
 refine hG ?_
 clear hG
 cases e
 refine wpAny_UnaryOp (wp_w (h own σ s _ z ea) fun v s₁ h₁=>?_)
 obtain ⟨_,rfl⟩:=VR.int_inv h₁.2
 exact PyProof.Rows.neg_int ⟨h₁.1.trans .tok,VR.int _ _⟩
end
noncomputable def at? {α : Type} (xs : List α) (k : Int) : Option α:=if 0≤k then xs[k.toNat]? else if 0≤k + xs.length then xs[(k + xs.length).toNat]? else none
noncomputable def itemK (σ : List CV) (k : Int) : CV→Option CV
 | .str x=>if x.cps.size≤4096 then (at? x.cps.toList k).map fun n=>.str ⟨#[n]⟩ else none
 | .tup vs=>if vs.length≤4096 then at? vs k else none
 | o=>(lst σ o).bind fun vs=>at? vs k
noncomputable def itemS (σ : List CV) (o i : CV) : Option CV:=asI (fun k=>itemK σ k o) i
theorem itemK_inv {σ : List CV} {k : Int} {o r : CV} (h : itemK σ k o = some r) : (∃ x n,o = .str x∧x.cps.size≤4096∧at? x.cps.toList k = some n∧r = .str ⟨#[n]⟩)∨(∃ vs,o = .tup vs∧vs.length≤4096∧at? vs k = some r)∨∃ vs,lst σ o = some vs∧at? vs k = some r:=by
 have c : ∀ o,((lst σ o).bind fun vs=>at? vs k) = some r→∃ vs,lst σ o = some vs∧at? vs k = some r:=fun o e=>oB e
 cases o <;> first | exact .inr (.inr (c _ h)) | skip
 ·have h : (if _ then _ else none) = some r:=h
  split at h
  ·refine bc fun hG=>?_
   refine mE h fun n e1 e2=>?_
   refine hG ?_
   clear hG
   exact .inl ⟨_,n,rfl,‹_›,e1,e2.symm⟩
  ·exact none_ne h
 ·have h : (if _ then _ else none) = some r:=h
  split at h
  ·exact .inr (.inl ⟨_,rfl,‹_›,h⟩)
  ·exact none_ne h
theorem at_lt {α : Type} {xs : List α} {k : Int} {y : α} (h : at? xs k = some y) : -(xs.length : Int)≤k∧k < xs.length∧(k < 0→xs[(k + xs.length).toNat]? = some y)∧(0≤k→xs[k.toNat]? = some y):=by
 unfold at? at h
 split at h
 ·rename_i h0
  refine bc fun hG=>?_
  obtain ⟨h1,_⟩:=List.getElem?_eq_some_iff.mp h
  refine hG ?_
  clear hG
  exact ⟨by lia,by exact (Int.toNat_lt h0).mp h1,fun q=>absurd q (by exact Int.not_lt_of_ge h0),fun J=>h⟩
 ·replace h:=ite_opt h
  obtain ⟨_,h⟩:=h
  ·obtain ⟨h1,_⟩:=List.getElem?_eq_some_iff.mp h
   exact ⟨by lia,by lia,fun J=>h,fun q=>absurd q (by lia)⟩
theorem at_seqIndex {α : Type} {xs : List α} {k : Int} {y : α} (h : at? xs k = some y) : ∃ j,seqIndex? k xs.length = some j∧xs[j]? = some y:=by
 refine bc fun hG=>?_
 obtain ⟨h1,h2,h3,h4⟩:=at_lt h
 refine hG ?_
 clear hG
 unfold seqIndex?
 by_cases h0 : k < 0
 ·refine ⟨(k + xs.length).toNat,?_,h3 h0⟩
  rw [if_pos h0,if_pos (by simp; lia)]
 ·refine ⟨k.toNat,?_,h4 (by exact Int.not_lt.mp h0)⟩
  rw [if_neg h0,if_pos (by simp; lia)]
section
variable {prog : Program} {w : World} {hT : Heap} {c : FC} {own : Nat→Option Addr} {σ : List CV} {s s' : Shared} {mg mb : Str→Option Value}
theorem VRs.at {F : Addr→Prop} {h : Heap} {cs : List CV} {vs : List Value} (x : VRs F h cs vs) {k : Int} {y : CV} (e : at? cs k = some y) : ∃ v,at? vs k = some v∧VR F h y v:=by
 have hl:=x.length
 unfold at? at e ⊢
 rw [← hl]
 split at e
 ·rename_i h0; rw [if_pos h0]; exact x.get e
 ·rename_i h0
  rw [if_neg h0]
  split at e
  ·rename_i h1; rw [if_pos h1]; exact x.get e
  ·cases e
noncomputable def noM : CV→Bool
 | .unb=>false
 | .own _=>false
 | .mlist _=>false
 | .mhdr _=>false
 | _=>true
theorem VR.er {h : Heap} {cv : CV} {v : Value} (x : VR (FF c own) h cv v) : ER c own σ h cv v:=by
 cases cv <;> first | exact x | exact x.inv.elim
theorem ER.vr' {h : Heap} {cv : CV} {v : Value} (x : ER c own σ h cv v) (hn : Mine.noM cv = true) : VR (FF c own) h cv v:=by
 cases cv <;> first | exact x | cases hn
theorem getItem_ok {o i cv : CV} {vo vi : Value} (x : SR hT c own σ s) (ro : ER c own σ s.heap o vo) (ri : ER c own σ s.heap i vi) (e : itemS σ o i = some cv) {value slice : PySem.Expr}
  (hs : ∀ a k u,subscripted slice false a (.int k u) = operate [a,.int k u] (getItem a (.int k u)):=by intro _ _ _; rfl) :
  wpAny (model prog w) c.A (subscriptTail value slice vo vi) (fun v s'=>Ex s s'∧ER c own σ s'.heap cv v) noE s:=by
 replace e:=asI_inv e
 refine bc fun hG=>?_
 obtain ⟨k,rfl,e⟩:=e
 refine hG ?_
 clear hG
 obtain ⟨u,rfl⟩:=VR.int_inv ri
 replace e:=itemK_inv e
 rcases e with ⟨y,n,rfl,hz,e1,rfl⟩ | ⟨vs,rfl,hz,e⟩ | ⟨vs,e1,e2⟩
 ·refine bc fun hG=>?_
  obtain ⟨t,rfl⟩:=VR.str_inv ro
  obtain ⟨h1,h2,_⟩:=at_lt e1
  obtain ⟨j,hj,hy⟩:=at_seqIndex e1
  refine hG ?_
  clear hG
  have hlen : y.cps.toList.length = y.length:=by simp [Str.length]
  simp only [Array.length_toList] at h1 h2
  refine tail_any (typeIs_str s y t) F.slot_str_getitem.lookup (P.getItem_str (c:=n) (by simp; lia) ?_ ⟨.tok,VR.str _ _⟩) (hs _ _ _)
  rw [hlen] at hj
  rw [hj]
  simpa using hy
 ·refine bc fun hG=>?_
  obtain ⟨a,items,n,rfl,hf,ht,hv⟩:=VR.tup_inv ro
  obtain ⟨v,e1,r⟩:=hv.at e
  obtain ⟨h1,h2,_⟩:=at_lt e1
  obtain ⟨j,hj,hy⟩:=at_seqIndex e1
  refine hG ?_
  clear hG
  have hl:=hv.sz
  simp only [Array.length_toList] at hj h1 h2
  exact tail_any ⟨_,ht,rfl⟩ slot_tuple_getitem.lookup (P.getItem_tuple ht (by lia) (by lia) hj (by simpa using hy) ⟨.refl _,r.er⟩) (hs _ _ _)
 ·refine bc fun hG=>?_
  obtain ⟨a,n,items,rfl,hl,hz,hv,_⟩:=ro.lst x e1
  obtain ⟨v,e3,r⟩:=hv.at e2
  obtain ⟨h1,h2,h3,h4⟩:=at_lt e3
  refine hG ?_
  clear hG
  simp only [Array.length_toList] at h1 h2 h3
  refine tail_any hl.isList.typeIs slot_list_getitem.lookup ?_ (hs _ _ _)
  by_cases h0 : 0≤k
  ·exact wpAny_getItem_list hl.isList h0 (by lia) (by simpa using h4 h0) ⟨.refl _,r.er⟩
  ·exact wpAny_getItem_list_neg hl.isList (by exact Int.lt_of_not_ge h0) (by exact Int.le_def.mpr h1) (by lia) (by simpa using h3 (by exact Int.lt_of_not_ge h0)) ⟨.refl _,r.er⟩
theorem Rf.sb {o i : PySem.Expr} {pos : Pos} {mo mi : List CV→Option CV} (ho : Rf prog w hT c o mo) (hi : Rf prog w hT c i mi)
  (hs : ∀ a k u,subscripted i false a (.int k u) = operate [a,.int k u] (getItem a (.int k u)):=by intro _ _ _; rfl) :
  Rf prog w hT c (.Subscript o i pos) (fun σ=>(mo σ).bind fun a=>(mi σ).bind fun b=>itemS σ a b):=fun own σ s cv x e=>by
 refine bc fun hG=>?_
 revert e
 refine oR fun a ea e=>?_
 revert e
 refine oR fun b eb e=>?_
 refine hG ?_
 clear hG
 refine Subscript_ (wp_w (ho own σ s a x ea) fun va s₁ h₁=>?_)
 have x₁:=x.ex h₁.1
 refine wp_w (hi own σ s₁ b x₁ eb) fun vb s₂ h₂=>?_
 exact wp_w (getItem_ok (x₁.ex h₂.1) (h₁.2.ex x₁ h₂.1) h₂.2 e hs) fun v s₃ h₃=>⟨h₁.1.trans (h₂.1.trans h₃.1),h₃.2⟩
noncomputable def upto (k : Int) (vs : List CV) : List CV:=vs.take (clipAt vs.length k)
noncomputable def sliceS (σ : List CV) (o u : CV) : Option CV:=if isNn u = true then (lst σ o).map fun vs=>.list vs else asI (fun k=>(lst σ o).map fun vs=>.list (upto k vs)) u
theorem Rf.slice {o u : PySem.Expr} {p pos : Pos} {mo mu : List CV→Option CV} (ho : Rf prog w hT c o mo) (hu : Rf prog w hT c u mu) :
  Rf prog w hT c (.Subscript o (.Slice none (some u) none p) pos) (fun σ=>(mo σ).bind fun a=>(mu σ).bind fun b=>sliceS σ a b):=fun own σ s cv x e=>by
 refine bc fun hG=>?_
 refine oE e fun a ea q__=>?_
 refine hG ?_
 clear hG
 clear e
 rename _=>e
 refine bc fun hG=>?_
 refine oE e fun b eb q__=>?_
 refine hG ?_
 clear hG
 clear e
 rename _=>e
 refine Subscript_ (wp_w (ho own σ s a x ea) fun va s₁ h₁=>?_)
 have x₁:=x.ex h₁.1
 refine wpAny_Slice (wpAny_evalPart_none (wp_w (hu own σ s₁ b x₁ eb) fun vb s₂ h₂=>wpAny_evalPart_none ?_))
 have x₂:=x₁.ex h₂.1
 have ra:=h₁.2.ex x₁ h₂.1
 have go : ∀ vs ws hi,lst σ a = some vs→cv = .list ws→IsPart vb hi→(∀ items : Array Value,VRs (FF c own) s₂.heap vs items.toList→VRs (FF c own) s₂.heap ws (slicePick items none hi none).toList)→(∀ items : Array Value,items.size≤4096→(slicePick items none hi none).size≤4096) →
   wpAny (model prog w) c.A (subscriptTail o (.Slice none (some u) none p) va (.ref s₂.heap.objs.size)) (fun v s'=>Ex s s'∧ER c own σ s'.heap cv v) noE { s₂ with heap:=s₂.heap.push { cls:=.type "slice",data:=.fields #[.none,vb,.none] } }:=by
  intro vs ws hi el ec hp hv hz
  refine bc fun hG=>?_
  obtain ⟨l,n,items,rfl,hl,hz',hvs,_⟩:=ra.lst x₂ el
  refine hG ?_
  clear hG
  subst ec
  refine tail_any (hl.push _).isList.typeIs slot_list_getitem.lookup (wpAny_getItem_list_slice (lo:=none) (hi:=hi) (st:=none) (hl.push _).isList (Heap.IsSliceOf.new ..) .none hp .none (by simp) ?_ (by rw [sizeLine_eq]; exact Nat.le_trans hz' (by decide))) rfl
  have x₃ : SR hT c own σ { s₂ with heap:=s₂.heap.push { cls:=.type "slice",data:=.fields #[.none,vb,.none] } }:=x₂.ex (.push _)
  exact ⟨h₁.1.trans (h₂.1.trans ((Ex.push _).trans (.push _))),x₃.newL (hz items hz') ((hv items hvs).kp x.ft (.push _ _))⟩
 have e : (if isNn b = true then (lst σ a).map fun vs=>CV.list vs else asI (fun k=>(lst σ a).map fun vs=>.list (upto k vs)) b) = some cv:=e
 split at e
 ·rename_i hn
  refine bc fun hG=>?_
  refine mE e fun vs e1 e2=>?_
  refine hG ?_
  clear hG
  have hb:=h₂.2
  rw [isNn_eq hn] at hb
  obtain rfl:=VR.none_inv hb
  refine go vs _ none e1 e2.symm .none (fun items hv=>?_) (fun items hz=>?_)
  ·rw [slicePick_plain]
   simp only [Option.elim,List.drop_zero,Nat.sub_zero]
   rw [List.take_of_length_le (by simp)]
   exact hv
  ·rw [slicePick_plain]; simp; exact hz
 ·replace e:=asI_inv e
  refine bc fun hG=>?_
  obtain ⟨k,rfl,e⟩:=e
  refine mE e fun vs e1 e2=>?_
  obtain ⟨t,rfl⟩:=VR.int_inv h₂.2
  refine hG ?_
  clear hG
  refine go vs _ (some k) e1 e2.symm (.int _ _) (fun items hv=>?_) (fun items hz=>?_)
  ·rw [slicePick_plain]
   simp only [Option.elim,List.drop_zero,Nat.sub_zero]
   unfold upto
   rw [hv.sz]
   exact hv.take _
  ·rw [slicePick_plain]; simp; lia
theorem Rfs.nil : Rfs prog w hT c [] (fun J=>some []):=fun pos own σ s cvs x e=>by
 cases e
 exact wpAny_items_nil ⟨.refl _,rfl,fun i cv v h=>by simp at h⟩
theorem Rfs.cons {a : PySem.Expr} {as : List PySem.Expr} {m : List CV→Option CV} {ms : List CV→Option (List CV)} (h : Rf prog w hT c a m) (hs : Rfs prog w hT c as ms)
  (he : ∀ env,starEach (a::as) env = (false,eval a env)::starEach as env:=by intro _; rfl) :
  Rfs prog w hT c (a::as) (fun σ=>(m σ).bind fun v=>(ms σ).map (v::·)):=fun pos own σ s cvs x e=>by
 refine bc fun hG=>?_
 refine oE e fun v e1 q__=>?_
 refine hG ?_
 clear hG
 clear e
 rename _=>e
 refine bc fun hG=>?_
 refine mE e fun vs e2 q__=>?_
 refine hG ?_
 clear hG
 clear e
 rename _=>e
 subst e
 refine wpAny_items_cons (wp_w (h own σ s v x e1) fun va s₁ h₁=>?_) (he _)
 have x₁:=x.ex h₁.1
 refine wp_w (hs pos own σ s₁ vs x₁ e2) fun vas s₂ h₂=>⟨h₁.1.trans h₂.1,by simp [h₂.2.1],fun i cv u hi hu=>?_⟩
 cases i with
 | zero=>simp at hi hu; subst hi hu; exact h₁.2.ex x₁ h₂.1
 | succ i=>exact h₂.2.2 i cv u (by simpa using hi) (by simpa using hu)
theorem VRs.of_get {F : Addr→Prop} {h : Heap} : ∀ {cs : List CV} {vs : List Value},vs.length = cs.length→(∀ (i : Nat) (cv : CV) (v : Value),cs[i]? = some cv→vs[i]? = some v→VR F h cv v)→VRs F h cs vs
 | [],[],_,_=>.nil
 | [],_::_,e,_=>by simp at e
 | _::_,[],e,_=>by simp at e
 | c::cs,v::vs,e,h=>.cons (h 0 c v rfl rfl) (VRs.of_get (by simpa using e) fun i cv u h1 h2=>h (i + 1) cv u (by simpa using h1) (by simpa using h2))
theorem all_noM {cvs : List CV} {vs : List Value} {h : Heap} (ha : cvs.all noM = true) (hl : vs.length = cvs.length) (hg : ∀ (i : Nat) (cv : CV) (v : Value),cvs[i]? = some cv→vs[i]? = some v→ER c own σ h cv v) : VRs (FF c own) h cvs vs :=
 .of_get hl fun i cv v h1 h2=>(hg i cv v h1 h2).vr' (List.all_eq_true.mp ha cv (List.mem_of_getElem? h1))
theorem Rf.lst {es : List PySem.Expr} {pos : Pos} {ms : List CV→Option (List CV)} (h : Rfs prog w hT c es ms) :
  Rf prog w hT c (.List es pos) (fun σ=>(ms σ).bind fun vs=>if vs.all noM && decide (vs.length≤4096) then some (.list vs) else none):=fun own σ s cv x e=>by
 refine bc fun hG=>?_
 refine oE e fun vs e1 q__=>?_
 refine hG ?_
 clear hG
 clear e
 rename _=>e
 replace e:=ite_opt e
 obtain ⟨hc,e⟩:=e
 ·cases e
  obtain ⟨h1,h2⟩:=bA hc
  have h2:=of_decide_eq_true h2
  refine wpAny_List (wp_w (h pos own σ s vs x e1) fun vas s₁ h₁=>?_)
  have x₁:=x.ex h₁.1
  refine ⟨by rw [sizeLine_eq,h₁.2.1]; exact Nat.le_trans h2 (by decide),h₁.1.trans (.push _),x₁.newL (by simpa [h₁.2.1] using h2) ?_⟩
  simpa using all_noM h1 h₁.2.1 h₁.2.2
theorem Rf.tup {es : List PySem.Expr} {k : Nat} {pos : Pos} {ms : List CV→Option (List CV)} (h : Rfs prog w hT c es ms) :
  Rf prog w hT c (.Tuple es k pos) (fun σ=>(ms σ).bind fun vs=>if vs.all noM && decide (vs.length≤4096) then some (.tup vs) else none):=fun own σ s cv x e=>by
 refine bc fun hG=>?_
 refine oE e fun vs e1 q__=>?_
 refine hG ?_
 clear hG
 clear e
 rename _=>e
 replace e:=ite_opt e
 obtain ⟨hc,e⟩:=e
 ·cases e
  obtain ⟨h1,h2⟩:=bA hc
  have h2:=of_decide_eq_true h2
  refine wpAny_Tuple (wp_w (h pos own σ s vs x e1) fun vas s₁ h₁=>?_)
  have x₁:=x.ex h₁.1
  refine ⟨by rw [sizeLine_eq,h₁.2.1]; exact Nat.le_trans h2 (by decide),h₁.1.trans (.push _),x₁.newT ?_⟩
  simpa using all_noM h1 h₁.2.1 h₁.2.2
end
inductive CF where
 | next
 | brk
 | ret (cv : CV)
 deriving Inhabited
noncomputable def FRel (c : FC) (h : Heap) : CF→Flow→Prop
 | .next,.next=>True
 | .brk,.brk=>True
 | .ret cv,.ret v=>VR c.X h cv v
 | _,_=>False
structure Ss (c : FC) (own : Nat→Option Addr) (s s' : Shared) : Prop where
 os : s'.os = s.os
 gens : GK s s'
 keep : ∀ b o,¬ Mut c own b→b ≠ tabA→s.heap.get? b = some o→s'.heap.get? b = some o
 tab : ∀ ps,TabOk s.heap ps→∃ more,TabOk s'.heap (ps ++ more)
 al : ∀ b,b ≠ tabA→Al s.heap b→Al s'.heap b
noncomputable def OwnLe (own own' : Nat→Option Addr) (h : Heap) : Prop:=∀ i a,own' i = some a→(∃ j,own j = some a)∨h.get? a = none
noncomputable abbrev CM:=List CV→Option (CF × List CV)
noncomputable def OwnKp (own own' : Nat→Option Addr) (σ σ' : List CV) : Prop:=∀ i,isM (σ.getD i .unb) = true→own' i = own i∧isM (σ'.getD i .unb) = true
theorem OwnKp.refl {own : Nat→Option Addr} {σ : List CV} : OwnKp own own σ σ:=fun J h=>⟨rfl,h⟩
theorem OwnKp.trans {o1 o2 o3 : Nat→Option Addr} {σ1 σ2 σ3 : List CV} (x : OwnKp o1 o2 σ1 σ2) (y : OwnKp o2 o3 σ2 σ3) : OwnKp o1 o3 σ1 σ3:=fun i h=>⟨(y i (x i h).2).1.trans (x i h).1,(y i (x i h).2).2⟩
inductive SOut (hT : Heap) (c : FC) (own : Nat→Option Addr) (σ : List CV) (s : Shared) (f : CF) (σ' : List CV) (fl : Flow) (s' : Shared) : Prop
 | mk (own' : Nat→Option Addr) (x : SR hT c own' σ' s') (k : Ss c own s s') (l : OwnLe own own' s.heap) (p : OwnKp own own' σ σ') (r : FRel c s'.heap f fl)
noncomputable abbrev noO (_ : Nat) : Option Addr:=none
noncomputable def Rs (prog : Program) (w : World) (hT : Heap) (c : FC) (st : Stmt) (m : CM) : Prop :=
 ∀ own σ s f σ',SR hT c own σ s→m σ = some (f,σ')→wpAny (model prog w) c.A (exec st c.env) (SOut hT c own σ s f σ') noE s
noncomputable def Rss (prog : Program) (w : World) (hT : Heap) (c : FC) (st : List Stmt) (m : CM) : Prop :=
 ∀ own σ s f σ',SR hT c own σ s→m σ = some (f,σ')→wpAny (model prog w) c.A (execs st c.env) (SOut hT c own σ s f σ') noE s
section
variable {prog : Program} {w : World} {hT : Heap} {c : FC} {own own' own'' : Nat→Option Addr} {σ σ' : List CV} {s s' s'' : Shared} {mg mb : Str→Option Value}
theorem Ss.refl (s : Shared) : Ss c own s s:=⟨rfl,.same rfl,fun J J J J e=>e,fun ps t=>⟨#[],by rw [Array.append_empty]; exact t⟩,fun J J e=>e⟩
theorem Ss.of_ex (e : Ex s s') : Ss c own s s':=⟨e.os,e.gens,fun b o J ht h=>e.kp.keep b o ht h,e.kp.tab,fun b ht ⟨o,ho⟩=>⟨o,e.kp.keep b o ht ho⟩⟩
theorem OwnLe.refl (h : Heap) : OwnLe own own h:=fun i J e=>.inl ⟨i,e⟩
theorem Ss.trans (x : Ss c own s s') (l : OwnLe own own' s.heap) (y : Ss c own' s' s'') : Ss c own s s'' where
 os:=y.os.trans x.os
 gens:=x.gens.trans y.gens
 keep:=fun b o hm ht e=>y.keep b o (fun m=>by
  rcases m with m | m | ⟨i,m⟩
  ·exact hm (.inl m)
  ·exact hm (.inr (.inl m))
  ·rcases l i b m with q | q
   ·exact hm (.inr (.inr q))
   ·rw [e] at q; cases q) ht (x.keep b o hm ht e)
 tab:=fun ps t=>by
  obtain ⟨m,t'⟩:=x.tab ps t
  obtain ⟨m',t''⟩:=y.tab _ t'
  exact ⟨m ++ m',by rw [← Array.append_assoc]; exact t''⟩
 al:=fun b ht a=>y.al b ht (x.al b ht a)
theorem OwnLe.trans (x : SR hT c own' σ s') (k : Ss c own s s') (l : OwnLe own own' s.heap) (m : OwnLe own' own'' s'.heap) : OwnLe own own'' s.heap:=fun i a e=>by
 rcases m i a e with ⟨j,q⟩ | q
 ·exact l j a q
 ·cases e' : s.heap.get? a with
  | none=>exact .inr rfl
  | some o =>
   by_cases ht : a = tabA
   ·obtain ⟨ps,t⟩:=x.tobj
    rw [ht,t] at q; cases q
   ·obtain ⟨o',ho'⟩:=k.al a ht ⟨o,e'⟩
    rw [ho'] at q; cases q
theorem SOut.trans {f : CF} {σ₁ σ₂ : List CV} {fl : Flow} (x : SR hT c own' σ₁ s') (k : Ss c own s s') (l : OwnLe own own' s.heap) (kp : OwnKp own own' σ σ₁) (y : SOut hT c own' σ₁ s' f σ₂ fl s'') : SOut hT c own σ s f σ₂ fl s'':=by
 obtain ⟨o,h1,h2,h3,h4,h5⟩:=y
 exact ⟨o,h1,k.trans l h2,l.trans x k h3,kp.trans h4,h5⟩
theorem Ss.of_no (k : Ss c noO s s') : Ss c own s s' :=
 ⟨k.os,k.gens,fun b o hm=>k.keep b o fun m=>hm (by
  rcases m with m | m | ⟨j,m⟩
  ·exact .inl m
  ·exact .inr (.inl m)
  ·cases m),k.tab,k.al⟩
theorem Rss.nil : Rss prog w hT c [] (fun σ=>some (.next,σ)):=fun own σ s f σ' x e=>by
 cases e
 exact wpAny_execs_nil ⟨own,x,.refl _,.refl _,.refl,trivial⟩
noncomputable def seqM (m1 m2 : CM) : CM:=fun σ=>(m1 σ).bind fun p=>match p.1 with
 | .next=>m2 p.2
 | f=>some (f,p.2)
theorem Rss.cons {st : Stmt} {rest : List Stmt} {m1 m2 : CM} (h1 : Rs prog w hT c st m1) (h2 : Rss prog w hT c rest m2) : Rss prog w hT c (st::rest) (seqM m1 m2):=fun own σ s f σ' x e=>by
 refine bc fun hG=>?_
 obtain ⟨⟨f1,σ1⟩,e1,q__⟩:=oB e
 refine hG ?_
 clear hG
 clear e
 rename _=>e
 refine wpAny_execs_cons (wp_w (h1 own σ s f1 σ1 x e1) fun fl s₁ h=>?_)
 obtain ⟨own1,x1,k1,l1,p1,r1⟩:=h
 cases f1 with
 | next =>
  cases fl <;> first | exact r1.elim | skip
  exact wp_w (h2 own1 σ1 s₁ f σ' x1 e) fun fl s₂ y=>SOut.trans x1 k1 l1 p1 y
 | brk =>
  cases e
  cases fl <;> first | exact r1.elim | exact ⟨own1,x1,k1,l1,p1,r1⟩
 | ret cv =>
  cases e
  cases fl <;> first | exact r1.elim | exact ⟨own1,x1,k1,l1,p1,r1⟩
noncomputable def AtSlot (c : FC) (i : Nat) (y : Str) : Prop:=c.names[i]? = some (y,.local)∨(c.names[i]? = some (y,.cell)∧c.K i = false)
structure OwnOk (c : FC) (own own' : Nat→Option Addr) (i : Nat) (h : Heap) : Prop where
 same : ∀ j,j < c.names.length→j ≠ i→own' j = own j
 sub : ∀ j a,own' j = some a→(∃ k,own k = some a)∨h.get? a = none
 inj : ∀ i j a,own' i = some a→own' j = some a→i = j
 fr : ∀ i a,own' i = some a→(c.s0.heap.get? a = none∧¬ c.X a)∨c.P a
 al : ∀ i a,own' i = some a→∃ items n,IsL h a items n
theorem SR.mvOwn {i : Nat} (_x : SR hT c own σ s) (o : OwnOk c own own' i s.heap) : ∀ b ob,¬ FF c own b→s.heap.get? b = some ob→¬ FF c own' b:=fun b ob hf e f=>by
 rcases f with f | f | f | ⟨j,f⟩
 ·exact hf (.inl f)
 ·exact hf (.inr (.inl f))
 ·exact hf (.inr (.inr (.inl f)))
 ·rcases o.sub j b f with q | q
  ·exact hf (.inr (.inr (.inr q)))
  ·rw [e] at q; cases q
theorem getD_set_self {σ : List CV} {i : Nat} {cv : CV} (hi : i < σ.length) : (σ.set i cv).getD i .unb = cv:=by simp [List.getD,hi]
theorem getD_set_ne {σ : List CV} {i j : Nat} {cv : CV} (h : j ≠ i) : (σ.set i cv).getD j .unb = σ.getD j .unb:=by
 simp [List.getD,List.getElem?_set,Ne.symm h]
noncomputable def noSeqD : Data→Bool
 | .fields _=>false
 | .seq _ _=>false
 | _=>true
theorem store_main (x : SR hT c own σ s) {i : Nat} (hi : i < σ.length) {cv : CV} {v : Value} (o : OwnOk c own own' i s.heap) (hv : SV c own' s.heap i cv (some v)) {z : Addr} {h' : Heap} {tk : Nat} {oz : Obj} (hm : ∀ o,Mut c o z) (hoz : ∀ j a,own' j = some a→a ≠ z) (hzt : z ≠ tabA) (hsb : Heap.SameBut z s.heap h') (hzal : NF h' z)
  (ho : s.heap.get? z = some oz) (hd : noSeqD oz.data = true) (z0 : c.s0.heap.get? z = none)
  (hns : ∃ m,h'.Ns c.env.locals m∧∀ (j : Nat) u,c.names[j]? = some (u,NameKind.local)→(j ≠ i→SV c own' h' j (σ.getD j .unb) (m u))∧(j = i→m u = some v))
  (hcel : ∀ (j : Nat) u,c.names[j]? = some (u,NameKind.cell)→∃ a ov,c.env.cells.lookup u = some a∧h'.IsCell a ov∧(j ≠ i→SV c own' h' j (σ.getD j .unb) ov)∧(j = i→ov = some v)∧(c.K j = false→c.s0.heap.get? a = none)) :
  (SR hT c own' (σ.set i cv) { s with heap:=h',toks:=tk }∧Ss c noO s { s with heap:=h',toks:=tk }∧OwnLe own own' s.heap)∧∀ a items n,IsL s.heap a items n→IsL h' a items n:=by
 have keep : ∀ b ob,b ≠ z→s.heap.get? b = some ob→h'.get? b = some ob:=fun b ob hb e=>(hsb.2 b hb).trans e
 have al : ∀ b,b ≠ tabA→Al s.heap b→Al h' b:=fun b ht ⟨ob,e⟩=>by
  by_cases hb : b = z
  ·obtain ⟨o,q,_⟩:=hzal; exact ⟨o,hb▸q⟩
  ·exact ⟨ob,keep b ob hb e⟩
 have nfk : ∀ b,NF s.heap b→NF h' b:=fun b ⟨ob,e,r⟩=>by
  by_cases hb : b = z
  ·exact hb▸hzal
  ·exact ⟨ob,keep b ob hb e,r⟩
 have znf : NF s.heap z:=⟨oz,ho,.inr fun vs e=>by rw [e] at hd; cases hd⟩
 have tab' : ∀ ps,TabOk s.heap ps→TabOk h' ps:=fun ps t=>by
  have hc : codA ≠ z:=fun q=>by
   obtain ⟨⟨oc,vc,e1,e2,e3,_⟩,_⟩:=t.t
   rw [q,ho] at e1; cases e1; rw [e3] at hd; cases hd
  exact ⟨t.c.sameBut hsb hc (Ne.symm hzt),t.t.sameBut hsb hc (Ne.symm hzt),t.l.but znf keep⟩
 have zoT : ∀ b ob,hT.get? b = some ob→b ≠ z:=fun b ob e q=>by
  rw [q] at e
  rw [x.top0.keep z ob hzt e] at z0; cases z0
 have znl : ∀ a items n,IsL s.heap a items n→a ≠ z:=fun a items n hl q=>by
  rw [q] at hl
  rw [show s.heap.get? z = _ from hl] at ho; cases ho; cases hd
 have hv' : SV c own' h' i cv (some v):=hv.step (fun b ob hf e=>⟨hf,keep b ob (fun q=>hf (q▸.inr (hm own'))) e⟩) fun l hl=>⟨hl,fun ob=>keep l ob (hoz i l hl)⟩
 refine ⟨⟨⟨⟨fun b ob ht e=>keep b ob (zoT b ob e) (x.top.keep b ob ht e),fun ps t=>?_⟩,x.top0,x.pt,fun a h=>⟨(x.pa a h).1,al a (x.pa a h).1 (x.pa a h).2⟩,x.os,⟨x.gens.b,x.gens.k⟩,fun b ob hp ht e=>keep b ob (fun q=>?_) (x.kp b ob hp ht e),fun ps t=>?_,?_,x.xt,fun a ha ht=>nfk a (x.xa a ha ht),x.lf,?_,?_,x.cinj,o.inj,o.fr,fun j a e=>?_⟩,
  ⟨rfl,.same rfl,fun b ob hm' ht e=>keep b ob (fun q=>hm' (q▸hm noO)) e,fun ps t=>⟨#[],by rw [Array.append_empty]; exact tab' ps t⟩,al⟩,o.sub⟩,fun a items n hl=>keep a _ (znl a items n hl) hl⟩
 ·obtain ⟨m,t'⟩:=x.top.tab ps t; exact ⟨m,tab' _ t'⟩
 ·rw [q,z0] at e; cases e
 ·obtain ⟨m,t'⟩:=x.tab ps t; exact ⟨m,tab' _ t'⟩
 ·obtain ⟨ps,t⟩:=x.tok; exact ⟨ps,tab' _ t⟩
 ·obtain ⟨m,h1,h2⟩:=hns
  refine ⟨m,h1,fun j u hu=>?_⟩
  by_cases hj : j = i
  ·rw [hj,getD_set_self hi,(h2 j u hu).2 hj]; exact hv'
  ·rw [getD_set_ne hj]; exact (h2 j u hu).1 hj
 ·intro j u hu
  refine bc fun hG=>?_
  obtain ⟨a,ov,h1,h2,h3,h4,h5⟩:=hcel j u hu
  refine hG ?_
  clear hG
  refine ⟨a,ov,h1,h2,?_,h5⟩
  by_cases hj : j = i
  ·rw [hj,getD_set_self hi,h4 hj]; exact hv'
  ·rw [getD_set_ne hj]; exact h3 hj
 ·obtain ⟨items,n,hl⟩:=o.al j a e
  exact ⟨items,n,keep a _ (hoz j a e) hl⟩
theorem store_others (x : SR hT c own σ s) {i : Nat} (o : OwnOk c own own' i s.heap) {z : Addr} {h' : Heap} (hm : ∀ o,Mut c o z) (hoz : ∀ j a,own' j = some a→a ≠ z) (hsb : Heap.SameBut z s.heap h') (j : Nat) (cv : CV) (ov : Option Value) (hj : j < c.names.length) (hji : j ≠ i) (sv : SV c own s.heap j cv ov) : SV c own' h' j cv ov :=
 sv.step (fun b ob hf e=>⟨x.mvOwn o b ob hf e,(hsb.2 b fun q=>hf (q▸.inr (hm own))).trans e⟩) fun l hl=>⟨(o.same j hj hji).trans hl,fun ob e=>(hsb.2 l (hoz j l ((o.same j hj hji).trans hl))).trans e⟩
theorem store_oz {i : Nat} (o : OwnOk c own own' i s.heap) {z : Addr} {oz : Obj} (ho : s.heap.get? z = some oz) (hd : noSeqD oz.data = true) : ∀ j a,own' j = some a→a ≠ z:=fun j a e q=>by
 obtain ⟨items,n,hl⟩:=o.al j a e
 rw [q] at hl
 rw [show s.heap.get? z = _ from hl] at ho; cases ho; cases hd
theorem wp_store (W : Wf c) (x : SR hT c own σ s) {i : Nat} {y : Str} (hn : AtSlot c i y) (hi : i < σ.length) {cv : CV} {v : Value} (o : OwnOk c own own' i s.heap) (hv : SV c own' s.heap i cv (some v)) :
  wpAny (model prog w) c.A (storeName c.env y v) (fun J s'=>(SR hT c own' (σ.set i cv) s'∧Ss c noO s s'∧OwnLe own own' s.heap)∧∀ a items n,IsL s.heap a items n→IsL s'.heap a items n) noE s:=by
 rcases hn with hn | ⟨hn,hK⟩
 ·obtain ⟨m,hm,hmv⟩:=x.ns
  obtain ⟨ol,es,ep,q4,q5,_⟩:=id hm
  have hd : noSeqD ol.data = true:=by rw [q5]; rfl
  have hoz:=store_oz o q4 hd
  refine wpAny_storeName_local (W.kindOf hn) hm (fun h' hm' hsb=>?_) (by rw [W.kind]; rfl)
  have zal : NF h' c.env.locals:=by obtain ⟨ol,_,_,q,q2,_⟩:=hm'; exact ⟨ol,q,.inr fun vs e=>by rw [q2] at e; cases e⟩
  refine store_main x hi o hv (fun J=>.inl rfl) hoz x.lne hsb zal q4 hd x.lf ⟨_,hm',fun j u hu=>⟨fun hj=>?_,fun hj=>?_⟩⟩ fun j u hu=>?_
  ·have hne : u ≠ y:=fun q=>hj (W.idx hu (q▸hn))
   rw [if_neg hne]
   exact store_others x o (fun J=>.inl rfl) hoz hsb j _ _ (gL hu) hj (hmv j u hu)
  ·rw [hj,hn] at hu; cases hu; rw [if_pos rfl]
  ·refine bc fun hG=>?_
   obtain ⟨a,ov,h1,h2,h3,h4⟩:=x.cel j u hu
   refine hG ?_
   clear hG
   have hji : j ≠ i:=fun q=>by rw [q,hn] at hu; cases hu
   exact ⟨a,ov,h1,h2.sameBut hsb (x.cnl h2),fun J=>store_others x o (fun J=>.inl rfl) hoz hsb j _ _ (gL hu) hji h3,fun q=>absurd q hji,h4⟩
 ·obtain ⟨z,ov,hz1,hz2,hz3,hz4⟩:=x.cel i y hn
  obtain ⟨oc,q4,q5⟩:=id hz2
  have hd : noSeqD oc.data = true:=by rw [q5]; rfl
  have hoz:=store_oz o q4 hd
  have hmz : ∀ o,Mut c o z:=fun o=>.inr (.inl ⟨i,y,hn,hK,hz1⟩)
  refine wpAny_storeName_cell W.kind (W.kindOf hn) hz1 hz2 fun h' hc' hsb=>?_
  have zal : NF h' z:=by obtain ⟨oc,q,q2⟩:=hc'; exact ⟨oc,q,.inr fun vs e=>by rw [q2] at e; cases e⟩
  refine bc fun hG=>?_
  obtain ⟨m,hm,hmv⟩:=x.ns
  refine hG ?_
  clear hG
  refine store_main (tk:=s.toks) x hi o hv hmz hoz (x.cne hz2) hsb zal q4 hd (hz4 hK) ⟨m,hm.sameBut hsb (Ne.symm (x.cnl hz2)),fun j u hu=>⟨fun hj=>?_,fun hj=>?_⟩⟩ fun j u hu=>?_
  ·exact store_others x o hmz hoz hsb j _ _ (gL hu) hj (hmv j u hu)
  ·rw [hj,hn] at hu; cases hu
  ·refine bc fun hG=>?_
   obtain ⟨a,ov',h1,h2,h3,h4⟩:=x.cel j u hu
   refine hG ?_
   clear hG
   by_cases hji : j = i
   ·rw [hji,hn] at hu; cases hu
    exact ⟨z,some v,hz1,hc',fun q=>absurd hji q,fun J=>rfl,hji▸hz4⟩
   ·have haz : a ≠ z:=fun q=>hji (x.cinj j i u y a hu hn h1 (q▸hz1))
    exact ⟨a,ov',h1,h2.sameBut hsb haz,fun J=>store_others x o hmz hoz hsb j _ _ (gL hu) hji h3,fun q=>absurd q hji,h4⟩
end
noncomputable def dropO (c : FC) (own : Nat→Option Addr) (i : Nat) (j : Nat) : Option Addr:=if j = i then none else own j
noncomputable def setO (own : Nat→Option Addr) (i t : Nat) (a : Addr) (j : Nat) : Option Addr:=if j = i then some a else if j = t then none else own j
noncomputable def tmpO (own : Nat→Option Addr) (t : Nat) (a : Addr) (j : Nat) : Option Addr:=if j = t then some a else own j
noncomputable def clean (c : FC) (own : Nat→Option Addr) (j : Nat) : Option Addr:=if c.names.length≤j then none else own j
section
variable {prog : Program} {w : World} {hT : Heap} {c : FC} {own own' own'' : Nat→Option Addr} {σ σ' : List CV} {s s' s'' : Shared} {mg mb : Str→Option Value}
theorem OwnOk.drop (x : SR hT c own σ s) (i : Nat) : OwnOk c own (dropO c own i) i s.heap where
 same:=fun j J hj=>by unfold dropO; rw [if_neg hj]
 sub:=fun j a e=>by
  unfold dropO at e
  split at e
  ·cases e
  ·exact .inl ⟨j,e⟩
 inj:=fun j k a e e'=>by
  unfold dropO at e e'
  split at e <;> split at e' <;> first | cases e | cases e' | exact x.oinj j k a e e'
 fr:=fun j a e=>by
  unfold dropO at e
  split at e
  ·cases e
  ·exact x.ofr j a e
 al:=fun j a e=>by
  unfold dropO at e
  split at e
  ·cases e
  ·exact x.oal j a e
theorem OwnOk.set (x : SR hT c own σ s) {i t : Nat} {a : Addr} (ht : own t = some a) (hn : c.names.length≤t) : OwnOk c own (setO own i t a) i s.heap where
 same:=fun j hj hji=>by unfold setO; rw [if_neg hji,if_neg (by lia)]
 sub:=fun j b e=>by
  unfold setO at e
  split at e
  ·cases e; exact .inl ⟨t,ht⟩
  ·split at e
   ·cases e
   ·exact .inl ⟨j,e⟩
 inj:=fun j k b e e'=>by
  unfold setO at e e'
  by_cases h1 : j = i <;> by_cases h2 : k = i <;> simp only [h1,h2,if_true,if_false] at e e'
  ·rw [h1,h2]
  ·cases e
   split at e'
   ·cases e'
   ·rename_i hk; exact absurd (x.oinj k t a e' ht) hk
  ·cases e'
   split at e
   ·cases e
   ·rename_i hk; exact absurd (x.oinj j t a e ht) hk
  ·split at e <;> split at e' <;> first | cases e | cases e' | exact x.oinj j k b e e'
 fr:=fun j b e=>by
  unfold setO at e
  split at e
  ·cases e; exact x.ofr t a ht
  ·split at e
   ·cases e
   ·exact x.ofr j b e
 al:=fun j b e=>by
  unfold setO at e
  split at e
  ·cases e; exact x.oal t a ht
  ·split at e
   ·cases e
   ·exact x.oal j b e
theorem SR.tmp (x : SR hT c own σ s) (e : Ex s s') {t : Nat} {a : Addr} {items : Array Value} {n : Nat} (hn : c.names.length≤t) (ho : own t = none) (ha : s.heap.get? a = none) (hl : IsL s'.heap a items n) :
  SR hT c (tmpO own t a) σ s':=by
 have x':=x.ex e
 have sub : ∀ j b,tmpO own t a j = some b→own j = some b∨b = a:=fun j b e=>by
  unfold tmpO at e
  split at e
  ·cases e; exact .inr rfl
  ·exact .inl e
 have mv : ∀ b o,¬ FF c own b→s.heap.get? b = some o→¬ FF c (tmpO own t a) b∧s'.heap.get? b = some o:=fun b o hf e'=>by
  refine ⟨fun f=>?_,e.kp.keep b o (fun q=>hf (q▸x.ft)) e'⟩
  rcases f with f | f | f | ⟨j,f⟩
  ·exact hf (.inl f)
  ·exact hf (.inr (.inl f))
  ·exact hf (.inr (.inr (.inl f)))
  ·rcases sub j b f with q | q
   ·exact hf (.inr (.inr (.inr ⟨j,q⟩)))
   ·rw [q,ha] at e'; cases e'
 have st : ∀ (i : Nat) (cv : CV) (ov : Option Value),i < c.names.length→SV c own s.heap i cv ov→SV c (tmpO own t a) s'.heap i cv ov:=fun i cv ov hi sv =>
  sv.step mv fun l hl=>⟨by unfold tmpO; rw [if_neg (by lia)]; exact hl,fun o=>e.kp.keep l o (x.one hl)⟩
 refine ⟨x'.top,x'.top0,x'.pt,x'.pa,x'.os,x'.gens,x'.kp,x'.tab,x'.tok,x'.xt,x'.xa,x'.lf,?_,?_,x'.cinj,?_,?_,?_⟩
 ·obtain ⟨m,h1,h2⟩:=x.ns
  exact ⟨m,h1.at' fun o=>e.kp.keep _ o x.lne,fun i y hy=>st i _ _ (gL hy) (h2 i y hy)⟩
 ·intro i y hy
  refine bc fun hG=>?_
  obtain ⟨b,ov,h1,h2,h3,h4⟩:=x.cel i y hy
  have hne:=x.cne h2
  obtain ⟨o,ho',hd⟩:=h2
  refine hG ?_
  clear hG
  exact ⟨b,ov,h1,⟨o,e.kp.keep b o hne ho',hd⟩,st i _ _ (gL hy) h3,h4⟩
 ·intro j k b e1 e2
  unfold tmpO at e1 e2
  have old : ∀ q,own q = some a→False:=fun q hq=>by
   obtain ⟨it,m,hl'⟩:=x.oal q a hq
   have hl'' : s.heap.get? a = _:=hl'
   rw [ha] at hl''; cases hl''
  split at e1 <;> split at e2
  ·rename_i q1 q2; rw [q1,q2]
  ·cases e1; exact (old _ e2).elim
  ·cases e2; exact (old _ e1).elim
  ·exact x.oinj j k b e1 e2
 ·intro j b e1
  rcases sub j b e1 with q | q
  ·exact x.ofr j b q
  ·subst q
   have hx : ¬ c.X b:=fun q=>by
    by_cases ht : b = tabA
    ·refine bc fun hG=>?_
     obtain ⟨ps,q⟩:=x.tobj
     refine hG ?_
     clear hG
     rw [ht,q] at ha; cases ha
    ·obtain ⟨o,q,_⟩:=x.xa b q ht
     rw [q] at ha; cases ha
   cases e2 : c.s0.heap.get? b with
   | none=>exact .inl ⟨rfl,hx⟩
   | some o =>
    by_cases hp : c.P b
    ·exact .inr hp
    ·by_cases ht : b = tabA
     ·obtain ⟨ps,q⟩:=x.tobj
      rw [ht,q] at ha; cases ha
     ·rw [x.kp b o hp ht e2] at ha; cases ha
 ·intro j b e1
  rcases sub j b e1 with q | q
  ·exact x'.oal j b q
  ·exact ⟨items,n,q▸hl⟩
theorem SR.clean (x : SR hT c own σ s) : SR hT c (clean c own) σ s:=by
 have sub : ∀ j b,Mine.clean c own j = some b→own j = some b:=fun j b e=>by
  unfold Mine.clean at e
  split at e
  ·cases e
  ·exact e
 have mv : ∀ b o,¬ FF c own b→s.heap.get? b = some o→¬ FF c (Mine.clean c own) b∧s.heap.get? b = some o:=fun b o hf e=>by
  refine ⟨fun f=>?_,e⟩
  rcases f with f | f | f | ⟨j,f⟩
  ·exact hf (.inl f)
  ·exact hf (.inr (.inl f))
  ·exact hf (.inr (.inr (.inl f)))
  ·exact hf (.inr (.inr (.inr ⟨j,sub j b f⟩)))
 have st : ∀ (i : Nat) (cv : CV) (ov : Option Value),i < c.names.length→SV c own s.heap i cv ov→SV c (Mine.clean c own) s.heap i cv ov:=fun i cv ov hi sv =>
  sv.step mv fun l hl=>⟨by unfold Mine.clean; rw [if_neg (by exact Nat.not_le_of_lt hi)]; exact hl,fun o e=>e⟩
 refine ⟨x.top,x.top0,x.pt,x.pa,x.os,x.gens,x.kp,x.tab,x.tok,x.xt,x.xa,x.lf,?_,?_,x.cinj,fun j k b e1 e2=>x.oinj j k b (sub _ _ e1) (sub _ _ e2),fun j b e=>x.ofr j b (sub _ _ e),fun j b e=>x.oal j b (sub _ _ e)⟩
 ·obtain ⟨m,h1,h2⟩:=x.ns
  exact ⟨m,h1,fun i y hy=>st i _ _ (gL hy) (h2 i y hy)⟩
 ·intro i y hy
  refine bc fun hG=>?_
  obtain ⟨b,ov,h1,h2,h3,h4⟩:=x.cel i y hy
  refine hG ?_
  clear hG
  exact ⟨b,ov,h1,h2,st i _ _ (gL hy) h3,h4⟩
theorem clean_none {j : Nat} (h : c.names.length≤j) : Mine.clean c own j = none:=by unfold Mine.clean; rw [if_pos h]
theorem Ss.unclean (k : Ss c (Mine.clean c own) s s') : Ss c own s s' :=
 ⟨k.os,k.gens,fun b o hm=>k.keep b o fun m=>hm (by
  rcases m with m | m | ⟨j,m⟩
  ·exact .inl m
  ·exact .inr (.inl m)
  ·unfold Mine.clean at m
   split at m
   ·cases m
   ·exact .inr (.inr ⟨j,m⟩)),k.tab,k.al⟩
theorem OwnLe.unclean {h : Heap} (l : OwnLe (Mine.clean c own) own' h) : OwnLe own own' h:=fun i a e=>by
 rcases l i a e with ⟨j,q⟩ | q
 ·unfold Mine.clean at q
  split at q
  ·cases q
  ·exact .inl ⟨j,q⟩
 ·exact .inr q
noncomputable def stF (i : Nat) (cv : CV) (σ : List CV) : Option (List CV):=if noM cv = true∧i < σ.length∧isM (σ.getD i .unb) = false then some (σ.set i cv) else none
theorem VR.sv {h : Heap} {i : Nat} {cv : CV} {v : Value} (x : VR (FF c own) h cv v) : SV c own h i cv (some v):=by
 cases cv <;> first | exact ⟨v,rfl,x⟩ | trivial | cases x
theorem wp_storeF (W : Wf c) (x : SR hT c own σ s) {i : Nat} {y : Str} (hn : AtSlot c i y) {cv : CV} {v : Value} (hv : VR (FF c own) s.heap cv v) (e : stF i cv σ = some σ') :
  wpAny (model prog w) c.A (storeName c.env y v) (fun J s'=>SR hT c (dropO c own i) σ' s'∧Ss c noO s s'∧OwnLe own (dropO c own i) s.heap∧OwnKp own (dropO c own i) σ σ') noE s:=by
 unfold stF at e
 replace e:=ite_opt e
 obtain ⟨h,e⟩:=e
 ·cases e
  refine wp_w (wp_store W x hn h.2.1 (.drop x i) ((hv.move fun b o hf e=>⟨x.mvOwn (.drop x i) b o hf e,e⟩).sv)) fun J s' q=>⟨q.1.1,q.1.2.1,q.1.2.2,fun j hj=>?_⟩
  have hji : j ≠ i:=fun e=>by rw [e,h.2.2] at hj; cases hj
  exact ⟨by unfold dropO; rw [if_neg hji],by rw [getD_set_ne hji]; exact hj⟩
noncomputable def asgM (i : Nat) (m : List CV→Option CV) : List CV→Option (CF × List CV):=fun σ=>(m σ).bind fun cv=>(stF i cv σ).map (.next,·)
theorem Rs.asg {y : Str} {px pos : Pos} {e : PySem.Expr} {i : Nat} {m : List CV→Option CV} (W : Wf c) (hn : AtSlot c i y) (h : Rf prog w hT c e m)
  (hs : swapsWith e (some (.Name y px)) pos.line c.env = pure false:=by intros; rfl) :
  Rs prog w hT c (.Assign [.Name y px] e pos) (asgM i m):=fun own σ s f σ' x e'=>by
 refine bc fun hG=>?_
 refine oE e' fun cv e1 q__=>?_
 refine hG ?_
 clear hG
 clear e'
 rename _=>e'
 refine bc fun hG=>?_
 refine mE e' fun σ₁ e2 q__=>?_
 refine hG ?_
 clear hG
 clear e'
 rename _=>e'
 cases e'
 refine wpAny_Assign_Name (wp_w (h own σ s cv x e1) fun v s₁ h₁=>?_) hs
 have x₁:=x.ex h₁.1
 have nm : noM cv = true:=by
  unfold stF at e2
  split at e2
  ·rename_i q
   exact q.1
  ·cases e2
 exact wp_w (wp_storeF W x₁ hn (h₁.2.vr' nm) e2) fun J s₂ h₂=>SOut.trans x₁ (.of_ex h₁.1) (.refl _) .refl ⟨_,h₂.1,h₂.2.1.of_no,h₂.2.2.1,h₂.2.2.2,trivial⟩
noncomputable def Rfr (prog : Program) (w : World) (hT : Heap) (c : FC) (e : PySem.Expr) (m : List CV→Option CV) : Prop :=
 ∀ own σ s cv,SR hT c own σ s→m σ = some cv→wpAny (model prog w) c.A (eval e c.env) (fun v s'=>Ex s s'∧isM cv = true∧∃ l items n,s.heap.get? l = none∧IsL s'.heap l items n ∧
  OV (fun b=>FF c own b∨b = l) (fun J=>some l) s'.heap 0 cv v∧OC (fun b=>FF c own b∨b = l) s'.heap l cv) noE s
inductive GR (c : FC) (own : Nat→Option Addr) (h : Heap) : Nat→List CV→List Value→Prop
 | nil {t} : GR c own h t [] []
 | fro {t cv v cvs vs} : VR (FF c own) h cv v→GR c own h t cvs vs→GR c own h t (cv::cvs) (v::vs)
 | own {t l cv v cvs vs} : isM cv = true→own t = some l→OV (FF c own) own h t cv v→OC (FF c own) h l cv→GR c own h (t + 1) cvs vs→GR c own h t (cv::cvs) (v::vs)
noncomputable def Rg (prog : Program) (w : World) (hT : Heap) (c : FC) (es : List PySem.Expr) (m : List CV→Option (List CV)) : Prop :=
 ∀ pos own σ s cvs t,SR hT c own σ s→c.names.length≤t→(∀ j,t≤j→own j = none)→m σ = some cvs →
  wpAny (model prog w) c.A (spliced (backTo pos (starEach es c.env))) (fun (vs : List Value) s'=>∃ own',SR hT c own' σ s'∧Ex s s'∧(∀ j,j < t→own' j = own j)∧(∀ j a,own' j = some a→own j = some a∨s.heap.get? a = none)∧GR c own' s'.heap t cvs vs) noE s
theorem Rg.nil : Rg prog w hT c [] (fun J=>some []):=fun pos own σ s cvs t x J J e=>by
 cases e
 exact wpAny_items_nil ⟨own,x,.refl _,fun J J=>rfl,fun J J e=>.inl e,.nil⟩
theorem Rg.fro {a : PySem.Expr} {as : List PySem.Expr} {m : List CV→Option CV} {ms : List CV→Option (List CV)} (h : Rf prog w hT c a m) (hs : Rg prog w hT c as ms)
  (he : ∀ env,starEach (a::as) env = (false,eval a env)::starEach as env:=by intro _; rfl) :
  Rg prog w hT c (a::as) (fun σ=>(m σ).bind fun v=>if noM v = true then (ms σ).map (v::·) else none):=fun pos own σ s cvs t x ht hno e=>by
 refine bc fun hG=>?_
 refine oE e fun v e1 q__=>?_
 refine hG ?_
 clear hG
 clear e
 rename _=>e
 replace e:=ite_opt e
 obtain ⟨nm,e⟩:=e
 ·refine bc fun hG=>?_
  refine mE e fun vs e2 q__=>?_
  refine hG ?_
  clear hG
  clear e
  rename _=>e
  subst e
  refine wpAny_items_cons (wp_w (h own σ s v x e1) fun va s₁ h₁=>?_) (he _)
  have x₁:=x.ex h₁.1
  refine wp_w (hs pos own σ s₁ vs t x₁ ht hno e2) fun vas s₂ h₂=>?_
  refine bc fun hG=>?_
  obtain ⟨own',y1,y2,y3,y4,y5⟩:=h₂
  refine hG ?_
  clear hG
  refine ⟨own',y1,h₁.1.trans y2,y3,fun j b e=>?_,.fro ((h₁.2.vr' nm).move fun b o hf e=>⟨fun f=>?_,y2.kp.keep b o (fun q=>hf (q▸x.ft)) e⟩) y5⟩
  ·rcases y4 j b e with q | q
   ·exact .inl q
   ·right
    cases e' : s.heap.get? b with
    | none=>rfl
    | some o =>
     by_cases htb : b = tabA
     ·obtain ⟨ps,q'⟩:=x₁.tobj
      rw [htb,q'] at q; cases q
     ·rw [h₁.1.kp.keep b o htb e'] at q; cases q
  ·rcases f with f | f | f | ⟨j,f⟩
   ·exact hf (.inl f)
   ·exact hf (.inr (.inl f))
   ·exact hf (.inr (.inr (.inl f)))
   ·rcases y4 j b f with q | q
    ·exact hf (.inr (.inr (.inr ⟨j,q⟩)))
    ·rw [e] at q; cases q
theorem OV.re {F : Addr→Prop} {h : Heap} {i j : Nat} {cv : CV} {v : Value} (he : ∀ l,own i = some l→own' j = some l) (x : OV F own h i cv v) : OV F own' h j cv v:=by
 cases cv <;> first | exact x.elim | skip
 ·obtain ⟨a,e1,e2⟩:=x; exact ⟨a,e1,he _ e2⟩
 ·obtain ⟨a,d,l,hs,t,n,e1,e2,r⟩:=x; exact ⟨a,d,l,hs,t,n,e1,he _ e2,r⟩
theorem Rg.ow {a : PySem.Expr} {as : List PySem.Expr} {m : List CV→Option CV} {ms : List CV→Option (List CV)} (h : Rfr prog w hT c a m) (hs : Rg prog w hT c as ms)
  (he : ∀ env,starEach (a::as) env = (false,eval a env)::starEach as env:=by intro _; rfl) :
  Rg prog w hT c (a::as) (fun σ=>(m σ).bind fun v=>(ms σ).map (v::·)):=fun pos own σ s cvs t x ht hno e=>by
 refine bc fun hG=>?_
 refine oE e fun v e1 q__=>?_
 refine hG ?_
 clear hG
 clear e
 rename _=>e
 refine bc fun hG=>?_
 refine mE e fun vs e2 q__=>?_
 refine hG ?_
 clear hG
 clear e
 rename _=>e
 subst e
 refine wpAny_items_cons (wp_w (h own σ s v x e1) fun va s₁ h₁=>?_) (he _)
 refine bc fun hG=>?_
 obtain ⟨q1,q2,l,items,n,q3,q4,q5,q6⟩:=h₁
 refine hG ?_
 clear hG
 have x₁:=x.tmp q1 ht (hno t (Nat.le_refl _)) q3 q4
 refine wp_w (hs pos (tmpO own t l) σ s₁ vs (t + 1) x₁ (by exact Nat.le_add_right_of_le ht) (fun j hj=>by unfold tmpO; rw [if_neg (by exact Nat.ne_of_lt' hj)]; exact hno j (by exact Nat.le_of_succ_le hj)) e2) fun vas s₂ h₂=>?_
 refine bc fun hG=>?_
 obtain ⟨own',y1,y2,y3,y4,y5⟩:=h₂
 refine hG ?_
 clear hG
 have ot : own' t = some l:=by rw [y3 t (by exact Nat.lt_add_one t)]; unfold tmpO; rw [if_pos rfl]
 have alv : ∀ b o,s.heap.get? b = some o→b ≠ tabA→s₁.heap.get? b = some o:=fun b o e hb=>q1.kp.keep b o hb e
 have mv : ∀ b o,¬ (FF c own b∨b = l)→s₁.heap.get? b = some o→¬ FF c own' b∧s₂.heap.get? b = some o:=fun b o hf e=>by
  refine ⟨fun f=>?_,y2.kp.keep b o (fun q=>hf (.inl (q▸x.ft))) e⟩
  rcases f with f | f | f | ⟨j,f⟩
  ·exact hf (.inl (.inl f))
  ·exact hf (.inl (.inr (.inl f)))
  ·exact hf (.inl (.inr (.inr (.inl f))))
  ·rcases y4 j b f with q | q
   ·unfold tmpO at q
    split at q
    ·cases q; exact hf (.inr rfl)
    ·exact hf (.inl (.inr (.inr (.inr ⟨j,q⟩))))
   ·rw [e] at q; cases q
 refine ⟨own',y1,q1.trans y2,fun j hj=>?_,fun j b e=>?_,.own q2 ot ?_ ?_ y5⟩
 ·rw [y3 j (by exact Nat.lt_add_right 1 hj)]; unfold tmpO; rw [if_neg (by exact Nat.ne_of_lt hj)]
 ·rcases y4 j b e with q | q
  ·unfold tmpO at q
   split at q
   ·cases q; exact .inr q3
   ·exact .inl q
  ·right
   cases e' : s.heap.get? b with
   | none=>rfl
   | some o =>
    by_cases htb : b = tabA
    ·obtain ⟨ps,q'⟩:=x₁.tobj
     rw [htb,q'] at q; cases q
    ·rw [alv b o e' htb] at q; cases q
 ·exact (q5.move (own':=fun J=>some l) mv fun J e=>e).re fun l' e=>by cases e; exact ot
 ·exact q6.move mv fun o e=>y2.kp.keep l o (x₁.one (i:=t) (by unfold tmpO; rw [if_pos rfl])) e
end
noncomputable abbrev FC.x (c : FC) (X : Addr→Prop) : FC:={ c with X:=X }
noncomputable def FC.addI (c : FC) (I : Addr) : FC:=c.x fun a=>c.X a∨a = I
section
variable {prog : Program} {w : World} {hT : Heap} {c : FC} {own own' own'' : Nat→Option Addr} {σ σ' : List CV} {s s' s'' : Shared} {mg mb : Str→Option Value}
theorem wp_f {M : Model} {A : Around} {α : Type} {t : Sem α} {Q Q' : α→Shared→Prop} {E : Value→Shared→Prop} {s : Shared} (h : wpAny M A t Q noE s) (hq : ∀ a s',Q a s'→Q' a s') : wpAny M A t Q' E s :=
 wpAny_mono h hq fun J J x=>x.elim
theorem Wf.x (W : Wf c) (X : Addr→Prop) : Wf (c.x X):=⟨W.aok,W.fr,W.kind,W.gl,W.bu,W.nd⟩
theorem Ss.x {X : Addr→Prop} (k : Ss (c.x X) own s s') : Ss c own s s':=⟨k.os,k.gens,k.keep,k.tab,k.al⟩
theorem Ss.toX {X : Addr→Prop} (k : Ss c own s s') : Ss (c.x X) own s s':=⟨k.os,k.gens,k.keep,k.tab,k.al⟩
theorem SV.weakX {X : Addr→Prop} (hX : ∀ a,c.X a→X a) {h : Heap} {i : Nat} {cv : CV} {ov : Option Value} (x : SV (c.x X) own h i cv ov) : SV c own h i cv ov:=by
 have sub : ∀ a,FF c own a→FF (c.x X) own a:=fun a f=>f.elim (fun q=>.inl (hX a q)) .inr
 have mv : ∀ b o,¬ FF (c.x X) own b→h.get? b = some o→¬ FF c own b∧h.get? b = some o:=fun b o hf e=>⟨fun q=>hf (sub b q),e⟩
 cases cv <;> first | exact x | (obtain ⟨v,e1,e2⟩:=x; exact ⟨v,e1,e2.weak sub⟩) | skip
 all_goals
  refine bc fun hG=>?_
  obtain ⟨v,l,e1,e2,e3,e4⟩:=x
  refine hG ?_
  clear hG
  exact ⟨v,l,e1,e2.move mv fun J hl=>hl,e3,e4.move mv fun J e=>e⟩
theorem SV.strX {X : Addr→Prop} {h h' : Heap} {i : Nat} {cv : CV} {ov : Option Value} (mv : ∀ b o,¬ FF c own b→h.get? b = some o→¬ FF (c.x X) own b∧h'.get? b = some o)
  (ho : ∀ l,own i = some l→∀ o,h.get? l = some o→h'.get? l = some o) (x : SV c own h i cv ov) : SV (c.x X) own h' i cv ov:=by
 cases cv <;> first | exact x | (obtain ⟨v,e1,e2⟩:=x; exact ⟨v,e1,e2.move mv⟩) | skip
 all_goals
  refine bc fun hG=>?_
  obtain ⟨v,l,e1,e2,e3,e4⟩:=x
  refine hG ?_
  clear hG
  exact ⟨v,l,e1,e2.move mv fun J hl=>hl,e3,e4.move mv (ho l e3)⟩
theorem SR.dropX {X : Addr→Prop} (hX : ∀ a,c.X a→X a) (ht : c.X tabA) (x : SR hT (c.x X) own σ s) : SR hT c own σ s where
 top:=x.top
 top0:=x.top0
 pt:=x.pt
 pa:=x.pa
 os:=x.os
 gens:=x.gens
 kp:=x.kp
 tab:=x.tab
 tok:=x.tok
 xt:=ht
 xa:=fun a h=>x.xa a (hX a h)
 lf:=x.lf
 ns:=by obtain ⟨m,h1,h2⟩:=x.ns; exact ⟨m,h1,fun i y hy=>(h2 i y hy).weakX hX⟩
 cel:=fun i y hy=>by obtain ⟨a,ov,h1,h2,h3,h4⟩:=x.cel i y hy; exact ⟨a,ov,h1,h2,h3.weakX hX,h4⟩
 cinj:=x.cinj
 oinj:=x.oinj
 ofr:=fun i a e=>(x.ofr i a e).elim (fun q=>.inl ⟨q.1,fun q'=>q.2 (hX a q')⟩) .inr
 oal:=x.oal
theorem SR.addI (x : SR hT c own σ s) {I : Addr} (hI : s.heap.get? I = none) (hA : NF s'.heap I) (e : Ex s s') : SR hT (c.addI I) own σ s':=by
 have x':=x.ex e
 have hF:=x.fnew hI
 have mv : ∀ b o,¬ FF c own b→s.heap.get? b = some o→¬ FF (c.addI I) own b∧s'.heap.get? b = some o:=fun b o hf e'=>by
  refine ⟨fun f=>?_,e.kp.keep b o (fun q=>hf (q▸x.ft)) e'⟩
  rcases f with (f | f) | f
  ·exact hf (.inl f)
  ·rw [f,hI] at e'; cases e'
  ·exact hf (.inr f)
 have ho : ∀ i l,own i = some l→∀ o,s.heap.get? l = some o→s'.heap.get? l = some o:=fun i l hl o=>e.kp.keep l o (x.one hl)
 refine ⟨x'.top,x'.top0,x'.pt,x'.pa,x'.os,x'.gens,x'.kp,x'.tab,x'.tok,.inl x.xt,fun a h ht=>?_,x'.lf,?_,fun i y hy=>?_,x'.cinj,x'.oinj,fun i a e'=>?_,x'.oal⟩
 ·rcases h with h | h
  ·exact x'.xa a h ht
  ·rw [h]; exact hA
 ·obtain ⟨m,h1,h2⟩:=x.ns
  exact ⟨m,h1.at' fun o=>e.kp.keep _ o x.lne,fun i y hy=>(h2 i y hy).strX mv (ho i)⟩
 ·refine bc fun hG=>?_
  obtain ⟨b,ov,h1,h2,h3,h4⟩:=x.cel i y hy
  have hne:=x.cne h2
  obtain ⟨o,ho',hd⟩:=h2
  refine hG ?_
  clear hG
  exact ⟨b,ov,h1,⟨o,e.kp.keep b o hne ho',hd⟩,h3.strX mv (ho i),h4⟩
 ·rcases x.ofr i a e' with q | q
  ·refine .inl ⟨q.1,fun q'=>?_⟩
   rcases q' with q' | q'
   ·exact q.2 q'
   ·obtain ⟨items,n,hl⟩:=x.oal i a e'
    have hl' : s.heap.get? a = _:=hl
    rw [q',hI] at hl'; cases hl'
  ·exact .inr q
structure Off (c : FC) (own : Nat→Option Addr) (I : Addr) : Prop where
 nl : I ≠ c.env.locals
 nc : ∀ (i : Nat) y a,c.names[i]? = some (y,NameKind.cell)→c.env.cells.lookup y = some a→a ≠ I
 no : ∀ i l,own i = some l→l ≠ I
 nt : I ≠ tabA
 nd : I ≠ codA
 n0 : c.s0.heap.get? I = none
theorem SR.atI (x : SR hT c own σ s) {I : Addr} (hx : c.X I) (hm : Off c own I) {X : Addr→Prop} (hX : ∀ a,X a→c.X a) (hXt : X tabA) {h' : Heap} {tk : Nat} (hk : ∀ b o,b ≠ I→s.heap.get? b = some o→h'.get? b = some o) (hA : X I∨c.P I→NF h' I) :
  SR hT (c.x X) own σ { s with heap:=h',toks:=tk }:=by
 have hP:=hm.n0
 have ht:=hm.nt
 have hc:=hm.nd
 have hpT : hT.get? I = none:=by
  cases e : hT.get? I with
  | none=>rfl
  | some ob=>rw [x.top0.keep I ob ht e] at hP; cases hP
 have tab' : ∀ ps,TabOk s.heap ps→TabOk h' ps:=fun ps t=>by
  exact ⟨t.c.extBut hk (Ne.symm hc) (Ne.symm ht),t.t.extBut hk (Ne.symm hc) (Ne.symm ht),t.l.but (x.xa I hx ht) hk⟩
 have mv : ∀ b o,¬ FF c own b→s.heap.get? b = some o→¬ FF (c.x X) own b∧h'.get? b = some o:=fun b o hf e =>
  ⟨fun f=>hf (f.elim (fun q=>.inl (hX b q)) .inr),hk b o (fun q=>hf (q▸.inl hx)) e⟩
 have on:=hm.no
 have ho : ∀ i l,own i = some l→∀ o,s.heap.get? l = some o→h'.get? l = some o:=fun i l e o=>hk l o (on i l e)
 refine ⟨⟨fun b o hb e=>hk b o (fun q=>by rw [q,hpT] at e; cases e) (x.top.keep b o hb e),fun ps t=>?_⟩,x.top0,x.pt,fun a h=>⟨(x.pa a h).1,?_⟩,x.os,⟨x.gens.b,x.gens.k⟩,fun b o hp hb e=>hk b o (fun q=>by rw [q,hP] at e; cases e) (x.kp b o hp hb e),fun ps t=>?_,?_,hXt,fun a h hta=>?_,x.lf,?_,fun i y hy=>?_,x.cinj,x.oinj,fun i a e=>?_,fun i a e=>?_⟩
 ·obtain ⟨m,t'⟩:=x.top.tab ps t; exact ⟨m,tab' _ t'⟩
 ·by_cases hb : a = I
  ·rw [hb]; obtain ⟨o,e,_⟩:=hA (.inr (hb▸h)); exact ⟨o,e⟩
  ·obtain ⟨o,e⟩:=(x.pa a h).2; exact ⟨o,hk a o hb e⟩
 ·obtain ⟨m,t'⟩:=x.tab ps t; exact ⟨m,tab' _ t'⟩
 ·obtain ⟨ps,t⟩:=x.tok; exact ⟨ps,tab' _ t⟩
 ·by_cases hb : a = I
  ·rw [hb]; exact hA (.inl (hb▸h))
  ·exact (x.xa a (hX a h) hta).keeps fun o=>hk a o hb
 ·refine bc fun hG=>?_
  obtain ⟨m,h1,h2⟩:=x.ns
  refine hG ?_
  clear hG
  exact ⟨m,h1.at' fun o=>hk _ o (Ne.symm hm.nl),fun i y hy=>(h2 i y hy).strX mv (ho i)⟩
 ·refine bc fun hG=>?_
  obtain ⟨b,ov,h1,h2,h3,h4⟩:=x.cel i y hy
  refine hG ?_
  clear hG
  refine ⟨b,ov,h1,?_,h3.strX mv (ho i),h4⟩
  obtain ⟨o,ho',hd⟩:=h2
  exact ⟨o,hk b o (hm.nc i y b hy h1) ho',hd⟩
 ·exact (x.ofr i a e).elim (fun q=>.inl ⟨q.1,fun q'=>q.2 (hX a q')⟩) .inr
 ·obtain ⟨items,n,hl⟩:=x.oal i a e
  exact ⟨items,n,hk a _ (on i a e) hl⟩
end
noncomputable def owners : List String:=["enumerate","zip","dict_itemiterator","dict_reverseitemiterator","odict_iterator","itertools.zip_longest","itertools.pairwise","code"]
noncomputable def PIter (h : Heap) (I : Addr) : Prop:=∃ o n,h.get? I = some o∧o.cls = .type n∧owners.contains n = false
theorem PIter.nf {h : Heap} {I : Addr} (x : PIter h I) : NF h I:=by
 obtain ⟨o,n,e,e2,e3⟩:=x
 refine ⟨o,e,.inl fun q=>?_⟩
 rw [e2] at q; cases q; cases e3
noncomputable def Src (prog : Program) (w : World) (F : Addr→Prop) (fz : Bool) (s : Shared) (v : Value) (xs : List CV) : Prop :=
 ∀ (A : Around) (E : Value→Shared→Prop) (Q : Value→Shared→Prop),A.handled = none →
  (∀ (o : Obj) (fp : List Addr) (P : Nat→Value→Prop) (St : Nat→Heap→Prop),
   (∀ A' : Around,A'.handled = none→Walks prog w A' s.heap.objs.size fp [s.heap.objs.size] xs.length P St)→St 0 (s.heap.push o)→o.isFreed = false→(∀ i h,St i h→PIter h s.heap.objs.size) →
   (∀ b∈fp,b ≠ s.heap.objs.size→Al s.heap b∧b ≠ tabA∧(fz = true→¬ F b)) →
   (∀ i v,i < xs.length→P i v→∃ x,xs[i]? = some x∧VR F s.heap x v)→Q (.ref s.heap.objs.size) { s with heap:=s.heap.push o }) →
  wpAny (model prog w) A (pyIter v) Q E s
noncomputable def srcV : CV→Option (List CV)
 | .list vs=>some vs
 | .rng a b c=>if (c = 1∨c = -1)∧(-1000000≤a∧a≤1000000)∧(-1000000≤b∧b≤1000000) then some ((List.range (Builtin.Range.rangeSize a b c).toNat).map fun i : Nat=>.int (a + (i : Int) * c)) else none
 | .str x=>some (x.cps.toList.map fun n=>.str ⟨#[n]⟩)
 | _=>none
theorem srcV_noM {cv : CV} {xs : List CV} (h : srcV cv = some xs) : noM cv = true:=by cases cv <;> first | exact none_ne h | rfl
theorem VRs.get' {F : Addr→Prop} {h : Heap} {cs : List CV} {vs : List Value} (x : VRs F h cs vs) {i : Nat} {v : Value} (e : vs[i]? = some v) : ∃ c,cs[i]? = some c∧VR F h c v:=by
 have hl:=x.length
 refine bc fun hG=>?_
 obtain ⟨h1,_⟩:=List.getElem?_eq_some_iff.mp e
 obtain ⟨v',h2,h3⟩:=x.get (i:=i) (c:=cs[i]'(by exact Nat.lt_of_lt_of_eq h1 (id (Eq.symm hl)))) (by exact List.getElem?_eq_getElem (Nat.lt_of_lt_of_eq h1 (id (Eq.symm hl))))
 refine hG ?_
 clear hG
 rw [e] at h2; cases h2
 exact ⟨_,by exact List.getElem?_eq_getElem (Nat.lt_of_lt_of_eq h1 (id (Eq.symm hl))),h3⟩
section
variable {prog : Program} {w : World} {hT : Heap} {c : FC} {own own' own'' : Nat→Option Addr} {σ σ' : List CV} {s s' s'' : Shared} {mg mb : Str→Option Value}
theorem ER.rdX {cv cv' : CV} {v : Value} (x : SR hT c own σ s) (px : ∀ a,c.P a→¬ c.X a) (e : ER c own σ s.heap cv v) (r : Mine.rd σ cv = some cv') : VR c.X s.heap cv' v :=
 e.rdG (fun J q=>.inl q) (fun q=>(x.ofr _ _ q).elim (fun z=>z.2) (px _)) r
theorem Src.list {F : Addr→Prop} {fz : Bool} {a : Addr} {items : Array Value} {n : Nat} {vs : List CV} (hl : IsL s.heap a items n) (hv : VRs F s.heap vs items.toList) (ht : a ≠ tabA) (hf : fz = true→¬ F a) : Src prog w F fz s (.ref a) vs:=by
 intro A E Q hh h
 have hne : a ≠ s.heap.objs.size:=Nat.ne_of_lt (Heap.lt_size hl)
 have hlen : vs.length = items.size:=by exact VRs.sz hv
 refine wpAny_pyIter_list hl.isList (h _ _ _ _ (fun A' hA=>hlen▸Walks.list hA _ a hne items) ⟨⟨_,Heap.get?_push_size _ rfl,rfl,rfl⟩,(hl.push _).isList⟩ rfl (fun i h q=>?_) (fun b hb hb'=>?_) fun i v J e=>hv.get' (by simpa using e))
 ·obtain ⟨⟨o,q,q2,_⟩,_⟩:=q; exact ⟨o,_,q,q2,by decide⟩
 simp at hb
 rcases hb with rfl | rfl
 ·exact absurd rfl hb'
 ·exact ⟨⟨_,hl⟩,ht,hf⟩
theorem rng_sz {x y z : Int} (hz : z = 1∨z = -1) (hx : -1000000≤x∧x≤1000000) (hy : -1000000≤y∧y≤1000000) : 0≤Builtin.Range.rangeSize x y z∧Builtin.Range.rangeSize x y z≤2000000:=by
 unfold Builtin.Range.rangeSize
 rcases hz with rfl | rfl <;> simp <;> split <;> lia
set_option tactic.hygienic true in
theorem Src.of {F : Addr→Prop} {cv : CV} {v : Value} {xs : List CV} (hF : F tabA) (x : VR F s.heap cv v) (e : srcV cv = some xs) : Src prog w F true s v xs:=by
 cases x <;> first | exact none_ne e | skip
 case str y t =>
  cases e
  intro A E Q hh h
  have hS : ∀ i v,SignAt y i v→∃ x,(y.cps.toList.map fun n=>CV.str ⟨#[n]⟩)[i]? = some x∧VR F s.heap x v:=fun i v hp=>by
   refine bc fun hG=>?_
   obtain ⟨k,u,h1,rfl⟩:=hp
   refine hG ?_
   clear hG
   exact ⟨.str ⟨#[k]⟩,by simp [h1],.str _ _⟩
  cases ha : y.cps.all (· < 128)
  ·refine wpAny_pyIter_wide ha (h _ [s.heap.objs.size] (SignAt y) (fun i h=>h.IsStrIter s.heap.objs.size "str_iterator" y t i) (fun A' hA=>by simpa using Walks.strWide hA _ y t) ⟨_,Heap.get?_push_size _ rfl,rfl,rfl⟩ rfl (fun i h q=>?_) (fun b hb hb'=>absurd (by simpa using hb) hb') fun i v J hp=>hS i v hp)
   obtain ⟨o,q,q2,_⟩:=q; exact ⟨o,_,q,q2,by decide⟩
  ·refine wpAny_pyIter_ascii ha (h _ [s.heap.objs.size] (SignAt y) (fun i h=>h.IsStrIter s.heap.objs.size "str_ascii_iterator" y t i) (fun A' hA=>by simpa using Walks.strAscii hA _ y t) ⟨_,Heap.get?_push_size _ rfl,rfl,rfl⟩ rfl (fun i h q=>?_) (fun b hb hb'=>absurd (by simpa using hb) hb') fun i v J hp=>hS i v hp)
   obtain ⟨o,q,q2,_⟩:=q; exact ⟨o,_,q,q2,by decide⟩
 case rng a x y z t u v hf hr =>
  simp only [srcV] at e
  replace e:=ite_opt e
  obtain ⟨hc,e⟩:=e
  ·cases e
   intro A E Q hh h
   refine bc fun hG=>?_
   obtain ⟨hz,hx,hy⟩:=hc
   obtain ⟨hsz0,hsz⟩:=rng_sz hz hx hy
   refine hG ?_
   clear hG
   refine wpAny_pyIter_range hr ?_ (h _ [s.heap.objs.size] _ _ (fun A' hA=>by rw [List.length_map,List.length_range]; exact Walks.range hA _ x z (Builtin.Range.rangeSize x y z).toNat) ?_ rfl (fun i h q=>?_) (fun b hb hb'=>absurd (by simpa using hb) hb') fun i v hi hp=>?_)
   ·unfold Builtin.Range.small Builtin.Range.rangeFitsLong
    rcases hz with rfl | rfl <;> simp <;> lia
   ·show IsRangeIter _ _ (x + ((0 : Nat) : Int) * z) (((Builtin.Range.rangeSize x y z).toNat : Int) - ((0 : Nat) : Int)) z
    rw [Int.toNat_of_nonneg hsz0,Int.natCast_zero,Int.zero_mul,Int.add_zero,Int.sub_zero]
    exact Heap.get?_push_size _ rfl
   ·exact ⟨_,_,q,rfl,by decide⟩
   ·obtain ⟨t,rfl⟩:=hp
    simp only [List.length_map,List.length_range] at hi
    exact ⟨.int (x + (i : Int) * z),by simp [hi],.int _ _⟩
 case list a vs items n hf hl hz hv=>cases e; exact .list hl hv (fun q=>hf (q▸hF)) fun J=>hf
noncomputable def loopM (mb : CM) (k : List CV→Option (CF × List CV)) (σ : List CV) : Option (CF × List CV):=(mb σ).bind fun p=>match p.1 with
 | .next=>k p.2
 | .brk=>some (.next,p.2)
 | .ret v=>some (.ret v,p.2)
noncomputable def forM (i : Nat) (mb : CM) : List CV→CM
 | [],σ=>some (.next,σ)
 | x::xs,σ=>(stF i x σ).bind (loopM mb (forM i mb xs))
noncomputable def whileM (mt : List CV→Option Bool) (mb : CM) : Nat→CM
 | 0,_=>none
 | n + 1,σ=>(mt σ).bind fun b=>if b then loopM mb (whileM mt mb n) σ else some (.next,σ)
noncomputable def retM (m : List CV→Option CV) : CM:=fun σ=>(m σ).bind fun a=>(rd σ a).map fun v=>(.ret v,σ)
noncomputable def ifM (mt : List CV→Option Bool) (m1 m2 : CM) : CM:=fun σ=>(mt σ).bind fun b=>if b then m1 σ else m2 σ
theorem Rs.ret {e : PySem.Expr} {pos : Pos} {m : List CV→Option CV} (h : Rf prog w hT c e m) (px : ∀ a,c.P a→¬ c.X a) :
  Rs prog w hT c (.Return (some e) pos) (retM m):=fun own σ s f σ' x e'=>by
 refine bc fun hG=>?_
 refine oE e' fun a e1 q__=>?_
 refine hG ?_
 clear hG
 clear e'
 rename _=>e'
 refine bc fun hG=>?_
 refine mE e' fun v e2 q__=>?_
 refine hG ?_
 clear hG
 clear e'
 rename _=>e'
 cases e'
 refine wpAny_Return_some (wp_w (h own σ s a x e1) fun va s₁ h₁=>⟨own,x.ex h₁.1,.of_ex h₁.1,.refl _,.refl,?_⟩)
 exact h₁.2.rdX (x.ex h₁.1) px e2
theorem Rs.brk {pos : Pos} : Rs prog w hT c (.Break pos) (fun σ=>some (.brk,σ)):=fun own σ s f σ' x e'=>by
 cases e'
 exact wpAny_Break ⟨own,x,.refl _,.refl _,.refl,trivial⟩
theorem Rs.ifS {t : PySem.Expr} {b1 b2 : List Stmt} {pos : Pos} {mt : List CV→Option Bool} {m1 m2 : CM} (ht : Rt prog w hT c t mt) (h1 : Rss prog w hT c b1 m1) (h2 : Rss prog w hT c b2 m2) :
  Rs prog w hT c (.If t b1 b2 pos) (ifM mt m1 m2):=fun own σ s f σ' x e'=>by
 refine bc fun hG=>?_
 revert e'
 refine oR fun b e1 e'=>?_
 refine hG ?_
 clear hG
 refine wpAny_If (wp_w (ht own σ s b x e1) fun v s₁ h₁=>?_)
 refine bc fun hG=>?_
 obtain ⟨q,rfl⟩:=h₁
 refine hG ?_
 clear hG
 cases v
 ·exact wp_w (h2 own σ s₁ f σ' (x.ex q) e') fun fl s₂ y=>SOut.trans (x.ex q) (.of_ex q) (.refl _) .refl y
 ·exact wp_w (h1 own σ s₁ f σ' (x.ex q) e') fun fl s₂ y=>SOut.trans (x.ex q) (.of_ex q) (.refl _) .refl y
theorem SOut.done {X : Addr→Prop} {own6 : Nat→Option Addr} {σ3 : List CV} {res : CF × List CV} (hX : ∀ z,c.X z→X z) (xt : c.X tabA) (x6 : SR hT (c.x X) own6 σ3 s') (K : Ss c own s s') (LL : OwnLe own own6 s.heap) (Pp : OwnKp own own6 σ σ3) (e : some (CF.next,σ3) = some res) : SOut hT c own σ s res.1 res.2 .next s':=by
 cases e; exact ⟨own6,x6.dropX hX xt,K,LL,Pp,trivial⟩
theorem SOut.turn {X : Addr→Prop} {own6 : Nat→Option Addr} {f3 : CF} {σ3 : List CV} {fl : Flow} {res : CF × List CV} {rest : List CV→Option (CF × List CV)} {I : Prop} (hX : ∀ z,c.X z→X z) (xt : c.X tabA) (x6 : SR hT (c.x X) own6 σ3 s') (K : Ss c own s s') (LL : OwnLe own own6 s.heap) (Pp : OwnKp own own6 σ σ3) (r6 : FRel (c.x X) s'.heap f3 fl)
  (e : loopM (fun J=>some (f3,σ3)) rest σ3 = some res) (h : rest σ3 = some res→I) : match (generalizing:=false) fl with
   | .next | .cont=>I
   | .brk=>SOut hT c own σ s res.1 res.2 .next s'
   | .ret v=>SOut hT c own σ s res.1 res.2 (.ret v) s':=by
 cases f3 with
 | next=>cases fl <;> first | exact r6.elim | exact h e
 | brk=>cases fl <;> first | exact r6.elim | exact SOut.done hX xt x6 K LL Pp e
 | ret cv=>cases fl <;> first | exact r6.elim | (cases e; exact ⟨own6,x6.dropX hX xt,K,LL,Pp,VR.weak hX r6⟩)
theorem Rs.whl {t : PySem.Expr} {b : List Stmt} {pos : Pos} {mt : List CV→Option Bool} {mb : CM} (n : Nat) (ht : Rt prog w hT c t mt) (hb : Rss prog w hT c b mb) :
  Rs prog w hT c (.While t b [] pos) (whileM mt mb n):=fun own σ s f σ' x e'=>by
 refine wpAny_While (codeAny_whileLoop (fun k s'=>∃ own1 σ1,SR hT c own1 σ1 s'∧Ss c own s s'∧OwnLe own own1 s.heap∧OwnKp own own1 σ σ1∧whileM mt mb k σ1 = some (f,σ')) ?_ n ⟨own,σ,x,.refl _,.refl _,.refl,e'⟩)
 rintro k s1 qq2
 refine bc fun hG=>?_
 obtain ⟨own1,σ1,x1,k1,l1,p1,e1⟩:=qq2
 refine hG ?_
 clear hG
 cases k with
 | zero=>cases e1
 | succ k =>
  refine bc fun hG=>?_
  refine oE e1 fun b e2 q__=>?_
  refine hG ?_
  clear hG
  clear e1
  rename _=>e1
  refine wp_f (ht own1 σ1 s1 b x1 e2) fun v s2 h2=>?_
  refine bc fun hG=>?_
  obtain ⟨q,rfl⟩:=h2
  refine hG ?_
  clear hG
  cases v
  ·exact wpAny_execs_nil (SOut.done (X:=c.X) (fun J q=>q) x1.xt (x1.ex q) (k1.trans l1 (.of_ex q)) l1 p1 e1)
  ·refine bc fun hG=>?_
   obtain ⟨⟨f3,σ3⟩,e3,q__⟩:=oB e1
   refine hG ?_
   clear hG
   clear e1
   rename _=>e1
   refine wp_f (hb own1 σ1 s2 f3 σ3 (x1.ex q) e3) fun fl s3 y=>?_
   refine bc fun hG=>?_
   obtain ⟨own3,x3,k3,l3,p3,r3⟩:=SOut.trans x1 k1 l1 p1 (SOut.trans (x1.ex q) (.of_ex q) (.refl _) .refl y)
   refine hG ?_
   clear hG
   exact SOut.turn (X:=c.X) (fun J q=>q) x1.xt x3 k3 l3 p3 r3 e1 fun e=>⟨k,Nat.lt_succ_self _,own3,σ3,x3,k3,l3,p3,e⟩
end
section
variable {prog : Program} {w : World} {hT : Heap} {c : FC} {own own' own'' : Nat→Option Addr} {σ σ' : List CV} {s s' s'' : Shared} {mg mb : Str→Option Value}
theorem SR.offNew (x : SR hT c own σ s) {I : Addr} (hI : s.heap.get? I = none) : Off c own I where
 nl:=fun e=>by obtain ⟨m,⟨o,_,_,ho,_⟩,_⟩:=x.ns; rw [← e,hI] at ho; cases ho
 nc:=fun i y a hy hl e=>by obtain ⟨a',ov,h1,⟨o,ho,_⟩,_⟩:=x.cel i y hy; rw [hl] at h1; cases h1; rw [e,hI] at ho; cases ho
 no:=fun i l hl e=>by obtain ⟨items,n,h⟩:=x.oal i l hl; rw [e] at h; rw [show s.heap.get? I = _ from h] at hI; cases hI
 nt:=fun e=>by obtain ⟨ps,h⟩:=x.tobj; rw [e,h] at hI; cases hI
 nd:=fun e=>by obtain ⟨ps,⟨_,⟨⟨o,vs,h,_⟩,_⟩,_⟩⟩:=x.tok; rw [e,h] at hI; cases hI
 n0:=by
  cases e : c.s0.heap.get? I with
  | none=>rfl
  | some o =>
   by_cases ht : I = tabA
   ·obtain ⟨ps,h⟩:=x.tobj; rw [ht,h] at hI; cases hI
   ·by_cases hp : c.P I
    ·obtain ⟨o',ho'⟩:=(x.pa I hp).2
     rw [hI] at ho'; cases ho'
    ·rw [x.kp I o hp ht e] at hI; cases hI
theorem Off.le {I : Addr} (o : Off c own I) {h : Heap} (l : OwnLe own own' h) (hA : Al h I) : Off c own' I :=
 ⟨o.nl,o.nc,fun i b e q=>(l i b e).elim (fun ⟨j,r⟩=>o.no j b r q) fun r=>(by obtain ⟨ob,hob⟩:=hA; rw [q,hob] at r; cases r),o.nt,o.nd,o.n0⟩
theorem alongV {I : Addr} (x : SR hT c own σ s) (hI : s.heap.get? I = none) (k : Ss c own s s') (l : OwnLe own own' s.heap) {cv : CV} {v : Value} (hv : VR (FF c own) s.heap cv v) : VR (FF (c.addI I) own') s'.heap cv v:=by
 refine hv.move fun b o hf e=>⟨fun f=>?_,k.keep b o (fun m=>hf (.inr m)) (fun q=>hf (q▸x.ft)) e⟩
 rcases f with (f | f) | f | f | ⟨i,f⟩
 ·exact hf (.inl f)
 ·rw [f,hI] at e; cases e
 ·exact hf (.inr (.inl f))
 ·exact hf (.inr (.inr (.inl f)))
 ·rcases l i b f with ⟨j,r⟩ | r
  ·exact hf (.inr (.inr (.inr ⟨j,r⟩)))
  ·rw [e] at r; cases r
theorem Ss.thenI {I : Addr} (k : Ss c own s s') (hI : s.heap.get? I = none) (nt : I ≠ tabA) (nd : I ≠ codA) (nf : NF s'.heap I) {h' : Heap} {tk : Nat} (hk : ∀ b o,b ≠ I→s'.heap.get? b = some o→h'.get? b = some o) : Ss c own s { s' with heap:=h',toks:=tk } where
 os:=k.os
 gens:=⟨k.gens.b,k.gens.k⟩
 keep:=fun b o hm ht e=>hk b o (fun q=>by rw [q,hI] at e; cases e) (k.keep b o hm ht e)
 tab:=fun ps t=>by
  obtain ⟨m,t⟩:=k.tab ps t
  exact ⟨m,t.c.extBut hk (Ne.symm nd) (Ne.symm nt),t.t.extBut hk (Ne.symm nd) (Ne.symm nt),t.l.but nf hk⟩
 al:=fun b ht ⟨o,e⟩=>by
  obtain ⟨o',e'⟩:=k.al b ht ⟨o,e⟩
  exact ⟨o',hk b o' (fun q=>by rw [q,hI] at e; cases e) e'⟩
noncomputable def forS (i : Nat) (mi : List CV→Option CV) (mb : CM) : CM:=fun σ=>(mi σ).bind fun v=>(srcV v).bind fun xs=>forM i mb xs σ
end
section
variable {prog : Program} {w : World} {A : Around} {E : Value→Shared→Prop} {s : Shared}
theorem setItemL {l : Addr} {items : Array Value} {n : Nat} {k : Int} {t : Tok} {v : Value} {j : Nat} {Q : Unit→Shared→Prop} (hl : IsL s.heap l items n)
  (h1 : -(items.size : Int)≤k) (h2 : k < items.size) (hz : items.size≤4096) (hj : j = if 0≤k then k.toNat else (k + items.size).toNat)
  (hQ : ∀ h' n',IsL h' l (items.setIfInBounds j v) n'→Heap.SameBut l s.heap h'→Q () { s with heap:=h' }) :
  wpAny (model prog w) A (setItem (.ref l) (.int k t) v) Q E s:=by
 have hL:=hl.isList
 unfold setItem
 try with_reducible refine wpAny_holding ?_
 first | refine wpAny_bind (wpAny_pure ?_) | skip
 refine wpAny_bind (wpAny_sequenceKey hL.typeIs (by decide) ?_)
 refine wpAny_bind (wpAny_callSpecial?_slot (name:=Str.ofString "__setitem__") hL.typeIs slot_list_setitem
  (wpAny_call_entry slot_list_setitem hL.typeIs entry_list_setitem ?_ (args_list_setitem _ _ _)))
 show wpAny _ _ (Builtin.List.listSubscript? (.int k t) >>= _) _ _ s
 have fin : wpAny (model prog w) A.in1 (setSeqItemAt l j v >>= fun J=>ret .none) (fun fin s'=>∃ v,fin = .done (.ret v)∧wpAny (model prog w) A (pure ()) Q E s') E s:=by
  refine wpAny_bind (wpAny_setSeqItemAt hl rfl ?_)
  exact wpAny_pure ⟨.none,rfl,wpAny_pure (hQ _ _ (hl.update _) (Heap.SameBut.update ..))⟩
 by_cases h0 : 0≤k
 ·rw [if_pos h0] at hj
  refine wpAny_bind (wpAny_listSubscript_int (fitsIndex_of h0 (by lia)) ?_)
  refine bc fun hG=>?_
  obtain ⟨q,rfl⟩:=Int.eq_ofNat_of_zero_le h0
  refine hG ?_
  clear hG
  have hq : q < items.size:=by exact Int.ofNat_lt.mp h2
  have hjq : j = q:=by rw [hj]; rfl
  subst hjq
  show wpAny _ _ ((seqItemAt l j >>= fun r=>pure (r.map (j,·))) >>= _) _ _ s
  refine wpAny_bind (wpAny_bind (wpAny_seqItemAt hl rfl (wpAny_pure ?_)))
  rw [Array.getElem?_eq_getElem hq]
  show wpAny _ _ (setSeqItemAt l j v >>= _) _ _ s
  refine wpAny_bind (wpAny_setSeqItemAt hl rfl ?_)
  first
   | exact wpAny_bind (wpAny_pure (wpAny_pure ⟨.none,rfl,wpAny_pure (hQ _ _ (hl.update _) (Heap.SameBut.update ..))⟩))
   | exact wpAny_pure ⟨.none,rfl,wpAny_pure (hQ _ _ (hl.update _) (Heap.SameBut.update ..))⟩
 ·rw [if_neg h0] at hj
  have h0 : k < 0:=by exact Int.lt_of_not_ge h0
  refine wpAny_bind (wpAny_listSubscript_int (fitsIndex_neg h0 (by lia)) ?_)
  have hidx:=seqIndex_neg h0 h1
  have hq : (k + items.size).toNat < items.size:=by exact lt_of_seqIndex hidx
  subst hj
  obtain ⟨j,rfl⟩ : ∃ j : Nat,k = Int.negSucc j:=by
   cases k with
   | ofNat n=>exact absurd h0 (Int.not_lt.mpr (Int.natCast_nonneg n))
   | negSucc n=>exact ⟨n,rfl⟩
  show wpAny _ _ ((Builtin.List.listItems (.ref l) >>= fun xs=>pure ((seqIndex? (Int.negSucc j) xs.size).bind fun i=>xs[i]?.map (i,·))) >>= _) _ _ s
  refine wpAny_bind (wpAny_bind ?_)
  show wpAny _ _ (seqItems? (.ref l) >>= _) _ _ s
  refine wpAny_bind (wpAny_seqItems hl rfl (wpAny_pure (wpAny_pure ?_)))
  rw [hidx,Option.bind_some,Array.getElem?_eq_getElem hq]
  show wpAny _ _ (setSeqItemAt l _ v >>= _) _ _ s
  refine wpAny_bind (wpAny_setSeqItemAt hl rfl ?_)
  first
   | exact wpAny_bind (wpAny_pure (wpAny_pure ⟨.none,rfl,wpAny_pure (hQ _ _ (hl.update _) (Heap.SameBut.update ..))⟩))
   | exact wpAny_pure ⟨.none,rfl,wpAny_pure (hQ _ _ (hl.update _) (Heap.SameBut.update ..))⟩
end
noncomputable def kindM : CV→Nat
 | .mlist _=>1
 | .mhdr _=>2
 | _=>0
theorem isM_eq {cv : CV} (h : isM cv = true) : (∃ vs,cv = .mlist vs)∨∃ its,cv = .mhdr its:=by
 cases cv <;> first | exact ff h | exact .inl ⟨_,rfl⟩ | exact .inr ⟨_,rfl⟩
theorem isM_of {cv : CV} : isM cv = (kindM cv != 0):=by cases cv <;> rfl
theorem isM_kind {cv cv' : CV} (hM : isM cv = true) (hk : kindM cv = kindM cv') : isM cv' = true:=by
 rw [isM_of] at hM ⊢; rw [← hk]; exact hM
section
variable {prog : Program} {w : World} {hT : Heap} {c : FC} {own own' own'' : Nat→Option Addr} {σ σ' : List CV} {s s' s'' : Shared} {mg mb : Str→Option Value}
theorem OV.kind {F : Addr→Prop} {h : Heap} {i : Nat} {cv cv' : CV} {v : Value} (hk : kindM cv = kindM cv') (x : OV F own h i cv v) : OV F own h i cv' v:=by
 have hM : isM cv = true:=by cases cv <;> first | rfl | exact x.elim
 rcases isM_eq hM with ⟨vs,rfl⟩ | ⟨its,rfl⟩
 ·rcases isM_eq (isM_kind hM hk) with ⟨vs',rfl⟩ | ⟨its,rfl⟩
  ·exact x
  ·cases hk
 ·rcases isM_eq (isM_kind hM hk) with ⟨vs',rfl⟩ | ⟨its',rfl⟩
  ·cases hk
  ·exact x
theorem SV.ofM {h : Heap} {i : Nat} {cv : CV} {ov : Option Value} (hM : isM cv = true) (x : SV c own h i cv ov) : ∃ v l,ov = some v∧OV (FF c own) own h i cv v∧own i = some l∧OC (FF c own) h l cv:=by
 cases cv <;> first | exact x | cases hM
theorem SV.moveN {c c' : FC} {own own' : Nat→Option Addr} {h h' : Heap} {i j : Nat} {cv : CV} {ov : Option Value} (hM : isM cv = false) (mv : ∀ b o,¬ FF c own b→h.get? b = some o→¬ FF c' own' b∧h'.get? b = some o) (x : SV c own h i cv ov) : SV c' own' h' j cv ov:=by
 cases cv <;> first | exact ff hM.symm | exact x | (obtain ⟨v,e1,e2⟩:=x; exact ⟨v,e1,e2.move mv⟩)
theorem SV.toM {h : Heap} {i : Nat} {cv : CV} {v : Value} {l : Addr} (h1 : OV (FF c own) own h i cv v) (h2 : own i = some l) (h3 : OC (FF c own) h l cv) : SV c own h i cv (some v):=by
 cases cv <;> first | exact h1.elim | exact ⟨v,l,rfl,h1,h2,h3⟩
theorem SR.mutL (x : SR hT c own σ s) {i : Nat} {l : Addr} {cv' : CV} {h' : Heap} {tk : Nat} (ho : own i = some l) (hi : i < σ.length) (hM : isM (σ.getD i .unb) = true) (hk : kindM (σ.getD i .unb) = kindM cv')
  (hsb : Heap.SameBut l s.heap h') (hc : OC (FF c own) h' l cv') (hil : ∃ items n,IsL h' l items n) :
  SR hT c own (σ.set i cv') { s with heap:=h',toks:=tk }∧Ss c own s { s with heap:=h',toks:=tk }∧OwnKp own own σ (σ.set i cv'):=by
 have lt:=x.one ho
 have lnl:=x.onl ho
 have hF : FF c own l:=.inr (.inr (.inr ⟨i,ho⟩))
 have keep : ∀ b o,b ≠ l→s.heap.get? b = some o→h'.get? b = some o:=fun b o hb e=>(hsb.2 b hb).trans e
 have al : ∀ b,Al s.heap b→Al h' b:=fun b ⟨o,e⟩=>by
  by_cases hb : b = l
  ·obtain ⟨it,n,h⟩:=hil; exact ⟨_,hb▸h⟩
  ·exact ⟨o,keep b o hb e⟩
 have nfk : ∀ b,NF s.heap b→NF h' b:=fun b ⟨o,e,r⟩=>by
  by_cases hb : b = l
  ·obtain ⟨it,n,h⟩:=hil; exact ⟨_,hb▸h,.inr fun vs e=>by cases e⟩
  ·exact ⟨o,keep b o hb e,r⟩
 have hcd : codA ≠ l:=fun q=>by
  obtain ⟨ps,_,⟨⟨o,vs,e1,_,e3,_⟩,_⟩,_⟩:=x.tok
  obtain ⟨it,n,h⟩:=x.oal i l ho
  rw [q,show s.heap.get? l = _ from h] at e1; cases e1; cases e3
 have tab' : ∀ ps,TabOk s.heap ps→TabOk h' ps:=fun ps t=>⟨t.c.sameBut hsb hcd (Ne.symm lt),t.t.sameBut hsb hcd (Ne.symm lt),t.l.but (by obtain ⟨it,n,h⟩:=x.oal i l ho; exact ⟨_,h,.inr fun vs e=>by cases e⟩) keep⟩
 have lP : c.s0.heap.get? l = none∨c.P l:=(x.ofr i l ho).elim (fun q=>.inl q.1) .inr
 have lT : hT.get? l = none:=by
  rcases lP with q | q
  ·cases e : hT.get? l with
   | none=>rfl
   | some o=>rw [x.top0.keep l o lt e] at q; cases q
  ·exact x.pt l q
 have mv : ∀ b o,¬ FF c own b→s.heap.get? b = some o→¬ FF c own b∧h'.get? b = some o:=fun b o hf e=>⟨hf,keep b o (fun q=>hf (q▸hF)) e⟩
 have oth : ∀ (j : Nat) (ov : Option Value),SV c own s.heap j (σ.getD j .unb) ov→SV c own h' j ((σ.set i cv').getD j .unb) ov:=fun j ov sv=>by
  by_cases hj : j = i
  ·subst hj
   rw [getD_set_self hi]
   refine bc fun hG=>?_
   obtain ⟨v,l',e1,e2,e3,e4⟩:=sv.ofM hM
   refine hG ?_
   clear hG
   subst e1
   rw [ho] at e3; cases e3
   exact .toM ((e2.move mv fun J e=>e).kind hk) ho hc
  ·rw [getD_set_ne hj]
   exact sv.step mv fun l' hl'=>⟨hl',fun o e=>keep l' o (fun q=>hj (x.oinj j i l (q▸hl') ho)) e⟩
 have kM : isM cv' = true:=isM_kind hM hk
 refine ⟨⟨⟨fun b o hb e=>keep b o (fun q=>by rw [q,lT] at e; cases e) (x.top.keep b o hb e),fun ps t=>?_⟩,x.top0,x.pt,fun a h=>⟨(x.pa a h).1,al a (x.pa a h).2⟩,x.os,⟨x.gens.b,x.gens.k⟩,fun b o hp hb e=>keep b o (fun q=>?_) (x.kp b o hp hb e),fun ps t=>?_,?_,x.xt,fun a h ht=>nfk a (x.xa a h ht),x.lf,?_,fun j y hy=>?_,x.cinj,x.oinj,x.ofr,fun j a e=>?_⟩,
  ⟨rfl,.same rfl,fun b o hm J e=>keep b o (fun q=>hm (q▸.inr (.inr ⟨i,ho⟩))) e,fun ps t=>⟨#[],by rw [Array.append_empty]; exact tab' ps t⟩,fun b J=>al b⟩,fun j hj=>⟨rfl,?_⟩⟩
 ·obtain ⟨m,t'⟩:=x.top.tab ps t; exact ⟨m,tab' _ t'⟩
 ·rcases lP with r | r
  ·rw [q,r] at e; cases e
  ·exact hp (q▸r)
 ·obtain ⟨m,t'⟩:=x.tab ps t; exact ⟨m,tab' _ t'⟩
 ·obtain ⟨ps,t⟩:=x.tok; exact ⟨ps,tab' _ t⟩
 ·obtain ⟨m,h1,h2⟩:=x.ns
  exact ⟨m,h1.at' fun o=>keep _ o (Ne.symm lnl),fun j y hy=>oth j _ (h2 j y hy)⟩
 ·refine bc fun hG=>?_
  obtain ⟨b,ov,h1,h2,h3,h4⟩:=x.cel j y hy
  have hbl:=x.cno h2 ho
  obtain ⟨o,ho',hd⟩:=h2
  refine hG ?_
  clear hG
  exact ⟨b,ov,h1,⟨o,keep b o hbl ho',hd⟩,oth j _ h3,h4⟩
 ·by_cases hb : a = l
  ·obtain ⟨it,n,h⟩:=hil; exact ⟨it,n,hb▸h⟩
  ·obtain ⟨it,n,h⟩:=x.oal j a e; exact ⟨it,n,keep a _ hb h⟩
 ·by_cases hji : j = i
  ·subst hji; rw [getD_set_self hi]; exact kM
  ·rw [getD_set_ne hji]; exact hj
end
section
variable {prog : Program} {w : World} {hT : Heap} {c : FC} {own own' own'' : Nat→Option Addr} {σ σ' : List CV} {s s' s'' : Shared} {mg mb : Str→Option Value}
theorem Wf.inter (W : Wf c) : interactive c.env = false:=by
 unfold interactive; rw [W.kind]; rfl
noncomputable def ml? : CV→Option (List CV)
 | .mlist vs=>some vs
 | _=>none
theorem ml_eq {cv : CV} {vs : List CV} (h : ml? cv = some vs) : cv = .mlist vs:=by cases cv <;> first | exact none_ne h | exact congrArg CV.mlist (Option.some.inj h)
theorem lt_of_isM {i : Nat} (h : isM (σ.getD i .unb) = true) : i < σ.length:=by
 rcases Nat.lt_or_ge i σ.length with q | q
 ·exact q
 ·rw [List.getD_eq_getElem?_getD,List.getElem?_eq_none q] at h; cases h
theorem SR.ml (_x : SR hT c own σ s) {i : Nat} {cv : CV} {v : Value} {vs : List CV} (e : ml? (σ.getD i .unb) = some vs) (n : nm i σ = some cv) (r : ER c own σ s.heap cv v) :
  ∃ l items k,v = .ref l∧own i = some l∧IsL s.heap l items k∧items.size≤4096∧VRs (FF c own) s.heap vs items.toList:=by
 have hz:=ml_eq e
 unfold nm at n
 rw [hz] at n; cases n
 obtain ⟨_,q⟩:=r
 rw [hz] at q
 refine bc fun hG=>?_
 obtain ⟨v',l,e1,⟨a,e2,e3⟩,e4,k,items,h1,h2,h3⟩:=q
 refine hG ?_
 clear hG
 cases e1; subst e2
 rw [e3] at e4; cases e4
 exact ⟨_,items,k,rfl,e3,h1,h2,h3⟩
theorem SR.ml' (x : SR hT c own σ s) {i : Nat} {vs : List CV} {y : Str} (hn : c.names[i]? = some (y,.local)∨c.names[i]? = some (y,.cell)) (e : ml? (σ.getD i .unb) = some vs) :
  ∃ l items k,own i = some l∧IsL s.heap l items k∧items.size≤4096∧VRs (FF c own) s.heap vs items.toList:=by
 refine bc fun hG=>?_
 obtain ⟨ov,sv⟩:=x.slot hn
 refine hG ?_
 clear hG
 rw [ml_eq e] at sv
 refine bc fun hG=>?_
 obtain ⟨v',l,e1,⟨a,e2,e3⟩,e4,k,items,h1,h2,h3⟩:=sv
 refine hG ?_
 clear hG
 exact ⟨l,items,k,e4,h1,h2,h3⟩
theorem ml_own {i : Nat} {vs : List CV} (e : ml? (σ.getD i .unb) = some vs) : nm i σ = some (.own i)∧i < σ.length∧isM (σ.getD i .unb) = true:=by
 have e:=ml_eq e
 have h : isM (σ.getD i .unb) = true:=by rw [e]; rfl
 exact ⟨by unfold nm; rw [e]; rfl,lt_of_isM h,h⟩
theorem SR.mutV (x : SR hT c own σ s) {i : Nat} {l : Addr} {vs vs' : List CV} {items : Array Value} {n' tk : Nat} {h' : Heap} (e : ml? (σ.getD i .unb) = some vs) (ho : own i = some l) (hsb : Heap.SameBut l s.heap h') (hl : IsL h' l items n') (hz : items.size≤4096) (hv : VRs (FF c own) s.heap vs' items.toList) :
  SR hT c own (σ.set i (.mlist vs')) { s with heap:=h',toks:=tk }∧Ss c own s { s with heap:=h',toks:=tk }∧OwnKp own own σ (σ.set i (.mlist vs')) :=
 x.mutL ho (ml_own e).2.1 (ml_own e).2.2 (by rw [ml_eq e]; rfl) hsb ⟨n',items,hl,hz,hv.move fun b o hf q=>⟨hf,(hsb.2 b (fun z=>hf (z▸.inr (.inr (.inr ⟨i,ho⟩))))).trans q⟩⟩ ⟨_,_,hl⟩
noncomputable def appM (i : Nat) (m : List CV→Option CV) : CM:=fun σ=>(m σ).bind fun cv=>(ml? (σ.getD i .unb)).bind fun vs=>if noM cv = true∧vs.length < 4096 then some (.next,σ.set i (.mlist (vs ++ [cv]))) else none
theorem Rs.app {y : Str} {py apos pos p2 : Pos} {e : PySem.Expr} {i : Nat} {m : List CV→Option CV} (W : Wf c) (hn : c.names[i]? = some (y,.local)∨c.names[i]? = some (y,.cell)) (hy : Rf prog w hT c (.Name y py) (nm i)) (h : Rf prog w hT c e m)
  (he : ∀ env,starEach [e] env = [(false,eval e env)]:=by intro _; rfl) (hline : (apos.endLine == pos.line) = true:=by rfl) :
  Rs prog w hT c (.Expr (.Call (.Attribute (.Name y py) "append" apos) [e] [] pos) p2)
   (appM i m):=fun own σ s f σ' x e'=>by
 refine bc fun hG=>?_
 revert e'
 refine oR fun cv e1 q=>?_
 revert q
 refine oR fun vs e2 q2=>?_
 obtain ⟨hc,q⟩:=ite_some q2
 refine hG ?_
 clear hG
 cases q
 clear q2
 ·have hnm:=(ml_own e2).1
  refine wpAny_Expr_any (wpAny_Call_method rfl (by rw [he]; rfl) hline PySem.F.plainAttrs_list F.slot_list_append F.type_list_append (wp_w (hy own σ s _ x hnm) fun vo s₁ h₁=>?_)) W.inter
  have x₁:=x.ex h₁.1
  refine bc fun hG=>?_
  obtain ⟨l,items,k,rfl,ho,hl,hz,hv⟩:=x₁.ml e2 hnm h₁.2
  refine hG ?_
  clear hG
  refine ⟨⟨_,hl,rfl⟩,fun a q=>by cases q; exact ⟨_,hl,rfl⟩,?_⟩
  rw [he]
  refine P.append_list (wp_w (h own σ s₁ cv x₁ e1) fun va s₂ h₂=>?_)
  have x₂:=x₁.ex h₂.1
  have hl₂ : IsL s₂.heap l items k:=h₂.1.kp.keep l _ (x₁.one ho) hl
  refine ⟨items,k,by rw [sizeLine_eq]; exact Nat.le_trans hz (by decide),hl₂,?_⟩
  have M:=x₂.mutV (vs':=vs ++ [cv]) (tk:=s₂.toks) e2 ho (Heap.SameBut.update ..) (hl₂.update fun xs=>xs.push va) (by rw [Array.size_push]; exact hv.sz▸hc.2) (by rw [Array.toList_push]; exact (hv.kp x₁.ft h₂.1.kp).append (.cons (h₂.2.vr' hc.1) .nil))
  exact SOut.trans x₂ (.of_ex (h₁.1.trans h₂.1)) (.refl _) .refl ⟨own,M.1,M.2.1,.refl _,M.2.2,trivial⟩
noncomputable def plc (n : Nat) (k : Int) : Nat:=if 0≤k then k.toNat else (k + n).toNat
theorem seqIndex_plc {n : Nat} {k : Int} (h1 : -(n : Int)≤k) (h2 : k < n) : seqIndex? k n = some (plc n k):=by
 unfold seqIndex? plc
 by_cases h0 : k < 0
 ·rw [if_pos h0,if_pos (by simp; lia),if_neg (by exact Int.not_le.mpr h0)]
 ·rw [if_neg h0,if_pos (by simp; lia),if_pos (by exact Int.not_lt.mp h0)]
theorem at_plc {xs : List CV} {k : Int} {y : CV} (h : at? xs k = some y) : xs[plc xs.length k]? = some y∧-(xs.length : Int)≤k∧k < xs.length:=by
 refine bc fun hG=>?_
 obtain ⟨h1,h2,h3,h4⟩:=at_lt h
 refine hG ?_
 clear hG
 refine ⟨?_,h1,h2⟩
 unfold plc
 by_cases h0 : 0≤k
 ·rw [if_pos h0]; exact h4 h0
 ·rw [if_neg h0]; exact h3 (by exact Int.lt_of_not_ge h0)
noncomputable def appPopM (i j : Nat) (m : List CV→Option CV) : CM:=fun σ=>(m σ).bind fun cv=>(ml? (σ.getD i .unb)).bind fun vs=>(ml? (σ.getD j .unb)).bind fun us=>asI (fun k=>(at? us k).bind fun u=>if vs.length < 4096 then some (.next,(σ.set j (.mlist (us.eraseIdx (plc us.length k)))).set i (.mlist (vs ++ [u]))) else none) cv
theorem sz_ok {n : Nat} (h : n≤4096) : n≤sizeLine:=Nat.le_trans h (by rw [sizeLine_eq]; decide)
theorem fits_of {n : Nat} {k : Int} (hn : n≤4096) (h1 : -(n : Int)≤k) (h2 : k < n) : Builtin.List.listFitsIndex k = true:=by
 by_cases h0 : 0≤k
 ·exact fitsIndex_of h0 (by lia)
 ·exact fitsIndex_neg (by exact Int.lt_of_not_ge h0) (by lia)
theorem Rs.appPop {y z : Str} {py pz apos apos2 pos pos2 p2 : Pos} {e : PySem.Expr} {i j : Nat} {m : List CV→Option CV} (W : Wf c) (hij : i ≠ j) (hy : Rf prog w hT c (.Name y py) (nm i)) (hz : Rf prog w hT c (.Name z pz) (nm j)) (h : Rf prog w hT c e m)
  (he : ∀ env,starEach [e] env = [(false,eval e env)]:=by intro _; rfl) (hline : (apos.endLine == pos.line) = true:=by rfl) (hline2 : (apos2.endLine == pos2.line) = true:=by rfl) :
  Rs prog w hT c (.Expr (.Call (.Attribute (.Name y py) "append" apos) [.Call (.Attribute (.Name z pz) "pop" apos2) [e] [] pos2] [] pos) p2)
   (appPopM i j m):=fun own σ s f σ' x e'=>by
 refine bc fun hG=>?_
 revert e'
 refine oR fun cv e1 q=>?_
 revert q
 refine oR fun vs e2 q2=>?_
 revert q2
 refine oR fun us e3 q3=>?_
 obtain ⟨k,rfl,q4⟩:=asI_inv q3
 clear q3
 revert q4
 refine oR fun u e4 q5=>?_
 have hc : vs.length < 4096∧(CF.next,(σ.set j (.mlist (us.eraseIdx (plc us.length k)))).set i (.mlist (vs ++ [u]))) = (f,σ'):=ite_some q5
 clear q5
 obtain ⟨hc,q⟩:=hc
 refine hG ?_
 clear hG
 cases q
 refine wpAny_Expr_any (wpAny_Call_method rfl (by rfl) hline PySem.F.plainAttrs_list F.slot_list_append F.type_list_append (wp_w (hy own σ s _ x (ml_own e2).1) fun vo s₁ h₁=>?_)) W.inter
 have x₁:=x.ex h₁.1
 obtain ⟨l,items,n,rfl,ho,hl,hsz,hv⟩:=x₁.ml e2 (ml_own e2).1 h₁.2
 refine ⟨⟨_,hl,rfl⟩,fun a q=>by cases q; exact ⟨_,hl,rfl⟩,?_⟩
 show wpAny _ _ (callWith pos (.builtin "list.append") [.ref l] [(false,eval (.Call (.Attribute (.Name z pz) "pop" apos2) [e] [] pos2) c.env)] []) _ _ _
 refine P.append_list (wpAny_Call_method rfl (by rw [he]; rfl) hline2 PySem.F.plainAttrs_list F.slot_list_pop F.type_list_pop (wp_w (hz own σ s₁ _ x₁ (ml_own e3).1) fun vo2 s₂ h₂=>?_))
 have x₂:=x₁.ex h₂.1
 obtain ⟨l2,items2,n2,rfl,ho2,hl2,hsz2,hv2⟩:=x₂.ml e3 (ml_own e3).1 h₂.2
 refine ⟨⟨_,hl2,rfl⟩,fun a q=>by cases q; exact ⟨_,hl2,rfl⟩,?_⟩
 rw [he]
 refine P.pop_at_list (wp_w (h own σ s₂ _ x₂ e1) fun va s₃ h₃=>?_)
 have x₃:=x₂.ex h₃.1
 refine bc fun hG=>?_
 obtain ⟨t,rfl⟩:=VR.int_inv h₃.2
 have hl₃ : IsL s₃.heap l items n:=h₃.1.kp.keep l _ (x₂.one ho) (h₂.1.kp.keep l _ (x₁.one ho) hl)
 have hl2₃ : IsL s₃.heap l2 items2 n2:=h₃.1.kp.keep l2 _ (x₂.one ho2) hl2
 have hll : l ≠ l2:=fun q=>hij (x.oinj i j l ho (q▸ho2))
 have hv3:=(hv.kp x₁.ft h₂.1.kp).kp x₂.ft h₃.1.kp
 have hv23:=hv2.kp x₂.ft h₃.1.kp
 obtain ⟨p1,p2',p3⟩:=at_plc e4
 obtain ⟨y',hy1,hu⟩:=hv23.get p1
 refine hG ?_
 clear hG
 have hy1' : items2[plc us.length k]? = some y':=by simpa using hy1
 have hpl : plc us.length k < items2.size:=(Array.getElem?_eq_some_iff.mp hy1').1
 have hn:=hv.sz
 have E:=(h₁.1.trans h₂.1).trans h₃.1
 clear hl hl2 hv hv2 hy1 h₂ h₃ x₂ x₁ h₁
 refine ⟨items2,n2,k,t,_,y',sz_ok hsz2,rfl,hl2₃,fits_of (hv23.sz▸hsz2) p2' p3,hv23.sz▸seqIndex_plc p2' p3,hy1',?_⟩
 have hera : items2.eraseIdxIfInBounds (plc us.length k) = items2.eraseIdx (plc us.length k) hpl:=by exact Eq.symm (Array.eraseIdx_eq_eraseIdxIfInBounds hpl)
 refine bc fun hG=>?_
 obtain ⟨x₄,k₄,q₄⟩:=x₃.mutV (tk:=s₃.toks) (vs':=us.eraseIdx (plc us.length k)) e3 ho2 (Heap.SameBut.update ..) (hl2₃.update fun xs=>xs.eraseIdxIfInBounds (plc us.length k)) (by rw [hera,Array.size_eraseIdx]; exact Nat.le_trans (Nat.sub_le _ _) hsz2) (by rw [hera,Array.toList_eraseIdx]; exact hv23.eraseIdx _)
 refine hG ?_
 clear hG
 have hl₄:=hl₃.update_other (f:=Obj.mapSeq fun xs=>xs.eraseIdxIfInBounds (plc us.length k)) (Ne.symm hll)
 have hv₄:=(hv3.append (.cons hu .nil)).move fun b o hf e=>⟨hf,k₄.keep b o (fun q=>hf (.inr q)) (fun q=>hf (q▸x₃.ft)) e⟩
 clear hv3 hv23 hu hl₃ hl2₃ hera
 refine ⟨items,n,sz_ok hsz,hl₄,?_⟩
 have M2:=x₄.mutV (tk:=s₃.toks) (vs:=vs) (vs':=vs ++ [u]) (items:=items.push y') (by rw [getD_set_ne hij]; exact e2) ho (Heap.SameBut.update ..) (hl₄.update fun xs=>xs.push y') (by rw [Array.size_push]; exact hn▸hc) (by rw [Array.toList_push]; exact hv₄)
 exact SOut.trans x₃ (.of_ex E) (.refl _) .refl (SOut.trans x₄ k₄ (.refl _) q₄ ⟨own,M2.1,M2.2.1,.refl _,M2.2.2,trivial⟩)
end
section
variable {prog : Program} {w : World} {hT : Heap} {c : FC} {own own' own'' : Nat→Option Addr} {σ σ' : List CV} {s s' s'' : Shared} {mg mb : Str→Option Value}
theorem wp_setAt (x : SR hT c own σ s) {i : Nat} {vs : List CV} {l : Addr} {items : Array Value} {n : Nat} {k : Int} {t : Tok} {cv : CV} {v : Value} (e : ml? (σ.getD i .unb) = some vs) (ho : own i = some l)
  (hl : IsL s.heap l items n) (hz : items.size≤4096) (hv : VRs (FF c own) s.heap vs items.toList) (h1 : -(vs.length : Int)≤k) (h2 : k < vs.length) (r : VR (FF c own) s.heap cv v) :
  wpAny (model prog w) c.A (setItem (.ref l) (.int k t) v) (fun J s'=>SR hT c own (σ.set i (.mlist (vs.set (plc vs.length k) cv))) s'∧Ss c own s s'∧OwnKp own own σ (σ.set i (.mlist (vs.set (plc vs.length k) cv)))) noE s:=by
 refine setItemL hl (hv.sz▸h1) (hv.sz▸h2) hz (j:=plc vs.length k) (by unfold plc; rw [hv.sz]) fun h' n' hl' hsb=>?_
 exact x.mutV (tk:=s.toks) (vs':=vs.set (plc vs.length k) cv) e ho hsb hl' (by rw [Array.size_setIfInBounds]; exact hz) (by rw [Array.toList_setIfInBounds]; exact hv.set _ r)
noncomputable def augI (op : Operator) (a b : Int) : Option CV:=match op with
 | .Add=>some (.int (a + b))
 | .Sub=>some (.int (a - b))
 | _=>none
noncomputable def aug (op : Operator) (a b : CV) : Option CV:=asI (fun a=>asI (fun b=>augI op a b) b) a
theorem aug_inv {op : Operator} {a b r : CV} (e : aug op a b = some r) : ∃ i j,a = .int i∧b = .int j∧augI op i j = some r:=by
 refine bc fun hG=>?_
 obtain ⟨i,rfl,q⟩:=asI_inv e
 clear e
 obtain ⟨j,rfl,q⟩:=asI_inv (show asI (fun b=>augI op i b) b = some r from q)
 refine hG ?_
 clear hG
 exact ⟨i,j,rfl,rfl,q⟩
noncomputable def augSM (i : Nat) (op : Operator) (mi m : List CV→Option CV) : CM:=fun σ=>(ml? (σ.getD i .unb)).bind fun vs=>(mi σ).bind (asI fun k=>(at? vs k).bind fun o=>(m σ).bind fun v=>(aug op o v).map fun r=>(.next,σ.set i (.mlist (vs.set (plc vs.length k) r))))
noncomputable def augNM (i : Nat) (op : Operator) (m : List CV→Option CV) : CM:=fun σ=>(m σ).bind fun v=>(aug op (σ.getD i .unb) v).bind fun r=>(stF i r σ).map (.next,·)
noncomputable def tsubM (i : Nat) (mi : List CV→Option CV) : CV→List CV→Option (List CV):=fun cv σ=>(ml? (σ.getD i .unb)).bind fun vs=>(mi σ).bind (asI fun k=>(at? vs k).map fun J=>σ.set i (.mlist (vs.set (plc vs.length k) cv)))
noncomputable def tnil : List CV→List CV→Option (List CV):=fun cvs σ=>match cvs with | []=>some σ | _=>none
noncomputable def tcons (m1 : CV→List CV→Option (List CV)) (m2 : List CV→List CV→Option (List CV)) : List CV→List CV→Option (List CV):=fun cvs σ=>match cvs with | []=>none | cv::cvs=>(m1 cv σ).bind (m2 cvs)
noncomputable def asU {α : Type} (f : List CV→Option α) : CV→Option α
 | .tup vs=>f vs
 | _=>none
theorem asU_inv {α : Type} {r : α} {f : List CV→Option α} {v : CV} (h : asU f v = some r) : ∃ i,v = .tup i∧f i = some r:=by cases v <;> first | exact none_ne h | exact ⟨_,rfl,h⟩
noncomputable def mulM (n : Nat) (m : List CV→Option CV) (mt : List CV→List CV→Option (List CV)) : CM:=fun σ=>(m σ).bind (asU fun cvs=>if cvs.length = n then (mt cvs σ).map (.next,·) else none)
theorem aug_ok {op : Operator} {a b cv : CV} {va vb : Value} {F : Addr→Prop} (ra : VR F s.heap a va) (rb : VR F s.heap b vb) (e : aug op a b = some cv) {A : Around} :
  wpAny (model prog w) A (inplaceOp op va vb) (fun v s'=>Ex s s'∧VR F s'.heap cv v) noE s:=by
 refine bc fun hG=>?_
 obtain ⟨i,j,rfl,rfl,q⟩:=aug_inv e
 clear e
 obtain ⟨_,rfl⟩:=ra.int_inv
 obtain ⟨_,rfl⟩:=rb.int_inv
 refine hG ?_
 clear hG
 clear ra rb
 cases op <;> first | exact none_ne q | skip
 ·cases q
  exact iadd_int ⟨.tok,.int _ _⟩
 ·cases q
  exact isub_int ⟨.tok,.int _ _⟩
theorem get_at {F : Addr→Prop} {vs : List CV} {items : Array Value} {l : Addr} {n : Nat} {k : Int} {o : CV} (hv : VRs F s.heap vs items.toList) (hl : IsL s.heap l items n) (hz : items.size≤4096) (h : at? vs k = some o) : ∃ v1,VR F s.heap o v1∧-(vs.length : Int)≤k∧k < vs.length∧∀ {A : Around} {Q : Value→Shared→Prop} {E} (t : Tok),Q v1 s→wpAny (model prog w) A (getItem (.ref l) (.int k t)) Q E s:=by
 refine bc fun hG=>?_
 obtain ⟨v1,hv1,r1⟩:=hv.at h
 obtain ⟨b1,b2,b3,b4⟩:=at_lt hv1
 refine hG ?_
 clear hG
 simp only [Array.length_toList] at b1 b2 b3
 have hlen:=hv.sz
 refine ⟨v1,r1,hlen▸b1,hlen▸b2,fun t q=>?_⟩
 by_cases h0 : 0≤k
 ·exact wpAny_getItem_list hl.isList h0 (by lia) (by simpa using b4 h0) q
 ·exact wpAny_getItem_list_neg hl.isList (by exact Int.lt_of_not_ge h0) (by exact Int.le_def.mpr b1) (by lia) (by simpa using b3 (by exact Int.lt_of_not_ge h0)) q
theorem Rs.augS {y : Str} {py tp pos : Pos} {ix e : PySem.Expr} {op : Operator} {i : Nat} {mi m : List CV→Option CV} (hy : Rf prog w hT c (.Name y py) (nm i)) (hi : Rf prog w hT c ix mi) (h : Rf prog w hT c e m)
  (ha : ∀ ov iv new,augStore ix ov iv new = (do holding [new,ov,iv] (setItem ov iv new); release [new,ov,iv] []; pure .next):=by intros; rfl) :
  Rs prog w hT c (.AugAssign (.Subscript (.Name y py) ix tp) op e pos)
   (augSM i op mi m):=fun own σ s f σ' x e'=>by
 refine bc fun hG=>?_
 revert e'
 refine oR fun vs e1 q=>?_
 revert q
 refine oR fun kv e2 q1=>?_
 obtain ⟨k,rfl,q⟩:=asI_inv q1
 clear q1
 revert q
 refine oR fun o e3 q1=>?_
 revert q1
 refine oR fun v e4 q=>?_
 refine mE q fun r e5 q1=>?_
 refine hG ?_
 clear hG
 clear q
 cases q1
 have nv : noM v = true:=by obtain ⟨_,_,_,rfl,_⟩:=aug_inv e5; rfl
 have hnm:=(ml_own e1).1
 refine wpAny_AugAssign_SubscriptAny (wp_w (hy own σ s _ x hnm) fun vo s₁ h₁=>?_) ha
 have x₁:=x.ex h₁.1
 refine wp_w (hi own σ s₁ _ x₁ e2) fun vk s₂ h₂=>?_
 have x₂:=x₁.ex h₂.1
 refine bc fun hG=>?_
 obtain ⟨t,rfl⟩:=VR.int_inv h₂.2
 obtain ⟨l,items,n,rfl,ho,hl,hz,hv⟩:=x₂.ml e1 hnm (h₁.2.ex x₁ h₂.1)
 obtain ⟨v1,r1,b1,b2,go⟩:=get_at (prog:=prog) (w:=w) hv hl hz e3
 refine hG ?_
 clear hG
 refine go t (wp_w (h own σ s₂ _ x₂ e4) fun va s₄ h₄=>?_)
 have x₄:=x₂.ex h₄.1
 refine wp_w (aug_ok (r1.kp x₂.ft h₄.1.kp) (h₄.2.vr' nv) e5) fun new s₅ h₅=>?_
 have x₅:=x₄.ex h₅.1
 have E35:=h₄.1.trans h₅.1
 refine wp_w (wp_setAt x₅ e1 ho (E35.kp.keep l _ (x₂.one ho) hl) hz (hv.kp x₂.ft E35.kp) (k:=k) (t:=t) b1 b2 h₅.2) fun J s₆ h₆=>?_
 exact SOut.trans x₅ (.of_ex (h₁.1.trans (h₂.1.trans E35))) (.refl _) .refl ⟨own,h₆.1,h₆.2.1,.refl _,h₆.2.2,trivial⟩
theorem Rs.augN {y : Str} {py pos : Pos} {e : PySem.Expr} {op : Operator} {i : Nat} {m : List CV→Option CV} (W : Wf c) (hn : c.names[i]? = some (y,.local)) (h : Rf prog w hT c e m) :
  Rs prog w hT c (.AugAssign (.Name y py) op e pos)
   (augNM i op m):=fun own σ s f σ' x e'=>by
 refine bc fun hG=>?_
 revert e'
 refine oR fun v e1 q=>?_
 revert q
 refine oR fun r e2 q1=>?_
 revert q1
 refine mR fun σ1 e3 q=>?_
 cases q
 obtain ⟨ns,hns,hsv⟩:=x.ns
 have hsl:=hsv i y hn
 obtain ⟨a,b,hz,rfl,e2'⟩:=aug_inv e2
 refine hG ?_
 clear hG
 rw [hz] at hsl
 refine bc fun hG=>?_
 obtain ⟨v0,hv0,r0⟩:=hsl
 refine hG ?_
 clear hG
 refine wpAny_AugAssign_Name (wpAny_loadName_local W.kind (W.kindOf hn) hns hv0 (wp_w (h own σ s _ x e1) fun va s₁ h₁=>?_))
 have x₁:=x.ex h₁.1
 refine wp_w (aug_ok (a:=.int a) (r0.kp x.ft h₁.1.kp) (h₁.2.vr' rfl) (hz▸e2)) fun new s₂ h₂=>?_
 have x₂:=x₁.ex h₂.1
 refine wp_w (wp_storeF W x₂ (.inl hn) h₂.2 e3) fun J s₃ h₃=>?_
 exact SOut.trans x₂ (.of_ex (h₁.1.trans h₂.1)) (.refl _) .refl ⟨_,h₃.1,h₃.2.1.of_no,h₃.2.2.1,h₃.2.2.2,trivial⟩
noncomputable def Tg (prog : Program) (w : World) (hT : Heap) (c : FC) (t : PySem.Expr) (m : CV→List CV→Option (List CV)) : Prop :=
 ∀ own σ s cv v σ',SR hT c own σ s→VR (FF c own) s.heap cv v→m cv σ = some σ' →
  wpAny (model prog w) c.A (assign t c.env v) (fun J s'=>∃ own',SR hT c own' σ' s'∧Ss c own s s'∧(∀ j a,own' j = some a→∃ k,own k = some a)∧OwnKp own own' σ σ') noE s
noncomputable def Tgs (prog : Program) (w : World) (hT : Heap) (c : FC) (ts : List PySem.Expr) (m : List CV→List CV→Option (List CV)) : Prop :=
 ∀ own σ s cvs vs σ',SR hT c own σ s→VRs (FF c own) s.heap cvs vs→m cvs σ = some σ' →
  wpAny (model prog w) c.A (assignInOrder ((assignEach ts c.env).map (·.2)) vs) (fun J s'=>∃ own',SR hT c own' σ' s'∧Ss c own s s'∧(∀ j a,own' j = some a→∃ k,own k = some a)∧OwnKp own own' σ σ') noE s
theorem Tg.nm {y : Str} {py : Pos} {i : Nat} (W : Wf c) (hn : AtSlot c i y) : Tg prog w hT c (.Name y py) (stF i):=fun own σ s cv v σ' x r e=>by
 refine wpAny_assign_Name (wp_w (wp_storeF W x hn r e) fun J s₁ h=>⟨_,h.1,h.2.1.of_no,fun j a q=>?_,h.2.2.2⟩)
 unfold dropO at q
 split at q
 ·cases q
 ·exact ⟨j,q⟩
theorem Tg.sub {y : Str} {py pos : Pos} {ix : PySem.Expr} {i : Nat} {mi : List CV→Option CV} (hy : Rf prog w hT c (.Name y py) (Mine.nm i)) (hi : Rf prog w hT c ix mi) :
  Tg prog w hT c (.Subscript (.Name y py) ix pos) (tsubM i mi):=fun own σ s cv v σ' x r e'=>by
 refine bc fun hG=>?_
 revert e'
 refine oR fun vs e1 q=>?_
 revert q
 refine oR fun kv e2 q1=>?_
 obtain ⟨k,rfl,q⟩:=asI_inv q1
 clear q1
 refine mE q fun o e3 q1=>?_
 refine hG ?_
 clear hG
 clear q
 subst q1
 have hnm:=(ml_own e1).1
 rw [arm_assign_Subscript]
 refine wpAny_bind (wpAny_holding (wp_w (hy own σ s _ x hnm) fun vo s₁ h₁=>?_))
 have x₁:=x.ex h₁.1
 refine wpAny_bind (wpAny_holding (wp_w (hi own σ s₁ _ x₁ e2) fun vk s₂ h₂=>?_))
 have x₂:=x₁.ex h₂.1
 refine bc fun hG=>?_
 obtain ⟨t,rfl⟩:=VR.int_inv h₂.2
 obtain ⟨l,items,n,rfl,ho,hl,hz,hv⟩:=x₂.ml e1 hnm (h₁.2.ex x₁ h₂.1)
 obtain ⟨b0,b1,b2⟩:=at_plc e3
 refine hG ?_
 clear hG
 refine wpAny_bind (wpAny_standAt (wpAny_bind (wpAny_holding (wp_w (wp_setAt x₂ e1 ho hl hz hv (k:=k) (t:=t) b1 b2 ((r.kp x.ft h₁.1.kp).kp x₁.ft h₂.1.kp)) fun J s₃ h₃=>?_))))
 exact wpAny_release ⟨own,h₃.1,(Ss.of_ex (h₁.1.trans h₂.1)).trans (.refl _) h₃.2.1,fun j a q=>⟨j,q⟩,h₃.2.2⟩
theorem Tgs.nil : Tgs prog w hT c [] tnil:=fun own σ s cvs vs σ' x r e=>by
 cases r with
 | nil=>cases e; exact assignInOrder_nil ⟨own,x,.refl _,fun j a q=>⟨j,q⟩,.refl⟩
 | cons _ _=>cases e
set_option tactic.hygienic true in
theorem Tgs.cons {t : PySem.Expr} {ts : List PySem.Expr} {m1 : CV→List CV→Option (List CV)} {m2 : List CV→List CV→Option (List CV)} (h1 : Tg prog w hT c t m1) (h2 : Tgs prog w hT c ts m2)
  (he : ∀ env,assignEach (t::ts) env = (false,fun v=>assign t env v)::assignEach ts env:=by intro _; rfl) :
  Tgs prog w hT c (t::ts) (tcons m1 m2):=fun own σ s cvs vs σ' x r e=>by
 cases r with
 | nil=>cases e
 | cons r rs =>
  rename_i cv cvs v vs
  refine bc fun hG=>?_
  refine oE e fun σ1 e1 e2=>?_
  refine hG ?_
  clear hG
  have hd : ∀ own1 s1,Ss c own s s1→(∀ j a,own1 j = some a→∃ k,own k = some a)→VRs (FF c own1) s1.heap cvs vs:=fun own1 s1 k1 l1=>rs.move fun b o hf e=>⟨fun f=>by
   rcases f with f | f | f | ⟨j,f⟩
   ·exact hf (.inl f)
   ·exact hf (.inr (.inl f))
   ·exact hf (.inr (.inr (.inl f)))
   ·exact hf (.inr (.inr (.inr (l1 j b f)))),k1.keep b o (fun m=>hf (.inr m)) (fun q=>hf (q▸x.ft)) e⟩
  have H:=h1 own σ s cv v σ1 x r e1
  rw [he]
  refine assignInOrder_cons (wp_w H fun J s1 q=>?_)
  refine bc fun hG=>?_
  obtain ⟨own1,x1,k1,l1,p1⟩:=q
  refine hG ?_
  clear hG
  have H2:=h2 own1 σ1 s1 cvs vs σ' x1 (hd own1 s1 k1 l1) e2
  refine wp_w H2 fun J s2 q=>?_
  refine bc fun hG=>?_
  obtain ⟨own2,x2,k2,l2,p2⟩:=q
  refine hG ?_
  clear hG
  exact ⟨own2,x2,k1.trans (fun j a q=>.inl (l1 j a q)) k2,fun j a q=>by obtain ⟨k,q⟩:=l2 j a q; exact l1 k a q,p1.trans p2⟩
theorem swapsTuple (ts : List PySem.Expr) (k : Nat) (tp : Pos) (e : PySem.Expr) (n : Nat) (env : Env) : swapsWithSole [.Tuple ts k tp] e n env = pure false:=by
 show swapsWith e (some (.Tuple ts k tp)) n env = pure false
 unfold swapsWith
 split <;> rfl
theorem Rs.mul {ts : List PySem.Expr} {k : Nat} {tp pos : Pos} {e : PySem.Expr} {m : List CV→Option CV} {mt : List CV→List CV→Option (List CV)} (W : Wf c) (h : Rf prog w hT c e m) (ht : Tgs prog w hT c ts mt)
  (hl : ∀ env,(assignEach ts env).length = ts.length:=by intro _; rfl) (hst : ∀ env,(assignEach ts env).findIdx? (·.1) = none:=by intro _; rfl)
  (hw : swappedStores [.Tuple ts k tp] e c.env = pure none:=by rfl) :
  Rs prog w hT c (.Assign [.Tuple ts k tp] e pos) (mulM ts.length m mt):=fun own σ s f σ' x e'=>by
 refine bc fun hG=>?_
 revert e'
 refine oR fun v e1 q=>?_
 obtain ⟨cvs,rfl,q1⟩:=asU_inv q
 refine hG ?_
 clear hG
 clear q
 have q1 : (if cvs.length = ts.length then (mt cvs σ).map (CF.next,·) else none) = some (f,σ'):=q1
 replace q1:=ite_opt q1
 obtain ⟨hlen,q1⟩:=q1
 ·refine bc fun hG=>?_
  refine mE q1 fun σ1 e2 q=>?_
  refine hG ?_
  clear hG
  clear q1
  cases q
  refine Assign_Tuple (wp_w (h own σ s _ x e1) fun va s₁ h₁=>?_) (swapsTuple ..) hw
  have x₁:=x.ex h₁.1
  refine bc fun hG=>?_
  obtain ⟨a,items,n,rfl,hf,hl',hv⟩:=VR.tup_inv h₁.2
  refine hG ?_
  clear hG
  refine assign_Tuple_tuple W.aok.hd ⟨_,hl',rfl,n,rfl⟩ (by rw [hl,← hlen]; exact hv.sz) (hst _) fun h' he=>?_
  have ee : Ex s₁ { s₁ with heap:=h' }:=⟨.of_all fun b o q=>he b o (Nat.ne_of_lt (Heap.lt_size q)) q,rfl,.same rfl⟩
  refine wp_w (ht own σ _ cvs _ _ (x₁.ex ee) (hv.kp x₁.ft ee.kp) e2) fun J s₂ q=>?_
  refine bc fun hG=>?_
  obtain ⟨own2,x2,k2,l2,p2⟩:=q
  refine hG ?_
  clear hG
  exact SOut.trans (x₁.ex ee) (.of_ex (h₁.1.trans ee)) (.refl _) .refl ⟨own2,x2,k2,fun j a q=>.inl (l2 j a q),p2,trivial⟩
theorem ite_to {p : Prop} [Decidable p] {α : Type} {a b : α} (h : b = a) : (if p then a else b) = a:=by
 by_cases hp : p
 ·rw [if_pos hp]
 ·rw [if_neg hp,h]
theorem sw_sub {o1 i1 o2 i2 v1 v2 : PySem.Expr} {p1 p2 tp vp : Pos} {k k2 : Nat} (env : Env) : swappedStores [.Tuple [.Subscript o1 i1 p1,.Subscript o2 i2 p2] k tp] (.Tuple [v1,v2] k2 vp) env = pure none:=by
 exact ite_to (ite_to rfl)
end
inductive AR (c : FC) (own : Nat→Option Addr) (h : Heap) : List CV→List Value→List (Option Nat)→Prop
 | nil : AR c own h [] [] []
 | fro {cv v cvs vs ts} : VR (FF c own) h cv v→AR c own h cvs vs ts→AR c own h (cv::cvs) (v::vs) (none::ts)
 | ow {t l cv v cvs vs ts} : isM cv = true→own t = some l→c.names.length≤t→OV (FF c own) own h t cv v→OC (FF c own) h l cv→(some t ∉ ts)→AR c own h cvs vs ts→AR c own h (cv::cvs) (v::vs) (some t::ts)
noncomputable def stA (i : Nat) (cv : CV) (σ : List CV) : Option (List CV):=if (noM cv = true∨isM cv = true)∧i < σ.length∧isM (σ.getD i .unb) = false then some (σ.set i cv) else none
noncomputable def storeAll : List Nat→List CV→List CV→Option (List CV)
 | [],[],σ=>some σ
 | i::is,cv::cvs,σ=>(stA i cv σ).bind (storeAll is cvs)
 | _,_,_=>none
section
variable {prog : Program} {w : World} {hT : Heap} {c : FC} {own own' own'' : Nat→Option Addr} {σ σ' : List CV} {s s' s'' : Shared} {mg mb : Str→Option Value}
theorem OC.lists {F F' : Addr→Prop} {h h' : Heap} {l : Addr} {cv : CV} (mv : ∀ b o,¬ F b→h.get? b = some o→¬ F' b∧h'.get? b = some o) (hl : ∀ a items n,IsL h a items n→IsL h' a items n) (x : OC F h l cv) : OC F' h' l cv:=by
 cases cv <;> first | exact x.elim | skip
 all_goals
  obtain ⟨n,items,e1,e2,e3⟩:=x
  exact ⟨n,items,hl _ _ _ e1,e2,e3.move mv⟩
theorem OV.reown {F F' : Addr→Prop} {h h' : Heap} {t i : Nat} {a : Addr} {cv : CV} {v : Value} (mv : ∀ b o,¬ F b→h.get? b = some o→¬ F' b∧h'.get? b = some o) (e1 : own t = some a) (e2 : own' i = some a) (x : OV F own h t cv v) : OV F' own' h' i cv v:=by
 cases cv <;> first | exact x.elim | skip
 ·obtain ⟨b,q1,q2⟩:=x; rw [e1] at q2; cases q2; exact ⟨_,q1,e2⟩
 ·refine bc fun hG=>?_
  obtain ⟨b,d,l,hs,t',n,q1,q2,n1,n2,q3,q4⟩:=x
  refine hG ?_
  clear hG
  rw [e1] at q2; cases q2
  exact ⟨b,d,_,hs,t',n,q1,e2,(mv _ _ n1 q3).1,(mv _ _ n2 q4).1,(mv _ _ n1 q3).2,(mv _ _ n2 q4).2⟩
theorem AR.step {h h' : Heap} (mv : ∀ b o,¬ FF c own b→h.get? b = some o→¬ FF c own' b∧h'.get? b = some o) (hl : ∀ a items n,IsL h a items n→IsL h' a items n) {ts : List (Option Nat)} {cvs : List CV} {vs : List Value} (x : AR c own h cvs vs ts)
  (ho : ∀ t l,some t∈ts→c.names.length≤t→own t = some l→own' t = some l) : AR c own' h' cvs vs ts:=by
 induction x with
 | nil=>exact .nil
 | fro r _ ih=>exact .fro (r.move mv) (ih fun t l ht=>ho t l (List.mem_cons_of_mem _ ht))
 | ow h1 h2 h3 h4 h5 h6 _ ih =>
  have q:=ho _ _ List.mem_cons_self h3 h2
  exact .ow h1 q h3 (h4.reown mv h2 q) (h5.lists mv hl) h6 (ih fun t l ht=>ho t l (List.mem_cons_of_mem _ ht))
set_option tactic.hygienic true in
theorem AR.store1 (W : Wf c) (x : SR hT c own σ s) {i : Nat} {y : Str} (hn : AtSlot c i y) (hN : σ.length≤c.names.length) {cv : CV} {v : Value} {cvs : List CV} {vs : List Value} {ot : Option Nat} {ts : List (Option Nat)} (r : AR c own s.heap (cv::cvs) (v::vs) (ot::ts)) (e : stA i cv σ = some σ') :
  wpAny (model prog w) c.A (storeName c.env y v) (fun J s'=>∃ own',SR hT c own' σ' s'∧Ss c noO s s'∧OwnLe own own' s.heap∧OwnKp own own' σ σ'∧AR c own' s'.heap cvs vs ts) noE s:=by
 unfold stA at e
 replace e:=ite_opt e
 obtain ⟨hc,e⟩:=e
 ·cases e
  refine bc fun hG=>?_
  obtain ⟨_,hi,hm⟩:=hc
  refine hG ?_
  clear hG
  have hil : i < c.names.length:=by exact Nat.lt_of_lt_of_le hi hN
  have mvS : ∀ own' s',Ss c noO s s'→(∀ b ob,¬ FF c own b→s.heap.get? b = some ob→¬ FF c own' b)→∀ b o,¬ FF c own b→s.heap.get? b = some o→¬ FF c own' b∧s'.heap.get? b = some o:=fun own' s' k m b o hf e =>
   ⟨m b o hf e,k.keep b o (fun q=>hf (by rcases q with q | q | ⟨_,q⟩; exact .inr (.inl q); exact .inr (.inr (.inl q)); cases q)) (fun q=>hf (q▸x.ft)) e⟩
  cases r with
  | fro r rs =>
   have o:=OwnOk.drop (c:=c) x i
   refine wp_w (wp_store W x hn hi o ((r.move fun b o' hf e=>⟨x.mvOwn o b o' hf e,e⟩).sv)) fun J s' q=>⟨_,q.1.1,q.1.2.1,q.1.2.2,fun j hj=>?_,?_⟩
   ·have hji : j ≠ i:=fun e=>by rw [e,hm] at hj; cases hj
    exact ⟨by unfold dropO; rw [if_neg hji],by rw [getD_set_ne hji]; exact hj⟩
   ·exact rs.step (mvS _ _ q.1.2.1 (x.mvOwn o)) q.2 fun t l J ht e=>by unfold dropO; rw [if_neg (by lia)]; exact e
  | ow h1 h2 h3 h4 h5 h6 rs =>
   rename_i t l
   have o:=OwnOk.set (i:=i) x h2 h3
   have mv0 : ∀ b o',¬ FF c own b→s.heap.get? b = some o'→¬ FF c (setO own i t l) b∧s.heap.get? b = some o':=fun b o' hf e=>⟨x.mvOwn o b o' hf e,e⟩
   have oi : setO own i t l i = some l:=by unfold setO; rw [if_pos rfl]
   refine wp_w (wp_store W x hn hi o (.toM (h4.reown mv0 h2 oi) oi (h5.move mv0 fun J e=>e))) fun J s' q=>⟨_,q.1.1,q.1.2.1,q.1.2.2,fun j hj=>?_,?_⟩
   ·have hji : j ≠ i:=fun e=>by rw [e,hm] at hj; cases hj
    have hjl:=lt_of_isM hj
    exact ⟨by unfold setO; rw [if_neg hji,if_neg (by lia)],by rw [getD_set_ne hji]; exact hj⟩
   ·exact rs.step (mvS _ _ q.1.2.1 (x.mvOwn o)) q.2 fun t' l' hmem ht e=>by
     unfold setO
     rw [if_neg (by lia : ¬ t' = i),if_neg (fun q : t' = t=>h6 (q▸hmem))]
     exact e
theorem AR.all (W : Wf c) {fs : List (Value→Sem Unit)} {is : List Nat} {ys : List Str} (hy : is.length = fs.length) (hys : is.length = ys.length) (hn : ∀ (k : Nat) i y,is[k]? = some i→ys[k]? = some y→AtSlot c i y)
  (hf : ∀ (k : Nat) f y,fs[k]? = some f→ys[k]? = some y→∀ v Q s,wpAny (model prog w) c.A (storeName c.env y v) Q noE s→wpAny (model prog w) c.A (f v) Q noE s) : ∀ {cvs : List CV} {vs : List Value} {ts : List (Option Nat)} {own : Nat→Option Addr} {σ : List CV} {s : Shared},
  SR hT c own σ s→σ.length≤c.names.length→AR c own s.heap cvs vs ts→storeAll is cvs σ = some σ' →
  wpAny (model prog w) c.A (assignInOrder fs vs) (fun J s'=>∃ own',SR hT c own' σ' s'∧Ss c own s s'∧OwnLe own own' s.heap∧OwnKp own own' σ σ') noE s:=by
 induction fs generalizing is ys with
 | nil =>
  intro cvs vs ts own σ s x hN r e
  cases is with
  | nil =>
   cases r with
   | nil=>cases e; exact assignInOrder_nil ⟨own,x,.refl _,.refl _,.refl⟩
   | fro _ _=>cases e
   | ow _ _ _ _ _ _ _=>cases e
  | cons _ _=>cases hy
 | cons f fs ih =>
  intro cvs vs ts own σ s x hN r e
  cases is with
  | nil=>cases hy
  | cons i is =>
   cases ys with
   | nil=>cases hys
   | cons y ys =>
   have go : ∀ {cv cvs' v vs' ot ts'},cvs = cv::cvs'→vs = v::vs'→ts = ot::ts'→wpAny (model prog w) c.A (assignInOrder (f::fs) vs) (fun J s'=>∃ own',SR hT c own' σ' s'∧Ss c own s s'∧OwnLe own own' s.heap∧OwnKp own own' σ σ') noE s:=by
    intro cv cvs' v vs' ot ts' e1 e2 e3
    subst e1 e2 e3
    refine bc fun hG=>?_
    refine oE e fun σ1 q1 q2=>?_
    refine hG ?_
    clear hG
    refine assignInOrder_cons (hf 0 f y rfl rfl _ _ _ (wp_w (AR.store1 W x (hn 0 i y rfl rfl) hN r q1) fun J s1 q=>?_))
    refine bc fun hG=>?_
    obtain ⟨own1,x1,k1,l1,p1,r1⟩:=q
    refine hG ?_
    clear hG
    have hl1 : σ1.length = σ.length:=by
     unfold stA at q1
     replace q1:=ite_opt q1
     obtain ⟨_,q1⟩:=q1
     ·cases q1; simp
    refine wp_w (ih (by simpa using hy) (by simpa using hys) (fun k i' y' a b=>hn (k + 1) i' y' (by simpa using a) (by simpa using b)) (fun k f' y' a b=>hf (k + 1) f' y' (by simpa using a) (by simpa using b)) x1 (by exact le_of_eq_of_le hl1 hN) r1 q2) fun J s2 q=>?_
    refine bc fun hG=>?_
    obtain ⟨own2,x2,k2,l2,p2⟩:=q
    refine hG ?_
    clear hG
    exact ⟨own2,x2,k1.of_no.trans l1 k2,l1.trans x1 k1.of_no l2,p1.trans p2⟩
   cases r with
   | nil=>cases e
   | fro _ _=>exact go rfl rfl rfl
   | ow _ _ _ _ _ _ _=>exact go rfl rfl rfl
theorem AR.append {h : Heap} {cvs cvs' : List CV} {vs vs' : List Value} {ts ts' : List (Option Nat)} (x : AR c own h cvs vs ts) (y : AR c own h cvs' vs' ts') (hd : ∀ t,some t∈ts→some t ∉ ts') : AR c own h (cvs ++ cvs') (vs ++ vs') (ts ++ ts'):=by
 induction x with
 | nil=>exact y
 | fro r _ ih=>exact .fro r (ih fun t ht=>hd t (List.mem_cons_of_mem _ ht))
 | ow h1 h2 h3 h4 h5 h6 _ ih=>exact .ow h1 h2 h3 h4 h5 (fun q=>(List.mem_append.mp q).elim h6 (hd _ List.mem_cons_self)) (ih fun t ht=>hd t (List.mem_cons_of_mem _ ht))
theorem AR.rev {h : Heap} {cvs : List CV} {vs : List Value} {ts : List (Option Nat)} (x : AR c own h cvs vs ts) : AR c own h cvs.reverse vs.reverse ts.reverse:=by
 induction x with
 | nil=>exact .nil
 | fro r _ ih=>rw [List.reverse_cons,List.reverse_cons,List.reverse_cons]; exact ih.append (.fro r .nil) (by simp)
 | ow h1 h2 h3 h4 h5 h6 _ ih=>rw [List.reverse_cons,List.reverse_cons,List.reverse_cons]; exact ih.append (.ow h1 h2 h3 h4 h5 (by simp) .nil) (by intro t ht q; simp at ht q; subst q; exact h6 ht)
theorem GR.toAR {h : Heap} {t : Nat} {cvs : List CV} {vs : List Value} (x : GR c own h t cvs vs) (ht : c.names.length≤t) : ∃ ts,AR c own h cvs vs ts∧∀ t',some t'∈ts→t≤t':=by
 induction x with
 | nil=>exact ⟨[],.nil,by simp⟩
 | fro r _ ih=>obtain ⟨ts,h1,h2⟩:=ih ht; exact ⟨none::ts,.fro r h1,fun t' q=>h2 t' (by simpa using q)⟩
 | own h1 h2 h3 h4 _ ih =>
  obtain ⟨ts,q1,q2⟩:=ih (by exact Nat.le_add_right_of_le ht)
  refine ⟨some _::ts,.ow h1 h2 ht h3 h4 (fun q=>by have:=q2 _ q; lia) q1,fun t' q=>?_⟩
  rcases List.mem_cons.mp q with q | q
  ·cases q; exact Nat.le_refl _
  ·have:=q2 _ q; exact Nat.le_of_succ_le (q2 t' q)
theorem AR.push {cvs : List CV} {vs : List Value} {ts : List (Option Nat)} (r : AR c own s.heap cvs vs ts) {h' : Heap} (k : ∀ b o,s.heap.get? b = some o→h'.get? b = some o) : AR c own h' cvs vs ts :=
 r.step (fun b o hf e=>⟨hf,k b o e⟩) (fun a items n h=>k a _ h) fun J J J J e=>e
theorem AR.length {h : Heap} {cvs : List CV} {vs : List Value} {ts : List (Option Nat)} (x : AR c own h cvs vs ts) : vs.length = cvs.length:=by
 induction x with
 | nil=>rfl
 | fro _ _ ih=>simp [ih]
 | ow _ _ _ _ _ _ _ ih=>simp [ih]
theorem isTup_push {h : Heap} (vs : List Value) : IsTup (h.push { cls:=.type "tuple",data:=.seq vs.toArray }) h.objs.size vs.toArray :=
 ⟨_,Heap.get?_push_size _ rfl,rfl,0,rfl⟩
theorem OwnLe.ofRg {own1 : Nat→Option Addr} (h : ∀ j a,own1 j = some a→own j = some a∨s.heap.get? a = none) : OwnLe own own1 s.heap:=fun j a e=>(h j a e).elim (fun q=>.inl ⟨j,q⟩) .inr
noncomputable def tupRM (N n : Nat) (is : List Nat) (mg : List CV→Option (List CV)) : CM:=fun σ=>(mg σ).bind fun cvs=>if σ.length≤N∧cvs.length = n∧n≤64 then (storeAll is.reverse cvs.reverse σ).map (.next,·) else none
noncomputable def tupM (N n : Nat) (is : List Nat) (mg : List CV→Option (List CV)) : CM:=fun σ=>(mg σ).bind fun cvs=>if σ.length≤N∧cvs.length = n∧n≤64 then (storeAll is cvs σ).map (.next,·) else none
noncomputable def asgOM (N i : Nat) (m : List CV→Option CV) : CM:=fun σ=>(m σ).bind fun cv=>if σ.length≤N then (stA i cv σ).map (.next,·) else none
theorem Rs.tupSw {ts es : List PySem.Expr} {k k2 : Nat} {tp vp pos : Pos} {is : List Nat} {ys : List Str} {mg : List CV→Option (List CV)} (N : Nat) (W : Wf c) (hN : c.names.length = N) (h : Rg prog w hT c es mg) (hys : is.length = ys.length)
  (hn : ∀ (k : Nat) i y,is.reverse[k]? = some i→ys.reverse[k]? = some y→AtSlot c i y) (hw : swappedStores [.Tuple ts k tp] (.Tuple es k2 vp) c.env = pure (some ys)) :
  Rs prog w hT c (.Assign [.Tuple ts k tp] (.Tuple es k2 vp) pos) (tupRM N ys.length is mg):=fun own σ s f σ' x e'=>by
 refine bc fun hG=>?_
 revert e'
 refine oR fun cvs e1 e'=>?_
 refine hG ?_
 clear hG
 replace e':=ite_opt e'
 obtain ⟨hc,e'⟩:=e'
 ·refine bc fun hG=>?_
  revert e'
  refine mR fun σ1 e2 e'=>?_
  cases e'
  obtain ⟨hs,hl,h64⟩:=hc
  refine hG ?_
  clear hG
  refine Assign_Tuple_swapped (wpAny_Tuple (wp_w (h vp (clean c own) σ s cvs c.names.length x.clean (Nat.le_refl _) (fun j hj=>clean_none hj) e1) fun vs s₁ q=>?_)) (swapsTuple ..) hw
  refine bc fun hG=>?_
  obtain ⟨own1,x1,k1,o1,l1,g1⟩:=q
  obtain ⟨tt,ar,_⟩:=g1.toAR (Nat.le_refl _)
  refine hG ?_
  clear hG
  have hvl:=ar.length
  refine ⟨by rw [sizeLine_eq]; lia,?_⟩
  have e2' : Ex s₁ { s₁ with heap:=s₁.heap.push { cls:=.type "tuple",data:=.seq vs.toArray } }:=.push _
  have hsz : ys.length = vs.toArray.size:=by simp; lia
  rw [hsz]
  refine unpackItems_tuple W.aok.hd (isTup_push vs) fun h' he=>?_
  have e3 : Ex { s₁ with heap:=s₁.heap.push { cls:=.type "tuple",data:=.seq vs.toArray } } { s₁ with heap:=h' }:=⟨.of_all fun b o q=>he b o (Nat.ne_of_lt (Heap.lt_size q)) q,rfl,.same rfl⟩
  have E:=e2'.trans e3
  have ar' : AR c own1 h' cvs vs tt:=ar.push fun b o q=>he b o (Nat.ne_of_lt (Heap.lt_size (Heap.get?_push_of_some _ q))) (Heap.get?_push_of_some _ q)
  refine wp_w (AR.all (ys:=ys.reverse) W (by simp [hys]) (by simp [hys]) hn (fun k f y a b v Q s' hq=>?_) (x1.ex E) (by exact le_of_le_of_eq hs (id (Eq.symm hN))) (by simpa using ar'.rev) e2) fun J s₂ q=>?_
  ·rw [List.getElem?_map,b] at a; cases a
   exact wpAny_bindName hq
  ·refine bc fun hG=>?_
   obtain ⟨own2,x2,k2,l2,p2⟩:=q
   refine hG ?_
   clear hG
   refine ⟨own2,x2,?_,?_,?_,trivial⟩
   ·exact ((Ss.of_ex (k1.trans E)).trans (OwnLe.ofRg l1) k2).unclean
   ·exact ((OwnLe.ofRg (own:=clean c own) l1).trans (x1.ex E) (Ss.of_ex (own:=clean c own) (k1.trans E)) l2).unclean
   ·intro j hj
    have hjN : j < c.names.length:=by have:=lt_of_isM hj; lia
    obtain ⟨q1,q2⟩:=p2 j hj
    refine ⟨q1.trans ((o1 j hjN).trans ?_),q2⟩
    unfold clean; rw [if_neg (by exact Nat.not_le_of_lt hjN)]
noncomputable def isNames : List PySem.Expr→List Str→Bool
 | [],[]=>true
 | .Name y _::ts,z::ys=>y == z && isNames ts ys
 | _,_=>false
theorem isNames_cons {t : PySem.Expr} {ts : List PySem.Expr} {z : Str} {ys : List Str} (h : isNames (t::ts) (z::ys) = true) : ∃ p,t = .Name z p∧isNames ts ys = true:=by
 cases t <;> first | exact ff h | skip
 obtain ⟨h1,h2⟩:=bA h
 exact ⟨_,by rw [beq_iff_eq.mp h1],h2⟩
theorem isNames_end {t : PySem.Expr} {ts : List PySem.Expr} (h : isNames (t::ts) [] = true) : False:=by cases t <;> exact ff h
theorem isNames_at {env : Env} {ts : List PySem.Expr} : ∀ {ys : List Str},isNames ts ys = true→∀ (k : Nat) f y,((assignEach ts env).map (·.2))[k]? = some f→ys[k]? = some y→∃ p,f = fun v=>assign (.Name y p) env v:=by
 induction ts with
 | nil=>intro ys _ k f y a _; cases k <;> exact nomatch a
 | cons t ts ih =>
  intro ys h k f y a b
  cases ys with
  | nil=>exact nomatch b
  | cons z ys =>
   refine bc fun hG=>?_
   obtain ⟨p,rfl,h2⟩:=isNames_cons h
   refine hG ?_
   clear hG
   cases k with
   | zero=>cases b; cases a; exact ⟨p,rfl⟩
   | succ k=>exact ih h2 k f y a b
theorem isNames_len {env : Env} {ts : List PySem.Expr} : ∀ {ys : List Str},isNames ts ys = true→(assignEach ts env).length = ys.length∧(assignEach ts env).findIdx? (·.1) = none:=by
 induction ts with
 | nil=>intro ys h; cases ys with | nil=>exact ⟨rfl,rfl⟩ | cons _ _=>exact nomatch h
 | cons t ts ih =>
  intro ys h
  cases ys with
  | nil=>exact (isNames_end h).elim
  | cons z ys =>
   refine bc fun hG=>?_
   obtain ⟨p,rfl,h2⟩:=isNames_cons h
   obtain ⟨a,b⟩:=ih h2
   refine hG ?_
   exact ⟨congrArg (· + 1) a,by show List.findIdx? _ ((false,_)::assignEach ts env) = none; rw [List.findIdx?_cons,b]; rfl⟩
theorem Rs.tupIn {ts es : List PySem.Expr} {k k2 : Nat} {tp vp pos : Pos} {is : List Nat} {ys : List Str} {mg : List CV→Option (List CV)} (N : Nat) (W : Wf c) (hN : c.names.length = N) (h : Rg prog w hT c es mg) (hys : is.length = ys.length)
  (hn : ∀ (k : Nat) i y,is[k]? = some i→ys[k]? = some y→AtSlot c i y) (hnm : isNames ts ys = true) (hw : swappedStores [.Tuple ts k tp] (.Tuple es k2 vp) c.env = pure none) :
  Rs prog w hT c (.Assign [.Tuple ts k tp] (.Tuple es k2 vp) pos) (tupM N ys.length is mg):=fun own σ s f σ' x e'=>by
 refine bc fun hG=>?_
 revert e'
 refine oR fun cvs e1 e'=>?_
 refine hG ?_
 clear hG
 replace e':=ite_opt e'
 obtain ⟨hc,e'⟩:=e'
 ·refine bc fun hG=>?_
  revert e'
  refine mR fun σ1 e2 e'=>?_
  cases e'
  obtain ⟨hs,hl,h64⟩:=hc
  refine hG ?_
  clear hG
  refine Assign_Tuple (wpAny_Tuple (wp_w (h vp (clean c own) σ s cvs c.names.length x.clean (Nat.le_refl _) (fun j hj=>clean_none hj) e1) fun vs s₁ q=>?_)) (swapsTuple ..) hw
  refine bc fun hG=>?_
  obtain ⟨own1,x1,k1,o1,l1,g1⟩:=q
  obtain ⟨tt,ar,_⟩:=g1.toAR (Nat.le_refl _)
  refine hG ?_
  clear hG
  have hvl:=ar.length
  refine ⟨by rw [sizeLine_eq]; lia,?_⟩
  have e2' : Ex s₁ { s₁ with heap:=s₁.heap.push { cls:=.type "tuple",data:=.seq vs.toArray } }:=.push _
  obtain ⟨n1,n2⟩:=isNames_len (env:=c.env) hnm
  refine assign_Tuple_tuple W.aok.hd (isTup_push vs) (by rw [n1]; simp; lia) n2 fun h' he=>?_
  have e3 : Ex { s₁ with heap:=s₁.heap.push { cls:=.type "tuple",data:=.seq vs.toArray } } { s₁ with heap:=h' }:=⟨.of_all fun b o q=>he b o (Nat.ne_of_lt (Heap.lt_size q)) q,rfl,.same rfl⟩
  have E:=e2'.trans e3
  have ar' : AR c own1 h' cvs vs tt:=ar.push fun b o q=>he b o (Nat.ne_of_lt (Heap.lt_size (Heap.get?_push_of_some _ q))) (Heap.get?_push_of_some _ q)
  refine wp_w (AR.all (ys:=ys) W (by simp [hys,n1]) hys hn (fun k f y a b v Q s' hq=>?_) (x1.ex E) (by exact le_of_le_of_eq hs (id (Eq.symm hN))) (by simpa using ar') e2) fun J s₂ q=>?_
  ·obtain ⟨p,rfl⟩:=isNames_at hnm k f y a b
   exact wpAny_assign_Name hq
  ·refine bc fun hG=>?_
   obtain ⟨own2,x2,k2,l2,p2⟩:=q
   refine hG ?_
   clear hG
   refine ⟨own2,x2,?_,?_,?_,trivial⟩
   ·exact ((Ss.of_ex (k1.trans E)).trans (OwnLe.ofRg l1) k2).unclean
   ·exact ((OwnLe.ofRg (own:=clean c own) l1).trans (x1.ex E) (Ss.of_ex (own:=clean c own) (k1.trans E)) l2).unclean
   ·intro j hj
    have hjN : j < c.names.length:=by have:=lt_of_isM hj; lia
    obtain ⟨q1,q2⟩:=p2 j hj
    refine ⟨q1.trans ((o1 j hjN).trans ?_),q2⟩
    unfold clean; rw [if_neg (by exact Nat.not_le_of_lt hjN)]
theorem Rs.asgO {y : Str} {px pos : Pos} {e : PySem.Expr} {i : Nat} {m : List CV→Option CV} (N : Nat) (W : Wf c) (hN : c.names.length = N) (hn : AtSlot c i y) (h : Rfr prog w hT c e m)
  (hs : swapsWith e (some (.Name y px)) pos.line c.env = pure false:=by intros; rfl) :
  Rs prog w hT c (.Assign [.Name y px] e pos) (asgOM N i m):=fun own σ s f σ' x e'=>by
 refine bc fun hG=>?_
 revert e'
 refine oR fun cv e1 e'=>?_
 refine hG ?_
 clear hG
 replace e':=ite_opt e'
 obtain ⟨hc,e'⟩:=e'
 ·refine bc fun hG=>?_
  revert e'
  refine mR fun σ1 e2 e'=>?_
  refine hG ?_
  clear hG
  cases e'
  refine wpAny_Assign_Name (wp_w (h (clean c own) σ s cv x.clean e1) fun v s₁ q=>?_) hs
  refine bc fun hG=>?_
  obtain ⟨q1,q2,l,items,n,q3,q4,q5,q6⟩:=q
  refine hG ?_
  clear hG
  have hno : clean c own c.names.length = none:=clean_none (Nat.le_refl _)
  have x1:=x.clean.tmp q1 (Nat.le_refl c.names.length) hno q3 q4
  have ot : tmpO (clean c own) c.names.length l c.names.length = some l:=by unfold tmpO; rw [if_pos rfl]
  have mv : ∀ b o,¬ (FF c (clean c own) b∨b = l)→s₁.heap.get? b = some o→¬ FF c (tmpO (clean c own) c.names.length l) b∧s₁.heap.get? b = some o:=fun b o hf e=>by
   refine ⟨fun f=>?_,e⟩
   rcases f with f | f | f | ⟨j,f⟩
   ·exact hf (.inl (.inl f))
   ·exact hf (.inl (.inr (.inl f)))
   ·exact hf (.inl (.inr (.inr (.inl f))))
   ·unfold tmpO at f
    split at f
    ·cases f; exact hf (.inr rfl)
    ·exact hf (.inl (.inr (.inr (.inr ⟨j,f⟩))))
  have ar : AR c (tmpO (clean c own) c.names.length l) s₁.heap [cv] [v] [some c.names.length] :=
   .ow q2 ot (Nat.le_refl _) ((q5.move (own':=fun J=>some l) mv fun J e=>e).re fun l' e=>by cases e; exact ot) (q6.move mv fun o e=>e) (by simp) .nil
  refine wp_w (AR.store1 W x1 hn (by exact le_of_le_of_eq hc (id (Eq.symm hN))) ar e2) fun J s₂ q=>?_
  refine bc fun hG=>?_
  obtain ⟨own2,x2,k2,l2,p2,_⟩:=q
  refine hG ?_
  clear hG
  have le1 : OwnLe (clean c own) (tmpO (clean c own) c.names.length l) s.heap:=fun j a e=>by
   unfold tmpO at e
   split at e
   ·cases e; exact .inr q3
   ·exact .inl ⟨j,e⟩
  refine ⟨own2,x2,((Ss.of_ex q1).trans le1 k2.of_no).unclean,(le1.trans x1 (Ss.of_ex q1) l2).unclean,fun j hj=>?_,trivial⟩
  have hjN : j < c.names.length:=by have:=lt_of_isM hj; lia
  obtain ⟨r1,r2⟩:=p2 j hj
  refine ⟨r1.trans ?_,r2⟩
  unfold tmpO clean; rw [if_neg (by exact Nat.ne_of_lt hjN),if_neg (by exact Nat.not_le_of_lt hjN)]
end
end Mine
open PySem PySem.Calls PyProof.Rows PySem.W PySem.Spec
namespace Mine
noncomputable def ints? : List CV→Option (List Int)
 | []=>some []
 | a::r=>asI (fun i=>(ints? r).map (i::·)) a
noncomputable def strs? : List CV→Option (List Str)
 | []=>some []
 | a::r=>asS (fun i=>(strs? r).map (i::·)) a
noncomputable def sortI (l : List Int) : List Int:=l.mergeSort fun a b=>decide (a≤b)
noncomputable def leStr (a b : Str) : Bool:=!decide (b.cps.toList < a.cps.toList)
noncomputable def sortS (l : List Str) : List Str:=l.mergeSort leStr
theorem sortI_eq {l l' : List Int} (h1 : l'.Perm l) (h2 : l'.Pairwise (·≤·)) : l' = sortI l:=by
 have p : (sortI l).Pairwise (·≤·):=by
  have:=List.pairwise_mergeSort (le:=fun a b : Int=>decide (a≤b)) (by intro a b c; simp; exact fun a_1 a_2=>Int.le_trans a_1 a_2) (by intro a b; simp; exact Int.le_total a b) l
  exact this.imp fun h=>by simpa using h
 exact List.Perm.eq_of_pairwise (le:=(·≤·)) (fun a b J J h h'=>Int.le_antisymm h h') h2 p (h1.trans (List.mergeSort_perm l _).symm)
theorem leStr_iff (a b : Str) : leStr a b = true ↔ a.cps.toList≤b.cps.toList:=by
 simp only [leStr,Bool.not_eq_true',decide_eq_false_iff_not]
 exact List.not_lt
theorem Str.ext_list {a b : Str} (h : a.cps.toList = b.cps.toList) : a = b:=by
 cases a; cases b; simp only at h; rw [Array.toList_inj.mp h]
theorem sortS_eq {l l' : List Str} (h1 : l'.Perm l) (h2 : l'.Pairwise fun a b=>leStr a b = true) : l' = sortS l:=by
 have p : (sortS l).Pairwise fun a b=>leStr a b = true:=List.pairwise_mergeSort (le:=leStr)
  (by intro a b c; simp only [leStr_iff]; exact List.le_trans) (by intro a b; simp only [Bool.or_eq_true,leStr_iff]; exact List.le_total _ _) l
 exact List.Perm.eq_of_pairwise (le:=fun a b=>leStr a b = true) (fun a b J J h h'=>by
  rw [leStr_iff] at h h'
  exact Str.ext_list (List.le_antisymm h h')) h2 p (h1.trans (List.mergeSort_perm l _).symm)
theorem rising_pw : ∀ (p : Str) (l : List Str),risingS p l = true→(p::l).Pairwise fun a b=>leStr a b = true:=by
 intro p l
 induction l generalizing p with
 | nil =>
  intro _
  simp
 | cons x r rising_pw =>
  intro h
  have h : (!ltCps x.cps.toList p.cps.toList && risingS x r) = true:=h
  obtain ⟨h1,h2⟩:=bA h
  have ih:=rising_pw x h2
  have hx : leStr p x = true:=by
   rw [ltCps_eq] at h1; simpa [leStr] using h1
  refine List.pairwise_cons.mpr ⟨fun b hb=>?_,ih⟩
  rcases List.mem_cons.mp hb with rfl | hb
  ·exact hx
  ·have:=(List.pairwise_cons.mp ih).1 b hb
   rw [leStr_iff] at *
   exact List.le_trans hx this
theorem sorted_pw {l : List Str} (h : sortedS l = true) : l.Pairwise fun a b=>leStr a b = true:=by
 cases l with
 | nil=>simp
 | cons x r=>exact rising_pw x r h
section
variable {prog : Program} {w : World} {hT : Heap} {c : FC} {own own' own'' : Nat→Option Addr} {σ σ' : List CV} {s s' s'' : Shared} {mg mb : Str→Option Value}
theorem VRs.ints {F : Addr→Prop} {h : Heap} {cs : List CV} {vs : List Value} (x : VRs F h cs vs) {ns : List Int} (e : ints? cs = some ns) : IntsAre vs ns:=by
 induction cs generalizing vs ns with
 | nil=>cases x.nil_inv; cases e; exact .nil
 | cons c cs ih =>
  obtain ⟨u,us,rfl,x1,x2⟩:=x.cons_inv
  replace e:=asI_inv e
  obtain ⟨i,rfl,e⟩:=e
  obtain ⟨ns',e1,rfl⟩:=oM e
  obtain ⟨t,rfl⟩:=x1.int_inv
  exact .cons _ _ (ih x2 e1)
theorem VRs.strs {F : Addr→Prop} {h : Heap} {cs : List CV} {vs : List Value} (x : VRs F h cs vs) {ns : List Str} (e : strs? cs = some ns) : StrsAre vs ns:=by
 induction cs generalizing vs ns with
 | nil=>cases x.nil_inv; cases e; exact .nil
 | cons c cs ih =>
  obtain ⟨u,us,rfl,x1,x2⟩:=x.cons_inv
  replace e:=asS_inv e
  obtain ⟨i,rfl,e⟩:=e
  obtain ⟨ns',e1,rfl⟩:=oM e
  obtain ⟨t,rfl⟩:=x1.str_inv
  exact .cons _ _ (ih x2 e1)
theorem VRs.ofInts {F : Addr→Prop} {h : Heap} {vs : List Value} {ns : List Int} (x : IntsAre vs ns) : VRs F h (ns.map .int) vs:=by
 induction x with
 | nil=>exact .nil
 | cons n t _ ih=>exact .cons (.int _ _) ih
theorem VRs.ofStrs {F : Addr→Prop} {h : Heap} {vs : List Value} {ns : List Str} (x : StrsAre vs ns) : VRs F h (ns.map .str) vs:=by
 induction x with
 | nil=>exact .nil
 | cons n t _ ih=>exact .cons (.str _ _) ih
noncomputable def CallOk (prog : Program) (w : World) (hT : Heap) (c : FC) (fv : Value) (f : List CV→List CV→Option CV) : Prop :=
 ∀ own σ s cvs (vs : List Value) cv,SR hT c own σ s→vs.length = cvs.length→(∀ (i : Nat) (x : CV) (v : Value),cvs[i]? = some x→vs[i]? = some v→ER c own σ s.heap x v)→f σ cvs = some cv →
  wpAny (model prog w) c.A (call fv vs) (fun v s'=>Ex s s'∧ER c own σ s'.heap cv v) noE s
theorem Rf.callT {y : Str} {py pos : Pos} {e : PySem.Expr} {rest : List PySem.Expr} {T : String} {ms : List CV→Option (List CV)} {f : List CV→List CV→Option CV} (hf : Rf prog w hT c (.Name y py) (fun J=>some (.ty T))) (hs : Rfs prog w hT c (e::rest) ms)
  (hc : CallOk prog w hT c (.type T) f)
  (he : ∀ env,starEach (e::rest) env = (false,eval e env)::starEach rest env:=by intro _; rfl) (hplain : ∀ env,(backTo pos (starEach rest env)).any (·.1) = false:=by intro _; rfl) :
  Rf prog w hT c (.Call (.Name y py) (e::rest) [] pos) (fun σ=>(ms σ).bind (f σ)):=fun own σ s cv x e'=>by
 refine bc fun hG=>?_
 refine oE e' fun cvs e1 e2=>?_
 refine hG ?_
 clear hG
 refine wpAny_Call_Name_kw (wp_w (hf own σ s _ x rfl) fun fv s₁ h₁=>?_)
 obtain rfl:=VR.ty_inv h₁.2
 have x₁:=x.ex h₁.1
 refine Pv.callWith_type1 (wp_w (hs pos own σ s₁ cvs x₁ e1) fun vs s₂ h₂=>?_) (he _) (hplain _)
 exact wp_w (hc own σ s₂ cvs vs cv (x₁.ex h₂.1) h₂.2.1 h₂.2.2 e2) fun v s₃ h₃=>⟨h₁.1.trans (h₂.1.trans h₃.1),h₃.2⟩
theorem Rf.callB {y : Str} {py pos : Pos} {e : PySem.Expr} {rest : List PySem.Expr} {T : String} {ms : List CV→Option (List CV)} {f : List CV→List CV→Option CV} (hf : Rf prog w hT c (.Name y py) (fun J=>some (.bi T))) (hs : Rfs prog w hT c (e::rest) ms)
  (hc : CallOk prog w hT c (.builtin T) f)
  (he : ∀ env,starEach (e::rest) env = (false,eval e env)::starEach rest env:=by intro _; rfl) (hplain : ∀ env,(backTo pos (starEach rest env)).any (·.1) = false:=by intro _; rfl) :
  Rf prog w hT c (.Call (.Name y py) (e::rest) [] pos) (fun σ=>(ms σ).bind (f σ)):=fun own σ s cv x e'=>by
 refine bc fun hG=>?_
 refine oE e' fun cvs e1 e2=>?_
 refine hG ?_
 clear hG
 refine wpAny_Call_Name_kw (wp_w (hf own σ s _ x rfl) fun fv s₁ h₁=>?_)
 obtain rfl:=VR.bi_inv h₁.2
 have x₁:=x.ex h₁.1
 have hs':=hs pos own σ s₁ cvs x₁ e1
 show wpAny _ _ (callWith pos (.builtin T) [] (backTo pos (starEach (e::rest) c.env)) []) _ _ _
 rw [he] at hs' ⊢
 refine callWith_builtin (by show (false || (backTo pos (starEach rest c.env)).any (·.1)) = false; rw [hplain]; rfl) (evalArgs_plain (wp_w hs' fun vs s₂ h₂=>?_))
 exact wp_w (hc own σ s₂ cvs vs cv (x₁.ex h₂.1) h₂.2.1 h₂.2.2 e2) fun v s₃ h₃=>⟨h₁.1.trans (h₂.1.trans h₃.1),h₃.2⟩
theorem args1 {cvs : List CV} {vs : List Value} {a : CV} {P : CV→Value→Prop} (h : cvs = [a]) (hl : vs.length = cvs.length) (hr : ∀ (i : Nat) (x : CV) (v : Value),cvs[i]? = some x→vs[i]? = some v→P x v) : ∃ v,vs = [v]∧P a v:=by
 subst h
 obtain ⟨v,rfl⟩:=len1 hl
 exact ⟨v,rfl,hr 0 a v rfl rfl⟩
theorem args2 {cvs : List CV} {vs : List Value} {a b : CV} {P : CV→Value→Prop} (h : cvs = [a,b]) (hl : vs.length = cvs.length) (hr : ∀ (i : Nat) (x : CV) (v : Value),cvs[i]? = some x→vs[i]? = some v→P x v) : ∃ v u,vs = [v,u]∧P a v∧P b u:=by
 subst h
 obtain ⟨v,u,rfl⟩:=len2 hl
 exact ⟨v,u,rfl,hr 0 a v rfl rfl,hr 1 b u rfl rfl⟩
theorem args3 {cvs : List CV} {vs : List Value} {a b d : CV} {P : CV→Value→Prop} (h : cvs = [a,b,d]) (hl : vs.length = cvs.length) (hr : ∀ (i : Nat) (x : CV) (v : Value),cvs[i]? = some x→vs[i]? = some v→P x v) : ∃ v u z,vs = [v,u,z]∧P a v∧P b u∧P d z:=by
 subst h
 obtain ⟨v,u,z,rfl⟩:=len3 hl
 exact ⟨v,u,z,rfl,hr 0 a v rfl rfl,hr 1 b u rfl rfl,hr 2 d z rfl rfl⟩
noncomputable def rangeF (_ : List CV) : List CV→Option CV
 | [a]=>asI (fun n=>some (.rng 0 n 1)) a
 | [a,b]=>ii (fun a b=>some (.rng a b 1)) a b
 | [a,b,d]=>asI (fun z=>ii (fun a b=>if z ≠ 0∧z.natAbs < 1073741824 then some (.rng a b z) else none) a b) d
 | _=>none
theorem SR.fresh (x : SR hT c own σ s) : ¬ FF c own s.heap.objs.size:=x.fnew (by
 cases e : s.heap.get? s.heap.objs.size with
 | none=>rfl
 | some o=>exact absurd (Heap.lt_size e) (Nat.lt_irrefl _))
theorem range_ok : CallOk prog w hT c (.type "range") rangeF:=fun own σ s cvs vs cv x hl hr e=>by
 match cvs,e with
 | [],e=>exact none_ne e
 | [a],e =>
  refine bc fun hG=>?_
  obtain ⟨v,rfl,r⟩:=args1 rfl hl hr
  replace e:=asI_inv e
  obtain ⟨n,rfl,e⟩:=e
  obtain ⟨t,rfl⟩:=VR.int_inv r
  refine hG ?_
  clear hG
  cases e
  exact call_range_1 ⟨.push _,VR.rng x.fresh (IsRange.new ..)⟩
 | [a,b],e =>
  refine bc fun hG=>?_
  obtain ⟨v,u,rfl,r,r'⟩:=args2 rfl hl hr
  replace e:=ii_inv e
  obtain ⟨n,m,rfl,rfl,e⟩:=e
  obtain ⟨t,t',rfl,rfl⟩:=r.ints r'
  refine hG ?_
  clear hG
  cases e
  exact call_range_2 ⟨.push _,VR.rng x.fresh (IsRange.new ..)⟩
 | [a,b,d],e =>
  refine bc fun hG=>?_
  obtain ⟨v,u,z,rfl,r,r',r''⟩:=args3 rfl hl hr
  replace e:=asI_inv e
  obtain ⟨k,rfl,e⟩:=e
  replace e:=ii_inv e
  obtain ⟨n,m,rfl,rfl,e⟩:=e
  obtain ⟨hc,rfl⟩:=ite_some e
  obtain ⟨t,t',rfl,rfl⟩:=r.ints r'
  obtain ⟨t,rfl⟩:=VR.int_inv r''
  refine hG ?_
  clear hG
  exact call_range_3 hc.1 ⟨.push _,VR.rng x.fresh (IsRange.new ..)⟩ (.inl (PyProof.noPylong_small hc.2))
 | _::_::_::_::_,e=>exact none_ne e
noncomputable def lenF (σ : List CV) : List CV→Option CV:=on1 fun a=>(lst σ a).map fun vs=>.int vs.length
theorem len_ok : CallOk prog w hT c (.builtin "len") lenF:=fun own σ s cvs vs cv x hl hr e=>by
 replace e:=on1_inv e
 refine bc fun hG=>?_
 obtain ⟨a,rfl,e⟩:=e
 obtain ⟨v,rfl,r⟩:=args1 rfl hl hr
 obtain ⟨ws,e1,rfl⟩:=oM e
 obtain ⟨a,n,items,rfl,h1,h2,h3,_⟩:=r.lst x e1
 refine hG ?_
 clear hG
 exact len_list h1.isList (by lia) ⟨.tok,by rw [h3.sz]; exact VR.int _ _⟩
noncomputable def sumF (σ : List CV) : List CV→Option CV:=on1 fun a=>(lst σ a).bind fun vs=>(ints? vs).map fun ns=>.int ns.sum
noncomputable def sortF (σ : List CV) : List CV→Option CV:=on1 fun a=>(lst σ a).bind fun vs=>if vs.length < 64 then match ints? vs with
  | some ns=>some (.list ((sortI ns).map .int))
  | none=>(strs? vs).map fun ns=>.list ((sortS ns).map .str)
  else none
theorem sort_ok : CallOk prog w hT c (.builtin "sorted") sortF:=fun own σ s cvs vs cv x hl hr e=>by
 replace e:=on1_inv e
 refine bc fun hG=>?_
 obtain ⟨_,rfl,e⟩:=e
 obtain ⟨v,rfl,r⟩:=args1 rfl hl hr
 refine hG ?_
 clear hG
 ·skip
  refine bc fun hG=>?_
  refine oE e fun ws e1 e2=>?_
  refine hG ?_
  clear hG
  split at e2
  ·have h64 : ws.length < 64:=by assumption
   refine bc fun hG=>?_
   obtain ⟨a,n,items,rfl,h1,h2,h3,_⟩:=r.lst x e1
   refine hG ?_
   clear hG
   have hlen:=h3.length
   have keep : ∀ (out : Array Value) b o,s.heap.get? b = some o→(sortedAll s.heap items.toList out).get? b = some o:=fun out b o e=>sortedAll_old e
   have hnew : s.heap.get? (s.heap.objs.size + 1) = none:=by
    cases e : s.heap.get? (s.heap.objs.size + 1) with
    | none=>rfl
    | some o=>exact absurd (Heap.lt_size e) (Nat.not_lt.mpr (Nat.le_succ _))
   split at e2
   ·rename_i ns hns
    cases e2
    refine sorted_ints (vs:=items.toList) (by simpa using h1.isList) (h3.ints hns) (by exact hlen▸h64) fun out ns' g1 g2 g3=>?_
    obtain ⟨e,he⟩:=sortedAll_at s.heap items.toList out
    rw [← sortI_eq g2 g3]
    refine ⟨.all (keep out),VR.list (x.fnew hnew) he (by have:=(VRs.ofInts (F:=fun J=>False) (h:=s.heap) g1).length; simp at this; have:=g2.length_eq; have:=(VRs.ofInts (F:=fun J=>False) (h:=s.heap) (h3.ints hns)).length; simp at this; lia) (VRs.ofInts g1)⟩
   ·refine mE e2 fun ns hns e3=>?_
    subst e3
    refine sorted_strs (vs:=items.toList) (by simpa using h1.isList) (h3.strs hns) (by exact hlen▸h64) fun out ns' g1 g2 g3=>?_
    obtain ⟨e,he⟩:=sortedAll_at s.heap items.toList out
    rw [← sortS_eq g2 (sorted_pw g3)]
    refine ⟨.all (keep out),VR.list (x.fnew hnew) he (by have:=(VRs.ofStrs (F:=fun J=>False) (h:=s.heap) g1).length; simp at this; have:=g2.length_eq; have:=(VRs.ofStrs (F:=fun J=>False) (h:=s.heap) (h3.strs hns)).length; simp at this; lia) (VRs.ofStrs g1)⟩
  ·cases e2
theorem ints_items {vs : List Value} {ns : List Int} (x : IntsAre vs ns) : ∃ xs : Array (Int × Tok),intItems xs = vs.toArray∧preSum (numAt xs) xs.size = ns.sum:=by
 have ex : ∃ ps : List (Int × Tok),ps.map (fun p=>Value.int p.1 p.2) = vs∧ps.map (·.1) = ns:=by
  induction x with
  | nil=>exact ⟨[],rfl,rfl⟩
  | cons n t _ ih=>obtain ⟨ps,h1,h2⟩:=ih; exact ⟨(n,t)::ps,by simp [h1],by simp [h2]⟩
 obtain ⟨ps,h1,h2⟩:=ex
 refine ⟨ps.toArray,by rw [← h1]; simp [intItems],?_⟩
 have key : ∀ k,k≤ps.length→preSum (numAt ps.toArray) k = (ns.take k).sum:=by
  intro k
  induction k with
  | zero=>intro _; simp [preSum]
  | succ k ih =>
   intro hk
   have hk' : k < ns.length:=by rw [← h2]; simp; exact Nat.lt_of_succ_le hk
   rw [preSum,ih (by exact Nat.le_of_succ_le hk),take_sum_succ ns k hk']
   congr 1
   rw [← h2]
   simp [numAt,List.getD]
 have:=key ps.length (Nat.le_refl _)
 rw [show ps.length = ns.length by rw [← h2]; simp,List.take_length] at this
 rw [← this]; congr 1; rw [← h2]; simp
theorem sum_ok (W : Wf c) : CallOk prog w hT c (.builtin "sum") sumF:=fun own σ s cvs vs cv x hl hr e=>by
 replace e:=on1_inv e
 refine bc fun hG=>?_
 obtain ⟨_,rfl,e⟩:=e
 obtain ⟨v,rfl,r⟩:=args1 rfl hl hr
 refine hG ?_
 clear hG
 ·skip
  refine bc fun hG=>?_
  refine oE e fun ws e1 e2=>?_
  refine mE e2 fun ns e3 e4=>?_
  subst e4
  obtain ⟨a,n,items,rfl,h1,h2,h3,_⟩:=r.lst x e1
  obtain ⟨xs,hx1,hx2⟩:=ints_items (h3.ints e3)
  refine hG ?_
  clear hG
  have hl' : s.heap.IsList a (intItems xs):=by rw [hx1]; simpa using h1.isList
  refine sum_intListG W.aok.hd hl' fun h' tk t' hk=>⟨.all hk,?_⟩
  rw [hx2]
  exact VR.int _ _
noncomputable def tyOf : CV→Option CV
 | .int _=>some (.ty "int")
 | .bool _=>some (.ty "bool")
 | .str _=>some (.ty "str")
 | .list _=>some (.ty "list")
 | _=>none
noncomputable def typeF (σ : List CV) : List CV→Option CV:=on1 fun a=>(rd σ a).bind tyOf
theorem type_ok : CallOk prog w hT c (.type "type") typeF:=fun own σ s cvs vs cv x hl hr e=>by
 replace e:=on1_inv e
 refine bc fun hG=>?_
 obtain ⟨a,rfl,e⟩:=e
 obtain ⟨v,rfl,r⟩:=args1 rfl hl hr
 refine oE e fun b e1 e2=>?_
 refine hG ?_
 clear hG
 have rr:=r.rd x e1
 clear e r hl hr e1
 cases b <;> first | exact none_ne e2 | skip
 all_goals
  cases e2
  have rr:=VR.inv rr
 ·obtain rfl:=rr
  exact call_type_of (PySem.typeIs_bool ..) (by decide) ⟨.refl _,VR.ty _⟩
 ·obtain ⟨t,rfl⟩:=rr
  exact call_type_of (typeIs_int ..) (by decide) ⟨.refl _,VR.ty _⟩
 ·obtain ⟨t,rfl⟩:=rr
  exact call_type_of (typeIs_str ..) (by decide) ⟨.refl _,VR.ty _⟩
 ·refine bc fun hG=>?_
  obtain ⟨a,items,n,rfl,_,h1,_⟩:=rr
  refine hG ?_
  clear hG
  exact call_type_of (IsL.isList h1).typeIs (by decide) ⟨.refl _,VR.ty _⟩
end
structure At (hT : Heap) (s : Shared) : Prop where
 top : Kp hT s.heap
 gens : AllBare s.gens
 tok : ∃ ps,TabOk s.heap ps
section
variable {prog : Program} {w : World} {hT : Heap} {c : FC} {own own' own'' : Nat→Option Addr} {σ σ' : List CV} {s s' s'' : Shared} {mg mb : Str→Option Value}
theorem SR.at (x : SR hT c own σ s) : At hT s:=⟨x.top,x.gens.b,x.tok⟩
theorem At.lim (T : TF prog hT mg mb) (x : At hT s) : s.heap.NoLimit:=by
 obtain ⟨mc,h1,h2⟩:=T.lim
 exact ⟨mc,h1.at' fun J=>x.top.keep _ _ (by decide),h2⟩
theorem bindL_miss {kindOf : Str→Option NameKind} : ∀ {binds : List (Str × Value)} {m : Str→Option Value} {x : Str},x ∉ binds.map (·.1)→bindL kindOf binds m x = m x:=by
 intro binds
 induction binds with
 | nil =>
  intro _ _ _
  exact rfl
 | cons p0 r bindL_miss =>
  obtain ⟨n,v⟩:=p0
  intro m x h
  simp only [List.map_cons,List.mem_cons,not_or] at h
  unfold bindL
  rw [bindL_miss h.2]
  split
  ·exact if_neg h.1
  ·rfl
theorem bindC_miss {kindOf : Str→Option NameKind} : ∀ {binds : List (Str × Value)} {m : Str→Option Value} {x : Str},x ∉ binds.map (·.1)→bindC kindOf binds m x = m x:=by
 intro binds
 induction binds with
 | nil =>
  intro _ _ _
  exact rfl
 | cons p0 r bindC_miss =>
  obtain ⟨n,v⟩:=p0
  intro m x h
  simp only [List.map_cons,List.mem_cons,not_or] at h
  unfold bindC
  rw [bindC_miss h.2]
  split
  ·rfl
  ·exact if_neg h.1
theorem bindL_hit {kindOf : Str→Option NameKind} {binds : List (Str × Value)} : ∀ {m : Str→Option Value} {i : Nat} {x : Str} {v : Value},(binds.map (·.1)).Nodup→binds[i]? = some (x,v)→kindOf x = some .local→bindL kindOf binds m x = some v:=by
 induction binds with
 | nil=>intro m i x v _ h _; exact nomatch h
 | cons p r ih =>
  obtain ⟨n,u⟩:=p
  intro m i x v hn h hk
  replace hn:=List.nodup_cons.mp hn
  unfold bindL
  cases i with
  | zero=>cases h; rw [bindL_miss hn.1,if_pos hk,if_pos rfl]
  | succ i=>exact ih hn.2 h hk
theorem bindC_hit {kindOf : Str→Option NameKind} {binds : List (Str × Value)} : ∀ {m : Str→Option Value} {i : Nat} {x : Str} {v : Value},(binds.map (·.1)).Nodup→binds[i]? = some (x,v)→kindOf x = some .cell→bindC kindOf binds m x = some v:=by
 induction binds with
 | nil=>intro m i x v _ h _; exact nomatch h
 | cons p r ih =>
  obtain ⟨n,u⟩:=p
  intro m i x v hn h hk
  replace hn:=List.nodup_cons.mp hn
  unfold bindC
  cases i with
  | zero=>cases h; rw [bindC_miss hn.1,if_neg (by rw [hk]; decide),if_pos rfl]
  | succ i=>exact ih hn.2 h hk
theorem cellsFrom_mem : ∀ {names : List (Str × NameKind)} {n : Nat} {acc : List (Str × Addr)} {x : Str},(x∈acc.map (·.1)∨(x,NameKind.cell)∈names)→∃ a,(cellsFrom n names acc).lookup x = some a:=by
 intro names
 induction names with
 | nil =>
  intro n acc x h
  have h : x∈acc.map (·.1):=h.elim id (fun q=>by simp at q)
  unfold cellsFrom
  induction acc with
  | nil=>simp at h
  | cons p r ih =>
   rw [List.lookup_cons]
   cases hb : x == p.1 with
   | true=>exact ⟨_,rfl⟩
   | false =>
    have : x∈r.map (·.1):=by
     rcases List.mem_cons.mp h with q | q
     ·rw [q] at hb; simp at hb
     ·exact q
    exact ih (.inl this) this
 | cons p0 r cellsFrom_mem =>
  obtain ⟨y,k⟩:=p0
  intro n acc x h
  unfold cellsFrom
  split
  ·refine cellsFrom_mem ?_
   rcases h with h | h
   ·exact .inl (List.mem_cons_of_mem _ h)
   ·rcases List.mem_cons.mp h with q | q
    ·cases q; exact .inl List.mem_cons_self
    ·exact .inr q
  ·rename_i hk
   refine cellsFrom_mem ?_
   rcases h with h | h
   ·exact .inl h
   ·rcases List.mem_cons.mp h with q | q
    ·cases q; exact absurd rfl hk
    ·exact .inr q
noncomputable def entC (A : Around) (env : Env) (s : Shared) (F P : Addr→Prop) : FC:=⟨A,env,F,s,P,fun J=>false⟩
theorem enterSR {A : Around} {env : Env} {F P : Addr→Prop} {binds : List (Str × Value)} {sc : Scope} (x : At hT s) (hF : F tabA) (hFa : ∀ a,F a→a ≠ tabA→NF s.heap a)
  (hsc : env.scope = sc) (hnd : (sc.names.map (·.1)).Nodup) (hcells : ∀ (i : Nat) y,sc.names[i]? = some (y,NameKind.cell)→∃ a,env.cells.lookup y = some a) (hloc : env.locals = s.heap.objs.size)
  (hb : ∀ (i : Nat) y k,sc.names[i]? = some (y,k)→∀ (p : Str × Value),binds[i]? = some p→p.1 = y) (hbl : binds.length≤sc.names.length)
  (hPT : ∀ a,P a→hT.get? a = none) (hPa : ∀ a,P a→a ≠ tabA∧Al s.heap a) (hoi : ∀ i j a,own i = some a→own j = some a→i = j) (hoP : ∀ i a,own i = some a→P a) (hol : ∀ i a,own i = some a→∃ items n,IsL s.heap a items n)
  (hσ : ∀ (i : Nat) (p : Str × Value),binds[i]? = some p→∀ (c' : FC) h',(∀ b o,¬ (F b∨∃ i,own i = some b)→s.heap.get? b = some o→¬ FF c' own b∧h'.get? b = some o)→(∀ b o,s.heap.get? b = some o→h'.get? b = some o)→SV c' own h' i (σ.getD i .unb) (some p.2))
  (hσu : ∀ i,binds.length≤i→σ.getD i .unb = .unb) {s₁ : Shared}
  (hi : InCallC s env.locals (bindL env.kindOf binds fun J=>none) env.cells (bindC env.kindOf binds fun J=>none) s₁) : SR hT (entC A env s F P) own σ s₁:=by
 have keep:=hi.toInCall.keep
 obtain ⟨h',tk,hs1⟩:=hi.toInCall.same
 have hLs : s.heap.get? env.locals = none:=by
  cases e : s.heap.get? env.locals with
  | none=>rfl
  | some o=>exact absurd (Heap.lt_size e) (by rw [hloc]; exact Nat.lt_irrefl _)
 have cfresh : ∀ y a,env.cells.lookup y = some a→s.heap.get? a = none:=fun y a e=>by
  have:=hi.above y a (mem_of_lookup e)
  cases e : s.heap.get? a with
  | none=>rfl
  | some o=>exact absurd (Heap.lt_size e) (by rw [hloc] at this; exact Nat.not_lt.mpr (Nat.le_of_lt this))
 have mv : ∀ b o,¬ (F b∨∃ i,own i = some b)→s.heap.get? b = some o→¬ FF (entC A env s F P) own b∧s₁.heap.get? b = some o:=fun b o hf e=>by
  refine ⟨fun f=>?_,keep b o e⟩
  rcases f with f | f | ⟨j,y,q1,_,q3⟩ | f
  ·exact hf (.inl f)
  ·rw [f,show (entC A env s F P).env.locals = env.locals from rfl,hLs] at e; cases e
  ·rw [cfresh y b q3] at e; cases e
  ·exact hf (.inr f)
 have bnd : (binds.map (·.1)).Nodup:=by
  have : binds.map (·.1) = (sc.names.map (·.1)).take binds.length:=by
   apply List.ext_getElem?
   intro i
   rw [List.getElem?_map,List.getElem?_take]
   split
   ·rename_i hlt
    obtain ⟨p,hp⟩ : ∃ p,binds[i]? = some p:=⟨_,List.getElem?_eq_getElem hlt⟩
    obtain ⟨q,hq⟩ : ∃ q,sc.names[i]? = some q:=⟨_,List.getElem?_eq_getElem (by exact Nat.lt_of_lt_of_le hlt hbl)⟩
    rw [hp,List.getElem?_map,hq]
    simp [hb i q.1 q.2 hq p hp]
   ·rw [List.getElem?_eq_none (by lia)]; rfl
  rw [this]
  exact hnd.sublist (List.take_sublist _ _)
 have kof : ∀ (i : Nat) y k,sc.names[i]? = some (y,k)→env.kindOf y = some k:=fun i y k e=>by
  show env.scope.names.lookup y = some k
  rw [hsc]
  exact lookup_nd hnd (List.mem_of_getElem? e)
 have notin : ∀ (i : Nat) y k,sc.names[i]? = some (y,k)→binds.length≤i→y ∉ binds.map (·.1):=fun i y k e hle hm=>by
  obtain ⟨j,hj⟩:=List.mem_iff_getElem?.mp hm
  rw [List.getElem?_map] at hj
  refine mE hj fun p hp hp2=>?_
  have hjl:=(gL hp)
  obtain ⟨q,hq⟩ : ∃ q,sc.names[j]? = some q:=⟨_,List.getElem?_eq_getElem (by exact Nat.lt_of_lt_of_le hjl hbl)⟩
  have:=hb j q.1 q.2 hq p hp
  have h1 : (sc.names.map (·.1))[i]? = some y:=by rw [List.getElem?_map,e]; rfl
  have h2 : (sc.names.map (·.1))[j]? = some y:=by rw [List.getElem?_map,hq]; simp [← this,hp2]
  have:=(List.getElem?_inj (gL h1) hnd).mp (h1.trans h2.symm)
  lia
 refine ⟨x.top.trans (.of_all keep),x.top,hPT,fun a h=>⟨(hPa a h).1,by obtain ⟨o,e⟩:=(hPa a h).2; exact ⟨o,keep a o e⟩⟩,by rw [hs1]; rfl,by rw [hs1]; exact ⟨x.gens,fun J J e=>e⟩,fun b o J J e=>keep b o e,fun ps t=>⟨#[],by rw [Array.append_empty]; exact t.keeps keep⟩,
  by obtain ⟨ps,t⟩:=x.tok; exact ⟨ps,t.keeps keep⟩,hF,fun a h ht=>(hFa a h ht).keeps fun o=>keep a o,hLs,?_,fun i y hy=>?_,fun i j y z a hy hz e1 e2=>?_,hoi,fun i a e=>.inr (hoP i a e),fun i a e=>?_⟩
 ·refine ⟨_,hi.toInCall.ns,fun i y hy=>?_⟩
  have hy' : sc.names[i]? = some (y,NameKind.local):=by rw [← hsc]; exact hy
  rcases Nat.lt_or_ge i binds.length with hlt | hge
  ·obtain ⟨p,hp⟩ : ∃ p,binds[i]? = some p:=⟨_,List.getElem?_eq_getElem hlt⟩
   have hpy:=hb i y _ hy' p hp
   have : bindL env.kindOf binds (fun J=>none) y = some p.2:=bindL_hit bnd (by rw [hp,← hpy]) (kof i y _ hy')
   rw [this]
   exact hσ i p hp _ _ mv keep
  ·rw [hσu i hge]; trivial
 ·have hy' : sc.names[i]? = some (y,NameKind.cell):=by rw [← hsc]; exact hy
  obtain ⟨a,ha⟩:=hcells i y hy'
  refine ⟨a,_,ha,hi.cell y a ha,?_,fun J=>cfresh y a ha⟩
  rcases Nat.lt_or_ge i binds.length with hlt | hge
  ·obtain ⟨p,hp⟩ : ∃ p,binds[i]? = some p:=⟨_,List.getElem?_eq_getElem hlt⟩
   have hpy:=hb i y _ hy' p hp
   have : bindC env.kindOf binds (fun J=>none) y = some p.2:=bindC_hit bnd (by rw [hp,← hpy]) (kof i y _ hy')
   rw [this]
   exact hσ i p hp _ _ mv keep
  ·rw [hσu i hge]; trivial
 ·have:=name_of_addr hi.apart (mem_of_lookup e1) (mem_of_lookup e2)
  subst this
  have hy' : sc.names[i]? = some (y,NameKind.cell):=by rw [← hsc]; exact hy
  have hz' : sc.names[j]? = some (y,NameKind.cell):=by rw [← hsc]; exact hz
  have h1 : (sc.names.map (·.1))[i]? = some y:=by rw [List.getElem?_map,hy']; rfl
  have h2 : (sc.names.map (·.1))[j]? = some y:=by rw [List.getElem?_map,hz']; rfl
  exact (List.getElem?_inj (gL h1) hnd).mp (h1.trans h2.symm)
 ·obtain ⟨items,n,hl⟩:=hol i a e; exact ⟨items,n,keep a _ hl⟩
end
noncomputable def resOf : CF→Option CV
 | .ret v=>some v
 | .next=>some .none
 | .brk=>none
noncomputable def Fn (prog : Program) (w : World) (hT : Heap) (k : Nat) (fv : Value) (kn : List Str) (spec : List CV→List CV→Option CV) : Prop :=
 ∀ (A : Around) (s : Shared) (F : Addr→Prop) cvs (vals : List Value) kcvs kvals r,AOk (9 + k) A→At hT s→F tabA→(∀ a,F a→a ≠ tabA→NF s.heap a)→VRs F s.heap cvs vals→VRs F s.heap kcvs kvals→kvals.length = kn.length→spec cvs kcvs = some r →
  wpAny (model prog w) A (call fv vals (kn.zip kvals)) (fun v s'=>Ex s s'∧VR F s'.heap r v) noE s
structure Scp (sc : Scope) : Prop where
 kind : sc.kind = .function
 nd : (sc.names.map (·.1)).Nodup
 co : sc.isCoroutine = false
 gen : sc.isGenerator = false
noncomputable def Body (prog : Program) (w : World) (hT : Heap) (k : Nat) (sc : Scope) (body : List Stmt) (m : CM) : Prop :=
 ∀ (A : Around) (e : Env) X s0 P,(∀ a,P a→¬ X a)→Wf ⟨A,{ e with scope:=sc },X,s0,P,fun J=>false⟩→AOk (8 + k) A→Rss prog w hT ⟨A,{ e with scope:=sc },X,s0,P,fun J=>false⟩ body m
section
variable {prog : Program} {w : World} {hT : Heap} {c : FC} {own own' own'' : Nat→Option Addr} {σ σ' : List CV} {s s' s'' : Shared} {mg mb : Str→Option Value}
theorem zip_at {α β : Type} {xs : List α} {ys : List β} {i : Nat} {p : α × β} (h : (xs.zip ys)[i]? = some p) : xs[i]? = some p.1∧ys[i]? = some p.2:=by
 rw [List.getElem?_zip_eq_some] at h; exact h
theorem fn_run (T : TF prog hT mg mb) {k : Nat} {a : Addr} {st : Stmt} {dV kV : Value} {n : Nat} (R : FnRec hT a st dV kV) (ha : a ≠ tabA) (S : Scp (sScope st)) (hn : n≤(sScope st).names.length) (hk : ∀ x∈(sScope st).names.take n,x.2 = NameKind.local∨x.2 = NameKind.cell)
  {A : Around} {s₀ : Shared} {args : Args} {F P : Addr→Prop} {σ0 : List CV} {Good : Shared→List Value→Prop} {Q : Result→Shared→Prop} (hA : AOk (9 + k) A) (hs₀ : At hT s₀)
  (hbind : ∀ fd : FuncData,fd.params = sArgs st→fd.defaults = dV→fd.kwdefaults = kV→∀ (M : Model) (A : Around) (E : Value→Shared→Prop) (Q : List (Str × Value)→Shared→Prop),(∀ s vs,Ex s₀ s→vs.length = n→Good s vs→Q ((((sScope st).names.map (·.1)).take n).zip vs) s)→wpAny M A (bindArgs fd args) Q E s₀)
  (hF : F tabA) (hFa : ∀ a,F a→a ≠ tabA→NF s₀.heap a) (hP : ∀ a,P a→hT.get? a = none∧a ≠ tabA∧Al s₀.heap a)
  (hoi : ∀ i j a,own i = some a→own j = some a→i = j) (hoP : ∀ i a,own i = some a→P a) (hol : ∀ s,Ex s₀ s→∀ i a,own i = some a→∃ items n,IsL s.heap a items n)
  (hσ : ∀ s vs,Good s vs→Ex s₀ s→∀ (i : Nat) v,vs[i]? = some v→∀ (c' : FC) h',(∀ b o,¬ (F b∨∃ i,own i = some b)→s.heap.get? b = some o→¬ FF c' own b∧h'.get? b = some o)→(∀ b o,s.heap.get? b = some o→h'.get? b = some o)→SV c' own h' i (σ0.getD i .unb) (some v))
  (hσu : ∀ s vs,Good s vs→vs.length = n→∀ i,n≤i→σ0.getD i .unb = .unb)
  (hrun : ∀ (e : Env) s s₁,Ex s₀ s→(∃ vs,Good s vs)→(∀ o fd,hT.get? a = some o→o.data = .func fd→e.code = fd.code∧e.qual = fd.qualname ++ (".<locals>." : Str))→e.locals = s.heap.objs.size→(∀ b o,s.heap.get? b = some o→s₁.heap.get? b = some o)→Wf ⟨A.deeper e,{ e with scope:=sScope st },F,s,P,fun J=>false⟩→AOk (8 + k) (A.deeper e) →
   SR hT ⟨A.deeper e,{ e with scope:=sScope st },F,s,P,fun J=>false⟩ own σ0 s₁→wpAny (model prog w) (A.deeper e) (execs (sBody st) { e with scope:=sScope st }) (fun fl s₂=>Q (.ok (.ret (match fl with | .ret v=>v | _=>.none))) s₂) noE s₁) :
  codeAny (model prog w) A (.call (.ref a) args) Q s₀:=by
 refine bc fun hG=>?_
 obtain ⟨o,fd,ho,hcls,hdata,hpar,hbody,hscope,hglob,hbui,hclo,hdef,hkw,⟨cc,oc,vc,tc,hc1,hc2,hc3,hc4,hc5⟩,_⟩:=R.ex
 refine hG ?_
 clear hG
 have hcr : s₀.heap.CodeRec fd.code fd.qualname:=⟨cc,oc,vc,tc,hc1,hs₀.top.keep _ _ hc2 hc3,hc4,hc5⟩
 have names:=congrArg Scope.names hscope
 refine codeAny_call_function (by have:=hA.dp; show A.depth < 1000; lia) (hs₀.top.keep a o ha ho) hdata (by rw [hscope]; exact S.co) (by rw [hscope]; exact S.gen) hbody hcr (hbind fd hpar hdef hkw _ _ _ _ fun s vs ee hvl hg=>?_)
 rw [hclo]
 refine wpAny_newFunctionEnv_cells (by rw [hscope]; exact S.kind) ?_ fun env he s₁ hi=>⟨?_,codeAny_func ?_⟩
 ·intro x hx
  refine bc fun hG=>?_
  obtain ⟨i,hi⟩:=List.mem_iff_getElem?.mp hx
  obtain ⟨h1,h2⟩:=zip_at hi
  refine hG ?_
  clear hG
  rw [← List.map_take,List.getElem?_map] at h1
  refine mE h1 fun q hq hq2=>?_
  have hmem:=List.mem_of_getElem? hq
  have hm':=List.mem_of_mem_take hmem
  rw [names,← hq2,lookup_nd S.nd hm']
  rcases hk q hmem with hl | hl
  ·exact .inl (by rw [hl])
  ·refine .inr ⟨by rw [hl],?_⟩
   obtain ⟨z,hz⟩:=cellsFrom_mem (n:=s.heap.objs.size + 1) (acc:=[]) (x:=q.1) (.inr (by rw [← hl]; exact hm'))
   rw [hz]; rfl
 ·have hs : At hT s:=⟨hs₀.top.trans ee.kp,ee.gens.b hs₀.gens,by obtain ⟨ps,t⟩:=hs₀.tok; obtain ⟨m,t'⟩:=ee.kp.tab ps t; exact ⟨_,t'⟩⟩
  exact (hs.lim T).keeps hi.toInCall.keep
 ·have hs : At hT s:=⟨hs₀.top.trans ee.kp,ee.gens.b hs₀.gens,by obtain ⟨ps,t⟩:=hs₀.tok; obtain ⟨m,t'⟩:=ee.kp.tab ps t; exact ⟨_,t'⟩⟩
  have hes : env.scope = sScope st:=by rw [he]; exact hscope
  have envEq : env = { env with scope:=sScope st }:=by cases env; simp only at hes; subst hes; rfl
  have hAd : AOk (8 + k) (A.deeper env):=(show AOk (8 + k + 1) A by have:=hA; rw [show 9 + k = 8 + k + 1 by exact Nat.succ_add_eq_add_succ 8 k] at this; exact this).deeper env
  have hl : (((sScope st).names.map (·.1)).take n |>.zip vs).length = n:=by rw [List.length_zip,List.length_take,List.length_map]; lia
  have sr:=enterSR (hT:=hT) (A:=A.deeper env) (env:=env) (F:=F) (P:=P) (own:=own) (σ:=σ0) (s:=s) (binds:=((sScope st).names.map (·.1)).take n |>.zip vs) (sc:=sScope st) (s₁:=s₁) hs hF (fun b h ht=>(hFa b h ht).keeps fun o=>ee.kp.keep b o ht) hes S.nd
   (fun i y hy=>by rw [he]; show ∃ a,(cellsFrom _ fd.scope.names []).lookup y = some a; rw [names]; exact cellsFrom_mem (.inr (List.mem_of_getElem? hy))) (by rw [he]; rfl)
   (fun i y kk hy p hp=>by
    obtain ⟨h1,h2⟩:=zip_at hp
    rw [← List.map_take,List.getElem?_map,List.getElem?_take_of_lt (hl▸(gL hp)),hy] at h1
    exact (Option.some.inj h1).symm)
   (by rw [hl]; exact hn) (fun a h=>(hP a h).1) (fun a h=>⟨(hP a h).2.1,let ⟨o,e⟩:=(hP a h).2.2; ⟨o,ee.kp.keep a o (hP a h).2.1 e⟩⟩) hoi hoP (hol s ee)
   (fun i p hp=>hσ s vs hg ee i p.2 (zip_at hp).2) (fun i hi'=>hσu s vs hg hvl i (hl▸hi')) hi
  have W : Wf ⟨A.deeper env,{ env with scope:=sScope st },F,s,P,fun J=>false⟩:=by
   refine ⟨hAd.mono (by exact Nat.le_add_right 8 k),?_,S.kind,by rw [he]; exact hglob,by rw [he]; exact hbui,S.nd⟩
   obtain ⟨ls,hl⟩:=hA.fs
   refine ⟨env,ls,?_,by rw [hes]; exact S.gen,by rw [hes]; exact S.co,by rw [he]; exact hbui,by rw [he]; exact hglob⟩
   show A.frames.map (env::·) = _; rw [hl]; rfl
  have hb:=hrun env s s₁ ee ⟨vs,hg⟩ (fun o' fd' h1 h2=>by
   rw [ho] at h1; cases h1; rw [hdata] at h2; cases h2
   rw [he]; exact ⟨rfl,rfl⟩) (by rw [he]; rfl) hi.toInCall.keep W hAd (by rw [← envEq]; exact sr)
  rw [← envEq] at hb
  exact wp_f hb fun fl s₂ y=>y
theorem fn_core (T : TF prog hT mg mb) {k : Nat} {a : Addr} {st : Stmt} {dV kV : Value} {n : Nat} {m : CM} (R : FnRec hT a st dV kV) (ha : a ≠ tabA) (S : Scp (sScope st)) (hn : n≤(sScope st).names.length) (hk : ∀ x∈(sScope st).names.take n,x.2 = NameKind.local∨x.2 = NameKind.cell)
  {A : Around} {s₀ : Shared} {vals : List Value} {kws : List (Str × Value)} {F P : Addr→Prop} {σ0 : List CV} {f : CF} {Good : Shared→List Value→Prop} {Q : Value→Shared→Prop} (hA : AOk (9 + k) A) (hs₀ : At hT s₀)
  (hbind : ∀ fd : FuncData,fd.params = sArgs st→fd.defaults = dV→fd.kwdefaults = kV→∀ (M : Model) (A : Around) (E : Value→Shared→Prop) (Q : List (Str × Value)→Shared→Prop),(∀ s vs,Ex s₀ s→vs.length = n→Good s vs→Q ((((sScope st).names.map (·.1)).take n).zip vs) s)→wpAny M A (bindArgs fd ⟨vals,kws⟩) Q E s₀)
  (hF : F tabA) (hFa : ∀ a,F a→a ≠ tabA→NF s₀.heap a) (hP : ∀ a,P a→hT.get? a = none∧a ≠ tabA∧Al s₀.heap a)
  (hoi : ∀ i j a,own i = some a→own j = some a→i = j) (hoP : ∀ i a,own i = some a→P a) (hol : ∀ s,Ex s₀ s→∀ i a,own i = some a→∃ items n,IsL s.heap a items n)
  (hσ : ∀ s vs,Good s vs→Ex s₀ s→∀ (i : Nat) v,vs[i]? = some v→∀ (c' : FC) h',(∀ b o,¬ (F b∨∃ i,own i = some b)→s.heap.get? b = some o→¬ FF c' own b∧h'.get? b = some o)→(∀ b o,s.heap.get? b = some o→h'.get? b = some o)→SV c' own h' i (σ0.getD i .unb) (some v))
  (hσu : ∀ s vs,Good s vs→vs.length = n→∀ i,n≤i→σ0.getD i .unb = .unb)
  (hB : ∀ (A : Around) (e : Env) s0,(∀ o fd,hT.get? a = some o→o.data = .func fd→e.code = fd.code∧e.qual = fd.qualname ++ (".<locals>." : Str))→Wf ⟨A,{ e with scope:=sScope st },F,s0,P,fun J=>false⟩→AOk (8 + k) A→Rss prog w hT ⟨A,{ e with scope:=sScope st },F,s0,P,fun J=>false⟩ (sBody st) m)
  (hm : m σ0 = some (f,σ'))
  (hpost : ∀ s env s₁ fl s₂,Ex s₀ s→SOut hT ⟨A.deeper env,{ env with scope:=sScope st },F,s,P,fun J=>false⟩ own σ0 s₁ f σ' fl s₂→Q (match fl with | .ret v=>v | _=>.none) s₂) :
  wpAny (model prog w) A (call (.ref a) vals kws) Q noE s₀:=by
 refine wpAny_call (fn_run T R ha S hn hk hA hs₀ hbind hF hFa hP hoi hoP hol hσ hσu fun e s s₁ ee J hc J J W hAd sr=>?_)
 exact wp_f (hB (A.deeper e) e s hc W hAd _ _ s₁ f σ' sr hm) fun fl s₂ y=>hpost s e s₁ fl s₂ ee y
theorem unb_off {xs : List CV} {n k i : Nat} (h : xs.length = n) (hi : n≤i) : (xs ++ List.replicate k CV.unb).getD i .unb = .unb:=by
 rw [List.getD_eq_getElem?_getD,List.getElem?_append_right (h▸hi),List.getElem?_replicate]
 split <;> rfl
theorem fill_at {F : Addr→Prop} {h : Heap} {xs : List CV} {vs : List Value} {k i : Nat} {v : Value} (r : VRs F h xs vs) (hv : vs[i]? = some v) : VR F h ((xs ++ List.replicate k CV.unb).getD i .unb) v:=by
 obtain ⟨cv,hcv,hr⟩:=r.get' hv
 rw [List.getD_eq_getElem?_getD,List.getElem?_append_left (gL hcv),hcv]; exact hr
theorem Fn.of_body (T : TF prog hT mg mb) {k : Nat} {a : Addr} {st : Stmt} {dV kV : Value} {n : Nat} {kn : List Str} {m : CM} {spec : List CV→List CV→Option CV} (R : FnRec hT a st dV kV) (ha : a ≠ tabA)
  (S : Scp (sScope st)) (hB : Body prog w hT k (sScope st) (sBody st) m)
  (fill : List CV→List CV→List CV)
  (hbind : ∀ (s : Shared) (F : Addr→Prop) (fd : FuncData),At hT s→fd.params = sArgs st→fd.defaults = dV→fd.kwdefaults = kV→∀ cvs kcvs (vals kvals : List Value) r,VRs F s.heap cvs vals→VRs F s.heap kcvs kvals→kvals.length = kn.length→spec cvs kcvs = some r →
   ∃ vs,BindsTo s fd ⟨vals,kn.zip kvals⟩ (((sScope st).names.map (·.1)).take n |>.zip vs)∧vs.length = n∧VRs F s.heap (fill cvs kcvs) vs)
  (hn : n≤(sScope st).names.length) (hk : ∀ x∈(sScope st).names.take n,x.2 = NameKind.local∨x.2 = NameKind.cell)
  (hm : ∀ cvs kcvs r,spec cvs kcvs = some r→∃ f σ',m (fill cvs kcvs ++ List.replicate ((sScope st).names.length - n) .unb) = some (f,σ')∧resOf f = some r) :
  Fn prog w hT k (.ref a) kn spec:=by
 intro A s F cvs vals kcvs kvals r hA hs hF hFa hv hkv hkl hr
 refine bc fun hG=>?_
 obtain ⟨f,σ',hmr,hres⟩:=hm cvs kcvs r hr
 refine hG ?_
 clear hG
 refine fn_core T R ha S hn hk (F:=F) (P:=fun J=>False) (own:=noO) (σ0:=fill cvs kcvs ++ List.replicate ((sScope st).names.length - n) .unb) (Good:=fun s' vs=>VRs F s'.heap (fill cvs kcvs) vs) hA hs
  (fun fd h1 h2 h3 M A E Q q=>?_) hF hFa (fun J q=>q.elim) (fun i j a e=>nomatch e) (fun i a e=>nomatch e) (fun J J i a e=>nomatch e)
  (fun s' vs g J i v hv c' h' mv J=>((fill_at g hv).move fun b o hf e=>mv b o (fun q=>q.elim hf (fun ⟨j,q⟩=>nomatch q)) e).sv) (fun s' vs g hl i hi=>unb_off (g.length.trans hl) hi)
  (fun A e s0 J W hAd=>hB A e F s0 (fun J=>False) (fun J q=>q.elim) W hAd) hmr fun s' env s₁ fl s₂ ee y=>?_
 ·refine bc fun hG=>?_
  obtain ⟨vs,hbt,hvl,hvs⟩:=hbind s F fd hs h1 h2 h3 cvs kcvs vals kvals r hv hkv hkl hr
  refine hG ?_
  clear hG
  exact hbt _ _ _ _ (q s vs (.refl s) hvl hvs)
 ·obtain ⟨own2,x2,k2,l2,p2,r2⟩:=y
  have ex : Ex s s₂:=ee.trans ⟨⟨fun b o hb e=>x2.kp b o (fun q=>q) hb e,x2.tab⟩,x2.os,x2.gens.gk⟩
  cases f with
  | next =>
   cases hres
   cases fl <;> first | exact r2.elim | exact ⟨ex,VR.none⟩
  | brk=>cases hres
  | ret v =>
   cases hres
   cases fl <;> first | exact r2.elim | exact ⟨ex,r2⟩
end
noncomputable def scal : CV→Bool
 | .none=>true
 | .bool _=>true
 | .int _=>true
 | .str _=>true
 | _=>false
noncomputable def rdAll (σ : List CV) : List CV→Option (List CV)
 | []=>some []
 | c::r=>(rd σ c).bind fun x=>(rdAll σ r).map (x::·)
noncomputable def callS (spec : List CV→List CV→Option CV) (σ : List CV) (cvs kcvs : List CV) : Option CV :=
 if cvs.all noM && kcvs.all noM then spec cvs kcvs else (rdAll σ cvs).bind fun ws=>(rdAll σ kcvs).bind fun kws=>(spec ws kws).bind fun r=>if scal r then some r else none
section
variable {prog : Program} {w : World} {hT : Heap} {c : FC} {own own' own'' : Nat→Option Addr} {σ σ' : List CV} {s s' s'' : Shared} {mg mb : Str→Option Value}
noncomputable def ERs (c : FC) (own : Nat→Option Addr) (σ : List CV) (h : Heap) (cvs : List CV) (vs : List Value) : Prop :=
 vs.length = cvs.length∧∀ (i : Nat) (x : CV) (v : Value),cvs[i]? = some x→vs[i]? = some v→ER c own σ h x v
theorem ERs.ex {cvs : List CV} {vs : List Value} (x : SR hT c own σ s) (e : Ex s s') (r : ERs c own σ s.heap cvs vs) : ERs c own σ s'.heap cvs vs:=⟨r.1,fun i y v h1 h2=>(r.2 i y v h1 h2).ex x e⟩
theorem ERs.rd (x : SR hT c own σ s) {cvs : List CV} : ∀ {vs : List Value} {ws : List CV},ERs c own σ s.heap cvs vs→rdAll σ cvs = some ws→VRs F₀ s.heap ws vs:=by
 induction cvs with
 | nil =>
  intro vs ws r e
  cases e
  have q : vs = []:=List.eq_nil_of_length_eq_zero (show vs.length = 0 from r.1)
  subst q
  exact .nil
 | cons c cs ih =>
  intro vs ws r e
  refine bc fun hG=>?_
  obtain ⟨v,vs,rfl,q⟩:=len_s (show vs.length = cs.length + 1 from r.1)
  revert e
  refine oR fun y e1 e=>?_
  refine mE e fun ys e2 e3=>?_
  refine hG ?_
  clear hG
  subst e3
  exact .cons ((r.2 0 c v rfl rfl).rd x e1) (ih ⟨Nat.succ.inj r.1,fun i y u h1 h2=>r.2 (i + 1) y u h1 h2⟩ e2)
theorem scal_any {F F' : Addr→Prop} {h h' : Heap} {cv : CV} {v : Value} (hs : scal cv = true) (x : VR F h cv v) : VR F' h' cv v:=by
 cases x <;> first | cases hs | skip
 ·exact .none
 ·exact .bool _
 ·exact .int _ _
 ·exact .str _ _
theorem Fn.use {k : Nat} {fv : Value} {kn : List Str} {spec : List CV→List CV→Option CV} (hF : Fn prog w hT k fv kn spec) (hA : AOk (9 + k) c.A) (x : SR hT c own σ s) {cvs kcvs : List CV} {vs kvs : List Value} (r : ERs c own σ s.heap cvs vs) (kr : ERs c own σ s.heap kcvs kvs)
  (hkl : kvs.length = kn.length) {cv : CV} (e : callS spec σ cvs kcvs = some cv) : wpAny (model prog w) c.A (call fv vs (kn.zip kvs)) (fun v s'=>Ex s s'∧ER c own σ s'.heap cv v) noE s:=by
 unfold callS at e
 split at e
 ·rename_i hc
  refine bc fun hG=>?_
  obtain ⟨h1,h2⟩:=bA hc
  refine hG ?_
  clear hG
  exact wp_w (hF c.A s (FF c own) cvs vs kcvs kvs cv hA x.at x.ft (fun a h ht=>x.fal h ht) (all_noM h1 r.1 r.2) (all_noM h2 kr.1 kr.2) hkl e) fun v s' q=>⟨q.1,q.2.er⟩
 ·refine bc fun hG=>?_
  revert e
  refine oR fun ws e1 e=>?_
  revert e
  refine oR fun kws e2 e=>?_
  revert e
  refine oR fun r' e3 e=>?_
  refine hG ?_
  clear hG
  replace e:=ite_opt e
  obtain ⟨hsc,e⟩:=e
  ·cases e
   exact wp_w (hF c.A s F₀ ws vs kws kvs cv hA x.at rfl (fun a h ht=>absurd h ht) (r.rd x e1) (kr.rd x e2) hkl e3) fun v s' q=>⟨q.1,(scal_any hsc q.2).er⟩
theorem FnRec.fn {a : Addr} {st : Stmt} {dV kV : Value} (R : FnRec hT a st dV kV) (ha : a ≠ tabA) : ∃ o fd,o.data = .func fd∧∀ s,At hT s→s.heap.get? a = some o:=by
 refine bc fun hG=>?_
 obtain ⟨o,fd,ho,_,hd,_⟩:=R.ex
 refine hG ?_
 clear hG
 exact ⟨o,fd,hd,fun s x=>x.top.keep a o ha ho⟩
theorem Rf.call {y : Str} {py pos : Pos} {e : PySem.Expr} {rest : List PySem.Expr} {a : Addr} {st : Stmt} {dV kV : Value} {k : Nat} {spec : List CV→List CV→Option CV} {ms : List CV→Option (List CV)} (hf : Rf prog w hT c (.Name y py) (fun J=>some (.ref a))) (R : FnRec hT a st dV kV) (ha : a ≠ tabA)
  (hF : Fn prog w hT k (.ref a) [] spec) (hA : AOk (9 + k) c.A) (hs : Rfs prog w hT c (e::rest) ms)
  (he : ∀ env,starEach (e::rest) env = (false,eval e env)::starEach rest env:=by intro _; rfl) :
  Rf prog w hT c (.Call (.Name y py) (e::rest) [] pos) (fun σ=>(ms σ).bind fun cvs=>callS spec σ cvs []):=fun own σ s cv x e'=>by
 refine bc fun hG=>?_
 refine oE e' fun cvs e1 e2=>?_
 obtain ⟨o,fd,hd,ho⟩:=R.fn ha
 refine hG ?_
 clear hG
 refine wpAny_Call_Name_kw (wp_w (hf own σ s _ x rfl) fun fv s₁ h₁=>?_)
 have hv:=h₁.2
 cases hv
 have x₁:=x.ex h₁.1
 have hs':=hs pos own σ s₁ cvs x₁ e1
 show wpAny _ _ (callWith pos (.ref a) [] (backTo pos (starEach (e::rest) c.env)) []) _ _ _
 rw [he] at hs' ⊢
 refine callWith_function (o:=o) (fd:=fd) (evalArgs_plain (wp_w hs' fun vs s₂ h₂=>?_))
 have x₂:=x₁.ex h₂.1
 refine ⟨⟨ho s₂ x₂.at,hd⟩,?_⟩
 exact wp_w (hF.use hA x₂ (kvs:=[]) (kcvs:=[]) ⟨h₂.2.1,h₂.2.2⟩ ⟨rfl,fun i J J h=>by simp at h⟩ rfl e2) fun v s₃ h₃=>⟨h₁.1.trans (h₂.1.trans h₃.1),h₃.2⟩
theorem Rf.call0 {y : Str} {py pos : Pos} {a : Addr} {st : Stmt} {dV kV : Value} {k : Nat} {spec : List CV→List CV→Option CV} (hf : Rf prog w hT c (.Name y py) (fun J=>some (.ref a))) (R : FnRec hT a st dV kV) (ha : a ≠ tabA)
  (hF : Fn prog w hT k (.ref a) [] spec) (hA : AOk (9 + k) c.A) :
  Rf prog w hT c (.Call (.Name y py) [] [] pos) (fun σ=>callS spec σ [] []):=fun own σ s cv x e2=>by
 refine bc fun hG=>?_
 obtain ⟨o,fd,hd,ho⟩:=R.fn ha
 refine hG ?_
 clear hG
 refine wpAny_Call_Name_kw (wp_w (hf own σ s _ x rfl) fun fv s₁ h₁=>?_)
 have hv:=h₁.2
 cases hv
 have x₁:=x.ex h₁.1
 show wpAny _ _ (callWith pos (.ref a) [] [] []) _ _ _
 refine callWith_function (o:=o) (fd:=fd) (PySem.evalArgs_none ?_)
 refine ⟨⟨ho s₁ x₁.at,hd⟩,?_⟩
 exact wp_w (hF.use hA x₁ (vs:=[]) (cvs:=[]) (kvs:=[]) (kcvs:=[]) ⟨rfl,fun i J J h=>by simp at h⟩ ⟨rfl,fun i J J h=>by simp at h⟩ rfl e2) fun v s₃ h₃=>⟨h₁.1.trans h₃.1,h₃.2⟩
theorem Rf.callK {y kw : Str} {py pos kp : Pos} {e ke : PySem.Expr} {rest : List PySem.Expr} {a : Addr} {st : Stmt} {dV kV : Value} {k : Nat} {spec : List CV→List CV→Option CV} {ms : List CV→Option (List CV)} {mk : List CV→Option CV} (hf : Rf prog w hT c (.Name y py) (fun J=>some (.ref a))) (R : FnRec hT a st dV kV) (ha : a ≠ tabA)
  (hF : Fn prog w hT k (.ref a) [kw] spec) (hA : AOk (9 + k) c.A) (hs : Rfs prog w hT c (e::rest) ms) (hk : Rf prog w hT c ke mk)
  (he : ∀ env,starEach (e::rest) env = (false,eval e env)::starEach rest env:=by intro _; rfl) :
  Rf prog w hT c (.Call (.Name y py) (e::rest) [⟨some kw,ke,kp⟩] pos) (fun σ=>(ms σ).bind fun cvs=>(mk σ).bind fun kc=>callS spec σ cvs [kc]):=fun own σ s cv x e'=>by
 refine bc fun hG=>?_
 revert e'
 refine oR fun cvs e1 e'=>?_
 refine oE e' fun kc e3 e2=>?_
 obtain ⟨o,fd,hd,ho⟩:=R.fn ha
 refine hG ?_
 clear hG
 refine wpAny_Call_Name_kw (wp_w (hf own σ s _ x rfl) fun fv s₁ h₁=>?_)
 have hv:=h₁.2
 cases hv
 have x₁:=x.ex h₁.1
 have hs':=hs pos own σ s₁ cvs x₁ e1
 show wpAny _ _ (callWith pos (.ref a) [] (backTo pos (starEach (e::rest) c.env)) [(some kw,do let v ← eval ke c.env; standAt pos; pure v)]) _ _ _
 rw [he] at hs' ⊢
 refine callWith_function_kw (o:=o) (fd:=fd) (evalArgs_kw rfl (wp_w hs' fun vs s₂ h₂=>?_))
 have x₂:=x₁.ex h₂.1
 refine wpAny_evalAll_cons (wpAny_bind (wp_w (hk own σ s₂ kc x₂ e3) fun kv s₃ h₃=>wpAny_bind (wpAny_standAt ?_)))
 refine wpAny_pure (wpAny_evalAll_nil ?_)
 have x₃:=x₂.ex h₃.1
 refine ⟨⟨ho s₃ x₃.at,hd⟩,?_⟩
 exact wp_w (hF.use hA x₃ (kvs:=[kv]) (kcvs:=[kc]) (ERs.ex x₂ h₃.1 ⟨h₂.2.1,h₂.2.2⟩) ⟨rfl,fun i z v h1 h2=>by
  cases i with
  | zero=>simp at h1 h2; subst h1 h2; exact h₃.2
  | succ i=>simp at h1⟩ rfl e2) fun v s₄ h₄=>⟨h₁.1.trans (h₂.1.trans (h₃.1.trans h₄.1)),h₄.2⟩
theorem Fn.plain (T : TF prog hT mg mb) {k : Nat} {a : Addr} {st : Stmt} {n : Nat} {m : CM} {spec : List CV→List CV→Option CV} (R : FnRec hT a st .none .none) (ha : a ≠ tabA)
  (S : Scp (sScope st)) (hB : Body prog w hT k (sScope st) (sBody st) m)
  (hbind : ∀ (fd : FuncData) (vals : List Value),fd.params = sArgs st→fd.defaults = .none→fd.kwdefaults = .none→vals.length = n→bindArgs fd ⟨vals,[]⟩ = pure ((((sScope st).names.map (·.1)).take n).zip vals))
  (hn : n≤(sScope st).names.length) (hk : ∀ x∈(sScope st).names.take n,x.2 = NameKind.local∨x.2 = NameKind.cell)
  (hm : ∀ cvs kcvs r,spec cvs kcvs = some r→cvs.length = n∧∃ f σ',m (cvs ++ List.replicate ((sScope st).names.length - n) .unb) = some (f,σ')∧resOf f = some r) :
  Fn prog w hT k (.ref a) [] spec:=by
 refine Fn.of_body T R ha S hB (fun cvs J=>cvs) ?_ hn hk fun cvs kcvs r h=>(hm cvs kcvs r h).2
 intro s F fd _ h1 h2 h3 cvs kcvs vals kvals r hv hkv hkl hr
 have hl : vals.length = n:=by rw [← hv.length]; exact (hm cvs kcvs r hr).1
 exact ⟨vals,.of_eq (hbind fd vals h1 h2 h3 hl),hl,hv⟩
end
structure LS (hT : Heap) (c : FC) (D : Addr) (own : Nat→Option Addr) (σ ys : List CV) (s : Shared) : Prop where
 sr : SR hT c own σ s
 x : c.X D
 off : Off c own D
 l : ∃ items n,IsL s.heap D items n∧items.size≤4096∧VRs (FF c own) s.heap ys items.toList
structure Cx (Z : Addr→Prop) (s s' : Shared) : Prop where
 os : s'.os = s.os
 gens : GK s s'
 keep : ∀ b o,¬ Z b→b ≠ tabA→s.heap.get? b = some o→s'.heap.get? b = some o
 tab : ∀ ps,TabOk s.heap ps→∃ more,TabOk s'.heap (ps ++ more)
noncomputable abbrev zD (c : FC) (D : Addr) (b : Addr) : Prop:=b = c.env.locals∨b = D
noncomputable abbrev zI (c : FC) (D I : Addr) (b : Addr) : Prop:=b = c.env.locals∨b = D∨b = I
noncomputable abbrev AM:=List CV→List CV→Option (List CV × List CV)
noncomputable def Ac (prog : Program) (w : World) (hT : Heap) (c : FC) (act : Addr→Sem PUnit) (m : AM) : Prop :=
 ∀ X D own σ ys s σ1 ys1,LS hT (c.x X) D own σ ys s→m σ ys = some (σ1,ys1) →
  wpAny (model prog w) c.A (act D) (fun J s1=>∃ own1,LS hT (c.x X) D own1 σ1 ys1 s1∧Cx (zD c D) s s1∧∀ j a,own1 j = some a→own j = some a) noE s
noncomputable def Ct (prog : Program) (w : World) (hT : Heap) (c : FC) (t : PySem.Expr) (m : CV→List CV→Option (List CV)) : Prop :=
 ∀ own σ s cv v σ',SR hT c own σ s→VR (FF c own) s.heap cv v→m cv σ = some σ' →
  wpAny (model prog w) c.A (assign t c.env v) (fun J s'=>∃ own',SR hT c own' σ' s'∧Ss c noO s s'∧∀ j a,own' j = some a→own j = some a) noE s
noncomputable def testsOf (ifs : List PySem.Expr) (env : Env) : Sem Bool:=forIn ifs true fun c r=>if r = true then do let ok ← isTrue c env (eval c env); pure (ForInStep.yield ok) else pure (ForInStep.yield r)
noncomputable def Ci (prog : Program) (w : World) (hT : Heap) (c : FC) (ifs : List PySem.Expr) (m : List CV→Option Bool) : Prop :=
 ∀ own σ s b,SR hT c own σ s→m σ = some b→wpAny (model prog w) c.A (testsOf ifs c.env) (fun v s'=>Ex s s'∧v = b) noE s
noncomputable def compTree (e : PySem.Expr) (depth : Nat) (p : Pos) (target : PySem.Expr) (ifs : List PySem.Expr) (it : Value) (D : Addr) (env : Env) (act : Addr→Sem PUnit) : Sem Fin:=do
 standAt p
 match ← pyNext it with
 | none=>pure (.done .next)
 | some v =>
  letOwnedTupleGo target it v
  assign target env v
  let ok ← testsOf ifs env
  if ok then act D
  again (.compLoop e depth it (.ref D) env)
noncomputable def compM (mt : CV→List CV→Option (List CV)) (mi : List CV→Option Bool) (ma : AM) : List CV→AM
 | [],σ,ys=>some (σ,ys)
 | x::xs,σ,ys=>(mt x σ).bind fun σ1=>(mi σ1).bind fun b=>if b then (ma σ1 ys).bind fun p=>compM mt mi ma xs p.1 p.2 else compM mt mi ma xs σ1 ys
section
variable {prog : Program} {w : World} {hT : Heap} {c : FC} {own own' own'' : Nat→Option Addr} {σ σ' : List CV} {s s' s'' : Shared} {mg mb : Str→Option Value} {D : Addr} {ys ys' : List CV}
theorem Cx.refl {Z : Addr→Prop} (s : Shared) : Cx Z s s:=⟨rfl,.same rfl,fun J J J J e=>e,fun ps t=>⟨#[],by rw [Array.append_empty]; exact t⟩⟩
theorem Cx.of_ex {Z : Addr→Prop} (e : Ex s s') : Cx Z s s':=⟨e.os,e.gens,fun b o J ht h=>e.kp.keep b o ht h,e.kp.tab⟩
theorem Cx.trans {Z : Addr→Prop} (x : Cx Z s s') (y : Cx Z s' s'') : Cx Z s s'' :=
 ⟨y.os.trans x.os,x.gens.trans y.gens,fun b o h1 h3 e=>y.keep b o h1 h3 (x.keep b o h1 h3 e),fun ps t=>by
  obtain ⟨m,t'⟩:=x.tab ps t
  obtain ⟨m',t''⟩:=y.tab _ t'
  exact ⟨m ++ m',by rw [← Array.append_assoc]; exact t''⟩⟩
theorem Cx.weak {Z Z' : Addr→Prop} (h : ∀ b,Z b→Z' b) (x : Cx Z s s') : Cx Z' s s':=⟨x.os,x.gens,fun b o hb=>x.keep b o fun q=>hb (h b q),x.tab⟩
theorem Cx.fresh {Z Z' : Addr→Prop} (h : ∀ b o,s.heap.get? b = some o→Z' b→Z b) (x : Cx Z' s s') : Cx Z s s':=⟨x.os,x.gens,fun b o hb ht e=>x.keep b o (fun q=>hb (h b o e q)) ht e,x.tab⟩
theorem Cx.one {Z : Addr→Prop} {a : Addr} {h' : Heap} {tk : Nat} (hz : Z a) (nt : a ≠ tabA) (nd : a ≠ codA) (nf : NF s.heap a) (hk : ∀ b o,b ≠ a→s.heap.get? b = some o→h'.get? b = some o) : Cx Z s { s with heap:=h',toks:=tk } :=
 ⟨rfl,.same rfl,fun b o hb J e=>hk b o (fun q=>hb (q▸hz)) e,fun ps t=>⟨#[],by
  rw [Array.append_empty]; exact ⟨t.c.extBut hk (Ne.symm nd) (Ne.symm nt),t.t.extBut hk (Ne.symm nd) (Ne.symm nt),t.l.but nf hk⟩⟩⟩
theorem Cx.ofSs {Z : Addr→Prop} (hz : ∀ b,Mut c noO b→Z b) (x : Ss c noO s s') : Cx Z s s':=⟨x.os,x.gens,fun b o hb=>x.keep b o fun q=>hb (hz b q),x.tab⟩
theorem owners_lib {n : String} (h : owners.contains n = false) : ["enumerate","zip","dict_itemiterator","dict_reverseitemiterator","odict_iterator","itertools.zip_longest","itertools.pairwise"].contains n = false:=by
 rw [List.contains_eq_mem] at h ⊢
 simp only [decide_eq_false_iff_not] at h ⊢
 exact fun q=>h (by unfold owners; simp only [List.mem_cons,List.not_mem_nil,or_false] at q ⊢; rcases q with q | q | q | q | q | q | q <;> simp [q])
theorem letGo_ {it v : Value} {I : Addr} {A : Around} {target : PySem.Expr} {E : Value→Shared→Prop} {Q : Unit→Shared→Prop} (hi : it = .ref I) (hp : PIter s.heap I) (h : Q () s) : wpAny (model prog w) A (letOwnedTupleGo target it v) Q E s:=by
 subst hi
 have go : ∀ a,wpAny (model prog w) A (do
   let o ← load I
   match o.cls,o.data with
   | .type n,.fields vs =>
    if ["enumerate","zip","dict_itemiterator","dict_reverseitemiterator","odict_iterator","itertools.zip_longest","itertools.pairwise"].contains n && vs[0]? == some (rawInt a) then
     rule "for.unpacks-the-owned-tuple"
     updateField I 0 .none
   | _,_=>pure () : Sem Unit) Q E s:=by
  intro a
  refine bc fun hG=>?_
  obtain ⟨o,n,ho,hc,hn⟩:=hp
  have hn:=owners_lib hn
  refine hG ?_
  clear hG
  refine wpAny_bind (wpAny_load ho ?_)
  rw [hc]
  cases hd : o.data <;> first | exact wpAny_pure h | skip
  have hn' : ["enumerate","zip","dict_itemiterator","dict_reverseitemiterator","odict_iterator","itertools.zip_longest","itertools.pairwise"].contains n = false:=hn
  simp only [hn',Bool.false_and,Bool.false_eq_true,if_false]
  exact wpAny_pure h
 cases target <;> first | exact wpAny_pure h | (cases v <;> first | exact wpAny_pure h | exact go _)
theorem LS.ex (x : LS hT c D own σ ys s) (e : Ex s s') : LS hT c D own σ ys s':=by
 refine bc fun hG=>?_
 obtain ⟨items,n,h1,h2,h3⟩:=x.l
 refine hG ?_
 clear hG
 exact ⟨x.sr.ex e,x.x,x.off,items,n,e.kp.keep D _ x.off.nt h1,h2,h3.kp x.sr.ft e.kp⟩
noncomputable def emitM (me : List CV→Option CV) : AM:=fun σ ys=>(me σ).bind fun cv=>if noM cv = true∧ys.length < 4096 then some (σ,ys ++ [cv]) else none
theorem Ac.emit {elt : PySem.Expr} {env : Env} {me : List CV→Option CV} (he : env = c.env) (h : ∀ X,Rf prog w hT (c.x X) elt me) :
  Ac prog w hT c (fun D=>do let _ ← call (.builtin "list.append") [.ref D,← eval elt env]) (emitM me):=by
 intro X D own σ ys s σ1 ys1 x e
 subst he
 refine bc fun hG=>?_
 revert e
 refine oR fun cv e1 e=>?_
 replace e:=ite_some e
 obtain ⟨hc,e⟩:=e
 refine hG ?_
 clear hG
 cases e
 refine wpAny_bind (wp_w (h X own σ s cv x.sr e1) fun v s₁ h₁=>?_)
 have x₁:=x.ex h₁.1
 refine bc fun hG=>?_
 obtain ⟨items,n,hl,hz,hv⟩:=x₁.l
 have hlen:=hv.length
 refine hG ?_
 clear hG
 simp only [Array.length_toList] at hlen
 have hT' : s₁.TypeIs (.ref D) "list":=⟨_,hl,rfl⟩
 refine wpAny_bind (call_meets F.slot_list_append hT' F.entry_list_append (F.args_list_append_2 _ _) (list_append D items n v (by rw [sizeLine_eq]; exact Nat.le_trans hz (by decide))) ⟨hl,?_⟩)
 have hk : ∀ b o,b ≠ D→s₁.heap.get? b = some o→(s₁.heap.update D (Obj.mapSeq fun xs=>xs.push v)).get? b = some o:=fun b o hb e=>(Heap.get?_update_other _ _ (Ne.symm hb)).trans e
 have hl':=hl.update fun xs=>xs.push v
 have nx:=x₁.sr.atI (X:=X) (tk:=s₁.toks) x.x x.off (fun J q=>q) x.sr.xt hk fun J=>⟨_,hl',.inr fun vs e=>by cases e⟩
 refine wpAny_pure ⟨own,⟨nx,x.x,x.off,_,_,hl',by rw [Array.size_push]; lia,?_⟩,?_,fun J J q=>q⟩
 ·rw [Array.toList_push]
  exact (hv.append (.cons (h₁.2.vr' hc.1) .nil)).move fun b o hf e=>⟨hf,hk b o (fun q=>hf (.inl (q▸x.x))) e⟩
 ·exact (Cx.of_ex h₁.1).trans (.one (.inr rfl) x.off.nt x.off.nd ⟨_,hl,.inr fun vs e=>by cases e⟩ hk)
noncomputable def NoOwnCells (c : FC) : Prop:=∀ i,c.K i = true
theorem Off.sub {I : Addr} (o : Off c own I) (h : ∀ j a,own' j = some a→own j = some a) : Off c own' I:=⟨o.nl,o.nc,fun j a e=>o.no j a (h j a e),o.nt,o.nd,o.n0⟩
theorem mut_noK (hK : NoOwnCells c) {b : Addr} (m : Mut c noO b) : b = c.env.locals:=by
 rcases m with q | ⟨j,u,_,q,_⟩ | ⟨j,q⟩
 ·exact q
 ·rw [hK j] at q; cases q
 ·cases q
theorem ls_along (hK : NoOwnCells c) {D : Addr} {own1 own4 : Nat→Option Addr} {σ1 σ4 ys1 : List CV} {s3 s4 : Shared} (x3 : LS hT c D own1 σ1 ys1 s3) (x4 : SR hT c own4 σ4 s4) (k4 : Ss c noO s3 s4) (l4 : ∀ j a,own4 j = some a→own1 j = some a) : LS hT c D own4 σ4 ys1 s4:=by
 refine bc fun hG=>?_
 obtain ⟨items,n,hl,hz,hv⟩:=x3.l
 refine hG ?_
 clear hG
 have off3:=x3.off
 have kk : ∀ b o,b ≠ c.env.locals→b ≠ tabA→s3.heap.get? b = some o→s4.heap.get? b = some o:=fun b o h1 h2 e=>k4.keep b o (fun q=>h1 (mut_noK hK q)) h2 e
 refine ⟨x4,x3.x,off3.sub l4,items,n,kk _ _ off3.nl off3.nt hl,hz,hv.move fun b o hf e=>⟨fun f=>?_,kk b o (fun q=>hf (.inr (.inl q))) (fun q=>hf (q▸x3.sr.ft)) e⟩⟩
 rcases f with f | f | f | ⟨j,f⟩
 ·exact hf (.inl f)
 ·exact hf (.inr (.inl f))
 ·exact hf (.inr (.inr (.inl f)))
 ·exact hf (.inr (.inr (.inr ⟨j,l4 j b f⟩)))
theorem comp_loop {elt : PySem.Expr} {gens : List Comprehension} {scope : Scope} {pos p : Pos} {depth : Nat} {target : PySem.Expr} {ifs : List PySem.Expr} {act : Addr→Sem PUnit} {I : Addr} {mt : CV→List CV→Option (List CV)} {mi : List CV→Option Bool} {ma : AM} {X₁ : Addr→Prop} {xs : List CV}
  {fp : List Addr} {P : Nat→Value→Prop} {St : Nat→Heap→Prop} {R : Result→Shared→Prop} {σf ysf : List CV} (hK : NoOwnCells c)
  (heq : compTurn (.ListComp elt gens scope pos) depth (.ref I) (.ref D) c.env = compTree (.ListComp elt gens scope pos) depth p target ifs (.ref I) D c.env act)
  (hT' : ∀ X,Ct prog w hT (c.x X) target mt) (hI : ∀ X,Ci prog w hT (c.x X) ifs mi) (hA : Ac prog w hT c act ma)
  (x : LS hT (c.x fun a=>X₁ a∨a = I) D own σ ys s) (hXI : ¬ X₁ I) (hPI : ¬ c.P I) (off : Off c own I) (hID : I ≠ D) (hW : Walks prog w c.A I fp [I] xs.length P St) (h0 : St 0 s.heap) (hal : ∀ i h,St i h→PIter h I)
  (hfp : ∀ b∈fp,b ≠ I→b ≠ D∧b ≠ c.env.locals∧b ≠ tabA∧Al s.heap b) (hP : ∀ i v,i < xs.length→P i v→∃ y,xs[i]? = some y∧VR (FF (c.x fun a=>X₁ a∨a = I) own) s.heap y v)
  (he : compM mt mi ma xs σ ys = some (σf,ysf))
  (hR : ∀ own' s',LS hT (c.x X₁) D own' σf ysf s'→Cx (zI c D I) s s'→(∀ j a,own' j = some a→own j = some a)→R (.ok .next) s') :
  codeAny (model prog w) c.A (.compLoop (.ListComp elt gens scope pos) depth (.ref I) (.ref D) c.env) R s:=by
 generalize hXe : (fun a=>X₁ a∨a = I) = X at x hP
 have hX : X I:=by rw [← hXe]; exact .inr rfl
 refine codeAny_loop rfl (fun m s'=>∃ own1 σ1 ys1 k,LS hT (c.x X) D own1 σ1 ys1 s'∧Cx (zI c D I) s s'∧(∀ j a,own1 j = some a→own j = some a)∧St k s'.heap∧compM mt mi ma (xs.drop k) σ1 ys1 = some (σf,ysf)∧k≤xs.length∧m = xs.length - k)
  (fun m s2 hI2=>?_) (xs.length - 0) ⟨own,σ,ys,0,x,.refl _,fun J J q=>q,h0,by exact Option.mem_def.mp he,Nat.zero_le _,rfl⟩
 refine bc fun hG=>?_
 obtain ⟨own1,σ1,ys1,k,x2,k2,l2,st2,e2,hk,rfl⟩:=hI2
 refine hG ?_
 clear hG
 show wpAny _ c.A ((compTurn (.ListComp elt gens scope pos) depth (.ref I) (.ref D) c.env).onRaise (fun x=>do noteFrame x c.env; theTreesLotGoes x)) _ _ s2
 refine wpAny_noted ?_
 rw [heq]
 unfold compTree
 refine wpAny_bind (wpAny_standAt (wpAny_bind ?_))
 have off2 : Off (c.x X) own1 I:=(show Off (c.x X) own I from ⟨off.nl,off.nc,off.no,off.nt,off.nd,off.n0⟩).sub l2
 have wk : ∀ {h' : Heap},(∀ b o,b ∉ [I]→s2.heap.get? b = some o→h'.get? b = some o)→∀ b o,b ≠ I→s2.heap.get? b = some o→h'.get? b = some o:=fun h b o hb e=>h b o (by exact notIn_one hb) e
 have ls : ∀ {h' : Heap} {tk : Nat},(∀ b o,b ∉ [I]→s2.heap.get? b = some o→h'.get? b = some o)→NF h' I→LS hT (c.x X) D own1 σ1 ys1 { s2 with heap:=h',toks:=tk }:=fun {h'} {tk} hk' hA'=>by
  refine bc fun hG=>?_
  refine bc fun hG=>?_
  obtain ⟨items,n,hl,hz,hv⟩:=x2.l
  refine hG ?_
  clear hG
  refine hG ?_
  clear hG
  refine ⟨x2.sr.atI (X:=X) (tk:=tk) hX off2 (fun J q=>q) x2.sr.xt (wk hk') fun J=>hA',x2.x,x2.off,items,n,wk hk' _ _ (Ne.symm hID) hl,hz,?_⟩
  exact hv.move fun b o hf e=>⟨hf,wk hk' b o (fun q=>hf (.inl (q▸hX))) e⟩
 rcases Nat.lt_or_ge k xs.length with hlt | hge
 ·refine hW.item k s2 _ _ hlt st2 fun v h3 tk3 hp3 st3 hk3=>?_
  refine bc fun hG=>?_
  obtain ⟨y,hy,hr⟩:=hP k v hlt hp3
  have x3:=ls (tk:=tk3) hk3 (hal _ _ st3).nf
  refine hG ?_
  clear hG
  have k3 : Cx (zI c D I) s { s2 with heap:=h3,toks:=tk3 }:=k2.trans (.one (.inr (.inr rfl)) off.nt off.nd (x2.sr.xa I hX off.nt) (wk hk3))
  have hd : xs.drop k = y::xs.drop (k + 1):=by
   obtain ⟨h1,h2⟩:=List.getElem?_eq_some_iff.mp hy
   rw [List.drop_eq_getElem_cons h1,h2]
  rw [hd] at e2
  refine bc fun hG=>?_
  revert e2
  refine oR fun σ4 e4 e2=>?_
  revert e2
  refine oR fun b e5 e2=>?_
  refine hG ?_
  clear hG
  have notZ : ∀ b,¬ FF (c.x X) own b→¬ zI c D I b:=fun b hf q=>by
   rcases q with q | q | q
   ·exact hf (.inr (.inl q))
   ·exact hf (.inl (q▸x2.x))
   ·exact hf (.inl (q▸hX))
  have hrv : VR (FF (c.x X) own1) h3 y v:=hr.move fun b o hf e=>⟨fun f=>by
   rcases f with f | f | f | ⟨j,f⟩
   ·exact hf (.inl f)
   ·exact hf (.inr (.inl f))
   ·exact hf (.inr (.inr (.inl f)))
   ·exact hf (.inr (.inr (.inr ⟨j,l2 j b f⟩))),k3.keep b o (notZ b hf) (fun q=>hf (q▸x.sr.ft)) e⟩
  refine wpAny_bind (letGo_ rfl (hal _ _ st3) ?_)
  refine wpAny_bind (wp_f (hT' X own1 σ1 _ y v σ4 x3.sr hrv e4) fun J s4 q=>?_)
  refine bc fun hG=>?_
  obtain ⟨own4,x4,k4,l4⟩:=q
  refine hG ?_
  clear hG
  have hmz : ∀ b,Mut (c.x X) noO b→zI c D I b:=fun b q=>.inl (mut_noK (c:=c.x X) hK q)
  have ls4:=ls_along (c:=c.x X) hK x3 x4 k4 l4
  refine wpAny_bind (wp_f (hI X own4 σ4 s4 b x4 e5) fun bv s5 q=>?_)
  refine bc fun hG=>?_
  obtain ⟨ex5,rfl⟩:=q
  refine hG ?_
  clear hG
  have ls5:=ls4.ex ex5
  have k5 : Cx (zI c D I) s s5:=(k3.trans (.ofSs hmz k4)).trans (.of_ex ex5)
  have stK : ∀ s6 : Shared,Cx (zD c D) s5 s6→St (k + 1) s6.heap:=fun s6 k6=>by
   refine hW.frame (k + 1) h3 s6.heap st3 fun b hb o e=>?_
   have hnb : b ≠ D∧b ≠ c.env.locals∧b ≠ tabA:=by
    by_cases hbI : b = I
    ·exact ⟨by rw [hbI]; exact hID,by rw [hbI]; exact off.nl,by rw [hbI]; exact off.nt⟩
    ·obtain ⟨q1,q2,q3,_⟩:=hfp b hb hbI; exact ⟨q1,q2,q3⟩
   refine k6.keep b o (fun q=>by rcases q with q | q; exact hnb.2.1 q; exact hnb.1 q) hnb.2.2 (ex5.kp.keep b o hnb.2.2 (k4.keep b o (fun q=>hnb.2.1 (mut_noK (c:=c.x X) hK q)) hnb.2.2 e))
  cases bv
  ·refine wpAny_bind (wpAny_pure (wpAny_pure ⟨rfl,xs.length - (k + 1),by exact Nat.sub_succ_lt_self xs.length k hlt,own4,σ4,ys1,k + 1,ls5,k5,fun j a q=>l2 j a (l4 j a q),stK s5 (.refl _),e2,hlt,rfl⟩))
  ·refine bc fun hG=>?_
   obtain ⟨⟨σ6,ys6⟩,e6,e2⟩:=oB e2
   refine hG ?_
   clear hG
   refine wpAny_bind (wp_f (hA X D own4 σ4 ys1 s5 σ6 ys6 ls5 e6) fun J s6 q=>wpAny_pure ?_)
   refine bc fun hG=>?_
   obtain ⟨own6,ls6,k6,l6⟩:=q
   refine hG ?_
   clear hG
   exact ⟨rfl,xs.length - (k + 1),by exact Nat.sub_succ_lt_self xs.length k hlt,own6,σ6,ys6,k + 1,ls6,k5.trans (k6.weak fun b q=>q.elim .inl fun q=>.inr (.inl q)),fun j a q=>l2 j a (l4 j a (l6 j a q)),stK s6 k6,e2,hlt,rfl⟩
 ·have hke : k = xs.length:=Nat.le_antisymm hk hge
  subst hke
  rw [List.drop_length] at e2
  cases e2
  have : ∀ h3 tk3,(∀ b o,b ∉ [I]→s2.heap.get? b = some o→h3.get? b = some o)→R (.ok .next) { s2 with heap:=h3,toks:=tk3 }:=by
   intro h3 tk3 hk3
   refine bc fun hG=>?_
   obtain ⟨items,n,hl,hz,hv⟩:=x2.l
   refine hG ?_
   clear hG
   have hXD : X₁ D:=by
    have:=x2.x
    rw [show (c.x X).X = X from rfl,← hXe] at this
    exact this.elim id fun q=>absurd q.symm hID
   have hXt : X₁ tabA:=by
    have:=x2.sr.xt
    rw [show (c.x X).X = X from rfl,← hXe] at this
    exact this.elim id fun q=>absurd q.symm off.nt
   have sub : ∀ a,X₁ a→X a:=fun a q=>by rw [← hXe]; exact .inl q
   refine hR own1 _ ⟨x2.sr.atI (X:=X₁) (tk:=tk3) hX off2 sub hXt (wk hk3) fun q=>(q.elim hXI hPI).elim,hXD,⟨x2.off.nl,x2.off.nc,x2.off.no,x2.off.nt,x2.off.nd,x2.off.n0⟩,items,n,wk hk3 _ _ (Ne.symm hID) hl,hz,?_⟩ (k2.trans (.one (.inr (.inr rfl)) off.nt off.nd (x2.sr.xa I hX off.nt) (wk hk3))) l2
   exact hv.move fun b o hf e=>⟨fun f=>hf (f.elim (fun q=>.inl (sub b q)) .inr),wk hk3 b o (fun q=>hf (.inl (q▸hX))) e⟩
  exact hW.done s2 _ _ st2 fun h3 tk3 hk3=>wpAny_pure (this h3 tk3 hk3)
end
section
variable {prog : Program} {w : World} {A : Around} {R : Result→Shared→Prop} {s : Shared}
theorem codeAny_compStartD {elt target iter : PySem.Expr} {ifs : List PySem.Expr} {gens : List Comprehension} {scope : Scope} {pos : Pos} {it acc : Value} {env : Env} {d : Nat} (hg : gens[d]? = some ⟨target,iter,ifs,0⟩)
  (h0 : codeAny (model prog w) A (.compLoop (.ListComp elt gens scope pos) d it acc env) R s)
  (h : ∀ (E : Value→Shared→Prop),wpAny (model prog w) A (pyIter it) (fun it' s'=>codeAny (model prog w) A (.compLoop (.ListComp elt gens scope pos) d it' acc env) R s') E s) :
  codeAny (model prog w) A (.compStart (.ListComp elt gens scope pos) d it acc env) R s:=by
 refine codeAny_of_tree ?_
 show wpAny _ _ ((compStart (.ListComp elt gens scope pos) d it acc env).onRaise (fun x=>do noteFrame x env; standAt theWindowsPlace)) _ _ s
 refine wpAny_notedAt ?_
 have hc : (clausesOf (.ListComp elt gens scope pos))[d]? = some ⟨target,iter,ifs,0⟩:=hg
 unfold compStart
 rw [hc]
 show wpAny _ _ (ask >>= _) _ _ s
 refine wpAny_bind (wpAny_askSetting (wpAny_ite ?_))
 split
 ·first
   | exact wpAny_bind (wpAny_pure (wpAny_pure (And.intro rfl h0)))
   | exact wpAny_pure (And.intro rfl h0)
 ·first
   | exact wpAny_bind (wpAny_rule (wpAny_bind (wpAny_standAt (wpAny_bind (wpAny_mono (h _) (fun it' s' h'=>wpAny_pure (And.intro rfl h')) fun J J x=>x)))))
   | (refine wpAny_bind (wpAny_rule ?_); show wpAny _ _ (standAt iter.pos >>= _) _ _ s; exact wpAny_bind (wpAny_standAt (wpAny_bind (wpAny_mono (h _) (fun it' s' h'=>wpAny_pure (And.intro rfl h')) fun J J x=>x))))
end
section
variable {prog : Program} {w : World} {hT : Heap} {c : FC} {own own' own'' : Nat→Option Addr} {σ σ' : List CV} {s s' s'' : Shared} {mg mb : Str→Option Value} {D : Addr} {ys ys' : List CV}
theorem LS.addI {X : Addr→Prop} (x : LS hT (c.x X) D own σ ys s) {I : Addr} (hI : s.heap.get? I = none) (hA : NF s'.heap I) (e : Ex s s') : LS hT (c.x fun a=>X a∨a = I) D own σ ys s':=by
 refine bc fun hG=>?_
 obtain ⟨items,n,h1,h2,h3⟩:=x.l
 refine hG ?_
 clear hG
 refine ⟨x.sr.addI hI hA e,.inl x.x,⟨x.off.nl,x.off.nc,x.off.no,x.off.nt,x.off.nd,x.off.n0⟩,items,n,e.kp.keep D _ x.off.nt h1,h2,?_⟩
 refine h3.move fun b o hf e'=>⟨fun f=>?_,e.kp.keep b o (fun q=>hf (q▸x.sr.ft)) e'⟩
 rcases f with (f | f) | f
 ·exact hf (.inl f)
 ·rw [f,hI] at e'; cases e'
 ·exact hf (.inr f)
noncomputable def nestAct (e iter : PySem.Expr) (env : Env) (D : Addr) : Sem PUnit:=do
 let x ← eval iter env
 standAt iter.pos
 let x ← foldedSetIterable iter env x
 let it ← holding [x] (pyIter x)
 let _ ← runOwn (.compStart e 1 it (.ref D) env) env
noncomputable def nestM (mit : List CV→Option CV) (mt : CV→List CV→Option (List CV)) (mi : List CV→Option Bool) (ma : AM) : AM:=fun σ ys=>(mit σ).bind fun v=>(srcV v).bind fun xs=>compM mt mi ma xs σ ys
theorem Ac.nest {elt target iter : PySem.Expr} {ifs : List PySem.Expr} {gens : List Comprehension} {scope : Scope} {pos p : Pos} {act : Addr→Sem PUnit} {mt : CV→List CV→Option (List CV)} {mi : List CV→Option Bool} {ma : AM} {mit : List CV→Option CV} (W : Wf c) (hK : NoOwnCells c)
  (hg : gens[1]? = some ⟨target,iter,ifs,0⟩)
  (heq : ∀ I D,compTurn (.ListComp elt gens scope pos) 1 (.ref I) (.ref D) c.env = compTree (.ListComp elt gens scope pos) 1 p target ifs (.ref I) D c.env act)
  (hi : ∀ X,Rf prog w hT (c.x X) iter mit) (hT' : ∀ X,Ct prog w hT (c.x X) target mt) (hI : ∀ X,Ci prog w hT (c.x X) ifs mi) (hA : Ac prog w hT c act ma) (hs : ∀ x,foldedSetIterable iter c.env x = pure x:=by intro _; rfl) :
  Ac prog w hT c (nestAct (.ListComp elt gens scope pos) iter c.env) (nestM mit mt mi ma):=by
 intro X D own σ ys s σ1 ys1 x e
 refine bc fun hG=>?_
 revert e
 refine oR fun cv e1 e=>?_
 revert e
 refine oR fun xs e2 e=>?_
 refine hG ?_
 clear hG
 unfold nestAct
 refine wpAny_bind (wp_w (hi X own σ s cv x.sr e1) fun v s₁ h₁=>wpAny_bind (wpAny_standAt (wpAny_bind ?_)))
 rw [hs]
 refine wpAny_pure (wpAny_bind (wpAny_holding ?_))
 have x₁:=x.ex h₁.1
 have hnm:=srcV_noM e2
 refine Src.of x₁.sr.ft (h₁.2.vr' hnm) e2 _ _ _ W.aok.hd fun o fp P St hW h0 hfr hal hfp hP=>?_
 have hIn : s₁.heap.get? s₁.heap.objs.size = none:=by
  cases e : s₁.heap.get? s₁.heap.objs.size with
  | none=>rfl
  | some o=>exact absurd (Heap.lt_size e) (Nat.lt_irrefl _)
 generalize hIe : s₁.heap.objs.size = I at *
 have off:=x₁.sr.offNew hIn
 have hA2 : NF (s₁.heap.push o) I:=(hal 0 _ h0).nf
 have x₂:=x₁.addI (s':={ s₁ with heap:=s₁.heap.push o }) hIn hA2 (.push o)
 refine wpAny_bind (wpAny_runOwn ?_)
 show codeAny _ c.A _ _ _
 have hXI : ¬ X I:=fun q=>by
  refine bc fun hG=>?_
  obtain ⟨o',e',_⟩:=x₁.sr.xa I q off.nt
  refine hG ?_
  clear hG
  rw [hIn] at e'; cases e'
 have hPI : ¬ c.P I:=fun q=>by
  obtain ⟨o',e'⟩:=(x₁.sr.pa I q).2
  rw [hIn] at e'; cases e'
 have hDI : I ≠ D:=fun q=>by
  obtain ⟨items,n,hl,_⟩:=x₁.l
  rw [← q] at hl; rw [show s₁.heap.get? I = _ from hl] at hIn; cases hIn
 have go : codeAny (model prog w) c.A (.compLoop (.ListComp elt gens scope pos) 1 (.ref I) (.ref D) c.env) (fun r s'=>match r with
   | .ok f=>wpAny (model prog w) c.A (pure ()) (fun J s1=>∃ own1,LS hT (c.x X) D own1 σ1 ys1 s1∧Cx (zD c D) s s1∧∀ j a,own1 j = some a→own j = some a) noE s'
   | .error e=>cameBackBy (model prog w) c.A c.env noE e s') { s₁ with heap:=s₁.heap.push o }:=by
  refine comp_loop (X₁:=X) hK (heq I D) hT' hI hA x₂ hXI hPI ⟨off.nl,off.nc,off.no,off.nt,off.nd,off.n0⟩ hDI (hW c.A W.aok.hd) h0 hal (fun b hb hbI=>?_) (fun i v hi' hp=>?_) e fun own' s' ls cx sub=>?_
  ·refine bc fun hG=>?_
   obtain ⟨q1,q2,q3⟩:=hfp b hb hbI
   refine hG ?_
   clear hG
   have q3:=q3 rfl
   refine ⟨fun q=>q3 (.inl (q▸x₁.x)),fun q=>q3 (.inr (.inl q)),q2,?_⟩
   refine bc fun hG=>?_
   obtain ⟨o',e'⟩:=q1
   refine hG ?_
   clear hG
   exact ⟨o',Heap.get?_push_of_some _ e'⟩
  ·obtain ⟨y,hy,hr⟩:=hP i v hi' hp
   refine ⟨y,hy,hr.move fun b o' hf e'=>⟨fun f=>?_,Heap.get?_push_of_some _ e'⟩⟩
   rcases f with (f | f) | f
   ·exact hf (.inl f)
   ·rw [f,hIn] at e'; cases e'
   ·exact hf (.inr f)
  ·refine wpAny_pure ⟨own',ls,?_,sub⟩
   have c1 : Cx (zI c D I) s s':=(Cx.of_ex (h₁.1.trans (.push o))).trans cx
   refine c1.fresh fun b o' e' q=>?_
   rcases q with q | q | q
   ·exact .inl q
   ·exact .inr q
   ·by_cases ht : b = tabA
    ·rw [ht] at q; exact absurd q.symm off.nt
    ·rw [q] at e' ht; rw [h₁.1.kp.keep I o' ht e'] at hIn; cases hIn
 exact codeAny_compStartD hg go fun E=>(hW c.A W.aok.hd).self 0 _ _ _ h0 go
end
structure SrcOk (names : List (Str × NameKind)) (sc : Scope) (src : List (Option Nat)) : Prop where
 kind : sc.kind = .function
 nd : (sc.names.map (·.1)).Nodup
 nocell : ∀ x∈sc.names,x.2 ≠ NameKind.cell
 free : ∀ (i : Nat) x,sc.names[i]? = some (x,NameKind.free)→∃ j,src[i]? = some (some j)∧names[j]? = some (x,NameKind.cell)
 other : ∀ (i j : Nat),src[i]? = some (some j)→∃ x,sc.names[i]? = some (x,NameKind.free)
noncomputable def srcC (names : List (Str × NameKind)) (sc : Scope) (src : List (Option Nat)) : Bool :=
 sc.kind == .function && decide (sc.names.map (·.1)).Nodup && sc.names.all (fun x=>x.2 != .cell) && decide (src.length = sc.names.length) &&
  (sc.names.zip src).all fun p=>match p.1.2,p.2 with
   | .free,some j=>names[j]? == some (p.1.1,NameKind.cell)
   | .free,none=>false
   | _,some _=>false
   | _,none=>true
theorem srcC_ok {names : List (Str × NameKind)} {sc : Scope} {src : List (Option Nat)} (h : srcC names sc src = true) : SrcOk names sc src:=by
 unfold srcC at h
 simp only [Bool.and_eq_true,beq_iff_eq,decide_eq_true_eq,List.all_eq_true] at h
 obtain ⟨⟨⟨⟨h1,h2⟩,h3⟩,h4⟩,h5⟩:=h
 have at_ : ∀ (i : Nat) q o,sc.names[i]? = some q→src[i]? = some o→(q,o)∈sc.names.zip src:=fun i q o e1 e2=>List.mem_of_getElem? (i:=i) (by rw [List.getElem?_zip_eq_some]; exact ⟨e1,e2⟩)
 refine ⟨h1,h2,fun x hx=>by simpa using h3 x hx,fun i x e=>?_,fun i j e=>?_⟩
 ·obtain ⟨o,ho⟩ : ∃ o,src[i]? = some o:=⟨_,List.getElem?_eq_getElem (by rw [h4]; exact (gL e))⟩
  have:=h5 _ (at_ i _ o e ho)
  cases o with
  | none=>cases this
  | some j=>exact ⟨j,ho,by simpa using this⟩
 ·obtain ⟨⟨x,k⟩,ho⟩ : ∃ o,sc.names[i]? = some o:=⟨_,List.getElem?_eq_getElem (by rw [← h4]; exact (gL e))⟩
  have:=h5 _ (at_ i _ _ ho e)
  cases k <;> first | cases this | exact ⟨x,ho⟩
noncomputable def capt (src : List (Option Nat)) (σ : List CV) : List CV:=src.map fun o=>o.elim .unb fun j=>σ.getD j .unb
noncomputable def captO (src : List (Option Nat)) (own : Nat→Option Addr) (i : Nat) : Option Addr:=(src.getD i none).bind own
theorem capt_at {src : List (Option Nat)} {σ : List CV} {i j : Nat} (h : src[i]? = some (some j)) : (capt src σ).getD i .unb = σ.getD j .unb:=by
 simp [capt,List.getD,h]
theorem capt_none {src : List (Option Nat)} {σ : List CV} {i : Nat} (h : ∀ j,src[i]? ≠ some (some j)) : (capt src σ).getD i .unb = .unb:=by
 rw [List.getD_eq_getElem?_getD]
 unfold capt
 rw [List.getElem?_map]
 cases e : src[i]? with
 | none=>rfl
 | some o=>cases o with
  | none=>rfl
  | some j=>exact absurd e (h j)
theorem closure_go {env : Env} : ∀ (names : List (Str × NameKind)) (acc : List (Str × Addr)),(names.map (·.1)).Nodup→(∀ x,(x,NameKind.free)∈names→∃ a,env.cells.lookup x = some a) →
  ∃ cl,(forIn names acc fun (x : Str × NameKind) (cs : List (Str × Addr))=>if (x.2 == NameKind.free) = true then (do let a ← cellOf env x.1; pure (ForInStep.yield ((x.1,a)::cs))) else pure (ForInStep.yield cs)) = (pure cl : Sem _) ∧
   (∀ x,(x,NameKind.free)∈names→cl.lookup x = env.cells.lookup x)∧(∀ x,x ∉ names.map (·.1)→cl.lookup x = acc.lookup x):=by
 intro names
 induction names with
 | nil =>
  intro acc _ _
  exact ⟨acc,rfl,fun J h=>by simp at h,fun J J=>rfl⟩
 | cons p0 r closure_go =>
  obtain ⟨y,k⟩:=p0
  intro acc hn h
  simp only [List.map_cons,List.nodup_cons] at hn
  rw [List.forIn_cons]
  by_cases hk : k = NameKind.free
  ·subst hk
   refine bc fun hG=>?_
   obtain ⟨a,ha⟩:=h y List.mem_cons_self
   obtain ⟨cl,h1,h2,h3⟩:=closure_go ((y,a)::acc) hn.2 fun x hx=>h x (List.mem_cons_of_mem _ hx)
   refine hG ?_
   clear hG
   refine ⟨cl,?_,fun x hx=>?_,fun x hx=>?_⟩
   ·simp only [beq_self_eq_true,if_true,cellOf,ha,pure_bind]
    exact h1
   ·rcases List.mem_cons.mp hx with q | q
    ·cases q; rw [h3 _ hn.1,List.lookup_cons,beq_self_eq_true,ha]
    ·exact h2 x q
   ·simp only [List.map_cons,List.mem_cons,not_or] at hx
    rw [h3 x hx.2,List.lookup_cons,beq_eq_false_iff_ne.mpr hx.1]
  ·refine bc fun hG=>?_
   obtain ⟨cl,h1,h2,h3⟩:=closure_go acc hn.2 fun x hx=>h x (List.mem_cons_of_mem _ hx)
   refine hG ?_
   clear hG
   refine ⟨cl,?_,fun x hx=>?_,fun x hx=>?_⟩
   ·have : (k == NameKind.free) = false:=by exact beq_false_of_ne hk
    simp only [this,Bool.false_eq_true,if_false,pure_bind]
    exact h1
   ·rcases List.mem_cons.mp hx with q | q
    ·cases q; exact absurd rfl hk
    ·exact h2 x q
   ·simp only [List.map_cons,List.mem_cons,not_or] at hx
    exact h3 x hx.2
section
variable {prog : Program} {w : World} {hT : Heap} {c : FC} {own own' own'' : Nat→Option Addr} {σ σ' : List CV} {s s' s'' : Shared} {mg mb : Str→Option Value} {D : Addr} {ys ys' : List CV}
theorem closure_ok (x : SR hT c own σ s) {sc : Scope} {src : List (Option Nat)} (S : SrcOk c.names sc src) : ∃ cl,closureFor sc c.env = pure cl∧∀ y,(y,NameKind.free)∈sc.names→cl.lookup y = c.env.cells.lookup y:=by
 refine bc fun hG=>?_
 obtain ⟨cl,h1,h2,_⟩:=closure_go (env:=c.env) sc.names [] S.nd fun y hy=>by
  obtain ⟨i,hi⟩:=List.mem_iff_getElem?.mp hy
  obtain ⟨j,_,hj⟩:=S.free i y hi
  obtain ⟨a,_,ha,_⟩:=x.cel j y hj
  exact ⟨a,ha⟩
 refine hG ?_
 clear hG
 refine ⟨cl,?_,h2⟩
 unfold closureFor
 exact (congrArg (fun m=>m >>= fun r=>(pure r : Sem _)) h1).trans (pure_bind ..)
noncomputable abbrev cf (c : FC) (sc : Scope) (e : Env) (X : Addr→Prop) (s0 : Shared) (P : Addr→Prop) : FC:=⟨c.A,{ e with scope:=relabel sc c.env },X,s0,P,fun J=>true⟩
structure CompFin (hT : Heap) (c : FC) (own : Nat→Option Addr) (s : Shared) (D C : Addr) (ys : List CV) (s' : Shared) : Prop where
 ex : Ex s s'
 fd : s.heap.get? D = none
 fc : s.heap.get? C = none
 ne : D ≠ C
 l : ∃ items n,IsL s'.heap D items n∧items.size≤4096∧VRs (fun b=>FF c own b∨b = C) s'.heap ys items.toList
 ns : ∃ m,s'.heap.Ns C m
theorem relabel_at {sc : Scope} {env : Env} {i : Nat} {y : Str} {k : NameKind} (h : (relabel sc env).names[i]? = some (y,k)) : ∃ k',sc.names[i]? = some (y,k')∧(k' = k∨(k' = .free∧k = .cell)):=by
 unfold relabel at h
 rw [List.getElem?_map] at h
 refine bc fun hG=>?_
 obtain ⟨⟨z,k'⟩,h1,h2⟩:=oM h
 refine hG ?_
 clear hG
 dsimp only at h2
 split at h2
 ·rename_i hc
  cases h2
  simp only [Bool.and_eq_true,beq_iff_eq] at hc
  exact ⟨k',h1,.inr ⟨hc.1.1,rfl⟩⟩
 ·cases h2; exact ⟨k,h1,.inl rfl⟩
theorem nodup_idx {names : List (Str × NameKind)} (hn : (names.map (·.1)).Nodup) {i j : Nat} {y : Str} {k k' : NameKind} (h1 : names[i]? = some (y,k)) (h2 : names[j]? = some (y,k')) : i = j:=by
 have a : (names.map (·.1))[i]? = some y:=by rw [List.getElem?_map,h1]; rfl
 have b : (names.map (·.1))[j]? = some y:=by rw [List.getElem?_map,h2]; rfl
 exact (List.getElem?_inj (gL a) hn).mp (a.trans b.symm)
theorem Wf.comp (W : Wf c) {sc : Scope} {src : List (Option Nat)} (S : SrcOk c.names sc src) {e : Env} {X : Addr→Prop} {s0 : Shared} {P : Addr→Prop} (hg : e.globals = mainGlobals) (hb : e.builtins = builtinsNs) : Wf (cf c sc e X s0 P):=by
 refine ⟨W.aok,W.fr,S.kind,hg,hb,?_⟩
 have : (relabel sc c.env).names.map (·.1) = sc.names.map (·.1):=by
  unfold relabel
  rw [List.map_map]
  refine List.map_congr_left fun x J=>?_
  simp only [Function.comp]
  split <;> rfl
 show ((relabel sc c.env).names.map (·.1)).Nodup
 rw [this]; exact S.nd
theorem relabel_cell {sc : Scope} {src : List (Option Nat)} (S : SrcOk c.names sc src) {i : Nat} {y : Str} (hy : (relabel sc c.env).names[i]? = some (y,NameKind.cell)) : sc.names[i]? = some (y,.free):=by
 obtain ⟨k',h1,h2⟩:=relabel_at hy
 rcases h2 with h2 | ⟨h2,_⟩
 ·exact absurd h2.symm (S.nocell _ (List.mem_of_getElem? h1)).symm
 ·rw [h1,h2]
theorem capto_inv {src : List (Option Nat)} {i : Nat} {a : Addr} (e : captO src own i = some a) : ∃ p,src[i]? = some (some p)∧own p = some a:=by
 unfold captO at e
 refine bc fun hG=>?_
 obtain ⟨p,p1,p2⟩:=oB e
 refine hG ?_
 clear hG
 rw [List.getD_eq_getElem?_getD] at p1
 refine ⟨p,?_,p2⟩
 cases e : src[i]? with
 | none=>rw [e] at p1; cases p1
 | some o=>rw [e] at p1; exact congrArg some p1
theorem comp_frame (W : Wf c) {sc : Scope} {src : List (Option Nat)} (S : SrcOk c.names sc src) (x : SR hT c own σ s) {cl : List (Str × Addr)} (hcl : ∀ y,(y,NameKind.free)∈sc.names→cl.lookup y = c.env.cells.lookup y) {C I : Addr} {m : Str→Option Value} {s1 : Shared}
  (hgens : GK s s1) (hos : s1.os = s.os) (old : ∀ b o,s.heap.get? b = some o→s1.heap.get? b = some o) (hD : s.heap.get? D = none) (hC : s.heap.get? C = none) (hI : s.heap.get? I = none) (hDC : D ≠ C) (hIC : I ≠ C)
  (hns : s1.heap.Ns C m) (hlD : IsL s1.heap D #[] 0) (hAI : NF s1.heap I) :
  LS hT (cf c sc (compEnvC sc cl C c.env) (fun a=>(FF c own a∨a = D)∨a = I) s fun a=>∃ i,own i = some a) D (captO src own) (capt src σ) [] s1 ∧
   Off (cf c sc (compEnvC sc cl C c.env) (fun a=>(FF c own a∨a = D)∨a = I) s fun a=>∃ i,own i = some a) (captO src own) I ∧
   ∀ b o,¬ FF c own b→s.heap.get? b = some o→¬ FF (cf c sc (compEnvC sc cl C c.env) (fun a=>(FF c own a∨a = D)∨a = I) s fun a=>∃ i,own i = some a) (captO src own) b∧s1.heap.get? b = some o:=by
 have ne_of : ∀ {b : Addr} {o a},s.heap.get? b = some o→s.heap.get? a = none→b ≠ a:=fun e h q=>by rw [q,h] at e; cases e
 have off : ∀ {a : Addr},s.heap.get? a = none→a ≠ C→Off (cf c sc (compEnvC sc cl C c.env) (fun a=>(FF c own a∨a = D)∨a = I) s fun a=>∃ i,own i = some a) (captO src own) a:=fun {a} ha hne=>by
  have o:=x.offNew ha
  refine ⟨hne,fun i y b hy hl=>?_,fun i l hl=>?_,o.nt,o.nd,ha⟩
  ·have h1:=relabel_cell S hy
   obtain ⟨j,_,hj⟩:=S.free i y h1
   exact o.nc j y b hj ((hcl y (List.mem_of_getElem? h1)).symm.trans hl)
  ·obtain ⟨j,_,hj⟩:=capto_inv hl
   exact o.no j l hj
 have mv : ∀ b o,¬ FF c own b→s.heap.get? b = some o→¬ FF (cf c sc (compEnvC sc cl C c.env) (fun a=>(FF c own a∨a = D)∨a = I) s fun a=>∃ i,own i = some a) (captO src own) b∧s1.heap.get? b = some o:=fun b o hf e=>by
  refine ⟨fun f=>?_,old b o e⟩
  rcases f with ((f | f) | f) | f | ⟨i,y,_,q,_⟩ | ⟨i,f⟩
  ·exact hf f
  ·exact ne_of e hD f
  ·exact ne_of e hI f
  ·exact ne_of e hC f
  ·cases q
  ·obtain ⟨j,_,hj⟩:=capto_inv f
   exact hf (.inr (.inr (.inr ⟨j,hj⟩)))
 have lT : ∀ a,(∃ i,own i = some a)→hT.get? a = none:=fun a ⟨i,e⟩=>by
  rcases x.ofr i a e with q | q
  ·cases e' : hT.get? a with
   | none=>rfl
   | some o=>rw [x.top0.keep a o (x.one e) e'] at q; cases q.1
  ·exact x.pt a q
 have sr : SR hT (cf c sc (compEnvC sc cl C c.env) (fun a=>(FF c own a∨a = D)∨a = I) s fun a=>∃ i,own i = some a) (captO src own) (capt src σ) s1:=by
  refine ⟨x.top.trans (.of_all old),x.top,lT,fun a ⟨i,e⟩=>⟨x.one e,by obtain ⟨it,n,h⟩:=x.oal i a e; exact ⟨_,old a _ h⟩⟩,hos,⟨hgens.b x.gens.b,hgens.k⟩,fun b o J J e=>old b o e,fun ps t=>⟨#[],by rw [Array.append_empty]; exact t.keeps old⟩,
   by obtain ⟨ps,t⟩:=x.tok; exact ⟨ps,t.keeps old⟩,.inl (.inl x.ft),fun a h ht=>?_,hC,⟨m,hns,fun i y hy=>?_⟩,fun i y hy=>?_,fun i j y z a hy hz e1 e2=>?_,fun i j a e1 e2=>?_,fun i a e=>?_,fun i a e=>?_⟩
  ·rcases h with (h | h) | h
   ·exact (x.fal h ht).keeps fun o=>old a o
   ·rw [h]; exact ⟨_,hlD,.inr fun vs e=>by cases e⟩
   ·rw [h]; exact hAI
  ·have hu : (capt src σ).getD i .unb = .unb:=capt_none fun j e=>by
    obtain ⟨z,hz⟩:=S.other i j e
    obtain ⟨k',h1,h2⟩:=relabel_at hy
    rw [hz] at h1; cases h1
    rcases h2 with h2 | ⟨_,h2⟩ <;> cases h2
   rw [hu]; trivial
  ·have h1:=relabel_cell S hy
   refine bc fun hG=>?_
   obtain ⟨j,hj1,hj⟩:=S.free i y h1
   obtain ⟨a,ov,ha,⟨o,ho,hd⟩,sv,_⟩:=x.cel j y hj
   refine hG ?_
   clear hG
   refine ⟨a,ov,(hcl y (List.mem_of_getElem? h1)).trans ha,⟨o,old a o ho,hd⟩,?_,fun q=>by cases q⟩
   rw [capt_at hj1]
   have oi : ∀ l,own j = some l→captO src own i = some l:=fun l e=>by unfold captO; rw [List.getD_eq_getElem?_getD,hj1]; exact e
   clear ha ho hd hj hj1 h1
   generalize σ.getD j .unb = z at sv
   cases hz : isM z with
   | false=>exact sv.moveN hz mv
   | true =>
    refine bc fun hG=>?_
    obtain ⟨v,l,rfl,e2,e3,e4⟩:=sv.ofM hz
    refine hG ?_
    clear hG
    exact .toM (e2.reown mv e3 (oi l e3)) (oi l e3) (e4.move mv fun o'=>old l o')
  ·have a1:=relabel_cell S hy
   have a2:=relabel_cell S hz
   obtain ⟨p,_,hp⟩:=S.free i y a1
   obtain ⟨q,_,hq⟩:=S.free j z a2
   have this:=x.cinj p q y z a hp hq ((hcl y (List.mem_of_getElem? a1)).symm.trans e1) ((hcl z (List.mem_of_getElem? a2)).symm.trans e2)
   rw [this,hq] at hp
   cases hp
   exact nodup_idx S.nd a1 a2
  ·obtain ⟨p,g1,p2⟩:=capto_inv e1
   obtain ⟨q,g2,q2⟩:=capto_inv e2
   rw [← x.oinj p q a p2 q2] at g2
   obtain ⟨y,hy⟩:=S.other i p g1
   obtain ⟨z,hz⟩:=S.other j p g2
   obtain ⟨p',hp1,hp2⟩:=S.free i y hy
   obtain ⟨q',hq1,hq2⟩:=S.free j z hz
   rw [g1] at hp1; cases hp1
   rw [g2] at hq1; cases hq1
   rw [hp2] at hq2; cases hq2
   exact nodup_idx S.nd hy hz
  ·obtain ⟨p,_,p2⟩:=capto_inv e
   exact .inr ⟨p,p2⟩
  ·obtain ⟨p,_,p2⟩:=capto_inv e
   obtain ⟨it,n,h⟩:=x.oal p a p2
   exact ⟨it,n,old a _ h⟩
 exact ⟨⟨sr,.inl (.inr rfl),off hD hDC,#[],0,hlD,by exact Array.none_eq_getElem?_iff.mp rfl,.nil⟩,off hI hIC,mv⟩
end
noncomputable def srcσ (σ : List CV) : CV→Option (List CV)
 | .own i=>(ownLst (σ.getD i .unb)).bind fun vs=>if vs.length≤4096 then some vs else none
 | cv=>srcV cv
section
variable {prog : Program} {w : World} {hT : Heap} {c : FC} {own own' own'' : Nat→Option Addr} {σ σ' : List CV} {s s' s'' : Shared} {mg mb : Str→Option Value} {D : Addr} {ys ys' : List CV}
set_option tactic.hygienic true in
theorem Src.er (x : SR hT c own σ s) {cv : CV} {v : Value} {xs : List CV} (r : ER c own σ s.heap cv v) (e : srcσ σ cv = some xs) : Src prog w (FF c own) false s v xs:=by
 have fz : ∀ {xs},Src prog w (FF c own) true s v xs→Src prog w (FF c own) false s v xs:=fun h A E Q hh k=>h A E Q hh fun o fp P St h1 h2 h3 h4 h5 h6=>k o fp P St h1 h2 h3 h4 (fun b hb hbI=>⟨(h5 b hb hbI).1,(h5 b hb hbI).2.1,fun q=>by cases q⟩) h6
 cases cv
 case own i =>
  refine oE e fun vs e1 e2=>?_
  replace e2:=ite_opt e2
  obtain ⟨_,e2⟩:=e2
  ·cases e2
   refine bc fun hG=>?_
   obtain ⟨a,n,items,rfl,hl,hz,hv,ht⟩:=r.lst (cv:=.own i) (vs:=xs) x e1
   refine hG ?_
   clear hG
   exact .list hl hv ht fun q=>by cases q
 all_goals first
  | (cases e; done)
  | exact fz (Src.of x.ft (r.vr' rfl) e)
theorem compTurn_1 (elt target iter : PySem.Expr) (ifs : List PySem.Expr) (scope : Scope) (pos : Pos) (it : Value) (D : Addr) (env : Env) :
  compTurn (.ListComp elt [⟨target,iter,ifs,0⟩] scope pos) 0 it (.ref D) env =
   compTree (.ListComp elt [⟨target,iter,ifs,0⟩] scope pos) 0 iter.pos target ifs it D env (fun D=>do let _ ← call (.builtin "list.append") [.ref D,← eval elt env]):=by rfl
theorem compTurn_21 (elt t1 i1 t2 i2 : PySem.Expr) (f1 f2 : List PySem.Expr) (scope : Scope) (pos : Pos) (it : Value) (D : Addr) (env : Env) :
  compTurn (.ListComp elt [⟨t1,i1,f1,0⟩,⟨t2,i2,f2,0⟩] scope pos) 1 it (.ref D) env =
   compTree (.ListComp elt [⟨t1,i1,f1,0⟩,⟨t2,i2,f2,0⟩] scope pos) 1 i2.pos t2 f2 it D env (fun D=>do let _ ← call (.builtin "list.append") [.ref D,← eval elt env]):=by rfl
theorem compTurn_20 (elt t1 i1 t2 i2 : PySem.Expr) (f1 f2 : List PySem.Expr) (scope : Scope) (pos : Pos) (it : Value) (D : Addr) (env : Env) :
  compTurn (.ListComp elt [⟨t1,i1,f1,0⟩,⟨t2,i2,f2,0⟩] scope pos) 0 it (.ref D) env =
   compTree (.ListComp elt [⟨t1,i1,f1,0⟩,⟨t2,i2,f2,0⟩] scope pos) 0 i1.pos t1 f1 it D env (nestAct (.ListComp elt [⟨t1,i1,f1,0⟩,⟨t2,i2,f2,0⟩] scope pos) i2 env):=by
 unfold compTurn compTree nestAct
 show (standAt i1.pos >>= fun J=>_) = _
 congr 1
 funext _
 show (pyNext it >>= fun r=>_) = _
 congr 1
 funext r
 cases r with
 | none=>rfl
 | some v =>
  show (letOwnedTupleGo t1 it v >>= fun J=>assign t1 env v >>= fun J=>testsOf f1 env >>= fun ok=>_) = _
  congr 1; funext _
  congr 1; funext _
  congr 1; funext ok
  cases ok
  ·rfl
  ·simp [bind_assoc]
theorem Ct.nm {y : Str} {py : Pos} {i : Nat} (W : Wf c) (hn : c.names[i]? = some (y,.local)) : Ct prog w hT c (.Name y py) (stF i):=fun own σ s cv v σ' x r e =>
 wpAny_assign_Name (wp_w (wp_storeF W x (.inl hn) r e) fun J s₁ h=>⟨_,h.1,h.2.1,fun j a q=>by
  unfold dropO at q
  split at q
  ·cases q
  ·exact q⟩)
theorem Ct.tup2 {y z : Str} {py pz tp : Pos} {k i j : Nat} (W : Wf c) (hy : c.names[i]? = some (y,.local)) (hz : c.names[j]? = some (z,.local)) :
  Ct prog w hT c (.Tuple [.Name y py,.Name z pz] k tp) (fun cv σ=>asU (fun l=>on2 (fun a b=>(stF i a σ).bind (stF j b)) l) cv):=fun own σ s cv v σ' x r e=>by
 replace e:=asU_inv e
 refine bc fun hG=>?_
 obtain ⟨vs,rfl,e⟩:=e
 obtain ⟨a,items,n,rfl,hf,hl,hv⟩:=VR.tup_inv r
 replace e:=on2_inv e
 obtain ⟨p,q,rfl,e⟩:=e
 refine hG ?_
 clear hG
 ·refine bc fun hG=>?_
  refine oE e fun σ1 e1 e2=>?_
  refine hG ?_
  clear hG
  clear e
  refine assign_Tuple_tuple W.aok.hd ⟨_,hl,rfl,n,rfl⟩ (by rw [← hv.sz]; rfl) rfl fun h' he=>?_
  have ee : Ex s { s with heap:=h' }:=⟨.of_all fun b o q=>he b o (Nat.ne_of_lt (Heap.lt_size q)) q,rfl,.same rfl⟩
  have x1:=x.ex ee
  have hv':=hv.kp x.ft ee.kp
  refine bc fun hG=>?_
  obtain ⟨u1,l1,el,r1,rr⟩:=hv'.cons_inv
  obtain ⟨u2,l2,rfl,r2,r3⟩:=rr.cons_inv
  clear rr
  obtain rfl:=r3.nil_inv
  refine hG ?_
  clear hG
  rw [el]
  clear r el hv hv' r3
  refine assignInOrder_cons (wpAny_assign_Name (wp_w (wp_storeF W x1 (.inl hy) r1 e1) fun J s₁ h=>?_))
  refine bc fun hG=>?_
  obtain ⟨x2,k2,_,_⟩:=h
  refine hG ?_
  clear hG
  have r2' : VR (FF c (dropO c own i)) s₁.heap q u2:=r2.move fun b o hf e=>⟨fun f=>by
   rcases f with f | f | f | ⟨j,f⟩
   ·exact hf (.inl f)
   ·exact hf (.inr (.inl f))
   ·exact hf (.inr (.inr (.inl f)))
   ·unfold dropO at f
    split at f
    ·exact none_ne f
    ·exact hf (.inr (.inr (.inr ⟨j,f⟩))),k2.keep b o (fun m=>hf (by rcases m with m | m | ⟨_,m⟩; exact .inr (.inl m); exact .inr (.inr (.inl m)); cases m)) (fun q=>hf (q▸x.ft)) e⟩
  refine assignInOrder_cons (wpAny_assign_Name (wp_w (wp_storeF W x2 (.inl hz) r2' e2) fun J s₂ h=>assignInOrder_nil ?_))
  refine bc fun hG=>?_
  obtain ⟨x3,k3,_,_⟩:=h
  refine hG ?_
  clear hG
  refine ⟨_,x3,(Ss.of_ex ee).trans (.refl _) (k2.trans (.refl _) k3),fun j' a q=>?_⟩
  unfold dropO at q
  split at q
  ·exact none_ne q
  ·split at q
   ·cases q
   ·exact q
theorem Ci.nil : Ci prog w hT c [] (fun J=>some true):=fun own σ s b x e=>by
 cases e; exact wpAny_tests_nil ⟨.refl _,rfl⟩
theorem Ci.one {t : PySem.Expr} {mt : List CV→Option Bool} (h : Rt prog w hT c t mt) : Ci prog w hT c [t] mt:=fun own σ s b x e=>wpAny_tests_one (h own σ s b x e)
theorem comp_core (W : Wf c) {elt target iter : PySem.Expr} {ifs : List PySem.Expr} {rest : List Comprehension} {sc : Scope} {pos p : Pos} {act : Env→Addr→Sem PUnit} {src : List (Option Nat)} {mt : CV→List CV→Option (List CV)} {mi : List CV→Option Bool} {ma : AM} (S : SrcOk c.names sc src)
  (heq : ∀ it D env,compTurn (.ListComp elt (⟨target,iter,ifs,0⟩::rest) sc pos) 0 it (.ref D) env = compTree (.ListComp elt (⟨target,iter,ifs,0⟩::rest) sc pos) 0 p target ifs it D env (act env))
  (hT' : ∀ e X s0 P,Wf (cf c sc e X s0 P)→Ct prog w hT (cf c sc e X s0 P) target mt) (hCi : ∀ e X s0 P,Wf (cf c sc e X s0 P)→Ci prog w hT (cf c sc e X s0 P) ifs mi)
  (hA : ∀ e X s0 P,Wf (cf c sc e X s0 P)→Ac prog w hT (cf c sc e X s0 P) (act { e with scope:=relabel sc c.env }) ma)
  (x : SR hT c own σ s) {v : Value} {xs : List CV} (hsrc : Src prog w (FF c own) false s v xs) {cl : List (Str × Addr)} (hcl : ∀ y,(y,NameKind.free)∈sc.names→cl.lookup y = c.env.cells.lookup y) {σf ysf : List CV}
  (he : compM mt mi ma xs (capt src σ) [] = some (σf,ysf)) (RR : Value→Addr→Result→Shared→Prop) (hRR : ∀ D C s',CompFin hT c own s D C ysf s'→RR (.ref D) C (.ok .next) s') :
  wpAny (model prog w) c.A (pyIter v) (fun it s₂=>wpAny (model prog w) c.A (newList []) (fun acc s₃=>wpAny (model prog w) c.A (newFunctionEnv sc c.env.globals cl [] c.env.qual none .none (some c.env)) (fun cenv s₄ =>
   codeAny (model prog w) c.A (.compStart (.ListComp elt (⟨target,iter,ifs,0⟩::rest) sc pos) 0 it acc { cenv with scope:=relabel sc c.env }) (RR acc cenv.locals) s₄) noE s₃) noE s₂) noE s:=by
 refine hsrc _ _ _ W.aok.hd fun o fp P St hW h0 hfr hal hfp hP=>?_
 have fresh : ∀ a,s.heap.objs.size≤a→s.heap.get? a = none:=fun a ha=>by
  cases e : s.heap.get? a with
  | none=>rfl
  | some o'=>exact absurd (Heap.lt_size e) (Nat.not_lt.mpr ha)
 refine wpAny_newObj_type (wpAny_newFunctionEnv S.nocell (by intro y hy; simp at hy) (fun h₁ hns₁ hsb₁=>?_) S.kind)
 dsimp only at hns₁ hsb₁ ⊢
 have sz1 : (s.heap.push o).objs.size = s.heap.objs.size + 1:=Heap.size_push ..
 have sz2 : ((s.heap.push o).push { cls:=.type "list",dict:=none,data:=.seq ([] : List Value).toArray }).objs.size = s.heap.objs.size + 2:=by rw [Heap.size_push,sz1]
 generalize hI : s.heap.objs.size = I at *
 generalize hD : (s.heap.push o).objs.size = D at *
 generalize hC : ((s.heap.push o).push { cls:=.type "list",dict:=none,data:=.seq ([] : List Value).toArray }).objs.size = C at *
 have nID : I ≠ D:=fun q=>by lia
 have nIC : I ≠ C:=fun q=>by lia
 have nDC : D ≠ C:=fun q=>by lia
 have fI : s.heap.get? I = none:=fresh I (Nat.le_refl _)
 have fD : s.heap.get? D = none:=fresh D (by rw [sz1]; exact Nat.le_succ _)
 have fC : s.heap.get? C = none:=fresh C (by rw [sz2]; exact Nat.le_add_right _ _)
 have neC : ∀ {b : Addr} {o'},s.heap.get? b = some o'→b ≠ C:=fun e q=>by rw [q,fC] at e; cases e
 have old : ∀ b o',s.heap.get? b = some o'→h₁.get? b = some o':=fun b o' e=>hsb₁.extBut b o' (neC e) (Heap.get?_push_of_some _ (Heap.get?_push_of_some _ (Heap.get?_push_of_some _ e)))
 have hlD : IsL h₁ D #[] 0:=hsb₁.extBut _ _ nDC (Heap.get?_push_of_some _ (by rw [← hD]; exact Heap.get?_push_size _ rfl))
 have hAI : h₁.get? I = some o:=hsb₁.extBut _ _ nIC (Heap.get?_push_of_some _ (Heap.get?_push_of_some _ (by rw [← hI]; exact Heap.get?_push_size _ hfr)))
 have ls:=comp_frame (s1:={ s with heap:=h₁,toks:=s.toks + ([] : List (Str × Value)).length }) W S x hcl (.same rfl) rfl old fD fC fI nDC nIC hns₁ hlD ((hal 0 _ h0).nf.keeps fun o' e=>by
  have : (s.heap.push o).get? I = some o:=by rw [← hI]; exact Heap.get?_push_size _ hfr
  rw [this] at e; cases e; exact hAI)
 refine bc fun hG=>?_
 obtain ⟨ls,offI,mv⟩:=ls
 refine hG ?_
 clear hG
 have gl : (compEnvC sc cl C c.env).globals = mainGlobals:=W.gl
 have bu : (compEnvC sc cl C c.env).builtins = builtinsNs:=W.bu
 have Wc : ∀ X,Wf (cf c sc (compEnvC sc cl C c.env) X s fun a=>∃ i,own i = some a):=fun X=>W.comp S gl bu
 have go : codeAny (model prog w) c.A (.compLoop (.ListComp elt (⟨target,iter,ifs,0⟩::rest) sc pos) 0 (.ref I) (.ref D) (compEnvC sc cl C c.env)) (RR (.ref D) C) { s with heap:=h₁,toks:=s.toks + ([] : List (Str × Value)).length }:=by
  refine comp_loop (c:=cf c sc (compEnvC sc cl C c.env) (fun J=>False) s fun a=>∃ i,own i = some a) (X₁:=fun a=>FF c own a∨a = D) (fun J=>rfl) (heq _ _ _) (fun X=>hT' _ X s _ (Wc X)) (fun X=>hCi _ X s _ (Wc X))
   (hA _ _ s _ (Wc _)) ls (fun q=>q.elim (x.fnew fI) nID) (fun ⟨i,e⟩=>by obtain ⟨it,n,h⟩:=x.oal i I e; rw [show s.heap.get? I = _ from h] at fI; cases fI)
   ⟨offI.nl,offI.nc,offI.no,offI.nt,offI.nd,offI.n0⟩ nID (hW c.A W.aok.hd) ?_ hal (fun b hb hbI=>?_) (fun i v hi hp=>?_) he fun own' s' ls' cx sub=>?_
  ·refine (hW c.A W.aok.hd).frame 0 (s.heap.push o) h₁ h0 fun b hb o' e=>?_
   by_cases hbI : b = I
   ·rw [hbI] at e ⊢
    have : (s.heap.push o).get? I = some o:=by rw [← hI]; exact Heap.get?_push_size _ hfr
    rw [this] at e; cases e; exact hAI
   ·obtain ⟨⟨o'',e''⟩,_⟩:=hfp b hb hbI
    rw [Heap.get?_push_of_some _ e''] at e; cases e
    exact old b _ e''
  ·refine bc fun hG=>?_
   obtain ⟨⟨o'',e''⟩,q2,_⟩:=hfp b hb hbI
   refine hG ?_
   clear hG
   exact ⟨fun q=>(by rw [q,fD] at e''; cases e''),neC e'',q2,⟨o'',old b _ e''⟩⟩
  ·refine bc fun hG=>?_
   obtain ⟨y,hy,hr⟩:=hP i v hi hp
   refine hG ?_
   clear hG
   exact ⟨y,hy,hr.move mv⟩
  ·refine hRR D C s' ⟨⟨⟨fun b o' ht e=>cx.keep b o' (fun q=>?_) ht (old b o' e),fun ps t=>cx.tab ps (t.keeps old)⟩,cx.os,⟨cx.gens.b,cx.gens.k⟩⟩,fD,fC,nDC,?_,?_⟩
   ·rcases q with q | q | q
    ·exact neC e q
    ·rw [q,fD] at e; cases e
    ·rw [q,fI] at e; cases e
   ·obtain ⟨items,n,hl,hz,hv⟩:=ls'.l
    refine ⟨items,n,hl,hz,hv.weak fun a q=>?_⟩
    rcases q with q | q
    ·exact .inl (.inl q)
    ·exact .inr (.inl q)
   ·obtain ⟨m,hm,_⟩:=ls'.sr.ns; exact ⟨m,hm⟩
 have hst : St 0 h₁:=by
  refine (hW c.A W.aok.hd).frame 0 (s.heap.push o) h₁ h0 fun b hb o' e=>?_
  by_cases hbI : b = I
  ·rw [hbI] at e ⊢
   have : (s.heap.push o).get? I = some o:=by rw [← hI]; exact Heap.get?_push_size _ hfr
   rw [this] at e; cases e; exact hAI
  ·obtain ⟨⟨o'',e''⟩,_⟩:=hfp b hb hbI
   rw [Heap.get?_push_of_some _ e''] at e; cases e
   exact old b _ e''
 exact codeAny_compStartD (d:=0) rfl go fun E=>(hW c.A W.aok.hd).self 0 _ _ _ hst go
end
section
variable {prog : Program} {w : World} {hT : Heap} {c : FC} {own own' own'' : Nat→Option Addr} {σ σ' : List CV} {s s' s'' : Shared} {mg mb : Str→Option Value} {D : Addr} {ys ys' : List CV}
noncomputable def compV (mit : List CV→Option CV) (src : List (Option Nat)) (mt : CV→List CV→Option (List CV)) (mi : List CV→Option Bool) (ma : AM) (σ : List CV) : Option CV :=
 (mit σ).bind fun v=>(srcσ σ v).bind fun xs=>(compM mt mi ma xs (capt src σ) []).map fun p=>.list p.2
theorem SrcOk.names {sc : Scope} {src : List (Option Nat)} {names : List (Str × NameKind)} (S : SrcOk names sc src) : ∀ x∈sc.names,x.2 = .local→sc.names.lookup x.1 = some .local:=fun x hx e=>by
 rw [← e]; exact lookup_nd S.nd hx
theorem Rf.comp (W : Wf c) {elt target iter : PySem.Expr} {ifs : List PySem.Expr} {rest : List Comprehension} {sc : Scope} {pos p : Pos} {act : Env→Addr→Sem PUnit} {src : List (Option Nat)} {mit : List CV→Option CV} {mt : CV→List CV→Option (List CV)} {mi : List CV→Option Bool} {ma : AM} (S : SrcOk c.names sc src)
  (heq : ∀ it D env,compTurn (.ListComp elt (⟨target,iter,ifs,0⟩::rest) sc pos) 0 it (.ref D) env = compTree (.ListComp elt (⟨target,iter,ifs,0⟩::rest) sc pos) 0 p target ifs it D env (act env))
  (hi : Rf prog w hT c iter mit)
  (hT' : ∀ e X s0 P,Wf (cf c sc e X s0 P)→Ct prog w hT (cf c sc e X s0 P) target mt) (hCi : ∀ e X s0 P,Wf (cf c sc e X s0 P)→Ci prog w hT (cf c sc e X s0 P) ifs mi)
  (hA : ∀ e X s0 P,Wf (cf c sc e X s0 P)→Ac prog w hT (cf c sc e X s0 P) (act { e with scope:=relabel sc c.env }) ma)
  (hs : ∀ x,foldedSetIterable iter c.env x = pure x:=by intro _; rfl) :
  Rf prog w hT c (.ListComp elt (⟨target,iter,ifs,0⟩::rest) sc pos) (compV mit src mt mi ma):=fun own σ s cv x e=>by
 refine bc fun hG=>?_
 revert e
 refine oR fun v e1 e=>?_
 revert e
 refine oR fun xs e2 e=>?_
 replace e:=oM e
 obtain ⟨⟨σf,ysf⟩,e3,e⟩:=e
 refine hG ?_
 clear hG
 subst e
 refine bc fun hG=>?_
 obtain ⟨cl,hc1,hc2⟩:=closure_ok x S
 refine hG ?_
 clear hG
 rw [eval_ListComp]
 refine wpAny_comprehension_free (use:=none) rfl hs hc1 S.kind S.names (wp_w (hi own σ s v x e1) fun va s₁ h₁=>?_)
 have x₁:=x.ex h₁.1
 refine comp_core W S heq hT' hCi hA x₁ (Src.er x₁ h₁.2 e2) hc2 e3 (fun acc C=>compPost (model prog w) c.A noE none _ acc C) fun D C s' F=>?_
 refine bc fun hG=>?_
 obtain ⟨m,hm⟩:=F.ns
 refine hG ?_
 clear hG
 refine ⟨m,hm,fun h' hsb=>?_⟩
 have neC : ∀ {b : Addr} {o'},s₁.heap.get? b = some o'→b ≠ C:=fun e q=>by rw [q,F.fc] at e; cases e
 have kp : ∀ b o,b ≠ C→s'.heap.get? b = some o→h'.get? b = some o:=fun b o hb e=>hsb.extBut b o hb e
 refine bc fun hG=>?_
 obtain ⟨items,n,hl,hz,hv⟩:=F.l
 refine hG ?_
 clear hG
 refine ⟨h₁.1.trans ⟨⟨fun b o ht e=>kp b o (neC e) (F.ex.kp.keep b o ht e),fun ps t=>?_⟩,F.ex.os,⟨F.ex.gens.b,F.ex.gens.k⟩⟩,VR.list (x₁.fnew F.fd) (kp D _ F.ne hl) hz (hv.move fun b o hf e=>⟨fun q=>hf (.inl q),kp b o (fun q=>hf (.inr q)) e⟩)⟩
 obtain ⟨mo,t1⟩:=F.ex.kp.tab ps t
 have nd : codA ≠ C:=by obtain ⟨⟨o,vs,q,_⟩,_⟩:=t.t; exact neC q
 have nt : tabA ≠ C:=neC t.t.2
 have nf : NF s'.heap C:=by obtain ⟨o,_,_,q,q2,_⟩:=hm; exact ⟨o,q,.inr fun vs e=>by rw [q2] at e; cases e⟩
 exact ⟨mo,t1.c.sameBut hsb nd nt,t1.t.sameBut hsb nd nt,t1.l.but nf kp⟩
theorem Rs.asgC (W : Wf c) {y : Str} {py spos : Pos} {k : Nat} {elt target iter : PySem.Expr} {ifs : List PySem.Expr} {rest : List Comprehension} {sc : Scope} {pos p : Pos} {act : Env→Addr→Sem PUnit} {src : List (Option Nat)} {mit : List CV→Option CV} {mt : CV→List CV→Option (List CV)} {mi : List CV→Option Bool} {ma : AM} (S : SrcOk c.names sc src)
  (hy : c.names[k]? = some (y,.local))
  (heq : ∀ it D env,compTurn (.ListComp elt (⟨target,iter,ifs,0⟩::rest) sc pos) 0 it (.ref D) env = compTree (.ListComp elt (⟨target,iter,ifs,0⟩::rest) sc pos) 0 p target ifs it D env (act env))
  (hi : Rf prog w hT c iter mit)
  (hT' : ∀ e X s0 P,Wf (cf c sc e X s0 P)→Ct prog w hT (cf c sc e X s0 P) target mt) (hCi : ∀ e X s0 P,Wf (cf c sc e X s0 P)→Ci prog w hT (cf c sc e X s0 P) ifs mi)
  (hA : ∀ e X s0 P,Wf (cf c sc e X s0 P)→Ac prog w hT (cf c sc e X s0 P) (act { e with scope:=relabel sc c.env }) ma)
  (hsw : swapsWith (.ListComp elt (⟨target,iter,ifs,0⟩::rest) sc pos) (some (.Name y py)) spos.line c.env = pure true)
  (hs : ∀ x,foldedSetIterable iter c.env x = pure x:=by intro _; rfl) :
  Rs prog w hT c (.Assign [.Name y py] (.ListComp elt (⟨target,iter,ifs,0⟩::rest) sc pos) spos) (asgM k (compV mit src mt mi ma)):=fun own σ s f σ' x e=>by
 refine bc fun hG=>?_
 refine oE e fun cv e0 e5=>?_
 revert e5
 refine mR fun σ1 e5 e6=>?_
 refine hG ?_
 clear hG
 cases e6
 refine bc fun hG=>?_
 revert e0
 refine oR fun v e1 e0=>?_
 revert e0
 refine oR fun xs e2 e0=>?_
 replace e0:=oM e0
 obtain ⟨⟨σf,ysf⟩,e3,e0⟩:=e0
 refine hG ?_
 clear hG
 subst e0
 obtain ⟨cl,hc1,hc2⟩:=closure_ok x S
 rw [exec_Assign_Name_used _ _ _ _ hsw]
 refine wpAny_bind (wpAny_standAt (wpAny_bind ?_))
 show wpAny _ c.A (do let _ ← comprehension (.ListComp elt (⟨target,iter,ifs,0⟩::rest) sc pos) sc c.env _ (newList []) false (eval iter c.env) (some (assign (.Name y py) c.env))) _ _ s
 refine wpAny_bind (wpAny_mono (wpAny_comprehension_free (use:=some (assign (.Name y py) c.env)) (Q:=fun J s'=>SOut hT c own σ s .next σ' .next s') rfl hs hc1 S.kind S.names (wp_w (hi own σ s v x e1) fun va s₁ h₁=>?_)) (fun J s' hq=>wpAny_pure (wpAny_pure hq)) fun J J e=>e)
 have x₁:=x.ex h₁.1
 refine comp_core W S heq hT' hCi hA x₁ (Src.er x₁ h₁.2 e2) hc2 e3 (fun acc C=>compPost (model prog w) c.A noE (some (assign (.Name y py) c.env)) _ acc C) fun D C s' F=>?_
 refine bc fun hG=>?_
 obtain ⟨m,hm⟩:=F.ns
 refine hG ?_
 clear hG
 have hAC : NF s'.heap C:=by obtain ⟨o,_,_,q,q2,_⟩:=hm; exact ⟨o,q,.inr fun vs e=>by rw [q2] at e; cases e⟩
 have off:=x₁.offNew F.fc
 have xa : SR hT (c.addI C) own σ s':=x₁.addI F.fc hAC F.ex
 refine bc fun hG=>?_
 obtain ⟨items,n,hl,hz,hv⟩:=F.l
 refine hG ?_
 clear hG
 have hval : VR (FF (c.addI C) own) s'.heap (.list ysf) (.ref D):=by
  refine VR.list (fun q=>?_) hl hz (hv.weak fun a q=>?_)
  ·rcases q with (q | q) | q
   ·exact x₁.fnew F.fd (.inl q)
   ·exact F.ne q
   ·exact x₁.fnew F.fd (.inr q)
  ·rcases q with (q | q) | q
   ·exact .inl (.inl q)
   ·exact .inr q
   ·exact .inl (.inr q)
 show wpAny _ c.A (assign (.Name y py) c.env (.ref D)) _ _ _
 refine wpAny_assign_Name (wp_w (wp_storeF (c:=c.addI C) (W.x _) xa (.inl hy) hval e5) fun J s'' q=>?_)
 refine bc fun hG=>?_
 obtain ⟨x2,k2,l2,p2⟩:=q
 refine hG ?_
 clear hG
 have keepC : ∀ o,s'.heap.get? C = some o→s''.heap.get? C = some o:=fun o e=>k2.keep C o (fun q=>by
  rcases q with q | ⟨j,u,q1,_,q3⟩ | ⟨_,q⟩
  ·exact off.nl q
  ·exact off.nc j u C q1 q3 rfl
  ·cases q) off.nt e
 have hAC2 : NF s''.heap C:=hAC.keeps keepC
 refine ⟨m,hm.at' keepC,fun h' hsb=>?_⟩
 have kp : ∀ b o,b ≠ C→s''.heap.get? b = some o→h'.get? b = some o:=fun b o hb e=>hsb.extBut b o hb e
 have sub : ∀ j a,dropO (c.addI C) own k j = some a→own j = some a:=fun j a q=>by
  unfold dropO at q
  split at q
  ·cases q
  ·exact q
 have hxC : ¬ c.X C:=fun q=>by obtain ⟨o',e',_⟩:=x₁.xa C q off.nt; rw [F.fc] at e'; cases e'
 have hPC : ¬ c.P C:=fun q=>by obtain ⟨o',e'⟩:=(x₁.pa C q).2; rw [F.fc] at e'; cases e'
 have off2 : Off (c.addI C) (dropO (c.addI C) own k) C:=⟨off.nl,off.nc,fun j a e=>off.no j a (sub j a e),off.nt,off.nd,off.n0⟩
 have x3 : SR hT c (dropO (c.addI C) own k) σ' { s'' with heap:=h',toks:=s''.toks }:=x2.atI (X:=c.X) (tk:=s''.toks) (.inr rfl) off2 (fun J q=>.inl q) x₁.xt kp fun q=>(q.elim hxC hPC).elim
 have K : Ss c own s₁ s'':=(Ss.of_ex F.ex).trans (.refl _) (show Ss c own s' s'' from k2.of_no.x)
 exact SOut.trans x₁ (.of_ex h₁.1) (.refl _) .refl ⟨_,x3,K.thenI F.fc off.nt off.nd hAC2 kp,fun j a q=>.inl ⟨j,sub j a q⟩,p2,trivial⟩
end
section
variable {prog : Program} {w : World} {hT : Heap} {c : FC} {own own' own'' : Nat→Option Addr} {σ σ' : List CV} {s s' s'' : Shared} {mg mb : Str→Option Value}
theorem freshAt (s : Shared) : s.heap.get? s.heap.objs.size = none:=by
 cases e : s.heap.get? s.heap.objs.size with
 | none=>rfl
 | some o=>exact absurd (Heap.lt_size e) (Nat.lt_irrefl _)
theorem Ex.freshBack (e : Ex s s') {a : Addr} (ht : a ≠ tabA) (h : s'.heap.get? a = none) : s.heap.get? a = none:=by
 cases q : s.heap.get? a with
 | none=>rfl
 | some o=>rw [e.kp.keep a o ht q] at h; cases h
theorem mkFr (x : SR hT c own σ s) (e : Ex s s') {l : Addr} {items : Array Value} {n : Nat} {vs : List CV} (hf : s.heap.get? l = none) (hl : IsL s'.heap l items n) (hz : items.size≤4096) (hv : VRs (FF c own) s.heap vs items.toList) :
  Ex s s'∧isM (.mlist vs) = true∧∃ l' items' n',s.heap.get? l' = none∧IsL s'.heap l' items' n'∧OV (fun b=>FF c own b∨b = l') (fun J=>some l') s'.heap 0 (.mlist vs) (.ref l)∧OC (fun b=>FF c own b∨b = l') s'.heap l' (.mlist vs):=by
 refine ⟨e,rfl,l,items,n,hf,hl,⟨l,rfl,rfl⟩,n,items,hl,hz,hv.move fun b o hb q=>⟨fun f=>?_,e.kp.keep b o (fun q'=>hb (q'▸x.ft)) q⟩⟩
 rcases f with f | f
 ·exact hb f
 ·rw [f,hf] at q; cases q
theorem Rfr.lst {es : List PySem.Expr} {pos : Pos} {ms : List CV→Option (List CV)} (h : Rfs prog w hT c es ms) :
  Rfr prog w hT c (.List es pos) (fun σ=>(ms σ).bind fun vs=>if vs.all noM && decide (vs.length≤4096) then some (.mlist vs) else none):=fun own σ s cv x e=>by
 refine bc fun hG=>?_
 revert e
 refine oR fun vs e1 e=>?_
 refine hG ?_
 clear hG
 replace e:=ite_opt e
 obtain ⟨hc,e⟩:=e
 ·cases e
  obtain ⟨h1,h2⟩:=bA hc
  have h2:=of_decide_eq_true h2
  refine wpAny_List (wp_w (h pos own σ s vs x e1) fun vas s₁ h₁=>?_)
  have x₁:=x.ex h₁.1
  refine ⟨by rw [sizeLine_eq,h₁.2.1]; exact Nat.le_trans h2 (by decide),?_⟩
  have ht : s₁.heap.objs.size ≠ tabA:=(x₁.offNew (freshAt s₁)).nt
  refine bc fun hG=>?_
  obtain ⟨_,r2,l,items,n,r3,r4,r5,r6⟩:=mkFr x₁ (show Ex s₁ { s₁ with heap:=s₁.heap.push { cls:=.type "list",data:=.seq vas.toArray } } from .push _) (freshAt s₁) (IsL.new _ _) (by simpa [h₁.2.1] using h2) (vs:=vs) (by simpa using all_noM h1 h₁.2.1 h₁.2.2)
  refine hG ?_
  clear hG
  have hlt : l ≠ tabA:=(x₁.offNew r3).nt
  exact ⟨h₁.1.trans (.push _),r2,l,items,n,h₁.1.freshBack hlt r3,r4,r5,r6⟩
noncomputable def cpyS (σ : List CV) (cv : CV) : Option CV:=match cv with
 | .rng a b c=>(srcV (.rng a b c)).bind fun vs=>if vs.length≤4096 then some (.mlist vs) else none
 | cv=>(lst σ cv).map .mlist
theorem Rfr.cpy {y : Str} {py pos : Pos} {e : PySem.Expr} {m : List CV→Option CV} (W : Wf c) (hf : Rf prog w hT c (.Name y py) (fun J=>some (.ty "list"))) (h : Rf prog w hT c e m)
  (he : ∀ env,starEach [e] env = [(false,eval e env)]:=by intro _; rfl) :
  Rfr prog w hT c (.Call (.Name y py) [e] [] pos) (fun σ=>(m σ).bind (cpyS σ)):=fun own σ s cv x e'=>by
 refine bc fun hG=>?_
 refine oE e' fun a e1 e2=>?_
 refine hG ?_
 clear hG
 refine wpAny_Call_Name_kw (wp_w (hf own σ s _ x rfl) fun fv s₁ h₁=>?_)
 obtain rfl:=VR.ty_inv h₁.2
 have x₁:=x.ex h₁.1
 refine Pv.callWith_type1 (wpAny_items_cons (wp_w (h own σ s₁ a x₁ e1) fun va s₂ h₂=>wpAny_items_nil ?_) (he _)) (he _) rfl
 have x₂:=x₁.ex h₂.1
 have fin : ∀ {v : Value} {s₃ : Shared},(Ex s₂ s₃∧isM cv = true∧∃ l' items' n',s₂.heap.get? l' = none∧IsL s₃.heap l' items' n'∧OV (fun b=>FF c own b∨b = l') (fun J=>some l') s₃.heap 0 cv v∧OC (fun b=>FF c own b∨b = l') s₃.heap l' cv) →
   Ex s s₃∧isM cv = true∧∃ l items n,s.heap.get? l = none∧IsL s₃.heap l items n∧OV (fun b=>FF c own b∨b = l) (fun J=>some l) s₃.heap 0 cv v∧OC (fun b=>FF c own b∨b = l) s₃.heap l cv:=by
  rintro v s₃ qq2
  refine bc fun hG=>?_
  obtain ⟨r1,r2,l,items,n,r3,r4,r5,r6⟩:=qq2
  refine hG ?_
  clear hG
  have hlt : l ≠ tabA:=(x₂.offNew r3).nt
  exact ⟨h₁.1.trans (h₂.1.trans r1),r2,l,items,n,h₁.1.freshBack hlt (h₂.1.freshBack hlt r3),r4,r5,r6⟩
 by_cases hr : ∃ p q r,a = .rng p q r
 ·refine bc fun hG=>?_
  obtain ⟨p,q,r,rfl⟩:=hr
  refine oE e2 fun vs e3 e4=>?_
  refine hG ?_
  clear hG
  replace e4:=ite_opt e4
  obtain ⟨hz,e4⟩:=e4
  ·cases e4
   refine bc fun hG=>?_
   obtain ⟨_,_,_,_,rfl,hf',hr'⟩:=VR.rng_inv h₂.2
   refine hG ?_
   clear hG
   simp only [srcV] at e3
   replace e3:=ite_opt e3
   obtain ⟨hc,e3⟩:=e3
   ·cases e3
    refine bc fun hG=>?_
    obtain ⟨hz',hx,hy⟩:=hc
    obtain ⟨hsz0,hsz⟩:=rng_sz hz' hx hy
    refine hG ?_
    clear hG
    refine call_list_range (n:=(Builtin.Range.rangeSize p q r).toNat) W.aok.hd hr' ?_ (by exact rangeSize_toNat p q r) (by lia) fun h' tk acc' c' hk hS hacc=>fin (mkFr x₂ (.all hk) (freshAt s₂) hS ?_ ?_)
    ·unfold Builtin.Range.small Builtin.Range.rangeFitsLong
     rcases hz' with rfl | rfl <;> simp <;> lia
    ·rw [hacc.1]; simpa using hz
    ·refine .of_get (by simp [hacc.1]) fun i cv v h1 h2=>?_
     obtain ⟨tk',rfl⟩:=hacc.2 i v (by simpa using h2)
     rw [List.getElem?_map] at h1
     refine mE h1 fun j hj1 hj2=>?_
     rw [List.getElem?_range] at hj1
     ·cases hj1; subst hj2; exact .int _ _
     ·have:=(Array.getElem?_eq_some_iff.mp (show acc'[i]? = some _ by simpa using h2)).1
      rw [hacc.1] at this; exact this
 ·have e2' : (Mine.lst σ a).map .mlist = some cv:=by
   cases a <;> first | exact e2 | exact absurd ⟨_,_,_,rfl⟩ hr
  refine bc fun hG=>?_
  refine mE e2' fun vs e3 e4=>?_
  subst e4
  obtain ⟨l,n,items,rfl,hl,hz,hv,_⟩:=h₂.2.lst x₂ e3
  refine hG ?_
  clear hG
  exact call_list_seq l (T:="list") (.inl rfl) hl rfl rfl (fun h' c' hk hS=>fin (mkFr x₂ (show Ex s₂ { s₂ with heap:=h' } from .all hk) (freshAt s₂) hS hz hv)) (by rw [sizeLine_eq]; exact Nat.le_trans hz (by decide))
end
noncomputable def forTM (mt : CV→List CV→Option (List CV)) (mb : CM) : List CV→CM
 | [],σ=>some (.next,σ)
 | x::xs,σ=>(mt x σ).bind (loopM mb (forTM mt mb xs))
noncomputable def forTS (mt : CV→List CV→Option (List CV)) (mi : List CV→Option CV) (mb : CM) : CM:=fun σ=>(mi σ).bind fun v=>(srcV v).bind fun xs=>forTM mt mb xs σ
section
variable {prog : Program} {w : World} {hT : Heap} {c : FC} {own own' own'' : Nat→Option Addr} {σ σ' : List CV} {s s' s'' : Shared} {mg mb : Str→Option Value}
theorem Rs.forT {t : PySem.Expr} {pos : Pos} {iter : PySem.Expr} {body : List Stmt} {mt : CV→List CV→Option (List CV)} {mi : List CV→Option CV} {mb : CM} (W : Wf c) (hn : ∀ X,Tg prog w hT (c.x X) t mt) (hi : Rf prog w hT c iter mi)
  (hpx : ∀ a,c.P a→¬ c.X a) (hb : ∀ X,(∀ a,c.P a→¬ X a)→Rss prog w hT (c.x X) body mb) (hs : ∀ x,foldedSetIterable iter c.env x = pure x:=by intro _; rfl) :
  Rs prog w hT c (.For t iter body [] pos) (forTS mt mi mb):=fun own σ s f σ' x e'=>by
 refine bc fun hG=>?_
 revert e'
 refine oR fun cv e1 e'=>?_
 revert e'
 refine oR fun xs e2 e'=>?_
 refine hG ?_
 clear hG
 refine wpAny_For (wp_w (hi own σ s cv x e1) fun v s₁ h₁=>?_) hs
 have x₁:=x.ex h₁.1
 have hnm:=srcV_noM e2
 refine Src.of x₁.ft (h₁.2.vr' hnm) e2 _ _ _ W.aok.hd fun o fp P St hW h0 hfr hal hfp hP=>?_
 have hI : s₁.heap.get? s₁.heap.objs.size = none:=by
  cases e : s₁.heap.get? s₁.heap.objs.size with
  | none=>rfl
  | some o=>exact absurd (Heap.lt_size e) (Nat.lt_irrefl _)
 generalize hIe : s₁.heap.objs.size = I at *
 have off:=x₁.offNew hI
 have xp : SR hT (c.addI I) own σ { s₁ with heap:=s₁.heap.push o }:=x₁.addI hI (hal 0 _ h0).nf (.push o)
 refine codeAny_forLoop_any (fun n s'=>∃ own1 σ1 k,SR hT (c.addI I) own1 σ1 s'∧Ss c own s₁ s'∧OwnLe own own1 s₁.heap∧OwnKp own own1 σ σ1∧St k s'.heap∧forTM mt mb (xs.drop k) σ1 = some (f,σ')∧k≤xs.length∧n = xs.length - k) ?_ (xs.length - 0)
  ⟨own,σ,0,xp,⟨rfl,.same rfl,fun b ob J J e=>Heap.get?_push_of_some o e,fun ps t=>⟨#[],by rw [Array.append_empty]; exact ⟨t.c.push _,t.t.push _,t.l.push _⟩⟩,fun b _ ⟨ob,e⟩=>⟨ob,Heap.get?_push_of_some o e⟩⟩,.refl _,.refl,h0,e',Nat.zero_le _,rfl⟩
 rintro n s2 qq2
 refine bc fun hG=>?_
 obtain ⟨own1,σ1,k,x2,k2,l2,p2,st2,e3,hk,rfl⟩:=qq2
 refine hG ?_
 clear hG
 have nxo : ∀ j b,own1 j = some b→b ≠ I:=fun j b e q=>by
  rcases x2.ofr j b e with r | r
  ·exact r.2 (.inr q)
  ·obtain ⟨ob,hob⟩:=(x₁.pa b r).2
   rw [q,hI] at hob; cases hob
 have off2 : Off (c.addI I) own1 I:=⟨off.nl,off.nc,nxo,off.nt,off.nd,off.n0⟩
 have hxI : ¬ c.X I:=fun q=>by obtain ⟨o',e,_⟩:=x₁.xa I q off.nt; rw [hI] at e; cases e
 have hpI : ¬ c.P I:=fun q=>by obtain ⟨o',e⟩:=(x₁.pa I q).2; rw [hI] at e; cases e
 have wk : ∀ {h' : Heap},(∀ b o,b ∉ [I]→s2.heap.get? b = some o→h'.get? b = some o)→∀ b o,b ≠ I→s2.heap.get? b = some o→h'.get? b = some o:=fun h b o hb e=>h b o (by exact notIn_one hb) e
 have hW':=hW c.A W.aok.hd
 rcases Nat.lt_or_ge k xs.length with hlt | hge
 ·refine hW'.item k s2 _ _ hlt st2 fun v2 h3 tk3 hp3 st3 hk3=>?_
  refine bc fun hG=>?_
  obtain ⟨xv,ex,rv⟩:=hP k v2 hlt hp3
  have x3:=x2.atI (X:=(c.addI I).X) (tk:=tk3) (.inr rfl) off2 (fun J q=>q) (.inl x₁.xt) (wk hk3) fun J=>(hal _ _ st3).nf
  have k3:=k2.thenI hI off.nt off.nd (x2.xa I (.inr rfl) off.nt) (tk:=tk3) (wk hk3)
  refine hG ?_
  clear hG
  have hd : xs.drop k = xv::xs.drop (k + 1):=by
   obtain ⟨h1,h2⟩:=List.getElem?_eq_some_iff.mp ex
   rw [List.drop_eq_getElem_cons h1,h2]
  rw [hd] at e3
  refine bc fun hG=>?_
  revert e3
  refine oR fun σ3 e4 e3=>?_
  obtain ⟨⟨f5,σ5⟩,e5,e3⟩:=oB e3
  refine hG ?_
  clear hG
  have rv3 : VR (FF (c.addI I) own1) h3 xv v2:=alongV (s':={ s2 with heap:=h3,toks:=tk3 }) x₁ hI k3 l2 rv
  refine letGo_ (s:={ s2 with heap:=h3,toks:=tk3 }) rfl (hal _ _ st3) (wp_f (hn (c.addI I).X own1 σ1 _ xv v2 σ3 x3 rv3 e4) fun J s4 h4=>?_)
  refine bc fun hG=>?_
  obtain ⟨own4,x4,k4,l4',p4⟩:=h4
  refine hG ?_
  clear hG
  have l4 : OwnLe own1 own4 h3:=fun j a q=>.inl (l4' j a q)
  refine wp_f (hb (c.addI I).X (fun a ha q=>q.elim (hpx a ha) (fun q=>hpI (q▸ha))) _ σ3 s4 f5 σ5 x4 e5) fun fl s5 y=>?_
  obtain ⟨own5,x5,k5,l5,p5,r5⟩:=y
  have k45 : Ss c own1 { s2 with heap:=h3,toks:=tk3 } s5:=(k4.x.trans (own':=own4) l4 k5.x)
  have l45 : OwnLe own1 own5 h3:=l4.trans (s:={ s2 with heap:=h3,toks:=tk3 }) x4 k4 l5
  have K : Ss c own s₁ s5:=k3.trans l2 k45
  have L : OwnLe own own5 s₁.heap:=l2.trans (s':={ s2 with heap:=h3,toks:=tk3 }) x3 k3.toX l45
  have Pp:=p2.trans (p4.trans p5)
  refine SOut.turn (X:=(c.addI I).X) (fun J q=>.inl q) x₁.xt x5 ((Ss.of_ex h₁.1).trans (.refl _) K) ((OwnLe.refl _).trans x₁ (.of_ex h₁.1) L) Pp r5 e3 fun e3=>⟨xs.length - (k + 1),Nat.sub_succ_lt_self xs.length k hlt,own5,σ5,k + 1,x5,K,L,Pp,?_,e3,hlt,rfl⟩
  refine (hW'.frame (k + 1) h3 s5.heap st3 fun b hb ob e=>?_)
  by_cases hbI : b = I
  ·refine k45.keep b ob ?_ (by rw [hbI]; exact off.nt) e
   rw [hbI]
   rintro (q | ⟨j,u,q1,_,q3⟩ | ⟨j,q⟩)
   ·exact off.nl q
   ·exact off.nc j u I q1 q3 rfl
   ·exact nxo j I q rfl
  ·obtain ⟨⟨o1,ho1⟩,hbt,hbf⟩:=hfp b hb hbI
   have hbf:=hbf rfl
   refine k45.keep b ob ?_ hbt e
   rintro (q | q | ⟨j,q⟩)
   ·exact hbf (.inr (.inl q))
   ·exact hbf (.inr (.inr (.inl q)))
   ·rcases l2 j b q with ⟨j',r⟩ | r
    ·exact hbf (.inr (.inr (.inr ⟨j',r⟩)))
    ·rw [ho1] at r; cases r
 ·have hke : k = xs.length:=Nat.le_antisymm hk hge
  subst hke
  rw [List.drop_length] at e3
  refine hW'.done s2 _ _ st2 fun h3 tk3 hk3=>wpAny_execs_nil (SOut.trans x₁ (.of_ex h₁.1) (.refl _) .refl (SOut.done (X:=c.X) (fun J q=>q) x₁.xt ?_ (k2.thenI hI off.nt off.nd (x2.xa I (.inr rfl) off.nt) (wk hk3)) l2 p2 e3))
  exact x2.atI (X:=c.X) (.inr rfl) off2 (fun J q=>.inl q) x₁.xt (wk hk3) fun q=>(q.elim hxI hpI).elim
theorem forTM_nm (i : Nat) (mb : CM) : ∀ xs σ,forTM (stF i) mb xs σ = forM i mb xs σ
 | [],_=>rfl
 | x::xs,σ=>by
  have e : forTM (stF i) mb xs = forM i mb xs:=funext (forTM_nm i mb xs)
  show (stF i x σ).bind (loopM mb (forTM (stF i) mb xs)) = _
  rw [e]; rfl
theorem Rs.for_ {y : Str} {px pos : Pos} {iter : PySem.Expr} {body : List Stmt} {i : Nat} {mi : List CV→Option CV} {mb : CM} (W : Wf c) (hn : AtSlot c i y) (hi : Rf prog w hT c iter mi)
  (hpx : ∀ a,c.P a→¬ c.X a) (hb : ∀ X,(∀ a,c.P a→¬ X a)→Rss prog w hT (c.x X) body mb) (hs : ∀ x,foldedSetIterable iter c.env x = pure x:=by intro _; rfl) :
  Rs prog w hT c (.For (.Name y px) iter body [] pos) (forS i mi mb):=fun own σ s f σ' x e =>
 Rs.forT (mt:=stF i) W (fun X=>Tg.nm (W.x X) hn) hi hpx hb hs own σ s f σ' x (by
  show (mi σ).bind (fun v=>(srcV v).bind fun xs=>forTM (stF i) mb xs σ) = _
  simp only [forTM_nm]
  exact e)
end
structure Dfl (h : Heap) (d k : Value) : Prop where
 d : ∃ a o n tk,d = .ref a∧a ≠ tabA∧h.get? a = some o∧o.data = .seq #[.int 0 tk,.none] n
structure Tops (prog : Program) (hT : Heap) (mg mb : Str→Option Value) : Prop where
 tf : TF prog hT mg mb
 r47 : ∃ d k,FnRec hT 47 (topStmt 3) d k∧Dfl hT d k
 g47 : mg "insort_right" = some (.ref 47)
 r56 : ∃ d k,FnRec hT 56 (topStmt 4) d k∧Dfl hT d k
 g56 : mg "bisect_right" = some (.ref 56)
 r65 : ∃ d k,FnRec hT 65 (topStmt 5) d k∧Dfl hT d k
 g65 : mg "insort_left" = some (.ref 65)
 r74 : ∃ d k,FnRec hT 74 (topStmt 6) d k∧Dfl hT d k
 g74 : mg "bisect_left" = some (.ref 74)
 r81 : FnRec hT 81 (topStmt 8) .none .none
 g81 : mg "_strcoll" = some (.ref 81)
 r88 : FnRec hT 88 (topStmt 9) .none .none
 g88 : mg "_strxfrm" = some (.ref 88)
 r95 : FnRec hT 95 (topStmt 11) .none .none
 g95 : mg "_grouping_intervals" = some (.ref 95)
 r252 : FnRec hT 252 (topStmt 19) .none .none
 g252 : mg "_law_cells" = some (.ref 252)
 r259 : FnRec hT 259 (topStmt 20) .none .none
 g259 : mg "_law_words" = some (.ref 259)
 r266 : FnRec hT 266 (topStmt 21) .none .none
 g266 : mg "_law_place" = some (.ref 266)
 r273 : FnRec hT 273 (topStmt 22) .none .none
 g273 : mg "_law_store" = some (.ref 273)
 r280 : FnRec hT 280 (topStmt 23) .none .none
 g280 : mg "_law_order" = some (.ref 280)
 r285 : FnRec hT 285 (topStmt 24) .none .none
 g285 : mg "_law_lowered" = some (.ref 285)
 r290 : FnRec hT 290 (topStmt 25) .none .none
 g290 : mg "_law_final" = some (.ref 290)
 r295 : FnRec hT 295 (topStmt 26) .none .none
 g295 : mg "_law_plan" = some (.ref 295)
 r302 : FnRec hT 302 (topStmt 27) .none .none
 g302 : mg "_law_moved" = some (.ref 302)
 r307 : FnRec hT 307 (topStmt 28) .none .none
 g307 : mg "_law_due" = some (.ref 307)
 r314 : FnRec hT 314 (topStmt 29) .none .none
 g314 : mg "_law_runs" = some (.ref 314)
 r321 : FnRec hT 321 (topStmt 30) .none .none
 g321 : mg "_law_ruler" = some (.ref 321)
 r328 : FnRec hT 328 (topStmt 31) .none .none
 g328 : mg "_law_marks" = some (.ref 328)
 r333 : FnRec hT 333 (topStmt 32) .none .none
 g333 : mg "_law_sums" = some (.ref 333)
 r338 : FnRec hT 338 (topStmt 33) .none .none
 g338 : mg "_law_fronts" = some (.ref 338)
 r343 : FnRec hT 343 (topStmt 34) .none .none
 g343 : mg "_law_all_fronts" = some (.ref 343)
 r348 : FnRec hT 348 (topStmt 35) .none .none
 g348 : mg "law" = some (.ref 348)
 gH : mg "Headers" = some (.ref hdrC)
 gC : ∃ t,mg "CHAR_MAX" = some (.int 127 t)
 bat : hT.BuiltinsAt mg tabA
 fronts : ∀ o fd,hT.get? 338 = some o→o.data = .func fd→fd.code = .ref codA∧fd.qualname = "_law_fronts"
 n_range : mg "range" = none
 n_len : mg "len" = none
 n_list : mg "list" = none
 n_sorted : mg "sorted" = none
 n_sum : mg "sum" = none
 n_type : mg "type" = none
 n_int : mg "int" = none
 n_ValueError : mg "ValueError" = none
 n_str : mg "str" = none
section
variable {prog : Program} {w : World} {hT : Heap} {c : FC} {mg mb : Str→Option Value}
theorem bt_range : bootBuiltins "range" = some (.type "range"):=by decide +kernel
theorem bt_len : bootBuiltins "len" = some (.builtin "len"):=by decide +kernel
theorem bt_list : bootBuiltins "list" = some (.type "list"):=by decide +kernel
theorem bt_sorted : bootBuiltins "sorted" = some (.builtin "sorted"):=by decide +kernel
theorem bt_sum : bootBuiltins "sum" = some (.builtin "sum"):=by decide +kernel
theorem bt_type : bootBuiltins "type" = some (.type "type"):=by decide +kernel
theorem bt_int : bootBuiltins "int" = some (.type "int"):=by decide +kernel
theorem bt_str : bootBuiltins "str" = some (.type "str"):=by decide +kernel
theorem Tops.range_ (T : Tops prog hT mg mb) (W : Wf c) {i : Nat} {pos : Pos} (hn : c.names[i]? = some (("range" : Str),NameKind.globalImplicit)) : Rf prog w hT c (.Name "range" pos) (fun J=>some (.ty "range")):=Rf.bui T.tf W hn T.n_range bt_range rfl
theorem Tops.list_ (T : Tops prog hT mg mb) (W : Wf c) {i : Nat} {pos : Pos} (hn : c.names[i]? = some (("list" : Str),NameKind.globalImplicit)) : Rf prog w hT c (.Name "list" pos) (fun J=>some (.ty "list")):=Rf.bui T.tf W hn T.n_list bt_list rfl
theorem Tops.type_ (T : Tops prog hT mg mb) (W : Wf c) {i : Nat} {pos : Pos} (hn : c.names[i]? = some (("type" : Str),NameKind.globalImplicit)) : Rf prog w hT c (.Name "type" pos) (fun J=>some (.ty "type")):=Rf.bui T.tf W hn T.n_type bt_type rfl
theorem Tops.int_ (T : Tops prog hT mg mb) (W : Wf c) {i : Nat} {pos : Pos} (hn : c.names[i]? = some (("int" : Str),NameKind.globalImplicit)) : Rf prog w hT c (.Name "int" pos) (fun J=>some (.ty "int")):=Rf.bui T.tf W hn T.n_int bt_int rfl
theorem Tops.str_ (T : Tops prog hT mg mb) (W : Wf c) {i : Nat} {pos : Pos} (hn : c.names[i]? = some (("str" : Str),NameKind.globalImplicit)) : Rf prog w hT c (.Name "str" pos) (fun J=>some (.ty "str")):=Rf.bui T.tf W hn T.n_str bt_str rfl
theorem Tops.len_ (T : Tops prog hT mg mb) (W : Wf c) {i : Nat} {pos : Pos} (hn : c.names[i]? = some (("len" : Str),NameKind.globalImplicit)) : Rf prog w hT c (.Name "len" pos) (fun J=>some (.bi "len")):=Rf.bui T.tf W hn T.n_len bt_len rfl
theorem Tops.sorted_ (T : Tops prog hT mg mb) (W : Wf c) {i : Nat} {pos : Pos} (hn : c.names[i]? = some (("sorted" : Str),NameKind.globalImplicit)) : Rf prog w hT c (.Name "sorted" pos) (fun J=>some (.bi "sorted")):=Rf.bui T.tf W hn T.n_sorted bt_sorted rfl
theorem Tops.sum_ (T : Tops prog hT mg mb) (W : Wf c) {i : Nat} {pos : Pos} (hn : c.names[i]? = some (("sum" : Str),NameKind.globalImplicit)) : Rf prog w hT c (.Name "sum" pos) (fun J=>some (.bi "sum")):=Rf.bui T.tf W hn T.n_sum bt_sum rfl
end
section
variable {prog : Program} {w : World} {hT : Heap} {c : FC} {own own' own'' : Nat→Option Addr} {σ σ' : List CV} {s s' s'' : Shared} {mg mb : Str→Option Value}
theorem at2 {i j : Nat} {y z : Str} (h1 : AtSlot c i y) (h2 : AtSlot c j z) : ∀ (k : Nat) i' y',([i,j] : List Nat)[k]? = some i'→([y,z] : List Str)[k]? = some y'→AtSlot c i' y'
 | 0,_,_,a,b=>by cases a; cases b; exact h1
 | 1,_,_,a,b=>by cases a; cases b; exact h2
 | n + 2,_,_,a,b=>by simp at a
theorem at3 {i j l : Nat} {y z u : Str} (h1 : AtSlot c i y) (h2 : AtSlot c j z) (h3 : AtSlot c l u) : ∀ (k : Nat) i' y',([i,j,l] : List Nat)[k]? = some i'→([y,z,u] : List Str)[k]? = some y'→AtSlot c i' y'
 | 0,_,_,a,b=>by cases a; cases b; exact h1
 | 1,_,_,a,b=>by cases a; cases b; exact h2
 | 2,_,_,a,b=>by cases a; cases b; exact h3
 | n + 3,_,_,a,b=>by simp at a
theorem Rf.frz {e : PySem.Expr} {m : List CV→Option CV} (h : Rfr prog w hT c e m) : Rf prog w hT c e (fun σ=>(m σ).bind ownRd):=fun own σ s cv x e'=>by
 obtain ⟨a,e1,e2⟩:=oB e'
 refine wp_w (h own σ s a x e1) fun v s₁ q=>?_
 obtain ⟨q1,q2,l,items,n,q3,q4,q5,q6⟩:=q
 refine ⟨q1,?_⟩
 have hl : ¬ FF c own l:=x.fnew q3
 cases a <;> first | (cases e2; done) | skip
 ·cases e2
  obtain ⟨b,rfl,hb⟩:=q5
  cases hb
  obtain ⟨k,its,h1,h2,h3⟩:=q6
  exact VR.list hl h1 h2 (h3.weak fun J q=>.inl q)
 ·cases e2
  obtain ⟨b,d,l',hs,t,n',rfl,hb,n1,n2,h8,h9⟩:=q5
  cases hb
  obtain ⟨k,its,h1,h2,h3⟩:=q6
  exact VR.hdr (fun q=>n1 (.inl q)) (fun q=>n2 (.inl q)) hl h8 h9 h1 h2 (h3.weak fun J q=>.inl q)
theorem bind1 {fd : FuncData} {vals : List Value} {x : Str} (hl : vals.length = 1) (h : ∀ a,bindArgs fd ⟨[a],[]⟩ = pure [(x,a)]) : bindArgs fd ⟨vals,[]⟩ = pure ([x].zip vals):=by
 obtain ⟨a,rfl⟩:=len1 hl
 exact h a
theorem bind2 {fd : FuncData} {vals : List Value} {x y : Str} (hl : vals.length = 2) (h : ∀ a b,bindArgs fd ⟨[a,b],[]⟩ = pure [(x,a),(y,b)]) : bindArgs fd ⟨vals,[]⟩ = pure ([x,y].zip vals):=by
 obtain ⟨a,b,rfl⟩:=len2 hl
 exact h a b
theorem bind3 {fd : FuncData} {vals : List Value} {x y z : Str} (hl : vals.length = 3) (h : ∀ a b d,bindArgs fd ⟨[a,b,d],[]⟩ = pure [(x,a),(y,b),(z,d)]) : bindArgs fd ⟨vals,[]⟩ = pure ([x,y,z].zip vals):=by
 obtain ⟨a,b,d,rfl⟩:=len3 hl
 exact h a b d
end
theorem forM_rel {α : Type} (R : α→List CV→Prop) (step : α→CV→α) {i : Nat} {mb : CM} : ∀ (xs : List CV) (a : α) (σ : List CV),
  (∀ a σ x,x∈xs→R a σ→∃ σ1 σ2,stF i x σ = some σ1∧mb σ1 = some (.next,σ2)∧R (step a x) σ2)→R a σ→∃ σ',forM i mb xs σ = some (.next,σ')∧R (xs.foldl step a) σ':=by
 intro xs
 induction xs with
 | nil =>
  intro a σ _ h
  exact ⟨σ,rfl,h⟩
 | cons x xs forM_rel =>
  intro a σ hs h
  refine bc fun hG=>?_
  obtain ⟨σ1,σ2,h1,h2,h3⟩:=hs a σ x List.mem_cons_self h
  obtain ⟨σ',h4,h5⟩:=forM_rel (step a x) σ2 (fun a σ y hy=>hs a σ y (List.mem_cons_of_mem _ hy)) h3
  refine hG ?_
  clear hG
  refine ⟨σ',?_,h5⟩
  show (stF i x σ).bind (loopM mb (forM i mb xs)) = _
  rw [h1]
  show (mb σ1).bind _ = _
  rw [h2]
  exact h4
theorem forM_inv (R : Nat→List CV→Prop) {i : Nat} {mb : CM} (xs : List CV) (hs : ∀ k x σ,xs[k]? = some x→R k σ→∃ σ1 σ2,stF i x σ = some σ1∧mb σ1 = some (.next,σ2)∧R (k + 1) σ2) : ∀ (n : Nat) (k : Nat) (σ : List CV),xs.length = k + n→R k σ→∃ σ',forM i mb (xs.drop k) σ = some (.next,σ')∧R xs.length σ':=by
 intro n
 induction n with
 | zero =>
  intro k σ hk h
  exact ⟨σ,by rw [List.drop_eq_nil_of_le (by exact Nat.le_of_eq hk)]; rfl,by rw [hk]; exact h⟩
 | succ n forM_inv =>
  intro k σ hk h
  have hlt : k < xs.length:=by lia
  refine bc fun hG=>?_
  obtain ⟨σ1,σ2,h1,h2,h3⟩:=hs k xs[k] σ (List.getElem?_eq_getElem hlt) h
  obtain ⟨σ',h4,h5⟩:=forM_inv (k + 1) σ2 (by lia) h3
  refine hG ?_
  clear hG
  refine ⟨σ',?_,h5⟩
  rw [List.drop_eq_getElem_cons hlt]
  show (stF i _ σ).bind (loopM mb (forM i mb (xs.drop (k + 1)))) = _
  rw [h1]
  show (mb σ1).bind _ = _
  rw [h2]
  exact h4
theorem compM_rel (R : List CV→Prop) {mt : CV→List CV→Option (List CV)} {mi : List CV→Option Bool} {me : List CV→Option CV} (p : CV→Bool) (g : CV→CV) : ∀ (xs : List CV) (σ ys : List CV),
  (∀ σ x,x∈xs→R σ→∃ σ1,mt x σ = some σ1∧mi σ1 = some (p x)∧R σ1∧(p x = true→me σ1 = some (g x)∧noM (g x) = true))→R σ→ys.length + xs.length≤4096 →
  ∃ σ',compM mt mi (emitM me) xs σ ys = some (σ',ys ++ (xs.filter p).map g)∧R σ':=by
 intro xs
 induction xs with
 | nil =>
  intro σ ys _ h _
  exact ⟨σ,by simp [compM],h⟩
 | cons x xs compM_rel =>
  intro σ ys hs h hl
  refine bc fun hG=>?_
  obtain ⟨σ1,h1,h2,h3,h4⟩:=hs σ x List.mem_cons_self h
  refine hG ?_
  clear hG
  simp only [List.length_cons] at hl
  unfold compM
  rw [h1]
  show ∃ σ',(mi σ1).bind _ = _∧_
  rw [h2]
  cases hp : p x with
  | false =>
   obtain ⟨σ',h5,h6⟩:=compM_rel σ1 ys (fun σ y hy=>hs σ y (List.mem_cons_of_mem _ hy)) h3 (by exact Nat.le_of_succ_le hl)
   refine ⟨σ',?_,h6⟩
   rw [List.filter_cons_of_neg (by exact ne_true_of_eq_false hp)]
   exact h5
  | true =>
   obtain ⟨h7,h8⟩:=h4 hp
   obtain ⟨σ',h5,h6⟩:=compM_rel σ1 (ys ++ [g x]) (fun σ y hy=>hs σ y (List.mem_cons_of_mem _ hy)) h3 (by simp; lia)
   refine ⟨σ',?_,h6⟩
   rw [List.filter_cons_of_pos hp,List.map_cons]
   show ((me σ1).bind _ >>= _) = _
   rw [h7]
   show (if noM (g x) = true∧ys.length < 4096 then _ else _) >>= _ = _
   rw [if_pos ⟨h8,by exact Nat.lt_of_add_right_lt hl⟩]
   show compM _ _ _ xs σ1 (ys ++ [g x]) = _
   rw [h5]
   simp
theorem eqS_int (a b : Int) : eqS (.int a) (.int b) = some (decide (a = b)):=by
 have h : (SeqAt.shaped (.int a) && SeqAt.shaped (.int b)) = true:=rfl
 show (if (SeqAt.shaped (.int a) && SeqAt.shaped (.int b)) = true then some (PyData.eqv (.int a) (.int b)) else none) = _
 rw [if_pos h]
 rfl
theorem cmp_eq_int (σ : List CV) (a b : Int) : cmpS .Eq σ (.int a) (.int b) = some (decide (a = b)):=eqS_int a b
theorem modS_int (a b : Int) (h : b ≠ 0) : modS (.int a) (.int b) = some (.int (a.fmod b)):=if_pos h
theorem fdivS_int (a b : Int) (h : b ≠ 0) : fdivS (.int a) (.int b) = some (.int (a.fdiv b)):=if_pos h
theorem at_nat {α : Type} (xs : List α) (k : Nat) : at? xs (k : Int) = xs[k]?:=by
 unfold at?; rw [if_pos (by exact Int.natCast_nonneg k)]; simp
section
variable {prog : Program} {w : World} {hT : Heap} {mg mb : Str→Option Value}
noncomputable def collS : List CV→List CV→Option CV:=fun l J=>on2 (fun a b=>(ltC b a).bind fun p=>(ltC a b).bind fun q=>some (.int (b2i p - b2i q))) l
theorem coll_fn (T : Tops prog hT mg mb) : Fn prog w hT 0 (.ref 81) [] collS:=by
 refine Fn.plain (n:=2) T.tf T.r81 (by decide) ⟨rfl,by decide,rfl,rfl⟩ (fun A e X s0 P px W hA=>(Rss.cons (Rs.ret (Rf.sub (Rf.com W (Rf.loc W (i:=0) rfl) (Rf.loc W (i:=1) rfl)) (Rf.com W (Rf.loc W (i:=0) rfl) (Rf.loc W (i:=1) rfl))) px) Rss.nil)) ?_ (by decide) (by decide) ?_
 ·intro fd vals h1 h2 h3 hl
  cases fd; simp only at h1 h2 h3; subst h1 h2 h3
  exact bind2 hl fun J J=>rfl
 ·intro cvs kcvs r h
  replace h:=on2_inv h
  obtain ⟨a,b,rfl,h⟩:=h
  refine ⟨rfl,?_⟩
  refine bc fun hG=>?_
  revert h
  refine oR fun p h1 h=>?_
  revert h
  refine oR fun q h2 h=>?_
  refine hG ?_
  clear hG
  cases h
  rcases ltC_inv h1 with ⟨i,j,rfl,rfl,rfl⟩ | ⟨i,j,rfl,rfl,rfl⟩ <;> (cases h2; exact ⟨_,_,rfl,rfl⟩)
noncomputable def xfrmS : List CV→List CV→Option CV:=fun l J=>on1 (fun v0_=>asS (fun a=>some (.str a)) v0_) l
theorem xfrm_fn (T : Tops prog hT mg mb) : Fn prog w hT 0 (.ref 88) [] xfrmS:=by
 refine Fn.plain (n:=1) T.tf T.r88 (by decide) ⟨rfl,by decide,rfl,rfl⟩ (fun A e X s0 P px W hA=>(Rss.cons (Rs.ret (Rf.loc W (i:=0) rfl) px) Rss.nil)) ?_ (by decide) (by decide) ?_
 ·intro fd vals h1 h2 h3 hl
  cases fd; simp only at h1 h2 h3; subst h1 h2 h3
  exact bind1 hl fun J=>rfl
 ·intro cvs kcvs r h
  replace h:=on1_inv h
  obtain ⟨_,rfl,h⟩:=h
  replace h:=asS_inv h
  obtain ⟨a,rfl,h⟩:=h
  cases h
  exact ⟨rfl,_,_,rfl,rfl⟩
noncomputable def W6 : List Str:=["B","Ba","a","ab","b","ba"]
noncomputable def wordsS : List CV→List CV→Option CV:=fun l J=>on0 (some (.list (W6.map .str))) l
theorem words_fn (T : Tops prog hT mg mb) : Fn prog w hT 0 (.ref 259) [] wordsS:=by
 refine Fn.plain (n:=0) T.tf T.r259 (by decide) ⟨rfl,by decide,rfl,rfl⟩ (fun A e X s0 P px W hA=>(Rss.cons (Rs.ret (Rf.lst (Rfs.cons Rf.str (Rfs.cons Rf.str (Rfs.cons Rf.str (Rfs.cons Rf.str (Rfs.cons Rf.str (Rfs.cons Rf.str Rfs.nil))))))) px) Rss.nil)) ?_ (by decide) (by decide) ?_
 ·intro fd vals h1 h2 h3 hl
  cases fd; simp only at h1 h2 h3; subst h1 h2 h3
  obtain rfl:=List.eq_nil_of_length_eq_zero hl
  rfl
 ·intro cvs kcvs r h
  replace h:=on0_inv h
  obtain ⟨rfl,h⟩:=h
  cases h
  exact ⟨rfl,_,_,rfl,rfl⟩
noncomputable def letA (k : Nat) (n : Int) : Str:=⟨#[(if n.fmod 2 = 0 then 97 else 65) + k]⟩
noncomputable def placeS : List CV→List CV→Option CV:=fun l J=>on2 (fun v0_ v1_=>asI (fun k=>asI (fun n=>if 0≤k∧k < 6 then some (.str (letA k.toNat n)) else none) v1_) v0_) l
theorem place_fn (T : Tops prog hT mg mb) : Fn prog w hT 0 (.ref 266) [] placeS:=by
 refine Fn.plain (n:=2) T.tf T.r266 (by decide) ⟨rfl,by decide,rfl,rfl⟩ (fun A e X s0 P px W hA=>(Rss.cons (Rs.ret (Rf.ite (Rt.com W (Rf.mod (Rf.loc W (i:=1) rfl) Rf.int) Rf.int) (Rf.sb Rf.str (Rf.loc W (i:=0) rfl)) (Rf.sb Rf.str (Rf.loc W (i:=0) rfl))) px) Rss.nil)) ?_ (by decide) (by decide) ?_
 ·intro fd vals h1 h2 h3 hl
  cases fd; simp only at h1 h2 h3; subst h1 h2 h3
  exact bind2 hl fun J J=>rfl
 ·intro cvs kcvs r h
  replace h:=on2_inv h
  refine bc fun hG=>?_
  obtain ⟨_,_,rfl,h⟩:=h
  replace h:=asI_inv h
  obtain ⟨k,rfl,h⟩:=h
  replace h:=asI_inv h
  obtain ⟨n,rfl,h⟩:=h
  refine hG ?_
  clear hG
  refine ⟨rfl,?_⟩
  have h : (if 0≤k∧k < 6 then some (CV.str (letA k.toNat n)) else none) = some r:=h
  replace h:=ite_opt h
  obtain ⟨hk,h⟩:=h
  ·cases h
   obtain ⟨j,rfl⟩:=Int.eq_ofNat_of_zero_le hk.1
   have hj : j < 6:=by exact Int.ofNat_lt.mp hk.2
   have h6 : j = 0∨j = 1∨j = 2∨j = 3∨j = 4∨j = 5:=by lia
   refine ⟨.ret (.str (letA j n)),[.int j,.int n],?_,rfl⟩
   show (((modS (.int n) (.int 2)).bind fun a=>cmpS .Eq [.int j,.int n] a (.int 0)).bind _).bind _ >>= _ = _
   rw [modS_int _ _ (by decide)]
   show ((cmpS .Eq [.int j,.int n] (.int (n.fmod 2)) (.int 0)).bind _).bind _ >>= _ = _
   rw [cmp_eq_int]
   by_cases hn : n.fmod 2 = 0
   ·rw [hn]
    rcases h6 with rfl | rfl | rfl | rfl | rfl | rfl <;> simp [letA,hn] <;> rfl
   ·simp [hn,letA]
    rcases h6 with rfl | rfl | rfl | rfl | rfl | rfl <;> rfl
end
noncomputable def Ends (o : Option (CF × List CV)) (r : CV) : Prop:=∃ f σ',o = some (f,σ')∧resOf f = some r
noncomputable def Goes (o : Option (CF × List CV)) (R : List CV→Prop) : Prop:=∃ σ',o = some (.next,σ')∧R σ'
theorem Ends.seq {m1 m2 : CM} {σ : List CV} {r : CV} {R : List CV→Prop} (h1 : Goes (m1 σ) R) (h2 : ∀ σ1,R σ1→Ends (m2 σ1) r) : Ends (seqM m1 m2 σ) r:=by
 obtain ⟨σ1,e,h⟩:=h1
 unfold seqM; rw [e]; exact h2 σ1 h
theorem Ends.step {m1 m2 : CM} {σ σ1 : List CV} {r : CV} (h1 : m1 σ = some (.next,σ1)) (h2 : Ends (m2 σ1) r) : Ends (seqM m1 m2 σ) r:=by
 unfold seqM; rw [h1]; exact h2
theorem Ends.ret {m1 m2 : CM} {σ σ1 : List CV} {r : CV} (h1 : m1 σ = some (.ret r,σ1)) : Ends (seqM m1 m2 σ) r:=by
 unfold seqM; rw [h1]; exact ⟨_,_,rfl,rfl⟩
theorem Ends.fall {o : Option (CF × List CV)} {R : List CV→Prop} (h : Goes o R) : Ends o .none:=let ⟨σ',e,_⟩:=h; ⟨_,σ',e,rfl⟩
theorem Goes.seq {m1 m2 : CM} {σ : List CV} {R1 R : List CV→Prop} (h1 : Goes (m1 σ) R1) (h2 : ∀ σ1,R1 σ1→Goes (m2 σ1) R) : Goes (seqM m1 m2 σ) R:=by
 obtain ⟨σ1,e,h⟩:=h1
 unfold seqM; rw [e]; exact h2 σ1 h
theorem Goes.step {m1 m2 : CM} {σ σ1 : List CV} {R : List CV→Prop} (h1 : m1 σ = some (.next,σ1)) (h2 : Goes (m2 σ1) R) : Goes (seqM m1 m2 σ) R:=by
 unfold seqM; rw [h1]; exact h2
theorem Goes.nil {σ : List CV} {R : List CV→Prop} (h : R σ) : Goes (some (.next,σ)) R:=⟨σ,rfl,h⟩
theorem Goes.mono {o : Option (CF × List CV)} {R R' : List CV→Prop} (h : Goes o R) (hr : ∀ σ,R σ→R' σ) : Goes o R':=let ⟨σ,e,q⟩:=h; ⟨σ,e,hr σ q⟩
theorem Goes.ite {mt : List CV→Option Bool} {m1 m2 : CM} {σ : List CV} {R : List CV→Prop} (b : Bool) (h : mt σ = some b) (h1 : b = true→Goes (m1 σ) R) (h2 : b = false→Goes (m2 σ) R) : Goes (ifM mt m1 m2 σ) R:=by
 unfold ifM
 rw [h]
 cases b
 ·exact h2 rfl
 ·exact h1 rfl
theorem Ends.ite {mt : List CV→Option Bool} {m1 m2 m3 : CM} {σ : List CV} {r : CV} (b : Bool) (h : mt σ = some b) (h1 : b = true→∃ σ',m1 σ = some (.ret r,σ')) (h2 : b = false→Goes (m2 σ) fun σ'=>Ends (m3 σ') r) : Ends (seqM (ifM mt m1 m2) m3 σ) r:=by
 unfold seqM ifM
 rw [h]
 cases b
 ·obtain ⟨σ',e,h3⟩:=h2 rfl
  show Ends ((m2 σ).bind _) r
  rw [e]; exact h3
 ·obtain ⟨σ',e⟩:=h1 rfl
  show Ends ((m1 σ).bind _) r
  rw [e]; exact ⟨_,_,rfl,rfl⟩
theorem ret_one {m : List CV→Option CV} {σ : List CV} {a r : CV} (h : m σ = some a) (h2 : rd σ a = some r) : ∃ σ',seqM (retM m) (fun σ=>some (.next,σ)) σ = some (.ret r,σ'):=by
 refine ⟨σ,?_⟩
 unfold seqM retM
 rw [h]
 show ((rd σ a).map _).bind _ = _
 rw [h2]; rfl
theorem Ends.retM {m : List CV→Option CV} {m2 : CM} {σ : List CV} {a r : CV} (h : m σ = some a) (h2 : rd σ a = some r) : Ends (seqM (retM m) m2 σ) r:=by
 refine .ret (σ1:=σ) ?_
 unfold Mine.retM
 rw [h]
 show (rd σ a).map _ = _
 rw [h2]; rfl
theorem forM_goes {α : Type} (R : α→List CV→Prop) (step : α→CV→α) {i : Nat} {mb : CM} (xs : List CV) (a : α) (σ : List CV)
  (h : ∀ a σ x,x∈xs→R a σ→∃ σ1,stF i x σ = some σ1∧Goes (mb σ1) (R (step a x))) (h0 : R a σ) : Goes (forM i mb xs σ) (R (xs.foldl step a)):=by
 obtain ⟨σ',h1,h2⟩:=forM_rel R step (i:=i) (mb:=mb) xs a σ (fun a σ x hx hr=>by
  obtain ⟨σ1,q1,σ2,q2,q3⟩:=h a σ x hx hr
  exact ⟨σ1,σ2,q1,q2,q3⟩) h0
 exact ⟨σ',h1,h2⟩
theorem forM_at (R : Nat→List CV→Prop) {i : Nat} {mb : CM} (xs : List CV) (σ : List CV) (h : ∀ k x σ,xs[k]? = some x→R k σ→∃ σ1,stF i x σ = some σ1∧Goes (mb σ1) (R (k + 1))) (h0 : R 0 σ) : Goes (forM i mb xs σ) (R xs.length):=by
 obtain ⟨σ',h1,h2⟩:=forM_inv R (i:=i) (mb:=mb) xs (fun k x σ hx hr=>by
  obtain ⟨σ1,q1,σ2,q2,q3⟩:=h k x σ hx hr
  exact ⟨σ1,σ2,q1,q2,q3⟩) xs.length 0 σ (by exact Eq.symm (Nat.zero_add xs.length)) h0
 exact ⟨σ',by exact Option.mem_def.mp h1,h2⟩
theorem Goes.for {mi : List CV→Option CV} {i : Nat} {mb : CM} {σ : List CV} {v : CV} {xs : List CV} {R : List CV→Prop} (h1 : mi σ = some v) (h2 : srcV v = some xs) (h3 : Goes (forM i mb xs σ) R) : Goes (forS i mi mb σ) R:=by
 unfold forS
 rw [h1]; show Goes ((srcV v).bind _) R; rw [h2]; exact h3
noncomputable abbrev il (l : List Int) : List CV:=l.map .int
noncomputable abbrev sl (l : List Str) : List CV:=l.map .str
noncomputable abbrev rl (n : Nat) : List CV:=(List.range n).map fun i : Nat=>.int (i : Int)
theorem ints_il (l : List Int) : ints? (il l) = some l:=by
 induction l with
 | nil=>rfl
 | cons a l ih=>show (ints? (il l)).map _ = _; rw [ih]; rfl
theorem strs_sl (l : List Str) : strs? (sl l) = some l:=by
 induction l with
 | nil=>rfl
 | cons a l ih=>show (strs? (sl l)).map _ = _; rw [ih]; rfl
theorem upto_nat (l : List CV) (k : Nat) : upto (k : Int) l = l.take k:=by
 unfold upto
 rw [clipAt_nat]
 exact List.take_eq_take_min.symm
theorem upto_last (l : List CV) : upto (-1) l = l.take (l.length - 1):=congrArg (l.take ·) (clipAt_neg l.length 1 (Nat.le_refl 1))
theorem last_nat {n : Nat} (h : 0 < n) : ((-1 : Int) + (n : Int)).toNat = n - 1:=by lia
theorem plc_last {n : Nat} (h : 0 < n) : plc n (-1) = n - 1:=(if_neg (by decide)).trans (last_nat h)
theorem srcV_up (t n : Nat) (h : t + n≤1000000) : srcV (.rng t (t + n : Nat) 1) = some ((List.range n).map fun i : Nat=>CV.int (t + (i : Int) * 1)):=by
 have hs : (Builtin.Range.rangeSize t (t + n : Nat) 1).toNat = n:=by rw [rangeSize_one]; clear h; split <;> lia
 have ht : ∀ m : Nat,m≤t + n→-1000000≤(m : Int)∧(m : Int)≤1000000:=fun m q=>⟨Int.le_trans (by decide) (Int.natCast_nonneg m),Int.ofNat_le.mpr (Nat.le_trans q h)⟩
 exact (if_pos ⟨.inl rfl,ht _ (Nat.le_add_right t n),ht _ (Nat.le_refl _)⟩).trans (by rw [hs])
theorem srcV_rng (t n : Nat) (h : t + n≤1000) : srcV (.rng t (t + n : Nat) 1) = some ((List.range n).map fun i : Nat=>CV.int ((t + i : Nat) : Int)) :=
 (srcV_up t n (Nat.le_trans h (by decide))).trans (congrArg some (List.map_congr_left fun i J=>by rw [Int.mul_one,Int.natCast_add]))
theorem srcV_range (n : Nat) (h : n≤1000000) : srcV (.rng 0 n 1) = some (rl n):=by
 have q:=srcV_up 0 n (by rwa [Nat.zero_add])
 rw [Nat.zero_add] at q
 exact q.trans (congrArg some (List.map_congr_left fun i J=>by rw [Int.mul_one]; exact congrArg CV.int (Int.zero_add _)))
theorem il_set (l : List Int) (k : Nat) (x : Int) : (il l).set k (.int x) = il (l.set k x):=by rw [il,il,List.map_set]
theorem rl_at {n k : Nat} {x : CV} (h : (rl n)[k]? = some x) : x = .int (k : Int)∧k < n:=by
 rw [rl,List.getElem?_map] at h
 refine mE h fun j h1 h2=>?_
 have hk : k < n:=by have:=(gL h1); simpa using this
 rw [List.getElem?_range hk] at h1
 cases h1
 exact ⟨h2.symm,hk⟩
theorem ints_eq : ∀ {vs : List CV} {l : List Int},ints? vs = some l→vs = il l:=by
 intro vs
 induction vs with
 | nil =>
  intro l h
  cases h; rfl
 | cons c cs ints_eq =>
  intro l h
  cases c <;> first | (cases h; done) | skip
  refine mE h fun l' h1 h2=>?_
  subst h2
  rw [ints_eq h1]; rfl
theorem strs_eq : ∀ {vs : List CV} {l : List Str},strs? vs = some l→vs = sl l:=by
 intro vs
 induction vs with
 | nil =>
  intro l h
  cases h; rfl
 | cons c cs strs_eq =>
  intro l h
  cases c <;> first | (cases h; done) | skip
  refine mE h fun l' h1 h2=>?_
  subst h2
  rw [strs_eq h1]; rfl
theorem il_get {l : List Int} {j : Nat} (h : j < l.length) : (il l)[j]? = some (.int (l.getD j 0)):=by
 rw [il,List.getElem?_map,List.getElem?_eq_getElem h]
 simp [List.getD,h]
theorem at_last {l : List Int} (h : 0 < l.length) : at? (il l) (-1) = some (.int (l.getD (l.length - 1) 0)):=by
 have h' : 0 < (il l).length:=by rw [List.length_map]; exact h
 unfold at?
 rw [if_neg (by decide),if_pos (by rw [List.length_map]; lia),last_nat h',List.length_map,il_get (Nat.sub_lt h Nat.one_pos)]
theorem sl_get {l : List Str} {j : Nat} (h : j < l.length) : (sl l)[j]? = some (.str (l.getD j default)):=by
 rw [sl,List.getElem?_map,List.getElem?_eq_getElem h]
 simp [List.getD,h]
theorem fmod_nat (a b : Nat) : (a : Int).fmod (b : Int) = ((a % b : Nat) : Int):=by
 rw [Int.fmod_eq_emod_of_nonneg _ (by exact Int.natCast_nonneg b)]; rfl
theorem fdiv_nat (a b : Nat) : (a : Int).fdiv (b : Int) = ((a / b : Nat) : Int):=by
 rw [Int.fdiv_eq_ediv_of_nonneg _ (by exact Int.natCast_nonneg b)]; rfl
theorem plc_nat (n k : Nat) : plc n (k : Int) = k:=by unfold plc; rw [if_pos (by exact Int.natCast_nonneg k)]; simp
theorem stF_ok {i : Nat} {cv : CV} {σ : List CV} (h : noM cv = true) (hi : i < σ.length) (hm : isM (σ.getD i .unb) = false) : stF i cv σ = some (σ.set i cv):=if_pos ⟨h,hi,hm⟩
theorem stA_ok {i : Nat} {cv : CV} {σ : List CV} (h : noM cv = true∨isM cv = true) (hi : i < σ.length) (hm : isM (σ.getD i .unb) = false) : stA i cv σ = some (σ.set i cv):=if_pos ⟨h,hi,hm⟩
theorem ev_asg {m : List CV→Option CV} {i : Nat} {cv : CV} {σ σ' : List CV} (h : m σ = some cv) (h2 : stF i cv σ = some σ') : asgM i m σ = some (.next,σ'):=by
 unfold asgM
 rw [h]; show (stF i cv σ).map _ = _; rw [h2]; rfl
theorem ev_aug {op : Operator} {i : Nat} {σ vs : List CV} {mi m : List CV→Option CV} {k : Int} {o v r : CV} (h1 : ml? (σ.getD i .unb) = some vs) (h2 : mi σ = some (.int k)) (h3 : at? vs k = some o) (h4 : m σ = some v) (h5 : aug op o v = some r) :
  augSM i op mi m σ = some (.next,σ.set i (.mlist (vs.set (plc vs.length k) r))):=by
 unfold augSM
 rw [h1]
 show (mi σ).bind _ = _
 rw [h2]
 show (at? vs k).bind _ = _
 rw [h3]
 show (m σ).bind _ = _
 rw [h4]
 show (aug op o v).map _ = _
 rw [h5]; rfl
theorem ev_augN {op : Operator} {i : Nat} {σ σ' : List CV} {m : List CV→Option CV} {v r : CV} (h4 : m σ = some v) (h5 : aug op (σ.getD i .unb) v = some r) (h6 : stF i r σ = some σ') : augNM i op m σ = some (.next,σ'):=by
 unfold augNM
 rw [h4]
 show (aug op (σ.getD i .unb) v).bind _ = _
 rw [h5]
 show (stF i r σ).map _ = _
 rw [h6]; rfl
theorem ev_app {i : Nat} {σ vs : List CV} {m : List CV→Option CV} {cv : CV} (h1 : m σ = some cv) (h2 : ml? (σ.getD i .unb) = some vs) (h3 : noM cv = true) (h4 : vs.length < 4096) : appM i m σ = some (.next,σ.set i (.mlist (vs ++ [cv]))):=by
 unfold appM
 rw [h1]
 show (ml? (σ.getD i .unb)).bind _ = _
 rw [h2]
 exact if_pos ⟨h3,h4⟩
theorem ev_appPop {i j : Nat} {σ vs us : List CV} {m : List CV→Option CV} {k : Int} {u : CV} (h1 : m σ = some (.int k)) (h2 : ml? (σ.getD i .unb) = some vs) (h3 : ml? (σ.getD j .unb) = some us) (h4 : at? us k = some u) (h5 : vs.length < 4096) :
  appPopM i j m σ = some (.next,(σ.set j (.mlist (us.eraseIdx (plc us.length k)))).set i (.mlist (vs ++ [u]))):=by
 unfold appPopM
 rw [h1]
 show (ml? (σ.getD i .unb)).bind _ = _
 rw [h2]
 show (ml? (σ.getD j .unb)).bind _ = _
 rw [h3]
 show (at? us k).bind _ = _
 rw [h4]
 exact if_pos h5
theorem ev_mul {m : List CV→Option CV} {cvs σ σ' : List CV} {n : Nat} {mt : List CV→List CV→Option (List CV)} (h : m σ = some (.tup cvs)) (hl : cvs.length = n) (h2 : mt cvs σ = some σ') : mulM n m mt σ = some (.next,σ'):=by
 unfold mulM
 rw [h]
 show (if cvs.length = n then (mt cvs σ).map (fun x=>(CF.next,x)) else none) = _
 rw [if_pos hl,h2]; rfl
theorem ev_tsub {i : Nat} {σ vs : List CV} {mi : List CV→Option CV} {k : Int} {cv y : CV} (h1 : ml? (σ.getD i .unb) = some vs) (h2 : mi σ = some (.int k)) (h3 : at? vs k = some y) : tsubM i mi cv σ = some (σ.set i (.mlist (vs.set (plc vs.length k) cv))):=by
 unfold tsubM
 rw [h1]
 show (mi σ).bind _ = _
 rw [h2]
 show (at? vs k).map _ = _
 rw [h3]; rfl
theorem ev_cons {m1 : CV→List CV→Option (List CV)} {m2 : List CV→List CV→Option (List CV)} {cv : CV} {cvs σ σ1 σ' : List CV} (h1 : m1 cv σ = some σ1) (h2 : m2 cvs σ1 = some σ') : tcons m1 m2 (cv::cvs) σ = some σ':=by
 show (m1 cv σ).bind _ = _
 rw [h1]; exact h2
theorem ev_asgO {m : List CV→Option CV} {i N : Nat} {cv : CV} {σ σ' : List CV} (h : m σ = some cv) (hN : σ.length≤N) (h2 : stA i cv σ = some σ') : asgOM N i m σ = some (.next,σ'):=by
 unfold asgOM
 rw [h]
 show (if σ.length≤N then (stA i cv σ).map (fun x=>(CF.next,x)) else none) = _
 rw [if_pos hN,h2]; rfl
theorem ev_tupR {mg : List CV→Option (List CV)} {is cvs σ σ' : List CV} {js : List Nat} {N n : Nat} (h : mg σ = some cvs) (hN : σ.length≤N) (hl : cvs.length = n) (h64 : n≤64) (h2 : storeAll js.reverse cvs.reverse σ = some σ') : tupRM N n js mg σ = some (.next,σ'):=by
 unfold tupRM
 rw [h]
 show (if σ.length≤N∧cvs.length = n∧n≤64 then (storeAll js.reverse cvs.reverse σ).map (fun x=>(CF.next,x)) else none) = _
 rw [if_pos ⟨hN,hl,h64⟩,h2]; rfl
theorem ev_tup {mg : List CV→Option (List CV)} {is cvs σ σ' : List CV} {js : List Nat} {N n : Nat} (h : mg σ = some cvs) (hN : σ.length≤N) (hl : cvs.length = n) (h64 : n≤64) (h2 : storeAll js cvs σ = some σ') : tupM N n js mg σ = some (.next,σ'):=by
 unfold tupM
 rw [h]
 show (if σ.length≤N∧cvs.length = n∧n≤64 then (storeAll js cvs σ).map (fun x=>(CF.next,x)) else none) = _
 rw [if_pos ⟨hN,hl,h64⟩,h2]; rfl
noncomputable def swapR (r : List Int) (p q : Nat) : List Int:=(r.set p (r.getD q 0)).set q (r.getD p 0)
theorem swapR_len (r : List Int) (p q : Nat) : (swapR r p q).length = r.length:=by simp [swapR]
noncomputable def swapS (r : List Str) (p q : Nat) : List Str:=(r.set p (r.getD q default)).set q (r.getD p default)
theorem swapS_len (r : List Str) (p q : Nat) : (swapS r p q).length = r.length:=by simp [swapS]
theorem sl_set (l : List Str) (k : Nat) (x : Str) : (sl l).set k (.str x) = sl (l.set k x):=by rw [sl,sl,List.map_set]
theorem ev_swap {i : Nat} {σ : List CV} {r : List Int} {p q : Nat} {m f1 f2 : List CV→Option CV} (hr : ml? (σ.getD i .unb) = some (il r)) (hi : i < σ.length) (hp : p < r.length) (hq : q < r.length) (h : m σ = some (.tup [.int (r.getD q 0),.int (r.getD p 0)])) (h1 : f1 σ = some (.int p))
  (h2 : ∀ vs,f2 (σ.set i (.mlist vs)) = some (.int q)) : mulM 2 m (tcons (tsubM i f1) (tcons (tsubM i f2) tnil)) σ = some (.next,σ.set i (.mlist (il (swapR r p q)))):=by
 refine ev_mul h rfl (ev_cons (σ1:=σ.set i (.mlist (il (r.set p (r.getD q 0))))) ?_ (ev_cons (σ1:=σ.set i (.mlist (il (swapR r p q)))) ?_ rfl))
 ·refine (ev_tsub hr h1 (by rw [at_nat,il_get hp])).trans ?_
  rw [plc_nat,il_set]
 ·refine (ev_tsub (vs:=il (r.set p (r.getD q 0))) ?_ (h2 _) (by rw [at_nat,il_get (by simpa using hq)])).trans ?_
  ·rw [getD_set_self hi]; rfl
  ·rw [plc_nat,il_set,List.set_set]; rfl
theorem ev_swapS {i : Nat} {σ : List CV} {r : List Str} {p q : Nat} {m f1 f2 : List CV→Option CV} (hr : ml? (σ.getD i .unb) = some (sl r)) (hi : i < σ.length) (hp : p < r.length) (hq : q < r.length) (h : m σ = some (.tup [.str (r.getD q default),.str (r.getD p default)])) (h1 : f1 σ = some (.int p))
  (h2 : ∀ vs,f2 (σ.set i (.mlist vs)) = some (.int q)) : mulM 2 m (tcons (tsubM i f1) (tcons (tsubM i f2) tnil)) σ = some (.next,σ.set i (.mlist (sl (swapS r p q)))):=by
 refine ev_mul h rfl (ev_cons (σ1:=σ.set i (.mlist (sl (r.set p (r.getD q default))))) ?_ (ev_cons (σ1:=σ.set i (.mlist (sl (swapS r p q)))) ?_ rfl))
 ·refine (ev_tsub hr h1 (by rw [at_nat,sl_get hp])).trans ?_
  rw [plc_nat,sl_set]
 ·refine (ev_tsub (vs:=sl (r.set p (r.getD q default))) ?_ (h2 _) (by rw [at_nat,sl_get (by simpa using hq)])).trans ?_
  ·rw [getD_set_self hi]; rfl
  ·rw [plc_nat,sl_set,List.set_set]; rfl
theorem ev_bind {α β : Type} {o : Option α} {f : α→Option β} {a : α} {r : Option β} (h : o = some a) (h2 : f a = r) : o.bind f = r:=by subst h; exact h2
theorem ev_map {α β : Type} {o : Option α} {f : α→β} {a : α} {r : β} (h : o = some a) (h2 : f a = r) : o.map f = some r:=by subst h; subst h2; rfl
theorem il_app (l : List Int) (x : Int) : il (l ++ [x]) = il l ++ [.int x]:=by simp [il]
noncomputable def cellsStep (sc : List Int) (cs : List Int) (k : Nat) : List Int:=cs.set (k % 6) (cs.getD (k % 6) 0 + sc.getD k 0)
noncomputable def cellsL (sc : List Int) : List Int:=(List.range sc.length).foldl (cellsStep sc) [297,2271,15,-1,22,5]
theorem cellsFold_len (sc : List Int) : ∀ (ks : List Nat) (cs : List Int),(ks.foldl (cellsStep sc) cs).length = cs.length
 | [],_=>rfl
 | k::ks,cs=>by rw [List.foldl_cons,cellsFold_len sc ks]; simp [cellsStep]
noncomputable def cellsS : List CV→List CV→Option CV:=fun l J=>on1 (fun v0_=>asL (fun vs=>(ints? vs).bind fun sc=>if sc.length≤1000 then some (.list (il (cellsL sc))) else none) v0_) l
section
variable {prog : Program} {w : World} {hT : Heap} {mg mb : Str→Option Value}
theorem cells_fn (T : Tops prog hT mg mb) : Fn prog w hT 0 (.ref 252) [] cellsS:=by
 refine Fn.plain (n:=1) T.tf T.r252 (by decide) ⟨rfl,by decide,rfl,rfl⟩ (fun A e X s0 P px W hA=>(Rss.cons (Rs.asgO 5 W rfl (i:=1) (.inl rfl) (Rfr.lst (Rfs.cons Rf.int (Rfs.cons Rf.int (Rfs.cons Rf.int (Rfs.cons (Rf.neg Rf.int) (Rfs.cons Rf.int (Rfs.cons Rf.int Rfs.nil)))))))) (Rss.cons (Rs.for_ W (i:=2) (.inl rfl) (Rf.callT (T.range_ W (i:=3) rfl) (Rfs.cons (Rf.callB (T.len_ W (i:=4) rfl) (Rfs.cons (Rf.loc W (i:=0) rfl) Rfs.nil) len_ok) Rfs.nil) range_ok) px fun Z1 p1=>(Rss.cons (Rs.augS (i:=1) (Rf.loc (W.x Z1) (i:=1) rfl) (Rf.mod (Rf.loc (W.x Z1) (i:=2) rfl) Rf.int) (Rf.sb (Rf.loc (W.x Z1) (i:=0) rfl) (Rf.loc (W.x Z1) (i:=2) rfl))) Rss.nil)) (Rss.cons (Rs.ret (Rf.loc W (i:=1) rfl) px) Rss.nil)))) ?_ (by decide) (by decide) ?_
 ·intro fd vals h1 h2 h3 hl
  cases fd; simp only at h1 h2 h3; subst h1 h2 h3
  exact bind1 hl fun J=>rfl
 ·intro cvs kcvs r h
  replace h:=on1_inv h
  refine bc fun hG=>?_
  obtain ⟨_,rfl,h⟩:=h
  replace h:=asL_inv h
  obtain ⟨vs,rfl,h⟩:=h
  revert h
  refine oR fun sc h1 h=>?_
  refine hG ?_
  clear hG
  replace h:=ite_opt h
  obtain ⟨hlen,h⟩:=h
  ·cases h
   have:=ints_eq h1
   subst this
   refine ⟨rfl,?_⟩
   show Ends (seqM _ (seqM _ (seqM _ _)) [.list (il sc),.unb,.unb,.unb,.unb]) _
   refine .step (σ1:=[.list (il sc),.mlist (il [297,2271,15,-1,22,5]),.unb,.unb,.unb]) rfl ?_
   refine .seq (R:=fun σ=>∃ kv,σ = [.list (il sc),.mlist (il (cellsL sc)),kv,.unb,.unb]) ?_ ?_
   ·refine Goes.for (v:=.rng 0 sc.length 1) (xs:=rl sc.length) ?_ (srcV_range _ (by exact Nat.le_trans hlen (by decide))) ?_
    ·show some (CV.rng 0 ((il sc).length : Int) 1) = _
     rw [List.length_map]
    ·refine (forM_at (fun k σ=>∃ kv,isM kv = false∧σ = [.list (il sc),.mlist (il (((List.range sc.length).take k).foldl (cellsStep sc) [297,2271,15,-1,22,5])),kv,.unb,.unb]) _ _ ?_ ⟨.unb,rfl,rfl⟩).mono ?_
     ·rintro k x σ hx ⟨kv,hkv,rfl⟩
      obtain ⟨rfl,hk⟩:=rl_at hx
      refine ⟨_,by unfold stF; rw [if_pos ⟨rfl,by exact place_lt rfl,hkv⟩],?_⟩
      generalize hcs : ((List.range sc.length).take k).foldl (cellsStep sc) [297,2271,15,-1,22,5] = cs
      have hl6 : cs.length = 6:=by rw [← hcs,cellsFold_len]; rfl
      refine .step (σ1:=[.list (il sc),.mlist (il (cellsStep sc cs k)),.int k,.unb,.unb]) ?_ (.nil ⟨.int k,rfl,?_⟩)
      ·refine (ev_aug (k:=((k % 6 : Nat) : Int)) (vs:=il cs) (o:=.int (cs.getD (k % 6) 0)) (v:=.int (sc.getD k 0)) rfl ?_ ?_ ?_ rfl).trans ?_
       ·show modS (.int k) (.int 6) = _
        rw [modS_int _ _ (by decide),show (k : Int).fmod 6 = ((k % 6 : Nat) : Int) from fmod_nat k 6]
       ·rw [at_nat,il_get (by lia)]
       ·show at? (il sc) (k : Int) = _
        rw [at_nat,il_get hk]
       ·rw [plc_nat,il_set]; rfl
      ·rw [show k + 1 = (k + 1) from rfl,List.take_succ,List.foldl_append,hcs]
       simp [hk,List.getElem?_range]
     ·rintro σ ⟨kv,_,rfl⟩
      refine ⟨kv,?_⟩
      rw [List.take_of_length_le (by simp)]; rfl
   ·rintro σ ⟨kv,rfl⟩
    exact .ret rfl
end
structure OSt where
 n : Int
 rest : List Int
 row : List Int
noncomputable def ordStep (st : OSt) (c : Nat) : OSt:=⟨st.n.fdiv c,st.rest.eraseIdx (st.n.fmod c).toNat,st.row ++ [st.rest.getD (st.n.fmod c).toNat 0]⟩
noncomputable def ordSt (n : Int) : Nat→OSt
 | 0=>⟨n,[0,1,2,3,4,5],[]⟩
 | k + 1=>ordStep (ordSt n k) (6 - k)
noncomputable def orderL (n : Int) : List Int:=(ordSt n 6).row
theorem fmod_lt (n : Int) {c : Nat} (hc : 0 < c) : (n.fmod c).toNat < c∧n.fmod c = ((n.fmod c).toNat : Int):=by
 have h1:=Int.fmod_nonneg_of_pos n (show (0 : Int) < (c : Int) by exact Int.natCast_pos.mpr hc)
 have h2:=Int.fmod_lt_of_pos n (show (0 : Int) < (c : Int) by exact Int.natCast_pos.mpr hc)
 exact ⟨(Int.toNat_lt h1).mpr h2,(Int.toNat_of_nonneg h1).symm⟩
theorem il_erase : ∀ (l : List Int) (j : Nat),(il l).eraseIdx j = il (l.eraseIdx j)
 | [],_=>rfl
 | _::_,0=>rfl
 | a::l,j + 1=>by show CV.int a::(il l).eraseIdx j = _; rw [il_erase l j]; rfl
theorem ordSt_len (n : Int) : ∀ k,k≤6→(ordSt n k).rest.length = 6 - k∧(ordSt n k).row.length = k:=by
 intro k
 induction k with
 | zero =>
  intro _
  exact ⟨rfl,rfl⟩
 | succ k ordSt_len =>
  intro h
  obtain ⟨h1,h2⟩:=ordSt_len (by exact Nat.le_of_succ_le h)
  have h3:=(fmod_lt (ordSt n k).n (c:=6 - k) (by exact Nat.zero_lt_sub_of_lt h)).1
  refine ⟨?_,?_⟩
  ·show ((ordSt n k).rest.eraseIdx _).length = _
   rw [List.length_eraseIdx_of_lt (by exact Nat.lt_of_lt_of_eq h3 (id (Eq.symm h1))),h1]; rfl
  ·show ((ordSt n k).row ++ [_]).length = _
   simp [h2]
theorem getElem_cons_eraseIdx_perm' {α : Type} : ∀ {l : List α} {j : Nat} (h : j < l.length),(l[j]::l.eraseIdx j).Perm l
 | a::l,0,_=>List.Perm.refl _
 | a::l,j + 1,h=>by
  have ih:=getElem_cons_eraseIdx_perm' (l:=l) (j:=j) (by exact Nat.succ_lt_succ_iff.mp h)
  exact (List.Perm.swap a _ _).trans (ih.cons a)
theorem ordSt_perm (n : Int) : ∀ k,k≤6→((ordSt n k).row ++ (ordSt n k).rest).Perm [0,1,2,3,4,5]:=by
 intro k
 induction k with
 | zero =>
  intro _
  exact List.Perm.refl _
 | succ k ordSt_perm =>
  intro h
  have ih:=ordSt_perm (by exact Nat.le_of_succ_le h)
  obtain ⟨h1,h2⟩:=ordSt_len n k (by exact Nat.le_of_succ_le h)
  have h3:=(fmod_lt (ordSt n k).n (c:=6 - k) (by exact Nat.zero_lt_sub_of_lt h)).1
  refine List.Perm.trans ?_ ih
  show ((ordSt n k).row ++ [_] ++ (ordSt n k).rest.eraseIdx _).Perm _
  rw [List.append_assoc]
  refine List.Perm.append_left _ ?_
  generalize ((ordSt n k).n.fmod ((6 - k : Nat) : Int)).toNat = j at h3
  have hj : j < (ordSt n k).rest.length:=by exact Nat.lt_of_lt_of_eq h3 (id (Eq.symm h1))
  rw [List.getD_eq_getElem?_getD,List.getElem?_eq_getElem hj]
  exact getElem_cons_eraseIdx_perm' hj
theorem order_perm (n : Int) : (orderL n).Perm [0,1,2,3,4,5]:=by
 have:=ordSt_perm n 6 (by exact Nat.le_of_ble_eq_true rfl)
 obtain ⟨h1,_⟩:=ordSt_len n 6 (by exact Nat.le_of_ble_eq_true rfl)
 rw [List.eq_nil_of_length_eq_zero h1,List.append_nil] at this
 exact this
noncomputable def orderS : List CV→List CV→Option CV:=fun l J=>on1 (fun v0_=>asI (fun n=>some (.list (il (orderL n)))) v0_) l
section
variable {prog : Program} {w : World} {hT : Heap} {mg mb : Str→Option Value}
theorem order_fn (T : Tops prog hT mg mb) : Fn prog w hT 0 (.ref 280) [] orderS:=by
 refine Fn.plain (n:=1) T.tf T.r280 (by decide) ⟨rfl,by decide,rfl,rfl⟩ (fun A e X s0 P px W hA=>(Rss.cons (Rs.tupSw 6 W rfl (is:=[1,2]) (ys:=["rest","row"]) (Rg.ow (Rfr.cpy W (T.list_ W (i:=4) rfl) (Rf.callT (T.range_ W (i:=5) rfl) (Rfs.cons Rf.int Rfs.nil) range_ok)) (Rg.ow (Rfr.lst Rfs.nil) Rg.nil)) rfl (at2 (.inl rfl) (.inl rfl)) rfl) (Rss.cons (Rs.for_ W (i:=3) (.inl rfl) (Rf.callT (T.range_ W (i:=5) rfl) (Rfs.cons Rf.int (Rfs.cons Rf.int (Rfs.cons (Rf.neg Rf.int) Rfs.nil))) range_ok) px fun Z1 p1=>(Rss.cons (Rs.appPop (W.x Z1) (i:=2) (j:=1) (by decide) (Rf.loc (W.x Z1) (i:=2) rfl) (Rf.loc (W.x Z1) (i:=1) rfl) (Rf.mod (Rf.loc (W.x Z1) (i:=0) rfl) (Rf.loc (W.x Z1) (i:=3) rfl))) (Rss.cons (Rs.asg (W.x Z1) (i:=0) (.inl rfl) (Rf.fdiv T.tf (W.x Z1) (Rf.loc (W.x Z1) (i:=0) rfl) (Rf.loc (W.x Z1) (i:=3) rfl))) Rss.nil))) (Rss.cons (Rs.ret (Rf.loc W (i:=2) rfl) px) Rss.nil)))) ?_ (by decide) (by decide) ?_
 ·intro fd vals h1 h2 h3 hl
  cases fd; simp only at h1 h2 h3; subst h1 h2 h3
  exact bind1 hl fun J=>rfl
 ·intro cvs kcvs r h
  replace h:=on1_inv h
  obtain ⟨_,rfl,h⟩:=h
  replace h:=asI_inv h
  obtain ⟨n,rfl,h⟩:=h
  cases h
  refine ⟨rfl,?_⟩
  show Ends (seqM _ (seqM _ (seqM _ _)) [.int n,.unb,.unb,.unb,.unb,.unb]) _
  refine .step (σ1:=[.int n,.mlist (il [0,1,2,3,4,5]),.mlist [],.unb,.unb,.unb]) rfl ?_
  refine .seq (R:=fun σ=>∃ kv,σ = [.int (ordSt n 6).n,.mlist (il (ordSt n 6).rest),.mlist (il (orderL n)),kv,.unb,.unb]) ?_ ?_
  ·refine Goes.for (v:=.rng 6 0 (-1)) (xs:=(List.range 6).map fun i : Nat=>CV.int (6 + (i : Int) * -1)) rfl rfl ?_
   refine (forM_at (fun k σ=>k≤6→∃ kv,isM kv = false∧σ = [.int (ordSt n k).n,.mlist (il (ordSt n k).rest),.mlist (il (ordSt n k).row),kv,.unb,.unb]) _ _ ?_ fun J=>⟨.unb,rfl,rfl⟩).mono ?_
   ·intro k x σ hx hR
    rw [List.getElem?_map] at hx
    obtain ⟨j,hj,rfl⟩:=oM hx
    have hk : k < 6:=by have:=(gL hj); simpa using this
    rw [List.getElem?_range hk] at hj
    cases hj
    obtain ⟨kv,hkv,rfl⟩:=hR (by exact Nat.le_of_succ_le hk)
    obtain ⟨l1,l2⟩:=ordSt_len n k (by exact Nat.le_of_succ_le hk)
    have hc : (6 : Int) + (k : Int) * -1 = ((6 - k : Nat) : Int):=by rw [Int.mul_neg,Int.mul_one,Int.ofNat_sub (Nat.le_of_lt hk)]; rfl
    rw [hc]
    obtain ⟨j,hj6,m2,e1⟩ : ∃ j : Nat,j < 6 - k∧(ordSt n k).n.fmod ((6 - k : Nat) : Int) = (j : Int)∧ordSt n (k + 1) = ⟨(ordSt n k).n.fdiv ((6 - k : Nat) : Int),(ordSt n k).rest.eraseIdx j,(ordSt n k).row ++ [(ordSt n k).rest.getD j 0]⟩:=by
     refine bc fun hG=>?_
     obtain ⟨m1,m2⟩:=fmod_lt (ordSt n k).n (c:=6 - k) (by exact Nat.zero_lt_sub_of_lt hk)
     refine hG ?_
     clear hG
     exact ⟨_,m1,m2,rfl⟩
    have hne : ((6 - k : Nat) : Int) ≠ 0:=fun q=>Nat.sub_ne_zero_of_lt hk (Int.ofNat.inj q)
    rw [e1]
    refine ⟨_,by unfold stF; rw [if_pos ⟨rfl,by exact place_lt rfl,hkv⟩],?_⟩
    refine .step (σ1:=[.int (ordSt n k).n,.mlist (il ((ordSt n k).rest.eraseIdx j)),.mlist (il ((ordSt n k).row ++ [(ordSt n k).rest.getD j 0])),.int ((6 - k : Nat) : Int),.unb,.unb]) ?_ (.step (σ1:=[.int ((ordSt n k).n.fdiv ((6 - k : Nat) : Int)),.mlist (il ((ordSt n k).rest.eraseIdx j)),.mlist (il ((ordSt n k).row ++ [(ordSt n k).rest.getD j 0])),.int ((6 - k : Nat) : Int),.unb,.unb]) ?_ (.nil fun J=>⟨_,rfl,rfl⟩))
    ·refine (ev_appPop (k:=(j : Int)) (vs:=il (ordSt n k).row) (us:=il (ordSt n k).rest) (u:=.int ((ordSt n k).rest.getD j 0)) ((modS_int _ _ hne).trans (by rw [m2])) rfl rfl ?_ (by rw [List.length_map,l2]; exact Nat.lt_trans hk (by decide))).trans ?_
     ·rw [at_nat,il_get (by exact Nat.lt_of_lt_of_eq hj6 (id (Eq.symm l1)))]
     ·rw [plc_nat]
      show some (CF.next,([.int (ordSt n k).n,.mlist ((il (ordSt n k).rest).eraseIdx j),.mlist (il (ordSt n k).row ++ [.int ((ordSt n k).rest.getD j 0)]),.int ((6 - k : Nat) : Int),.unb,.unb] : List CV)) = _
      rw [il_erase,show il ((ordSt n k).row ++ [(ordSt n k).rest.getD j 0]) = il (ordSt n k).row ++ [.int ((ordSt n k).rest.getD j 0)] from by simp [il]]
    ·exact ev_asg (fdivS_int _ _ hne) rfl
   ·intro σ h
    obtain ⟨kv,_,h⟩:=h (by exact List.getElem?_eq_none_iff.mp rfl)
    exact ⟨kv,h⟩
  ·rintro σ ⟨kv,rfl⟩
   exact .ret rfl
end
noncomputable def PR : List (Nat × Nat):=[(0,1),(0,2),(0,3),(0,4),(0,5),(1,2),(1,3),(1,4),(1,5),(2,3),(2,4),(2,5),(3,4),(3,5),(4,5)]
noncomputable def prC (p : Nat × Nat) : CV:=.tup [.int p.1,.int p.2]
noncomputable def gtS (r : List Int) (p : Nat × Nat) : List Int:=if r.getD p.2 0 < r.getD p.1 0 then swapR r p.1 p.2 else r
noncomputable def ltS (r : List Int) (p : Nat × Nat) : List Int:=if r.getD p.1 0 < r.getD p.2 0 then swapR r p.1 p.2 else r
noncomputable def cellAt (cell : Int) (t : Nat) : Nat:=((cell.fdiv (15 ^ t)).fmod 15).toNat
noncomputable def lowL (row : List Int) (cell up : Int) : List Int :=
 let r:=(List.range 3).foldl (fun r t=>gtS r (PR.getD (cellAt cell t) (0,1))) row
 if (up.fmod 30) < 15 then ltS r (PR.getD (up.fmod 30).toNat (0,1)) else r
theorem gtS_len (r : List Int) (p : Nat × Nat) : (gtS r p).length = r.length:=by unfold gtS; split <;> simp [swapR_len]
theorem PR_lt {k : Nat} (h : k < 15) : (PR.getD k (0,1)).1 < 6∧(PR.getD k (0,1)).2 < 6∧(PR.getD k (0,1)).1 < (PR.getD k (0,1)).2∧(PR.map prC)[k]? = some (prC (PR.getD k (0,1))):=by
 have : ∀ k : Fin 15,(PR.getD k (0,1)).1 < 6∧(PR.getD k (0,1)).2 < 6∧(PR.getD k (0,1)).1 < (PR.getD k (0,1)).2:=by decide
 refine bc fun hG=>?_
 obtain ⟨h1,h2,h3⟩:=this ⟨k,h⟩
 refine hG ?_
 clear hG
 refine ⟨h1,h2,h3,?_⟩
 rw [List.getElem?_map,List.getD_eq_getElem?_getD]
 obtain ⟨p,hp⟩ : ∃ p,PR[k]? = some p:=⟨_,List.getElem?_eq_getElem (by exact h)⟩
 rw [hp]; rfl
theorem lowFold_len (cell : Int) : ∀ (ks : List Nat) (r : List Int),(ks.foldl (fun r t=>gtS r (PR.getD (cellAt cell t) (0,1))) r).length = r.length
 | [],_=>rfl
 | k::ks,r=>by rw [List.foldl_cons,lowFold_len cell ks,gtS_len]
theorem cellAt_lt (cell : Int) (t : Nat) : cellAt cell t < 15:=(fmod_lt (cell.fdiv (15 ^ t)) (c:=15) (by decide)).1
theorem pow15 {k : Nat} (h : k < 3) : powS (.int 15) (.int k) = some (.int (15 ^ k)):=by
 have : k = 0∨k = 1∨k = 2:=by lia
 rcases this with rfl | rfl | rfl <;> rfl
noncomputable def lowS : List CV→List CV→Option CV:=fun l J=>on3 (fun v0_ v1_ v2_=>asL (fun vs=>asI (fun cell=>asI (fun up=>(ints? vs).bind fun r=>if r.length = 6 then some (.list (il (lowL r cell up))) else none) v2_) v1_) v0_) l
theorem low_el {P : List CV→CV→Prop} (H : ∀ (row : List Int) (cell up : Int),row.length = 6→P [.list (il row),.int cell,.int up] (.list (il (lowL row cell up)))) {cvs kcvs : List CV} {r : CV} (h : lowS cvs kcvs = some r) : P cvs r:=by
 replace h:=on3_inv h
 obtain ⟨_,_,_,rfl,h⟩:=h
 replace h:=asL_inv h
 obtain ⟨vs,rfl,h⟩:=h
 replace h:=asI_inv h
 obtain ⟨cell,rfl,h⟩:=h
 replace h:=asI_inv h
 obtain ⟨up,rfl,h⟩:=h
 refine bc fun hG=>?_
 revert h
 refine oR fun row h1 h=>?_
 refine hG ?_
 clear hG
 replace h:=ite_some h
 obtain ⟨hlen,h⟩:=h
 cases h
 have:=ints_eq h1
 subst this
 exact H _ _ _ hlen
section
variable {prog : Program} {w : World} {hT : Heap} {mg mb : Str→Option Value}
theorem low_fn (T : Tops prog hT mg mb) : Fn prog w hT 0 (.ref 285) [] lowS:=by
 refine Fn.plain (n:=3) T.tf T.r285 (by decide) ⟨rfl,by decide,rfl,rfl⟩ (fun A e X s0 P px W hA=>(Rss.cons (Rs.tupSw 9 W rfl (is:=[0,5]) (ys:=["row","pairs"]) (Rg.ow (Rfr.cpy W (T.list_ W (i:=7) rfl) (Rf.loc W (i:=0) rfl)) (Rg.fro (Rf.comp W (srcC_ok (src:=[none,none,none,none]) rfl) (compTurn_20 _ _ _ _ _ _ _ _ _) (Rf.callT (T.range_ W (i:=8) rfl) (Rfs.cons Rf.int Rfs.nil) range_ok) (fun e1 Y1 s1 P1 W1=>(Ct.nm W1 (i:=1) rfl)) (fun e1 Y1 s1 P1 W1=>Ci.nil) (fun e1 Y1 s1 P1 W1=>Ac.nest W1 (fun J=>rfl) rfl (fun J J=>compTurn_21 _ _ _ _ _ _ _ _ _ _ _ _) (fun X1=>(Rf.callT (T.range_ (W1.x X1) (i:=3) rfl) (Rfs.cons (Rf.add (Rf.loc (W1.x X1) (i:=1) rfl) Rf.int) (Rfs.cons Rf.int Rfs.nil)) range_ok)) (fun X1=>(Ct.nm (W1.x X1) (i:=2) rfl)) (fun X1=>Ci.nil) (Ac.emit rfl fun X1=>(Rf.tup (Rfs.cons (Rf.loc (W1.x X1) (i:=1) rfl) (Rfs.cons (Rf.loc (W1.x X1) (i:=2) rfl) Rfs.nil)))))) Rg.nil)) rfl (at2 (.inl rfl) (.inl rfl)) rfl) (Rss.cons (Rs.for_ W (i:=6) (.inl rfl) (Rf.callT (T.range_ W (i:=8) rfl) (Rfs.cons Rf.int Rfs.nil) range_ok) px fun Z2 p2=>(Rss.cons (Rs.mul (W.x Z2) (Rf.sb (Rf.loc (W.x Z2) (i:=5) rfl) (Rf.mod (Rf.fdiv T.tf (W.x Z2) (Rf.loc (W.x Z2) (i:=1) rfl) (Rf.pow Rf.int (Rf.loc (W.x Z2) (i:=6) rfl))) Rf.int)) (Tgs.cons (Tg.nm (i:=3) (W.x Z2) (.inl rfl)) (Tgs.cons (Tg.nm (i:=4) (W.x Z2) (.inl rfl)) Tgs.nil))) (Rss.cons (Rs.ifS (Rt.com (W.x Z2) (Rf.sb (Rf.loc (W.x Z2) (i:=0) rfl) (Rf.loc (W.x Z2) (i:=3) rfl)) (Rf.sb (Rf.loc (W.x Z2) (i:=0) rfl) (Rf.loc (W.x Z2) (i:=4) rfl))) (Rss.cons (Rs.mul (W.x Z2) (Rf.tup (Rfs.cons (Rf.sb (Rf.loc (W.x Z2) (i:=0) rfl) (Rf.loc (W.x Z2) (i:=4) rfl)) (Rfs.cons (Rf.sb (Rf.loc (W.x Z2) (i:=0) rfl) (Rf.loc (W.x Z2) (i:=3) rfl)) Rfs.nil))) (Tgs.cons (Tg.sub (i:=0) (Rf.loc (W.x Z2) (i:=0) rfl) (Rf.loc (W.x Z2) (i:=3) rfl)) (Tgs.cons (Tg.sub (i:=0) (Rf.loc (W.x Z2) (i:=0) rfl) (Rf.loc (W.x Z2) (i:=4) rfl)) Tgs.nil)) (hw:=sw_sub _)) Rss.nil) Rss.nil) Rss.nil))) (Rss.cons (Rs.ifS (Rt.com W (Rf.mod (Rf.loc W (i:=2) rfl) Rf.int) Rf.int) (Rss.cons (Rs.mul W (Rf.sb (Rf.loc W (i:=5) rfl) (Rf.mod (Rf.loc W (i:=2) rfl) Rf.int)) (Tgs.cons (Tg.nm (i:=3) W (.inl rfl)) (Tgs.cons (Tg.nm (i:=4) W (.inl rfl)) Tgs.nil))) (Rss.cons (Rs.ifS (Rt.com W (Rf.sb (Rf.loc W (i:=0) rfl) (Rf.loc W (i:=3) rfl)) (Rf.sb (Rf.loc W (i:=0) rfl) (Rf.loc W (i:=4) rfl))) (Rss.cons (Rs.mul W (Rf.tup (Rfs.cons (Rf.sb (Rf.loc W (i:=0) rfl) (Rf.loc W (i:=4) rfl)) (Rfs.cons (Rf.sb (Rf.loc W (i:=0) rfl) (Rf.loc W (i:=3) rfl)) Rfs.nil))) (Tgs.cons (Tg.sub (i:=0) (Rf.loc W (i:=0) rfl) (Rf.loc W (i:=3) rfl)) (Tgs.cons (Tg.sub (i:=0) (Rf.loc W (i:=0) rfl) (Rf.loc W (i:=4) rfl)) Tgs.nil)) (hw:=sw_sub _)) Rss.nil) Rss.nil) Rss.nil)) Rss.nil) (Rss.cons (Rs.ret (Rf.loc W (i:=0) rfl) px) Rss.nil))))) ?_ (by decide) (by decide) ?_
 ·intro fd vals h1 h2 h3 hl
  cases fd; simp only at h1 h2 h3; subst h1 h2 h3
  exact bind3 hl fun J J J=>rfl
 ·intro cvs kcvs r h
  apply low_el _ h
  clear h
  intro row cell up hlen
  refine ⟨rfl,?_⟩
  show Ends (seqM _ (seqM _ (seqM _ _)) [.list (il row),.int cell,.int up,.unb,.unb,.unb,.unb,.unb,.unb]) _
  refine .step (σ1:=[.mlist (il row),.int cell,.int up,.unb,.unb,.list (PR.map prC),.unb,.unb,.unb]) (by kernel_rfl!) ?_
  refine .seq (R:=fun σ=>∃ iv jv tv,isM iv = false∧isM jv = false∧σ = [.mlist (il ((List.range 3).foldl (fun r t=>gtS r (PR.getD (cellAt cell t) (0,1))) row)),.int cell,.int up,iv,jv,.list (PR.map prC),tv,.unb,.unb]) ?_ ?_
  ·refine Goes.for (v:=.rng 0 3 1) (xs:=rl 3) rfl (srcV_range 3 (by decide)) ?_
   refine (forM_at (fun k σ=>∃ iv jv tv,(isM iv = false∧isM jv = false∧isM tv = false)∧σ = [.mlist (il (((List.range 3).take k).foldl (fun r t=>gtS r (PR.getD (cellAt cell t) (0,1))) row)),.int cell,.int up,iv,jv,.list (PR.map prC),tv,.unb,.unb]) _ _ ?_ ⟨.unb,.unb,.unb,⟨rfl,rfl,rfl⟩,rfl⟩).mono ?_
   ·rintro k x σ hx qq4
    refine bc fun hG=>?_
    obtain ⟨iv,jv,tv,⟨h1,h2,h3⟩,rfl⟩:=qq4
    refine hG ?_
    clear hG
    obtain ⟨rfl,hk⟩:=rl_at hx
    have hlen' : (((List.range 3).take k).foldl (fun r t=>gtS r (PR.getD (cellAt cell t) (0,1))) row).length = 6:=by rw [lowFold_len]; exact hlen
    rw [show ((List.range 3).take (k + 1)) = (List.range 3).take k ++ [k] from by rw [List.take_succ]; simp [hk],List.foldl_append]
    generalize ((List.range 3).take k).foldl (fun r t=>gtS r (PR.getD (cellAt cell t) (0,1))) row = r at *
    refine ⟨_,stF_ok rfl (by exact place_lt rfl) h3,?_⟩
    refine bc fun hG=>?_
    obtain ⟨q1,q2,q3,q4⟩:=PR_lt (cellAt_lt cell k)
    refine hG ?_
    clear hG
    have hcell : (cell.fdiv (15 ^ k)).fmod 15 = (cellAt cell k : Int):=(fmod_lt (cell.fdiv (15 ^ k)) (c:=15) (by decide)).2
    generalize hp : PR.getD (cellAt cell k) (0,1) = p at *
    refine .step (σ1:=[.mlist (il r),.int cell,.int up,.int p.1,.int p.2,.list (PR.map prC),.int k,.unb,.unb]) (ev_mul (cvs:=[.int p.1,.int p.2]) ?_ rfl ?_) ?_
    ·show (((((powS (.int 15) (.int k)).bind fun b=>fdivS (.int cell) b).bind fun a=>modS a (.int 15))).bind fun b=>itemS _ (.list (PR.map prC)) b) = _
     rw [pow15 hk]
     show (((fdivS (.int cell) (.int (15 ^ k))).bind fun a=>modS a (.int 15)).bind _) = _
     rw [fdivS_int _ _ (Int.pow_ne_zero (by decide))]
     show ((modS (.int (cell.fdiv (15 ^ k))) (.int 15)).bind _) = _
     rw [modS_int _ _ (by decide),hcell]
     show at? (PR.map prC) (cellAt cell k : Int) = _
     rw [at_nat,q4]; rfl
    ·exact ev_cons (stF_ok rfl (by exact place_lt rfl) h1) (ev_cons (stF_ok rfl (by exact place_lt rfl) h2) rfl)
    ·refine .seq (Goes.ite (decide (r.getD p.2 0 < r.getD p.1 0)) ?_ (fun hb=>.step (ev_swap (r:=r) (p:=p.1) (q:=p.2) rfl (by exact lt_of_isM rfl) (by exact Nat.lt_of_lt_of_eq q1 (id (Eq.symm hlen'))) (by exact Nat.lt_of_lt_of_eq q2 (id (Eq.symm hlen'))) ?_ rfl fun J=>rfl) (.nil ?_)) (fun hb=>.nil ?_)) fun J q=>.nil q
     ·show (at? (il r) (p.1 : Int)).bind _ = _
      rw [at_nat,il_get (by exact Nat.lt_of_lt_of_eq q1 (id (Eq.symm hlen')))]
      show (at? (il r) (p.2 : Int)).bind _ = _
      rw [at_nat,il_get (by exact Nat.lt_of_lt_of_eq q2 (id (Eq.symm hlen')))]
      rfl
     ·show ((((at? (il r) (p.2 : Int)).bind _)).bind _) = _
      rw [at_nat,il_get (by exact Nat.lt_of_lt_of_eq q2 (id (Eq.symm hlen')))]
      show ((((at? (il r) (p.1 : Int)).bind _)).map _).bind _ = _
      rw [at_nat,il_get (by exact Nat.lt_of_lt_of_eq q1 (id (Eq.symm hlen')))]
      rfl
     ·refine ⟨.int p.1,.int p.2,.int k,⟨rfl,rfl,rfl⟩,?_⟩
      have hb:=of_decide_eq_true hb
      show _ = [CV.mlist (il (gtS r (PR.getD (cellAt cell k) (0,1)))),_,_,_,_,_,_,_,_]
      rw [hp,gtS,if_pos hb]; rfl
     ·refine ⟨.int p.1,.int p.2,.int k,⟨rfl,rfl,rfl⟩,?_⟩
      have hb:=of_decide_eq_false hb
      show _ = [CV.mlist (il (gtS r (PR.getD (cellAt cell k) (0,1)))),_,_,_,_,_,_,_,_]
      rw [hp,gtS,if_neg hb]
   ·rintro σ qq1
    refine bc fun hG=>?_
    obtain ⟨iv,jv,tv,⟨h1,h2,_⟩,rfl⟩:=qq1
    refine hG ?_
    clear hG
    exact ⟨iv,jv,tv,h1,h2,by rw [List.take_of_length_le (by exact List.getElem?_eq_none_iff.mp rfl)]⟩
  ·rintro σ qq1
   refine bc fun hG=>?_
   obtain ⟨iv,jv,tv,hiv,hjv,rfl⟩:=qq1
   refine hG ?_
   clear hG
   have hlen' : ((List.range 3).foldl (fun r t=>gtS r (PR.getD (cellAt cell t) (0,1))) row).length = 6:=by rw [lowFold_len]; exact hlen
   have hL : lowL row cell up = if (up.fmod 30) < 15 then ltS ((List.range 3).foldl (fun r t=>gtS r (PR.getD (cellAt cell t) (0,1))) row) (PR.getD (up.fmod 30).toNat (0,1)) else (List.range 3).foldl (fun r t=>gtS r (PR.getD (cellAt cell t) (0,1))) row:=rfl
   rw [hL]
   generalize (List.range 3).foldl (fun r t=>gtS r (PR.getD (cellAt cell t) (0,1))) row = r at *
   refine bc fun hG=>?_
   obtain ⟨m1,m2⟩:=fmod_lt up (c:=30) (by decide)
   refine hG ?_
   clear hG
   have m2 : up.fmod 30 = ((up.fmod 30).toNat : Int):=m2
   have m1 : (up.fmod 30).toNat < 30:=m1
   generalize hu : (up.fmod 30).toNat = u at m1 m2
   rw [m2]
   refine .seq (R:=fun σ=>∃ iv jv,σ = [.mlist (il (if (u : Int) < 15 then ltS r (PR.getD u (0,1)) else r)),.int cell,.int up,iv,jv,.list (PR.map prC),tv,.unb,.unb]) ?_ ?_
   ·refine Goes.ite (decide ((u : Int) < 15)) ?_ (fun hb=>?_) (fun hb=>.nil ?_)
    ·show (modS (.int up) (.int 30)).bind _ = _
     rw [modS_int _ _ (by decide),m2]
     rfl
    ·have hb:=of_decide_eq_true hb
     have hu15 : u < 15:=by exact Int.ofNat_lt.mp hb
     refine bc fun hG=>?_
     obtain ⟨q1,q2,q3,q4⟩:=PR_lt hu15
     refine hG ?_
     clear hG
     rw [if_pos hb]
     generalize hp : PR.getD u (0,1) = p at *
     refine .step (σ1:=[.mlist (il r),.int cell,.int up,.int p.1,.int p.2,.list (PR.map prC),tv,.unb,.unb]) (ev_mul (cvs:=[.int p.1,.int p.2]) ?_ rfl ?_) ?_
     ·refine ev_bind (a:=.list (PR.map prC)) rfl (ev_bind (a:=.int (u : Int)) ((modS_int up 30 (by decide)).trans (by rw [m2])) ?_)
      show at? (PR.map prC) (u : Int) = _
      rw [at_nat,q4]; rfl
     ·exact ev_cons (stF_ok rfl (by exact place_lt rfl) hiv) (ev_cons (stF_ok rfl (by exact place_lt rfl) hjv) rfl)
     ·refine .seq (Goes.ite (decide (r.getD p.1 0 < r.getD p.2 0)) ?_ (fun hb=>.step (ev_swap (r:=r) (p:=p.1) (q:=p.2) rfl (by exact lt_of_isM rfl) (by exact Nat.lt_of_lt_of_eq q1 (id (Eq.symm hlen'))) (by exact Nat.lt_of_lt_of_eq q2 (id (Eq.symm hlen'))) ?_ rfl fun J=>rfl) (.nil ?_)) (fun hb=>.nil ?_)) fun J q=>.nil q
      ·show (at? (il r) (p.1 : Int)).bind _ = _
       rw [at_nat,il_get (by exact Nat.lt_of_lt_of_eq q1 (id (Eq.symm hlen')))]
       show (at? (il r) (p.2 : Int)).bind _ = _
       rw [at_nat,il_get (by exact Nat.lt_of_lt_of_eq q2 (id (Eq.symm hlen')))]
       rfl
      ·show ((((at? (il r) (p.2 : Int)).bind _)).bind _) = _
       rw [at_nat,il_get (by exact Nat.lt_of_lt_of_eq q2 (id (Eq.symm hlen')))]
       show ((((at? (il r) (p.1 : Int)).bind _)).map _).bind _ = _
       rw [at_nat,il_get (by exact Nat.lt_of_lt_of_eq q1 (id (Eq.symm hlen')))]
       rfl
      ·refine ⟨.int p.1,.int p.2,?_⟩
       have hb:=of_decide_eq_true hb
       rw [ltS,if_pos hb]; rfl
      ·refine ⟨.int p.1,.int p.2,?_⟩
       have hb:=of_decide_eq_false hb
       rw [ltS,if_neg hb]
    ·have hb:=of_decide_eq_false hb
     rw [if_neg hb]
     exact ⟨iv,jv,rfl⟩
   ·rintro σ ⟨iv,jv,rfl⟩
    exact .retM rfl rfl
end
noncomputable def runStep (row : List Int) (sg : Int) (rs : List Int) (k : Nat) : List Int :=
 if 0 < (row.getD k 0 - row.getD (k - 1) 0) * sg then rs.set (rs.length - 1) (rs.getD (rs.length - 1) 0 + 1) else rs ++ [1]
noncomputable def runsL (row : List Int) (sg : Int) : List Int:=(List.range 5).foldl (fun rs i=>runStep row sg rs (i + 1)) [1]
theorem runFold_len (row : List Int) (sg : Int) : ∀ (ks : List Nat) (rs : List Int),0 < rs.length→0 < (ks.foldl (fun rs i=>runStep row sg rs (i + 1)) rs).length∧(ks.foldl (fun rs i=>runStep row sg rs (i + 1)) rs).length≤rs.length + ks.length:=by
 intro ks
 induction ks with
 | nil =>
  intro rs h
  exact ⟨h,Nat.le_refl _⟩
 | cons k ks runFold_len =>
  intro rs h
  have h1 : 0 < (runStep row sg rs (k + 1)).length∧(runStep row sg rs (k + 1)).length≤rs.length + 1:=by
   unfold runStep; split <;> simp <;> exact Nat.zero_lt_of_lt h
  obtain ⟨h2,h3⟩:=runFold_len _ h1.1
  refine ⟨h2,?_⟩
  exact Nat.le_trans h3 (Nat.le_trans (Nat.add_le_add_right h1.2 _) (Nat.le_of_eq (Nat.succ_add_eq_add_succ _ _)))
noncomputable def small (row : List Int) : Bool:=decide (row.length = 6) && row.all fun x=>decide (0≤x∧x < 6)
noncomputable def runsS : List CV→List CV→Option CV:=fun l J=>on2 (fun v0_ v1_=>asL (fun vs=>asI (fun sg=>(ints? vs).bind fun r=>if small r = true then some (.list (il (runsL r sg))) else none) v1_) v0_) l
theorem small_at {row : List Int} (h : small row = true) {k : Nat} (hk : k < 6) : 0≤row.getD k 0∧row.getD k 0 < 6:=by
 obtain ⟨h1,h2⟩:=bA h
 have h1:=of_decide_eq_true h1
 have:=List.all_eq_true.mp h2 row[k] (List.getElem_mem _)
 rw [List.getD_eq_getElem?_getD,List.getElem?_eq_getElem (by exact Nat.lt_of_lt_of_eq hk (id (Eq.symm h1)))]
 exact of_decide_eq_true this
theorem intBits_small {a : Int} (h : a.natAbs < 64) : Builtin.Int.intBits a≤64:=by
 unfold Builtin.Int.intBits
 split
 ·exact Nat.zero_le 64
 ·have : a.natAbs.log2 < 64:=(Nat.log2_lt (by simp_all)).mpr (Nat.lt_of_lt_of_le h (by decide))
  exact Nat.succ_le_of_lt this
theorem runs_all {P : List CV→CV→Prop} (H : ∀ (row : List Int) (sg : Int),small row = true→P [.list (il row),.int sg] (.list (il (runsL row sg)))) {cvs kcvs : List CV} {r : CV} (h : runsS cvs kcvs = some r) : P cvs r:=by
 replace h:=on2_inv h
 obtain ⟨_,_,rfl,h⟩:=h
 replace h:=asL_inv h
 obtain ⟨vs,rfl,h⟩:=h
 replace h:=asI_inv h
 obtain ⟨sg,rfl,h⟩:=h
 refine bc fun hG=>?_
 revert h
 refine oR fun row h1 h=>?_
 refine hG ?_
 clear hG
 replace h:=ite_some h
 obtain ⟨hsm,h⟩:=h
 cases h
 have:=ints_eq h1
 subst this
 exact H _ _ hsm
section
variable {prog : Program} {w : World} {hT : Heap} {mg mb : Str→Option Value}
theorem runs_fn (T : Tops prog hT mg mb) : Fn prog w hT 0 (.ref 314) [] runsS:=by
 refine Fn.plain (n:=2) T.tf T.r314 (by decide) ⟨rfl,by decide,rfl,rfl⟩ (fun A e X s0 P px W hA=>(Rss.cons (Rs.asgO 5 W rfl (i:=2) (.inl rfl) (Rfr.lst (Rfs.cons Rf.int Rfs.nil))) (Rss.cons (Rs.for_ W (i:=3) (.inl rfl) (Rf.callT (T.range_ W (i:=4) rfl) (Rfs.cons Rf.int (Rfs.cons Rf.int Rfs.nil)) range_ok) px fun Z1 p1=>(Rss.cons (Rs.ifS (Rt.com (W.x Z1) (Rf.mul (Rf.sub (Rf.sb (Rf.loc (W.x Z1) (i:=0) rfl) (Rf.loc (W.x Z1) (i:=3) rfl)) (Rf.sb (Rf.loc (W.x Z1) (i:=0) rfl) (Rf.sub (Rf.loc (W.x Z1) (i:=3) rfl) Rf.int))) (Rf.loc (W.x Z1) (i:=1) rfl)) Rf.int) (Rss.cons (Rs.augS (i:=2) (Rf.loc (W.x Z1) (i:=2) rfl) (Rf.neg Rf.int) Rf.int) Rss.nil) (Rss.cons (Rs.app (W.x Z1) (i:=2) (.inl rfl) (Rf.loc (W.x Z1) (i:=2) rfl) Rf.int) Rss.nil)) Rss.nil)) (Rss.cons (Rs.ret (Rf.loc W (i:=2) rfl) px) Rss.nil)))) ?_ (by decide) (by decide) ?_
 ·intro fd vals h1 h2 h3 hl
  cases fd; simp only at h1 h2 h3; subst h1 h2 h3
  exact bind2 hl fun J J=>rfl
 ·intro cvs kcvs r h
  apply runs_all _ h
  clear h
  intro row sg hsm
  have hlen : row.length = 6:=of_decide_eq_true (bA hsm).1
  refine ⟨rfl,?_⟩
  show Ends (seqM _ (seqM _ (seqM _ _)) [.list (il row),.int sg,.unb,.unb,.unb]) _
  refine .step (σ1:=[.list (il row),.int sg,.mlist (il [1]),.unb,.unb]) rfl ?_
  refine .seq (R:=fun σ=>∃ kv,σ = [.list (il row),.int sg,.mlist (il (runsL row sg)),kv,.unb]) ?_ ?_
  ·refine Goes.for (v:=.rng 1 6 1) (xs:=(List.range 5).map fun i : Nat=>CV.int (1 + (i : Int) * 1)) rfl rfl ?_
   refine (forM_at (fun k σ=>∃ kv,isM kv = false∧σ = [.list (il row),.int sg,.mlist (il (((List.range 5).take k).foldl (fun rs i=>runStep row sg rs (i + 1)) [1])),kv,.unb]) _ _ ?_ ⟨.unb,rfl,rfl⟩).mono ?_
   ·rintro k x σ hx ⟨kv,hkv,rfl⟩
    rw [List.getElem?_map] at hx
    obtain ⟨j,hj,rfl⟩:=oM hx
    have hk : k < 5:=by have:=(gL hj); simpa using this
    rw [List.getElem?_range hk] at hj
    cases hj
    have hl:=runFold_len row sg ((List.range 5).take k) [1] (by exact Nat.zero_lt_succ [].length)
    rw [show ((List.range 5).take (k + 1)) = (List.range 5).take k ++ [k] from by rw [List.take_succ]; simp [hk],List.foldl_append]
    have hl2 : ((List.range 5).take k).length = k:=by rw [List.length_take]; exact Nat.min_eq_left (Nat.le_of_lt hk)
    rw [hl2] at hl
    generalize ((List.range 5).take k).foldl (fun rs i=>runStep row sg rs (i + 1)) [1] = rs at *
    have hc : (1 : Int) + (k : Int) * 1 = ((k + 1 : Nat) : Int):=by rw [Int.mul_one,Int.add_comm]; rfl
    rw [hc]
    refine ⟨_,stF_ok rfl (by exact place_lt rfl) hkv,?_⟩
    have b1:=small_at hsm (k:=k + 1) (by exact Nat.add_lt_of_lt_sub hk)
    have b2:=small_at hsm (k:=k) (by exact Nat.lt_succ_of_lt hk)
    have h6 : k + 1 < row.length:=hlen▸Nat.succ_lt_succ hk
    replace hl : 0 < rs.length∧rs.length≤1 + k:=hl
    refine .seq (Goes.ite (decide (0 < (row.getD (k + 1) 0 - row.getD k 0) * sg)) ?_ (fun hb=>.step (ev_aug (k:=-1) (vs:=il rs) (o:=.int (rs.getD (rs.length - 1) 0)) (v:=.int 1) rfl rfl ?_ rfl rfl) (.nil ?_)) (fun hb=>.step (ev_app (vs:=il rs) (cv:=.int 1) rfl rfl rfl (by rw [List.length_map]; exact Nat.lt_of_le_of_lt hl.2 (Nat.lt_of_lt_of_le (Nat.add_lt_add_left hk 1) (by decide)))) (.nil ?_))) fun J q=>.nil q
    ·refine ev_bind (a:=.int ((row.getD (k + 1) 0 - row.getD k 0) * sg)) (ev_bind (a:=.int (row.getD (k + 1) 0 - row.getD k 0)) (ev_bind (a:=.int (row.getD (k + 1) 0)) ?_ (ev_bind (a:=.int (row.getD k 0)) ?_ rfl)) (ev_bind (a:=.int sg) rfl ?_)) rfl
     ·show at? (il row) ((k + 1 : Nat) : Int) = _
      rw [at_nat,il_get h6]
     ·show at? (il row) (((k + 1 : Nat) : Int) - 1) = _
      rw [show (((k + 1 : Nat) : Int) - 1) = (k : Int) by exact Int.sub_eq_iff_eq_add.mpr rfl,at_nat,il_get (Nat.lt_of_succ_lt h6)]
     ·exact if_pos (intBits_small (by omega))
    ·exact at_last hl.1
    ·refine ⟨.int ((k + 1 : Nat) : Int),rfl,?_⟩
     have hb:=of_decide_eq_true hb
     show [CV.list (il row),CV.int sg,CV.mlist ((il rs).set (plc (il rs).length (-1)) (.int (rs.getD (rs.length - 1) 0 + 1))),CV.int ((k + 1 : Nat) : Int),CV.unb] = [_,_,CV.mlist (il (runStep row sg rs (k + 1))),_,_]
     rw [List.length_map,plc_last hl.1,il_set,runStep,show k + 1 - 1 = k from rfl,if_pos hb]
    ·refine ⟨.int ((k + 1 : Nat) : Int),rfl,?_⟩
     have hb:=of_decide_eq_false hb
     show [CV.list (il row),CV.int sg,CV.mlist (il rs ++ [.int 1]),CV.int ((k + 1 : Nat) : Int),CV.unb] = [_,_,CV.mlist (il (runStep row sg rs (k + 1))),_,_]
     rw [runStep,show k + 1 - 1 = k from rfl,if_neg hb,il_app]
   ·rintro σ ⟨kv,_,rfl⟩
    exact ⟨kv,by rw [List.take_of_length_le (by exact List.getElem?_eq_none_iff.mp rfl)]; rfl⟩
  ·rintro σ ⟨kv,rfl⟩
   exact .retM rfl rfl
end
noncomputable def sameL (rs : List Int) : Nat→Nat
 | 0=>0
 | n + 1=>if 1 < n + 1∧rs.getD (n - 1) 0 = rs.getD (rs.length - 1) 0 then sameL rs n else n + 1
noncomputable def rulerL (rs : List Int) (way : Int) : List Int :=
 if way.fmod 3 = 0 then rs else if way.fmod 3 = 1 then rs.take (rs.length - 1) ++ [127,2] else rs.take (sameL rs rs.length) ++ [0,1]
theorem sameL_le (rs : List Int) : ∀ n,sameL rs n≤n
 | 0=>Nat.le_refl _
 | n + 1=>by unfold sameL; split; exact Nat.le_succ_of_le (sameL_le rs n); exact Nat.le_refl _
theorem whileM_goes {mt : List CV→Option Bool} {mb : CM} (R : Nat→List CV→Prop) (Q : List CV→Prop)
  (h : ∀ n σ,R n σ→∃ b,mt σ = some b∧(b = true→∃ m σ',m < n∧mb σ = some (.next,σ')∧R m σ')∧(b = false→Q σ)) : ∀ (fuel n : Nat) (σ : List CV),R n σ→n < fuel→Goes (whileM mt mb fuel σ) Q:=by
 intro fuel
 induction fuel with
 | zero =>
  intro n σ _ hf
  exact absurd hf (Nat.not_lt_zero n)
 | succ fuel whileM_goes =>
  intro n σ hr hf
  refine bc fun hG=>?_
  obtain ⟨b,h1,h2,h3⟩:=h n σ hr
  refine hG ?_
  clear hG
  show Goes ((mt σ).bind fun b=>if b then loopM mb (whileM mt mb fuel) σ else some (.next,σ)) Q
  rw [h1]
  cases b
  ·exact ⟨σ,rfl,h3 rfl⟩
  ·refine bc fun hG=>?_
   obtain ⟨m,σ',hm,e,hr'⟩:=h2 rfl
   refine hG ?_
   clear hG
   show Goes ((mb σ).bind _) Q
   rw [e]
   exact whileM_goes m σ' hr' (Nat.lt_of_lt_of_le hm (Nat.le_of_lt_succ hf))
theorem take_sz (rs : List Int) (k : Nat) (h : rs.length≤8) : (il (rs.take k)).length + 2≤4096:=by
 rw [List.length_map,List.length_take]
 exact Nat.le_trans (Nat.add_le_add_right (Nat.le_trans (Nat.min_le_right _ _) h) 2) (by decide)
noncomputable def rulerS : List CV→List CV→Option CV:=fun l J=>on2 (fun v0_ v1_=>asL (fun vs=>asI (fun way=>(ints? vs).bind fun r=>if 0 < r.length∧r.length≤8 then some (.list (il (rulerL r way))) else none) v1_) v0_) l
theorem ruler_all {P : List CV→CV→Prop} (H : ∀ (rs : List Int) (way : Int),0 < rs.length∧rs.length≤8→P [.list (il rs),.int way] (.list (il (rulerL rs way)))) {cvs kcvs : List CV} {r : CV} (h : rulerS cvs kcvs = some r) : P cvs r:=by
 replace h:=on2_inv h
 obtain ⟨_,_,rfl,h⟩:=h
 replace h:=asL_inv h
 obtain ⟨vs,rfl,h⟩:=h
 replace h:=asI_inv h
 obtain ⟨way,rfl,h⟩:=h
 refine bc fun hG=>?_
 revert h
 refine oR fun rs h1 h=>?_
 refine hG ?_
 clear hG
 replace h:=ite_some h
 obtain ⟨hsm,h⟩:=h
 cases h
 have:=ints_eq h1
 subst this
 exact H _ _ hsm
section
variable {prog : Program} {w : World} {hT : Heap} {mg mb : Str→Option Value}
theorem ruler_fn (T : Tops prog hT mg mb) : Fn prog w hT 0 (.ref 321) [] rulerS:=by
 refine Fn.plain (n:=2) T.tf T.r321 (by decide) ⟨rfl,by decide,rfl,rfl⟩ (fun A e X s0 P px W hA=>(Rss.cons (Rs.ifS (Rt.com W (Rf.mod (Rf.loc W (i:=1) rfl) Rf.int) Rf.int) (Rss.cons (Rs.ret (Rf.frz (Rfr.cpy W (T.list_ W (i:=3) rfl) (Rf.loc W (i:=0) rfl))) px) Rss.nil) Rss.nil) (Rss.cons (Rs.ifS (Rt.com W (Rf.mod (Rf.loc W (i:=1) rfl) Rf.int) Rf.int) (Rss.cons (Rs.ret (Rf.add (Rf.slice (Rf.loc W (i:=0) rfl) (Rf.neg Rf.int)) (Rf.lst (Rfs.cons Rf.int (Rfs.cons Rf.int Rfs.nil)))) px) Rss.nil) Rss.nil) (Rss.cons (Rs.asg W (i:=2) (.inl rfl) (Rf.callB (T.len_ W (i:=4) rfl) (Rfs.cons (Rf.loc W (i:=0) rfl) Rfs.nil) len_ok)) (Rss.cons (Rs.whl 10 (Rt.and (Rt.com W (Rf.loc W (i:=2) rfl) Rf.int) (Rt.com W (Rf.sb (Rf.loc W (i:=0) rfl) (Rf.sub (Rf.loc W (i:=2) rfl) Rf.int)) (Rf.sb (Rf.loc W (i:=0) rfl) (Rf.neg Rf.int)))) (Rss.cons (Rs.augN W (i:=2) rfl Rf.int) Rss.nil)) (Rss.cons (Rs.ret (Rf.add (Rf.slice (Rf.loc W (i:=0) rfl) (Rf.loc W (i:=2) rfl)) (Rf.lst (Rfs.cons Rf.int (Rfs.cons Rf.int Rfs.nil)))) px) Rss.nil)))))) ?_ (by decide) (by decide) ?_
 ·intro fd vals h1 h2 h3 hl
  cases fd; simp only at h1 h2 h3; subst h1 h2 h3
  exact bind2 hl fun J J=>rfl
 ·intro cvs kcvs r h
  apply ruler_all _ h
  clear h
  intro rs way hsm
  refine ⟨rfl,?_⟩
  show Ends (seqM _ (seqM _ (seqM _ (seqM _ (seqM _ _)))) [.list (il rs),.int way,.unb,.unb,.unb]) _
  obtain ⟨m1,m2⟩:=fmod_lt way (c:=3) (by decide)
  have hmod : modS (.int way) (.int 3) = some (.int (way.fmod 3)):=modS_int _ _ (by decide)
  generalize hu : way.fmod 3 = u at *
  refine .ite (decide (u = 0)) (by refine ev_bind (a:=.int u) ?_ (ev_bind (a:=.int 0) rfl (cmp_eq_int _ u 0)); exact hmod) (fun hb=>?_) (fun hb=>.nil ?_)
  ·have hb:=of_decide_eq_true hb
   have : rulerL rs way = rs:=by unfold rulerL; rw [hu,if_pos hb]
   rw [this]
   exact ret_one rfl rfl
  have hb0:=of_decide_eq_false hb
  clear hb
  refine .ite (decide (u = 1)) (by refine ev_bind (a:=.int u) ?_ (ev_bind (a:=.int 1) rfl (cmp_eq_int _ u 1)); exact hmod) (fun hb=>?_) (fun hb=>.nil ?_)
  ·have hb':=of_decide_eq_true hb
   have : rulerL rs way = rs.take (rs.length - 1) ++ [127,2]:=by unfold rulerL; rw [hu,if_neg hb0,if_pos hb']
   rw [this]
   refine ret_one (a:=.list (il (rs.take (rs.length - 1) ++ [127,2]))) ?_ rfl
   refine ev_bind (a:=.list (il (rs.take (rs.length - 1)))) (ev_bind (a:=.list (il rs)) rfl (ev_bind (a:=.int (-1)) rfl ?_)) (ev_bind (a:=.list (il [127,2])) rfl ?_)
   ·show some (CV.list (upto (-1) (il rs))) = _
    rw [upto_last,List.length_map,il,il,List.map_take]
   ·show (if (il (rs.take (rs.length - 1))).length + (il [127,2]).length≤4096 then some (CV.list (il (rs.take (rs.length - 1)) ++ il [127,2])) else none) = _
    refine (if_pos (take_sz rs _ hsm.2)).trans ?_
    rw [il,il,il,List.map_append]
  have hb':=of_decide_eq_false hb
  have hR : rulerL rs way = rs.take (sameL rs rs.length) ++ [0,1]:=by unfold rulerL; rw [hu,if_neg hb0,if_neg hb']
  rw [hR]
  refine .step (σ1:=[.list (il rs),.int way,.int rs.length,.unb,.unb]) (ev_asg (cv:=.int rs.length) ?_ rfl) ?_
  ·show some (CV.int ((il rs).length : Int)) = _
   rw [List.length_map]
  refine .seq (R:=fun σ=>σ = [.list (il rs),.int way,.int (sameL rs rs.length),.unb,.unb]) ?_ ?_
  ·refine whileM_goes (fun n σ=>n≤rs.length∧0 < n∧σ = [.list (il rs),.int way,.int n,.unb,.unb]∧sameL rs n = sameL rs rs.length) _ ?_ 10 rs.length _ ⟨Nat.le_refl _,hsm.1,rfl,rfl⟩ (Nat.lt_of_le_of_lt hsm.2 (by decide))
   rintro n σ qq2
   refine bc fun hG=>?_
   obtain ⟨q1,q2,rfl,q3⟩:=qq2
   refine hG ?_
   clear hG
   obtain ⟨n,rfl⟩ : ∃ m,n = m + 1:=⟨n - 1,by exact (Nat.sub_eq_iff_eq_add q2).mp rfl⟩
   refine ⟨decide (1 < n + 1∧rs.getD (n - 1) 0 = rs.getD (rs.length - 1) 0),?_,fun hb=>?_,fun hb=>?_⟩
   ·by_cases h1 : 1 < n + 1
    ·refine ev_bind (a:=true) ?_ ?_
     ·show some (decide ((1 : Int) < ((n + 1 : Nat) : Int))) = _
      rw [decide_eq_true (by exact (Int.toNat_lt' q2).mp h1)]
     ·refine ev_bind (a:=.int (rs.getD (n - 1) 0)) (ev_bind (a:=.list (il rs)) rfl (ev_bind (a:=.int ((n - 1 : Nat) : Int)) ?_ ?_)) (ev_bind (a:=.int (rs.getD (rs.length - 1) 0)) (ev_bind (a:=.list (il rs)) rfl (ev_bind (a:=.int (-1)) rfl ?_)) ?_)
      ·show some (CV.int (((n + 1 : Nat) : Int) - 2)) = _
       rw [Int.ofNat_sub (Nat.le_of_lt_succ h1),Int.natCast_succ,Int.add_sub_assoc]; rfl
      ·show at? (il rs) ((n - 1 : Nat) : Int) = _
       rw [at_nat,il_get (by exact Nat.sub_lt_of_lt q1)]
      ·exact at_last hsm.1
      ·refine (cmp_eq_int _ _ _).trans ?_
       congr 1
       simp [h1]
    ·refine ev_bind (a:=false) ?_ ?_
     ·show some (decide ((1 : Int) < ((n + 1 : Nat) : Int))) = _
      exact congrArg some (decide_eq_false (fun q=>h1 (Int.ofNat_lt.mp q)))
     ·rw [decide_eq_false (fun q=>h1 q.1)]; rfl
   ·have hb:=of_decide_eq_true hb
    refine ⟨n,[.list (il rs),.int way,.int n,.unb,.unb],Nat.lt_add_one n,?_,Nat.le_of_succ_le q1,Nat.le_of_lt_succ hb.1,rfl,?_⟩
    ·show seqM (augNM 2 _ _) _ _ = _
     unfold seqM
     rw [ev_augN (v:=.int 1) (r:=.int ((n + 1 : Nat) - 1 : Int)) (σ':=[.list (il rs),.int way,.int ((n + 1 : Nat) - 1 : Int),.unb,.unb]) rfl rfl rfl]
     show some (CF.next,_) = _
     rw [show (((n + 1 : Nat) : Int) - 1) = (n : Int) by exact Int.sub_eq_iff_eq_add.mpr rfl]
    ·rw [← q3]
     show _ = (if _ then _ else _)
     rw [if_pos hb]
   ·have hb:=of_decide_eq_false hb
    rw [← q3]
    show _ = [_,_,CV.int ((if _ then _ else _ : Nat) : Int),_,_]
    rw [if_neg hb]
  rintro _ rfl
  ·refine .retM (a:=.list (il (rs.take (sameL rs rs.length) ++ [0,1]))) ?_ rfl
   have hle:=sameL_le rs rs.length
   refine ev_bind (a:=.list (il (rs.take (sameL rs rs.length)))) (ev_bind (a:=.list (il rs)) rfl (ev_bind (a:=.int (sameL rs rs.length : Nat)) rfl ?_)) (ev_bind (a:=.list (il [0,1])) rfl ?_)
   ·show some (CV.list (upto (sameL rs rs.length : Nat) (il rs))) = _
    rw [upto_nat,il,il,List.map_take]
   ·show (if (il (rs.take (sameL rs rs.length))).length + (il [0,1]).length≤4096 then some (CV.list (il (rs.take (sameL rs rs.length)) ++ il [0,1])) else none) = _
    refine (if_pos (take_sz rs _ hsm.2)).trans ?_
    rw [il,il,il,List.map_append]
end
noncomputable def presums (rs : List Int) : List Int:=(List.range rs.length).map fun i=>(rs.take (i + 1)).sum
noncomputable def sumsL (rs : List Int) (way : Int) : List Int:=if way.fmod 3 = 1 then (presums rs).take (rs.length - 1) else presums rs
theorem ev_comp {o : Option (List CV × List CV)} {l : List CV} {r : CV} {R : List CV→Prop} (h : ∃ σ',o = some (σ',l)∧R σ') (h2 : CV.list l = r) : (o.map fun p=>CV.list p.2) = some r:=by
 obtain ⟨σ',e,_⟩:=h; rw [e,← h2]; rfl
theorem srcV_from1 (n : Nat) (h : n≤1000) : srcV (.rng 1 (n + 1 : Nat) 1) = some ((List.range n).map fun i : Nat=>CV.int (1 + (i : Int) * 1)):=by
 have q:=srcV_up 1 n (Nat.le_trans (Nat.add_le_add_left h 1) (by decide))
 rw [Nat.add_comm] at q
 exact q
theorem one_nat (i : Nat) : (1 : Int) + (i : Int) * 1 = ((i + 1 : Nat) : Int):=by rw [Int.mul_one,Int.add_comm]; rfl
noncomputable def sumsS : List CV→List CV→Option CV:=fun l J=>on2 (fun v0_ v1_=>asL (fun vs=>asI (fun way=>(ints? vs).bind fun r=>if 0 < r.length∧r.length≤8 then some (.list (il (sumsL r way))) else none) v1_) v0_) l
theorem sums_all {P : List CV→CV→Prop} (H : ∀ (rs : List Int) (way : Int),0 < rs.length∧rs.length≤8→P [.list (il rs),.int way] (.list (il (sumsL rs way)))) {cvs kcvs : List CV} {r : CV} (h : sumsS cvs kcvs = some r) : P cvs r:=by
 replace h:=on2_inv h
 obtain ⟨_,_,rfl,h⟩:=h
 replace h:=asL_inv h
 obtain ⟨vs,rfl,h⟩:=h
 replace h:=asI_inv h
 obtain ⟨way,rfl,h⟩:=h
 refine bc fun hG=>?_
 revert h
 refine oR fun rs h1 h=>?_
 refine hG ?_
 clear hG
 replace h:=ite_some h
 obtain ⟨hsm,h⟩:=h
 cases h
 have:=ints_eq h1
 subst this
 exact H _ _ hsm
section
variable {prog : Program} {w : World} {hT : Heap} {mg mb : Str→Option Value}
theorem sums_fn (T : Tops prog hT mg mb) : Fn prog w hT 0 (.ref 333) [] sumsS:=by
 refine Fn.plain (n:=2) T.tf T.r333 (by decide) ⟨rfl,by decide,rfl,rfl⟩ (fun A e X s0 P px W hA=>(Rss.cons (Rs.asgC W (k:=2) (srcC_ok (src:=[none,none,none,some 0]) rfl) rfl (compTurn_1 _ _ _ _ _ _) (Rf.callT (T.range_ W (i:=3) rfl) (Rfs.cons Rf.int (Rfs.cons (Rf.add (Rf.callB (T.len_ W (i:=4) rfl) (Rfs.cons (Rf.cel W (i:=0) rfl) Rfs.nil) len_ok) Rf.int) Rfs.nil)) range_ok) (fun e1 Y1 s1 P1 W1=>(Ct.nm W1 (i:=1) rfl)) (fun e1 Y1 s1 P1 W1=>Ci.nil) (fun e1 Y1 s1 P1 W1=>Ac.emit rfl fun X1=>(Rf.callB (T.sum_ (W1.x X1) (i:=2) rfl) (Rfs.cons (Rf.slice (Rf.cel (W1.x X1) (i:=3) rfl) (Rf.loc (W1.x X1) (i:=1) rfl)) Rfs.nil) (sum_ok (W1.x X1)))) rfl) (Rss.cons (Rs.ret (Rf.ite (Rt.com W (Rf.mod (Rf.loc W (i:=1) rfl) Rf.int) Rf.int) (Rf.slice (Rf.loc W (i:=2) rfl) (Rf.neg Rf.int)) (Rf.loc W (i:=2) rfl)) px) Rss.nil))) ?_ (by decide) (by decide) ?_
 ·intro fd vals h1 h2 h3 hl
  cases fd; simp only at h1 h2 h3; subst h1 h2 h3
  exact bind2 hl fun J J=>rfl
 ·intro cvs kcvs r h
  apply sums_all _ h
  clear h
  intro rs way hsm
  refine ⟨rfl,?_⟩
  show Ends (seqM _ (seqM _ _) [.list (il rs),.int way,.unb,.unb,.unb]) _
  refine .step (σ1:=[.list (il rs),.int way,.list (il (presums rs)),.unb,.unb]) (ev_asg (cv:=.list (il (presums rs))) ?_ rfl) ?_
  ·refine ev_bind (a:=.rng 1 (rs.length + 1 : Nat) 1) ?_ (ev_bind (a:=(List.range rs.length).map fun i : Nat=>CV.int (1 + (i : Int) * 1)) ?_ ?_)
   ·show some (CV.rng 1 (((il rs).length : Int) + 1) 1) = _
    rw [List.length_map]; rfl
   ·exact srcV_from1 rs.length (Nat.le_trans hsm.2 (by decide))
   ·refine ev_comp (compM_rel (R:=fun σ=>∃ kv,isM kv = false∧σ = [.unb,kv,.unb,.list (il rs)]) (fun J=>true) (fun x=>match x with | .int k=>.int (rs.take k.toNat).sum | _=>.none) _ _ [] ?_ ⟨.unb,rfl,rfl⟩ (by rw [List.length_nil,Nat.zero_add,List.length_map,List.length_range]; exact Nat.le_trans hsm.2 (by decide))) ?_
    ·rintro σ x hx ⟨kv,hkv,rfl⟩
     obtain ⟨i,hi,rfl⟩:=List.mem_map.mp hx
     refine ⟨_,stF_ok rfl (by exact Nat.one_lt_succ_succ [CV.unb,CV.list (il rs)].length) hkv,rfl,⟨_,rfl,rfl⟩,fun J=>⟨?_,rfl⟩⟩
     refine ev_bind (a:=[.list (il (rs.take (i + 1)))]) (ev_bind (a:=.list (il (rs.take (i + 1)))) (ev_bind (a:=.list (il rs)) rfl (ev_bind (a:=.int (1 + (i : Int) * 1)) rfl ?_)) rfl) ?_
     ·show some (CV.list (upto (1 + (i : Int) * 1) (il rs))) = _
      rw [one_nat,upto_nat,il,il,List.map_take]
     ·show (ints? (il (rs.take (i + 1)))).map _ = _
      rw [ints_il]
      show some (CV.int (rs.take (i + 1)).sum) = some (CV.int (rs.take ((1 : Int) + (i : Int) * 1).toNat).sum)
      rw [one_nat]; rfl
    ·rw [List.nil_append,List.filter_eq_self.mpr (by exact fun a a_1=>bi_tt.mpr trivial),List.map_map,presums,il,List.map_map]
     congr 1
     refine List.map_congr_left fun i J=>?_
     show CV.int (rs.take ((1 : Int) + (i : Int) * 1).toNat).sum = CV.int (rs.take (i + 1)).sum
     rw [one_nat]; rfl
  ·have hmod : modS (.int way) (.int 3) = some (.int (way.fmod 3)):=modS_int _ _ (by decide)
   refine .retM (a:=.list (il (sumsL rs way))) (ev_bind (a:=decide (way.fmod 3 = 1)) (by refine ev_bind (a:=.int (way.fmod 3)) ?_ (ev_bind (a:=.int 1) rfl (cmp_eq_int _ _ 1)); exact hmod) ?_) rfl
   by_cases hw : way.fmod 3 = 1
   ·rw [decide_eq_true hw,show sumsL rs way = (presums rs).take (rs.length - 1) from if_pos hw]
    refine (if_pos rfl).trans (ev_bind (a:=.list (il (presums rs))) rfl (ev_bind (a:=.int (-1)) rfl ?_))
    show some (CV.list (upto (-1) (il (presums rs)))) = _
    rw [upto_last,List.length_map,il,il,List.map_take,show (presums rs).length = rs.length by rw [presums,List.length_map,List.length_range]]
   ·rw [decide_eq_false hw,show sumsL rs way = presums rs from if_neg hw]; rfl
end
theorem forM_ret (R : Nat→List CV→Prop) (ok : Nat→Bool) (v : CV) {i : Nat} {mb : CM} (xs : List CV)
  (h : ∀ k x σ,xs[k]? = some x→R k σ→∃ σ1,stF i x σ = some σ1∧(ok k = true→Goes (mb σ1) (R (k + 1)))∧(ok k = false→∃ σ2,mb σ1 = some (.ret v,σ2))) : ∀ (n k : Nat) (σ : List CV),xs.length = k + n→R k σ →
   (((∀ j,k≤j→j < xs.length→ok j = true)→Goes (forM i mb (xs.drop k) σ) (R xs.length))∧((∃ j,k≤j∧j < xs.length∧ok j = false)→∃ σ',forM i mb (xs.drop k) σ = some (.ret v,σ'))):=by
 intro n
 induction n with
 | zero =>
  intro k σ hk hr
  exact ⟨fun J=>⟨σ,by rw [List.drop_eq_nil_of_le (by exact Nat.le_of_eq hk)]; rfl,by rw [hk]; exact hr⟩,fun ⟨j,h1,h2,_⟩=>by lia⟩
 | succ n forM_ret =>
  intro k σ hk hr
  have hlt : k < xs.length:=by lia
  refine bc fun hG=>?_
  obtain ⟨σ1,q1,q2,q3⟩:=h k xs[k] σ (List.getElem?_eq_getElem hlt) hr
  refine hG ?_
  clear hG
  have hd : forM i mb (xs.drop k) σ = (mb σ1).bind fun p=>match p.1 with
    | .next=>forM i mb (xs.drop (k + 1)) p.2
    | .brk=>some (.next,p.2)
    | .ret v=>some (.ret v,p.2):=by
   rw [List.drop_eq_getElem_cons hlt]
   show (stF i _ σ).bind (loopM mb (forM i mb (xs.drop (k + 1)))) = _
   rw [q1]; rfl
  rw [hd]
  cases hok : ok k with
  | true =>
   obtain ⟨σ2,e,hr2⟩:=q2 hok
   rw [e]
   obtain ⟨g1,g2⟩:=forM_ret (k + 1) σ2 (by lia) hr2
   refine ⟨fun ha=>g1 fun j hj=>ha j (by exact Nat.le_of_succ_le hj),fun ⟨j,h1,h2,h3⟩=>g2 ⟨j,?_,h2,h3⟩⟩
   rcases Nat.lt_or_ge k j with q | q
   ·exact q
   ·have : j = k:=by exact Nat.le_antisymm q h1
    rw [this,hok] at h3; cases h3
  | false =>
   refine bc fun hG=>?_
   obtain ⟨σ2,e⟩:=q3 hok
   refine hG ?_
   clear hG
   rw [e]
   exact ⟨fun ha=>absurd (ha k (Nat.le_refl _) hlt) (by rw [hok]; decide),fun J=>⟨σ2,rfl⟩⟩
theorem ev_compR {mit : List CV→Option CV} {src : List (Option Nat)} {mt : CV→List CV→Option (List CV)} {mi : List CV→Option Bool} {me : List CV→Option CV} {σ : List CV} {v : CV} {xs : List CV} (h1 : mit σ = some v) (h2 : srcσ σ v = some xs)
  (R : List CV→Prop) (p : CV→Bool) (g : CV→CV) (h : ∀ σ x,x∈xs→R σ→∃ σ1,mt x σ = some σ1∧mi σ1 = some (p x)∧R σ1∧(p x = true→me σ1 = some (g x)∧noM (g x) = true)) (hR : R (capt src σ)) (hl : xs.length≤4096) :
  compV mit src mt mi (emitM me) σ = some (.list ((xs.filter p).map g)):=by
 unfold compV
 rw [h1]; show (srcσ σ v).bind _ = _
 rw [h2]
 exact ev_comp (compM_rel R p g xs _ [] h hR (by simpa using hl)) (by simp)
mutual
theorem eqv_refl : ∀ (c : CV) (d : PyData),toPy c = some d→PyData.eqv d d = true
 | .none,d,h=>by cases h; rfl
 | .bool b,d,h=>by cases h; cases b <;> rfl
 | .int i,d,h=>by cases h; show (i == i) = true; simp
 | .str x,d,h=>by cases h; show (x == x) = true; simp
 | .list vs,d,h=>by obtain ⟨ds,h1,h2⟩:=oM h; subst h2; exact eqvAll_refl vs ds h1
 | .tup vs,d,h=>by obtain ⟨ds,h1,h2⟩:=oM h; subst h2; exact eqvAll_refl vs ds h1
theorem eqvAll_refl : ∀ (cs : List CV) (ds : List PyData),toPys cs = some ds→PyData.eqvAll ds ds = true
 | [],ds,h=>by cases h; rfl
 | c::cs,ds,h=>by
  refine oE h fun d h1 h2=>?_
  refine mE h2 fun ds' h3 h4=>?_
  subst h4
  show (PyData.eqv d d && PyData.eqvAll ds' ds') = true
  rw [eqv_refl c d h1,eqvAll_refl cs ds' h3]; rfl
end
theorem eqS_refl {c : CV} {d : PyData} (h : toPy c = some d) (h2 : SeqAt.shaped d = true) : eqS c c = some true:=by
 unfold eqS
 rw [h]
 show (if (SeqAt.shaped d && SeqAt.shaped d) = true then some (PyData.eqv d d) else none) = _
 rw [h2,eqv_refl c d h]; rfl
theorem toPys_il : ∀ l : List Int,toPys (il l) = some (l.map .int)
 | []=>rfl
 | a::l=>by show (some (PyData.int a)).bind (fun d=>(toPys (il l)).map (d::·)) = _; rw [toPys_il l]; rfl
theorem toPys_sl : ∀ l : List Str,toPys (sl l) = some (l.map .str)
 | []=>rfl
 | a::l=>by show (some (PyData.str a)).bind (fun d=>(toPys (sl l)).map (d::·)) = _; rw [toPys_sl l]; rfl
theorem lay_il : ∀ l : List Int,PyData.canLayAll0 (l.map .int) = true∧PyData.depthAll (l.map .int) = 0
 | []=>⟨rfl,rfl⟩
 | a::l=>⟨by show (true && PyData.canLayAll0 (l.map .int)) = true; rw [(lay_il l).1]; rfl,by show max 0 (PyData.depthAll (l.map .int)) = 0; rw [(lay_il l).2]; rfl⟩
theorem lay_sl : ∀ l : List Str,(∀ x∈l,PyData.strOk x = true)→PyData.canLayAll0 (l.map .str) = true∧PyData.depthAll (l.map .str) = 0
 | [],_=>⟨rfl,rfl⟩
 | a::l,h=>⟨by show (PyData.strOk a && PyData.canLayAll0 (l.map .str)) = true; rw [(lay_sl l fun x hx=>h x (List.mem_cons_of_mem _ hx)).1,h a List.mem_cons_self]; rfl,by show max 0 (PyData.depthAll (l.map .str)) = 0; rw [(lay_sl l fun x hx=>h x (List.mem_cons_of_mem _ hx)).2]; rfl⟩
theorem shaped_il (l : List Int) : SeqAt.shaped (.list (l.map .int)) = true:=by
 show (PyData.canLayAll0 _ && decide (PyData.depthAll _ + 1≤64)) = true
 rw [(lay_il l).1,(lay_il l).2]; rfl
theorem shaped_sl (l : List Str) (h : ∀ x∈l,PyData.strOk x = true) : SeqAt.shaped (.list (l.map .str)) = true:=by
 show (PyData.canLayAll0 _ && decide (PyData.depthAll _ + 1≤64)) = true
 rw [(lay_sl l h).1,(lay_sl l h).2]; rfl
theorem eqv_il : ∀ (a b : List Int),PyData.eqvAll (a.map .int) (b.map .int) = decide (a = b)
 | [],[]=>rfl
 | [],b::bs=>rfl
 | a::as,[]=>rfl
 | a::as,b::bs=>by
  show ((a == b) && PyData.eqvAll (as.map .int) (bs.map .int)) = _
  rw [eqv_il as bs]
  by_cases h1 : a = b <;> by_cases h2 : as = bs <;> simp [h1,h2]
theorem eqv_sl : ∀ (a b : List Str),PyData.eqvAll (a.map .str) (b.map .str) = decide (a = b)
 | [],[]=>rfl
 | [],b::bs=>rfl
 | a::as,[]=>rfl
 | a::as,b::bs=>by
  show ((a == b) && PyData.eqvAll (as.map .str) (bs.map .str)) = _
  rw [eqv_sl as bs]
  by_cases h1 : a = b <;> by_cases h2 : as = bs <;> simp [h1,h2]
theorem eqS_il (a b : List Int) : eqS (.list (il a)) (.list (il b)) = some (decide (a = b)):=by
 unfold eqS
 show ((toPys (il a)).map PyData.list).bind (fun x=>((toPys (il b)).map PyData.list).bind _) = _
 rw [toPys_il,toPys_il]
 show (if (SeqAt.shaped (.list (a.map .int)) && SeqAt.shaped (.list (b.map .int))) = true then some (PyData.eqvAll (a.map .int) (b.map .int)) else none) = _
 rw [shaped_il,shaped_il,eqv_il]; rfl
theorem eqS_sl (a b : List Str) (ha : ∀ x∈a,PyData.strOk x = true) (hb : ∀ x∈b,PyData.strOk x = true) : eqS (.list (sl a)) (.list (sl b)) = some (decide (a = b)):=by
 unfold eqS
 show ((toPys (sl a)).map PyData.list).bind (fun x=>((toPys (sl b)).map PyData.list).bind _) = _
 rw [toPys_sl,toPys_sl]
 show (if (SeqAt.shaped (.list (a.map .str)) && SeqAt.shaped (.list (b.map .str))) = true then some (PyData.eqvAll (a.map .str) (b.map .str)) else none) = _
 rw [shaped_sl a ha,shaped_sl b hb,eqv_sl]; rfl
theorem ne_il (σ : List CV) (a b : List Int) : cmpS .NotEq σ (.list (il a)) (.list (il b)) = some (!decide (a = b)):=by show (eqS _ _).map _ = _; rw [eqS_il]; rfl
theorem upto_il (l : List Int) (k : Nat) : upto (k : Int) (il l) = il (l.take k):=by rw [upto_nat,il,il,List.map_take]
theorem upto_sl (l : List Str) (k : Nat) : upto (k : Int) (sl l) = sl (l.take k):=by rw [upto_nat,sl,sl,List.map_take]
theorem filter_rl (n : Nat) (p : CV→Bool) : (rl n).filter p = il (((List.range n).filter fun i : Nat=>p (.int (i : Int))).map fun i : Nat=>(i : Int)):=by
 rw [rl,List.filter_map,il,List.map_map]; rfl
noncomputable def Gr (o : Option (CF × List CV)) (b : Bool) (v : CV) (R : List CV→Prop) : Prop:=(b = true→Goes o R)∧(b = false→∃ σ2,o = some (.ret v,σ2))
theorem Gr.step {m1 m2 : CM} {σ σ1 : List CV} {R : List CV→Prop} {b : Bool} {v : CV} (h1 : m1 σ = some (.next,σ1)) (h2 : Gr (m2 σ1) b v R) : Gr (seqM m1 m2 σ) b v R:=by
 unfold seqM; rw [h1]; exact h2
theorem Gr.seq {m1 m2 : CM} {σ : List CV} {R R1 : List CV→Prop} {b : Bool} {v : CV} (h1 : Goes (m1 σ) R1) (h2 : ∀ σ1,R1 σ1→Gr (m2 σ1) b v R) : Gr (seqM m1 m2 σ) b v R:=by
 obtain ⟨σ1,e,h⟩:=h1
 unfold seqM; rw [e]; exact h2 σ1 h
theorem Gr.nil {σ : List CV} {R : List CV→Prop} {v : CV} (h : R σ) : Gr (some (.next,σ)) true v R:=⟨fun J=>.nil h,fun h=>nomatch h⟩
theorem Gr.ite {mt : List CV→Option Bool} {m1 m2 m3 : CM} {σ : List CV} {R : List CV→Prop} {b : Bool} {v : CV} (t : Bool) (h : mt σ = some t) (h1 : t = true→b = false∧∃ σ',m1 σ = some (.ret v,σ')) (h2 : t = false→Goes (m2 σ) fun σ'=>Gr (m3 σ') b v R) : Gr (seqM (ifM mt m1 m2) m3 σ) b v R:=by
 unfold seqM ifM
 rw [h]
 cases t with
 | true =>
  obtain ⟨hb,σ',e⟩:=h1 rfl
  subst hb
  refine ⟨(fun h=>nomatch h),fun J=>⟨σ',?_⟩⟩
  show (m1 σ).bind _ = _
  rw [e]; rfl
 | false =>
  obtain ⟨σ',e,h3⟩:=h2 rfl
  show Gr ((m2 σ).bind _) b v R
  rw [e]; exact h3
theorem Gr.forM (R : Nat→List CV→Prop) (ok : Nat→Bool) (v : CV) {i : Nat} {mb : CM} (xs : List CV) (σ : List CV)
  (h : ∀ k x σ,xs[k]? = some x→R k σ→∃ σ1,stF i x σ = some σ1∧Gr (mb σ1) (ok k) v (R (k + 1))) (h0 : R 0 σ) : Gr (forM i mb xs σ) ((List.range xs.length).all ok) v (R xs.length):=by
 obtain ⟨h1,h2⟩:=forM_ret R ok v xs h xs.length 0 σ (by exact Eq.symm (Nat.zero_add xs.length)) h0
 refine ⟨fun hb=>h1 fun j J hj=>List.all_eq_true.mp hb j (List.mem_range.mpr hj),fun hb=>h2 ?_⟩
 rw [List.all_eq_false] at hb
 obtain ⟨j,q1,q2⟩:=hb
 exact ⟨j,Nat.zero_le _,List.mem_range.mp q1,by exact eq_false_of_ne_true q2⟩
theorem Gr.for {mi : List CV→Option CV} {i : Nat} {mb : CM} {σ : List CV} {v rv : CV} {xs : List CV} {b : Bool} {R : List CV→Prop} (h1 : mi σ = some v) (h2 : srcV v = some xs) (h3 : Gr (Mine.forM i mb xs σ) b rv R) : Gr (forS i mi mb σ) b rv R:=by
 unfold forS
 rw [h1]; show Gr ((srcV v).bind _) b rv R; rw [h2]; exact h3
theorem Ends.gr {m1 m2 : CM} {σ : List CV} {r v : CV} {b : Bool} {R : List CV→Prop} (h1 : Gr (m1 σ) b v R) (h2 : b = true→∀ σ1,R σ1→Ends (m2 σ1) r) (h3 : b = false→v = r) : Ends (seqM m1 m2 σ) r:=by
 cases b with
 | true=>exact .seq (h1.1 rfl) (h2 rfl)
 | false =>
  obtain ⟨σ',e⟩:=h1.2 rfl
  have:=h3 rfl
  subst this
  exact .ret e
theorem Gr.gr {m1 m2 : CM} {σ : List CV} {v : CV} {b1 b2 : Bool} {R R1 : List CV→Prop} (h1 : Gr (m1 σ) b1 v R1) (h2 : ∀ σ1,R1 σ1→Gr (m2 σ1) b2 v R) : Gr (seqM m1 m2 σ) (b1 && b2) v R:=by
 cases b1 with
 | true =>
  obtain ⟨σ1,e,h⟩:=h1.1 rfl
  exact .step e (h2 _ h)
 | false =>
  obtain ⟨σ',e⟩:=h1.2 rfl
  refine ⟨(fun h=>nomatch h),fun J=>⟨σ',?_⟩⟩
  unfold seqM; rw [e]; rfl
theorem Gr.mono {o : Option (CF × List CV)} {b b' : Bool} {v : CV} {R R' : List CV→Prop} (h : Gr o b v R) (hb : b = b') (hr : ∀ σ,R σ→R' σ) : Gr o b' v R':=by
 subst hb
 exact ⟨fun q=>(h.1 q).mono hr,h.2⟩
theorem ev_fro {β : Type} {o : Option CV} {f : CV→Option β} {a : CV} {r : Option β} (h : o = some a) (hn : noM a = true) (h2 : f a = r) : (o.bind fun v=>if noM v = true then f v else none) = r:=by
 subst h
 show (if noM a = true then f a else none) = r
 rw [if_pos hn]; exact h2
theorem ev_tup2 {mg : List CV→Option (List CV)} {a b : CV} {σ : List CV} {i j : Nat} {N : Nat} (h : mg σ = some [a,b]) (hN : σ.length≤N) (ha : noM a = true∨isM a = true) (hb : noM b = true∨isM b = true) (hi : i < σ.length) (hj : j < σ.length) (hij : i ≠ j) (hm : isM (σ.getD i .unb) = false) (hm2 : isM (σ.getD j .unb) = false) :
  tupM N 2 [i,j] mg σ = some (.next,(σ.set i a).set j b):=by
 refine ev_tup (is:=[]) h hN rfl (by decide) ?_
 show (stA i a σ).bind (fun σ=>(stA j b σ).bind _) = _
 rw [stA_ok ha hi hm]
 show (stA j b (σ.set i a)).bind _ = _
 rw [stA_ok hb (by simpa using hj) (by rw [List.getD_eq_getElem?_getD,List.getElem?_set_ne hij,← List.getD_eq_getElem?_getD]; exact hm2)]
 rfl
noncomputable def frontOk (row other : List Int) (c : Nat) : Bool:=(List.range c).all fun k=>!decide ((sortI (other.take c)).getD k 0 < (sortI (row.take c)).getD k 0)
noncomputable def afL (row other : List Int) : Bool:=(List.range 5).all fun c=>frontOk row other (c + 1)
noncomputable def afS : List CV→List CV→Option CV:=fun l J=>on2 (fun v0_ v1_=>asL (fun vs=>asL (fun us=>(ints? vs).bind fun r=>(ints? us).bind fun o=>if r.length = 6∧o.length = 6 then some (.bool (afL r o)) else none) v1_) v0_) l
theorem sortI_len (l : List Int) : (sortI l).length = l.length:=by simp [sortI]
theorem af_all {P : List CV→CV→Prop} (H : ∀ (rs os : List Int),rs.length = 6∧os.length = 6→P [.list (il rs),.list (il os)] (.bool (afL rs os))) {cvs kcvs : List CV} {r : CV} (h : afS cvs kcvs = some r) : P cvs r:=by
 replace h:=on2_inv h
 obtain ⟨_,_,rfl,h⟩:=h
 replace h:=asL_inv h
 obtain ⟨vs,rfl,h⟩:=h
 replace h:=asL_inv h
 obtain ⟨us,rfl,h⟩:=h
 refine bc fun hG=>?_
 revert h
 refine oR fun rs h1 h=>?_
 revert h
 refine oR fun os h2 h=>?_
 refine hG ?_
 clear hG
 replace h:=ite_some h
 obtain ⟨hsm,h⟩:=h
 cases h
 have:=ints_eq h1
 subst this
 have:=ints_eq h2
 subst this
 exact H _ _ hsm
section
variable {prog : Program} {w : World} {hT : Heap} {mg mb : Str→Option Value}
theorem sortF_il (σ : List CV) (l : List Int) (h : l.length < 64) : sortF σ [.list (il l)] = some (.list (il (sortI l))):=by
 show (if (il l).length < 64 then _ else _) = _
 rw [if_pos (by rw [List.length_map]; exact h)]
 rw [ints_il]
theorem af_fn (T : Tops prog hT mg mb) : Fn prog w hT 0 (.ref 343) [] afS:=by
 refine Fn.plain (n:=2) T.tf T.r343 (by decide) ⟨rfl,by decide,rfl,rfl⟩ (fun A e X s0 P px W hA=>(Rss.cons (Rs.for_ W (i:=2) (.inl rfl) (Rf.callT (T.range_ W (i:=5) rfl) (Rfs.cons Rf.int (Rfs.cons Rf.int Rfs.nil)) range_ok) px fun Z1 p1=>(Rss.cons (Rs.tupIn 7 (W.x Z1) rfl (is:=[3,4]) (ys:=["low","high"]) (Rg.fro (Rf.callB (T.sorted_ (W.x Z1) (i:=6) rfl) (Rfs.cons (Rf.slice (Rf.loc (W.x Z1) (i:=0) rfl) (Rf.loc (W.x Z1) (i:=2) rfl)) Rfs.nil) sort_ok) (Rg.fro (Rf.callB (T.sorted_ (W.x Z1) (i:=6) rfl) (Rfs.cons (Rf.slice (Rf.loc (W.x Z1) (i:=1) rfl) (Rf.loc (W.x Z1) (i:=2) rfl)) Rfs.nil) sort_ok) Rg.nil)) rfl (at2 (.inr ⟨rfl,rfl⟩) (.inr ⟨rfl,rfl⟩)) rfl rfl) (Rss.cons (Rs.ifS (Rt.com (W.x Z1) (Rf.comp (W.x Z1) (srcC_ok (src:=[none,none,some 4,some 3]) rfl) (compTurn_1 _ _ _ _ _ _) (Rf.callT (T.range_ (W.x Z1) (i:=5) rfl) (Rfs.cons (Rf.loc (W.x Z1) (i:=2) rfl) Rfs.nil) range_ok) (fun e2 Y2 s2 P2 W2=>(Ct.nm W2 (i:=1) rfl)) (fun e2 Y2 s2 P2 W2=>(Ci.one (Rt.com W2 (Rf.sb (Rf.cel W2 (i:=3) rfl) (Rf.loc W2 (i:=1) rfl)) (Rf.sb (Rf.cel W2 (i:=2) rfl) (Rf.loc W2 (i:=1) rfl))))) (fun e2 Y2 s2 P2 W2=>Ac.emit rfl fun X2=>(Rf.loc (W2.x X2) (i:=1) rfl))) (Rf.lst Rfs.nil)) (Rss.cons (Rs.ret Rf.bool p1) Rss.nil) Rss.nil) Rss.nil))) (Rss.cons (Rs.ret Rf.bool px) Rss.nil))) ?_ (by decide) (by decide) ?_
 ·intro fd vals h1 h2 h3 hl
  cases fd; simp only at h1 h2 h3; subst h1 h2 h3
  exact bind2 hl fun J J=>rfl
 ·intro cvs kcvs r h
  apply af_all _ h
  clear h
  intro rs os hsm
  refine ⟨rfl,?_⟩
  show Ends (seqM _ (seqM _ _) [.list (il rs),.list (il os),.unb,.unb,.unb,.unb,.unb]) _
  refine .gr (v:=.bool false) (b:=afL rs os) (R:=fun J=>True) (.for (v:=.rng 1 6 1) (xs:=(List.range 5).map fun i : Nat=>CV.int (1 + (i : Int) * 1)) rfl rfl ?_) (fun hb J J=>by rw [hb]; exact .retM (a:=.bool true) rfl rfl) (fun hb=>by rw [hb])
  refine Gr.mono (Gr.forM (fun k σ=>∃ b c d,isM b = false∧isM c = false∧isM d = false∧σ = [.list (il rs),.list (il os),b,c,d,.unb,.unb]) (fun k=>frontOk rs os (k + 1)) _ _ _ ?_ ⟨_,_,_,rfl,rfl,rfl,rfl⟩) rfl (fun J J=>trivial)
  rintro k x σ hx qq4
  refine bc fun hG=>?_
  obtain ⟨b,c,d,hb,hc,hd,rfl⟩:=qq4
  refine hG ?_
  clear hG
  have hk : k < 5:=by have:=(gL hx); simpa using this
  have hx' : x = .int ((k + 1 : Nat) : Int):=by
   rw [List.getElem?_map,List.getElem?_range hk] at hx
   cases hx
   show CV.int (1 + (k : Int) * 1) = _
   congr 1; lia
  subst hx'
  refine ⟨_,stF_ok rfl (by exact place_lt rfl) hb,?_⟩
  show Gr _ (frontOk rs os (k + 1)) _ _
  generalize hc' : k + 1 = n at *
  have e1 : ∀ (l : List Int) σ,l.length = 6→sortF σ [.list (upto (n : Int) (il l))] = some (.list (il (sortI (l.take n)))):=by
   intro l σ hl
   rw [upto_il,sortF_il σ (l.take n) (by simp; lia)]
  refine .step (ev_tup2 (a:=.list (il (sortI (rs.take n)))) (b:=.list (il (sortI (os.take n)))) ?_ (by exact List.getElem?_eq_none_iff.mp rfl) (.inl rfl) (.inl rfl) (by exact place_lt rfl) (by exact place_lt rfl) (by decide) hc hd) ?_
  ·show ((sortF [] [.list (upto (n : Int) (il rs))]).bind fun v=>if noM v = true then Option.map (fun x=>v::x) ((sortF [] [.list (upto (n : Int) (il os))]).bind fun v=>if noM v = true then Option.map (fun x=>v::x) (some []) else none) else none) = _
   rw [e1 _ _ hsm.1,e1 _ _ hsm.2]
   rfl
  ·generalize hlo : sortI (rs.take n) = lo
   generalize hhi : sortI (os.take n) = hi
   have hll : lo.length = n:=by rw [← hlo,sortI_len]; simp; lia
   have hhl : hi.length = n:=by rw [← hhi,sortI_len]; simp; lia
   have hfo : frontOk rs os n = !((List.range n).any fun k=>decide (hi.getD k 0 < lo.getD k 0)):=by
    unfold frontOk
    rw [hlo,hhi,List.not_any_eq_all_not]
   have hcomp : ∀ σ : List CV,σ = [.list (il rs),.list (il os),.int n,.list (il lo),.list (il hi),.unb,.unb]→compV (fun σ=>((nm 2 σ).bind fun v=>Option.map (fun x=>v::x) (some [])).bind (rangeF σ)) [none,none,some 4,some 3] (stF 1)
      (fun σ=>((nm 3 σ).bind fun a=>(nm 1 σ).bind fun b=>itemS σ a b).bind fun a=>((nm 2 σ).bind fun a=>(nm 1 σ).bind fun b=>itemS σ a b).bind fun b=>cmpS CmpOp.Gt σ a b) (emitM (nm 1)) σ = some (.list (il (((List.range n).filter fun k=>decide (hi.getD k 0 < lo.getD k 0)).map fun i : Nat=>(i : Int)))):=by
    rintro σ rfl
    refine (ev_compR (v:=.rng 0 n 1) (xs:=rl n) rfl (srcV_range n (by lia)) (fun σ=>∃ kv,isM kv = false∧σ = [.unb,kv,.list (il hi),.list (il lo)]) (fun x=>match x with | .int k=>decide (hi.getD k.toNat 0 < lo.getD k.toNat 0) | _=>false) id ?_ ⟨.unb,rfl,rfl⟩ (by simp; lia)).trans ?_
    ·rintro σ x hx ⟨kv,hkv,rfl⟩
     obtain ⟨i,hi',rfl⟩:=List.mem_map.mp hx
     have hin : i < n:=by exact List.mem_range.mp hi'
     refine ⟨_,stF_ok rfl (by exact Nat.one_lt_succ_succ [CV.list (il hi),CV.list (il lo)].length) hkv,?_,⟨_,rfl,rfl⟩,fun J=>⟨rfl,rfl⟩⟩
     show (at? (il lo) (i : Int)).bind (fun a=>(at? (il hi) (i : Int)).bind fun b=>cmpS .Gt _ a b) = _
     rw [at_nat,at_nat,il_get (by exact hll▸hin),il_get (by exact hhl▸hin)]
     show some (decide _) = some (decide _)
     simp
    ·rw [List.map_id,filter_rl]
     simp
   refine Gr.ite (m3:=fun σ=>some (.next,σ)) ((List.range n).any fun k=>decide (hi.getD k 0 < lo.getD k 0)) ?_ (fun ht=>⟨by rw [hfo,ht]; rfl,ret_one (a:=.bool false) rfl rfl⟩) (fun ht=>.nil ?_)
   ·refine ev_bind (hcomp _ rfl) ?_
    refine ev_bind (a:=.list (il [])) rfl ?_
    rw [ne_il]
    congr 1
    rw [Bool.eq_iff_iff]
    simp [List.filter_eq_nil_iff]
   ·rw [hfo,ht]
    exact .nil ⟨_,_,_,rfl,rfl,rfl,rfl⟩
end
noncomputable def gtK (r : List Int) (k : Nat) : List Int:=if r.getD (k + 1) 0 < r.getD k 0 then swapR r k (k + 1) else r
noncomputable def fallsL (o : List Int) : List Nat:=(List.range 5).filter fun k=>decide (o.getD (k + 1) 0 < o.getD k 0)
noncomputable def finStep (p : List Int × List Int) : List Int × List Int:=((fallsL p.2).take 1).foldl (fun p k=>(gtK p.1 k,swapR p.2 k (k + 1))) p
noncomputable def finL (row other : List Int) : List Int:=((List.range 15).foldl (fun p J=>finStep p) (row,other)).1
noncomputable def finS : List CV→List CV→Option CV:=fun l J=>on2 (fun v0_ v1_=>asL (fun vs=>asL (fun us=>(ints? vs).bind fun r=>(ints? us).bind fun o=>if r.length = 6∧o.length = 6 then some (.list (il (finL r o))) else none) v1_) v0_) l
theorem gtK_len (r : List Int) (k : Nat) : (gtK r k).length = r.length:=by unfold gtK; split <;> simp [swapR_len]
theorem foldl_rl {α : Type} (f : α→α) (n : Nat) (a : α) : (rl n).foldl (fun p J=>f p) a = (List.range n).foldl (fun p J=>f p) a:=by rw [rl,List.foldl_map]
theorem fin_all {P : List CV→CV→Prop} (H : ∀ (rs os : List Int),rs.length = 6∧os.length = 6→P [.list (il rs),.list (il os)] (.list (il (finL rs os)))) {cvs kcvs : List CV} {r : CV} (h : finS cvs kcvs = some r) : P cvs r:=by
 replace h:=on2_inv h
 obtain ⟨_,_,rfl,h⟩:=h
 replace h:=asL_inv h
 obtain ⟨vs,rfl,h⟩:=h
 replace h:=asL_inv h
 obtain ⟨us,rfl,h⟩:=h
 refine bc fun hG=>?_
 revert h
 refine oR fun rs h1 h=>?_
 revert h
 refine oR fun os h2 h=>?_
 refine hG ?_
 clear hG
 replace h:=ite_some h
 obtain ⟨hsm,h⟩:=h
 cases h
 have:=ints_eq h1
 subst this
 have:=ints_eq h2
 subst this
 exact H _ _ hsm
section
variable {prog : Program} {w : World} {hT : Heap} {mg mb : Str→Option Value}
theorem final_fn (T : Tops prog hT mg mb) : Fn prog w hT 0 (.ref 290) [] finS:=by
 refine Fn.plain (n:=2) T.tf T.r290 (by decide) ⟨rfl,by decide,rfl,rfl⟩ (fun A e X s0 P px W hA=>(Rss.cons (Rs.tupIn 6 W rfl (is:=[0,1]) (ys:=["row","other"]) (Rg.ow (Rfr.cpy W (T.list_ W (i:=4) rfl) (Rf.loc W (i:=0) rfl)) (Rg.ow (Rfr.cpy W (T.list_ W (i:=4) rfl) (Rf.cel W (i:=1) rfl)) Rg.nil)) rfl (at2 (.inl rfl) (.inr ⟨rfl,rfl⟩)) rfl rfl) (Rss.cons (Rs.for_ W (i:=2) (.inl rfl) (Rf.callT (T.range_ W (i:=5) rfl) (Rfs.cons Rf.int Rfs.nil) range_ok) px fun Z1 p1=>(Rss.cons (Rs.for_ (W.x Z1) (i:=3) (.inl rfl) (Rf.slice (Rf.comp (W.x Z1) (srcC_ok (src:=[none,none,some 1]) rfl) (compTurn_1 _ _ _ _ _ _) (Rf.callT (T.range_ (W.x Z1) (i:=5) rfl) (Rfs.cons Rf.int Rfs.nil) range_ok) (fun e2 Y2 s2 P2 W2=>(Ct.nm W2 (i:=1) rfl)) (fun e2 Y2 s2 P2 W2=>(Ci.one (Rt.com W2 (Rf.sb (Rf.cel W2 (i:=2) rfl) (Rf.loc W2 (i:=1) rfl)) (Rf.sb (Rf.cel W2 (i:=2) rfl) (Rf.add (Rf.loc W2 (i:=1) rfl) Rf.int))))) (fun e2 Y2 s2 P2 W2=>Ac.emit rfl fun X2=>(Rf.loc (W2.x X2) (i:=1) rfl))) Rf.int) p1 fun Z3 p3=>(Rss.cons (Rs.mul ((W.x Z1).x Z3) (Rf.tup (Rfs.cons (Rf.sb (Rf.cel ((W.x Z1).x Z3) (i:=1) rfl) (Rf.add (Rf.loc ((W.x Z1).x Z3) (i:=3) rfl) Rf.int)) (Rfs.cons (Rf.sb (Rf.cel ((W.x Z1).x Z3) (i:=1) rfl) (Rf.loc ((W.x Z1).x Z3) (i:=3) rfl)) Rfs.nil))) (Tgs.cons (Tg.sub (i:=1) (Rf.cel ((W.x Z1).x Z3) (i:=1) rfl) (Rf.loc ((W.x Z1).x Z3) (i:=3) rfl)) (Tgs.cons (Tg.sub (i:=1) (Rf.cel ((W.x Z1).x Z3) (i:=1) rfl) (Rf.add (Rf.loc ((W.x Z1).x Z3) (i:=3) rfl) Rf.int)) Tgs.nil)) (hw:=sw_sub _)) (Rss.cons (Rs.ifS (Rt.com ((W.x Z1).x Z3) (Rf.sb (Rf.loc ((W.x Z1).x Z3) (i:=0) rfl) (Rf.loc ((W.x Z1).x Z3) (i:=3) rfl)) (Rf.sb (Rf.loc ((W.x Z1).x Z3) (i:=0) rfl) (Rf.add (Rf.loc ((W.x Z1).x Z3) (i:=3) rfl) Rf.int))) (Rss.cons (Rs.mul ((W.x Z1).x Z3) (Rf.tup (Rfs.cons (Rf.sb (Rf.loc ((W.x Z1).x Z3) (i:=0) rfl) (Rf.add (Rf.loc ((W.x Z1).x Z3) (i:=3) rfl) Rf.int)) (Rfs.cons (Rf.sb (Rf.loc ((W.x Z1).x Z3) (i:=0) rfl) (Rf.loc ((W.x Z1).x Z3) (i:=3) rfl)) Rfs.nil))) (Tgs.cons (Tg.sub (i:=0) (Rf.loc ((W.x Z1).x Z3) (i:=0) rfl) (Rf.loc ((W.x Z1).x Z3) (i:=3) rfl)) (Tgs.cons (Tg.sub (i:=0) (Rf.loc ((W.x Z1).x Z3) (i:=0) rfl) (Rf.add (Rf.loc ((W.x Z1).x Z3) (i:=3) rfl) Rf.int)) Tgs.nil)) (hw:=sw_sub _)) Rss.nil) Rss.nil) Rss.nil))) Rss.nil)) (Rss.cons (Rs.ret (Rf.loc W (i:=0) rfl) px) Rss.nil)))) ?_ (by decide) (by decide) ?_
 ·intro fd vals h1 h2 h3 hl
  cases fd; simp only at h1 h2 h3; subst h1 h2 h3
  exact bind2 hl fun J J=>rfl
 ·intro cvs kcvs r h
  apply fin_all _ h
  clear h
  intro rs os hsm
  refine ⟨rfl,?_⟩
  show Ends (seqM _ (seqM _ (seqM _ _)) [.list (il rs),.list (il os),.unb,.unb,.unb,.unb]) _
  refine .step (σ1:=[.mlist (il rs),.mlist (il os),.unb,.unb,.unb,.unb]) (ev_tup2 (a:=.mlist (il rs)) (b:=.mlist (il os)) rfl (by exact List.getElem?_eq_none_iff.mp rfl) (.inr rfl) (.inr rfl) (by simp) (by exact Nat.one_lt_succ_succ [CV.unb,CV.unb,CV.unb,CV.unb].length) (by decide) rfl rfl) ?_
  refine .seq (R:=fun σ=>∃ tv kv o,σ = [.mlist (il (finL rs os)),.mlist o,tv,kv,.unb,.unb]) ?_ ?_
  ·refine Goes.for (v:=.rng 0 15 1) (xs:=rl 15) rfl (srcV_range 15 (by decide)) ?_
   refine (forM_goes (α:=List Int × List Int) (fun p σ=>(p.1.length = 6∧p.2.length = 6)∧∃ tv kv,isM tv = false∧isM kv = false∧σ = [.mlist (il p.1),.mlist (il p.2),tv,kv,.unb,.unb]) (fun p J=>finStep p) _ (rs,os) _ ?_ ⟨hsm,.unb,.unb,rfl,rfl,rfl⟩).mono ?_
   ·rintro ⟨r,o⟩ σ x hx ⟨⟨hr,ho⟩,tv,kv,htv,hkv,rfl⟩
    obtain ⟨i,_,rfl⟩:=List.mem_map.mp hx
    have hr : r.length = 6:=hr
    have ho : o.length = 6:=ho
    refine ⟨_,stF_ok rfl (by exact place_lt rfl) htv,?_⟩
    refine .seq (R:=fun σ=>(((finStep (r,o)).1.length = 6∧(finStep (r,o)).2.length = 6)∧∃ tv kv,isM tv = false∧isM kv = false∧σ = [.mlist (il (finStep (r,o)).1),.mlist (il (finStep (r,o)).2),tv,kv,.unb,.unb])) ?_ fun J q=>.nil q
    refine Goes.for (v:=.list (((fallsL o).take 1).map fun i : Nat=>CV.int (i : Int))) (xs:=((fallsL o).take 1).map fun i : Nat=>CV.int (i : Int)) ?_ rfl ?_
    ·refine ev_bind (a:=.list ((fallsL o).map fun i : Nat=>CV.int (i : Int))) ?_ ?_
     ·refine (ev_compR (v:=.rng 0 5 1) (xs:=rl 5) rfl (srcV_range 5 (by exact Nat.le_of_ble_eq_true rfl)) (fun σ=>∃ kv,isM kv = false∧σ = [.unb,kv,.mlist (il o)]) (fun x=>match x with | .int k=>decide (o.getD (k.toNat + 1) 0 < o.getD k.toNat 0) | _=>false) id ?_ ⟨.unb,rfl,rfl⟩ (by exact List.getElem?_eq_none_iff.mp rfl)).trans ?_
      ·rintro σ x hx ⟨kv,hkv,rfl⟩
       obtain ⟨i,hi',rfl⟩:=List.mem_map.mp hx
       have hin : i < 5:=by exact List.mem_range.mp hi'
       refine ⟨_,stF_ok rfl (by exact Nat.one_lt_succ_succ [CV.mlist (il o)].length) hkv,?_,⟨_,rfl,rfl⟩,fun J=>⟨rfl,rfl⟩⟩
       show (at? (il o) (i : Int)).bind (fun a=>(at? (il o) ((i + 1 : Nat) : Int)).bind fun b=>cmpS .Gt [] a b) = _
       rw [at_nat,at_nat,il_get (by exact ho▸Nat.lt_succ_of_lt hin),il_get (by exact ho▸Nat.succ_lt_succ hin)]
       rfl
      ·rw [List.map_id,filter_rl]
       rw [il,List.map_map]
       rfl
     ·show some (CV.list (upto 1 _)) = _
      have:=upto_il ((fallsL o).map fun i : Nat=>(i : Int)) 1
      rw [il,List.map_map] at this
      refine (congrArg (fun z=>some (CV.list z)) this).trans ?_
      rw [← List.map_take,il,List.map_map]
      rfl
    ·have hk5 : ∀ k∈(fallsL o).take 1,k < 5:=fun k hk=>List.mem_range.mp (List.mem_filter.mp (List.mem_of_mem_take hk)).1
     have hfs : finStep (r,o) = ((fallsL o).take 1).foldl (fun p k=>(gtK p.1 k,swapR p.2 k (k + 1))) (r,o):=rfl
     rw [hfs]
     have hfold : ∀ (ks : List Nat) p,ks.foldl (fun p k=>(gtK p.1 k,swapR p.2 k (k + 1))) p = (ks.map fun i : Nat=>CV.int (i : Int)).foldl (fun (p : List Int × List Int) x=>match x with | .int k=>(gtK p.1 k.toNat,swapR p.2 k.toNat (k.toNat + 1)) | _=>p) p:=by
      intro ks
      induction ks with
      | nil=>intro p; rfl
      | cons k ks ih=>intro p; rw [List.foldl_cons,ih]; rfl
     rw [hfold]
     refine forM_goes (α:=List Int × List Int) (fun p σ=>(p.1.length = 6∧p.2.length = 6)∧∃ tv kv,isM tv = false∧isM kv = false∧σ = [.mlist (il p.1),.mlist (il p.2),tv,kv,.unb,.unb]) (fun (p : List Int × List Int) x=>match x with | .int k=>(gtK p.1 k.toNat,swapR p.2 k.toNat (k.toNat + 1)) | _=>p) _ (r,o) _ ?_ ⟨⟨hr,ho⟩,_,_,rfl,hkv,rfl⟩
     rintro ⟨r,o⟩ σ x hx ⟨⟨hr,ho⟩,tv,kv,htv,hkv,rfl⟩
     obtain ⟨k,hk,rfl⟩:=List.mem_map.mp hx
     have hk:=hk5 k hk
     have ho : o.length = 6:=ho
     refine ⟨_,stF_ok rfl (by exact place_lt rfl) hkv,?_⟩
     refine .step (ev_swap (i:=1) (r:=o) (p:=k) (q:=k + 1) rfl (by exact lt_of_isM rfl) (by exact ho▸Nat.lt_succ_of_lt hk) (by exact ho▸Nat.succ_lt_succ hk) ?_ rfl fun J=>rfl) ?_
     ·show (((at? (il o) ((k + 1 : Nat) : Int)).bind _)).bind _ = _
      rw [at_nat,il_get (by exact ho▸Nat.succ_lt_succ hk)]
      show (((at? (il o) (k : Int)).bind _).map _).bind _ = _
      rw [at_nat,il_get (by exact ho▸Nat.lt_succ_of_lt hk)]
      rfl
     ·refine .seq (Goes.ite (decide (r.getD (k + 1) 0 < r.getD k 0)) ?_ (fun hb=>.step (ev_swap (i:=0) (r:=r) (p:=k) (q:=k + 1) rfl (by exact lt_of_isM rfl) (by exact hr▸Nat.lt_succ_of_lt hk) (by exact hr▸Nat.succ_lt_succ hk) ?_ rfl fun J=>rfl) (.nil ?_)) (fun hb=>.nil ?_)) fun J q=>.nil q
      ·show (at? (il r) (k : Int)).bind (fun a=>(at? (il r) ((k + 1 : Nat) : Int)).bind fun b=>cmpS .Gt [] a b) = _
       rw [at_nat,at_nat,il_get (by exact hr▸Nat.lt_succ_of_lt hk),il_get (by exact hr▸Nat.succ_lt_succ hk)]
       rfl
      ·show (((at? (il r) ((k + 1 : Nat) : Int)).bind _)).bind _ = _
       rw [at_nat,il_get (by exact hr▸Nat.succ_lt_succ hk)]
       show (((at? (il r) (k : Int)).bind _).map _).bind _ = _
       rw [at_nat,il_get (by exact hr▸Nat.lt_succ_of_lt hk)]
       rfl
      ·have hb:=of_decide_eq_true hb
       refine ⟨⟨(gtK_len _ _).trans hr,(swapR_len _ _ _).trans ho⟩,tv,.int k,htv,rfl,?_⟩
       show _ = [CV.mlist (il (gtK r k)),CV.mlist (il (swapR o k (k + 1))),_,_,_,_]
       rw [gtK,if_pos hb]; rfl
      ·have hb:=of_decide_eq_false hb
       refine ⟨⟨(gtK_len _ _).trans hr,(swapR_len _ _ _).trans ho⟩,tv,.int k,htv,rfl,?_⟩
       show _ = [CV.mlist (il (gtK r k)),CV.mlist (il (swapR o k (k + 1))),_,_,_,_]
       rw [gtK,if_neg hb]; rfl
   ·rintro σ qq1
    refine bc fun hG=>?_
    obtain ⟨_,tv,kv,_,_,rfl⟩:=qq1
    refine hG ?_
    clear hG
    exact ⟨tv,kv,il (((rl 15).foldl (fun p J=>finStep p) (rs,os)).2),by rw [finL,← foldl_rl]⟩
  ·rintro σ ⟨tv,kv,o,rfl⟩
   exact .retM (a:=.own 0) rfl rfl
end
noncomputable def sLt (a b : Str) : Bool:=decide (a.cps.toList < b.cps.toList)
noncomputable def collI (a b : Str) : Int:=b2i (sLt b a) - b2i (sLt a b)
noncomputable def fallsT (r : List Str) : List Nat:=(List.range 5).filter fun k=>collI (r.getD k default) (r.getD (k + 1) default) == 1
structure PSt where
 row : List Str
 n : Int
 plan : List Nat
noncomputable def pickK (f : List Nat) (n : Int) : Nat:=f.getD (n.fmod f.length).toNat 0
noncomputable def planStep (p : PSt) : PSt:=if fallsT p.row = [] then p else
 ⟨swapS p.row (pickK (fallsT p.row) p.n) (pickK (fallsT p.row) p.n + 1),p.n.fdiv (fallsT p.row).length,p.plan ++ [pickK (fallsT p.row) p.n]⟩
noncomputable def planSt (row : List Str) (n : Int) (t : Nat) : PSt:=(List.range t).foldl (fun p J=>planStep p) ⟨row,n,[]⟩
noncomputable def planL (row : List Str) (n : Int) : List Nat:=(planSt row n 15).plan
noncomputable abbrev nl (l : List Nat) : List CV:=l.map fun i : Nat=>.int (i : Int)
noncomputable def planS : List CV→List CV→Option CV:=fun l J=>on2 (fun v0_ v1_=>asL (fun vs=>asI (fun n=>(strs? vs).bind fun r=>if r.length = 6 then some (.list (nl (planL r n))) else none) v1_) v0_) l
theorem fallsT_lt {r : List Str} {k : Nat} (h : k∈fallsT r) : k < 5:=List.mem_range.mp (List.mem_filter.mp h).1
theorem pickK_mem {f : List Nat} (h : f ≠ []) (n : Int) : pickK f n∈f∧(n.fmod f.length).toNat < f.length∧n.fmod f.length = ((n.fmod f.length).toNat : Int):=by
 have hp : 0 < f.length:=List.length_pos_iff.mpr h
 obtain ⟨h1,h2⟩:=fmod_lt n (c:=f.length) hp
 refine ⟨?_,h1,h2⟩
 unfold pickK
 rw [List.getD_eq_getElem?_getD,List.getElem?_eq_getElem h1]
 exact List.getElem_mem _
theorem planStep_len (p : PSt) : (planStep p).row.length = p.row.length:=by unfold planStep; split <;> simp [swapS_len]
theorem planStep_plan (p : PSt) : (planStep p).plan.length≤p.plan.length + 1:=by unfold planStep; split <;> simp
theorem nl_il (l : List Nat) : nl l = il (l.map fun i : Nat=>(i : Int)):=by rw [nl,il,List.map_map]; rfl
theorem nl_get {l : List Nat} {j : Nat} (h : j < l.length) : (nl l)[j]? = some (.int (l.getD j 0 : Nat)):=by
 rw [nl,List.getElem?_map,List.getElem?_eq_getElem h]
 simp [List.getD,h]
theorem plan_all {P : List CV→CV→Prop} (H : ∀ (rs : List Str) (n : Int),rs.length = 6→P [.list (sl rs),.int n] (.list (nl (planL rs n)))) {cvs kcvs : List CV} {r : CV} (h : planS cvs kcvs = some r) : P cvs r:=by
 replace h:=on2_inv h
 obtain ⟨_,_,rfl,h⟩:=h
 replace h:=asL_inv h
 obtain ⟨vs,rfl,h⟩:=h
 replace h:=asI_inv h
 obtain ⟨n,rfl,h⟩:=h
 refine bc fun hG=>?_
 revert h
 refine oR fun rs h1 h=>?_
 refine hG ?_
 clear hG
 replace h:=ite_some h
 obtain ⟨hsm,h⟩:=h
 cases h
 have:=strs_eq h1
 subst this
 exact H _ _ hsm
section
variable {prog : Program} {w : World} {hT : Heap} {mg mb : Str→Option Value}
theorem plan_fn (T : Tops prog hT mg mb) : Fn prog w hT 1 (.ref 295) [] planS:=by
 refine Fn.plain (n:=2) T.tf T.r295 (by decide) ⟨rfl,by decide,rfl,rfl⟩ (fun A e X s0 P px W hA=>(Rss.cons (Rs.tupIn 9 W rfl (is:=[0,2]) (ys:=["row","plan"]) (Rg.ow (Rfr.cpy W (T.list_ W (i:=6) rfl) (Rf.cel W (i:=0) rfl)) (Rg.ow (Rfr.lst Rfs.nil) Rg.nil)) rfl (at2 (.inr ⟨rfl,rfl⟩) (.inl rfl)) rfl rfl) (Rss.cons (Rs.for_ W (i:=3) (.inl rfl) (Rf.callT (T.range_ W (i:=7) rfl) (Rfs.cons Rf.int Rfs.nil) range_ok) px fun Z1 p1=>(Rss.cons (Rs.asgC (W.x Z1) (k:=5) (srcC_ok (src:=[none,none,none,some 0]) rfl) rfl (compTurn_1 _ _ _ _ _ _) (Rf.callT (T.range_ (W.x Z1) (i:=7) rfl) (Rfs.cons Rf.int Rfs.nil) range_ok) (fun e2 Y2 s2 P2 W2=>(Ct.nm W2 (i:=1) rfl)) (fun e2 Y2 s2 P2 W2=>(Ci.one (Rt.com W2 (Rf.call (Rf.glb T.tf W2 (i:=2) rfl T.g81 rfl) T.r81 (by decide) (coll_fn T) (hA.mono (by decide)) (Rfs.cons (Rf.sb (Rf.cel W2 (i:=3) rfl) (Rf.loc W2 (i:=1) rfl)) (Rfs.cons (Rf.sb (Rf.cel W2 (i:=3) rfl) (Rf.add (Rf.loc W2 (i:=1) rfl) Rf.int)) Rfs.nil))) Rf.int))) (fun e2 Y2 s2 P2 W2=>Ac.emit rfl fun X2=>(Rf.loc (W2.x X2) (i:=1) rfl)) rfl) (Rss.cons (Rs.ifS (Rt.com (W.x Z1) (Rf.loc (W.x Z1) (i:=5) rfl) (Rf.lst Rfs.nil)) (Rss.cons (Rs.asg (W.x Z1) (i:=4) (.inl rfl) (Rf.sb (Rf.loc (W.x Z1) (i:=5) rfl) (Rf.mod (Rf.loc (W.x Z1) (i:=1) rfl) (Rf.callB (T.len_ (W.x Z1) (i:=8) rfl) (Rfs.cons (Rf.loc (W.x Z1) (i:=5) rfl) Rfs.nil) len_ok)))) (Rss.cons (Rs.asg (W.x Z1) (i:=1) (.inl rfl) (Rf.fdiv T.tf (W.x Z1) (Rf.loc (W.x Z1) (i:=1) rfl) (Rf.callB (T.len_ (W.x Z1) (i:=8) rfl) (Rfs.cons (Rf.loc (W.x Z1) (i:=5) rfl) Rfs.nil) len_ok))) (Rss.cons (Rs.mul (W.x Z1) (Rf.tup (Rfs.cons (Rf.sb (Rf.cel (W.x Z1) (i:=0) rfl) (Rf.add (Rf.loc (W.x Z1) (i:=4) rfl) Rf.int)) (Rfs.cons (Rf.sb (Rf.cel (W.x Z1) (i:=0) rfl) (Rf.loc (W.x Z1) (i:=4) rfl)) Rfs.nil))) (Tgs.cons (Tg.sub (i:=0) (Rf.cel (W.x Z1) (i:=0) rfl) (Rf.loc (W.x Z1) (i:=4) rfl)) (Tgs.cons (Tg.sub (i:=0) (Rf.cel (W.x Z1) (i:=0) rfl) (Rf.add (Rf.loc (W.x Z1) (i:=4) rfl) Rf.int)) Tgs.nil)) (hw:=sw_sub _)) (Rss.cons (Rs.app (W.x Z1) (i:=2) (.inl rfl) (Rf.loc (W.x Z1) (i:=2) rfl) (Rf.loc (W.x Z1) (i:=4) rfl)) Rss.nil)))) Rss.nil) Rss.nil))) (Rss.cons (Rs.ret (Rf.loc W (i:=2) rfl) px) Rss.nil)))) ?_ (by decide) (by decide) ?_
 ·intro fd vals h1 h2 h3 hl
  cases fd; simp only at h1 h2 h3; subst h1 h2 h3
  exact bind2 hl fun J J=>rfl
 ·intro cvs kcvs r h
  apply plan_all _ h
  clear h
  intro rs n hsm
  refine ⟨rfl,?_⟩
  show Ends (seqM _ (seqM _ (seqM _ _)) [.list (sl rs),.int n,.unb,.unb,.unb,.unb,.unb,.unb,.unb]) _
  refine .step (σ1:=[.mlist (sl rs),.int n,.mlist [],.unb,.unb,.unb,.unb,.unb,.unb]) (ev_tup2 (a:=.mlist (sl rs)) (b:=.mlist []) rfl (by exact List.getElem?_eq_none_iff.mp rfl) (.inr rfl) (.inr rfl) (by simp) (by exact place_lt rfl) (by decide) rfl rfl) ?_
  refine .seq (R:=fun σ=>∃ rv nv tv kv fv,σ = [rv,nv,.mlist (nl (planL rs n)),tv,kv,fv,.unb,.unb,.unb]) ?_ ?_
  ·refine Goes.for (v:=.rng 0 15 1) (xs:=rl 15) rfl (srcV_range 15 (by decide)) ?_
   refine (forM_at (fun t σ=>(planSt rs n t).row.length = 6∧(planSt rs n t).plan.length≤t∧∃ tv kv fv,isM tv = false∧isM kv = false∧isM fv = false∧σ = [.mlist (sl (planSt rs n t).row),.int (planSt rs n t).n,.mlist (nl (planSt rs n t).plan),tv,kv,fv,.unb,.unb,.unb]) _ _ ?_ ⟨hsm,Nat.le_refl _,.unb,.unb,.unb,rfl,rfl,rfl,rfl⟩).mono ?_
   ·rintro t x σ hx qq4
    refine bc fun hG=>?_
    obtain ⟨hr,hp,tv,kv,fv,htv,hkv,hfv,rfl⟩:=qq4
    refine hG ?_
    clear hG
    obtain ⟨rfl,ht⟩:=rl_at hx
    have hs : planSt rs n (t + 1) = planStep (planSt rs n t):=by
     unfold planSt
     rw [List.range_succ,List.foldl_append]; rfl
    have hr' : (planSt rs n (t + 1)).row.length = 6:=by rw [hs,planStep_len,hr]
    have hp' : (planSt rs n (t + 1)).plan.length≤t + 1:=by rw [hs]; have:=planStep_plan (planSt rs n t); lia
    rw [hs] at hr' hp' ⊢
    generalize planSt rs n t = p at *
    refine ⟨_,stF_ok rfl (by exact place_lt rfl) htv,?_⟩
    have hfal : ∀ k∈fallsT p.row,k < 5:=fun k hk=>fallsT_lt hk
    refine .step (σ1:=[.mlist (sl p.row),.int p.n,.mlist (nl p.plan),.int t,kv,.list (nl (fallsT p.row)),.unb,.unb,.unb]) (ev_asg (cv:=.list (nl (fallsT p.row))) ?_ (stF_ok rfl (by exact place_lt rfl) hfv)) ?_
    ·refine (ev_compR (v:=.rng 0 5 1) (xs:=rl 5) rfl (srcV_range 5 (by exact Nat.le_of_ble_eq_true rfl)) (fun σ=>∃ kv,isM kv = false∧σ = [.unb,kv,.unb,.mlist (sl p.row)]) (fun x=>match x with | .int k=>collI (p.row.getD k.toNat default) (p.row.getD (k.toNat + 1) default) == 1 | _=>false) id ?_ ⟨.unb,rfl,rfl⟩ (by exact List.getElem?_eq_none_iff.mp rfl)).trans ?_
     ·rintro σ x hx ⟨kv,hkv,rfl⟩
      obtain ⟨i,hi',rfl⟩:=List.mem_map.mp hx
      have hin : i < 5:=by exact List.mem_range.mp hi'
      refine ⟨_,stF_ok rfl (by exact Nat.one_lt_succ_succ [CV.unb,CV.mlist (sl p.row)].length) hkv,?_,⟨_,rfl,rfl⟩,fun J=>⟨rfl,rfl⟩⟩
      have g1 : at? (sl p.row) (i : Int) = some (.str (p.row.getD i default)):=by rw [at_nat,sl_get (by lia)]
      have g2 : at? (sl p.row) ((i + 1 : Nat) : Int) = some (.str (p.row.getD (i + 1) default)):=by rw [at_nat,sl_get (by lia)]
      refine ev_bind (a:=.int (collI (p.row.getD i default) (p.row.getD (i + 1) default))) (ev_bind (a:=[.str (p.row.getD i default),.str (p.row.getD (i + 1) default)]) (ev_bind g1 (ev_map (a:=[.str (p.row.getD (i + 1) default)]) (ev_bind (a:=.str (p.row.getD (i + 1) default)) ?_ rfl) rfl)) rfl) ?_
      ·exact g2
      refine ev_bind (a:=.int 1) rfl ?_
      rw [cmp_eq_int]
      rfl
     ·rw [List.map_id,filter_rl,il,List.map_map]
      rfl
    ·generalize hF : fallsT p.row = F at *
     have hne : cmpS .NotEq [] (.list (nl F)) (.list (il [])) = some (!decide (F = [])):=by
      rw [nl_il,ne_il]
      simp
     refine .seq (Goes.ite (!decide (F = [])) hne (fun hb=>?_) (fun hb=>.nil ?_)) fun J q=>.nil q
     ·have hb : F ≠ []:=by simpa using hb
      refine bc fun hG=>?_
      obtain ⟨m1,m2,m3⟩:=pickK_mem hb p.n
      have hk5:=hfal _ m1
      refine hG ?_
      clear hG
      have hst : planStep p = ⟨swapS p.row (pickK F p.n) (pickK F p.n + 1),p.n.fdiv F.length,p.plan ++ [pickK F p.n]⟩:=by
       unfold planStep; rw [hF,if_neg hb]
      rw [hst]
      generalize hk : pickK F p.n = k at *
      have hlen0 : (F.length : Int) ≠ 0:=by have:=List.length_pos_iff.mpr hb; lia
      have hlen : ∀ σ,lenF σ [.list (nl F)] = some (.int F.length):=fun σ=>by
       show some (CV.int (nl F).length) = _
       rw [List.length_map]
      refine .step (σ1:=[.mlist (sl p.row),.int p.n,.mlist (nl p.plan),.int t,.int k,.list (nl F),.unb,.unb,.unb]) (ev_asg (cv:=.int k) ?_ (stF_ok rfl (by exact place_lt rfl) hkv)) ?_
      ·show ((lenF [] [.list (nl F)]).bind fun b=>modS (.int p.n) b).bind (fun b=>itemS [] (.list (nl F)) b) = _
       rw [hlen]
       show (modS (.int p.n) (.int F.length)).bind (fun b=>itemS [] (.list (nl F)) b) = _
       rw [modS_int _ _ hlen0,m3]
       show at? (nl F) ((p.n.fmod F.length).toNat : Int) = _
       rw [at_nat,nl_get m2]
       show some (CV.int (pickK F p.n : Nat)) = _
       rw [hk]
      ·refine .step (σ1:=[.mlist (sl p.row),.int (p.n.fdiv F.length),.mlist (nl p.plan),.int t,.int k,.list (nl F),.unb,.unb,.unb]) (ev_asg (cv:=.int (p.n.fdiv F.length)) ?_ rfl) ?_
       ·show ((lenF [] [.list (nl F)]).bind fun b=>fdivS (.int p.n) b) = _
        rw [hlen]
        exact fdivS_int _ _ hlen0
       ·refine .step (ev_swapS (i:=0) (r:=p.row) (p:=k) (q:=k + 1) rfl (by exact lt_of_isM rfl) (by lia) (by lia) ?_ rfl fun J=>rfl) ?_
        ·show (((at? (sl p.row) ((k + 1 : Nat) : Int)).bind _)).bind _ = _
         rw [at_nat,sl_get (by lia)]
         show (((at? (sl p.row) (k : Int)).bind _).map _).bind _ = _
         rw [at_nat,sl_get (by lia)]
         rfl
        ·refine .step (ev_app (cv:=.int k) rfl rfl rfl (by rw [List.length_map]; lia)) (.nil ?_)
         rw [hst] at hr' hp'
         refine ⟨hr',hp',.int t,.int k,.list (nl F),rfl,rfl,rfl,?_⟩
         have e : nl (p.plan ++ [k]) = nl p.plan ++ [.int k]:=by simp [nl]
         show _ = [_,_,CV.mlist (nl (p.plan ++ [k])),_,_,_,_,_,_]
         rw [e]
         rfl
     ·have hb : F = []:=by simpa using hb
      have hst : planStep p = p:=by unfold planStep; rw [hF,if_pos hb]
      rw [hst] at hr' hp' ⊢
      exact ⟨hr',hp',.int t,kv,.list (nl F),rfl,hkv,rfl,rfl⟩
   ·rintro σ qq1
    refine bc fun hG=>?_
    obtain ⟨_,_,tv,kv,fv,_,_,_,rfl⟩:=qq1
    refine hG ?_
    clear hG
    exact ⟨_,_,tv,kv,fv,rfl⟩
  ·rintro σ ⟨rv,nv,tv,kv,fv,rfl⟩
   exact .retM (a:=.own 2) rfl rfl
end
noncomputable abbrev NS:=List (Nat × Str)
noncomputable def pairC (p : Nat × Str) : CV:=.tup [.int p.1,.str p.2]
noncomputable abbrev pl (l : NS) : List CV:=l.map pairC
noncomputable def due0 (cell : Int) : NS:=(List.range 6).map fun k=>(k,letA k (cell.fdiv (2 ^ k)))
noncomputable def dueStep (cell : Int) (st : List Int × NS) (t k : Nat) : List Int × NS :=
 if st.1.getD (k + 1) 0 < st.1.getD k 0 then (swapR st.1 k (k + 1),(st.2.filter fun p=>p.1 != k && p.1 != k + 1) ++ [(k,letA k (t + cell)),(k + 1,letA (k + 1) t)]) else st
noncomputable def dueSt (low : List Int) (plan : List Nat) (cell : Int) (t : Nat) : List Int × NS:=(List.range t).foldl (fun st t=>dueStep cell st t (plan.getD t 0)) (low,due0 cell)
noncomputable def dueL (low : List Int) (plan : List Nat) (cell : Int) : List (Str × Str) :=
 (dueSt low plan cell plan.length).2.map fun p=>(p.2,W6.getD ((dueSt low plan cell plan.length).1.getD p.1 0).toNat default)
noncomputable def itemC (p : Str × Str) : CV:=.tup [.str p.1,.str p.2]
noncomputable def dueS : List CV→List CV→Option CV:=fun l J=>on3 (fun v0_ v1_ v2_=>asL (fun vs=>asL (fun ps=>asI (fun cell=>(ints? vs).bind fun r=>(ints? ps).bind fun p=>if small r = true∧p.length≤100∧(p.all fun x=>decide (0≤x∧x < 5)) = true then some (.list ((dueL r (p.map Int.toNat) cell).map itemC)) else none) v2_) v1_) v0_) l
theorem pow2 {k : Nat} (h : k < 6) : powS (.int 2) (.int k) = some (.int (2 ^ k)):=by
 have : k = 0∨k = 1∨k = 2∨k = 3∨k = 4∨k = 5:=by lia
 rcases this with rfl | rfl | rfl | rfl | rfl | rfl <;> rfl
theorem call_place (σ : List CV) {k : Nat} (n : Int) (h : k < 6) : callS placeS σ [.int k,.int n] [] = some (.str (letA k n)):=by
 show (if 0≤(k : Int)∧(k : Int) < 6 then some (CV.str (letA (k : Int).toNat n)) else none) = _
 rw [if_pos (by lia)]; rfl
theorem dueStep_ns (cell : Int) (st : List Int × NS) (t k : Nat) : (dueStep cell st t k).2.length≤st.2.length + 2:=by
 unfold dueStep
 split
 ·have:=List.length_filter_le (fun p : Nat × Str=>p.1 != k && p.1 != k + 1) st.2
  simp only [List.length_append,List.length_cons,List.length_nil]; exact Nat.add_le_add_right this (0 + 1 + 1)
 ·exact Nat.le_add_right (List.length st.snd) 2
theorem swapR_mem {r : List Int} {p q : Nat} {x : Int} (hp : p < r.length) (hq : q < r.length) (h : x∈swapR r p q) : x∈r:=by
 have hg : ∀ j,j < r.length→r.getD j 0∈r:=fun j hj=>by
  rw [List.getD_eq_getElem?_getD,List.getElem?_eq_getElem hj]; exact List.getElem_mem _
 unfold swapR at h
 rcases List.mem_or_eq_of_mem_set h with h | h
 ·rcases List.mem_or_eq_of_mem_set h with h | h
  ·exact h
  ·exact h▸hg q hq
 ·exact h▸hg p hp
theorem small_iff {r : List Int} : small r = true ↔ r.length = 6∧∀ x∈r,0≤x∧x < 6:=by
 unfold small
 rw [Bool.and_eq_true,decide_eq_true_iff,List.all_eq_true]
 simp only [decide_eq_true_eq]
theorem swapR_small {r : List Int} {p q : Nat} (h : small r = true) (hp : p < 6) (hq : q < 6) : small (swapR r p q) = true:=by
 rw [small_iff] at h ⊢
 refine ⟨(swapR_len _ _ _).trans h.1,fun x hx=>h.2 x (swapR_mem (by exact h.1▸hp) (by exact h.1▸hq) hx)⟩
structure DOk (st : List Int × NS) (t : Nat) : Prop where
 sm : small st.1 = true
 ln : st.2.length≤6 + 2 * t
 lt : ∀ p∈st.2,p.1 < 6
theorem DOk.step {cell : Int} {st : List Int × NS} {t k : Nat} (h : DOk st t) (hk : k < 5) : DOk (dueStep cell st t k) (t + 1):=by
 refine ⟨?_,?_,?_⟩
 ·unfold dueStep; split
  ·exact swapR_small h.sm (by exact Nat.lt_succ_of_lt hk) (by exact Nat.add_lt_of_lt_sub hk)
  ·exact h.sm
 ·have:=dueStep_ns cell st t k; have:=h.ln; lia
 ·unfold dueStep; split
  ·intro p hp
   rcases List.mem_append.mp hp with hp | hp
   ·exact h.lt p (List.mem_filter.mp hp).1
   ·simp only [List.mem_cons,List.not_mem_nil,or_false] at hp
    rcases hp with rfl | rfl
    ·show k < 6; exact Nat.lt_succ_of_lt hk
    ·show k + 1 < 6; exact Nat.add_lt_of_lt_sub hk
  ·exact h.lt
theorem due_ok {low : List Int} {plan : List Nat} (cell : Int) (hl : small low = true) (hp : ∀ x∈plan,x < 5) : ∀ t,t≤plan.length→DOk (dueSt low plan cell t) t:=by
 intro t
 induction t with
 | zero =>
  intro _
  exact ⟨hl,by exact Nat.le_add_right (List.length (dueSt low plan cell 0).snd) (2 * 0),fun p hp=>by
   obtain ⟨k,hk,rfl⟩:=List.mem_map.mp (show p∈due0 cell from hp); simpa using hk⟩
 | succ t due_ok =>
  intro ht
  have : dueSt low plan cell (t + 1) = dueStep cell (dueSt low plan cell t) t (plan.getD t 0):=by
   unfold dueSt; rw [List.range_succ,List.foldl_append]; rfl
  rw [this]
  refine (due_ok (by exact Nat.le_of_succ_le ht)).step (hp _ ?_)
  rw [List.getD_eq_getElem?_getD,List.getElem?_eq_getElem (by exact Nat.lt_of_succ_le ht)]; exact List.getElem_mem _
theorem pl_len (l : NS) : (pl l).length = l.length:=by exact List.length_map pairC
theorem due_all {P : List CV→CV→Prop} (H : ∀ (rs ps : List Int) (cell : Int),small rs = true∧ps.length≤100∧(ps.all fun x=>decide (0≤x∧x < 5)) = true→P [.list (il rs),.list (il ps),.int cell] (.list ((dueL rs (ps.map Int.toNat) cell).map itemC))) {cvs kcvs : List CV} {r : CV} (h : dueS cvs kcvs = some r) : P cvs r:=by
 replace h:=on3_inv h
 obtain ⟨_,_,_,rfl,h⟩:=h
 replace h:=asL_inv h
 obtain ⟨vs,rfl,h⟩:=h
 replace h:=asL_inv h
 obtain ⟨us,rfl,h⟩:=h
 replace h:=asI_inv h
 obtain ⟨cell,rfl,h⟩:=h
 refine bc fun hG=>?_
 revert h
 refine oR fun rs h1 h=>?_
 revert h
 refine oR fun ps h2 h=>?_
 refine hG ?_
 clear hG
 replace h:=ite_some h
 obtain ⟨hsm,h⟩:=h
 cases h
 have:=ints_eq h1
 subst this
 have:=ints_eq h2
 subst this
 exact H _ _ _ hsm
section
variable {prog : Program} {w : World} {hT : Heap} {mg mb : Str→Option Value}
theorem due_fn (T : Tops prog hT mg mb) : Fn prog w hT 1 (.ref 307) [] dueS:=by
 refine Fn.plain (n:=3) T.tf T.r307 (by decide) ⟨rfl,by decide,rfl,rfl⟩ (fun A e X s0 P px W hA=>(Rss.cons (Rs.tupIn 12 W rfl (is:=[4,0,5]) (ys:=["words","row","pairs"]) (Rg.fro (Rf.call0 (Rf.glb T.tf W (i:=7) rfl T.g259 rfl) T.r259 (by decide) (words_fn T) (hA.mono (by decide))) (Rg.ow (Rfr.cpy W (T.list_ W (i:=8) rfl) (Rf.cel W (i:=0) rfl)) (Rg.fro (Rf.comp W (srcC_ok (src:=[none,none,none,some 2]) rfl) (compTurn_1 _ _ _ _ _ _) (Rf.callT (T.range_ W (i:=9) rfl) (Rfs.cons Rf.int Rfs.nil) range_ok) (fun e1 Y1 s1 P1 W1=>(Ct.nm W1 (i:=1) rfl)) (fun e1 Y1 s1 P1 W1=>Ci.nil) (fun e1 Y1 s1 P1 W1=>Ac.emit rfl fun X1=>(Rf.tup (Rfs.cons (Rf.loc (W1.x X1) (i:=1) rfl) (Rfs.cons (Rf.call (Rf.glb T.tf (W1.x X1) (i:=2) rfl T.g266 rfl) T.r266 (by decide) (place_fn T) (hA.mono (by decide)) (Rfs.cons (Rf.loc (W1.x X1) (i:=1) rfl) (Rfs.cons (Rf.fdiv T.tf (W1.x X1) (Rf.cel (W1.x X1) (i:=3) rfl) (Rf.pow Rf.int (Rf.loc (W1.x X1) (i:=1) rfl))) Rfs.nil))) Rfs.nil))))) Rg.nil))) rfl (at3 (.inr ⟨rfl,rfl⟩) (.inr ⟨rfl,rfl⟩) (.inl rfl)) rfl rfl) (Rss.cons (Rs.for_ W (i:=6) (.inl rfl) (Rf.callT (T.range_ W (i:=9) rfl) (Rfs.cons (Rf.callB (T.len_ W (i:=10) rfl) (Rfs.cons (Rf.loc W (i:=1) rfl) Rfs.nil) len_ok) Rfs.nil) range_ok) px fun Z2 p2=>(Rss.cons (Rs.asg (W.x Z2) (i:=3) (.inr ⟨rfl,rfl⟩) (Rf.sb (Rf.loc (W.x Z2) (i:=1) rfl) (Rf.loc (W.x Z2) (i:=6) rfl))) (Rss.cons (Rs.ifS (Rt.com (W.x Z2) (Rf.sb (Rf.cel (W.x Z2) (i:=0) rfl) (Rf.cel (W.x Z2) (i:=3) rfl)) (Rf.sb (Rf.cel (W.x Z2) (i:=0) rfl) (Rf.add (Rf.cel (W.x Z2) (i:=3) rfl) Rf.int))) (Rss.cons (Rs.mul (W.x Z2) (Rf.tup (Rfs.cons (Rf.sb (Rf.cel (W.x Z2) (i:=0) rfl) (Rf.add (Rf.cel (W.x Z2) (i:=3) rfl) Rf.int)) (Rfs.cons (Rf.sb (Rf.cel (W.x Z2) (i:=0) rfl) (Rf.cel (W.x Z2) (i:=3) rfl)) Rfs.nil))) (Tgs.cons (Tg.sub (i:=0) (Rf.cel (W.x Z2) (i:=0) rfl) (Rf.cel (W.x Z2) (i:=3) rfl)) (Tgs.cons (Tg.sub (i:=0) (Rf.cel (W.x Z2) (i:=0) rfl) (Rf.add (Rf.cel (W.x Z2) (i:=3) rfl) Rf.int)) Tgs.nil)) (hw:=sw_sub _)) (Rss.cons (Rs.asgC (W.x Z2) (k:=5) (srcC_ok (src:=[none,none,some 3]) rfl) rfl (compTurn_1 _ _ _ _ _ _) (Rf.loc (W.x Z2) (i:=5) rfl) (fun e3 Y3 s3 P3 W3=>(Ct.nm W3 (i:=1) rfl)) (fun e3 Y3 s3 P3 W3=>(Ci.one (Rt.and (Rt.com W3 (Rf.sb (Rf.loc W3 (i:=1) rfl) Rf.int) (Rf.cel W3 (i:=2) rfl)) (Rt.com W3 (Rf.sb (Rf.loc W3 (i:=1) rfl) Rf.int) (Rf.add (Rf.cel W3 (i:=2) rfl) Rf.int))))) (fun e3 Y3 s3 P3 W3=>Ac.emit rfl fun X3=>(Rf.loc (W3.x X3) (i:=1) rfl)) rfl) (Rss.cons (Rs.asg (W.x Z2) (i:=5) (.inl rfl) (Rf.add (Rf.loc (W.x Z2) (i:=5) rfl) (Rf.lst (Rfs.cons (Rf.tup (Rfs.cons (Rf.cel (W.x Z2) (i:=3) rfl) (Rfs.cons (Rf.call (Rf.glb T.tf (W.x Z2) (i:=11) rfl T.g266 rfl) T.r266 (by decide) (place_fn T) (hA.mono (by decide)) (Rfs.cons (Rf.cel (W.x Z2) (i:=3) rfl) (Rfs.cons (Rf.add (Rf.loc (W.x Z2) (i:=6) rfl) (Rf.cel (W.x Z2) (i:=2) rfl)) Rfs.nil))) Rfs.nil))) (Rfs.cons (Rf.tup (Rfs.cons (Rf.add (Rf.cel (W.x Z2) (i:=3) rfl) Rf.int) (Rfs.cons (Rf.call (Rf.glb T.tf (W.x Z2) (i:=11) rfl T.g266 rfl) T.r266 (by decide) (place_fn T) (hA.mono (by decide)) (Rfs.cons (Rf.add (Rf.cel (W.x Z2) (i:=3) rfl) Rf.int) (Rfs.cons (Rf.loc (W.x Z2) (i:=6) rfl) Rfs.nil))) Rfs.nil))) Rfs.nil))))) Rss.nil))) Rss.nil) Rss.nil))) (Rss.cons (Rs.ret (Rf.comp W (srcC_ok (src:=[none,none,none,some 0,some 4]) rfl) (compTurn_1 _ _ _ _ _ _) (Rf.loc W (i:=5) rfl) (fun e4 Y4 s4 P4 W4=>(Ct.tup2 W4 (i:=1) (j:=2) rfl rfl)) (fun e4 Y4 s4 P4 W4=>Ci.nil) (fun e4 Y4 s4 P4 W4=>Ac.emit rfl fun X4=>(Rf.tup (Rfs.cons (Rf.loc (W4.x X4) (i:=2) rfl) (Rfs.cons (Rf.sb (Rf.cel (W4.x X4) (i:=4) rfl) (Rf.sb (Rf.cel (W4.x X4) (i:=3) rfl) (Rf.loc (W4.x X4) (i:=1) rfl))) Rfs.nil))))) px) Rss.nil)))) ?_ (by decide) (by decide) ?_
 ·intro fd vals h1 h2 h3 hl
  cases fd; simp only at h1 h2 h3; subst h1 h2 h3
  exact bind3 hl fun J J J=>rfl
 ·intro cvs kcvs r h
  apply due_all _ h
  clear h
  intro rs ps cell hsm
  refine ⟨rfl,?_⟩
  show Ends (seqM _ (seqM _ (seqM _ _)) [.list (il rs),.list (il ps),.int cell,.unb,.unb,.unb,.unb,.unb,.unb,.unb,.unb,.unb]) _
  refine bc fun hG=>?_
  obtain ⟨hs1,hs2,hs3⟩:=hsm
  refine hG ?_
  clear hG
  generalize hplan : ps.map Int.toNat = plan
  have hps : il ps = nl plan:=by
   rw [← hplan,nl,List.map_map,il]
   refine List.map_congr_left fun x hx=>?_
   have:=of_decide_eq_true (List.all_eq_true.mp hs3 x hx)
   exact congrArg CV.int (Int.toNat_of_nonneg this.1).symm
  have hpl : ∀ x∈plan,x < 5:=by
   intro x hx
   rw [← hplan] at hx
   obtain ⟨y,hy,rfl⟩:=List.mem_map.mp hx
   have:=of_decide_eq_true (List.all_eq_true.mp hs3 y hy)
   exact (Int.toNat_lt this.1).mpr this.2
  have hpn : plan.length≤100:=by rw [← hplan,List.length_map]; exact hs2
  rw [hps]
  refine .step (σ1:=[.mlist (il rs),.list (nl plan),.int cell,.unb,.list (sl W6),.list (pl (due0 cell)),.unb,.unb,.unb,.unb,.unb,.unb]) (ev_tup (is:=[]) (cvs:=[.list (sl W6),.mlist (il rs),.list (pl (due0 cell))]) ?_ (by exact List.getElem?_eq_none_iff.mp rfl) rfl (by decide) rfl) ?_
  ·refine ev_fro (a:=.list (sl W6)) rfl rfl (ev_map (a:=[.mlist (il rs),.list (pl (due0 cell))]) (ev_bind (a:=.mlist (il rs)) rfl (ev_map (a:=[.list (pl (due0 cell))]) (ev_fro (a:=.list (pl (due0 cell))) ?_ rfl rfl) rfl)) rfl)
   refine (ev_compR (v:=.rng 0 6 1) (xs:=rl 6) rfl (srcV_range 6 (by exact Nat.le_of_ble_eq_true rfl)) (fun σ=>∃ kv,isM kv = false∧σ = [.unb,kv,.unb,.int cell]) (fun J=>true) (fun x=>match x with | .int k=>pairC (k.toNat,letA k.toNat (cell.fdiv (2 ^ k.toNat))) | _=>.none) ?_ ⟨.unb,rfl,rfl⟩ (by exact List.getElem?_eq_none_iff.mp rfl)).trans ?_
   ·rintro σ x hx ⟨kv,hkv,rfl⟩
    obtain ⟨i,hi',rfl⟩:=List.mem_map.mp hx
    have hin : i < 6:=by exact List.mem_range.mp hi'
    refine ⟨_,stF_ok rfl (by exact Nat.one_lt_succ_succ [CV.unb,CV.int cell].length) hkv,rfl,⟨_,rfl,rfl⟩,fun J=>⟨?_,rfl⟩⟩
    refine ev_bind (a:=[.int i,.str (letA i (cell.fdiv (2 ^ i)))]) (ev_bind (a:=.int i) rfl (ev_map (a:=[.str (letA i (cell.fdiv (2 ^ i)))]) (ev_bind (a:=.str (letA i (cell.fdiv (2 ^ i)))) (ev_bind (a:=[.int i,.int (cell.fdiv (2 ^ i))]) (ev_bind (a:=.int i) rfl (ev_map (a:=[.int (cell.fdiv (2 ^ i))]) (ev_bind (a:=.int (cell.fdiv (2 ^ i))) (ev_bind (a:=.int cell) rfl (ev_bind (a:=.int (2 ^ i)) (ev_bind (a:=.int 2) rfl (ev_bind (a:=.int i) rfl ?_)) ?_)) rfl) rfl)) ?_) rfl) rfl)) rfl
    ·exact pow2 hin
    ·exact fdivS_int _ _ (Int.pow_ne_zero (by decide))
    ·exact call_place _ _ hin
   ·rw [List.filter_eq_self.mpr (by exact fun a a_1=>bi_tt.mpr trivial),rl,List.map_map,pl,due0,List.map_map]
    rfl
  ·refine .seq (R:=fun σ=>∃ kv tv,isM kv = false∧isM tv = false∧σ = [.mlist (il (dueSt rs plan cell plan.length).1),.list (nl plan),.int cell,kv,.list (sl W6),.list (pl (dueSt rs plan cell plan.length).2),tv,.unb,.unb,.unb,.unb,.unb]) ?_ ?_
   ·refine Goes.for (v:=.rng 0 plan.length 1) (xs:=rl plan.length) ?_ (srcV_range _ (by exact Nat.le_trans hpn (by decide))) ?_
    ·show some (CV.rng 0 (nl plan).length 1) = _
     rw [List.length_map]
    refine (forM_at (fun t σ=>∃ kv tv,isM kv = false∧isM tv = false∧σ = [.mlist (il (dueSt rs plan cell t).1),.list (nl plan),.int cell,kv,.list (sl W6),.list (pl (dueSt rs plan cell t).2),tv,.unb,.unb,.unb,.unb,.unb]) _ _ ?_ ⟨.unb,.unb,rfl,rfl,rfl⟩).mono ?_
    ·rintro t x σ hx ⟨kv,tv,hkv,htv,rfl⟩
     obtain ⟨rfl,ht⟩:=rl_at hx
     have hs : dueSt rs plan cell (t + 1) = dueStep cell (dueSt rs plan cell t) t (plan.getD t 0):=by
      unfold dueSt; rw [List.range_succ,List.foldl_append]; rfl
     have hk : plan.getD t 0 < 5:=hpl _ (by rw [List.getD_eq_getElem?_getD,List.getElem?_eq_getElem (by exact Nat.lt_of_succ_le ht)]; exact List.getElem_mem _)
     have hd:=due_ok cell hs1 hpl t (by exact Nat.le_of_succ_le ht)
     rw [hs]
     generalize dueSt rs plan cell t = st at *
     have hpt:=nl_get (l:=plan) ht
     generalize plan.getD t 0 = k at *
     obtain ⟨r,ns⟩:=st
     obtain ⟨d1,d2,d3⟩:=hd
     have d1' : small r = true:=d1
     have d3' : ∀ p∈ns,p.1 < 6:=d3
     have d2' : ns.length≤6 + 2 * t:=d2
     have hr : r.length = 6:=(small_iff.mp d1').1
     refine ⟨_,stF_ok rfl (by exact place_lt rfl) htv,?_⟩
     refine .step (σ1:=[.mlist (il r),.list (nl plan),.int cell,.int k,.list (sl W6),.list (pl ns),.int t,.unb,.unb,.unb,.unb,.unb]) (ev_asg (cv:=.int k) ?_ (stF_ok rfl (by exact place_lt rfl) hkv)) ?_
     ·show at? (nl plan) (t : Int) = _
      rw [at_nat,hpt]
     ·refine .seq (Goes.ite (decide (r.getD (k + 1) 0 < r.getD k 0)) ?_ (fun hb=>.step (ev_swap (i:=0) (r:=r) (p:=k) (q:=k + 1) rfl (by exact lt_of_isM rfl) (by exact hr▸Nat.lt_succ_of_lt hk) (by exact hr▸Nat.succ_lt_succ hk) ?_ rfl fun J=>rfl) ?_) (fun hb=>.nil ?_)) fun J q=>.nil q
      ·show (at? (il r) (k : Int)).bind (fun a=>(at? (il r) ((k + 1 : Nat) : Int)).bind fun b=>cmpS .Gt [] a b) = _
       rw [at_nat,at_nat,il_get (by exact hr▸Nat.lt_succ_of_lt hk),il_get (by exact hr▸Nat.succ_lt_succ hk)]
       rfl
      ·show (((at? (il r) ((k + 1 : Nat) : Int)).bind _)).bind _ = _
       rw [at_nat,il_get (by exact hr▸Nat.succ_lt_succ hk)]
       show (((at? (il r) (k : Int)).bind _).map _).bind _ = _
       rw [at_nat,il_get (by exact hr▸Nat.lt_succ_of_lt hk)]
       rfl
      ·have hb:=of_decide_eq_true hb
       generalize hfl : ns.filter (fun p : Nat × Str=>p.1 != k && p.1 != k + 1) = fl
       have hfll : fl.length≤ns.length:=by rw [← hfl]; exact List.length_filter_le _ _
       refine .step (σ1:=[.mlist (il (swapR r k (k + 1))),.list (nl plan),.int cell,.int k,.list (sl W6),.list (pl fl),.int t,.unb,.unb,.unb,.unb,.unb]) (ev_asg (cv:=.list (pl fl)) ?_ rfl) ?_
       ·refine (ev_compR (v:=.list (pl ns)) (xs:=pl ns) rfl rfl (fun σ=>∃ kv,isM kv = false∧σ = [.unb,kv,.int k]) (fun x=>match x with | .tup [.int a,_]=>a != (k : Int) && a != ((k + 1 : Nat) : Int) | _=>false) id ?_ ⟨.unb,rfl,rfl⟩ (by rw [pl_len]; lia)).trans ?_
        ·rintro σ x hx ⟨kv,hkv,rfl⟩
         obtain ⟨q,hq,rfl⟩:=List.mem_map.mp hx
         refine ⟨_,stF_ok rfl (by exact Nat.one_lt_succ_succ [CV.int ↑k].length) hkv,?_,⟨_,rfl,rfl⟩,fun J=>⟨rfl,rfl⟩⟩
         show ((eqS (.int q.1) (.int k)).map _).bind (fun a=>if a = true then (eqS (.int q.1) (.int ((k + 1 : Nat) : Int))).map _ else some false) = _
         rw [eqS_int,eqS_int]
         show (if (!decide ((q.1 : Int) = (k : Int))) = true then some (!decide ((q.1 : Int) = ((k + 1 : Nat) : Int))) else some false) = some ((q.1 : Int) != (k : Int) && (q.1 : Int) != ((k + 1 : Nat) : Int))
         rw [bne,bne]
         by_cases h1 : (q.1 : Int) = (k : Int)
         ·rw [decide_eq_true h1,show ((q.1 : Int) == (k : Int)) = true from beq_iff_eq.mpr h1]; rfl
         ·rw [decide_eq_false h1,show ((q.1 : Int) == (k : Int)) = false from beq_eq_false_iff_ne.mpr h1]
          by_cases h2 : (q.1 : Int) = ((k + 1 : Nat) : Int)
          ·rw [decide_eq_true h2,show ((q.1 : Int) == ((k + 1 : Nat) : Int)) = true from beq_iff_eq.mpr h2]; rfl
          ·rw [decide_eq_false h2,show ((q.1 : Int) == ((k + 1 : Nat) : Int)) = false from beq_eq_false_iff_ne.mpr h2]; rfl
        ·rw [List.map_id,pl,List.filter_map,← hfl]
         refine congrArg (fun z=>some (CV.list (z.map pairC))) (List.filter_congr fun q hq=>?_)
         show ((q.1 : Int) != (k : Int) && (q.1 : Int) != ((k + 1 : Nat) : Int)) = (q.1 != k && q.1 != k + 1)
         rw [Bool.eq_iff_iff]
         simp only [Bool.and_eq_true,bne_iff_ne]
         lia
       ·refine .step (σ1:=[.mlist (il (swapR r k (k + 1))),.list (nl plan),.int cell,.int k,.list (sl W6),.list (pl (fl ++ [(k,letA k (t + cell)),(k + 1,letA (k + 1) t)])),.int t,.unb,.unb,.unb,.unb,.unb]) (ev_asg (cv:=.list (pl (fl ++ [(k,letA k (t + cell)),(k + 1,letA (k + 1) t)]))) ?_ rfl) (.nil ?_)
        ·have p1 : ∀ σ,callS placeS σ [.int k,.int (t + cell)] [] = some (.str (letA k (t + cell))):=fun σ=>call_place σ _ (by exact Nat.lt_succ_of_lt hk)
         have p2 : ∀ σ,callS placeS σ [.int (k + 1 : Nat),.int t] [] = some (.str (letA (k + 1) t)):=fun σ=>call_place σ _ (by exact Nat.succ_lt_succ hk)
         refine ev_bind (a:=.list (pl fl)) rfl (ev_bind (a:=.list [pairC (k,letA k (t + cell)),pairC (k + 1,letA (k + 1) t)]) (ev_bind (a:=[pairC (k,letA k (t + cell)),pairC (k + 1,letA (k + 1) t)]) (ev_bind (a:=pairC (k,letA k (t + cell))) (ev_bind (a:=[.int k,.str (letA k (t + cell))]) (ev_bind (a:=.int k) rfl (ev_map (a:=[.str (letA k (t + cell))]) (ev_bind (a:=.str (letA k (t + cell))) (ev_bind (a:=[.int k,.int (t + cell)]) rfl ?_) rfl) rfl)) rfl)
          (ev_map (a:=[pairC (k + 1,letA (k + 1) t)]) (ev_bind (a:=pairC (k + 1,letA (k + 1) t)) (ev_bind (a:=[.int (k + 1 : Nat),.str (letA (k + 1) t)]) (ev_bind (a:=.int (k + 1 : Nat)) rfl (ev_map (a:=[.str (letA (k + 1) t)]) (ev_bind (a:=.str (letA (k + 1) t)) (ev_bind (a:=[.int (k + 1 : Nat),.int t]) rfl ?_) rfl) rfl)) rfl) rfl) rfl)) rfl) ?_)
         ·exact p1 _
         ·exact p2 _
         ·show (if (pl fl).length + 2≤4096 then some (CV.list (pl fl ++ _)) else none) = _
          rw [if_pos (by rw [pl_len]; lia),pl,pl,List.map_append]
          rfl
        ·refine ⟨.int k,.int t,rfl,rfl,?_⟩
         have e : dueStep cell (r,ns) t k = (swapR r k (k + 1),fl ++ [(k,letA k (t + cell)),(k + 1,letA (k + 1) t)]):=by
          rw [← hfl]; exact if_pos hb
         rw [e]
      ·have hb:=of_decide_eq_false hb
       refine ⟨.int k,.int t,rfl,rfl,?_⟩
       have e : dueStep cell (r,ns) t k = (r,ns):=if_neg hb
       rw [e]
    ·rintro σ qq1
     refine bc fun hG=>?_
     obtain ⟨kv,tv,h1,h2,rfl⟩:=qq1
     refine hG ?_
     clear hG
     refine ⟨kv,tv,h1,h2,?_⟩
     rw [List.length_map,List.length_range]
   ·rintro σ ⟨kv,tv,hkv,htv,rfl⟩
    have hd:=due_ok cell hs1 hpl plan.length (Nat.le_refl _)
    have hL : dueL rs plan cell = (dueSt rs plan cell plan.length).2.map fun p=>(p.2,W6.getD ((dueSt rs plan cell plan.length).1.getD p.1 0).toNat default):=rfl
    rw [hL]
    generalize dueSt rs plan cell plan.length = st at *
    obtain ⟨r,ns⟩:=st
    obtain ⟨d1,d2,d3⟩:=hd
    have d1' : small r = true:=d1
    have d3' : ∀ p∈ns,p.1 < 6:=d3
    have d2' : ns.length≤6 + 2 * plan.length:=d2
    obtain ⟨hr,hr2⟩:=small_iff.mp d1'
    refine .retM (a:=.list ((ns.map fun p=>(p.2,W6.getD (r.getD p.1 0).toNat default)).map itemC)) ?_ rfl
    refine (ev_compR (v:=.list (pl ns)) (xs:=pl ns) rfl rfl (fun σ=>∃ kv jv,isM kv = false∧isM jv = false∧σ = [.unb,kv,jv,.mlist (il r),.list (sl W6)]) (fun x=>true) (fun x=>match x with | .tup [.int a,.str n]=>itemC (n,W6.getD (r.getD a.toNat 0).toNat default) | _=>.none) ?_ ⟨.unb,.unb,rfl,rfl,rfl⟩ (by rw [pl_len]; lia)).trans ?_
    ·rintro σ x hx qq3
     refine bc fun hG=>?_
     obtain ⟨kv,jv,hkv,hjv,rfl⟩:=qq3
     refine hG ?_
     clear hG
     refine bc fun hG=>?_
     obtain ⟨q,hq,rfl⟩:=List.mem_map.mp hx
     refine hG ?_
     clear hG
     have hq6:=d3' q hq
     refine ⟨[.unb,.int q.1,.str q.2,.mlist (il r),.list (sl W6)],?_,rfl,⟨_,_,rfl,rfl,rfl⟩,fun J=>⟨?_,rfl⟩⟩
     ·refine ev_bind (f:=stF 2 (.str q.2)) (stF_ok (i:=1) (cv:=.int q.1) (σ:=[.unb,kv,jv,.mlist (il r),.list (sl W6)]) rfl (by exact Nat.one_lt_succ_succ [jv,CV.mlist (il r),CV.list (sl W6)].length) hkv) ?_
      exact stF_ok (i:=2) (cv:=.str q.2) (σ:=[.unb,.int q.1,jv,.mlist (il r),.list (sl W6)]) rfl (by exact place_lt rfl) hjv
     ·have hv:=hr2 (r.getD q.1 0) (by rw [List.getD_eq_getElem?_getD,List.getElem?_eq_getElem (by lia)]; exact List.getElem_mem _)
      refine ev_bind (a:=[.str q.2,.str (W6.getD (r.getD q.1 0).toNat default)]) (ev_bind (a:=.str q.2) rfl (ev_map (a:=[.str (W6.getD (r.getD q.1 0).toNat default)]) (ev_bind (a:=.str (W6.getD (r.getD q.1 0).toNat default)) (ev_bind (a:=.list (sl W6)) rfl (ev_bind (a:=.int (r.getD q.1 0)) (ev_bind (a:=.own 3) rfl (ev_bind (a:=.int q.1) rfl ?_)) ?_)) rfl) rfl)) rfl
      ·show at? (il r) (q.1 : Int) = _
       rw [at_nat,il_get (by lia)]
      ·show at? (sl W6) (r.getD q.1 0) = _
       obtain ⟨j,hj⟩:=Int.eq_ofNat_of_zero_le hv.1
       rw [hj,at_nat,sl_get (by have : W6.length = 6:=rfl; lia)]
       rfl
    ·rw [List.filter_eq_self.mpr (by exact fun a a_1=>bi_tt.mpr trivial),pl,List.map_map,List.map_map]
     rfl
end
section
variable {prog : Program} {w : World} {hT : Heap} {c : FC} {own : Nat→Option Addr} {σ : List CV} {s : Shared} {mg mb : Str→Option Value}
theorem Rf.fre (W : Wf c) {i : Nat} {y : Str} {pos : Pos} {a : Addr} {cv : CV} {v : Value} (hn : c.names[i]? = some (y,.free)) (hP : ∀ a,¬ c.P a) (hc : c.env.cells.lookup y = some a) (hX : ¬ c.X a) (ha : c.s0.heap.IsCell a (some v)) (r : VR c.X c.s0.heap cv v)
  (hd : (y == ("__debug__" : Str)) = false:=by decide) (hd2 : (y == ("__classdict__" : Str)) = false:=by decide) : Rf prog w hT c (.Name y pos) (fun J=>some cv):=fun own σ s cv' x e=>by
 cases e
 have mv : ∀ b o,¬ c.X b→c.s0.heap.get? b = some o→¬ FF c own b∧s.heap.get? b = some o:=fun b o hb e=>by
  have ht : b ≠ tabA:=fun q=>hb (q▸x.xt)
  refine ⟨fun f=>?_,x.kp b o (hP b) ht e⟩
  rcases f with f | f | ⟨j,z,q1,q2,q3⟩ | ⟨j,f⟩
  ·exact hb f
  ·have:=x.lf; rw [← f,e] at this; cases this
  ·obtain ⟨a',ov,e1,_,_,e4⟩:=x.cel j z q1
   rw [e1] at q3; cases q3
   rw [e4 q2] at e; cases e
  ·rcases x.ofr j b f with q | q
   ·rw [q.1] at e; cases e
   ·exact hP b q
 refine bc fun hG=>?_
 obtain ⟨o,ho,hd'⟩:=ha
 refine hG ?_
 clear hG
 exact wpAny_Name (wpAny_loadName_free W.kind (W.kindOf hn) hc ⟨o,(mv a o hX ho).2,hd'⟩ ⟨.refl _,(r.move mv).er⟩ hd2) hd
theorem lam_names (two : Bool) : (lamScope two).names = [(("at" : Str),NameKind.local),(lamName two,NameKind.free),(("_strxfrm" : Str),NameKind.globalImplicit)]:=by cases two <;> rfl
theorem lam_kind (two : Bool) : (lamScope two).kind = .function∧(lamScope two).isCoroutine = false∧(lamScope two).isGenerator = false:=by cases two <;> exact ⟨rfl,rfl,rfl⟩
theorem lam_bind {two : Bool} {fd : FuncData} {v : Value} (h1 : fd.params = lamArgs two) (h2 : fd.defaults = .none) (h3 : fd.kwdefaults = .none) : bindArgs fd ⟨[v],[]⟩ = pure [(("at" : Str),v)]:=by
 cases fd; simp only at h1 h2 h3; subst h1 h2 h3
 cases two <;> rfl
theorem lam_body (T : Tops prog hT mg mb) (W : Wf c) (hA : AOk 18 c.A) (two : Bool) {row : CV} {v : Value} {a : Addr} (hn : c.names = (lamScope two).names) (hP : ∀ a,¬ c.P a) (hc : c.env.cells.lookup (lamName two) = some a) (hX : ¬ c.X a) (ha : c.s0.heap.IsCell a (some v)) (r : VR c.X c.s0.heap row v) :
  ∃ m,Rf prog w hT c (lamBody two) m∧∀ k,nm 0 [k,.unb,.unb] = some k→noM k = true→m [k,.unb,.unb] = (itemS [k,.unb,.unb] row k).bind fun x=>callS xfrmS [k,.unb,.unb] [x] []:=by
 rw [lam_names] at hn
 have n0 : c.names[0]? = some (("at" : Str),NameKind.local):=by rw [hn]; rfl
 have n1 : c.names[1]? = some (lamName two,NameKind.free):=by rw [hn]; rfl
 have n2 : c.names[2]? = some (("_strxfrm" : Str),NameKind.globalImplicit):=by rw [hn]; rfl
 cases two with
 | true =>
  refine ⟨_,Rf.call (Rf.glb T.tf W n2 T.g88 rfl) T.r88 (by decide) (xfrm_fn T) (hA.mono (by decide)) (Rfs.cons (Rf.sb (Rf.fre W n1 hP hc hX ha r) (Rf.loc W n0)) Rfs.nil),fun k hk hk2=>?_⟩
  show (((nm 0 [k,.unb,.unb]).bind fun b=>itemS _ row b).bind _).bind _ = _
  rw [hk]
  show ((itemS _ row k).bind _).bind _ = _
  cases itemS [k,CV.unb,CV.unb] row k <;> rfl
 | false =>
  refine ⟨_,Rf.call (Rf.glb T.tf W n2 T.g88 rfl) T.r88 (by decide) (xfrm_fn T) (hA.mono (by decide)) (Rfs.cons (Rf.sb (Rf.fre W n1 hP hc hX ha r) (Rf.loc W n0)) Rfs.nil),fun k hk hk2=>?_⟩
  show (((nm 0 [k,.unb,.unb]).bind fun b=>itemS _ row b).bind _).bind _ = _
  rw [hk]
  show ((itemS _ row k).bind _).bind _ = _
  cases itemS [k,CV.unb,CV.unb] row k <;> rfl
theorem lam_nocell (two : Bool) : ∀ z∈(lamScope two).names,z.2 ≠ NameKind.cell:=by cases two <;> decide
set_option tactic.hygienic true in
theorem lam_call (T : Tops prog hT mg mb) {A : Around} {F : Addr→Prop} {two : Bool} {rows : List Str} {v kv : Value} {k : Nat} {x : Str} (hA : AOk 19 A) (hs : At hT s) (hF : F tabA) (hFa : ∀ a,F a→a ≠ tabA→NF s.heap a) (hv : VR F s.heap (.lam two (.list (sl rows))) v) (hk : VR F s.heap (.int k) kv)
  (hx : rows[k]? = some x) : wpAny (model prog w) A (call v [kv] []) (fun r s'=>Ex s s'∧VR F s'.heap (.str x) r) noE s:=by
 cases hv with
 | lam hfa hfc ho e1 e2 e3 e4 e5 e6 e7 e8 e9 e10 ec ecell hrow =>
  rename_i a c o fd v
  refine bc fun hG=>?_
  obtain ⟨cc,oc,vc,tc,q1,q2,q3,q3',q4,q5⟩:=ec
  refine hG ?_
  clear hG
  refine wpAny_call ?_
  refine kla_callFunE (by have:=hA.dp; show A.depth < 1000; lia) ho e2 (by rw [e5]; exact (lam_kind two).2.1) (by rw [e5]; exact (lam_kind two).2.2) e4 ⟨cc,oc,vc,tc,q1,q3,q4,q5⟩ ?_
  rw [lam_bind e3 e9 e10]
  refine wpAny_pure ?_
  have hnames : fd.scope.names = [(("at" : Str),NameKind.local),(lamName two,NameKind.free),(("_strxfrm" : Str),NameKind.globalImplicit)]:=by rw [e5]; exact lam_names two
  refine wpAny_newFunctionEnv (around:=none) (fun y hy=>?_) (fun y hy=>?_) (fun h' hns hsb=>?_) (by rw [e5]; exact (lam_kind two).1)
  ·rw [hnames] at hy
   simp only [List.mem_cons,List.not_mem_nil,or_false] at hy
   rcases hy with rfl | rfl | rfl <;> (intro q; cases q)
  ·simp only [List.mem_cons,List.not_mem_nil,or_false] at hy
   subst hy
   rw [hnames]; rfl
  ·dsimp only
   generalize hL : s.heap.objs.size = L at hns hsb
   have hLn : s.heap.get? L = none:=by
    cases e : s.heap.get? L with
    | none=>rfl
    | some o=>exact absurd (Heap.lt_size e) (by rw [hL]; exact Nat.lt_irrefl _)
   have keep : ∀ b o,s.heap.get? b = some o→h'.get? b = some o:=fun b o e=>hsb.extBut b o (fun q=>by rw [q,hLn] at e; cases e) (Heap.get?_push_of_some _ e)
   refine ⟨(hs.lim T.tf).keeps keep,kla_codeExpr ?_⟩
   generalize henv : newEnv fd.scope L fd.globals fd.closure (fd.qualname ++ ".<locals>.") (some a) fd.code none fd.builtins = env
   have hes : env.scope = fd.scope:=by rw [← henv]; rfl
   have hel : env.locals = L:=by rw [← henv]; rfl
   have heg : env.globals = mainGlobals:=by rw [← henv]; exact e6
   have heb : env.builtins = builtinsNs:=by rw [← henv]; exact e7
   have hec : env.cells = [(lamName two,c)]:=by rw [← henv]; exact e8
   generalize hcc : (⟨A.deeper env,env,F,s,fun J=>False,fun J=>false⟩ : FC) = cf
   have hcn : cf.names = (lamScope two).names:=by rw [← hcc]; show env.scope.names = _; rw [hes,e5]
   have hAd : AOk 18 cf.A:=by rw [← hcc]; exact (show AOk (18 + 1) A from hA).deeper env
   have W : Wf cf:=by
    refine ⟨hAd.mono (by decide),?_,?_,?_,?_,?_⟩
    ·obtain ⟨l,hl⟩:=hA.fs
     refine ⟨env,l,?_,by rw [hes,e5]; exact (lam_kind two).2.2,by rw [hes,e5]; exact (lam_kind two).2.1,heb,heg⟩
     rw [← hcc]
     show A.frames.map (env::·) = _; rw [hl]; rfl
    ·rw [← hcc]; show env.scope.kind = _; rw [hes,e5]; exact (lam_kind two).1
    ·rw [← hcc]; exact heg
    ·rw [← hcc]; exact heb
    ·rw [hcn,lam_names]; cases two <;> decide
   obtain ⟨m,hm,hm2⟩:=lam_body T W hAd two (row:=.list (sl rows)) (v:=v) (a:=c) hcn (by rw [← hcc]; exact fun J q=>q) (by rw [← hcc]; show env.cells.lookup _ = _; rw [hec]; simp) (by rw [← hcc]; exact hfc) (by
    rw [← hcc]; exact ecell) (by rw [← hcc]; exact hrow)
   have nocell : ∀ (i : Nat) y,cf.names[i]? ≠ some (y,NameKind.cell):=fun j z p1=>by
    rw [hcn] at p1
    exact lam_nocell two _ (List.mem_of_getElem? p1) rfl
   have mv : ∀ b o,¬ F b→s.heap.get? b = some o→¬ FF cf noO b∧h'.get? b = some o:=fun b o hb e=>by
    refine ⟨fun f=>?_,keep b o e⟩
    rcases f with f | f | ⟨j,z,p1,p2,p3⟩ | ⟨j,f⟩
    ·rw [← hcc] at f; exact hb f
    ·rw [← hcc] at f
     rw [f,show (⟨A.deeper env,env,F,s,fun J=>False,fun J=>false⟩ : FC).env.locals = L from hel,hLn] at e; cases e
    ·exact (nocell j z p1).elim
    ·exact none_ne f
   have sr : SR hT cf noO [.int k,.unb,.unb] { s with heap:=h',toks:=s.toks + [(("at" : Str),kv)].length }:=by
    subst hcc
    refine ⟨hs.top.trans (.of_all keep),hs.top,fun J q=>q.elim,fun J q=>q.elim,rfl,⟨hs.gens,fun J J e=>e⟩,fun b o J J e=>keep b o e,fun ps t=>⟨#[],by rw [Array.append_empty]; exact t.keeps keep⟩,by obtain ⟨ps,t⟩:=hs.tok; exact ⟨ps,t.keeps keep⟩,hF,fun a h ht=>(hFa a h ht).keeps fun o=>keep a o,
     by show s.heap.get? env.locals = none; rw [hel]; exact hLn,⟨_,(by show h'.Ns env.locals _; rw [hel]; exact hns),fun i y hy=>?_⟩,fun i y hy=>(nocell i y hy).elim,fun i j y z a hy=>(nocell i y hy).elim,fun i j a e=>(by cases e),fun i a e=>(by cases e),fun i a e=>(by cases e)⟩
    have hy' : (lamScope two).names[i]? = some (y,NameKind.local):=by rw [← hcn]; exact hy
    rw [lam_names] at hy'
    match i,hy' with
    | 0,hy'=>cases hy'; exact ⟨kv,rfl,hk.move mv⟩
    | 1,hy'=>cases hy'
    | 2,hy'=>cases hy'
    | i + 3,hy'=>simp at hy'
   have hitem : itemS [.int k,.unb,.unb] (.list (sl rows)) (.int k) = some (.str x):=by
    show at? (sl rows) (k : Int) = _
    unfold at?
    rw [if_pos (by exact Int.natCast_nonneg k),sl,List.getElem?_map]
    simp [hx]
   have hval : m [.int k,.unb,.unb] = some (.str x):=by rw [hm2 (.int k) rfl rfl,hitem]; rfl
   have hb:=hm noO _ _ (.str x) sr hval
   subst hcc
   refine wpAny_mono hb (fun r s' q=>?_) fun J J q=>q.elim
   have q2:=q.2
   obtain ⟨_,rfl⟩:=VR.str_inv q2
   exact ⟨(Ex.all (s:=s) keep).trans q.1,.str _ _⟩
end
noncomputable def lamF (f : CV) (cvs : List CV) : Option CV:=asW (fun J=>asL fun vs=>on1 (asI fun k=>(strs? vs).bind fun r=>if 0≤k then r[k.toNat]?.map .str else none) cvs) f
section
variable {prog : Program} {w : World} {hT : Heap} {c : FC} {own : Nat→Option Addr} {σ : List CV} {s : Shared} {mg mb : Str→Option Value}
theorem Rf.callL (T : Tops prog hT mg mb) {y : Str} {py pos : Pos} {e : PySem.Expr} {mf : List CV→Option CV} {ms : List CV→Option (List CV)} (hA : AOk 19 c.A) (hf : Rf prog w hT c (.Name y py) mf) (hs : Rfs prog w hT c [e] ms)
  (he : ∀ env,starEach [e] env = [(false,eval e env)]:=by intro _; rfl) :
  Rf prog w hT c (.Call (.Name y py) [e] [] pos) (fun σ=>(mf σ).bind fun f=>(ms σ).bind fun cvs=>lamF f cvs):=fun own σ s cv x e'=>by
 refine bc fun hG=>?_
 revert e'
 refine oR fun f e0 e'=>?_
 refine oE e' fun cvs e1 e2=>?_
 refine hG ?_
 clear hG
 refine bc fun hG=>?_
 obtain ⟨two,_,rfl,g⟩:=asW_inv e2
 clear e2 e'
 obtain ⟨vs,rfl,g2⟩:=asL_inv g
 clear g
 obtain ⟨_,rfl,g3⟩:=on1_inv g2
 clear g2
 obtain ⟨k,rfl,g4⟩:=asI_inv g3
 clear g3
 revert g4
 refine oR fun rows e3 g5=>?_
 obtain ⟨hk0,g6⟩:=ite_opt g5
 clear g5
 obtain ⟨u,e5,rfl⟩:=oM g6
 clear g6
 obtain ⟨k,rfl⟩:=Int.eq_ofNat_of_zero_le hk0
 refine hG ?_
 clear hG
 have:=strs_eq e3
 subst this
 refine wpAny_Call_Name_kw (wp_w (hf own σ s _ x e0) fun fv s₁ h₁=>?_)
 have hv : VR (FF c own) s₁.heap (.lam two (.list (sl rows))) fv:=h₁.2
 have x₁:=x.ex h₁.1
 obtain ⟨a,o,fd,rfl,ha,ho,hd⟩ : ∃ a o fd,fv = .ref a∧¬ FF c own a∧s₁.heap.get? a = some o∧o.data = .func fd:=by
  cases hv with
  | lam hfa hfc ho e1 e2=>exact ⟨_,_,_,rfl,hfa,ho,e2⟩
 have hs':=hs pos own σ s₁ _ x₁ e1
 show wpAny _ _ (callWith pos (.ref a) [] (backTo pos (starEach [e] c.env)) []) _ _ _
 rw [he] at hs' ⊢
 refine callWith_function (o:=o) (fd:=fd) (evalArgs_plain (wp_w hs' fun vs s₂ h₂=>?_))
 have x₂:=x₁.ex h₂.1
 have hv2:=hv.kp x₁.ft h₂.1.kp
 refine ⟨⟨h₂.1.kp.keep a o (fun q=>ha (q▸x₁.ft)) ho,hd⟩,?_⟩
 obtain ⟨kv,rfl,rk⟩:=args1 rfl h₂.2.1 h₂.2.2
 have rk' : VR (FF c own) s₂.heap (.int k) kv:=rk
 exact wp_w (lam_call T hA x₂.at x₂.ft (fun a h ht=>x₂.fal h ht) hv2 rk' (by simpa using e5)) fun v s₃ h₃=>⟨h₁.1.trans (h₂.1.trans h₃.1),h₃.2.er⟩
theorem Rs.any {st : Stmt} : Rs prog w hT c st (fun J=>none):=fun own σ s f σ' x e=>by cases e
theorem Rss.any {st : List Stmt} : Rss prog w hT c st (fun J=>none):=fun own σ s f σ' x e=>by cases e
end
theorem ev_seq {m1 m2 : CM} {σ σ1 : List CV} {r : Option (CF × List CV)} (h1 : m1 σ = some (.next,σ1)) (h2 : m2 σ1 = r) : seqM m1 m2 σ = r:=by
 unfold seqM; rw [h1]; exact h2
theorem ev_ifT {mt : List CV→Option Bool} {m1 m2 : CM} {σ : List CV} {r : Option (CF × List CV)} (h : mt σ = some true) (h2 : m1 σ = r) : ifM mt m1 m2 σ = r:=by
 unfold ifM; rw [h]; exact h2
theorem ev_ifF {mt : List CV→Option Bool} {m1 m2 : CM} {σ : List CV} {r : Option (CF × List CV)} (h : mt σ = some false) (h2 : m2 σ = r) : ifM mt m1 m2 σ = r:=by
 unfold ifM; rw [h]; exact h2
noncomputable def bs (p : Nat→Bool) : Nat→Nat→Nat→Nat
 | 0,lo,_=>lo
 | f + 1,lo,hi=>if lo < hi then (if p ((lo + hi) / 2) then bs p f ((lo + hi) / 2 + 1) hi else bs p f lo ((lo + hi) / 2)) else lo
theorem bs_done (p : Nat→Bool) {f lo hi : Nat} (h : hi≤lo) : bs p f lo hi = lo:=by
 cases f with
 | zero=>rfl
 | succ f=>unfold bs; rw [if_neg (by exact Nat.not_lt.mpr h)]
theorem half {lo hi : Nat} (h : lo < hi) : lo≤(lo + hi) / 2∧(lo + hi) / 2 < hi :=
 ⟨(Nat.le_div_iff_mul_le Nat.two_pos).mpr (by rw [Nat.mul_two]; exact Nat.add_le_add_left (Nat.le_of_lt h) lo),(Nat.div_lt_iff_lt_mul Nat.two_pos).mpr (by rw [Nat.mul_two]; exact Nat.add_lt_add_right h hi)⟩
theorem half_up {f lo hi m : Nat} (h : hi - lo≤f + 1) (hm : lo≤m) : hi - (m + 1)≤f :=
 Nat.sub_le_iff_le_add.mpr (Nat.le_trans (Nat.sub_le_iff_le_add.mp h) (by rw [Nat.succ_add_eq_add_succ]; exact Nat.add_le_add_left (Nat.succ_le_succ hm) f))
theorem half_dn {f lo hi m : Nat} (h : hi - lo≤f + 1) (hm : m < hi) : m - lo≤f :=
 Nat.sub_le_iff_le_add.mpr (Nat.le_of_succ_le_succ (Nat.le_trans hm (Nat.le_trans (Nat.sub_le_iff_le_add.mp h) (Nat.le_of_eq (Nat.succ_add f lo)))))
theorem bs_more (p : Nat→Bool) : ∀ (f lo hi : Nat),hi - lo≤f→bs p (f + 1) lo hi = bs p f lo hi:=by
 intro f
 induction f with
 | zero =>
  intro lo hi h
  have h:=Nat.le_of_sub_eq_zero (Nat.le_zero.mp h)
  rw [bs_done p h,bs_done p h]
 | succ f bs_more =>
  intro lo hi h
  show (if lo < hi then (if p ((lo + hi) / 2) then bs p (f + 1) ((lo + hi) / 2 + 1) hi else bs p (f + 1) lo ((lo + hi) / 2)) else lo) = (if lo < hi then (if p ((lo + hi) / 2) then bs p f ((lo + hi) / 2 + 1) hi else bs p f lo ((lo + hi) / 2)) else lo)
  by_cases hl : lo < hi
  ·rw [if_pos hl,if_pos hl,bs_more _ _ (half_up h (half hl).1),bs_more _ _ (half_dn h (half hl).2)]
  ·rw [if_neg hl,if_neg hl]
theorem bs_step (p : Nat→Bool) {lo hi : Nat} (h : lo < hi) (h8 : hi - lo≤9) : bs p 9 lo hi = if p ((lo + hi) / 2) then bs p 9 ((lo + hi) / 2 + 1) hi else bs p 9 lo ((lo + hi) / 2):=by
 rw [bs,if_pos h]
 split
 ·exact (bs_more p 8 _ _ (half_up h8 (half h).1)).symm
 ·exact (bs_more p 8 _ _ (half_dn h8 (half h).2)).symm
noncomputable def bsP (left : Bool) (ks : List Str) (x : Str) (m : Nat) : Bool:=if left then sLt (ks.getD m default) x else !sLt x (ks.getD m default)
noncomputable def bsL (left : Bool) (ks : List Str) (x : Str) : Nat:=bs (bsP left ks x) 9 0 ks.length
noncomputable def bisC (left : Bool) (vs : List CV) (x : Str) (rs : List CV) : Option CV:=(ints? vs).bind fun as=>(strs? rs).bind fun rows =>
 if as.length≤8∧(as.all fun i=>decide (0≤i∧i < rows.length)) = true then some (.int (bsL left (as.map fun i=>rows.getD i.toNat default) x : Nat)) else none
noncomputable def z0 : CV→Bool
 | .int i=>i == 0
 | _=>false
noncomputable def restOk : List CV→Bool
 | []=>true
 | a::l=>(on1 (fun b=>if (z0 a && isNn b) = true then some () else none) l).isSome
theorem z0_eq {a : CV} (h : z0 a = true) : a = .int 0:=by
 cases a <;> first | exact ff h | exact congrArg CV.int (beq_iff_eq.mp h)
theorem restOk_eq {l : List CV} (h : restOk l = true) : l = []∨l = [.int 0,.none]:=by
 cases l with
 | nil=>exact .inl rfl
 | cons a l =>
  obtain ⟨_,e⟩:=Option.isSome_iff_exists.mp h
  obtain ⟨b,rfl,e⟩:=on1_inv e
  obtain ⟨h1,h2⟩:=bA (ite_some e).1
  exact .inr (by rw [z0_eq h1,isNn_eq h2])
noncomputable def bisS (left : Bool) : List CV→List CV→Option CV
 | a::b::l,ks=>if restOk l = true then asL (fun vs=>asS (fun x=>on1 (asW fun J=>asL (bisC left vs x)) ks) b) a else none
 | _,_=>none
noncomputable def bisFill : List CV→List CV→List CV
 | [a,x],[k]=>[a,x,.int 0,.none,k]
 | [a,x,l,h],[k]=>[a,x,l,h,k]
 | _,_=>[]
theorem bisS_shape {left : Bool} {cvs kcvs : List CV} {r : CV} (h : bisS left cvs kcvs = some r) :
  ∃ as rows x t,∃ _ : as.length≤8,∃ _ : (as.all fun i=>decide (0≤i∧i < (rows : List Str).length)) = true,r = .int (bsL left (as.map fun i=>rows.getD i.toNat default) x : Nat)∧kcvs = [.lam t (.list (sl rows))]∧(cvs = [.list (il as),.str x]∨cvs = [.list (il as),.str x,.int 0,.none]):=by
 have go : ∀ {vs rs : List CV} {x : Str},bisC left vs x rs = some r→∃ as rows,∃ _ : as.length≤8,∃ _ : (as.all fun i=>decide (0≤i∧i < (rows : List Str).length)) = true,r = .int (bsL left (as.map fun i=>rows.getD i.toNat default) x : Nat)∧vs = il as∧rs = sl rows:=by
  intro vs rs x h
  refine bc fun hG=>?_
  revert h
  refine oR fun as h1 h=>?_
  revert h
  refine oR fun rows h2 h=>?_
  refine hG ?_
  clear hG
  replace h:=ite_opt h
  obtain ⟨hc,h⟩:=h
  ·cases h
   exact ⟨as,rows,hc.1,hc.2,rfl,ints_eq h1,strs_eq h2⟩
 match cvs with
 | []=>exact none_ne h
 | [_]=>exact none_ne h
 | a::b::l =>
  replace h : (if restOk l = true then asL (fun vs=>asS (fun x=>on1 (asW fun J=>asL (bisC left vs x)) kcvs) b) a else none) = some r:=h
  split at h
  ·rename_i hl
   replace h:=asL_inv h
   refine bc fun hG=>?_
   obtain ⟨vs,rfl,h⟩:=h
   replace h:=asS_inv h
   obtain ⟨x,rfl,h⟩:=h
   replace h:=on1_inv h
   obtain ⟨_,rfl,h⟩:=h
   replace h:=asW_inv h
   obtain ⟨t,row,rfl,h⟩:=h
   replace h:=asL_inv h
   obtain ⟨_,rfl,h⟩:=h
   obtain ⟨as,rows,q1,q2,q3,rfl,rfl⟩:=go h
   refine hG ?_
   clear hG
   exact ⟨as,rows,x,t,q1,q2,q3,rfl,(restOk_eq hl).imp (fun q=>by rw [q]) fun q=>by rw [q]⟩
  ·exact none_ne h
theorem bis_vals {F : Addr→Prop} {h : Heap} {left : Bool} {cvs kcvs : List CV} {vals kvals : List Value} {r : CV} (hr : bisS left cvs kcvs = some r) (hv : VRs F h cvs vals) (hk : VRs F h kcvs kvals) (dtk : Tok) :
  ∃ v1 v2 k,kvals = [k]∧((vals = [v1,v2]∧VRs F h (bisFill cvs kcvs) [v1,v2,.int 0 dtk,.none,k])∨∃ v3 v4,vals = [v1,v2,v3,v4]∧VRs F h (bisFill cvs kcvs) [v1,v2,v3,v4,k]):=by
 refine bc fun hG=>?_
 obtain ⟨as,rows,x,t,_,_,_,rfl,hcv⟩:=bisS_shape hr
 clear hr
 obtain ⟨k,_,rfl,r5,hk⟩:=hk.cons_inv
 obtain rfl:=hk.nil_inv
 refine hG ?_
 clear hG
 rcases hcv with rfl | rfl
 ·obtain ⟨v1,_,rfl,r1,hv⟩:=hv.cons_inv
  obtain ⟨v2,_,rfl,r2,hv⟩:=hv.cons_inv
  obtain rfl:=hv.nil_inv
  exact ⟨v1,v2,k,rfl,.inl ⟨rfl,.cons r1 (.cons r2 (.cons (.int 0 dtk) (.cons .none (.cons r5 .nil))))⟩⟩
 ·obtain ⟨v1,_,rfl,r1,hv⟩:=hv.cons_inv
  obtain ⟨v2,_,rfl,r2,hv⟩:=hv.cons_inv
  obtain ⟨v3,_,rfl,r3,hv⟩:=hv.cons_inv
  obtain ⟨v4,_,rfl,r4,hv⟩:=hv.cons_inv
  obtain rfl:=hv.nil_inv
  exact ⟨v1,v2,k,rfl,.inr ⟨v3,v4,rfl,.cons r1 (.cons r2 (.cons r3 (.cons r4 (.cons r5 .nil))))⟩⟩
section
variable {as : List Int} {rows : List Str} {x : Str} {t : Bool}
noncomputable abbrev bσ (as : List Int) (rows : List Str) (x : Str) (t : Bool) (lo : Int) (hi mv : CV) : List CV:=[.list (il as),.str x,.int lo,hi,.lam t (.list (sl rows)),mv,.unb,.unb]
theorem bis_at (hall : (as.all fun i=>decide (0≤i∧i < (rows : List Str).length)) = true) {m : Nat} (hm : m < as.length) : ∃ i : Nat,at? (il as) (m : Int) = some (.int i)∧lamF (.lam t (.list (sl rows))) [.int i] = some (.str ((as.map fun i=>rows.getD i.toNat default).getD m default)):=by
 have h:=of_decide_eq_true (List.all_eq_true.mp hall _ (List.getElem_mem hm))
 obtain ⟨i,hi⟩:=Int.eq_ofNat_of_zero_le h.1
 have hi2 : i < rows.length:=by have:=h.2; rw [hi] at this; exact Int.ofNat_lt.mp this
 refine ⟨i,?_,?_⟩
 ·rw [at_nat,il_get hm,List.getD_eq_getElem?_getD,List.getElem?_eq_getElem hm]
  exact congrArg (fun z=>some (CV.int z)) hi
 ·show (strs? (sl rows)).bind _ = _
  rw [strs_sl]
  show (if 0≤(i : Int) then rows[(i : Int).toNat]?.map CV.str else none) = _
  rw [if_pos (Int.natCast_nonneg i),List.getD_eq_getElem?_getD,List.getElem?_map,List.getElem?_eq_getElem hm]
  show rows[i]?.map CV.str = some (.str (rows.getD (as[m]).toNat default))
  rw [hi,List.getD_eq_getElem?_getD]
  show rows[i]?.map CV.str = some (.str (rows[i]?.getD default))
  rw [List.getElem?_eq_getElem hi2]; rfl
theorem bis_loop {p : Nat→Bool} {n : Nat} (hn : n≤8) {tst : List CV→Option Bool} {body : CM} (ht : ∀ (lo hi : Nat) mv,tst (bσ as rows x t lo (.int hi) mv) = some (decide ((lo : Int) < (hi : Int))))
  (hb : ∀ lo hi mv,isM mv = false→lo < hi→hi≤n→body (bσ as rows x t (lo : Nat) (.int (hi : Nat)) mv) = some (.next,bif p ((lo + hi) / 2) then bσ as rows x t (((lo + hi) / 2 + 1 : Nat) : Int) (.int (hi : Nat)) (.int ((lo + hi) / 2 : Nat)) else bσ as rows x t (lo : Nat) (.int ((lo + hi) / 2 : Nat)) (.int ((lo + hi) / 2 : Nat)))) :
  Goes (whileM tst body 10 (bσ as rows x t 0 (.int n) .unb)) fun σ=>∃ hi mv,σ = bσ as rows x t (bs p 9 0 n : Nat) hi mv:=by
 refine whileM_goes (fun k σ=>∃ (lo hi : Nat) (mv : CV),isM mv = false∧k = hi - lo∧hi≤n∧bs p 9 lo hi = bs p 9 0 n∧σ = bσ as rows x t lo (.int hi) mv) _ ?_ 10 n _ ⟨0,n,.unb,rfl,rfl,Nat.le_refl _,rfl,rfl⟩ (Nat.lt_of_le_of_lt hn (by decide))
 rintro k σ qq2
 refine bc fun hG=>?_
 obtain ⟨lo,hi,mv,hmv,rfl,hhi,hbs,rfl⟩:=qq2
 refine hG ?_
 clear hG
 refine ⟨_,ht lo hi mv,fun h=>?_,fun h=>?_⟩
 ·have hlt : lo < hi:=Int.ofNat_lt.mp (of_decide_eq_true h)
  have hstep:=bs_step p hlt (Nat.le_trans (Nat.sub_le hi lo) (Nat.le_trans hhi (Nat.le_trans hn (by decide))))
  have hb:=hb lo hi mv hmv hlt hhi
  rw [hbs] at hstep
  have hm1:=half hlt
  generalize (lo + hi) / 2 = m at hstep hb hm1
  cases hp : p m with
  | true =>
   rw [hp] at hstep hb
   exact ⟨hi - (m + 1),_,Nat.sub_lt_sub_left hlt (Nat.lt_succ_of_le hm1.1),hb,⟨m + 1,hi,_,rfl,rfl,hhi,hstep.symm,rfl⟩⟩
  | false =>
   rw [hp] at hstep hb
   exact ⟨m - lo,_,Nat.sub_lt_sub_right hm1.1 hm1.2,hb,⟨lo,m,_,rfl,rfl,Nat.le_trans (Nat.le_of_lt hm1.2) hhi,hstep.symm,rfl⟩⟩
 ·have hlt : hi≤lo:=Int.ofNat_le.mp (Int.not_lt.mp (of_decide_eq_false h))
  exact ⟨.int hi,mv,by rw [← hbs,bs_done _ hlt]⟩
theorem not_t {b : Bool} (h : (!b) = true) : b = false:=by cases b; rfl; cases h
theorem not_f {b : Bool} (h : (!b) = false) : b = true:=by cases b; cases h; rfl
theorem bis_mid (lo hi : Nat) : fdivS (.int ((lo : Int) + hi)) (.int 2) = some (.int ((lo + hi) / 2 : Nat)):=by
 rw [fdivS_int _ _ (by decide)]
 exact congrArg (fun z=>some (CV.int z)) (by exact_mod_cast fdiv_nat (lo + hi) 2)
end
section
variable {prog : Program} {w : World} {hT : Heap} {mg mb : Str→Option Value}
theorem bl_fn (T : Tops prog hT mg mb) : Fn prog w hT 11 (.ref 74) [("key" : Str)] (bisS true):=by
 refine bc fun hG=>?_
 obtain ⟨dv,kv,R,D⟩:=T.r74
 refine hG ?_
 clear hG
 refine Fn.of_body T.tf (n:=5) R (by decide) ⟨rfl,by decide,rfl,rfl⟩ (fun A e X s0 P px W hA=>(Rss.cons (Rs.ifS (Rt.com W (Rf.loc W (i:=2) rfl) Rf.int) (Rss.cons Rs.any Rss.nil) Rss.nil) (Rss.cons (Rs.ifS (Rt.com W (Rf.loc W (i:=3) rfl) Rf.non) (Rss.cons (Rs.asg W (i:=3) (.inl rfl) (Rf.callB (T.len_ W (i:=7) rfl) (Rfs.cons (Rf.loc W (i:=0) rfl) Rfs.nil) len_ok)) Rss.nil) Rss.nil) (Rss.cons (Rs.ifS (Rt.com W (Rf.loc W (i:=4) rfl) Rf.non) Rss.any (Rss.cons (Rs.whl 10 (Rt.com W (Rf.loc W (i:=2) rfl) (Rf.loc W (i:=3) rfl)) (Rss.cons (Rs.asg W (i:=5) (.inl rfl) (Rf.fdiv T.tf W (Rf.add (Rf.loc W (i:=2) rfl) (Rf.loc W (i:=3) rfl)) Rf.int)) (Rss.cons (Rs.ifS (Rt.com W (Rf.callL T (hA.mono (by decide)) (Rf.loc W (i:=4) rfl) (Rfs.cons (Rf.sb (Rf.loc W (i:=0) rfl) (Rf.loc W (i:=5) rfl)) Rfs.nil)) (Rf.loc W (i:=1) rfl)) (Rss.cons (Rs.asg W (i:=2) (.inl rfl) (Rf.add (Rf.loc W (i:=5) rfl) Rf.int)) Rss.nil) (Rss.cons (Rs.asg W (i:=3) (.inl rfl) (Rf.loc W (i:=5) rfl)) Rss.nil)) Rss.nil))) Rss.nil)) (Rss.cons (Rs.ret (Rf.loc W (i:=2) rfl) px) Rss.nil))))) bisFill ?_ (by decide) (by decide) ?_
 ·intro s F fd hs h1 h2 h3 cvs kcvs vals kvals r hv hkv hkl hr
  refine bc fun hG=>?_
  obtain ⟨dA,dO,dn,dtk,d1,d2,d3,d4⟩:=D.d
  have hd:=hs.top.keep dA dO d2 d3
  obtain ⟨v1,v2,k,rfl,h⟩:=bis_vals hr hv hkv dtk
  refine hG ?_
  clear hG
  clear hr hv hkv
  cases fd; simp only at h1 h2 h3; subst h1 h2
  rcases h with ⟨rfl,h⟩ | ⟨v3,v4,rfl,h⟩
  ·exact ⟨_,BindsTo.of_defaults d1 hd d4 rfl rfl,rfl,h⟩
  ·exact ⟨_,BindsTo.of_defaults d1 hd d4 rfl rfl,rfl,h⟩
 ·intro cvs kcvs r hr
  refine bc fun hG=>?_
  obtain ⟨as,rows,x,t,h8,hall,rfl,rfl,hcv⟩:=bisS_shape hr
  refine hG ?_
  clear hG
  clear hr
  have hfill : bisFill cvs [.lam t (.list (sl rows))] = [.list (il as),.str x,.int 0,.none,.lam t (.list (sl rows))]:=by rcases hcv with rfl | rfl <;> rfl
  rw [hfill]
  clear hfill hcv
  show Ends (seqM _ (seqM _ (seqM _ (seqM _ _))) (bσ as rows x t 0 .none .unb)) _
  refine .step (σ1:=bσ as rows x t 0 .none .unb) rfl (.step (σ1:=bσ as rows x t 0 (.int as.length) .unb) (ev_ifT rfl (ev_seq (ev_asg (cv:=.int as.length) ?_ rfl) rfl)) ?_)
  ·show some (CV.int (il as).length) = _
   rw [List.length_map]
  ·unfold bsL
   rw [List.length_map]
   generalize hP : bsP true (as.map fun i=>rows.getD i.toNat default) x = p
   refine .seq (R:=fun σ=>∃ hi mv,σ = bσ as rows x t (bs p 9 0 as.length : Nat) hi mv) (Goes.ite false rfl (fun h=>by cases h) fun J=>.seq (R:=fun σ=>∃ hi mv,σ = bσ as rows x t (bs p 9 0 as.length : Nat) hi mv) ?_ fun J q=>.nil q) ?_
   ·refine bis_loop (p:=p) h8 ?_ ?_
    ·exact fun lo hi mv=>rfl
    intro lo hi mv hmv hlt hhi
    refine bc fun hG=>?_
    obtain ⟨i,hi1,hkey⟩:=bis_at (t:=t) hall (m:=(lo + hi) / 2) (Nat.lt_of_lt_of_le (half hlt).2 hhi)
    refine hG ?_
    clear hG
    refine ev_seq (ev_asg (cv:=.int ((lo + hi) / 2 : Nat)) (bis_mid lo hi) (stF_ok rfl (by show 5 < 8; decide) hmv)) ?_
    generalize (lo + hi) / 2 = m at hi1 hkey
    replace hP:=congrFun hP m
    generalize (as.map fun i=>rows.getD i.toNat default) = ks at hkey hP
    have htest : ∀ b,sLt (ks.getD m default) x = b→(((some (CV.lam t (.list (sl rows)))).bind fun f=>(((at? (il as) (m : Int)).bind fun v=>Option.map (fun x=>v::x) (some []))).bind fun cvs=>lamF f cvs).bind fun a=>cmpS CmpOp.Lt [] a (.str x)) = some b:=by
     intro b hb
     rw [hi1]
     show (lamF (.lam t (.list (sl rows))) [.int i]).bind _ = _
     rw [hkey,← hb]; rfl
    cases hp : p m with
    | true=>exact ev_seq (ev_ifT (htest _ (hP.trans hp)) (ev_seq (ev_asg (cv:=.int (m + 1 : Nat)) rfl rfl) rfl)) rfl
    | false=>exact ev_seq (ev_ifF (htest _ (hP.trans hp)) (ev_seq (ev_asg (cv:=.int m) rfl rfl) rfl)) rfl
   ·rintro σ ⟨hi,mv,rfl⟩
    exact .retM rfl rfl
theorem br_fn (T : Tops prog hT mg mb) : Fn prog w hT 11 (.ref 56) [("key" : Str)] (bisS false):=by
 refine bc fun hG=>?_
 obtain ⟨dv,kv,R,D⟩:=T.r56
 refine hG ?_
 clear hG
 refine Fn.of_body T.tf (n:=5) R (by decide) ⟨rfl,by decide,rfl,rfl⟩ (fun A e X s0 P px W hA=>(Rss.cons (Rs.ifS (Rt.com W (Rf.loc W (i:=2) rfl) Rf.int) (Rss.cons Rs.any Rss.nil) Rss.nil) (Rss.cons (Rs.ifS (Rt.com W (Rf.loc W (i:=3) rfl) Rf.non) (Rss.cons (Rs.asg W (i:=3) (.inl rfl) (Rf.callB (T.len_ W (i:=7) rfl) (Rfs.cons (Rf.loc W (i:=0) rfl) Rfs.nil) len_ok)) Rss.nil) Rss.nil) (Rss.cons (Rs.ifS (Rt.com W (Rf.loc W (i:=4) rfl) Rf.non) Rss.any (Rss.cons (Rs.whl 10 (Rt.com W (Rf.loc W (i:=2) rfl) (Rf.loc W (i:=3) rfl)) (Rss.cons (Rs.asg W (i:=5) (.inl rfl) (Rf.fdiv T.tf W (Rf.add (Rf.loc W (i:=2) rfl) (Rf.loc W (i:=3) rfl)) Rf.int)) (Rss.cons (Rs.ifS (Rt.com W (Rf.loc W (i:=1) rfl) (Rf.callL T (hA.mono (by decide)) (Rf.loc W (i:=4) rfl) (Rfs.cons (Rf.sb (Rf.loc W (i:=0) rfl) (Rf.loc W (i:=5) rfl)) Rfs.nil))) (Rss.cons (Rs.asg W (i:=3) (.inl rfl) (Rf.loc W (i:=5) rfl)) Rss.nil) (Rss.cons (Rs.asg W (i:=2) (.inl rfl) (Rf.add (Rf.loc W (i:=5) rfl) Rf.int)) Rss.nil)) Rss.nil))) Rss.nil)) (Rss.cons (Rs.ret (Rf.loc W (i:=2) rfl) px) Rss.nil))))) bisFill ?_ (by decide) (by decide) ?_
 ·intro s F fd hs h1 h2 h3 cvs kcvs vals kvals r hv hkv hkl hr
  refine bc fun hG=>?_
  obtain ⟨dA,dO,dn,dtk,d1,d2,d3,d4⟩:=D.d
  have hd:=hs.top.keep dA dO d2 d3
  obtain ⟨v1,v2,k,rfl,h⟩:=bis_vals hr hv hkv dtk
  refine hG ?_
  clear hG
  clear hr hv hkv
  cases fd; simp only at h1 h2 h3; subst h1 h2
  rcases h with ⟨rfl,h⟩ | ⟨v3,v4,rfl,h⟩
  ·exact ⟨_,BindsTo.of_defaults d1 hd d4 rfl rfl,rfl,h⟩
  ·exact ⟨_,BindsTo.of_defaults d1 hd d4 rfl rfl,rfl,h⟩
 ·intro cvs kcvs r hr
  refine bc fun hG=>?_
  obtain ⟨as,rows,x,t,h8,hall,rfl,rfl,hcv⟩:=bisS_shape hr
  refine hG ?_
  clear hG
  clear hr
  have hfill : bisFill cvs [.lam t (.list (sl rows))] = [.list (il as),.str x,.int 0,.none,.lam t (.list (sl rows))]:=by rcases hcv with rfl | rfl <;> rfl
  rw [hfill]
  clear hfill hcv
  show Ends (seqM _ (seqM _ (seqM _ (seqM _ _))) (bσ as rows x t 0 .none .unb)) _
  refine .step (σ1:=bσ as rows x t 0 .none .unb) rfl (.step (σ1:=bσ as rows x t 0 (.int as.length) .unb) (ev_ifT rfl (ev_seq (ev_asg (cv:=.int as.length) ?_ rfl) rfl)) ?_)
  ·show some (CV.int (il as).length) = _
   rw [List.length_map]
  ·unfold bsL
   rw [List.length_map]
   generalize hP : bsP false (as.map fun i=>rows.getD i.toNat default) x = p
   refine .seq (R:=fun σ=>∃ hi mv,σ = bσ as rows x t (bs p 9 0 as.length : Nat) hi mv) (Goes.ite false rfl (fun h=>by cases h) fun J=>.seq (R:=fun σ=>∃ hi mv,σ = bσ as rows x t (bs p 9 0 as.length : Nat) hi mv) ?_ fun J q=>.nil q) ?_
   ·refine bis_loop (p:=p) h8 ?_ ?_
    ·exact fun lo hi mv=>rfl
    intro lo hi mv hmv hlt hhi
    refine bc fun hG=>?_
    obtain ⟨i,hi1,hkey⟩:=bis_at (t:=t) hall (m:=(lo + hi) / 2) (Nat.lt_of_lt_of_le (half hlt).2 hhi)
    refine hG ?_
    clear hG
    refine ev_seq (ev_asg (cv:=.int ((lo + hi) / 2 : Nat)) (bis_mid lo hi) (stF_ok rfl (by show 5 < 8; decide) hmv)) ?_
    generalize (lo + hi) / 2 = m at hi1 hkey
    replace hP:=congrFun hP m
    generalize (as.map fun i=>rows.getD i.toNat default) = ks at hkey hP
    have htest : ∀ b,sLt x (ks.getD m default) = b→(((some (CV.lam t (.list (sl rows)))).bind fun f=>(((at? (il as) (m : Int)).bind fun v=>Option.map (fun x=>v::x) (some []))).bind fun cvs=>lamF f cvs).bind fun a=>cmpS CmpOp.Lt [] (.str x) a) = some b:=by
     intro b hb
     rw [hi1]
     show (lamF (.lam t (.list (sl rows))) [.int i]).bind _ = _
     rw [hkey,← hb]; rfl
    cases hp : p m with
    | true=>exact ev_seq (ev_ifF (htest _ (not_t (hP.trans hp))) (ev_seq (ev_asg (cv:=.int (m + 1 : Nat)) rfl rfl) rfl)) rfl
    | false=>exact ev_seq (ev_ifT (htest _ (not_f (hP.trans hp))) (ev_seq (ev_asg (cv:=.int m) rfl rfl) rfl)) rfl
   ·rintro σ ⟨hi,mv,rfl⟩
    exact .retM rfl rfl
end
structure ExM (l : Addr) (s s' : Shared) : Prop where
 os : s'.os = s.os
 gens : GK s s'
 keep : ∀ b o,b ≠ l→b ≠ tabA→s.heap.get? b = some o→s'.heap.get? b = some o
 tab : ∀ ps,TabOk s.heap ps→∃ more,TabOk s'.heap (ps ++ more)
theorem ExM.of_ex {l : Addr} {s s' : Shared} (e : Ex s s') : ExM l s s':=⟨e.os,e.gens,fun b o J ht h=>e.kp.keep b o ht h,e.kp.tab⟩
theorem ExM.trans {l : Addr} {a b c : Shared} (x : ExM l a b) (y : ExM l b c) : ExM l a c :=
 ⟨y.os.trans x.os,x.gens.trans y.gens,fun p o h1 h2 e=>y.keep p o h1 h2 (x.keep p o h1 h2 e),fun ps t=>by
  obtain ⟨m,t'⟩:=x.tab ps t
  obtain ⟨m',t''⟩:=y.tab _ t'
  exact ⟨m ++ m',by rw [← Array.append_assoc]; exact t''⟩⟩
theorem OC.isL {F : Addr→Prop} {h : Heap} {l : Addr} {cv : CV} (x : OC F h l cv) : ∃ items n,IsL h l items n:=by
 cases cv <;> first | exact x.elim | skip
 all_goals (obtain ⟨n,items,h,_⟩:=x; exact ⟨items,n,h⟩)
section
variable {prog : Program} {w : World} {hT : Heap} {c : FC} {own own' own'' : Nat→Option Addr} {σ σ' : List CV} {s s' s'' : Shared} {mg mb : Str→Option Value}
theorem SR.ownT (x : SR hT c own σ s) {i : Nat} {l : Addr} (ho : own i = some l) : hT.get? l = none:=by
 rcases x.ofr i l ho with q | q
 ·cases e : hT.get? l with
  | none=>rfl
  | some o=>rw [x.top0.keep l o (x.one ho) e] at q; cases q.1
 ·exact x.pt l q
theorem SR.mutE (x : SR hT c own σ s) {i : Nat} {l : Addr} {cv' : CV} (ho : own i = some l) (hi : i < σ.length) (hM : isM (σ.getD i .unb) = true) (hk : kindM (σ.getD i .unb) = kindM cv')
  (e : ExM l s s') (hc : OC (FF c own) s'.heap l cv') : SR hT c own (σ.set i cv') s'∧Ss c own s s'∧OwnKp own own σ (σ.set i cv'):=by
 have hil:=hc.isL
 have lt:=x.one ho
 have lnl:=x.onl ho
 have hF : FF c own l:=.inr (.inr (.inr ⟨i,ho⟩))
 have keep:=e.keep
 have al : ∀ b,b ≠ tabA→Al s.heap b→Al s'.heap b:=fun b ht ⟨o,e⟩=>by
  by_cases hb : b = l
  ·obtain ⟨it,n,h⟩:=hil; exact ⟨_,hb▸h⟩
  ·exact ⟨o,keep b o hb ht e⟩
 have nfk : ∀ b,b ≠ tabA→NF s.heap b→NF s'.heap b:=fun b ht ⟨o,e,r⟩=>by
  by_cases hb : b = l
  ·obtain ⟨it,n,h⟩:=hil; exact ⟨_,hb▸h,.inr fun vs e=>by cases e⟩
  ·exact ⟨o,keep b o hb ht e,r⟩
 have lP : c.s0.heap.get? l = none∨c.P l:=(x.ofr i l ho).elim (fun q=>.inl q.1) .inr
 have lT : hT.get? l = none:=x.ownT ho
 have mv : ∀ b o,¬ FF c own b→s.heap.get? b = some o→¬ FF c own b∧s'.heap.get? b = some o:=fun b o hf e=>⟨hf,keep b o (fun q=>hf (q▸hF)) (fun q=>hf (q▸x.ft)) e⟩
 have oth : ∀ (j : Nat) (ov : Option Value),SV c own s.heap j (σ.getD j .unb) ov→SV c own s'.heap j ((σ.set i cv').getD j .unb) ov:=fun j ov sv=>by
  by_cases hj : j = i
  ·subst hj
   rw [getD_set_self hi]
   refine bc fun hG=>?_
   obtain ⟨v,l',e1,e2,e3,e4⟩:=sv.ofM hM
   refine hG ?_
   clear hG
   subst e1
   rw [ho] at e3; cases e3
   exact .toM ((e2.move mv fun J e=>e).kind hk) ho hc
  ·rw [getD_set_ne hj]
   exact sv.step mv fun l' hl'=>⟨hl',fun o e=>keep l' o (fun q=>hj (x.oinj j i l (q▸hl') ho)) (x.one hl') e⟩
 have kM : isM cv' = true:=isM_kind hM hk
 refine ⟨⟨⟨fun b o hb e=>keep b o (fun q=>by rw [q,lT] at e; cases e) hb (x.top.keep b o hb e),fun ps t=>?_⟩,x.top0,x.pt,fun a h=>⟨(x.pa a h).1,al a (x.pa a h).1 (x.pa a h).2⟩,e.os.trans x.os,e.gens.gb x.gens,fun b o hp hb e=>keep b o (fun q=>?_) hb (x.kp b o hp hb e),fun ps t=>?_,?_,x.xt,fun a h ht=>nfk a ht (x.xa a h ht),x.lf,?_,fun j y hy=>?_,x.cinj,x.oinj,x.ofr,fun j a e=>?_⟩,
  ⟨e.os,e.gens,fun b o hm ht e=>keep b o (fun q=>hm (q▸.inr (.inr ⟨i,ho⟩))) ht e,e.tab,al⟩,fun j hj=>⟨rfl,?_⟩⟩
 ·obtain ⟨m,t'⟩:=x.top.tab ps t
  obtain ⟨m',t''⟩:=e.tab _ t'
  exact ⟨m ++ m',by rw [← Array.append_assoc]; exact t''⟩
 ·rcases lP with r | r
  ·rw [q,r] at e; cases e
  ·exact hp (q▸r)
 ·obtain ⟨m,t'⟩:=x.tab ps t
  obtain ⟨m',t''⟩:=e.tab _ t'
  exact ⟨m ++ m',by rw [← Array.append_assoc]; exact t''⟩
 ·obtain ⟨ps,t⟩:=x.tok
  obtain ⟨m',t''⟩:=e.tab _ t
  exact ⟨_,t''⟩
 ·obtain ⟨m,h1,h2⟩:=x.ns
  exact ⟨m,h1.at' fun o=>keep _ o (Ne.symm lnl) x.lne,fun j y hy=>oth j _ (h2 j y hy)⟩
 ·refine bc fun hG=>?_
  obtain ⟨b,ov,h1,h2,h3,h4⟩:=x.cel j y hy
  have hbl:=x.cno h2 ho
  have hbt:=x.cne h2
  obtain ⟨o,ho',hd⟩:=h2
  refine hG ?_
  clear hG
  exact ⟨b,ov,h1,⟨o,keep b o hbl hbt ho',hd⟩,oth j _ h3,h4⟩
 ·by_cases hb : a = l
  ·obtain ⟨it,n,h⟩:=hil; exact ⟨it,n,hb▸h⟩
  ·have:=x.one e
   obtain ⟨it,n,h⟩:=x.oal j a e; exact ⟨it,n,keep a _ hb this h⟩
 ·by_cases hji : j = i
  ·subst hji; rw [getD_set_self hi]; exact kM
  ·rw [getD_set_ne hji]; exact hj
noncomputable def FnM (prog : Program) (w : World) (hT : Heap) (k : Nat) (fv : Value) (kn : List Str) (spec : CV→List CV→List CV→Option CV) : Prop :=
 ∀ (A : Around) (s : Shared) (F : Addr→Prop) (l : Addr) cv0 v0 cvs (vals : List Value) kcvs kvals cv1,AOk (9 + k) A→At hT s→F tabA→(∀ a,F a→a ≠ tabA→NF s.heap a)→hT.get? l = none→F l→l ≠ tabA→OV F (fun J=>some l) s.heap 0 cv0 v0→OC F s.heap l cv0 →
  VRs F s.heap cvs vals→VRs F s.heap kcvs kvals→kvals.length = kn.length→spec cv0 cvs kcvs = some cv1 →
  wpAny (model prog w) A (call fv (v0::vals) (kn.zip kvals)) (fun v s'=>v = .none∧ExM l s s'∧OC F s'.heap l cv1) noE s
theorem OV.toAny {F : Addr→Prop} {h : Heap} {i : Nat} {l : Addr} {cv : CV} {v : Value} (ho : own i = some l) (x : OV F own h i cv v) : OV F (fun J=>some l) h 0 cv v:=by
 cases cv <;> first | exact x.elim | skip
 ·obtain ⟨a,e1,e2⟩:=x; rw [ho] at e2; exact ⟨a,e1,e2⟩
 ·obtain ⟨a,d,l',hs,t,n,e1,e2,r⟩:=x; rw [ho] at e2; exact ⟨a,d,l',hs,t,n,e1,e2,r⟩
theorem OV.ofAny {F : Addr→Prop} {h : Heap} {i : Nat} {l : Addr} {cv : CV} {v : Value} (ho : own i = some l) (x : OV F (fun J=>some l) h 0 cv v) : OV F own h i cv v:=by
 cases cv <;> first | exact x.elim | skip
 ·obtain ⟨a,e1,e2⟩:=x; exact ⟨a,e1,ho.trans e2⟩
 ·obtain ⟨a,d,l',hs,t,n,e1,e2,r⟩:=x; exact ⟨a,d,l',hs,t,n,e1,ho.trans e2,r⟩
theorem FnM.of_bodyX (T : TF prog hT mg mb) {k : Nat} {a : Addr} {st : Stmt} {dV kV : Value} {n : Nat} {kn : List Str} {m : CM} {spec : CV→List CV→List CV→Option CV} {y0 : Str} (R : FnRec hT a st dV kV) (ha : a ≠ tabA)
  (S : Scp (sScope st)) (hB : Body prog w hT k (sScope st) (sBody st) m)
  (fill : List CV→List CV→List CV)
  (hbind : ∀ (s : Shared) (F : Addr→Prop) (fd : FuncData),At hT s→F tabA→(∀ a,F a→a ≠ tabA→NF s.heap a)→fd.params = sArgs st→fd.defaults = dV→fd.kwdefaults = kV→∀ cv0 cvs kcvs cv1 v0 (vals kvals : List Value),VRs F s.heap cvs vals→VRs F s.heap kcvs kvals→kvals.length = kn.length→spec cv0 cvs kcvs = some cv1 →
   ∀ (M : Model) (A : Around) (E : Value→Shared→Prop) (Q : List (Str × Value)→Shared→Prop),(∀ s1 vs,Ex s s1→vs.length + 1 = n→VRs F s1.heap (fill cvs kcvs) vs→Q ((((sScope st).names.map (·.1)).take n |>.zip (v0::vs))) s1)→wpAny M A (bindArgs fd ⟨v0::vals,kn.zip kvals⟩) Q E s)
  (hn : n≤(sScope st).names.length) (hk : ∀ x∈(sScope st).names.take n,x.2 = NameKind.local∨x.2 = NameKind.cell) (h0 : (sScope st).names[0]? = some (y0,.local))
  (hm : ∀ cv0 cvs kcvs cv1,spec cv0 cvs kcvs = some cv1→∃ f σ',m (cv0::fill cvs kcvs ++ List.replicate ((sScope st).names.length - n) .unb) = some (f,σ')∧resOf f = some .none∧σ'.getD 0 .unb = cv1) :
  FnM prog w hT k (.ref a) kn spec:=by
 intro A s₀ F l cv0 v0 cvs vals kcvs kvals cv1 hA hs₀ hF hFa hlT hFl hlt hov₀ hoc₀ hv hkv hkl hr
 refine bc fun hG=>?_
 obtain ⟨f,σ',hmr,hres,hcv1⟩:=hm cv0 cvs kcvs cv1 hr
 refine hG ?_
 clear hG
 have own1 : ∀ {i : Nat} {a : Addr},(if i = 0 then some l else none) = some a→i = 0∧l = a:=fun e=>by
  split at e
  ·exact ⟨‹_›,Option.some.inj e⟩
  ·exact nomatch e
 have hoc : ∀ s,Ex s₀ s→OC F s.heap l cv0:=fun s ee=>hoc₀.move (fun b o hf e=>⟨hf,ee.kp.keep b o (fun q=>hf (q▸hF)) e⟩) fun o=>ee.kp.keep l o hlt
 have hil:=hoc₀.isL
 refine fn_core T R ha S hn hk (F:=fun b=>F b∧b ≠ l) (P:=fun b=>b = l) (own:=fun i=>if i = 0 then some l else none) (σ0:=cv0::fill cvs kcvs ++ List.replicate ((sScope st).names.length - n) .unb) (Good:=fun s vs=>∃ us,vs = v0::us∧VRs F s.heap (fill cvs kcvs) us) hA hs₀
  (fun fd h1 h2 h3 M A E Q q=>hbind s₀ F fd hs₀ hF hFa h1 h2 h3 cv0 cvs kcvs cv1 v0 vals kvals hv hkv hkl hr M A E Q fun s1 vs ex hl hv=>q s1 (v0::vs) ex hl ⟨vs,rfl,hv⟩) ⟨hF,Ne.symm hlt⟩ (fun a h ht=>hFa a h.1 ht)
  (fun a q=>⟨q▸hlT,q▸hlt,q▸let ⟨_,_,h⟩:=hil; ⟨_,h⟩⟩) (fun i j a e1 e2=>(own1 e1).1.trans (own1 e2).1.symm) (fun i a e=>(own1 e).2.symm)
  (fun s ee i a e=>(own1 e).2▸let ⟨it,n,h⟩:=(hoc s ee).isL; ⟨it,n,h⟩) (fun s vs' g ee i v hi c' h' mv kp=>?_) (fun s vs' g hl i hi=>?_) (fun A e s0 J W hAd=>hB A e _ s0 _ (fun b q r=>r.2 q) W hAd) hmr fun s env s₁ fl s₂ ee y=>?_
 ·refine bc fun hG=>?_
  obtain ⟨vs,rfl,hvs⟩:=g
  refine hG ?_
  clear hG
  have mvF : ∀ b o,¬ F b→s.heap.get? b = some o→¬ FF c' (fun i=>if i = 0 then some l else none) b∧h'.get? b = some o:=fun b o hf e=>mv b o (fun q=>by
   rcases q with q | ⟨i,q⟩
   ·exact hf q.1
   ·exact hf ((own1 q).2▸hFl)) e
  match i,hi with
  | 0,hi =>
   cases hi
   exact .toM (OV.ofAny (l:=l) (own:=fun i=>if i = 0 then some l else none) rfl ((hov₀.move (fun b o hf e=>⟨hf,ee.kp.keep b o (fun q=>hf (q▸hF)) e⟩) fun J e=>e).move mvF fun J e=>e)) rfl ((hoc s ee).move mvF fun o e=>kp l o e)
  | i + 1,hi=>exact ((fill_at hvs hi).move mvF).sv
 ·refine bc fun hG=>?_
  obtain ⟨vs,rfl,hvs⟩:=g
  refine hG ?_
  clear hG
  exact unb_off (xs:=cv0::fill cvs kcvs) ((congrArg (· + 1) hvs.length).trans hl) hi
 ·obtain ⟨own2,x2,k2,l2,p2,r2⟩:=y
  have em : ExM l s s₂:=⟨x2.os,x2.gens.gk,fun b o hb ht e=>x2.kp b o hb ht e,x2.tab⟩
  have hM0 : isM cv0 = true:=by cases cv0 <;> first | rfl | exact hoc₀.elim
  obtain ⟨q1,q2⟩:=p2 0 (by rw [List.cons_append]; exact hM0)
  have q1 : own2 0 = some l:=q1
  have oc2 : OC F s₂.heap l cv1:=by
   obtain ⟨m2,_,hv2⟩:=x2.ns
   have sv:=hv2 0 y0 h0
   obtain ⟨v',l',_,_,e3,e4⟩:=sv.ofM q2
   rw [q1] at e3; cases e3
   rw [hcv1] at e4
   refine e4.move (fun b o hf e=>⟨fun q=>hf ?_,e⟩) fun o e=>e
   by_cases hbl : b = l
   ·exact .inr (.inr (.inr ⟨0,hbl▸q1⟩))
   ·exact .inl ⟨q,hbl⟩
  cases f with
  | next =>
   cases fl <;> first | exact r2.elim | exact ⟨rfl,(ExM.of_ex ee).trans em,oc2⟩
  | brk=>cases hres
  | ret v =>
   cases hres
   cases fl <;> first | exact r2.elim | (cases r2; exact ⟨rfl,(ExM.of_ex ee).trans em,oc2⟩)
theorem FnM.of_body (T : TF prog hT mg mb) {k : Nat} {a : Addr} {st : Stmt} {dV kV : Value} {n : Nat} {kn : List Str} {m : CM} {spec : CV→List CV→List CV→Option CV} {y0 : Str} (R : FnRec hT a st dV kV) (ha : a ≠ tabA)
  (S : Scp (sScope st)) (hB : Body prog w hT k (sScope st) (sBody st) m)
  (fill : List CV→List CV→List CV)
  (hbind : ∀ (s : Shared) (F : Addr→Prop) (fd : FuncData),At hT s→F tabA→fd.params = sArgs st→fd.defaults = dV→fd.kwdefaults = kV→∀ cv0 cvs kcvs cv1 v0 (vals kvals : List Value),VRs F s.heap cvs vals→VRs F s.heap kcvs kvals→kvals.length = kn.length→spec cv0 cvs kcvs = some cv1 →
   ∃ vs,BindsTo s fd ⟨v0::vals,kn.zip kvals⟩ (((sScope st).names.map (·.1)).take n |>.zip (v0::vs))∧vs.length + 1 = n∧VRs F s.heap (fill cvs kcvs) vs)
  (hn : n≤(sScope st).names.length) (hk : ∀ x∈(sScope st).names.take n,x.2 = NameKind.local∨x.2 = NameKind.cell) (h0 : (sScope st).names[0]? = some (y0,.local))
  (hm : ∀ cv0 cvs kcvs cv1,spec cv0 cvs kcvs = some cv1→∃ f σ',m (cv0::fill cvs kcvs ++ List.replicate ((sScope st).names.length - n) .unb) = some (f,σ')∧resOf f = some .none∧σ'.getD 0 .unb = cv1) :
  FnM prog w hT k (.ref a) kn spec:=by
 refine FnM.of_bodyX T R ha S hB fill (fun s F fd hs hF J h1 h2 h3 cv0 cvs kcvs cv1 v0 vals kvals hv hkv hkl hr M A E Q q=>?_) hn hk h0 hm
 refine bc fun hG=>?_
 obtain ⟨vs,hbt,hvl,hvs⟩:=hbind s F fd hs hF h1 h2 h3 cv0 cvs kcvs cv1 v0 vals kvals hv hkv hkl hr
 refine hG ?_
 clear hG
 exact hbt M A E Q (q s vs (.refl s) hvl hvs)
noncomputable def asO {α : Type} (f : Nat→Option α) : CV→Option α
 | .own i=>f i
 | _=>none
theorem asO_inv {α : Type} {r : α} {f : Nat→Option α} {v : CV} (h : asO f v = some r) : ∃ i,v = .own i∧f i = some r:=by cases v <;> first | exact none_ne h | exact ⟨_,rfl,h⟩
noncomputable def mmK (i : Nat) (spec : CV→List CV→List CV→Option CV) (σ kcvs : List CV) : List CV→Option (CF × List CV)
 | []=>none
 | c0::rest=>asO (fun j=>if j = i∧(rest.all noM && kcvs.all noM) = true then (spec (σ.getD i .unb) rest kcvs).map fun cv1=>(.next,σ.set i cv1) else none) c0
theorem mmK_inv {i : Nat} {spec : CV→List CV→List CV→Option CV} {σ kcvs cvs : List CV} {f : CF} {σ' : List CV} (h : mmK i spec σ kcvs cvs = some (f,σ')) : ∃ rest cv1,cvs = .own i::rest∧(rest.all noM && kcvs.all noM) = true∧spec (σ.getD i .unb) rest kcvs = some cv1∧f = .next∧σ' = σ.set i cv1:=by
 cases cvs with
 | nil=>exact none_ne h
 | cons c0 rest =>
  obtain ⟨j,rfl,q⟩:=asO_inv h
  clear h
  replace q:=ite_opt q
  obtain ⟨hc,q⟩:=q
  ·refine bc fun hG=>?_
   refine mE q fun cv1 e5 e6=>?_
   refine hG ?_
   clear hG
   cases e6
   exact ⟨rest,cv1,hc.1▸rfl,hc.2,e5,rfl,rfl⟩
noncomputable def callMM (i : Nat) (spec : CV→List CV→List CV→Option CV) (ms : List CV→Option (List CV)) (mk : List CV→Option (List CV)) : CM:=fun σ=>(ms σ).bind fun cvs=>(mk σ).bind fun kcvs=>mmK i spec σ kcvs cvs
theorem FnM.use {k : Nat} {fv : Value} {kn : List Str} {spec : CV→List CV→List CV→Option CV} (hF : FnM prog w hT k fv kn spec) (hk : ∀ cv0 cvs kcvs cv1,spec cv0 cvs kcvs = some cv1→kindM cv0 = kindM cv1) (hA : AOk (9 + k) c.A) (x : SR hT c own σ s) {i : Nat} {cvs kcvs : List CV} {v0 : Value} {vs kvs : List Value}
  (hi : i < σ.length) (r0 : ER c own σ s.heap (.own i) v0) (r : ERs c own σ s.heap cvs vs) (kr : ERs c own σ s.heap kcvs kvs) (hkl : kvs.length = kn.length) (hn : (cvs.all noM && kcvs.all noM) = true) {cv1 : CV} (e : spec (σ.getD i .unb) cvs kcvs = some cv1) :
  wpAny (model prog w) c.A (call fv (v0::vs) (kn.zip kvs)) (fun J s'=>SOut hT c own σ s .next (σ.set i cv1) .next s') noE s:=by
 refine bc fun hG=>?_
 obtain ⟨hM,sv⟩:=r0
 obtain ⟨v',l,e1,e2,e3,e4⟩:=sv.ofM hM
 cases e1
 obtain ⟨h1,h2⟩:=bA hn
 refine hG ?_
 clear hG
 refine wp_w (hF c.A s (FF c own) l _ v0 cvs vs kcvs kvs cv1 hA x.at x.ft (fun a h ht=>x.fal h ht) (x.ownT e3) (.inr (.inr (.inr ⟨i,e3⟩))) (x.one e3) (e2.toAny e3) e4 (all_noM h1 r.1 r.2) (all_noM h2 kr.1 kr.2) hkl e) fun v s' q=>?_
 have M:=x.mutE e3 hi hM (hk _ _ _ _ e) q.2.1 q.2.2
 exact ⟨own,M.1,M.2.1,.refl _,M.2.2,trivial⟩
theorem FnM.use1 {k : Nat} {fv : Value} {kn : List Str} {spec : CV→List CV→List CV→Option CV} (hF : FnM prog w hT k fv kn spec) (hk : ∀ cv0 cvs kcvs cv1,spec cv0 cvs kcvs = some cv1→kindM cv0 = kindM cv1) (hA : AOk (9 + k) c.A) (x : SR hT c own σ s) {i : Nat} {cvs kcvs : List CV} {vs kvs : List Value}
  (rr : ERs c own σ s.heap (.own i::cvs) vs) (kr : ERs c own σ s.heap kcvs kvs) (hkl : kvs.length = kn.length) (hn : (cvs.all noM && kcvs.all noM) = true) {cv1 : CV} (e : spec (σ.getD i .unb) cvs kcvs = some cv1) :
  wpAny (model prog w) c.A (call fv vs (kn.zip kvs)) (fun J s'=>SOut hT c own σ s .next (σ.set i cv1) .next s') noE s:=by
 refine bc fun hG=>?_
 obtain ⟨v0,vs',rfl,hl⟩:=len_s rr.1
 refine hG ?_
 clear hG
 have r0:=rr.2 0 _ _ rfl rfl
 exact hF.use hk hA x (lt_of_isM r0.1) r0 ⟨hl,fun i y u h1 h2=>rr.2 (i + 1) y u h1 h2⟩ kr hkl hn e
theorem Rs.callM1 {y kw : Str} {py pos kp p2 : Pos} {e ke : PySem.Expr} {rest : List PySem.Expr} {a : Addr} {st : Stmt} {dV kV : Value} {k i : Nat} {spec : CV→List CV→List CV→Option CV} {ms : List CV→Option (List CV)} {mk : List CV→Option CV} (W : Wf c) (hf : Rf prog w hT c (.Name y py) (fun J=>some (.ref a))) (R : FnRec hT a st dV kV) (ha : a ≠ tabA)
  (hF : FnM prog w hT k (.ref a) [kw] spec) (hkd : ∀ cv0 cvs kcvs cv1,spec cv0 cvs kcvs = some cv1→kindM cv0 = kindM cv1) (hA : AOk (9 + k) c.A) (hs : Rfs prog w hT c (e::rest) ms) (hk : Rf prog w hT c ke mk)
  (he : ∀ env,starEach (e::rest) env = (false,eval e env)::starEach rest env:=by intro _; rfl) :
  Rs prog w hT c (.Expr (.Call (.Name y py) (e::rest) [⟨some kw,ke,kp⟩] pos) p2) (callMM i spec ms fun σ=>(mk σ).map fun v=>[v]):=fun own σ s f σ' x e'=>by
 refine bc fun hG=>?_
 revert e'
 refine oR fun cvs e1 q=>?_
 revert q
 refine oR fun kcvs e3 q1=>?_
 obtain ⟨kc,e3k,rfl⟩:=oM e3
 clear e3
 obtain ⟨rest',cv1,rfl,hnm,e5,rfl,rfl⟩:=mmK_inv q1
 clear q1
 obtain ⟨o,fd,hd,ho⟩:=R.fn ha
 refine hG ?_
 clear hG
 refine wpAny_Expr_any (wpAny_Call_Name_kw (wp_w (hf own σ s _ x rfl) fun fv s₁ h₁=>?_)) W.inter
 obtain rfl:=VR.ref_inv h₁.2
 have x₁:=x.ex h₁.1
 have hs':=hs pos own σ s₁ _ x₁ e1
 show wpAny _ _ (callWith pos (.ref a) [] (backTo pos (starEach (e::rest) c.env)) [(some kw,do let v ← eval ke c.env; standAt pos; pure v)]) _ _ _
 rw [he] at hs' ⊢
 refine callWith_function_kw (o:=o) (fd:=fd) (evalArgs_kw rfl (wp_w hs' fun vs s₂ h₂=>?_))
 clear hs' hf hs
 have x₂:=x₁.ex h₂.1
 refine wpAny_evalAll_cons (wpAny_bind (wp_w (hk own σ s₂ kc x₂ e3k) fun kv s₃ h₃=>wpAny_bind (wpAny_standAt (wpAny_pure (wpAny_evalAll_nil ?_)))))
 have x₃:=x₂.ex h₃.1
 refine ⟨⟨ho s₃ x₃.at,hd⟩,?_⟩
 refine wp_w (hF.use1 hkd hA x₃ (kvs:=[kv]) (kcvs:=[kc]) (ERs.ex x₂ h₃.1 ⟨h₂.2.1,h₂.2.2⟩) ⟨rfl,fun i z v h1 h2=>by
  cases i with
  | zero=>cases h1; cases h2; exact h₃.2
  | succ i=>cases h1⟩ rfl hnm e5) fun v s₄ h₄=>?_
 exact SOut.trans x₃ (.of_ex (h₁.1.trans (h₂.1.trans h₃.1))) (.refl _) .refl h₄
theorem Rs.callM0 {y : Str} {py pos p2 : Pos} {e : PySem.Expr} {rest : List PySem.Expr} {a : Addr} {st : Stmt} {dV kV : Value} {k i : Nat} {spec : CV→List CV→List CV→Option CV} {ms : List CV→Option (List CV)} (W : Wf c) (hf : Rf prog w hT c (.Name y py) (fun J=>some (.ref a))) (R : FnRec hT a st dV kV) (ha : a ≠ tabA)
  (hF : FnM prog w hT k (.ref a) [] spec) (hkd : ∀ cv0 cvs kcvs cv1,spec cv0 cvs kcvs = some cv1→kindM cv0 = kindM cv1) (hA : AOk (9 + k) c.A) (hs : Rfs prog w hT c (e::rest) ms)
  (he : ∀ env,starEach (e::rest) env = (false,eval e env)::starEach rest env:=by intro _; rfl) :
  Rs prog w hT c (.Expr (.Call (.Name y py) (e::rest) [] pos) p2) (callMM i spec ms fun J=>some []):=fun own σ s f σ' x e'=>by
 refine bc fun hG=>?_
 revert e'
 refine oR fun cvs e1 q=>?_
 obtain ⟨rest',cv1,rfl,hnm,e5,rfl,rfl⟩:=mmK_inv (show mmK i spec σ [] cvs = some (f,σ') from q)
 clear q
 obtain ⟨o,fd,hd,ho⟩:=R.fn ha
 refine hG ?_
 clear hG
 refine wpAny_Expr_any (wpAny_Call_Name_kw (wp_w (hf own σ s _ x rfl) fun fv s₁ h₁=>?_)) W.inter
 obtain rfl:=VR.ref_inv h₁.2
 have x₁:=x.ex h₁.1
 have hs':=hs pos own σ s₁ _ x₁ e1
 show wpAny _ _ (callWith pos (.ref a) [] (backTo pos (starEach (e::rest) c.env)) []) _ _ _
 rw [he] at hs' ⊢
 refine callWith_function (o:=o) (fd:=fd) (evalArgs_plain (wp_w hs' fun vs s₂ h₂=>?_))
 clear hs' hf hs
 have x₂:=x₁.ex h₂.1
 refine ⟨⟨ho s₂ x₂.at,hd⟩,?_⟩
 refine wp_w (hF.use1 hkd hA x₂ (kvs:=[]) (kcvs:=[]) ⟨h₂.2.1,h₂.2.2⟩ ⟨rfl,fun i J J h=>nomatch h⟩ rfl hnm e5) fun v s₄ h₄=>?_
 exact SOut.trans x₂ (.of_ex (h₁.1.trans h₂.1)) (.refl _) .refl h₄
end
section
variable {prog : Program} {w : World} {hT : Heap} {c : FC} {own : Nat→Option Addr} {σ : List CV} {s : Shared} {mg mb : Str→Option Value}
noncomputable def insK (i : Nat) (σ vs : List CV) : List CV→Option (CF × List CV):=on2 fun a cv=>asI (fun k=>if noM cv = true∧0≤k∧k≤vs.length∧vs.length < 4096 then some (.next,σ.set i (.mlist (vs.take k.toNat ++ cv::vs.drop k.toNat))) else none) a
theorem insK_inv {i : Nat} {σ vs cvs : List CV} {r : CF × List CV} (h : insK i σ vs cvs = some r) : ∃ k cv,cvs = [.int k,cv]∧(noM cv = true∧0≤k∧k≤vs.length∧vs.length < 4096)∧r = (.next,σ.set i (.mlist (vs.take k.toNat ++ cv::vs.drop k.toNat))):=by
 refine bc fun hG=>?_
 obtain ⟨_,cv,rfl,q⟩:=on2_inv h
 clear h
 obtain ⟨k,rfl,q⟩:=asI_inv q
 obtain ⟨hc,q⟩:=ite_some q
 refine hG ?_
 clear hG
 exact ⟨k,cv,rfl,hc,q.symm⟩
noncomputable def insM (i : Nat) (ms : List CV→Option (List CV)) : CM:=fun σ=>(ms σ).bind fun cvs=>(ml? (σ.getD i .unb)).bind fun vs=>insK i σ vs cvs
theorem Rs.ins {y : Str} {py apos pos p2 : Pos} {e1 e2 : PySem.Expr} {i : Nat} {ms : List CV→Option (List CV)} (W : Wf c) (hy : Rf prog w hT c (.Name y py) (nm i)) (h : Rfs prog w hT c [e1,e2] ms)
  (he : ∀ env,starEach [e1,e2] env = [(false,eval e1 env),(false,eval e2 env)]:=by intro _; rfl) (hline : (apos.endLine == pos.line) = true:=by rfl) :
  Rs prog w hT c (.Expr (.Call (.Attribute (.Name y py) "insert" apos) [e1,e2] [] pos) p2) (insM i ms):=fun own σ s f σ' x e'=>by
 refine bc fun hG=>?_
 revert e'
 refine oR fun cvs g1 q=>?_
 revert q
 refine oR fun vs g2 q1=>?_
 obtain ⟨k,cv,rfl,⟨hnm0,hk0,hk1,hk2⟩,q⟩:=insK_inv q1
 refine hG ?_
 clear hG
 clear q1
 cases q
 refine wpAny_Expr_any (wpAny_Call_method rfl (by rw [he]; rfl) hline PySem.F.plainAttrs_list F.slot_list_insert F.type_list_insert (wp_w (hy own σ s _ x (ml_own g2).1) fun vo s₁ h₁=>?_)) W.inter
 have x₁:=x.ex h₁.1
 refine bc fun hG=>?_
 obtain ⟨l,items,n,rfl,ho,hl,hz,hv⟩:=x₁.ml g2 (ml_own g2).1 h₁.2
 refine hG ?_
 clear hG
 refine ⟨⟨_,hl,rfl⟩,fun a q=>by cases q; exact ⟨_,hl,rfl⟩,?_⟩
 have hs':=h pos own σ s₁ _ x₁ g1
 show wpAny _ _ (callWith pos (.builtin "list.insert") [.ref l] (backTo pos (starEach [e1,e2] c.env)) []) _ _ _
 rw [he] at hs' ⊢
 refine method_meets F.slot_list_insert F.entry_list_insert rfl (evalArgs_plain (wp_w hs' fun us s₂ h₂=>?_))
 clear hs' h hy
 have x₂:=x₁.ex h₂.1
 refine bc fun hG=>?_
 obtain ⟨v1,v2,rfl,r1,r2⟩:=args2 rfl h₂.2.1 h₂.2.2
 obtain ⟨t,rfl⟩:=VR.int_inv r1
 refine hG ?_
 clear hG
 have hl₂ : IsL s₂.heap l items n:=h₂.1.kp.keep l _ (x₁.one ho) hl
 have hv₂:=hv.kp x₁.ft h₂.1.kp
 have hlen:=hv.sz
 have E:=h₁.1.trans h₂.1
 clear hl hv r1 h₁
 refine ⟨rfl,⟨_,hl₂,rfl⟩,F.args_list_insert_3 _ _ _,_,PySem.AutoListH.list_insert_list_int_val_1 l items n k t v2 (by rw [fitsIndex_of (k:=k) hk0 (by lia)]; decide) (by rw [sizeLine_eq]; exact Nat.le_trans hz (by decide)),hl₂,?_⟩
 have hkk : (if k < 0 then (k + ((items.size : Nat) : Int)).toNat else min k.toNat items.size) = k.toNat:=by rw [if_neg (by exact Int.not_lt_of_ge hk0)]; lia
 have hto : ((items.extract 0 k.toNat).push v2 ++ items.extract k.toNat).toList = items.toList.take k.toNat ++ v2::items.toList.drop k.toNat:=by
  rw [Array.toList_append,Array.toList_push,Array.toList_extract,Array.toList_extract,List.extract_eq_drop_take,List.extract_eq_drop_take]
  simp only [List.drop_zero,Nat.sub_zero,List.append_assoc,List.cons_append,List.nil_append]
  congr 2
  exact List.take_of_length_le (by simp)
 have hl3:=hl₂.update fun xs=>have k:=if k < 0 then (k + ((xs.size : Nat) : Int)).toNat else min k.toNat xs.size; (xs.extract 0 k).push v2 ++ xs.extract k
 have M:=x₂.mutV (vs':=vs.take k.toNat ++ cv::vs.drop k.toNat) (tk:=s₂.toks) g2 ho (Heap.SameBut.update ..) hl3 (by dsimp only; rw [hkk]; simp; lia) (by dsimp only; rw [hkk,hto]; exact (hv₂.take _).append (.cons (r2.vr' hnm0) (hv₂.drop _)))
 exact SOut.trans x₂ (.of_ex E) (.refl _) .refl ⟨own,M.1,M.2.1,.refl _,M.2.2,trivial⟩
end
theorem bs_le (p : Nat→Bool) : ∀ (f lo hi : Nat),lo≤hi→bs p f lo hi≤hi:=by
 intro f
 induction f with
 | zero =>
  intro lo hi h
  exact h
 | succ f bs_le =>
  intro lo hi h
  show (if lo < hi then (if p ((lo + hi) / 2) then bs p f ((lo + hi) / 2 + 1) hi else bs p f lo ((lo + hi) / 2)) else lo)≤hi
  split
  ·split
   ·exact bs_le _ _ (by lia)
   ·exact Nat.le_trans (bs_le _ _ (by lia)) (by lia)
  ·exact h
theorem ev_ins {i k : Nat} {ms : List CV→Option (List CV)} {σ vs : List CV} {cv : CV} (h1 : ms σ = some [.int k,cv]) (h2 : ml? (σ.getD i .unb) = some vs) (hn : noM cv = true) (hk : k≤vs.length) (hl : vs.length < 4096) : insM i ms σ = some (.next,σ.set i (.mlist (vs.take k ++ cv::vs.drop k))):=by
 unfold insM
 rw [h1]
 show (ml? (σ.getD i .unb)).bind _ = _
 rw [h2]
 exact if_pos ⟨hn,by exact Int.natCast_nonneg k,by exact Int.ofNat_le.mpr hk,hl⟩
noncomputable def insL (left : Bool) (as : List Int) (rows : List Str) (p : Int) : List Int :=
 let k:=bsL left (as.map fun i=>rows.getD i.toNat default) (rows.getD p.toNat default)
 as.take k ++ p::as.drop k
noncomputable def insC (left : Bool) (vs : List CV) (p : Int) (rs : List CV) : Option CV:=(ints? vs).bind fun as=>(strs? rs).bind fun rows =>
 if (as.length≤7∧(as.all fun i=>decide (0≤i∧i < rows.length)) = true)∧0≤p∧p < rows.length then some (.mlist (il (insL left as rows p))) else none
noncomputable def insS (left : Bool) : CV→List CV→List CV→Option CV:=fun c l ks=>asM (fun vs=>on1 (asI fun p=>on1 (asW fun J=>asL (insC left vs p)) ks) l) c
noncomputable def insFill : List CV→List CV→List CV
 | [x],[k]=>[x,.int 0,.none,k]
 | _,_=>[]
theorem insS_shape {left : Bool} {cv0 : CV} {cvs kcvs : List CV} {r : CV} (h : insS left cv0 cvs kcvs = some r) :
  ∃ as rows,∃ p : Nat,∃ t,∃ _ : as.length≤7,∃ _ : (as.all fun i=>decide (0≤i∧i < (rows : List Str).length)) = true,∃ _ : p < rows.length,r = .mlist (il (insL left as rows (p : Int)))∧kcvs = [.lam t (.list (sl rows))]∧cvs = [.int (p : Nat)]∧cv0 = .mlist (il as):=by
 replace h:=asM_inv h
 refine bc fun hG=>?_
 obtain ⟨vs,rfl,h⟩:=h
 replace h:=on1_inv h
 obtain ⟨_,rfl,h⟩:=h
 replace h:=asI_inv h
 obtain ⟨p,rfl,h⟩:=h
 replace h:=on1_inv h
 obtain ⟨_,rfl,h⟩:=h
 replace h:=asW_inv h
 obtain ⟨t,row,rfl,h⟩:=h
 replace h:=asL_inv h
 obtain ⟨rs,rfl,h⟩:=h
 revert h
 refine oR fun as h1 h=>?_
 revert h
 refine oR fun rows h2 h=>?_
 refine hG ?_
 clear hG
 replace h1:=ints_eq h1
 replace h2:=strs_eq h2
 subst h1 h2
 replace h:=ite_opt h
 obtain ⟨hc,h⟩:=h
 ·cases h
  refine bc fun hG=>?_
  obtain ⟨hc1,hc2,hc3⟩:=hc
  obtain ⟨q,rfl⟩:=Int.eq_ofNat_of_zero_le hc2
  refine hG ?_
  clear hG
  exact ⟨as,rows,q,t,hc1.1,hc1.2,by exact Int.ofNat_lt.mp hc3,rfl,rfl,rfl,rfl⟩
theorem kd_ins {left : Bool} (cv0 : CV) (cvs kcvs : List CV) (cv1 : CV) (h : insS left cv0 cvs kcvs = some cv1) : kindM cv0 = kindM cv1:=by
 obtain ⟨as,rows,p,t,_,_,_,rfl,rfl,rfl,rfl⟩:=insS_shape h
 rfl
noncomputable abbrev kd_il_fn:=@kd_ins true
noncomputable abbrev kd_ir_fn:=@kd_ins false
theorem ins_vals {F : Addr→Prop} {h : Heap} {left : Bool} {cv0 : CV} {cvs kcvs : List CV} {vals kvals : List Value} {r : CV} (hr : insS left cv0 cvs kcvs = some r) (hv : VRs F h cvs vals) (hk : VRs F h kcvs kvals) (dtk : Tok) :
  ∃ v1 k,kvals = [k]∧vals = [v1]∧VRs F h (insFill cvs kcvs) [v1,.int 0 dtk,.none,k]:=by
 refine bc fun hG=>?_
 obtain ⟨as,rows,p,t,_,_,_,_,rfl,rfl,rfl⟩:=insS_shape hr
 clear hr
 obtain ⟨k,_,rfl,r5,hk⟩:=hk.cons_inv
 obtain rfl:=hk.nil_inv
 obtain ⟨v1,_,rfl,r1,hv⟩:=hv.cons_inv
 obtain rfl:=hv.nil_inv
 refine hG ?_
 clear hG
 exact ⟨v1,k,rfl,rfl,.cons r1 (.cons (.int 0 dtk) (.cons .none (.cons r5 .nil)))⟩
section
variable {left : Bool} {as : List Int} {rows : List Str} {p : Nat} {t : Bool}
theorem ins_key (hp : p < rows.length) : lamF (.lam t (.list (sl rows))) [.int p] = some (.str (rows.getD p default)):=by
 show (strs? (sl rows)).bind _ = _
 rw [strs_sl]
 show (if 0≤(p : Int) then rows[(p : Int).toNat]?.map CV.str else none) = _
 rw [if_pos (Int.natCast_nonneg p)]
 show rows[p]?.map CV.str = _
 rw [List.getD_eq_getElem?_getD,List.getElem?_eq_getElem hp]; rfl
noncomputable abbrev insN (left : Bool) (as : List Int) (rows : List Str) (p : Nat) : Nat:=bsL left (as.map fun i=>rows.getD i.toNat default) (rows.getD p default)
theorem ins_bis (h7 : as.length≤7) (hall : (as.all fun i=>decide (0≤i∧i < (rows : List Str).length)) = true) : callS (bisS left) [.mlist (il as),.int p,.int 0,.none,.lam t (.list (sl rows)),.unb] [.own 0,.str (rows.getD p default),.int 0,.none] [.lam t (.list (sl rows))] = some (.int (insN left as rows p : Nat)):=by
 show (((bisC left (il as) (rows.getD p default) (sl rows))).bind fun r=>if scal r then some r else none) = _
 unfold bisC
 rw [ints_il]
 show (((strs? (sl rows)).bind _).bind _) = _
 rw [strs_sl]
 show ((if as.length≤8∧(as.all fun i=>decide (0≤i∧i < (rows : List Str).length)) = true then some (CV.int (insN left as rows p : Nat)) else none).bind _) = _
 rw [if_pos ⟨Nat.le_succ_of_le h7,hall⟩]
 rfl
theorem ins_end (h7 : as.length≤7) {ms : List CV→Option (List CV)} (h : ms [.mlist (il as),.int p,.int (insN left as rows p : Nat),.none,.lam t (.list (sl rows)),.unb] = some [.int (insN left as rows p : Nat),.int p]) :
  insM 0 ms [.mlist (il as),.int p,.int (insN left as rows p : Nat),.none,.lam t (.list (sl rows)),.unb] = some (.next,[.mlist (il (insL left as rows (p : Int))),.int p,.int (insN left as rows p : Nat),.none,.lam t (.list (sl rows)),.unb]):=by
 have hkl : insN left as rows p≤as.length:=by unfold insN bsL; exact Nat.le_trans (bs_le _ _ _ _ (Nat.zero_le _)) (by simp)
 refine (ev_ins h rfl rfl (by rw [List.length_map]; exact hkl) (by rw [List.length_map]; exact Nat.lt_of_le_of_lt h7 (by decide))).trans ?_
 show some (CF.next,[CV.mlist _,_,_,_,_,_]) = _
 refine congrArg (fun z=>some (CF.next,[CV.mlist z,_,_,_,_,_])) ?_
 show (il as).take _ ++ CV.int p::(il as).drop _ = il (as.take (insN left as rows p) ++ (p : Int)::as.drop (insN left as rows p))
 rw [il,il,List.map_append,List.map_cons,List.map_take,List.map_drop]
end
section
variable {prog : Program} {w : World} {hT : Heap} {mg mb : Str→Option Value}
theorem il_fn (T : Tops prog hT mg mb) : FnM prog w hT 12 (.ref 65) [("key" : Str)] (insS true):=by
 refine bc fun hG=>?_
 obtain ⟨dv,kv,R,D⟩:=T.r65
 obtain ⟨d74,k74,R74,D74⟩:=T.r74
 refine hG ?_
 clear hG
 refine FnM.of_body T.tf (n:=5) R (by decide) ⟨rfl,by decide,rfl,rfl⟩ (fun A e X s0 P px W hA=>(Rss.cons (Rs.ifS (Rt.com W (Rf.loc W (i:=4) rfl) Rf.non) Rss.any (Rss.cons (Rs.asg W (i:=2) (.inl rfl) (Rf.callK (Rf.glb T.tf W (i:=5) rfl T.g74 rfl) R74 (by decide) (bl_fn T) (hA.mono (by decide)) (Rfs.cons (Rf.loc W (i:=0) rfl) (Rfs.cons (Rf.callL T (hA.mono (by decide)) (Rf.loc W (i:=4) rfl) (Rfs.cons (Rf.loc W (i:=1) rfl) Rfs.nil)) (Rfs.cons (Rf.loc W (i:=2) rfl) (Rfs.cons (Rf.loc W (i:=3) rfl) Rfs.nil)))) (Rf.loc W (i:=4) rfl))) Rss.nil)) (Rss.cons (Rs.ins W (i:=0) (Rf.loc W (i:=0) rfl) (Rfs.cons (Rf.loc W (i:=2) rfl) (Rfs.cons (Rf.loc W (i:=1) rfl) Rfs.nil))) Rss.nil))) insFill ?_ (by decide) (by decide) (y0:="a") (by rfl) ?_
 ·intro s F fd hs hF h1 h2 h3 cv0 cvs kcvs cv1 v0 vals kvals hv hkv hkl hr
  refine bc fun hG=>?_
  obtain ⟨dA,dO,dn,dtk,d1,d2,d3,d4⟩:=D.d
  have hd:=hs.top.keep dA dO d2 d3
  obtain ⟨v1,k,rfl,rfl,h⟩:=ins_vals hr hv hkv dtk
  refine hG ?_
  clear hG
  clear hr hv hkv
  cases fd; simp only at h1 h2 h3; subst h1 h2
  exact ⟨_,BindsTo.of_defaults d1 hd d4 rfl rfl,rfl,h⟩
 ·intro cv0 cvs kcvs cv1 hr
  refine bc fun hG=>?_
  obtain ⟨as,rows,p,t,h7,hall,hp,rfl,rfl,rfl,rfl⟩:=insS_shape hr
  refine hG ?_
  clear hG
  clear hr
  show ∃ f σ',(seqM _ (seqM _ _)) [.mlist (il as),.int p,.int 0,.none,.lam t (.list (sl rows)),.unb] = some (f,σ')∧resOf f = some .none∧σ'.getD 0 .unb = _
  refine ⟨.next,[.mlist (il (insL true as rows (p : Int))),.int p,.int (insN true as rows p : Nat),.none,.lam t (.list (sl rows)),.unb],?_,rfl,rfl⟩
  refine ev_seq (σ1:=[.mlist (il as),.int p,.int (insN true as rows p : Nat),.none,.lam t (.list (sl rows)),.unb]) (ev_ifF rfl (ev_seq (ev_asg (cv:=.int (insN true as rows p : Nat)) ?_ rfl) rfl)) (ev_seq (ins_end h7 rfl) rfl)
  exact ev_bind (a:=[.own 0,.str (rows.getD p default),.int 0,.none]) (ev_bind (a:=.own 0) rfl (ev_map (a:=[.str (rows.getD p default),.int 0,.none]) (ev_bind (a:=.str (rows.getD p default)) (ev_bind (a:=.lam t (.list (sl rows))) rfl (ev_bind (a:=[.int p]) rfl (ins_key hp))) rfl) rfl)) (ev_bind (a:=.lam t (.list (sl rows))) rfl (ins_bis h7 hall))
theorem ir_fn (T : Tops prog hT mg mb) : FnM prog w hT 12 (.ref 47) [("key" : Str)] (insS false):=by
 refine bc fun hG=>?_
 obtain ⟨dv,kv,R,D⟩:=T.r47
 obtain ⟨d56,k56,R56,D56⟩:=T.r56
 refine hG ?_
 clear hG
 refine FnM.of_body T.tf (n:=5) R (by decide) ⟨rfl,by decide,rfl,rfl⟩ (fun A e X s0 P px W hA=>(Rss.cons (Rs.ifS (Rt.com W (Rf.loc W (i:=4) rfl) Rf.non) Rss.any (Rss.cons (Rs.asg W (i:=2) (.inl rfl) (Rf.callK (Rf.glb T.tf W (i:=5) rfl T.g56 rfl) R56 (by decide) (br_fn T) (hA.mono (by decide)) (Rfs.cons (Rf.loc W (i:=0) rfl) (Rfs.cons (Rf.callL T (hA.mono (by decide)) (Rf.loc W (i:=4) rfl) (Rfs.cons (Rf.loc W (i:=1) rfl) Rfs.nil)) (Rfs.cons (Rf.loc W (i:=2) rfl) (Rfs.cons (Rf.loc W (i:=3) rfl) Rfs.nil)))) (Rf.loc W (i:=4) rfl))) Rss.nil)) (Rss.cons (Rs.ins W (i:=0) (Rf.loc W (i:=0) rfl) (Rfs.cons (Rf.loc W (i:=2) rfl) (Rfs.cons (Rf.loc W (i:=1) rfl) Rfs.nil))) Rss.nil))) insFill ?_ (by decide) (by decide) (y0:="a") (by rfl) ?_
 ·intro s F fd hs hF h1 h2 h3 cv0 cvs kcvs cv1 v0 vals kvals hv hkv hkl hr
  refine bc fun hG=>?_
  obtain ⟨dA,dO,dn,dtk,d1,d2,d3,d4⟩:=D.d
  have hd:=hs.top.keep dA dO d2 d3
  obtain ⟨v1,k,rfl,rfl,h⟩:=ins_vals hr hv hkv dtk
  refine hG ?_
  clear hG
  clear hr hv hkv
  cases fd; simp only at h1 h2 h3; subst h1 h2
  exact ⟨_,BindsTo.of_defaults d1 hd d4 rfl rfl,rfl,h⟩
 ·intro cv0 cvs kcvs cv1 hr
  refine bc fun hG=>?_
  obtain ⟨as,rows,p,t,h7,hall,hp,rfl,rfl,rfl,rfl⟩:=insS_shape hr
  refine hG ?_
  clear hG
  clear hr
  show ∃ f σ',(seqM _ (seqM _ _)) [.mlist (il as),.int p,.int 0,.none,.lam t (.list (sl rows)),.unb] = some (f,σ')∧resOf f = some .none∧σ'.getD 0 .unb = _
  refine ⟨.next,[.mlist (il (insL false as rows (p : Int))),.int p,.int (insN false as rows p : Nat),.none,.lam t (.list (sl rows)),.unb],?_,rfl,rfl⟩
  refine ev_seq (σ1:=[.mlist (il as),.int p,.int (insN false as rows p : Nat),.none,.lam t (.list (sl rows)),.unb]) (ev_ifF rfl (ev_seq (ev_asg (cv:=.int (insN false as rows p : Nat)) ?_ rfl) rfl)) (ev_seq (ins_end h7 rfl) rfl)
  exact ev_bind (a:=[.own 0,.str (rows.getD p default),.int 0,.none]) (ev_bind (a:=.own 0) rfl (ev_map (a:=[.str (rows.getD p default),.int 0,.none]) (ev_bind (a:=.str (rows.getD p default)) (ev_bind (a:=.lam t (.list (sl rows))) rfl (ev_bind (a:=[.int p]) rfl (ins_key hp))) rfl) rfl)) (ev_bind (a:=.lam t (.list (sl rows))) rfl (ins_bis h7 hall))
end
theorem bs_congr (p q : Nat→Bool) : ∀ (f lo hi : Nat),(∀ m,lo≤m→m < hi→p m = q m)→bs p f lo hi = bs q f lo hi:=by
 intro f
 induction f with
 | zero =>
  intro _ _ _
  exact rfl
 | succ f bs_congr =>
  intro lo hi h
  show (if lo < hi then (if p ((lo + hi) / 2) then bs p f ((lo + hi) / 2 + 1) hi else bs p f lo ((lo + hi) / 2)) else lo) = (if lo < hi then (if q ((lo + hi) / 2) then bs q f ((lo + hi) / 2 + 1) hi else bs q f lo ((lo + hi) / 2)) else lo)
  by_cases hl : lo < hi
  ·rw [if_pos hl,if_pos hl,h _ (half hl).1 (half hl).2,bs_congr _ _ (fun m h1 h2=>h m (Nat.le_trans (half hl).1 (Nat.le_of_succ_le h1)) h2),bs_congr lo _ (fun m h1 h2=>h m h1 (Nat.lt_trans h2 (half hl).2))]
  ·rw [if_neg hl,if_neg hl]
theorem bs_spec (p : Nat→Bool) (n : Nat) (hp : ∀ i j,i < j→j < n→p j = true→p i = true) : ∀ (f lo hi : Nat),hi - lo≤f→lo≤hi→hi≤n→(∀ i,i < lo→p i = true)→(∀ i,hi≤i→i < n→p i = false) →
  bs p f lo hi≤n∧(∀ i,i < bs p f lo hi→p i = true)∧(∀ i,bs p f lo hi≤i→i < n→p i = false):=by
 intro f
 induction f with
 | zero =>
  intro lo hi hf hlh hn h1 h2
  have : lo = hi:=Nat.le_antisymm hlh (Nat.le_of_sub_eq_zero (Nat.le_zero.mp hf))
  subst this
  exact ⟨hn,h1,h2⟩
 | succ f bs_spec =>
  intro lo hi hf hlh hn h1 h2
  rw [show bs p (f + 1) lo hi = (if lo < hi then (if p ((lo + hi) / 2) then bs p f ((lo + hi) / 2 + 1) hi else bs p f lo ((lo + hi) / 2)) else lo) from rfl]
  by_cases hl : lo < hi
  ·rw [if_pos hl]
   cases hm : p ((lo + hi) / 2) with
   | true =>
    rw [if_pos rfl]
    refine bs_spec _ _ (half_up hf (half hl).1) (half hl).2 hn (fun i hi'=>?_) h2
    rcases Nat.lt_or_ge i ((lo + hi) / 2) with q | q
    ·exact hp i _ q (Nat.lt_of_lt_of_le (half hl).2 hn) hm
    ·have : i = (lo + hi) / 2:=by exact Nat.eq_of_le_of_lt_succ q hi'
     rw [this]; exact hm
   | false =>
    rw [if_neg (by decide)]
    refine bs_spec _ _ (half_dn hf (half hl).2) (half hl).1 (Nat.le_trans (Nat.le_of_lt (half hl).2) hn) h1 (fun i hi' hin=>?_)
    rcases Nat.eq_or_lt_of_le hi' with q | q
    ·rw [← q]; exact hm
    ·cases hpi : p i with
     | false=>rfl
     | true=>rw [hp _ i q hin hpi] at hm; cases hm
  ·rw [if_neg hl]
   have : lo = hi:=Nat.le_antisymm hlh (Nat.not_lt.mp hl)
   subst this
   exact ⟨hn,h1,h2⟩
noncomputable abbrev Srt (l : List Int) : Prop:=l.Pairwise (·≤·)
noncomputable def bsI (left : Bool) (l : List Int) (v : Int) : Nat:=bs (fun m=>if left then decide (l.getD m 0 < v) else !decide (v < l.getD m 0)) 9 0 l.length
theorem Srt.get {l : List Int} (h : Srt l) {i j : Nat} (hij : i < j) (hj : j < l.length) : l.getD i 0≤l.getD j 0:=by
 rw [List.getD_eq_getElem?_getD,List.getD_eq_getElem?_getD,List.getElem?_eq_getElem hj,List.getElem?_eq_getElem (by exact Nat.lt_trans hij hj)]
 exact List.pairwise_iff_getElem.mp h i j (by exact Nat.lt_trans hij hj) hj hij
theorem bsI_spec (left : Bool) {l : List Int} {v : Int} (h : Srt l) (h9 : l.length≤9) : bsI left l v≤l.length ∧
  (∀ x∈l.take (bsI left l v),if left then x < v else x≤v)∧(∀ x∈l.drop (bsI left l v),if left then v≤x else v < x):=by
 obtain ⟨h1,h2,h3⟩:=bs_spec (fun m=>if left then decide (l.getD m 0 < v) else !decide (v < l.getD m 0)) l.length (fun i j hij hj e=>by
  have:=h.get hij hj
  cases left with
  | true=>simp only [if_true] at e ⊢; have:=of_decide_eq_true e; exact decide_eq_true (by lia)
  | false=>simp only [Bool.false_eq_true,if_false,Bool.not_eq_true',decide_eq_false_iff_not] at e ⊢; lia) 9 0 l.length (by exact Nat.sub_le_of_le_add h9) (Nat.zero_le _) (Nat.le_refl _) (fun i hi=>absurd hi (Nat.not_lt_zero i)) (fun i h1 h2=>absurd h2 (Nat.not_lt.mpr h1))
 refine ⟨h1,fun x hx=>?_,fun x hx=>?_⟩
 ·obtain ⟨i,hi,rfl⟩:=List.mem_iff_getElem.mp hx
  rw [List.length_take] at hi
  have:=h2 i (by unfold bsI at hi; lia)
  rw [List.getElem_take]
  rw [List.getD_eq_getElem?_getD,List.getElem?_eq_getElem (by lia)] at this
  cases left with
  | true=>simpa using this
  | false=>simpa using this
 ·obtain ⟨i,hi,rfl⟩:=List.mem_iff_getElem.mp hx
  rw [List.length_drop] at hi
  have:=h3 (bsI left l v + i) (by unfold bsI; exact Nat.le_add_right _ _) (by exact Nat.add_lt_of_lt_sub' hi)
  rw [List.getElem_drop]
  rw [List.getD_eq_getElem?_getD,List.getElem?_eq_getElem (by exact Nat.add_lt_of_lt_sub' hi)] at this
  cases left with
  | true=>simpa using this
  | false=>simpa using this
theorem ins_srt (left : Bool) {l : List Int} {v : Int} (h : Srt l) (h9 : l.length≤9) : Srt (l.take (bsI left l v) ++ v::l.drop (bsI left l v)):=by
 obtain ⟨h1,h2,h3⟩:=bsI_spec left (v:=v) h h9
 refine List.pairwise_append.mpr ⟨h.sublist (List.take_sublist _ _),List.pairwise_cons.mpr ⟨fun x hx=>?_,h.sublist (List.drop_sublist _ _)⟩,fun x hx y hy=>?_⟩
 ·have:=h3 x hx; cases left <;> simp at this <;> lia
 ·have a:=h2 x hx
  rcases List.mem_cons.mp hy with rfl | hy
  ·cases left <;> simp at a <;> lia
  ·have b:=h3 y hy; cases left <;> simp at a b <;> lia
noncomputable def cnt (l : List Int) (k : Int) : Nat:=l.countP fun x=>decide (x≤k)
theorem bsI_cnt (left : Bool) {l : List Int} {v : Int} (h : Srt l) (h9 : l.length≤9) : bsI left l v = l.countP fun x=>if left then decide (x < v) else decide (x≤v):=by
 refine bc fun hG=>?_
 obtain ⟨h1,h2,h3⟩:=bsI_spec left (v:=v) h h9
 refine hG ?_
 clear hG
 conv=>rhs; rw [← List.take_append_drop (bsI left l v) l]
 rw [List.countP_append,List.countP_eq_length.mpr,List.countP_eq_zero.mpr,List.length_take,Nat.add_zero,Nat.min_eq_left h1]
 ·intro x hx
  have:=h3 x hx
  cases left <;> simp at this ⊢ <;> lia
 ·intro x hx
  have:=h2 x hx
  cases left <;> simp at this ⊢ <;> exact Int.le_def.mpr (h2 x hx)
theorem srt_perm : ∀ {l m : List Int},Srt l→Srt m→l.Perm m→l = m:=by
 intro l
 induction l with
 | nil =>
  intro m _ _ h
  exact (List.nil_perm.mp h).symm
 | cons a l srt_perm =>
  intro m h1 h2 h
  cases m with
  | nil=>exact absurd h (by exact List.not_perm_cons_nil)
  | cons b m =>
   have hab : a = b:=by
    have h3:=List.pairwise_cons.mp h1
    have h4:=List.pairwise_cons.mp h2
    have ha : a∈b::m:=h.mem_iff.mp List.mem_cons_self
    have hb : b∈a::l:=h.mem_iff.mpr List.mem_cons_self
    have q1 : b≤a:=by
     rcases List.mem_cons.mp ha with q | q
     ·exact Int.le_of_eq (id (Eq.symm q))
     ·exact h4.1 a q
    have q2 : a≤b:=by
     rcases List.mem_cons.mp hb with q | q
     ·exact Int.le_of_eq (id (Eq.symm q))
     ·exact h3.1 b q
    exact Int.le_antisymm q2 q1
   subst hab
   rw [srt_perm (List.pairwise_cons.mp h1).2 (List.pairwise_cons.mp h2).2 (List.perm_cons a |>.mp h)]
theorem sortI_srt (l : List Int) : Srt (sortI l):=by
 have:=List.pairwise_mergeSort (le:=fun a b : Int=>decide (a≤b)) (by simp; exact fun a b c a_1 a_2=>Int.le_trans a_1 a_2) (by simp; exact fun a b=>Int.le_total a b) l
 exact this.imp fun h=>by simpa using h
theorem sortI_perm (l : List Int) : (sortI l).Perm l:=List.mergeSort_perm _ _
noncomputable def valsI (p L : List Int) : List Int:=L.map fun i=>p.getD i.toNat 0
noncomputable def insI (left : Bool) (p L : List Int) (t : Int) : List Int:=L.take (bsI left (valsI p L) (p.getD t.toNat 0)) ++ t::L.drop (bsI left (valsI p L) (p.getD t.toNat 0))
noncomputable def layI (left : Bool) (p : List Int) (t : Nat) : List Int:=(List.range t).foldl (fun L i=>insI left p L (i : Nat)) []
theorem insI_len (left : Bool) (p L : List Int) (t : Int) : (insI left p L t).length = L.length + 1:=by
 unfold insI
 rw [List.length_append,List.length_cons,← Nat.add_assoc,← List.length_append,List.take_append_drop]
theorem layI_succ (left : Bool) (p : List Int) (t : Nat) : layI left p (t + 1) = insI left p (layI left p t) t:=by
 unfold layI; rw [List.range_succ,List.foldl_append]; rfl
theorem layI_len (left : Bool) (p : List Int) : ∀ t,(layI left p t).length = t
 | 0=>rfl
 | t + 1=>by rw [layI_succ,insI_len,layI_len left p t]
theorem insI_perm (left : Bool) (p L : List Int) (t : Int) : (insI left p L t).Perm (t::L):=by
 unfold insI
 refine List.perm_middle.trans ?_
 rw [List.take_append_drop]
theorem layI_perm (left : Bool) (p : List Int) : ∀ t,(layI left p t).Perm ((List.range t).map fun i : Nat=>(i : Int))
 | 0=>.refl _
 | t + 1=>by
  rw [layI_succ,List.range_succ,List.map_append]
  refine (insI_perm left p _ _).trans ?_
  refine ((layI_perm left p t).cons (t : Int)).trans ?_
  exact List.perm_append_comm (l₁:=[(t : Int)])
theorem layI_srt (left : Bool) (p : List Int) : ∀ t,t≤9→Srt (valsI p (layI left p t)):=by
 intro t
 induction t with
 | zero =>
  intro _
  exact List.Pairwise.nil
 | succ t layI_srt =>
  intro h
  rw [layI_succ]
  have ih:=layI_srt (by exact Nat.le_of_succ_le h)
  have:=ins_srt left (v:=p.getD (t : Int).toNat 0) ih (by unfold valsI; rw [List.length_map,layI_len]; exact Nat.le_of_succ_le h)
  unfold insI
  rw [valsI,List.map_append,List.map_cons,List.map_take,List.map_drop]
  exact this
theorem layI_vals (left : Bool) (p : List Int) {t : Nat} (h : t≤9) (hp : t≤p.length) : valsI p (layI left p t) = sortI (p.take t):=by
 refine srt_perm (layI_srt left p t h) (sortI_srt _) (((layI_perm left p t).map _).trans (.trans (.of_eq ?_) (sortI_perm _).symm))
 rw [List.map_map]
 apply List.ext_getElem?
 intro i
 rw [List.getElem?_map,List.getElem?_take]
 by_cases hi : i < t
 ·rw [List.getElem?_range hi,if_pos hi]
  show some (p.getD ((i : Int).toNat) 0) = p[i]?
  rw [show ((i : Int).toNat) = i from rfl,List.getD_eq_getElem?_getD,List.getElem?_eq_getElem (by exact Nat.lt_of_lt_of_le hi hp)]; rfl
 ·rw [if_neg hi,List.getElem?_eq_none (by simp; exact Nat.le_of_not_lt hi)]; rfl
theorem lay_cnt (left : Bool) (p : List Int) {t : Nat} (h : t≤9) (hp : t≤p.length) (lf : Bool) (v : Int) : bsI lf (valsI p (layI left p t)) v = (p.take t).countP fun x=>if lf then decide (x < v) else decide (x≤v):=by
 rw [bsI_cnt lf (layI_srt left p t h) (by unfold valsI; rw [List.length_map,layI_len]; exact String.Pos.Raw.mk_le_mk.mp h),layI_vals left p h hp]
 exact (sortI_perm _).countP_eq _
theorem codeAmong_or {pos : Pos} {a b : Int} {c cv : Value} (l : List Value) (h : TriplesOk l) (e : codeAmong pos (l ++ [rawInt a,rawInt b,c]) = some cv) : codeAmong pos l = some cv∨cv = c:=by
 fun_induction TriplesOk l with
 | case1 =>
  right
  simp only [List.nil_append,codeAmong,rawInt] at e
  replace e:=ite_opt e
  obtain ⟨_,e⟩:=e
  ·cases e; rfl
 | case2 x t y u z rest ih =>
  simp only [List.cons_append,codeAmong] at e ⊢
  split at e
  ·rename_i hc; left; rw [if_pos hc]; exact e
  ·rename_i hc; rw [if_neg hc]; exact ih h e
 | case3=>exact h.elim
section
variable {prog : Program} {w : World} {hT : Heap} {c : FC} {own : Nat→Option Addr} {σ : List CV} {s : Shared} {mg mb : Str→Option Value}
structure LamF (c : FC) : Prop where
 code : c.env.code = .ref codA
 qual : c.env.qual ++ ("<lambda>" : Str) = qlam
 x0 : ∀ a,c.X a→a = tabA
noncomputable def lamOk (cv : CV) : Bool:=match cv with
 | .list _=>true
 | _=>false
noncomputable def lamV (i : Nat) (two : Bool) (σ : List CV) : Option CV:=if lamOk (σ.getD i .unb) = true then some (.lam two (σ.getD i .unb)) else none
theorem lam_closure {two : Bool} {env : Env} {a : Addr} (h : env.cells.lookup (lamName two) = some a) : closureFor (lamScope two) env = pure [(lamName two,a)]:=by
 unfold closureFor
 rw [lam_names]
 simp only [List.forIn_cons,List.forIn_nil]
 have hc : cellOf env (lamName two) = pure a:=by unfold cellOf; rw [h]
 rw [hc]
 rfl
theorem lam_default {two : Bool} {env : Env} : defaultsOf (lamArgs two) env = ([],[]):=by cases two <;> rfl
theorem lam_code (x : SR hT c own σ s) (L : LamF c) {h1 : Heap} (k1 : ∀ b o,s.heap.get? b = some o→h1.get? b = some o) (z1 : s.heap.objs.size≤h1.objs.size) {M : Model} {A : Around} {E : Value→Shared→Prop} {pos : Pos} {line : Nat} {name : Str} {p : Arguments} {sc : Scope} {body : FuncBody} {Q : Value→Shared→Prop}
  (hQ : ∀ cc h' tk,Kp s.heap h'→s.heap.objs.size≤h'.objs.size→¬ FF c own cc→(∃ oc vc tc,h'.get? cc = some oc∧oc.cls = .type "code"∧oc.data = .fields vc∧vc[1]? = some (.str qlam tc))→Q (.ref cc) { s with heap:=h',toks:=tk }) :
  wpAny M A (functionCode c.env pos line name qlam p sc body) Q E { s with heap:=h1 }:=by
 refine bc fun hG=>?_
 obtain ⟨ps,tk⟩:=x.tok
 refine hG ?_
 clear hG
 have t1:=tk.keeps k1
 cases hf : codeAmong pos ps.toList with
 | some cv =>
  refine bc fun hG=>?_
  obtain ⟨cc,oc,vc,tc,rfl,q2,q3,q4,q5,q6⟩:=tk.l pos cv hf
  refine hG ?_
  clear hG
  refine wpAny_functionCode_hit (s:={ s with heap:=h1 }) L.code t1.c hf (hQ cc h1 _ (.of_all k1) z1 (fun f=>?_) ⟨oc,vc,tc,k1 _ _ q3,q4,q5,q6⟩)
  obtain ⟨o,e1,e2⟩:=x.fal f q2
  rw [q3] at e1; cases e1
  exact e2.elim (fun z=>z q4) fun z=>z _ q5
 | none =>
  refine wpAny_functionCodeX (s:={ s with heap:=h1 }) L.code t1.c t1.t hf fun c' h' tk' hx hge hlt hic hrec htb hcl=>?_
  refine bc fun hG=>?_
  obtain ⟨P',_,_,⟨⟨oc,vc,p1,p2,p3,p4⟩,_⟩⟩:=hcl
  obtain ⟨c2,oc2,vc2,tc,q1,q2,q3,q4⟩:=hrec
  refine hG ?_
  clear hG
  cases q1
  rw [p1] at q2; cases q2
  rw [p3] at q3; cases q3
  have hc'n : s.heap.get? c' = none:=by
   cases e : s.heap.get? c' with
   | none=>rfl
   | some o=>exact absurd (Heap.lt_size e) (Nat.not_lt.mpr (Nat.le_trans z1 hge))
  have hc't : c' ≠ tabA:=fun q=>by
   rw [q,tk.t.2] at hc'n; cases hc'n
  refine hQ c' h' tk' ⟨fun b o ht e=>hx b o ht (k1 b o e),fun ps' t'=>?_⟩ (Nat.le_of_lt (Nat.lt_of_le_of_lt (Nat.le_trans z1 hge) hlt)) (x.fnew hc'n) ⟨oc,vc,tc,p1,p2,p3,q4⟩
  have : ps' = ps:=by
   have e1:=t'.t.2
   rw [tk.t.2] at e1
   cases e1; rfl
  subst this
  refine ⟨_,hic,htb,fun pos' cv' e=>?_⟩
  rw [Array.toList_append] at e
  refine bc fun hG=>?_
  obtain ⟨_,_,_,_,_,_,_,_,_,_,_,_,_,_,_,_,_,_,_,htr,_⟩:=tk.c
  refine hG ?_
  clear hG
  rcases codeAmong_or _ htr e with e | e
  ·refine bc fun hG=>?_
   obtain ⟨cc,oc3,vc3,tc3,r1,r2,r3,r⟩:=t'.l pos' cv' e
   refine hG ?_
   clear hG
   exact ⟨cc,oc3,vc3,tc3,r1,r2,hx _ _ r2 (k1 _ _ r3),r⟩
  ·exact ⟨c',oc,vc,tc,e,hc't,p1,p2,p3,q4⟩
theorem Rf.lamE (W : Wf c) (L : LamF c) (T : TF prog hT mg mb) (hB : hT.BuiltinsAt mg tabA) {i : Nat} (two : Bool) {pos : Pos} (hn : c.names[i]? = some (lamName two,.cell)) (hK : c.K i = true) :
  Rf prog w hT c (.Lambda (lamArgs two) (lamBody two) (lamScope two) pos) (lamV i two):=fun own σ s cv x e=>by
 refine bc fun hG=>?_
 obtain ⟨hc,rfl⟩:=ite_some (show (if lamOk (σ.getD i .unb) = true then some (CV.lam two (σ.getD i .unb)) else none) = some cv from e)
 clear e
 obtain ⟨a,ov,g1,g2,g3,_⟩:=x.cel i _ hn
 obtain ⟨v,rfl,hv⟩ : ∃ v,ov = some v∧VR (FF c own) s.heap (σ.getD i .unb) v:=by
  generalize σ.getD i CV.unb = z at g3 hc
  cases z <;> first | exact ff hc | exact g3
 clear g3 hc
 have haF : ¬ FF c own a:=fun f=>by
  rcases f with f | f | ⟨j,z,q1,q2,q3⟩ | ⟨j,f⟩
  ·exact x.cne g2 (L.x0 a f)
  ·exact x.cnl g2 f
  ·rw [← x.cinj i j _ _ a hn q1 g1 q3,hK] at q2; cases q2
  ·exact x.cno g2 f rfl
 have hg : s.heap.Ns mainGlobals mg:=x.globals T
 obtain ⟨bm,ob,b1,b2,b3,b4,b5,b6,b7,b8⟩:=hB
 refine hG ?_
 clear hG
 have hbo:=x.top.keep bm ob b4 b5
 refine kla_eval lam_default ?_
 rw [makeFunction_eq]
 simp only [List.zip_nil_right,List.filterMap_nil,List.isEmpty_nil,if_true,pure_bind]
 unfold makeTail
 rw [lam_closure g1,W.gl,L.qual]
 refine wpAny_bind (wpAny_pure ?_)
 simp only [List.isEmpty_cons,Bool.false_eq_true,if_false]
 refine wpAny_bind (wpAny_newTextTuple (wpAny_bind (lam_code x L (fun b o e=>Heap.get?_push_of_some _ e) (by rw [Heap.size_push]; exact Nat.le_succ _) fun cc h' tk kp hsz hcF hrec=>?_)))
 have hg' : h'.Ns mainGlobals mg:=hg.at' fun o e=>kp.keep _ _ (by decide) e
 refine wpAny_bind (wpAny_builtinsFor hg' b1 b2 (kp.keep _ _ b4 hbo) b6 b7 b8 (wpAny_bind (wpAny_nsGet hg' (wpAny_bind (wpAny_pure (wpAny_newObj_type ?_ (by size_fits)))))))
 refine bc fun hG=>?_
 obtain ⟨oc,vc,tc,q1,q2,q3,q4⟩:=hrec
 obtain ⟨ok,q5,q6⟩:=g2
 refine hG ?_
 clear hG
 refine ⟨.heap (kp.trans (.push _ _)),?_⟩
 show VR (FF c own) _ _ _
 exact .lam (x.fnew (by
   cases e : s.heap.get? h'.objs.size with
   | none=>rfl
   | some o=>exact absurd (Heap.lt_size e) (Nat.not_lt.mpr hsz))) haF (Heap.get?_push_size _ rfl) rfl rfl rfl rfl rfl rfl rfl rfl rfl rfl ⟨cc,oc,vc,tc,rfl,hcF,Heap.get?_push_of_some _ q1,q2,q3,q4⟩
  ⟨ok,Heap.get?_push_of_some _ (kp.keep _ _ (x.cne ⟨ok,q5,q6⟩) q5),q6⟩ (hv.kp x.ft (kp.trans (.push _ _)))
end
noncomputable def Fn0 (prog : Program) (w : World) (hT : Heap) (k : Nat) (fv : Value) (spec : List CV→List CV→Option CV) : Prop :=
 ∀ (A : Around) (s : Shared) cvs (vals : List Value) r,AOk (9 + k) A→At hT s→VRs F₀ s.heap cvs vals→spec cvs [] = some r →
  wpAny (model prog w) A (call fv vals []) (fun v s'=>Ex s s'∧VR F₀ s'.heap r v) noE s
noncomputable def frzM (m : CM) : CM:=fun σ=>if (σ.all fun cv=>!isM cv) = true then (m σ).map fun p=>(p.1,[]) else none
noncomputable def callZ (spec : List CV→List CV→Option CV) (σ cvs : List CV) : Option CV:=(rdAll σ cvs).bind fun ws=>(spec ws []).bind fun r=>if scal r then some r else none
section
variable {prog : Program} {w : World} {hT : Heap} {c : FC} {own own' own'' : Nat→Option Addr} {σ σ' : List CV} {s s' s'' : Shared} {mg mb : Str→Option Value}
theorem noM_at (h : (σ.all fun cv=>!isM cv) = true) (i : Nat) : isM (σ.getD i .unb) = false:=by
 rw [List.getD_eq_getElem?_getD]
 cases e : σ[i]? with
 | none=>rfl
 | some cv=>simpa using List.all_eq_true.mp h cv (List.mem_of_getElem? e)
theorem Rss.freeze {K' : Nat→Bool} {st : List Stmt} {m : CM} (hK : ∀ i,c.K i = true→K' i = true) (h : Rss prog w hT { c with K:=K' } st m) : Rss prog w hT c st (frzM m):=fun own σ s f σ' x e=>by
 unfold frzM at e
 replace e:=ite_opt e
 obtain ⟨hM,e⟩:=e
 ·refine bc fun hG=>?_
  obtain ⟨⟨f1,σ1⟩,e1,e2⟩:=oM e
  refine hG ?_
  clear hG
  cases e2
  have mu : ∀ own a,Mut { c with K:=K' } own a→Mut c own a:=fun own a q=>by
   rcases q with q | ⟨i,y,q1,q2,q3⟩ | q
   ·exact .inl q
   ·refine .inr (.inl ⟨i,y,q1,?_,q3⟩)
    cases hc : c.K i with
    | false=>rfl
    | true=>have q2 : K' i = false:=q2; rw [hK i hc] at q2; cases q2
   ·exact .inr (.inr q)
  have sub : ∀ a,FF { c with K:=K' } own a→FF c own a:=fun a q=>q.elim .inl fun q=>.inr (mu own a q)
  have sv : ∀ (i : Nat) (ov : Option Value),SV c own s.heap i (σ.getD i .unb) ov→SV { c with K:=K' } own s.heap i (σ.getD i .unb) ov:=fun i ov q=>by
   have hm:=noM_at hM i
   generalize σ.getD i .unb = z at q hm
   cases z <;> first | (cases hm; done) | exact q | (obtain ⟨v,q1,q2⟩:=q; exact ⟨v,q1,q2.weak sub⟩)
  have x2 : SR hT { c with K:=K' } own σ s:=by
   refine ⟨x.top,x.top0,x.pt,x.pa,x.os,x.gens,x.kp,x.tab,x.tok,x.xt,x.xa,x.lf,?_,fun i y hy=>?_,x.cinj,x.oinj,x.ofr,x.oal⟩
   ·obtain ⟨m,h1,h2⟩:=x.ns; exact ⟨m,h1,fun i y hy=>sv i _ (h2 i y hy)⟩
   ·refine bc fun hG=>?_
    obtain ⟨a,ov,h1,h2,h3,h4⟩:=x.cel i y hy
    refine hG ?_
    clear hG
    refine ⟨a,ov,h1,h2,sv i _ h3,fun q=>h4 ?_⟩
    cases hc : c.K i with
    | false=>rfl
    | true=>have q : K' i = false:=q; rw [hK i hc] at q; cases q
  refine wp_w (h own σ s f1 σ1 x2 e1) fun fl s1 q=>?_
  obtain ⟨own1,x3,k3,l3,p3,r3⟩:=q
  refine ⟨noO,?_,⟨k3.os,k3.gens,fun b o hm=>k3.keep b o fun q=>hm (mu own b q),k3.tab,k3.al⟩,fun i a e=>(by cases e),fun i hi=>(by rw [noM_at hM i] at hi; cases hi),r3⟩
  refine ⟨x3.top,x3.top0,x3.pt,x3.pa,x3.os,x3.gens,x3.kp,x3.tab,x3.tok,x3.xt,x3.xa,x3.lf,?_,fun i y hy=>?_,x3.cinj,fun i j a e=>(by cases e),fun i a e=>(by cases e),fun i a e=>(by cases e)⟩
  ·obtain ⟨m,h1,h2⟩:=x3.ns; exact ⟨m,h1,fun i y hy=>trivial⟩
  ·refine bc fun hG=>?_
   obtain ⟨a,ov,h1,h2,h3,_⟩:=x3.cel i y hy
   refine hG ?_
   clear hG
   refine bc fun hG=>?_
   obtain ⟨a',_,h1',_,_,h4⟩:=x.cel i y hy
   refine hG ?_
   clear hG
   have : a' = a:=by rw [show c.env.cells.lookup y = some a from h1] at h1'; cases h1'; rfl
   exact ⟨a,ov,h1,h2,trivial,this▸h4⟩
theorem Rf.callZ {y : Str} {py pos : Pos} {e : PySem.Expr} {rest : List PySem.Expr} {a : Addr} {st : Stmt} {dV kV : Value} {k : Nat} {spec : List CV→List CV→Option CV} {ms : List CV→Option (List CV)} (hf : Rf prog w hT c (.Name y py) (fun J=>some (.ref a))) (R : FnRec hT a st dV kV) (ha : a ≠ tabA)
  (hF : Fn0 prog w hT k (.ref a) spec) (hA : AOk (9 + k) c.A) (hs : Rfs prog w hT c (e::rest) ms)
  (he : ∀ env,starEach (e::rest) env = (false,eval e env)::starEach rest env:=by intro _; rfl) :
  Rf prog w hT c (.Call (.Name y py) (e::rest) [] pos) (fun σ=>(ms σ).bind fun cvs=>Mine.callZ spec σ cvs):=fun own σ s cv x e'=>by
 refine bc fun hG=>?_
 revert e'
 refine oR fun cvs e1 e'=>?_
 revert e'
 refine oR fun ws e2 e'=>?_
 revert e'
 refine oR fun r e3 e'=>?_
 refine hG ?_
 clear hG
 replace e':=ite_some e'
 obtain ⟨hsc,e'⟩:=e'
 cases e'
 refine bc fun hG=>?_
 obtain ⟨o,fd,hd,ho⟩:=R.fn ha
 refine hG ?_
 clear hG
 refine wpAny_Call_Name_kw (wp_w (hf own σ s _ x rfl) fun fv s₁ h₁=>?_)
 have hv:=h₁.2
 obtain rfl:=VR.ref_inv hv
 have x₁:=x.ex h₁.1
 have hs':=hs pos own σ s₁ cvs x₁ e1
 show wpAny _ _ (callWith pos (.ref a) [] (backTo pos (starEach (e::rest) c.env)) []) _ _ _
 rw [he] at hs' ⊢
 refine callWith_function (o:=o) (fd:=fd) (evalArgs_plain (wp_w hs' fun vs s₂ h₂=>?_))
 have x₂:=x₁.ex h₂.1
 refine ⟨⟨ho s₂ x₂.at,hd⟩,?_⟩
 exact wp_w (hF c.A s₂ ws vs _ hA x₂.at (ERs.rd x₂ ⟨h₂.2.1,h₂.2.2⟩ e2) e3) fun v s₃ h₃=>⟨h₁.1.trans (h₂.1.trans h₃.1),(scal_any hsc h₃.2).er⟩
theorem Fn0.of_body (T : TF prog hT mg mb) {k : Nat} {a : Addr} {st : Stmt} {dV kV : Value} {n : Nat} {m : CM} {spec : List CV→List CV→Option CV} (R : FnRec hT a st dV kV) (ha : a ≠ tabA)
  (S : Scp (sScope st)) {q : Str} {cA : Addr} (hE : ∀ o fd,hT.get? a = some o→o.data = .func fd→fd.code = .ref cA∧fd.qualname = q)
  (hB : ∀ (A : Around) (e : Env) (s0 : Shared),e.code = .ref cA→e.qual = q ++ (".<locals>." : Str)→Wf ⟨A,{ e with scope:=sScope st },F₀,s0,fun J=>False,fun J=>false⟩→AOk (8 + k) A→Rss prog w hT ⟨A,{ e with scope:=sScope st },F₀,s0,fun J=>False,fun J=>false⟩ (sBody st) m)
  (hbind : ∀ (fd : FuncData) (vals : List Value),fd.params = sArgs st→fd.defaults = dV→fd.kwdefaults = kV→vals.length = n→bindArgs fd ⟨vals,[]⟩ = pure ((((sScope st).names.map (·.1)).take n).zip vals))
  (hn : n≤(sScope st).names.length) (hk : ∀ x∈(sScope st).names.take n,x.2 = NameKind.local∨x.2 = NameKind.cell)
  (hm : ∀ cvs r,spec cvs [] = some r→cvs.length = n∧∃ f σ',m (cvs ++ List.replicate ((sScope st).names.length - n) .unb) = some (f,σ')∧resOf f = some r) :
  Fn0 prog w hT k (.ref a) spec:=by
 intro A s cvs vals r hA hs hv hr
 refine bc fun hG=>?_
 obtain ⟨hcn,f,σ',hmr,hres⟩:=hm cvs r hr
 refine hG ?_
 clear hG
 refine fn_core (kws:=[]) T R ha S hn hk (F:=F₀) (P:=fun J=>False) (own:=noO) (σ0:=cvs ++ List.replicate ((sScope st).names.length - n) .unb) (Good:=fun s' vs=>VRs F₀ s'.heap cvs vs) hA hs
  (fun fd h1 h2 h3 M A E Q q=>?_) rfl (fun a h ht=>absurd h ht) (fun J q=>q.elim) (fun i j a e=>nomatch e) (fun i a e=>nomatch e) (fun J J i a e=>nomatch e)
  (fun s' vs g J i v hv c' h' mv J=>((fill_at g hv).move fun b o hf e=>mv b o (fun q=>q.elim hf (fun ⟨j,q⟩=>nomatch q)) e).sv) (fun s' vs g hl i hi=>unb_off hcn hi)
  (fun A e s0 h W hAd=>?_) hmr fun s' env s₁ fl s₂ ee y=>?_
 ·rw [hbind fd vals h1 h2 h3 (hv.length▸hcn)]
  exact wpAny_pure (q s vals (.refl s) (hv.length▸hcn) hv)
 ·refine bc fun hG=>?_
  obtain ⟨o,fd,ho,_,hdata,_⟩:=R.ex
  obtain ⟨e1,e2⟩:=h o fd ho hdata
  obtain ⟨q1,q2⟩:=hE o fd ho hdata
  refine hG ?_
  clear hG
  exact hB A e s0 (e1.trans q1) (q2▸e2) W hAd
 ·obtain ⟨own2,x2,k2,l2,p2,r2⟩:=y
  have ex : Ex s s₂:=ee.trans ⟨⟨fun b o hb e=>x2.kp b o (fun q=>q) hb e,x2.tab⟩,x2.os,x2.gens.gk⟩
  cases f with
  | next =>
   cases hres
   cases fl <;> first | exact r2.elim | exact ⟨ex,VR.none⟩
  | brk=>cases hres
  | ret v =>
   cases hres
   cases fl <;> first | exact r2.elim | exact ⟨ex,r2⟩
end
noncomputable def wd (i : Int) : Str:=W6.getD i.toNat default
noncomputable def isW (s : Str) : Bool:=W6.contains s
noncomputable def idx (s : Str) : Int:=(W6.idxOf s : Nat)
theorem wd_lt6 : ∀ a b : Fin 6,sLt (W6.getD a default) (W6.getD b default) = decide (a.val < b.val):=by decide +kernel
theorem wd_lt {a b : Int} (ha : 0≤a∧a < 6) (hb : 0≤b∧b < 6) : sLt (wd a) (wd b) = decide (a < b):=by
 obtain ⟨i,rfl⟩:=Int.eq_ofNat_of_zero_le ha.1
 obtain ⟨j,rfl⟩:=Int.eq_ofNat_of_zero_le hb.1
 refine (wd_lt6 ⟨i,by exact Int.ofNat_lt.mp ha.2⟩ ⟨j,by exact Int.ofNat_lt.mp hb.2⟩).trans ?_
 exact decide_eq_decide.mpr (by show i < j ↔ _; exact Iff.symm Int.ofNat_lt)
theorem wd_ok6 : ∀ a : Fin 6,PyData.strOk (W6.getD a default) = true∧W6.idxOf (W6.getD a default) = a.val:=by decide +kernel
theorem wd_ok {a : Int} (ha : 0≤a∧a < 6) : PyData.strOk (wd a) = true:=by
 obtain ⟨i,rfl⟩:=Int.eq_ofNat_of_zero_le ha.1
 exact (wd_ok6 ⟨i,by exact Int.ofNat_lt.mp ha.2⟩).1
theorem idx_wd {a : Int} (ha : 0≤a∧a < 6) : idx (wd a) = a:=by
 obtain ⟨i,rfl⟩:=Int.eq_ofNat_of_zero_le ha.1
 exact congrArg Int.ofNat (wd_ok6 ⟨i,by exact Int.ofNat_lt.mp ha.2⟩).2
theorem isW_wd6 : ∀ a : Fin 6,isW (W6.getD a default) = true:=by decide +kernel
theorem isW_wd {a : Int} (ha : 0≤a∧a < 6) : isW (wd a) = true:=by
 obtain ⟨i,rfl⟩:=Int.eq_ofNat_of_zero_le ha.1
 exact isW_wd6 ⟨i,by exact Int.ofNat_lt.mp ha.2⟩
theorem wd_idx {s : Str} (h : isW s = true) : wd (idx s) = s∧0≤idx s∧idx s < 6:=by
 have hm : s∈W6:=by unfold isW at h; simpa using h
 have hl:=List.idxOf_lt_length_of_mem hm
 refine ⟨?_,by unfold idx; exact Int.natCast_nonneg (List.idxOf s W6),by unfold idx; have : W6.length = 6:=rfl; exact Int.lt_toNat.mp hl⟩
 show W6.getD (W6.idxOf s) default = s
 rw [List.getD_eq_getElem?_getD,List.getElem?_eq_getElem hl]
 exact List.getElem_idxOf hl
theorem row_of {one : List Str} (h : one.all isW = true) : one = (one.map idx).map wd∧∀ x∈one.map idx,0≤x∧x < 6:=by
 refine ⟨?_,fun x hx=>?_⟩
 ·rw [List.map_map]
  conv=>lhs; rw [← List.map_id one]
  exact List.map_congr_left fun s hs=>(wd_idx (List.all_eq_true.mp h s hs)).1.symm
 ·obtain ⟨s,hs,rfl⟩:=List.mem_map.mp hx
  exact (wd_idx (List.all_eq_true.mp h s hs)).2
theorem sort_wd {p : List Int} (h : ∀ x∈p,0≤x∧x < 6) : sortS (p.map wd) = (sortI p).map wd:=by
 unfold sortS sortI
 refine (List.map_mergeSort fun a ha b hb=>?_).symm
 have:=wd_lt (h b hb) (h a ha)
 show decide (a≤b) = !decide ((wd b).cps.toList < (wd a).cps.toList)
 rw [show decide ((wd b).cps.toList < (wd a).cps.toList) = sLt (wd b) (wd a) from rfl,this,← decide_not]
 exact decide_eq_decide.mpr (by exact Iff.symm Int.not_lt)
theorem getD_mem {l : List Int} {i : Nat} (h : i < l.length) : l.getD i 0∈l:=by
 rw [List.getD_eq_getElem?_getD,List.getElem?_eq_getElem h]; exact List.getElem_mem _
theorem wd_row {p : List Int} {i : Nat} (h : i < p.length) : (p.map wd).getD i default = wd (p.getD i 0):=by
 rw [List.getD_eq_getElem?_getD,List.getElem?_map,List.getElem?_eq_getElem h,List.getD_eq_getElem?_getD,List.getElem?_eq_getElem h]; rfl
theorem bsL_bsI (left : Bool) {p L : List Int} {v : Int} (hp : ∀ x∈p,0≤x∧x < 6) (hL : ∀ i∈L,0≤i∧i < (p.length : Int)) (hv : 0≤v∧v < 6) :
  bsL left (L.map fun i=>(p.map wd).getD i.toNat default) (wd v) = bsI left (valsI p L) v:=by
 unfold bsL bsI
 rw [show (L.map fun i=>(p.map wd).getD i.toNat default).length = (valsI p L).length by simp [valsI]]
 refine bs_congr _ _ 9 0 _ fun m J hm=>?_
 have hmL : m < L.length:=by simpa [valsI] using hm
 have hi:=hL _ (getD_mem hmL)
 have e1 : (L.map fun i=>(p.map wd).getD i.toNat default).getD m default = wd (p.getD (L.getD m 0).toNat 0):=by
  rw [List.getD_eq_getElem?_getD,List.getElem?_map,List.getElem?_eq_getElem hmL]
  have : L.getD m 0 = L[m]:=by rw [List.getD_eq_getElem?_getD,List.getElem?_eq_getElem hmL]; rfl
  rw [this] at hi ⊢
  exact wd_row (by lia)
 have e2 : (valsI p L).getD m 0 = p.getD (L.getD m 0).toNat 0:=by
  unfold valsI
  rw [List.getD_eq_getElem?_getD,List.getElem?_map,List.getElem?_eq_getElem hmL]
  have : L.getD m 0 = L[m]:=by rw [List.getD_eq_getElem?_getD,List.getElem?_eq_getElem hmL]; rfl
  rw [this]; rfl
 have hx:=hp _ (getD_mem (l:=p) (i:=(L.getD m 0).toNat) (by lia))
 show bsP left _ _ m = _
 unfold bsP
 rw [e1,e2,wd_lt hx hv,wd_lt hv hx]
theorem insL_insI (left : Bool) {p L : List Int} {t : Nat} (hp : ∀ x∈p,0≤x∧x < 6) (hL : ∀ i∈L,0≤i∧i < (p.length : Int)) (ht : t < p.length) : insL left L (p.map wd) (t : Int) = insI left p L t:=by
 have h:=bsL_bsI left hp hL (hp _ (getD_mem (i:=t) ht))
 have e : (p.map wd).getD (t : Int).toNat default = wd (p.getD t 0):=wd_row ht
 unfold insL insI
 dsimp only
 rw [e,h]
 rfl
theorem layI_mem (left : Bool) (p : List Int) {t : Nat} : ∀ i∈layI left p t,0≤i∧i < (t : Int):=fun i hi=>by
 have:=(layI_perm left p t).mem_iff.mp hi
 obtain ⟨j,hj,rfl⟩:=List.mem_map.mp this
 have:=List.mem_range.mp hj
 lia
noncomputable def okMs : Int→List Int→Bool
 | _,[]=>true
 | lo,m::r=>decide (lo≤m∧1≤m∧m≤6) && okMs m r
theorem okMs_at {ms : List Int} : ∀ {lo : Int},okMs lo ms = true→∀ k,k < ms.length→(if k = 0 then lo else ms.getD (k - 1) 0)≤ms.getD k 0∧1≤ms.getD k 0∧ms.getD k 0≤6:=by
 induction ms with
 | nil=>intro lo _ k hk; exact absurd hk (Nat.not_lt_zero k)
 | cons m r ih =>
  intro lo h k hk
  cases k with
  | zero=>exact of_decide_eq_true (bA h).1
  | succ k =>
   have q:=ih (bA h).2 k (Nat.lt_of_succ_lt_succ hk)
   cases k with
   | zero=>exact q
   | succ k=>exact q
noncomputable def frontsB (p q : List Int) (ms : List Nat) : Bool:=ms.all fun m=>(List.range 5).all fun k=>!decide (cnt (p.take m) (k : Nat) < cnt (q.take m) (k : Nat))
noncomputable def frontsS : List CV→List CV→Option CV:=fun l J=>on3 (fun v0_ v1_ v2_=>asL (fun os=>asL (fun ts=>asL (fun ms=>(strs? os).bind fun one=>(strs? ts).bind fun two=>(ints? ms).bind fun ms=>if (one.length = 6∧one.all isW = true)∧(two.length = 6∧two.all isW = true)∧okMs 0 ms = true then some (.bool (frontsB (one.map idx) (two.map idx) (ms.map Int.toNat))) else none) v2_) v1_) v0_) l
theorem ev_callMM {i : Nat} {spec : CV→List CV→List CV→Option CV} {ms mk : List CV→Option (List CV)} {σ cvs kcvs : List CV} {cv1 : CV} (h1 : ms σ = some (.own i::cvs)) (h2 : mk σ = some kcvs) (hn : (cvs.all noM && kcvs.all noM) = true) (h3 : spec (σ.getD i .unb) cvs kcvs = some cv1) :
  callMM i spec ms mk σ = some (.next,σ.set i cv1):=by
 unfold callMM
 rw [h1]
 show (mk σ).bind _ = _
 rw [h2]
 show (if i = i∧(cvs.all noM && kcvs.all noM) = true then (spec (σ.getD i .unb) cvs kcvs).map _ else none) = _
 rw [if_pos ⟨rfl,hn⟩,h3]; rfl
theorem frz_ends {m : CM} {σ : List CV} {r : CV} (h : (σ.all fun cv=>!isM cv) = true) (h2 : Ends (m σ) r) : ∃ f σ',frzM m σ = some (f,σ')∧resOf f = some r:=by
 obtain ⟨f,σ',e,hr⟩:=h2
 refine ⟨f,[],?_,hr⟩
 unfold frzM
 rw [if_pos h,e]; rfl
theorem lay_all (lf : Bool) (z : List Int) {m n : Nat} (h : m≤n) : ((layI lf z m).all fun i=>decide (0≤i∧i < (n : Int))) = true :=
 List.all_eq_true.mpr fun i hi=>decide_eq_true ⟨(layI_mem lf z i hi).1,Int.lt_of_lt_of_le (layI_mem lf z i hi).2 (Int.ofNat_le.mpr h)⟩
theorem lay_lt (lf : Bool) {z : List Int} {m : Nat} (hl : z.length = 6) (h : m≤6) : ∀ i∈layI lf z m,0≤i∧i < (z.length : Int):=fun i hi =>
 ⟨(layI_mem lf z i hi).1,Int.lt_of_lt_of_le (layI_mem lf z i hi).2 (Int.ofNat_le.mpr (hl▸h))⟩
theorem wlen {z : List Int} (hl : z.length = 6) : (z.map wd).length = 6:=by rw [List.length_map,hl]
theorem lay_ins (lf tt : Bool) {z : List Int} {zs : List Str} {u : Nat} (hz : zs = z.map wd) (h6 : ∀ x∈z,0≤x∧x < 6) (hl : z.length = 6) (hu : u < 6) : insS lf (.mlist (il (layI lf z u))) [.int u] [.lam tt (.list (sl zs))] = some (.mlist (il (layI lf z (u + 1)))):=by
 show insC lf (il (layI lf z u)) u (sl zs) = _
 unfold insC
 rw [ints_il]
 show (strs? (sl zs)).bind _ = _
 have hn : zs.length = 6:=hz▸wlen hl
 rw [strs_sl]
 refine (if_pos ⟨⟨by rw [layI_len]; exact Nat.le_of_lt (Nat.lt_trans hu (by decide)),lay_all lf z (hn▸Nat.le_of_lt hu)⟩,Int.natCast_nonneg u,Int.ofNat_lt.mpr (hn▸hu)⟩).trans ?_
 rw [layI_succ,hz,insL_insI lf h6 (lay_lt lf hl (Nat.le_of_lt hu)) (hl▸hu)]
theorem fr_srt {m : Nat} {z : List Int} {zs : List Str} (hz : zs = z.map wd) (h6 : ∀ x∈z,0≤x∧x < 6) (hl : z.length = 6) (m1 : 1≤m) : sortF [] [.list (upto (m : Int) (sl zs))] = some (.list (sl ((sortI (z.take m)).map wd))):=by
 subst hz
 rw [upto_sl,← List.map_take,← sort_wd fun x hx=>h6 x (List.mem_of_mem_take hx)]
 have hle : (sl ((z.take m).map wd)).length < 64:=by
  rw [List.length_map,List.length_map,List.length_take,hl]
  exact Nat.lt_of_le_of_lt (Nat.min_le_right m 6) (by decide)
 refine (if_pos hle).trans ?_
 have hs:=strs_sl ((z.take m).map wd)
 cases hzm : z.take m with
 | nil =>
  have:=congrArg List.length hzm
  rw [List.length_take,hl] at this
  exact absurd (Nat.min_eq_zero_iff.mp this) (fun q=>q.elim (fun q=>by rw [q] at m1; exact absurd m1 (by decide)) (fun q=>nomatch q))
 | cons a y =>
  rw [hzm] at hs
  show (strs? _).map _ = _
  rw [hs]
  rfl
theorem fr_cmp {m : Nat} (m6 : m≤6) (lf : Bool) {z : List Int} {zs : List Str} (hz : zs = z.map wd) (hl : z.length = 6) : (layI lf z m).map (fun i=>zs.getD i.toNat default) = (sortI (z.take m)).map wd:=by
 rw [← layI_vals lf z (Nat.le_trans m6 (by decide)) (hl▸m6),valsI,List.map_map]
 refine List.map_congr_left fun i hi=>?_
 have:=lay_lt lf hl m6 i hi
 rw [hz]
 exact wd_row ((Int.toNat_lt this.1).mpr this.2)
theorem fr_eqr {m : Nat} {z : List Int} (h6 : ∀ x∈z,0≤x∧x < 6) : cmpS .NotEq [] (.list (sl ((sortI (z.take m)).map wd))) (.list (sl ((sortI (z.take m)).map wd))) = some false:=by
 show (eqS _ _).map _ = _
 have hok : ∀ x∈(sortI (z.take m)).map wd,PyData.strOk x = true:=fun x hx=>by
  obtain ⟨y,hy,rfl⟩:=List.mem_map.mp hx
  exact wd_ok (h6 y (List.mem_of_mem_take ((sortI_perm _).mem_iff.mp hy)))
 rw [eqS_sl _ _ hok hok,decide_eq_true rfl]
 rfl
theorem fr_comp {m : Nat} (m6 : m≤6) (src : List (Option Nat)) (j : Nat) (lf : Bool) (z : List Int) (zs : List Str) (σ : List CV) (hn : nm j σ = some (.own j)) (hs : σ.getD j .unb = .mlist (il (layI lf z m))) (hc : capt src σ = [.unb,.unb,.list (sl zs)]) (hz : zs = z.map wd) (hl : z.length = 6) :
  compV (nm j) src (stF 1) (fun J=>some true) (emitM fun σ=>(nm 2 σ).bind fun a=>(nm 1 σ).bind fun b=>itemS σ a b) σ = some (.list (sl ((sortI (z.take m)).map wd))):=by
 have h9 : (il (layI lf z m)).length≤6:=by rw [List.length_map,layI_len]; exact m6
 have hsrc : srcσ σ (.own j) = some (il (layI lf z m)):=by
  show (ownLst (σ.getD j .unb)).bind _ = _
  rw [hs]
  exact if_pos (Nat.le_trans h9 (by decide))
 refine (ev_compR hn hsrc (fun σ=>∃ kv,isM kv = false∧σ = [.unb,kv,.list (sl zs)]) (fun J=>true) (fun x=>match x with | .int k=>.str (zs.getD k.toNat default) | _=>.none) ?_ ⟨.unb,rfl,hc⟩ (Nat.le_trans h9 (by decide))).trans ?_
 ·rintro σ x hx ⟨kv,hkv,rfl⟩
  obtain ⟨i,hi,rfl⟩:=List.mem_map.mp hx
  have hi2:=lay_lt lf hl m6 i hi
  obtain ⟨i,rfl⟩:=Int.eq_ofNat_of_zero_le hi2.1
  refine ⟨_,stF_ok rfl (show 1 < 3 by decide) hkv,rfl,⟨_,rfl,rfl⟩,fun J=>⟨?_,rfl⟩⟩
  show at? (sl zs) (i : Int) = _
  rw [at_nat,sl_get (by rw [hz,List.length_map]; exact Int.ofNat_lt.mp hi2.2)]
  rfl
 ·rw [List.filter_eq_self.mpr fun J J=>rfl,← fr_cmp m6 lf hz hl,il,List.map_map,sl,List.map_map]
  rfl
theorem fr_bis {m : Nat} (m6 : m≤6) (lf ly : Bool) {z : List Int} {zs : List Str} (x : Str) (hz : zs = z.map wd) (hl : z.length = 6) : bisC lf (il (layI ly z m)) x (sl zs) = some (.int (bsL lf ((layI ly z m).map fun i=>zs.getD i.toNat default) x : Nat)):=by
 unfold bisC
 rw [ints_il]
 show (strs? (sl zs)).bind _ = _
 rw [strs_sl]
 exact if_pos ⟨by rw [layI_len]; exact Nat.le_trans m6 (by decide),lay_all ly z (by rw [hz,wlen hl]; exact m6)⟩
theorem fr_w {j : Nat} (h : j < 6) : at? (sl W6) (j : Int) = some (.str (wd (j : Int))):=by
 rw [at_nat,sl_get h]; rfl
theorem fr_c1 {m j : Nat} (m6 : m≤6) (hj : j < 5) (ly : Bool) {z : List Int} {zs : List Str} (hz : zs = z.map wd) (h6 : ∀ x∈z,0≤x∧x < 6) (hl : z.length = 6) : cnt (z.take m) (j : Nat) = bsL true ((layI ly z m).map fun i=>zs.getD i.toNat default) (wd ((j + 1 : Nat) : Int)):=by
 rw [hz,bsL_bsI true h6 (lay_lt ly hl m6) ⟨Int.natCast_nonneg _,Int.ofNat_lt.mpr (Nat.succ_lt_succ hj)⟩,lay_cnt ly z (Nat.le_trans m6 (by decide)) (hl▸m6)]
 exact List.countP_congr fun x J=>by rw [if_pos rfl,decide_eq_true_iff,decide_eq_true_iff]; exact Int.lt_add_one_iff.symm
theorem fr_c2 {m j : Nat} (m6 : m≤6) (hj : j < 5) (ly : Bool) {z : List Int} {zs : List Str} (hz : zs = z.map wd) (h6 : ∀ x∈z,0≤x∧x < 6) (hl : z.length = 6) : cnt (z.take m) (j : Nat) = bsL false ((layI ly z m).map fun i=>zs.getD i.toNat default) (wd ((j : Nat) : Int)):=by
 rw [hz,bsL_bsI false h6 (lay_lt ly hl m6) ⟨Int.natCast_nonneg _,Int.ofNat_lt.mpr (Nat.lt_succ_of_lt hj)⟩,lay_cnt ly z (Nat.le_trans m6 (by decide)) (hl▸m6)]
 rfl
theorem fronts_all {P : List CV→CV→Prop} (H : ∀ (one two : List Str) (ms : List Int),(one.length = 6∧one.all isW = true)∧(two.length = 6∧two.all isW = true)∧okMs 0 ms = true→P [.list (sl one),.list (sl two),.list (il ms)] (.bool (frontsB (one.map idx) (two.map idx) (ms.map Int.toNat)))) {cvs kcvs : List CV} {r : CV} (h : frontsS cvs kcvs = some r) : P cvs r:=by
 replace h:=on3_inv h
 obtain ⟨_,_,_,rfl,h⟩:=h
 replace h:=asL_inv h
 obtain ⟨os,rfl,h⟩:=h
 replace h:=asL_inv h
 obtain ⟨ts,rfl,h⟩:=h
 replace h:=asL_inv h
 obtain ⟨mss,rfl,h⟩:=h
 refine bc fun hG=>?_
 revert h
 refine oR fun one h1 h=>?_
 revert h
 refine oR fun two h2 h=>?_
 revert h
 refine oR fun ms h3 h=>?_
 refine hG ?_
 clear hG
 replace h:=ite_some h
 obtain ⟨hsm,h⟩:=h
 cases h
 have:=strs_eq h1
 subst this
 have:=strs_eq h2
 subst this
 have:=ints_eq h3
 subst this
 exact H _ _ _ hsm
section
variable {prog : Program} {w : World} {hT : Heap} {mg mb : Str→Option Value}
theorem fronts_fn (T : Tops prog hT mg mb) : Fn0 prog w hT 13 (.ref 338) frontsS:=by
 refine bc fun hG=>?_
 obtain ⟨d65,k65,R65,D65⟩:=T.r65
 obtain ⟨d47,k47,R47,D47⟩:=T.r47
 obtain ⟨d74,k74,R74,D74⟩:=T.r74
 obtain ⟨d56,k56,R56,D56⟩:=T.r56
 refine hG ?_
 refine Fn0.of_body T.tf (n:=3) T.r338 (by decide) ⟨rfl,by decide,rfl,rfl⟩ (fun o fd h1 h2=>T.fronts o fd h1 h2) (fun A e s0 hcode hqual W0 hA=>Rss.freeze (K':=fun i=>decide (i < 2)) (fun i h=>by cases h)
  ((fun (W : Wf ⟨A,{ e with scope:=sScope (topStmt 33) },F₀,s0,fun J=>False,fun i=>decide (i < 2)⟩) (L : LamF ⟨A,{ e with scope:=sScope (topStmt 33) },F₀,s0,fun J=>False,fun i=>decide (i < 2)⟩) (px : ∀ a,(fun _ : Addr=>False) a→¬ F₀ a)=>(Rss.cons (Rs.tupSw 21 W rfl (is:=[3,4,5]) (ys:=["words","low","high"]) (Rg.fro (Rf.call0 (Rf.glb T.tf W (i:=12) rfl T.g259 rfl) T.r259 (by decide) (words_fn T) (hA.mono (by decide))) (Rg.ow (Rfr.lst Rfs.nil) (Rg.ow (Rfr.lst Rfs.nil) Rg.nil))) rfl (at3 (.inl rfl) (.inl rfl) (.inl rfl)) rfl) (Rss.cons (Rs.asg W (i:=6) (.inl rfl) (Rf.lamE W L T.tf T.bat (i:=0) false rfl rfl)) (Rss.cons (Rs.asg W (i:=7) (.inl rfl) (Rf.lamE W L T.tf T.bat (i:=1) true rfl rfl)) (Rss.cons (Rs.for_ W (i:=8) (.inl rfl) (Rf.loc W (i:=2) rfl) px fun Z1 p1=>(Rss.cons (Rs.for_ (W.x Z1) (i:=9) (.inl rfl) (Rf.callT (T.range_ (W.x Z1) (i:=13) rfl) (Rfs.cons (Rf.callB (T.len_ (W.x Z1) (i:=14) rfl) (Rfs.cons (Rf.loc (W.x Z1) (i:=4) rfl) Rfs.nil) len_ok) (Rfs.cons (Rf.loc (W.x Z1) (i:=8) rfl) Rfs.nil)) range_ok) p1 fun Z2 p2=>(Rss.cons (Rs.callM1 ((W.x Z1).x Z2) (i:=4) (Rf.glb T.tf ((W.x Z1).x Z2) (i:=15) rfl T.g65 rfl) R65 (by decide) (il_fn T) (kd_il_fn) (hA.mono (by decide)) (Rfs.cons (Rf.loc ((W.x Z1).x Z2) (i:=4) rfl) (Rfs.cons (Rf.loc ((W.x Z1).x Z2) (i:=9) rfl) Rfs.nil)) (Rf.loc ((W.x Z1).x Z2) (i:=6) rfl)) (Rss.cons (Rs.callM1 ((W.x Z1).x Z2) (i:=5) (Rf.glb T.tf ((W.x Z1).x Z2) (i:=16) rfl T.g47 rfl) R47 (by decide) (ir_fn T) (kd_ir_fn) (hA.mono (by decide)) (Rfs.cons (Rf.loc ((W.x Z1).x Z2) (i:=5) rfl) (Rfs.cons (Rf.loc ((W.x Z1).x Z2) (i:=9) rfl) Rfs.nil)) (Rf.loc ((W.x Z1).x Z2) (i:=7) rfl)) Rss.nil))) (Rss.cons (Rs.ifS (Rt.or (Rt.com (W.x Z1) (Rf.comp (W.x Z1) (srcC_ok (src:=[none,none,some 0]) rfl) (compTurn_1 _ _ _ _ _ _) (Rf.loc (W.x Z1) (i:=4) rfl) (fun e3 Y3 s3 P3 W3=>(Ct.nm W3 (i:=1) rfl)) (fun e3 Y3 s3 P3 W3=>Ci.nil) (fun e3 Y3 s3 P3 W3=>Ac.emit rfl fun X3=>(Rf.sb (Rf.cel (W3.x X3) (i:=2) rfl) (Rf.loc (W3.x X3) (i:=1) rfl)))) (Rf.callB (T.sorted_ (W.x Z1) (i:=17) rfl) (Rfs.cons (Rf.slice (Rf.cel (W.x Z1) (i:=0) rfl) (Rf.loc (W.x Z1) (i:=8) rfl)) Rfs.nil) sort_ok)) (Rt.com (W.x Z1) (Rf.comp (W.x Z1) (srcC_ok (src:=[none,none,some 1]) rfl) (compTurn_1 _ _ _ _ _ _) (Rf.loc (W.x Z1) (i:=5) rfl) (fun e4 Y4 s4 P4 W4=>(Ct.nm W4 (i:=1) rfl)) (fun e4 Y4 s4 P4 W4=>Ci.nil) (fun e4 Y4 s4 P4 W4=>Ac.emit rfl fun X4=>(Rf.sb (Rf.cel (W4.x X4) (i:=2) rfl) (Rf.loc (W4.x X4) (i:=1) rfl)))) (Rf.callB (T.sorted_ (W.x Z1) (i:=17) rfl) (Rfs.cons (Rf.slice (Rf.cel (W.x Z1) (i:=1) rfl) (Rf.loc (W.x Z1) (i:=8) rfl)) Rfs.nil) sort_ok))) (Rss.cons (Rs.ret Rf.non p1) Rss.nil) Rss.nil) (Rss.cons (Rs.for_ (W.x Z1) (i:=10) (.inl rfl) (Rf.callT (T.range_ (W.x Z1) (i:=13) rfl) (Rfs.cons Rf.int Rfs.nil) range_ok) p1 fun Z5 p5=>(Rss.cons (Rs.asg ((W.x Z1).x Z5) (i:=11) (.inl rfl) (Rf.callK (Rf.glb T.tf ((W.x Z1).x Z5) (i:=18) rfl T.g74 rfl) R74 (by decide) (bl_fn T) (hA.mono (by decide)) (Rfs.cons (Rf.loc ((W.x Z1).x Z5) (i:=5) rfl) (Rfs.cons (Rf.call (Rf.glb T.tf ((W.x Z1).x Z5) (i:=19) rfl T.g88 rfl) T.r88 (by decide) (xfrm_fn T) (hA.mono (by decide)) (Rfs.cons (Rf.sb (Rf.loc ((W.x Z1).x Z5) (i:=3) rfl) (Rf.add (Rf.loc ((W.x Z1).x Z5) (i:=10) rfl) Rf.int)) Rfs.nil)) Rfs.nil)) (Rf.loc ((W.x Z1).x Z5) (i:=7) rfl))) (Rss.cons (Rs.ifS (Rt.com ((W.x Z1).x Z5) (Rf.callK (Rf.glb T.tf ((W.x Z1).x Z5) (i:=20) rfl T.g56 rfl) R56 (by decide) (br_fn T) (hA.mono (by decide)) (Rfs.cons (Rf.loc ((W.x Z1).x Z5) (i:=4) rfl) (Rfs.cons (Rf.call (Rf.glb T.tf ((W.x Z1).x Z5) (i:=19) rfl T.g88 rfl) T.r88 (by decide) (xfrm_fn T) (hA.mono (by decide)) (Rfs.cons (Rf.sb (Rf.loc ((W.x Z1).x Z5) (i:=3) rfl) (Rf.loc ((W.x Z1).x Z5) (i:=10) rfl)) Rfs.nil)) Rfs.nil)) (Rf.loc ((W.x Z1).x Z5) (i:=6) rfl)) (Rf.loc ((W.x Z1).x Z5) (i:=11) rfl)) (Rss.cons (Rs.ret Rf.bool p5) Rss.nil) Rss.nil) Rss.nil))) Rss.nil)))) (Rss.cons (Rs.ret Rf.bool px) Rss.nil)))))) ⟨W0.aok,W0.fr,W0.kind,W0.gl,W0.bu,W0.nd⟩ ⟨hcode,by show e.qual ++ _ = _; rw [hqual]; rfl,fun a h=>h⟩ (fun J q=>q.elim))) ?_ (by decide) (by decide) ?_
 ·intro fd vals h1 h2 h3 hl
  cases fd; simp only at h1 h2 h3; subst h1 h2 h3
  exact bind3 hl fun J J J=>rfl
 ·intro cvs r h
  apply fronts_all _ h
  clear h
  intro one two ms hsm
  refine ⟨rfl,?_⟩
  refine bc fun hG=>?_
  obtain ⟨⟨hl1,hw1⟩,⟨hl2,hw2⟩,hms⟩:=hsm
  obtain ⟨ep,hp⟩:=row_of hw1
  obtain ⟨eq,hq⟩:=row_of hw2
  refine hG ?_
  clear hG
  generalize hpe : one.map idx = p at *
  generalize hqe : two.map idx = q at *
  have hpl : p.length = 6:=by rw [← hpe,List.length_map]; exact hl1
  have hql : q.length = 6:=by rw [← hqe,List.length_map]; exact hl2
  have hat:=okMs_at hms
  show ∃ f σ',frzM _ [.list (sl one),.list (sl two),.list (il ms),.unb,.unb,.unb,.unb,.unb,.unb,.unb,.unb,.unb,.unb,.unb,.unb,.unb,.unb,.unb,.unb,.unb,.unb] = some (f,σ')∧_
  refine frz_ends rfl ?_
  generalize hE : (frontsB p q (ms.map Int.toNat)) = res
  show Ends (seqM _ (seqM _ (seqM _ (seqM _ (seqM _ _)))) _) _
  let st : Nat→CV→CV→CV→CV→List CV:=fun t mv pv kv lv=>[.list (sl one),.list (sl two),.list (il ms),.list (sl W6),.mlist (il (layI true p t)),.mlist (il (layI false q t)),.lam false (.list (sl one)),.lam true (.list (sl two)),mv,pv,kv,lv,.unb,.unb,.unb,.unb,.unb,.unb,.unb,.unb,.unb]
  refine .step (σ1:=[.list (sl one),.list (sl two),.list (il ms),.list (sl W6),.mlist [],.mlist [],.unb,.unb,.unb,.unb,.unb,.unb,.unb,.unb,.unb,.unb,.unb,.unb,.unb,.unb,.unb]) (ev_tupR (is:=[]) (cvs:=[.list (sl W6),.mlist [],.mlist []]) rfl (by exact List.getElem?_eq_none_iff.mp rfl) rfl (by decide) rfl) ?_
  refine .step (σ1:=[.list (sl one),.list (sl two),.list (il ms),.list (sl W6),.mlist [],.mlist [],.lam false (.list (sl one)),.unb,.unb,.unb,.unb,.unb,.unb,.unb,.unb,.unb,.unb,.unb,.unb,.unb,.unb]) (ev_asg (cv:=.lam false (.list (sl one))) rfl rfl) ?_
  refine .step (σ1:=st 0 .unb .unb .unb .unb) (ev_asg (cv:=.lam true (.list (sl two))) rfl rfl) ?_
  refine .gr (v:=.bool false) (b:=res) (R:=fun J=>True) (.for (v:=.list (il ms)) (xs:=il ms) rfl rfl ?_) (fun hb J J=>by rw [hb]; exact .retM (a:=.bool true) rfl rfl) (fun hb=>by rw [hb])
  let prev : Nat→Nat:=fun k=>if k = 0 then 0 else (ms.getD (k - 1) 0).toNat
  refine Gr.mono (Gr.forM (fun k σ=>k≤ms.length∧∃ mv pv kv lv,isM mv = false∧isM pv = false∧isM kv = false∧isM lv = false∧σ = st (prev k) mv pv kv lv) (fun k=>(List.range 5).all fun j=>!decide (cnt (p.take (ms.getD k 0).toNat) (j : Nat) < cnt (q.take (ms.getD k 0).toNat) (j : Nat))) _ _ _ ?_ ⟨Nat.zero_le _,_,_,_,_,rfl,rfl,rfl,rfl,rfl⟩) ?_ (fun J J=>trivial)
  ·intro k x σ hx q
   have hkl : k < ms.length:=by have:=(gL hx); rwa [List.length_map] at this
   refine bc fun hG=>?_
   obtain ⟨hk,mv,pv,kv,lv,hmv,hpv,hkv,hlv,rfl⟩:=q
   obtain ⟨m1,m2,m3⟩:=hat k hkl
   obtain ⟨m,hm⟩:=Int.eq_ofNat_of_zero_le (show 0≤ms.getD k 0 by exact Int.le_of_lt m2)
   refine hG ?_
   clear hG
   rw [il_get hkl] at hx
   cases hx
   rw [hm] at m1 m2 m3
   have hprev : prev k≤m:=by
    show (if k = 0 then 0 else (ms.getD (k - 1) 0).toNat)≤m
    split
    ·exact Nat.zero_le m
    ·rename_i h0; rw [if_neg h0] at m1; exact Int.toNat_le.mpr m1
   have hnext : prev (k + 1) = m:=by show (ms.getD k 0).toNat = m; rw [hm]; rfl
   rw [hnext,hm]
   have m6 : m≤6:=Int.ofNat_le.mp m3
   replace m1 : 1≤m:=Int.ofNat_le.mp m2
   clear hm hat hk hnext m2 m3 hms
   generalize prev k = t at hprev
   show ∃ σ1,stF 8 _ _ = some σ1∧Gr _ ((List.range 5).all fun j=>!decide (cnt (p.take m) (j : Nat) < cnt (q.take m) (j : Nat))) _ _
   refine ⟨st t (.int m) pv kv lv,stF_ok rfl (show 8 < 21 by decide) hmv,?_⟩
   have htm : t + (m - t) = m:=Nat.add_sub_of_le hprev
   refine Gr.seq (R1:=fun σ=>∃ pv,isM pv = false∧σ = st m (.int m) pv kv lv) (Goes.for (v:=.rng t (t + (m - t) : Nat) 1) (xs:=(List.range (m - t)).map fun i : Nat=>CV.int ((t + i : Nat) : Int)) ?_ (srcV_rng t (m - t) (by rw [htm]; exact Nat.le_trans m6 (by decide))) ?_) ?_
   ·show some (CV.rng ((il (layI true p t)).length : Int) (m : Int) 1) = _
    rw [List.length_map,layI_len,htm]
   ·refine (forM_at (fun j σ=>∃ pv,isM pv = false∧σ = st (t + j) (.int m) pv kv lv) _ _ ?_ ⟨pv,hpv,rfl⟩).mono ?_
    ·rintro j x σ hx ⟨pv,hpv,rfl⟩
     have hj : j < m - t:=by have:=(gL hx); rwa [List.length_map,List.length_range] at this
     have hj6 : t + j < 6:=Nat.lt_of_lt_of_le (htm▸Nat.add_lt_add_left hj t) m6
     rw [List.getElem?_map,List.getElem?_range hj] at hx
     cases hx
     refine ⟨st (t + j) (.int m) (.int (t + j : Nat)) kv lv,stF_ok (i:=9) rfl (show 9 < 21 by decide) hpv,?_⟩
     exact .step (ev_callMM (cvs:=[.int (t + j : Nat)]) (kcvs:=[.lam false (.list (sl one))]) rfl rfl rfl (lay_ins true false ep hp hpl hj6)) (.step (ev_callMM (cvs:=[.int (t + j : Nat)]) (kcvs:=[.lam true (.list (sl two))]) rfl rfl rfl (lay_ins false true eq hq hql hj6)) (.nil ⟨_,rfl,rfl⟩))
    ·rintro σ ⟨pv,hpv,rfl⟩
     refine ⟨pv,hpv,?_⟩
     rw [List.length_map,List.length_range,htm]
   ·rintro σ ⟨pv,hpv,rfl⟩
    clear hprev htm hpe hqe hE hl1 hl2 hw1 hw2
    refine Gr.ite (m3:=_) false ?_ (fun h=>by cases h) fun J=>.nil ?_
    ·refine ev_bind (a:=false) (ev_bind (fr_comp m6 [none,none,some 0] 4 true p one (st m (.int m) pv kv lv) rfl rfl rfl ep hpl) (ev_bind (fr_srt ep hp hpl m1) (fr_eqr hp))) ?_
     rw [if_neg (by decide)]
     exact ev_bind (fr_comp m6 [none,none,some 1] 5 false q two (st m (.int m) pv kv lv) rfl rfl rfl eq hql) (ev_bind (fr_srt eq hq hql m1) (fr_eqr hq))
    ·refine (fun (h : Gr _ _ _ _)=>Gr.mono (Gr.gr (b2:=true) h fun σ hσ=>Gr.nil hσ) (by rw [Bool.and_true]) fun J h=>h) (.for (v:=.rng 0 5 1) (xs:=rl 5) rfl (srcV_range 5 (by decide)) ?_)
     refine Gr.mono (Gr.forM (fun j σ=>∃ kv lv,isM kv = false∧isM lv = false∧σ = st m (.int m) pv kv lv) (fun j=>!decide (cnt (p.take m) (j : Nat) < cnt (q.take m) (j : Nat))) _ _ _ ?_ ⟨kv,lv,hkv,hlv,rfl⟩) rfl (fun σ ⟨kv,lv,h1,h2,h3⟩=>⟨hkl,_,_,_,_,rfl,hpv,h1,h2,h3⟩)
     rintro j x σ hx qq4
     refine bc fun hG=>?_
     obtain ⟨kv,lv,hkv,hlv,rfl⟩:=qq4
     refine hG ?_
     clear hG
     obtain ⟨rfl,hj⟩:=rl_at hx
     refine ⟨st m (.int m) pv (.int j) lv,stF_ok rfl (show 10 < 21 by decide) hkv,?_⟩
     refine .step (σ1:=st m (.int m) pv (.int j) (.int (cnt (q.take m) (j : Nat) : Nat))) (ev_asg (cv:=.int (cnt (q.take m) (j : Nat) : Nat)) ?_ (stF_ok rfl (show 11 < 21 by decide) hlv)) ?_
     ·refine ev_bind (a:=[.own 5,.str (wd ((j + 1 : Nat) : Int))]) (ev_bind (a:=.own 5) rfl (ev_map (a:=[.str (wd ((j + 1 : Nat) : Int))]) (ev_bind (a:=.str (wd ((j + 1 : Nat) : Int))) (ev_bind (a:=[.str (wd ((j + 1 : Nat) : Int))]) (ev_bind (fr_w (Nat.succ_lt_succ hj)) rfl) rfl) rfl) rfl)) (ev_bind (a:=.lam true (.list (sl two))) rfl ?_)
      show ((bisC true (il (layI false q m)) (wd ((j + 1 : Nat) : Int)) (sl two)).bind fun r=>if scal r then some r else none) = _
      rw [fr_bis m6 true false _ eq hql,fr_c1 m6 hj false eq hq hql]
      rfl
     ·refine Gr.ite (m3:=fun σ=>some (.next,σ)) (decide (cnt (p.take m) (j : Nat) < cnt (q.take m) (j : Nat))) ?_ (fun ht=>⟨by rw [ht]; rfl,ret_one (a:=.bool false) rfl rfl⟩) (fun ht=>.nil (by rw [ht]; exact .nil ⟨_,_,rfl,rfl,rfl⟩))
      refine ev_bind (a:=.int (cnt (p.take m) (j : Nat) : Nat)) (ev_bind (a:=[.own 4,.str (wd (j : Int))]) (ev_bind (a:=.own 4) rfl (ev_map (a:=[.str (wd (j : Int))]) (ev_bind (a:=.str (wd (j : Int))) (ev_bind (a:=[.str (wd (j : Int))]) (ev_bind (fr_w (Nat.lt_succ_of_lt hj)) rfl) rfl) rfl) rfl)) (ev_bind (a:=.lam false (.list (sl one))) rfl ?_)) (ev_bind (a:=.int (cnt (q.take m) (j : Nat) : Nat)) rfl ?_)
      ·show ((bisC false (il (layI true p m)) (wd (j : Int)) (sl one)).bind fun r=>if scal r then some r else none) = _
       rw [fr_bis m6 false true _ ep hpl,fr_c2 m6 hj true ep hp hpl]
       rfl
      ·show some (decide (((cnt (p.take m) (j : Nat) : Nat) : Int) < ((cnt (q.take m) (j : Nat) : Nat) : Int))) = _
       exact congrArg some (decide_eq_decide.mpr Int.ofNat_lt)
  ·rw [← hE,List.length_map]
   unfold frontsB
   rw [List.all_map]
   rw [Bool.eq_iff_iff,List.all_eq_true,List.all_eq_true]
   constructor
   ·intro h m hm
    obtain ⟨k,hk,rfl⟩:=List.mem_iff_getElem.mp hm
    have:=h k (List.mem_range.mpr hk)
    rw [List.getD_eq_getElem?_getD,List.getElem?_eq_getElem hk] at this
    exact this
   ·intro h k hk
    have hk:=List.mem_range.mp hk
    have:=h _ (getD_mem hk)
    exact this
end
section
variable {M : Model} {A : Around} {R : GenEnd} {Y : Protocol} {n : Nat} {s₀ : Shared} {c : Code} {fs : List Frame} {s : Shared} {env : Env}
 {K : Flow→Sem Fin} {H : Value→Sem Fin} {gd : Bool→Bool} {lv : List Value→List Value}
theorem wp_false {α : Type} {m : Sem α} {Q Q' : α→Shared→Prop} {E : Value→Shared→Prop} (h : wpAny M A m Q noE s) (hq : ∀ a s',Q a s'→Q' a s') : wpAny M A m Q' E s:=wpAny_mono h hq fun J J x=>x.elim
theorem seg_pre {α : Type} {m : Sem α} {k : α→Sem Fin} (h : wpAny M (A.over c fs) m (fun a s'=>Seg M A R Y n s₀ c (k a) fs s') noE s) : Seg M A R Y n s₀ c (m.wrap k H gd lv) fs s :=
 PySem.seg_wrap (wp_false h fun J J x=>x)
theorem seg_bind_wrap' {α β : Type} {m : Sem α} {f : α→Sem β} {k : β→Sem Fin} (h : wpAny M (A.over c fs) m (fun a s'=>Seg M A R Y n s₀ c ((f a).wrap k H gd lv) fs s') noE s) : Seg M A R Y n s₀ c ((m >>= f).wrap k H gd lv) fs s:=by
 rw [Sem.bind_eq_wrap',Sem.wrap_wrap]
 exact seg_pre h
theorem seg_If {test : PySem.Expr} {body orelse : List Stmt} {pos : Pos} (h : wpAny M (A.over c fs) (isTrue test env (eval test env)) (fun b s'=>Seg M A R Y n s₀ c ((if b = true then execs body env else execs orelse env).wrap K H gd lv) fs s') noE s) :
  Seg M A R Y n s₀ c ((exec (.If test body orelse pos) env).wrap K H gd lv) fs s:=by
 rw [exec_If]
 exact seg_bind_wrap' (wpAny_standAt (seg_bind_wrap' h))
noncomputable def runK (env : Env) (K : Flow→Sem Fin) (H : Value→Sem Fin) (gd : Bool→Bool) (lv : List Value→List Value) (r : Result) : Sem Fin :=
 ((match r with | .ok f=>(.pure f : Sem Flow) | .error e=>.raise e).onRaise fun (x : Value)=>do
    if (← field x 1) == Value.none then unsupported "frame.own-activation:exception-without-traceback"
    setFlight x env.frame).wrap K H gd lv
theorem runK_ok {f : Flow} : runK env K H gd lv (.ok f) = K f:=rfl
theorem seg_runOwn {c' : Code} (h : ∀ p,Seg M A R Y n s₀ c' (M.den c') (.ret (runK env K H gd lv) none (gd false) (lv []) c p []::fs) s) : Seg M A R Y n s₀ c ((runOwn c' env).wrap K H gd lv) fs s:=seg_call h
theorem seg_For {target iter : PySem.Expr} {body orelse : List Stmt} {pos : Pos} (h : wpAny M (A.over c fs) (eval iter env) (fun x s₁=>wpAny M (A.over c fs) (pyIter x) (fun it s₂ =>
   ∀ p,Seg M A R Y n s₀ (.forLoop target it body orelse env) (M.den (.forLoop target it body orelse env)) (.ret (runK env K H gd lv) none (gd false) (lv []) c p []::fs) s₂) noE s₁) noE s)
  (hs : ∀ x,foldedSetIterable iter env x = pure x:=by intro _; rfl) :
  Seg M A R Y n s₀ c ((exec (.For target iter body orelse pos) env).wrap K H gd lv) fs s:=by
 rw [exec_For]
 refine seg_bind_wrap' (wpAny_standAt (seg_bind_wrap' (wp_w h fun x s₁ h₁=>seg_bind_wrap' ?_)))
 rw [hs]
 refine wpAny_pure (seg_bind_wrap' (wpAny_standAt (seg_bind_wrap' (wpAny_holding (wp_w h₁ fun it s₂ h₂=>seg_runOwn h₂)))))
end
section
variable {prog : Program} {w : World} {A : Around} {R : GenEnd} {Y : Protocol} {n : Nat} {s₀ : Shared} {fs : List Frame} {s : Shared} {env : Env}
noncomputable def forK (target : PySem.Expr) (it : Value) (body orelse : List Stmt) (env : Env) : Flow→Sem Fin:=fun f=>match f with
 | .next | .cont=>.pure (.again (.forLoop target it body orelse env))
 | .brk=>.pure (.done .next)
 | .ret v=>.pure (.done (.ret v))
noncomputable def ownH (env : Env) : Value→Sem Fin:=fun e=>(do noteFrame e env; theTreesLotGoes e : Sem Unit).bind fun J=>.raise e
theorem seg_forLoop {target : PySem.Expr} {it : Value} {body orelse : List Stmt}
  (h : wpAny (model prog w) (A.over (.forLoop target it body orelse env) fs) (pyNext it) (fun r s₁=>match r with
   | none=>Seg (model prog w) A R Y n s₀ (.forLoop target it body orelse env) (.pure (.again (.block orelse env))) fs s₁
   | some v=>wpAny (model prog w) (A.over (.forLoop target it body orelse env) fs) (assign target env v) (fun J s₂ =>
     Seg (model prog w) A R Y n s₀ (.forLoop target it body orelse env) ((execs body env).wrap (forK target it body orelse env) (ownH env) id id) fs s₂) noE s₁) noE s)
  (ht : ∀ v,letOwnedTupleGo target it v = pure ():=by intro _; rfl) :
  Seg (model prog w) A R Y n s₀ (.forLoop target it body orelse env) ((model prog w).den (.forLoop target it body orelse env)) fs s:=by
 show Seg _ A R Y n s₀ _ ((forTurn target it body orelse env).onRaise (fun x=>do noteFrame x env; theTreesLotGoes x)) fs s
 unfold forTurn
 rw [Sem.onRaise_eq_wrap]
 refine seg_bind_wrap' (wpAny_standAt (seg_bind_wrap' (wpAny_onRaise (wpAny_mono h (fun r s₁ h₁=>?_) fun J J x=>x.elim))))
 cases r with
 | none=>exact h₁
 | some v =>
  refine seg_bind_wrap' ?_
  rw [ht]
  refine wpAny_pure (seg_bind_wrap' (wp_w h₁ fun J s₂ h₂=>?_))
  rw [Sem.bind_eq_wrap',Sem.wrap_wrap]
  exact (congrArg (fun t=>Seg (model prog w) A R Y n s₀ (.forLoop target it body orelse env) t fs s₂) (Sem.wrap_congr (execs body env) id id (K':=forK target it body orelse env) (H':=ownH env) (fun f=>by cases f <;> rfl) (fun e=>rfl))).mpr h₂
end
theorem gi_body : ∃ (p1 p2 p3 p4 p5 p6 p7 p8 p9 p10 p11 p12 p13 p14 p15 p16 p17 p18 p19 p20 p21 p22 p23 p24 p25 p26 p27 p28 p29 p30 : Pos) (k1 k2 k3 k4 : Nat) (rs : List Stmt),sBody (topStmt 11) =
  [.Assign [.Name "last_interval" p1] (.Constant .none k1 p2) p3,
   .For (.Name "interval" p28) (.Name "grouping" p29) [.If (.Compare (.Name "interval" p4) [.Eq] [.Name "CHAR_MAX" p5] p6) [.Return none p7] [] p8,
    .If (.Compare (.Name "interval" p14) [.Eq] [.Constant (.int 0) k3 p15] p16) [.If (.Compare (.Name "last_interval" p17) [.Is] [.Constant .none k4 p18] p19) rs [] p20,.While (.Constant (.bool true) k2 p9) [.Expr (.Yield (some (.Name "last_interval" p10)) p11) p12] [] p13] [] p21,
    .Expr (.Yield (some (.Name "interval" p22)) p23) p24,
    .Assign [.Name "last_interval" p25] (.Name "interval" p26) p27] [] p30] :=
 ⟨_,_,_,_,_,_,_,_,_,_,_,_,_,_,_,_,_,_,_,_,_,_,_,_,_,_,_,_,_,_,_,_,_,_,_,rfl⟩
noncomputable def LV : Option Int→Value→Prop
 | none,v=>v = .none
 | some k,v=>∃ t,v = .int k t
structure GSt (hT : Heap) (env : Env) (lst I : Addr) : Prop where
 kind : env.scope.kind = .function
 co : env.scope.isCoroutine = false
 kI : env.kindOf "interval" = some .local
 kL : env.kindOf "last_interval" = some .local
 kG : env.kindOf "grouping" = some .local
 kC : env.kindOf "CHAR_MAX" = some .globalImplicit
 gl : env.globals = mainGlobals
 tL : hT.get? env.locals = none
 tI : hT.get? I = none
 nIL : I ≠ env.locals
 nlI : lst ≠ I
 nlL : lst ≠ env.locals
structure GI (hT : Heap) (env : Env) (lst I : Addr) (its : List Int) (i : Nat) (last : Option Int) (s : Shared) : Prop where
 top : Kp hT s.heap
 ns : ∃ m,s.heap.Ns env.locals m∧∃ lv,m "last_interval" = some lv∧LV last lv
 it : s.heap.IsListIter I lst i
 l : ∃ items,s.heap.IsList lst items∧items.size = its.length∧∀ (j : Nat) (k : Int),its[j]? = some k→∃ t,items[j]? = some (.int k t)
structure GO (env : Env) (I : Addr) (s s' : Shared) : Prop where
 gens : s'.gens = s.gens
 os : s'.os = s.os
 keep : ∀ b o,b ≠ env.locals→b ≠ I→s.heap.get? b = some o→s'.heap.get? b = some o
 tab : ∀ ps,TabOk s.heap ps→TabOk s'.heap ps
 al : ∀ b,(b = env.locals∨b = I)→NF s.heap b→NF s'.heap b
section
variable {prog : Program} {w : World} {hT : Heap} {A : Around} {env : Env} {lst I : Addr} {its : List Int} {i : Nat} {last : Option Int} {s s' s'' : Shared} {mg mb : Str→Option Value}
theorem GO.refl (s : Shared) : GO env I s s:=⟨rfl,rfl,fun J J J J e=>e,fun J t=>t,fun J J h=>h⟩
theorem GO.tok {tk : Tok} : GO env I s { s with toks:=tk }:=⟨rfl,rfl,fun J J J J e=>e,fun J t=>t,fun J J h=>h⟩
theorem GO.trans (x : GO env I s s') (y : GO env I s' s'') : GO env I s s'':=⟨y.gens.trans x.gens,y.os.trans x.os,fun b o h1 h2 e=>y.keep b o h1 h2 (x.keep b o h1 h2 e),fun ps t=>y.tab ps (x.tab ps t),fun b h q=>y.al b h (x.al b h q)⟩
theorem GI.tok {tk : Tok} (x : GI hT env lst I its i last s) : GI hT env lst I its i last { s with toks:=tk }:=⟨x.top,x.ns,x.it,x.l⟩
theorem Heap.IsListIter.nf {h : Heap} {I l : Addr} {i : Nat} (x : h.IsListIter I l i) : NF h I:=by
 obtain ⟨o,e,hc,_⟩:=x
 refine ⟨o,e,.inl fun q=>?_⟩
 rw [hc] at q
 exact absurd (Value.type.inj q) (by decide)
theorem ns_nf {h : Heap} {L : Addr} {m : Str→Option Value} (x : h.Ns L m) : NF h L:=by
 obtain ⟨o,_,_,e,hd,_⟩:=x
 exact ⟨o,e,.inr fun vs q=>by rw [hd] at q; cases q⟩
theorem go_one (T : TF prog hT mg mb) {z : Addr} {h' : Heap} {tk : Tok} (hz : z = env.locals∨z = I) (tz : hT.get? z = none) (top : Kp hT s.heap) (nf : NF s.heap z) (nf' : NF h' z) (hk : ∀ b o,b ≠ z→s.heap.get? b = some o→h'.get? b = some o) :
  GO env I s { s with heap:=h',toks:=tk }∧Kp hT h':=by
 have hzt : z ≠ tabA:=fun q=>by
  refine bc fun hG=>?_
  obtain ⟨ps,t⟩:=T.tab
  refine hG ?_
  clear hG
  rw [q,t.t.2] at tz; cases tz
 have hzc : z ≠ codA:=fun q=>by
  obtain ⟨ps,t⟩:=T.tab
  obtain ⟨⟨o,vs,e,_⟩,_⟩:=t.t
  rw [q,e] at tz; cases tz
 have tab' : ∀ ps,TabOk s.heap ps→TabOk h' ps:=fun ps t=>⟨t.c.extBut hk (Ne.symm hzc) (Ne.symm hzt),t.t.extBut hk (Ne.symm hzc) (Ne.symm hzt),t.l.but nf hk⟩
 refine ⟨⟨rfl,rfl,fun b o h1 h2 e=>hk b o (fun q=>by rcases hz with hz | hz <;> simp_all) e,tab',fun b hb q=>?_⟩,fun b o ht e=>hk b o (fun q=>by rw [q,tz] at e; cases e) (top.keep b o ht e),fun ps t=>?_⟩
 ·by_cases hbz : b = z
  ·rw [hbz]; exact nf'
  ·exact q.keeps fun o=>hk b o hbz
 ·obtain ⟨m,t'⟩:=top.tab ps t; exact ⟨m,tab' _ t'⟩
theorem GI.store (T : TF prog hT mg mb) (G : GSt hT env lst I) (x : GI hT env lst I its i last s) {y : Str} {v : Value} {px : Pos} (hy : env.kindOf y = some .local) {last' : Option Int} (hl : if y = "last_interval" then LV last' v else last' = last) :
  wpAny (model prog w) A (storeName env y v) (fun J s'=>GI hT env lst I its i last' s'∧GO env I s s'∧∃ m,s'.heap.Ns env.locals m∧m y = some v) noE s:=by
 refine bc fun hG=>?_
 obtain ⟨m,hm,lv,h1,h2⟩:=x.ns
 refine hG ?_
 clear hG
 refine wpAny_storeName_local hy hm (fun h' hm' hsb=>?_) (by rw [G.kind]; rfl)
 have hk : ∀ b o,b ≠ env.locals→s.heap.get? b = some o→h'.get? b = some o:=fun b o hb e=>hsb.extBut b o hb e
 refine bc fun hG=>?_
 obtain ⟨g1,g2⟩:=go_one (env:=env) (I:=I) T (.inl rfl) G.tL x.top (ns_nf hm) (ns_nf hm') (tk:=s.toks + 1) hk
 obtain ⟨items,q1,q2,q3⟩:=x.l
 refine hG ?_
 clear hG
 refine ⟨⟨g2,⟨_,hm',?_⟩,x.it.extBut hsb.extBut G.nIL,items,q1.extBut hsb.extBut G.nlL,q2,q3⟩,g1,_,hm',by exact if_pos rfl⟩
 by_cases hyl : y = "last_interval"
 ·subst hyl
  rw [if_pos rfl] at hl
  exact ⟨v,by simp,hl⟩
 ·rw [if_neg hyl] at hl
  subst hl
  refine ⟨lv,?_,h2⟩
  rw [if_neg (fun q=>hyl q.symm)]; exact h1
theorem GI.next (T : TF prog hT mg mb) (G : GSt hT env lst I) (x : GI hT env lst I its i last s) (hh : A.handled = none) {k : Int} (hk : its[i]? = some k) :
  wpAny (model prog w) A (pyNext (.ref I)) (fun r s'=>∃ t,r = some (.int k t)∧GI hT env lst I its (i + 1) last s'∧GO env I s s') noE s:=by
 refine bc fun hG=>?_
 obtain ⟨items,q1,q2,q3⟩:=x.l
 obtain ⟨t,ht⟩:=q3 i k hk
 refine hG ?_
 clear hG
 have hi : i < items.size:=by rw [q2]; exact (gL hk)
 refine (Walks.list hh I lst G.nlI items).item i s _ _ hi ⟨x.it,q1⟩ fun v h' tk hv st hkp=>?_
 have hkp' : ∀ b o,b ≠ I→s.heap.get? b = some o→h'.get? b = some o:=fun b o hb e=>hkp b o (by exact notIn_one hb) e
 refine bc fun hG=>?_
 obtain ⟨g1,g2⟩:=go_one (env:=env) (I:=I) T (.inr rfl) G.tI x.top (Heap.IsListIter.nf x.it) (Heap.IsListIter.nf st.1) (tk:=tk) hkp'
 refine hG ?_
 clear hG
 have hv : items[i]? = some v:=hv
 rw [ht] at hv; cases hv
 obtain ⟨m,hm,r⟩:=x.ns
 exact ⟨t,rfl,⟨g2,⟨m,hm.at' fun o=>hkp' _ o (Ne.symm G.nIL),r⟩,st.1,items,st.2,q2,q3⟩,g1⟩
theorem GI.done (G : GSt hT env lst I) (x : GI hT env lst I its i last s) (hh : A.handled = none) (hk : i = its.length) :
  wpAny (model prog w) A (pyNext (.ref I)) (fun r s'=>r = none∧∃ h' tk,s' = { s with heap:=h',toks:=tk }∧∀ b o,b ≠ I→s.heap.get? b = some o→h'.get? b = some o) noE s:=by
 refine bc fun hG=>?_
 obtain ⟨items,q1,q2,q3⟩:=x.l
 refine hG ?_
 clear hG
 have hi : i = items.size:=by lia
 subst hi
 refine (Walks.list hh I lst G.nlI items).done s _ _ ⟨x.it,q1⟩ fun h' tk hkp=>?_
 exact ⟨rfl,h',tk,rfl,fun b o hb e=>hkp b o (by exact notIn_one hb) e⟩
theorem gi_name (G : GSt hT env lst I) {y : Str} {p : Pos} {m : Str→Option Value} {v : Value} {Q : Value→Shared→Prop} {E : Value→Shared→Prop} (hy : env.kindOf y = some .local) (hm : s.heap.Ns env.locals m) (hv : m y = some v) (h : Q v s) (hd : (y == ("__debug__" : Str)) = false:=by decide) :
  wpAny (model prog w) A (eval (.Name y p) env) Q E s:=wpAny_Name (wpAny_loadName_local G.kind hy hm hv h) hd
theorem gi_last (G : GSt hT env lst I) (x : GI hT env lst I its i last s) {p : Pos} {Q : Value→Shared→Prop} {E : Value→Shared→Prop} (h : ∀ v,LV last v→Q v s) : wpAny (model prog w) A (eval (.Name "last_interval" p) env) Q E s:=by
 obtain ⟨m,hm,lv,h1,h2⟩:=x.ns
 exact gi_name G G.kL hm h1 (h lv h2)
theorem gi_test1 (T : TF prog hT mg mb) (G : GSt hT env lst I) (hC : ∃ t,mg "CHAR_MAX" = some (.int 127 t)) (x : GI hT env lst I its i last s) {m : Str→Option Value} {k : Int} {t : Tok} (hm : s.heap.Ns env.locals m) (hv : m "interval" = some (.int k t)) {p1 p2 p3 : Pos} :
  wpAny (model prog w) A (isTrue (.Compare (.Name "interval" p1) [.Eq] [.Name "CHAR_MAX" p2] p3) env (eval (.Compare (.Name "interval" p1) [.Eq] [.Name "CHAR_MAX" p2] p3) env)) (fun b s'=>b = decide (k = 127)∧s' = s) noE s:=by
 refine bc fun hG=>?_
 obtain ⟨u,hu⟩:=hC
 refine hG ?_
 clear hG
 refine wpAny_isTrue_Compare1 (gi_name G G.kI hm hv ?_) (by with_unfolding_all rfl)
 refine Name_function_global G.kind G.kC (loadGlobal_global (by rw [G.gl]; exact T.g.at' fun J=>x.top.keep _ _ (by decide)) hu ?_) (by decide)
 refine PyProof.Rows.eq_int (wpAny_truthy_bool ⟨?_,rfl⟩)
 by_cases h : k = 127 <;> simp [h]
theorem gi_test2 (G : GSt hT env lst I) {m : Str→Option Value} {k : Int} {t : Tok} (hm : s.heap.Ns env.locals m) (hv : m "interval" = some (.int k t)) {p1 p2 p3 : Pos} {n : Nat} :
  wpAny (model prog w) A (isTrue (.Compare (.Name "interval" p1) [.Eq] [.Constant (.int 0) n p2] p3) env (eval (.Compare (.Name "interval" p1) [.Eq] [.Constant (.int 0) n p2] p3) env)) (fun b s'=>b = decide (k = 0)∧∃ tk,s' = { s with toks:=tk }) noE s:=by
 refine wpAny_isTrue_Compare1 (gi_name G G.kI hm hv (wpAny_Constant_int ?_)) (by with_unfolding_all rfl)
 refine PyProof.Rows.eq_int (wpAny_truthy_bool ⟨?_,_,rfl⟩)
 by_cases h : k = 0 <;> simp [h]
theorem gi_test3 (G : GSt hT env lst I) (x : GI hT env lst I its i (some k) s) {p1 p2 p3 : Pos} {n : Nat} :
  wpAny (model prog w) A (isTrue (.Compare (.Name "last_interval" p1) [.Is] [.Constant .none n p2] p3) env (eval (.Compare (.Name "last_interval" p1) [.Is] [.Constant .none n p2] p3) env)) (fun b s'=>b = false∧s' = s) noE s:=by
 refine wpAny_isTrue_Compare1 (gi_last G x fun v hv=>wpAny_Constant_none ?_) (by with_unfolding_all rfl)
 obtain ⟨t,rfl⟩:=hv
 exact is_none (wpAny_truthy_bool ⟨rfl,rfl⟩)
end
noncomputable def giOut : Option Int→List Int→Nat→Option Int
 | _,[],_=>none
 | last,k::r,j=>if k = 127 then none else if k = 0 then last else match j with
  | 0=>some k
  | j + 1=>giOut (some k) r j
theorem giOut_cons (last : Option Int) (k : Int) (r : List Int) (j : Nat) : giOut last (k::r) j = if k = 127 then none else if k = 0 then last else (match j with
  | 0=>some k
  | j + 1=>giOut (some k) r j):=by cases j <;> rfl
noncomputable def giOk : Option Int→List Int→Bool
 | _,[]=>true
 | last,k::r=>if k = 127 then true else if k = 0 then last.isSome else giOk (some k) r
structure FrG (hT : Heap) (env : Env) (lst I : Addr) (s s' : Shared) : Prop where
 top : Kp hT s'.heap
 keep : ∀ b,(b = env.locals∨b = I∨b = lst)→∀ o,s.heap.get? b = some o→s'.heap.get? b = some o
theorem GI.fr {hT : Heap} {env : Env} {lst I : Addr} {its : List Int} {i : Nat} {last : Option Int} {s s' : Shared} (x : GI hT env lst I its i last s) (f : FrG hT env lst I s s') : GI hT env lst I its i last s':=by
 refine bc fun hG=>?_
 obtain ⟨m,hm,r⟩:=x.ns
 obtain ⟨items,q1,q⟩:=x.l
 refine hG ?_
 clear hG
 exact ⟨f.top,⟨m,hm.at' fun o=>f.keep _ (.inl rfl) o,r⟩,x.it.at fun o=>f.keep _ (.inr (.inl rfl)) o,items,q1.at fun o=>f.keep _ (.inr (.inr rfl)) o,q⟩
noncomputable def giY (hT : Heap) (f : Nat→Option Int) (N : Nat) (env : Env) (lst I : Addr) : Protocol:=fun n s₀ v s' kap=>(∃ k t,v = .int k t∧f (N - 1 - n) = some k)∧(GO env I s₀ s'∧NF s'.heap env.locals∧NF s'.heap I∧Kp hT s'.heap)∧(0 < n→∀ s'',FrG hT env lst I s' s''→kap (.send .none) s'')
structure GE (env : Env) (I : Addr) (s s' : Shared) : Prop where
 gens : s'.gens = s.gens
 os : s'.os = s.os
 keep : ∀ b o,b ≠ env.locals→b ≠ I→s.heap.get? b = some o→s'.heap.get? b = some o
 tab : ∀ ps,TabOk s.heap ps→TabOk s'.heap ps
theorem GO.ge {env : Env} {I : Addr} {s s' : Shared} (x : GO env I s s') : GE env I s s':=⟨x.gens,x.os,x.keep,x.tab⟩
theorem GE.trans {env : Env} {I : Addr} {s s' s'' : Shared} (x : GE env I s s') (y : GE env I s' s'') : GE env I s s'':=⟨y.gens.trans x.gens,y.os.trans x.os,fun b o h1 h2 e=>y.keep b o h1 h2 (x.keep b o h1 h2 e),fun ps t=>y.tab ps (x.tab ps t)⟩
noncomputable def giP (f : Nat→Option Int) (N : Nat) (env : Env) (I : Addr) (n : Nat) (s₀ s₁ : Shared) : Prop:=f (N - n) = none∧GE env I s₀ s₁
noncomputable def giR (f : Nat→Option Int) (N : Nat) (env : Env) (I : Addr) : GenEnd:=fun n s₀ r s₁=>r = .ok (.ret .none)∧giP f N env I n s₀ s₁
noncomputable def fnK : Flow→Sem Fin:=fun f=>.pure (.done (.ret (match f with | .ret v=>v | _=>.none)))
noncomputable def fnH (env : Env) : Value→Sem Fin:=fun e=>(leaving env e).wrap (fun J=>.raise e) .raise id id
noncomputable def fnK1 (env : Env) : Flow→Sem Fin:=fun f=>match f with
 | .next=>(execs [] env).wrap fnK (fnH env) id id
 | f=>fnK f
section
variable {prog : Program} {w : World} {hT : Heap} {A : Around} {env : Env} {lst I : Addr} {its : List Int} {s s' s'' : Shared} {mg mb : Str→Option Value} {f : Nat→Option Int} {N : Nat}
theorem GI.ge {i : Nat} {last : Option Int} (T : TF prog hT mg mb) (G : GSt hT env lst I) (x : GI hT env lst I its i last s) {h' : Heap} {tk : Tok} (hkp : ∀ b o,b ≠ I→s.heap.get? b = some o→h'.get? b = some o) : GE env I s { s with heap:=h',toks:=tk }:=by
 have hzt : I ≠ tabA:=fun q=>by
  obtain ⟨ps,t⟩:=T.tab
  have:=G.tI
  rw [q,t.t.2] at this; cases this
 have hzc : I ≠ codA:=fun q=>by
  obtain ⟨ps,t⟩:=T.tab
  obtain ⟨⟨o,vs,e,_⟩,_⟩:=t.t
  have:=G.tI
  rw [q,e] at this; cases this
 exact ⟨rfl,rfl,fun b o h1 h2 e=>hkp b o h2 e,fun ps t=>⟨t.c.extBut hkp (Ne.symm hzc) (Ne.symm hzt),t.t.extBut hkp (Ne.symm hzc) (Ne.symm hzt),t.l.but (Heap.IsListIter.nf x.it) hkp⟩⟩
theorem GI.nfs {i : Nat} {last : Option Int} (x : GI hT env lst I its i last s) : NF s.heap env.locals∧NF s.heap I∧Kp hT s.heap:=by
 obtain ⟨m,hm,_⟩:=x.ns
 exact ⟨ns_nf hm,Heap.IsListIter.nf x.it,x.top⟩
theorem nn1 {N n : Nat} : N - 1 - n = N - (n + 1) + 0:=by rw [Nat.sub_sub,Nat.add_comm 1 n]; rfl
theorem nn2 {N n : Nat} (j : Nat) (h : n + 1≤N) : N - (n + 1) + (j + 1) = N - n + j:=by lia
theorem gi_while (G : GSt hT env lst I) {k : Int} {i : Nat} {p1 p2 p3 p4 : Pos} {n1 : Nat} {fs : List Frame} (hfs : splitAtGen fs = none) (hfg : fs.any Frame.guarded = false) : ∀ (n : Nat) (s₀ s : Shared),0 < n→n≤N→GI hT env lst I its i (some k) s→GO env I s₀ s→(∀ j,f (N - n + j) = some k) →
  Seg (model prog w) A (giR f N env I) (giY hT f N env lst I) n s₀ (.whileLoop (.Constant (.bool true) n1 p1) [.Expr (.Yield (some (.Name "last_interval" p2)) p3) p4] [] env)
   ((model prog w).den (.whileLoop (.Constant (.bool true) n1 p1) [.Expr (.Yield (some (.Name "last_interval" p2)) p3) p4] [] env)) fs s:=by
 intro n
 induction n with
 | zero =>
  intro _ _ h _ _ _ _
  exact absurd h (Nat.lt_irrefl 0)
 | succ n gi_while =>
  intro s₀ s _ hN x go hf
  refine seg_whileLoop (wp_false (Q:=fun b s'=>b = true∧s' = s) ?_ fun b s' q=>?_)
  ·exact wpAny_isTrue_value (wpAny_Constant_bool (wpAny_truthy_bool ⟨rfl,rfl⟩))
  ·obtain ⟨rfl,rfl⟩:=q
   rw [if_pos rfl]
   refine seg_execs_cons (seg_Expr_Yield hfs rfl hfg ?_ G.co (by unfold interactive; rw [G.kind]; rfl))
   refine gi_last G x fun v hv=>?_
   obtain ⟨t,rfl⟩:=hv
   intro kap hkap
   refine ⟨⟨k,t,rfl,?_⟩,⟨go,x.nfs⟩,fun hn s'' fr=>hkap _ _ ?_⟩
   ·have:=hf 0
    rw [nn1]; exact this
   ·show Seg _ A _ _ n s'' _ (.pure (.again (.whileLoop _ _ [] env))) fs s''
    refine seg_again rfl (gi_while s'' s'' hn (by exact Nat.le_of_succ_le hN) (x.fr fr) (.refl _) fun j=>?_)
    have:=hf (1 + j)
    rw [Nat.add_comm 1 j,nn2 j hN] at this
    exact this
theorem gi_turn (T : TF prog hT mg mb) (hC : ∃ t,mg "CHAR_MAX" = some (.int 127 t)) (G : GSt hT env lst I) (hA : A.handled = none) {p4 p5 p6 p7 p8 p9 p10 p11 p12 p13 p14 p15 p16 p17 p18 p19 p20 p21 p22 p23 p24 p25 p26 p27 p28 : Pos} {k2 k3 k4 : Nat} {rs : List Stmt} {body : List Stmt} {p : Pos} {lv : List Value} : ∀ (n i : Nat) (last : Option Int) (s₀ s : Shared),0 < n→n≤N→i≤its.length→GI hT env lst I its i last s→GO env I s₀ s→(∀ j,f (N - n + j) = giOut last (its.drop i) j)→giOk last (its.drop i) = true →
  Seg (model prog w) A (giR f N env I) (giY hT f N env lst I) n s₀ (.forLoop (.Name "interval" p28) (.ref I) [.If (.Compare (.Name "interval" p4) [.Eq] [.Name "CHAR_MAX" p5] p6) [.Return none p7] [] p8,.If (.Compare (.Name "interval" p14) [.Eq] [.Constant (.int 0) k3 p15] p16) [.If (.Compare (.Name "last_interval" p17) [.Is] [.Constant .none k4 p18] p19) rs [] p20,.While (.Constant (.bool true) k2 p9) [.Expr (.Yield (some (.Name "last_interval" p10)) p11) p12] [] p13] [] p21,.Expr (.Yield (some (.Name "interval" p22)) p23) p24,.Assign [.Name "last_interval" p25] (.Name "interval" p26) p27] [] env)
   ((model prog w).den (.forLoop (.Name "interval" p28) (.ref I) [.If (.Compare (.Name "interval" p4) [.Eq] [.Name "CHAR_MAX" p5] p6) [.Return none p7] [] p8,.If (.Compare (.Name "interval" p14) [.Eq] [.Constant (.int 0) k3 p15] p16) [.If (.Compare (.Name "last_interval" p17) [.Is] [.Constant .none k4 p18] p19) rs [] p20,.While (.Constant (.bool true) k2 p9) [.Expr (.Yield (some (.Name "last_interval" p10)) p11) p12] [] p13] [] p21,.Expr (.Yield (some (.Name "interval" p22)) p23) p24,.Assign [.Name "last_interval" p25] (.Name "interval" p26) p27] [] env)) [.ret (runK env (fnK1 env) (fnH env) id id) none false lv (.func body env) p []] s:=by
 intro n
 induction n with
 | zero =>
  intro _ _ _ _ h _ _ _ _ _ _
  exact absurd h (Nat.lt_irrefl 0)
 | succ n gi_turn =>
  intro i last s₀ s _ hN hil x go hf hok
  have hA' : ∀ c : Code,(A.over c [.ret (runK env (fnK1 env) (fnH env) id id) none false lv (.func body env) p []]).handled = none:=fun c=>hA
  have ends : ∀ (c : Code) (fl : Flow) (s1 : Shared),(fl = .next∨fl = .ret .none)→f (N - (n + 1)) = none→GE env I s₀ s1→Seg (model prog w) A (giR f N env I) (giY hT f N env lst I) (n + 1) s₀ c (leafOf (.ok fl)) [.ret (runK env (fnK1 env) (fnH env) id id) none false lv (.func body env) p []] s1:=by
   intro c fl s1 hfl h0 g1
   refine seg_leaf (.ok fl) ?_
   rw [runK_ok]
   have : fnK1 env fl = leafOf (.ok (.ret .none)):=by rcases hfl with rfl | rfl <;> rfl
   rw [this]
   exact seg_end _ ⟨rfl,h0,g1⟩
  by_cases hi : i < its.length
  ·obtain ⟨k,hk⟩ : ∃ k,its[i]? = some k:=⟨_,List.getElem?_eq_getElem hi⟩
   have hd : its.drop i = k::its.drop (i + 1):=by
    rw [List.drop_eq_getElem_cons hi]
    rw [List.getElem?_eq_getElem hi] at hk; cases hk; rfl
   rw [hd] at hf hok
   refine seg_forLoop (wp_w (x.next T G (hA' _) hk) fun r s1 q=>?_)
   obtain ⟨t,rfl,x1,g1⟩:=q
   refine wpAny_assign_Name (wp_w (x1.store T G G.kI (last':=last) (v:=.int k t) (px:=p28) (by rw [if_neg (by decide)])) fun J s2 q=>?_)
   refine bc fun hG=>?_
   refine bc fun hG=>?_
   obtain ⟨x2,g2,m,hm,hv⟩:=q
   have g02:=go.trans (g1.trans g2)
   refine hG ?_
   clear hG
   refine hG ?_
   clear hG
   refine seg_execs_cons (seg_If (wp_w (gi_test1 T G hC x2 hm hv) fun b s3 q=>?_))
   obtain ⟨rfl,rfl⟩:=q
   by_cases h127 : k = 127
   ·rw [decide_eq_true h127,if_pos rfl]
    refine seg_execs_cons (seg_pre (wpAny_Return_none ?_))
    refine ends _ (.ret .none) _ (.inr rfl) ?_ g02.ge
    have:=hf 0
    rw [Nat.add_zero] at this
    rw [this,giOut_cons,if_pos h127]
   ·rw [decide_eq_false h127,if_neg (by decide)]
    refine seg_execs_nil ?_
    show Seg _ A _ _ _ _ _ ((execs _ env).wrap _ _ _ _) _ _
    refine seg_execs_cons (seg_If (wp_w (gi_test2 G hm hv) fun b s4 q=>?_))
    obtain ⟨rfl,tk,rfl⟩:=q
    have x4:=x2.tok (tk:=tk)
    have g4:=g02.trans (.tok (env:=env) (I:=I) (tk:=tk))
    by_cases h0 : k = 0
    ·rw [decide_eq_true h0,if_pos rfl]
     rw [giOk,if_neg h127,if_pos h0] at hok
     refine bc fun hG=>?_
     obtain ⟨kl,rfl⟩:=Option.isSome_iff_exists.mp hok
     refine hG ?_
     clear hG
     refine seg_execs_cons (seg_If (wp_w (gi_test3 G x4) fun b s5 q=>?_))
     obtain ⟨rfl,rfl⟩:=q
     rw [if_neg (by decide)]
     refine seg_execs_nil ?_
     show Seg _ A _ _ _ _ _ ((execs _ env).wrap _ _ _ _) _ _
     refine seg_execs_cons (seg_While fun p'=>?_)
     refine gi_while G rfl rfl (n + 1) s₀ _ (Nat.succ_pos _) hN x4 g4 fun j=>?_
     rw [hf j,giOut_cons,if_neg h127,if_pos h0]
    ·rw [decide_eq_false h0,if_neg (by decide)]
     refine seg_execs_nil ?_
     show Seg _ A _ _ _ _ _ ((execs _ env).wrap _ _ _ _) _ _
     rw [giOk,if_neg h127,if_neg h0] at hok
     refine seg_execs_cons (seg_Expr_Yield rfl rfl rfl ?_ G.co (by unfold interactive; rw [G.kind]; rfl))
     refine gi_name G G.kI (s:=_) hm hv ?_
     intro kap hkap
     refine ⟨⟨k,t,rfl,?_⟩,⟨g4,x4.nfs⟩,fun hn s'' fr=>hkap _ _ ?_⟩
     ·have:=hf 0
      rw [nn1,this,giOut_cons,if_neg h127,if_neg h0]
     ·show Seg _ A _ _ n s'' _ ((execs _ env).wrap _ _ _ _) _ s''
      have x5:=x4.fr fr
      have hm5 : s''.heap.Ns env.locals m:=hm.at' fun o=>fr.keep _ (.inl rfl) o
      refine seg_execs_cons (seg_pre (wpAny_Assign_Name (gi_name G G.kI hm5 hv (wp_w (x5.store T G G.kL (last':=some k) (v:=.int k t) (px:=p28) (by rw [if_pos rfl]; exact ⟨t,rfl⟩)) fun J s6 q=>?_)) (by intros; rfl)))
      obtain ⟨x6,g6,_⟩:=q
      refine seg_execs_nil ?_
      show Seg _ A _ _ n s'' _ (.pure (.again (.forLoop _ _ _ [] env))) _ s6
      refine seg_again rfl (gi_turn (i + 1) (some k) s'' s6 hn (by exact Nat.le_of_succ_le hN) (by exact Nat.succ_le_of_lt hi) x6 g6 (fun j=>?_) hok)
      have:=hf (j + 1)
      rw [nn2 j hN] at this
      rw [this,show giOut last (k::its.drop (i + 1)) (j + 1) = (if k = 127 then none else if k = 0 then last else giOut (some k) (its.drop (i + 1)) j) from rfl,if_neg h127,if_neg h0]
  ·have hie : i = its.length:=Nat.le_antisymm hil (Nat.not_lt.mp hi)
   refine seg_forLoop (wp_w (x.done G (hA' _) hie) fun r s1 q=>?_)
   obtain ⟨rfl,h',tk,rfl,hkp⟩:=q
   refine seg_again rfl ?_
   show Seg _ A _ _ _ _ _ (leafOf (.ok .next)) _ _
   refine ends _ .next _ (.inl rfl) ?_ (go.ge.trans (x.ge T G hkp))
   have:=hf 0
   rw [Nat.add_zero] at this
   rw [this,List.drop_of_length_le (by exact Nat.le_of_not_lt hi)]; rfl
end
section
variable {prog : Program} {w : World} {A : Around} {E : Value→Shared→Prop} {s : Shared}
theorem pyNext_gen {a : Addr} {g n : Nat} {gs : GenState} {P : Nat→Shared→Shared→Prop} {Y : Protocol} {Q : Option Value→Shared→Prop} (hh : A.handled = none) (hl : s.heap.NoLimit) (hroom : A.depth < recursionLimit) (hg : s.heap.IsGen a g) (hgs : s.gens[g]? = some gs)
  (hgo : gs.Goes (model prog w) A.in1 (fun n s₀ r s₁=>r = .ok (.ret .none)∧P n s₀ s₁) Y n (.send .none) (s.setGen g .running))
  (hY : ∀ v s₁ gs',gs'.bare = true→Y (n - 1) (s.setGen g .running) v s₁ (fun r' s''=>match n with
    | 0=>False
    | m + 1=>gs'.Goes (model prog w) A.in1 (fun n s₀ r s₁=>r = .ok (.ret .none)∧P n s₀ s₁) Y m r' s'')→Q (some v) (s₁.setGen g gs'))
  (hP : ∀ s₁,P n (s.setGen g .running) s₁→∀ h',(∀ b o,s₁.heap.get? b = some o→h'.get? b = some o)→Q none { s₁.setGen g .finished with heap:=h' }) :
  wpAny (model prog w) A (pyNext (.ref a)) Q E s:=by
 unfold pyNext
 refine wpAny_bind (wpAny_attempt (wpAny_callSpecial?_slot (name:=Str.ofString "__next__") hg.typeIs slot_gen_next (wpAny_call_entry slot_gen_next hg.typeIs entry_gen_next ?_ (args_gen_next _))))
 show wpAny _ A.in1 (Builtin.Generator.genWake (.ref a) (.send .none)) _ _ s
 unfold Builtin.Generator.genWake
 refine wpAny_bind (wpAny_holding (wpAny_genNumber hg (wpAny_bind (wpAny_genState hgs ?_))))
 have live : gs ≠ .running∧gs ≠ .finished:=⟨fun q=>(q▸hgo : GenState.Goes _ _ _ _ _ .running _ _).elim,fun q=>(q▸hgo : GenState.Goes _ _ _ _ _ .finished _ _).elim⟩
 cases gs with
 | running=>exact absurd rfl live.1
 | finished=>exact absurd rfl live.2
 | _ =>
  refine wpAny_bind (wpAny_roomToWake hl hroom (wpAny_resumeQ hgs hgo (fun x s₁ hx=>?_) fun v s₁ gs' hb hv=>wpAny_pure ⟨v,rfl,wpAny_pure (hY v s₁ gs' hb hv)⟩))
  refine bc fun hG=>?_
  obtain ⟨hx,hp⟩:=hx
  refine hG ?_
  clear hG
  subst hx
  show wpAny _ A.in1 (newExc (.type "StopIteration") [] >>= _) _ _ _
  refine wpAny_bind ?_
  simp only [newExc,newTuple,raiseNew]
  refine wpAny_bind (wpAny_newObj_type (wpAny_bind (m:=firstArgMember _ _) (wpAny_of_eq (a:=Value.none) (by first | rfl | (simp only [firstArgMember]; rfl)) (wpAny_newObj_type ?_ (by size_fits)))) (by size_fits))
  refine wpAny_bind (wpAny_bind (wpAny_handled ?_))
  rw [show A.in1.handled = none from hh]
  refine wpAny_throw (wpAny_bind (wpAny_isInstance (T:="StopIteration") (b:=true) ⟨_,Heap.get?_push_size _ rfl,rfl⟩ isSubtype_stop (wpAny_pure ?_)))
  exact hP s₁ hp _ fun b o e=>Heap.get?_push_of_some _ (Heap.get?_push_of_some _ e)
end
structure G0 (hT : Heap) (env : Env) (lst : Addr) (its : List Int) (s : Shared) : Prop where
 top : Kp hT s.heap
 ns : ∃ m,s.heap.Ns env.locals m∧m "grouping" = some (.ref lst)
 l : ∃ items,s.heap.IsList lst items∧items.size = its.length∧∀ (j : Nat) (k : Int),its[j]? = some k→∃ t,items[j]? = some (.int k t)
 kind : env.scope.kind = .function
 co : env.scope.isCoroutine = false
 kI : env.kindOf "interval" = some .local
 kL : env.kindOf "last_interval" = some .local
 kG : env.kindOf "grouping" = some .local
 kC : env.kindOf "CHAR_MAX" = some .globalImplicit
 gl : env.globals = mainGlobals
 tL : hT.get? env.locals = none
 nlL : lst ≠ env.locals
section
variable {prog : Program} {w : World} {hT : Heap} {A : Around} {env : Env} {lst : Addr} {its : List Int} {s : Shared} {mg mb : Str→Option Value} {f : Nat→Option Int} {N : Nat}
theorem gi_start (T : TF prog hT mg mb) (hC : ∃ t,mg "CHAR_MAX" = some (.int 127 t)) (hA : A.handled = none) (x : G0 hT env lst its s) (hN : 0 < N) (hf : ∀ j,f j = giOut none its j) (hok : giOk none its = true) (hts : ∀ b o,hT.get? b = some o→b ≠ s.heap.objs.size) :
  Seg (model prog w) A (giR f N env s.heap.objs.size) (giY hT f N env lst s.heap.objs.size) N s (.func (sBody (topStmt 11)) env) ((model prog w).den (.func (sBody (topStmt 11)) env)) [] s:=by
 refine bc fun hG=>?_
 obtain ⟨m,hm,hmg⟩:=x.ns
 obtain ⟨items,q1,q2,q3⟩:=x.l
 refine hG ?_
 clear hG
 generalize hIe : s.heap.objs.size = I at *
 have hIn : s.heap.get? I = none:=by
  cases e : s.heap.get? I with
  | none=>rfl
  | some o=>exact absurd (Heap.lt_size e) (by rw [hIe]; exact Nat.lt_irrefl _)
 have hL : Al s.heap env.locals:=by obtain ⟨o,_,_,e,_⟩:=hm; exact ⟨o,e⟩
 have ne : ∀ {b : Addr} {o},s.heap.get? b = some o→b ≠ I:=fun e q=>by rw [q,hIn] at e; cases e
 have G : GSt hT env lst I:=⟨x.kind,x.co,x.kI,x.kL,x.kG,x.kC,x.gl,x.tL,(by
  cases e : hT.get? I with
  | none=>rfl
  | some o=>exact absurd rfl (hts I o e)),fun q=>by obtain ⟨o,e⟩:=hL; exact ne e q.symm,fun q=>by obtain ⟨o,e,_⟩:=q1; exact ne e q,x.nlL⟩
 refine bc fun hG=>?_
 obtain ⟨p1,p2,p3,p4,p5,p6,p7,p8,p9,p10,p11,p12,p13,p14,p15,p16,p17,p18,p19,p20,p21,p22,p23,p24,p25,p26,p27,p28,p29,p30,k1,k2,k3,k4,rs,hb⟩:=gi_body
 refine hG ?_
 clear hG
 refine seg_func ?_
 rw [hb]
 refine seg_execs_cons (seg_pre (wpAny_Assign_Name (wpAny_Constant_none (wpAny_storeName_local x.kL hm (fun h' hm' hsb=>?_) (by rw [x.kind]; rfl))) (by intros; rfl)))
 have hk : ∀ b o,b ≠ env.locals→s.heap.get? b = some o→h'.get? b = some o:=fun b o hb e=>hsb.extBut b o hb e
 refine bc fun hG=>?_
 obtain ⟨g1,g2⟩:=go_one (env:=env) (I:=I) T (.inl rfl) x.tL x.top (ns_nf hm) (ns_nf hm') (tk:=s.toks + 1) hk
 refine hG ?_
 clear hG
 have hsz : h'.objs.size = I:=by rw [← hIe]; exact hsb.1
 show Seg _ A _ _ _ _ _ ((execs _ env).wrap _ _ _ _) _ _
 refine seg_execs_cons (seg_For (gi_name G x.kG hm' (v:=.ref lst) ?_ (wpAny_pyIter_list (q1.extBut hsb.extBut x.nlL) fun p=>?_)))
 ·show (if ("grouping" : Str) = "last_interval" then some Value.none else m "grouping") = _
  rw [if_neg (by decide)]; exact hmg
 dsimp only
 rw [hsz]
 generalize hh2 : h'.push { cls:=.type "list_iterator",data:=_ } = h2
 have hk2 : ∀ b o,h'.get? b = some o→h2.get? b = some o:=fun b o e=>hh2▸Heap.get?_push_of_some _ e
 have go2 : GO env I s { s with heap:=h2,toks:=s.toks + 1 }:=⟨rfl,rfl,fun b o h1 h3 e=>hk2 b o (g1.keep b o h1 h3 e),fun ps t=>(g1.tab ps t).keeps hk2,fun b hb q=>(g1.al b hb q).keeps fun o=>hk2 b o⟩
 have gi : GI hT env lst I its 0 none { s with heap:=h2,toks:=s.toks + 1 }:=by
  refine ⟨g2.trans (.of_all hk2),⟨_,hm'.at' fun o=>hk2 _ o,.none,by simp,rfl⟩,?_,items,(q1.extBut hsb.extBut x.nlL).at fun o=>hk2 _ o,q2,q3⟩
  rw [← hh2,← hsz]
  exact ⟨_,Heap.get?_push_size _ rfl,rfl,rfl⟩
 exact gi_turn T hC G hA N 0 none s _ hN (Nat.le_refl _) (Nat.zero_le _) gi go2 (fun j=>by rw [Nat.sub_self,Nat.zero_add,hf,List.drop_zero]) (by rw [List.drop_zero]; exact hok)
end
section
variable {prog : Program} {w : World} {hT : Heap} {c : FC} {own own' own'' : Nat→Option Addr} {σ σ' : List CV} {s s' s'' : Shared} {mg mb : Str→Option Value}
theorem SR.pull {X X' Z : Addr→Prop} (x : SR hT (c.x X) own σ s) (hXt : X' tabA) (hX : ∀ a,X' a→X a∨s.heap.get? a = none) (hZ : ∀ z,Z z→(X z∧Off c own z)∨s.heap.get? z = none) (hP : ∀ z,Z z→¬ c.P z)
  (keep : ∀ b o,¬ Z b→s.heap.get? b = some o→s'.heap.get? b = some o) (tab : ∀ ps,TabOk s.heap ps→TabOk s'.heap ps) (os : s'.os = s.os) (gb : GB c.s0 s') (nf : ∀ z,X' z→z ≠ tabA→(Z z∨s.heap.get? z = none)→NF s'.heap z) : SR hT (c.x X') own σ s':=by
 have off : ∀ z,Z z→Off c own z:=fun z h=>by
  rcases hZ z h with q | q
  ·exact q.2
  ·have o:=x.offNew q
   exact ⟨o.nl,o.nc,o.no,o.nt,o.nd,o.n0⟩
 have hpT : ∀ z,Z z→hT.get? z = none:=fun z h=>by
  cases e : hT.get? z with
  | none=>rfl
  | some ob=>have:=(off z h).n0; rw [x.top0.keep z ob (off z h).nt e] at this; cases this
 have mv : ∀ b o,¬ FF (c.x X) own b→s.heap.get? b = some o→¬ FF (c.x X') own b∧s'.heap.get? b = some o:=fun b o hf e=>by
  refine ⟨fun f=>?_,keep b o (fun q=>?_) e⟩
  ·rcases f with f | f
   ·rcases hX b f with q | q
    ·exact hf (.inl q)
    ·rw [e] at q; cases q
   ·exact hf (.inr f)
  ·rcases hZ b q with r | r
   ·exact hf (.inl r.1)
   ·rw [e] at r; cases r
 have ho : ∀ i l,own i = some l→∀ o,s.heap.get? l = some o→s'.heap.get? l = some o:=fun i l e o=>keep l o fun q=>(off l q).no i l e rfl
 have str : ∀ (i : Nat) (cv : CV) (ov : Option Value),SV (c.x X) own s.heap i cv ov→SV (c.x X') own s'.heap i cv ov:=fun i cv ov sv=>SV.strX (c:=c.x X) (X:=X') mv (ho i) sv
 refine ⟨⟨fun b o hb e=>keep b o (fun q=>by rw [hpT b q] at e; cases e) (x.top.keep b o hb e),fun ps t=>?_⟩,x.top0,x.pt,fun a h=>⟨(x.pa a h).1,?_⟩,os.trans x.os,gb,fun b o hp hb e=>keep b o (fun q=>by have:=(off b q).n0; rw [this] at e; cases e) (x.kp b o hp hb e),fun ps t=>?_,?_,hXt,fun a h hta=>?_,x.lf,?_,fun i y hy=>?_,x.cinj,x.oinj,fun i a e=>?_,fun i a e=>?_⟩
 ·obtain ⟨m,t'⟩:=x.top.tab ps t; exact ⟨m,tab _ t'⟩
 ·obtain ⟨o,e⟩:=(x.pa a h).2; exact ⟨o,keep a o (fun q=>hP a q h) e⟩
 ·obtain ⟨m,t'⟩:=x.tab ps t; exact ⟨m,tab _ t'⟩
 ·obtain ⟨ps,t⟩:=x.tok; exact ⟨ps,tab _ t⟩
 ·by_cases hz : Z a
  ·exact nf a h hta (.inl hz)
  ·rcases hX a h with q | q
   ·exact (x.xa a q hta).keeps fun o=>keep a o hz
   ·exact nf a h hta (.inr q)
 ·obtain ⟨m,h1,h2⟩:=x.ns
  exact ⟨m,h1.at' fun o=>keep _ o fun q=>(off _ q).nl rfl,fun i y hy=>str i _ _ (h2 i y hy)⟩
 ·refine bc fun hG=>?_
  obtain ⟨b,ov,h1,h2,h3,h4⟩:=x.cel i y hy
  obtain ⟨o,ho',hd⟩:=h2
  refine hG ?_
  clear hG
  exact ⟨b,ov,h1,⟨o,keep b o (fun q=>(off b q).nc i y b hy h1 rfl) ho',hd⟩,str i _ _ h3,h4⟩
 ·rcases x.ofr i a e with q | q
  ·refine .inl ⟨q.1,fun q'=>?_⟩
   rcases hX a q' with r | r
   ·exact q.2 r
   ·obtain ⟨items,n,hl⟩:=x.oal i a e
    rw [show s.heap.get? a = _ from hl] at r; cases r
  ·exact .inr q
 ·obtain ⟨items,n,hl⟩:=x.oal i a e
  exact ⟨items,n,ho i a e _ hl⟩
theorem Ss.thenZ {Z : Addr→Prop} (k : Ss c own s s') (hZ : ∀ z,Z z→s.heap.get? z = none) (keep : ∀ b o,¬ Z b→s'.heap.get? b = some o→s''.heap.get? b = some o) (tab : ∀ ps,TabOk s'.heap ps→TabOk s''.heap ps) (os : s''.os = s'.os) (gk : GK s s'') : Ss c own s s'' where
 os:=os.trans k.os
 gens:=gk
 keep:=fun b o hm ht e=>keep b o (fun q=>by rw [hZ b q] at e; cases e) (k.keep b o hm ht e)
 tab:=fun ps t=>by obtain ⟨m,t⟩:=k.tab ps t; exact ⟨m,tab _ t⟩
 al:=fun b ht ⟨o,e⟩=>by
  obtain ⟨o',e'⟩:=k.al b ht ⟨o,e⟩
  exact ⟨o',keep b o' (fun q=>by rw [hZ b q] at e; cases e) e'⟩
theorem setGen_k {s : Shared} {g : Nat} {x y : GenState} {i : Nat} (h : i ≠ g) (e : s.gens[i]? = some y) : (s.setGen g x).gens[i]? = some y:=by
 show (s.gens.setIfInBounds g x)[i]? = some y
 rw [Array.getElem?_setIfInBounds_ne (Ne.symm h)]; exact e
theorem setGen_b {s : Shared} {g : Nat} {x : GenState} (h : ∀ i y,i ≠ g→s.gens[i]? = some y→y.bare = true) (hx : x.bare = true) : AllBare (s.setGen g x).gens:=by
 intro y hy
 obtain ⟨i,hi⟩:=Array.mem_iff_getElem?.mp hy
 have hi : (s.gens.setIfInBounds g x)[i]? = some y:=hi
 by_cases hg : i = g
 ·subst hg
  rw [Array.getElem?_setIfInBounds] at hi
  rw [if_pos rfl] at hi
  replace hi:=ite_opt hi
  obtain ⟨_,hi⟩:=hi
  ·cases hi; exact hx
 ·rw [Array.getElem?_setIfInBounds_ne (Ne.symm hg)] at hi
  exact h i y hg hi
noncomputable def forGM (i : Nat) (mb : CM) (f : Nat→Option Int) : Nat→Nat→CM
 | 0,_,_=>none
 | n + 1,j,σ=>match f j with
  | none=>some (.next,σ)
  | some k=>(stF i (.int k) σ).bind (loopM mb (forGM i mb f n (j + 1)))
noncomputable def forGS (i : Nat) (N : Nat) (ms : List CV→Option (List CV)) (mb : CM) : CM:=fun σ=>(ms σ).bind (on1 (asL fun vs=>(ints? vs).bind fun its=>if giOk none its = true then forGM i mb (giOut none its) N 0 σ else none))
end
section
variable {prog : Program} {w : World} {hT : Heap} {c : FC} {own own' own'' : Nat→Option Addr} {σ σ' : List CV} {s s' s'' : Shared} {mg mb : Str→Option Value}
structure GI1 (prog : Program) (w : World) (hT : Heap) (c : FC) (own : Nat→Option Addr) (σ : List CV) (s₂ : Shared) (env : Env) (lst a : Addr) (g N : Nat) (f : Nat→Option Int) (i : Nat) (mb : CM) (res : CF × List CV) (own1 : Nat→Option Addr) (σ1 : List CV) (X1 : Addr→Prop) (I : Addr) (gs : GenState) (j n : Nat) (s : Shared) : Prop where
 hj : n + j = N
 x5 : SR hT (c.x X1) own1 σ1 s
 hXc : ∀ z,c.X z→X1 z
 hXL : X1 env.locals
 hXI : X1 I∨s.heap.get? I = none
 hI2 : s₂.heap.get? I = none
 offL : Off c own1 env.locals
 offI : Off c own1 I
 offA : Off c own1 a
 k5 : Ss c own s₂ s
 l5 : OwnLe own own1 s₂.heap
 p5 : OwnKp own own1 σ σ1
 mlst : ¬ Mut c own1 lst
 isg : s.heap.IsGen a g
 hgs : s.gens[g]? = some gs
 goes : 0 < n→gs.Goes (model prog w) c.A.in1 (giR f N env I) (giY hT f N env lst I) n (.send .none) (s.setGen g .running)
 hfm : forGM i mb f n j σ1 = some res
 hIa : I ≠ a
 hIl : I ≠ lst
noncomputable def GInv (prog : Program) (w : World) (hT : Heap) (c : FC) (own : Nat→Option Addr) (σ : List CV) (s₂ : Shared) (env : Env) (lst a : Addr) (g N : Nat) (f : Nat→Option Int) (i : Nat) (mb : CM) (res : CF × List CV) (n : Nat) (s : Shared) : Prop :=
 ∃ (own1 : Nat→Option Addr) (σ1 : List CV) (X1 : Addr→Prop) (I : Addr) (gs : GenState) (j : Nat),GI1 prog w hT c own σ s₂ env lst a g N f i mb res own1 σ1 X1 I gs j n s
theorem Al.no {h : Heap} {z : Addr} (a : Al h z) (e : h.get? z = none) : False:=by obtain ⟨o,q⟩:=a; rw [e] at q; cases q
theorem Al.keep {h h' : Heap} {z : Addr} (a : Al h z) (k : ∀ o,h.get? z = some o→h'.get? z = some o) : Al h' z:=by obtain ⟨o,q⟩:=a; exact ⟨o,k o q⟩
theorem nf_al {h : Heap} {z : Addr} (n : NF h z) : Al h z:=by obtain ⟨o,q,_⟩:=n; exact ⟨o,q⟩
theorem Off.subG {I : Addr} (o : Off c own I) (h : ∀ i l,own' i = some l→(∃ j,own j = some l)∨l ≠ I) : Off c own' I :=
 ⟨o.nl,o.nc,fun i l e=>(h i l e).elim (fun ⟨j,q⟩=>o.no j l q) id,o.nt,o.nd,o.n0⟩
theorem gen_turn {y : Str} {px : Pos} {body : List Stmt} {i : Nat} {mb' : CM} (W : Wf c) (hn : AtSlot c i y) (hpx : ∀ a,c.P a→¬ c.X a) (hb : ∀ X,(∀ a,c.P a→¬ X a)→Rss prog w hT (c.x X) body mb')
  {own : Nat→Option Addr} {σ : List CV} {s₂ : Shared} {env : Env} {lst a : Addr} {g N : Nat} {f : Nat→Option Int} {res : CF × List CV} (x₂ : SR hT c own σ s₂) (hg : g = s₂.gens.size) (hLn : s₂.heap.get? env.locals = none) (hla : Al s₂.heap lst) (hlt : lst ≠ tabA) (hat : a ≠ tabA) (han : s₂.heap.get? a = none)
  (n : Nat) (s : Shared) (inv : GInv prog w hT c own σ s₂ env lst a g N f i mb' res n s) (hl : s.heap.NoLimit) (hLa : env.locals ≠ a) :
  wpAny (model prog w) c.A (pyNext (.ref a)) (fun r s₁=>match r with
   | none=>SOut hT c own σ s₂ res.1 res.2 .next s₁
   | some v=>wpAny (model prog w) c.A (assign (.Name y px) c.env v) (fun J s₂'=>wpAny (model prog w) c.A (execs body c.env) (fun fl s₃=>match fl with
     | .next | .cont=>∃ m,m < n∧GInv prog w hT c own σ s₂ env lst a g N f i mb' res m s₃
     | .brk=>SOut hT c own σ s₂ res.1 res.2 .next s₃
     | .ret v=>SOut hT c own σ s₂ res.1 res.2 (.ret v) s₃) noE s₂') noE s₁) noE s:=by
 cases n with
 | zero =>
  refine bc fun hG=>?_
  obtain ⟨own1,σ1,X1,I,gs,j,q⟩:=inv
  exact none_ne q.hfm
 | succ m =>
 refine bc fun hG=>?_
 obtain ⟨own1,σ1,X1,I,gs,j,hj,x5,hXc,hXL,hXI,hI2,offL,offI,offA,k5,l5,p5,mlst,isg,hgs,goes,hfm,hIa,hIl⟩:=inv
 refine hG ?_
 clear hG
 replace goes:=goes (Nat.succ_pos m)
 have hZ2 : ∀ z,(z = env.locals∨z = I)→s₂.heap.get? z = none:=fun z hz=>hz.elim (fun q=>q▸hLn) (fun q=>q▸hI2)
 have hPZ : ∀ z,(z = env.locals∨z = I)→¬ c.P z:=fun z hz hp=>(x₂.pa z hp).2.no (hZ2 z hz)
 have hZ : ∀ z,(z = env.locals∨z = I)→(X1 z∧Off c own1 z)∨s.heap.get? z = none:=fun z hz=>hz.elim (fun q=>.inl (q▸⟨hXL,offL⟩)) fun q=>q▸hXI.imp (fun q=>⟨q,offI⟩) id
 have s0g : ∀ (i : Nat) (z : GenState),c.s0.gens[i]? = some z→i ≠ g:=fun i z e q=>by
  have:=x₂.gens.k i z e
  rw [q,hg] at this
  simp at this
 have s2g : ∀ (i : Nat) (z : GenState),s₂.gens[i]? = some z→i ≠ g:=fun i z e q=>by
  rw [q,hg] at e
  simp at e
 have gensOf : ∀ (s₁ : Shared) (gs' : GenState),s₁.gens = (s.setGen g .running).gens→gs'.bare = true→AllBare (s₁.setGen g gs').gens∧(∀ (i : Nat) (z : GenState),i ≠ g→s.gens[i]? = some z→(s₁.setGen g gs').gens[i]? = some z)∧(s₁.setGen g gs').gens[g]? = some gs':=by
  intro s₁ gs' e hb'
  refine ⟨setGen_b (fun i z hi q=>?_) hb',fun i z hi q=>setGen_k hi (by rw [e]; exact setGen_k hi q),?_⟩
  ·rw [e] at q
   have q : (s.gens.setIfInBounds g .running)[i]? = some z:=q
   rw [Array.getElem?_setIfInBounds_ne (Ne.symm hi)] at q
   exact x5.gens.b z (Array.mem_of_getElem? q)
  ·refine setGen_self (gs:=.running) ?_
   rw [e]
   exact setGen_self hgs
 refine pyNext_gen (n:=m + 1) W.aok.hd hl W.aok.lim isg hgs goes (fun v s₁ gs' hbare hy=>?_) fun s₁ hp h' hk'=>?_
 ·refine bc fun hG=>?_
  obtain ⟨⟨k,t,rfl,hk⟩,⟨go,nfL,nfI,topK⟩,cont⟩:=hy
  refine hG ?_
  clear hG
  have hk : f j = some k:=by rw [show N - 1 - (m + 1 - 1) = j from by rw [← hj,Nat.add_sub_cancel,Nat.sub_sub,Nat.add_comm 1,Nat.add_sub_cancel_left]] at hk; exact hk
  refine bc fun hG=>?_
  obtain ⟨gb1,gb2,gb3⟩:=gensOf s₁ gs' go.gens hbare
  refine hG ?_
  clear hG
  have x3 : SR hT (c.x fun z=>c.X z∨z = env.locals∨z = I) own1 σ1 (s₁.setGen g gs'):=by
   refine x5.pull (Z:=fun z=>z = env.locals∨z = I) (.inl x₂.xt) (fun z hz=>?_) hZ hPZ (fun b o hb e=>go.keep b o (fun q=>hb (.inl q)) (fun q=>hb (.inr q)) e) go.tab go.os ⟨gb1,fun i z e=>gb2 i z (s0g i z e) (x5.gens.k i z e)⟩ fun z hz hzt q=>?_
   ·exact hz.elim (fun q=>.inl (hXc z q)) fun q=>(hZ z q).imp (fun q=>q.1) id
   ·have two : (z = env.locals∨z = I)→NF (s₁.setGen g gs').heap z:=fun q=>q.elim (fun q=>q▸nfL) fun q=>q▸nfI
    rcases q with q | q
    ·exact two q
    ·exact hz.elim (fun r=>((nf_al (x5.xa z (hXc z r) hzt)).no q).elim) two
  have k3 : Ss c own s₂ (s₁.setGen g gs'):=k5.thenZ (Z:=fun z=>z = env.locals∨z = I) hZ2 (fun b o hb e=>go.keep b o (fun q=>hb (.inl q)) (fun q=>hb (.inr q)) e) go.tab go.os ⟨fun J=>gb1,fun i z e=>gb2 i z (s2g i z e) (k5.gens.k i z e)⟩
  rw [forGM,hk] at hfm
  refine bc fun hG=>?_
  refine oE hfm fun σ3 e4 e3=>?_
  replace e3:=oB e3
  obtain ⟨⟨f5,σ5⟩,e5,e3⟩:=e3
  refine hG ?_
  clear hG
  refine wpAny_assign_Name (wp_f (wp_storeF (W.x _) x3 hn (VR.int k t) e4) fun J s4 h4=>?_)
  refine bc fun hG=>?_
  obtain ⟨x4,k4,l4,p4⟩:=h4
  refine hG ?_
  clear hG
  refine wp_f (hb (fun z=>c.X z∨z = env.locals∨z = I) (fun z ha q=>by
   rcases q with q | q
   ·exact hpx z ha q
   ·exact hPZ z q ha) _ σ3 s4 f5 σ5 x4 e5) fun fl s6 yy=>?_
  obtain ⟨own6,x6,k6,l6,p6,r6⟩:=yy
  have k46 : Ss c own1 (s₁.setGen g gs') s6:=k4.of_no.x.trans (own':=dropO c own1 i) l4 k6.x
  have l46 : OwnLe own1 own6 (s₁.setGen g gs').heap:=l4.trans x4 k4.of_no l6
  have K : Ss c own s₂ s6:=k3.trans l5 k46
  have LL : OwnLe own own6 s₂.heap:=l5.trans (s':=s₁.setGen g gs') x3 k3.toX l46
  have Pp:=p5.trans (p4.trans p6)
  have alv : ∀ b,Al s₁.heap b→∀ i,own6 i = some b→∃ j,own1 j = some b:=fun b ⟨o,ho⟩ i e=>by
   rcases l46 i b e with q | q
   ·exact q
   ·rw [show (s₁.setGen g gs').heap.get? b = s₁.heap.get? b from rfl,ho] at q; cases q
  have offUp : ∀ b,Al s₁.heap b→Off c own1 b→Off c own6 b:=fun b ha o=>o.subG fun i l e=>by
   by_cases hlb : l = b
   ·subst hlb; exact .inl (alv l ha i e)
   ·exact .inr hlb
  have aL : Al s₁.heap env.locals:=nf_al nfL
  have aI : Al s₁.heap I:=nf_al nfI
  have hlL : lst ≠ env.locals:=fun q=>(q▸hla : Al _ env.locals).no hLn
  have alst : Al s₁.heap lst:=(k5.al lst hlt hla).keep fun o e=>go.keep lst o hlL (Ne.symm hIl) e
  have ga : ∀ o,s.heap.get? a = some o→s₁.heap.get? a = some o:=fun o e=>go.keep a o (Ne.symm hLa) (Ne.symm hIa) e
  have aa : Al s₁.heap a:=by obtain ⟨o,_,_,e,_⟩:=isg; exact ⟨o,ga o e⟩
  have nm : ∀ b,Off c own1 b→¬ Mut c own1 b:=fun b o q=>by
   rcases q with q | ⟨jj,u,q1,_,q3⟩ | ⟨jj,q⟩
   ·exact o.nl q
   ·exact o.nc jj u b q1 q3 rfl
   ·exact o.no jj b q rfl
  refine SOut.turn (X:=fun z=>c.X z∨z = env.locals∨z = I) (fun J q=>.inl q) x₂.xt x6 K LL Pp r6 e3 fun e3=>⟨m,Nat.lt_succ_self m,own6,σ5,_,I,gs',j + 1,by rw [← hj,Nat.succ_add_eq_add_succ],x6,fun z q=>.inl q,.inr (.inl rfl),.inl (.inr (.inr rfl)),hI2,offUp _ aL offL,offUp _ aI offI,offUp _ aa offA,K,LL,Pp,fun q=>?_,?_,?_,fun h0=>?_,e3,hIa,hIl⟩
  ·rcases q with q | q | ⟨jj,q⟩
   ·exact mlst (.inl q)
   ·exact mlst (.inr (.inl q))
   ·exact mlst (.inr (.inr (alv lst alst jj q)))
  ·obtain ⟨o,nmm,qn,e,r⟩:=isg
   exact ⟨o,nmm,qn,k46.keep a o (nm a offA) hat (ga o e),r⟩
  ·exact k46.gens.k g gs' gb3
  ·refine cont h0 _ ⟨x6.top,fun b hb o e=>?_⟩
   rcases hb with rfl | rfl | rfl
   ·exact k46.keep _ o (nm _ offL) offL.nt e
   ·exact k46.keep _ o (nm _ offI) offI.nt e
   ·exact k46.keep _ o mlst hlt e
 ·refine bc fun hG=>?_
  obtain ⟨hf0,ge⟩:=hp
  have hf0 : f j = none:=by rw [← hj,Nat.add_sub_cancel_left] at hf0; exact hf0
  obtain ⟨gb1,gb2,_⟩:=gensOf s₁ .finished ge.gens rfl
  refine hG ?_
  clear hG
  rw [forGM,hf0] at hfm
  have kp2 : ∀ b o,¬ (b = env.locals∨b = I)→s.heap.get? b = some o→h'.get? b = some o:=fun b o hb e=>hk' b o (ge.keep b o (fun q=>hb (.inl q)) (fun q=>hb (.inr q)) e)
  refine SOut.done (X:=c.X) (fun J q=>q) x₂.xt ?_ (k5.thenZ (Z:=fun z=>z = env.locals∨z = I) hZ2 kp2 (fun ps t=>(ge.tab ps t).keeps hk') ge.os ⟨fun J=>gb1,fun i z e=>gb2 i z (s2g i z e) (k5.gens.k i z e)⟩) l5 p5 hfm
  refine x5.pull (X':=c.X) (Z:=fun z=>z = env.locals∨z = I) x₂.xt (fun z hz=>.inl (hXc z hz)) hZ hPZ kp2 (fun ps t=>(ge.tab ps t).keeps hk') ge.os ⟨gb1,fun i z e=>gb2 i z (s0g i z e) (x5.gens.k i z e)⟩ fun z hz hzt q=>?_
  rcases q with q | q
  ·exact ((nf_al (x₂.xa z hz hzt)).no (hZ2 z q)).elim
  ·exact ((nf_al (x5.xa z (hXc z hz) hzt)).no q).elim
end
section
variable {prog : Program} {w : World} {hT : Heap} {c : FC} {own own' own'' : Nat→Option Addr} {σ σ' : List CV} {s s' s'' : Shared} {mg mb : Str→Option Value}
theorem gi_bind {fd : FuncData} {v : Value} (h1 : fd.params = sArgs (topStmt 11)) (h2 : fd.defaults = .none) (h3 : fd.kwdefaults = .none) : bindArgs fd ⟨[v],[]⟩ = pure [(("grouping" : Str),v)]:=by
 cases fd; simp only at h1 h2 h3; subst h1 h2 h3
 rfl
theorem Rs.forG (T : Tops prog hT mg mb) (W : Wf c) {y : Str} {px pos fpos cpos : Pos} {e : PySem.Expr} {body : List Stmt} {i N : Nat} {ms : List CV→Option (List CV)} {mb' : CM} (hN : 0 < N) (hn : AtSlot c i y) (hf : Rf prog w hT c (.Name "_grouping_intervals" fpos) (fun J=>some (.ref 95))) (hs : Rfs prog w hT c [e] ms)
  (hpx : ∀ a,c.P a→¬ c.X a) (hb : ∀ X,(∀ a,c.P a→¬ X a)→Rss prog w hT (c.x X) body mb')
  (he : ∀ env,starEach [e] env = [(false,eval e env)]:=by intro _; rfl) (hfi : ∀ x,foldedSetIterable (.Call (.Name "_grouping_intervals" fpos) [e] [] cpos) c.env x = pure x:=by intro _; rfl) :
  Rs prog w hT c (.For (.Name y px) (.Call (.Name "_grouping_intervals" fpos) [e] [] cpos) body [] pos) (forGS i N ms mb'):=fun own σ s f σ' x e'=>by
 refine bc fun hG=>?_
 revert e'
 refine oR fun cvs e1 q=>?_
 obtain ⟨_,rfl,q3⟩:=on1_inv q
 obtain ⟨vs,rfl,q4⟩:=asL_inv q3
 refine oE q4 fun its e2 e8=>?_
 clear q3 q4
 refine hG ?_
 clear hG
 clear q
 replace e8:=ite_opt e8
 obtain ⟨hok,e8⟩:=e8
 ·obtain rfl:=ints_eq e2
  clear e2
  refine wpAny_For (wpAny_Call_Name_kw (wp_w (hf own σ s _ x rfl) fun fv s₁ h₁=>?_)) hfi
  have hfv:=h₁.2
  obtain rfl:=VR.ref_inv hfv
  have x₁:=x.ex h₁.1
  refine bc fun hG=>?_
  obtain ⟨o,fd,ho,hcls,hdata,hpar,hbody,hscope,hglob,hbui,hclo,hdef,hkw,⟨cc,oc,vc,tc,hc1,hc2,hc3,hc4,hc5⟩,_⟩:=T.r95.ex
  refine hG ?_
  clear hG
  have hs':=hs cpos own σ s₁ _ x₁ e1
  show wpAny _ _ (callWith cpos (.ref 95) [] (backTo cpos (starEach [e] c.env)) []) _ _ _
  rw [he] at hs' ⊢
  refine callWith_function (o:=o) (fd:=fd) (evalArgs_plain (wp_w hs' fun us s₂ h₂=>?_))
  have x₂:=x₁.ex h₂.1
  have hat:=x₂.at
  refine ⟨⟨hat.top.keep _ _ (by decide) ho,hdata⟩,?_⟩
  refine bc fun hG=>?_
  obtain ⟨v,rfl,rv⟩:=args1 rfl h₂.2.1 h₂.2.2
  obtain ⟨lst,items,nn,rfl,hlf,hl,hz,hv⟩:=VR.list_inv rv
  refine hG ?_
  clear hG
  ·clear rv
   refine wpAny_call (codeAny_call_generator W.aok.lim (hat.top.keep _ _ (by decide) ho) hdata (by rw [hscope]; rfl) (by rw [hscope]; rfl) hbody ⟨cc,oc,vc,tc,hc1,hat.top.keep _ _ hc2 hc3,hc4,hc5⟩ ?_)
   have hbi:=gi_bind (v:=.ref lst) hpar hdef hkw
   rw [show bindArgs fd ({ pos:=[] ++ ({ pos:=[Value.ref lst] } : Args).pos } : Args) = _ from hbi,hclo]
   refine wpAny_pure (wpAny_newFunctionEnv (around:=none) (fun z hz=>?_) (fun z hz=>?_) (fun h' hns hsb=>?_) (by rw [hscope]; rfl))
   ·rw [hscope] at hz
    have : ∀ z∈(sScope (topStmt 11)).names,z.2 ≠ NameKind.cell:=by decide
    exact this z hz
   ·simp only [List.mem_cons,List.not_mem_nil,or_false] at hz
    subst hz
    rw [hscope]; rfl
   ·dsimp only at hns hsb ⊢
    generalize hLe : s₂.heap.objs.size = L at hns hsb
    have hLn : s₂.heap.get? L = none:=by
     cases e : s₂.heap.get? L with
     | none=>rfl
     | some o=>exact absurd (Heap.lt_size e) (by rw [hLe]; exact Nat.lt_irrefl _)
    have keep : ∀ b o,s₂.heap.get? b = some o→h'.get? b = some o:=fun b o e=>hsb.extBut b o (fun q=>by rw [q,hLn] at e; cases e) (Heap.get?_push_of_some _ e)
    have hsz : h'.objs.size = L + 1:=by rw [hsb.1,Heap.size_push,hLe]
    refine ⟨(hat.lim T.tf).keeps keep,?_⟩
    generalize henv : newEnv fd.scope L fd.globals [] (fd.qualname ++ ".<locals>.") (some 95) fd.code none fd.builtins = env
    have hel : env.locals = L:=by rw [← henv]; rfl
    generalize hge : h'.push { cls:=.type "generator",data:=.fields #[.int s₂.gens.size 0,.str fd.name _,.str fd.qualname _] } = h3
    have kg : ∀ b o,h'.get? b = some o→h3.get? b = some o:=fun b o e=>hge▸Heap.get?_push_of_some _ e
    have k3 : ∀ b o,s₂.heap.get? b = some o→h3.get? b = some o:=fun b o e=>kg b o (keep b o e)
    have sz3 : h3.objs.size = L + 1 + 1:=by rw [← hge,Heap.size_push,hsz]
    have isg : h3.IsGen h'.objs.size s₂.gens.size:=by
     rw [← hge]
     exact ⟨_,_,_,Heap.get?_push_size _ rfl,rfl,rfl,rfl⟩
    have hAn : s₂.heap.get? h'.objs.size = none:=by
     cases e : s₂.heap.get? h'.objs.size with
     | none=>rfl
     | some o=>exact absurd (Heap.lt_size e) (by rw [hLe,hsz]; exact Nat.not_lt.mpr (Nat.le_succ _))
    have hIn : s₂.heap.get? h3.objs.size = none:=by
     cases e : s₂.heap.get? h3.objs.size with
     | none=>rfl
     | some o=>exact absurd (Heap.lt_size e) (by rw [hLe,sz3]; exact Nat.not_lt.mpr (by lia))
    have hI3 : h3.get? h3.objs.size = none:=by
     cases e : h3.get? h3.objs.size with
     | none=>rfl
     | some o=>exact absurd (Heap.lt_size e) (Nat.lt_irrefl _)
    have ns3 : h3.Ns env.locals (fun z=>[(("grouping" : Str),Value.ref lst)].reverse.lookup z):=by rw [hel]; exact hns.at' fun o=>kg _ o
    show wpAny _ _ (pyIter (.ref h'.objs.size)) _ _ { heap:=h3,gens:=s₂.gens.push (.fresh (.func (sBody (topStmt 11)) env)),drawn:=s₂.drawn,toks:=_,os:=s₂.os }
    generalize hs3 : (⟨h3,s₂.gens.push (.fresh (.func (sBody (topStmt 11)) env)),s₂.drawn,_,s₂.os⟩ : Shared) = s3
    have e3 : s3.heap = h3:=by rw [← hs3]
    have ex : Ex s₂ s3:=by
     refine ⟨by rw [e3]; exact .of_all k3,by rw [← hs3],fun g=>?_,fun i z e=>?_⟩
     ·rw [← hs3]; exact AllBare.push g rfl
     ·rw [← hs3]
      show (s₂.gens.push _)[i]? = _
      rw [Array.getElem?_push]
      have : i < s₂.gens.size:=(Array.getElem?_eq_some_iff.mp e).1
      rw [if_neg (by exact Nat.ne_of_lt this)]; exact e
    have x3 : SR hT (c.addI L) own σ s3:=x₂.addI hLn (by rw [e3,← hel]; exact ns_nf ns3) ex
    have x3':=x₂.ex ex
    refine wpAny_pyIter_gen (a:=h'.objs.size) (g:=s₂.gens.size) (by rw [e3]; exact isg) ?_
    have hla : Al s₂.heap lst:=⟨_,hl⟩
    have hlt : lst ≠ tabA:=fun q=>hlf (q▸x₂.ft)
    have hat' : h'.objs.size ≠ tabA:=fun q=>by
     obtain ⟨ps,e⟩:=x₂.tobj
     rw [← q,hAn] at e; cases e
    have offL:=x₂.offNew hLn
    have offA:=x₂.offNew hAn
    have offI:=x₂.offNew hIn
    have fin : ∀ {f' σ'' fl s''},SOut hT c own σ s₂ f' σ'' fl s''→SOut hT c own σ s f' σ'' fl s'':=fun y=>SOut.trans x₂ (.of_ex (h₁.1.trans h₂.1)) (.refl _) .refl y
    have hgl : s3.gens[s₂.gens.size]? = some (.fresh (.func (sBody (topStmt 11)) env)):=by
     rw [← hs3]; exact Array.getElem?_push_size ..
    have inv0 : GInv prog w hT c own σ s₂ env lst h'.objs.size s₂.gens.size N (giOut none its) i mb' (f,σ') N s3:=by
     refine ⟨own,σ,fun z=>c.X z∨z = L,h3.objs.size,_,0,rfl,x3,fun z q=>.inl q,.inr hel,.inr (by rw [e3]; exact hI3),hIn,hel▸offL,offI,offA,.of_ex ex,.refl _,.refl,fun q=>hlf (.inr q),by rw [e3]; exact isg,hgl,fun J=>⟨rfl,?_⟩,e8,fun q=>?_,fun q=>?_⟩
     ·have g0 : G0 hT env lst its (s3.setGen s₂.gens.size .running):=by
       have hes : env.scope = sScope (topStmt 11):=by rw [← henv]; exact hscope
       refine ⟨x3.top,⟨_,(by show s3.heap.Ns _ _; rw [e3]; exact ns3),rfl⟩,⟨items,?_,?_,fun j k hk=>?_⟩,by rw [hes]; rfl,by rw [hes]; rfl,by show env.scope.names.lookup _ = _; rw [hes]; rfl,by show env.scope.names.lookup _ = _; rw [hes]; rfl,by show env.scope.names.lookup _ = _; rw [hes]; rfl,by show env.scope.names.lookup _ = _; rw [hes]; rfl,by rw [← henv]; exact hglob,?_,fun q=>?_⟩
       ·show s3.heap.IsList lst items
        rw [e3]
        exact hl.isList.at fun o=>k3 _ o
       ·have:=hv.length
        simp only [List.length_map,Array.length_toList] at this
        exact this.symm
       ·have hk' : (il its)[j]? = some (.int k):=by rw [List.getElem?_map,hk]; rfl
        refine bc fun hG=>?_
        obtain ⟨v,q1,q2⟩:=hv.get hk'
        refine hG ?_
        clear hG
        cases q2
        exact ⟨_,by rw [← Array.getElem?_toList]; exact q1⟩
       ·rw [hel]
        cases e : hT.get? L with
        | none=>rfl
        | some o =>
         by_cases ht : L = tabA
         ·exact absurd ht offL.nt
         ·rw [hat.top.keep L o ht e] at hLn; cases hLn
       ·obtain ⟨o,e⟩:=hla; rw [q,hel,hLn] at e; cases e
      have:=gi_start (w:=w) (prog:=prog) (s:=s3.setGen s₂.gens.size .running) (A:=c.A.in1) (f:=giOut none its) (N:=N) T.tf T.gC W.aok.hd g0 hN (fun J=>rfl) hok fun b o e q=>by
       have q : b = s3.heap.objs.size:=q
       by_cases ht : b = tabA
       ·obtain ⟨ps,e'⟩:=x3'.tobj
        have:=Heap.lt_size e'
        rw [← ht,q] at this
        exact absurd this (Nat.lt_irrefl _)
       ·have:=Heap.lt_size (x3.top.keep b o ht e)
        rw [q] at this
        exact absurd this (Nat.lt_irrefl _)
      have hsz3 : (s3.setGen s₂.gens.size .running).heap.objs.size = h3.objs.size:=by show s3.heap.objs.size = _; rw [e3]
      rw [hsz3] at this
      exact this
     ·rw [sz3,hsz] at q; exact absurd q (Nat.succ_ne_self _)
     ·obtain ⟨o,e⟩:=hla; rw [← q,hIn] at e; cases e
    refine codeAny_forLoop (GInv prog w hT c own σ s₂ env lst h'.objs.size s₂.gens.size N (giOut none its) i mb' (f,σ')) (fun n s5 inv=>?_) N inv0
    have hl5 : s5.heap.NoLimit:=by
     obtain ⟨_,_,_,_,_,_,q⟩:=inv
     exact q.x5.lim T.tf
    refine wpAny_mono (gen_turn (px:=px) W hn hpx hb x₂ rfl (by rw [hel]; exact hLn) hla hlt hat' hAn n s5 inv hl5 (by rw [hel,hsz]; exact Nat.ne_of_lt (Nat.lt_succ_self L))) (fun r s6 q=>?_) fun J J q=>q.elim
    cases r with
    | none=>exact wpAny_execs_nil (fin q)
    | some v =>
     refine wpAny_mono q (fun J s7 q=>wpAny_mono q (fun fl s8 q=>?_) fun J J q=>q.elim) fun J J q=>q.elim
     cases fl <;> first | exact q | exact fin q
end
noncomputable def mkGo (f : Nat→Option Int) : Nat→Nat→Int→List Int→Option (List Int)
 | 0,_,_,_=>none
 | n + 1,j,pl,ms=>match f j with
  | none=>some ms
  | some k=>if 5 < pl + k then some (ms ++ [pl + k]) else mkGo f n (j + 1) (pl + k) (ms ++ [pl + k])
noncomputable def marksS : List CV→List CV→Option CV:=fun l J=>on1 (fun v0_=>asL (fun vs=>(ints? vs).bind fun its=>if giOk none its = true then (mkGo (giOut none its) 20 0 0 []).map fun ms=>.list (il ms) else none) v0_) l
theorem fg_goes {i N : Nat} {ms : List CV→Option (List CV)} {mb : CM} {σ : List CV} {its : List Int} {R : List CV→Prop} (h1 : ms σ = some [.list (il its)]) (hok : giOk none its = true) (h : Goes (forGM i mb (giOut none its) N 0 σ) R) : Goes (forGS i N ms mb σ) R:=by
 unfold forGS
 rw [h1]
 show Goes ((ints? (il its)).bind _) R
 rw [ints_il]
 show Goes (if giOk none its = true then _ else none) R
 rw [if_pos hok]; exact h
theorem ev_ite {mt : List CV→Option Bool} {σ : List CV} {b : Bool} (h : mt σ = some b) : seqM (ifM mt (seqM (fun σ=>some (.brk,σ)) fun σ=>some (.next,σ)) fun σ=>some (.next,σ)) (fun σ=>some (.next,σ)) σ = some (if b then .brk else .next,σ):=by
 unfold seqM ifM
 rw [h]
 cases b <;> rfl
theorem fg_turn {mb k : CM} {σ σ1 : List CV} {b : Bool} {R : List CV→Prop} (h : mb σ = some (if b then .brk else .next,σ1)) (h1 : b = false→Goes (k σ1) R) (h2 : b = true→R σ1) : Goes ((some σ).bind (loopM mb k)) R:=by
 show Goes (loopM mb k σ) R
 unfold loopM
 rw [h]
 cases b with
 | true=>exact .nil (h2 rfl)
 | false=>exact h1 rfl
theorem mk_goes {mb : CM} {its ms : List Int} {f : Nat→Option Int} (hmb : ∀ pl k acc,List.length acc≤100→mb [.list (il its),.mlist (il acc),.int pl,.int k,.unb] = some (if decide (5 < pl + k) then .brk else .next,[.list (il its),.mlist (il (acc ++ [pl + k])),.int (pl + k),.int k,.unb])) :
  ∀ (n j : Nat) (pl : Int) (acc : List Int) (sz : CV),isM sz = false→acc.length + n≤100→mkGo f n j pl acc = some ms→Goes (forGM 3 mb f n j [.list (il its),.mlist (il acc),.int pl,sz,.unb]) (fun σ=>∃ pl sz,σ = [.list (il its),.mlist (il ms),pl,sz,.unb]):=by
 intro n
 induction n with
 | zero =>
  intro _ _ _ _ _ _ e
  cases e
 | succ n mk_goes =>
  intro j pl acc sz hsz hlen e
  unfold mkGo at e
  unfold forGM
  cases hf : f j with
  | none =>
   rw [hf] at e
   cases e
   exact .nil ⟨_,_,rfl⟩
  | some k =>
   rw [hf] at e
   dsimp only at e ⊢
   rw [stF_ok (i:=3) (cv:=.int k) (σ:=[.list (il its),.mlist (il acc),.int pl,sz,.unb]) rfl (by exact place_lt rfl) hsz]
   refine fg_turn (hmb pl k acc (by exact Nat.le_of_add_right_le hlen)) (fun hb=>?_) fun hb=>?_
   ·rw [if_neg (of_decide_eq_false hb)] at e
    exact mk_goes (j + 1) _ _ _ rfl (by simp; lia) e
   ·rw [if_pos (of_decide_eq_true hb)] at e
    cases e
    exact ⟨_,_,rfl⟩
section
variable {prog : Program} {w : World} {hT : Heap} {mg mb : Str→Option Value}
theorem marks_fn (T : Tops prog hT mg mb) : Fn prog w hT 1 (.ref 328) [] marksS:=by
 refine Fn.plain (n:=1) T.tf T.r328 (by decide) ⟨rfl,by decide,rfl,rfl⟩ (fun A e X s0 P px W hA=>(Rss.cons (Rs.tupSw 5 W rfl (is:=[1,2]) (ys:=["marks","place"]) (Rg.ow (Rfr.lst Rfs.nil) (Rg.fro Rf.int Rg.nil)) rfl (at2 (.inl rfl) (.inl rfl)) rfl) (Rss.cons (Rs.forG T W (N:=20) (by decide) (i:=3) (.inl rfl) (Rf.glb T.tf W (i:=4) rfl T.g95 rfl) (Rfs.cons (Rf.loc W (i:=0) rfl) Rfs.nil) px fun Z1 p1=>(Rss.cons (Rs.augN (W.x Z1) (i:=2) rfl (Rf.loc (W.x Z1) (i:=3) rfl)) (Rss.cons (Rs.app (W.x Z1) (i:=1) (.inl rfl) (Rf.loc (W.x Z1) (i:=1) rfl) (Rf.loc (W.x Z1) (i:=2) rfl)) (Rss.cons (Rs.ifS (Rt.com (W.x Z1) (Rf.loc (W.x Z1) (i:=2) rfl) Rf.int) (Rss.cons Rs.brk Rss.nil) Rss.nil) Rss.nil)))) (Rss.cons (Rs.ret (Rf.loc W (i:=1) rfl) px) Rss.nil)))) ?_ (by decide) (by decide) ?_
 ·intro fd vals h1 h2 h3 hl
  cases fd; simp only at h1 h2 h3; subst h1 h2 h3
  exact bind1 hl fun J=>rfl
 ·intro cvs kcvs r h
  replace h:=on1_inv h
  refine bc fun hG=>?_
  obtain ⟨_,rfl,h⟩:=h
  replace h:=asL_inv h
  obtain ⟨vs,rfl,h⟩:=h
  revert h
  refine oR fun its h1 h=>?_
  refine hG ?_
  clear hG
  replace h:=ite_opt h
  obtain ⟨hok,h⟩:=h
  ·refine bc fun hG=>?_
   refine mE h fun ms h2 h3=>?_
   refine hG ?_
   clear hG
   subst h3
   have:=ints_eq h1
   subst this
   refine ⟨rfl,?_⟩
   show Ends (seqM _ (seqM _ (seqM _ _)) [.list (il its),.unb,.unb,.unb,.unb]) _
   refine .step (σ1:=[.list (il its),.mlist [],.int 0,.unb,.unb]) (ev_tupR (is:=[]) (cvs:=[.mlist [],.int 0]) rfl (by exact List.getElem?_eq_none_iff.mp rfl) rfl (by decide) rfl) ?_
   refine .seq (R:=fun σ=>∃ pl sz,σ = [.list (il its),.mlist (il ms),pl,sz,.unb]) ?_ ?_
   ·refine fg_goes (its:=its) rfl hok ?_
    refine mk_goes (fun pl k acc hl=>?_) 20 0 0 [] .unb rfl (by exact Nat.le_of_ble_eq_true rfl) h2
    refine ev_seq (σ1:=[.list (il its),.mlist (il acc),.int (pl + k),.int k,.unb]) (ev_augN (v:=.int k) (r:=.int (pl + k)) rfl rfl rfl) (ev_seq (σ1:=[.list (il its),.mlist (il (acc ++ [pl + k])),.int (pl + k),.int k,.unb]) ?_ (ev_ite (b:=decide (5 < pl + k)) rfl))
    refine (ev_app (i:=1) (σ:=[.list (il its),.mlist (il acc),.int (pl + k),.int k,.unb]) (cv:=.int (pl + k)) (vs:=il acc) rfl rfl rfl (by rw [List.length_map]; exact Nat.lt_of_le_of_lt hl (by decide))).trans ?_
    rw [il_app]; rfl
   ·rintro σ ⟨pl,sz,rfl⟩
    exact .retM (a:=.own 1) rfl rfl
end
open PySem.Builtin PySem.Builtin.Re
theorem plainAttrs_pat : PlainAttrs "re.Pattern" :=
 ⟨⟨"object.__getattribute__",by rw [typeLookup_type,builtinLookup_eq_fast]; kernel_rfl,by decide +kernel⟩,by rw [typeLookup_type,builtinLookup_eq_fast]; kernel_rfl⟩
theorem slot_pat_search : Slot "re.Pattern" "search" "re.Pattern.search" :=
 .of (owner:="re.Pattern") (n:="search") (by rw [typeLookup_type,builtinLookup_eq_fast]; kernel_rfl) (by decide +kernel) (by decide +kernel) (by decide +kernel)
  (by first | exact .inl (by decide +kernel) | exact .inr (by decide +kernel)) (by rw [isSubtype_type]; kernel_rfl)
theorem type_pat_search : typeOf (.builtin "re.Pattern.search") = pure (.type "method_descriptor"):=by show builtinType _ = _; rw [builtinType_eq_fast]; kernel_rfl
theorem entry_pat_search : entryFor table "re.Pattern.search" = some Builtin.«re.Pattern.search»:=entryFor_of_tree (by kernel_rfl)
theorem args_pat_search (a b : Value) : argsOk "re.Pattern.search" ⟨[a,b],[]⟩:=by
 unfold argsOk; kernel_rfl
noncomputable def driveP : Nat→Sre.M→Option Sre.M
 | 0,_=>none
 | n + 1,m=>let m:=m.runFor reTurnSteps; if m.outcome.isSome then some m else driveP n m
section
variable {M : Model} {A : Around} {E : Value→Shared→Prop} {s : Shared}
theorem wp_drive {Q : Sre.M→Shared→Prop} (k : Nat) : ∀ (turns : Nat) (m m' : Sre.M),k≤turns→driveP k m = some m'→Q m' s→wpAny M A (reDrive turns m) Q E s:=by
 induction k with
 | zero=>intro _ _ _ _ h _; exact nomatch h
 | succ k ih =>
  intro turns m m' hk h hq
  cases turns with
  | zero=>exact absurd hk (Nat.not_add_one_le_zero k)
  | succ turns =>
   show wpAny M A (if (m.runFor reTurnSteps).outcome.isSome = true then pure (m.runFor reTurnSteps) else do rule "sre.turn"; reDrive turns (m.runFor reTurnSteps)) Q E s
   replace h : (if (m.runFor reTurnSteps).outcome.isSome = true then some (m.runFor reTurnSteps) else driveP k (m.runFor reTurnSteps)) = some m':=h
   by_cases hs : (m.runFor reTurnSteps).outcome.isSome = true
   ·rw [if_pos hs] at h ⊢
    cases h
    exact wpAny_pure hq
   ·rw [if_neg hs] at h ⊢
    exact wpAny_bind (wpAny_rule (ih turns _ m' (Nat.le_of_lt_succ hk) h hq))
noncomputable def failP (m : Sre.M) : Bool:=match driveP 40 m with
 | some m'=>(match m'.outcome with | some .failed=>true | _=>false)
 | none=>false
theorem wp_toEnd {m : Sre.M} {Q : Option Sre.M→Shared→Prop} (h : failP m = true) (hq : Q none s) : wpAny M A (reRunToEnd m) Q E s:=by
 unfold failP at h
 cases hd : driveP 40 m with
 | none=>rw [hd] at h; cases h
 | some m' =>
  rw [hd] at h
  dsimp only at h
  unfold reRunToEnd
  refine wpAny_bind (wp_drive 40 (2 ^ 64) m m' (by decide) hd ?_)
  refine wpAny_bind (wpAny_forIn_list _ (fun J J s'=>s' = s) _ ?_ ?_ _ _ rfl)
  ·intro i rest _ s' e
   subst e
   split
   ·exact wpAny_bind (wpAny_rule (wpAny_pure rfl))
   ·exact wpAny_pure rfl
  ·intro _ s' e
   subst e
   cases ho : m'.outcome with
   | none=>rw [ho] at h; cases h
   | some o =>
    rw [ho] at h
    cases o <;> first | (cases h; done) | exact wpAny_pure hq
end
open PySem.Builtin PySem.Builtin.Re
noncomputable def lets : List Str:=["a","b","c","d","e","f","A","B","C","D","E","F"]
theorem name_fail : (lets.all fun x=>failP (Sre.forSearch nameCode x.cps 0 0 x.cps.size false)) = true:=by decide +kernel
theorem val_fail : (W6.all fun x=>failP (Sre.forSearch valCode x.cps 0 0 x.cps.size false)) = true:=by decide +kernel
structure PatAt (h : Heap) (a : Addr) (code : Array Nat) : Prop where
 ex : ∃ o fs cd oc items n,h.get? a = some o∧o.cls = .type "re.Pattern"∧o.dict = none∧o.data = .fields fs∧reRawNat (fs.getD 6 .none) = 0∧reRawNat (fs.getD 2 .none) = 0∧fs.getD 5 .none = .ref cd∧cd ≠ tabA∧h.get? cd = some oc∧oc.data = .seq items n∧(items.map reRawOf).map (·.toNat) = code
section
variable {prog : Program} {w : World} {A : Around} {E : Value→Shared→Prop} {s : Shared}
theorem pat_named (x : Value) : reNamed "re.Pattern.search" "search" ["string","pos","endpos"] 1 [x] [] = pure [some x,none,none]:=by
 unfold reNamed
 rfl
theorem pat_search {a : Addr} {code : Array Nat} {x : Str} {t : Tok} {Q : Fin→Shared→Prop} (p : PatAt s.heap a code) (h : failP (Sre.forSearch code x.cps 0 0 x.cps.size false) = true) (hsz : x.cps.size≤((2 : Int) ^ 63 - 1).toNat) (hq : Q (.done (.ret .none)) s) :
  wpAny (model prog w) A (Builtin.«re.Pattern.search» ⟨[.ref a,.str x t],[]⟩) Q E s:=by
 refine bc fun hG=>?_
 obtain ⟨o,fs,cd,oc,items,n,h1,h2,h3,h4,h5,h6,h7,h8,h9,h10,h11⟩:=p.ex
 refine hG ?_
 clear hG
 unfold Builtin.«re.Pattern.search» reTarget
 refine wpAny_bind ?_
 dsimp only
 rw [pat_named]
 refine wpAny_bind (wpAny_pure ?_)
 dsimp only
 refine wpAny_bind (wpAny_pure (wpAny_bind (wpAny_pure (wpAny_bind (wpAny_fieldsOf h1 h4 ?_)))))
 have ht : reTextOf (.str x t) = pure (x.cps,0):=rfl
 rw [ht]
 refine wpAny_bind (wpAny_pure ?_)
 dsimp only
 rw [h5,h6,h7]
 rw [if_neg (by decide),if_neg (by decide)]
 refine wpAny_bind (m:=reNoCollectionInside (.str x t) 0) (wpAny_of_eq (a:=()) (by unfold reNoCollectionInside; rfl) ?_)
 refine wpAny_bind ?_
 unfold reRawItems
 refine wpAny_bind (wpAny_seqItems h9 h10 (wpAny_pure (wpAny_pure ?_)))
 dsimp only
 rw [Option.getD_some,h11,show min (Int.toNat 0) x.cps.size = 0 from Nat.zero_min _]
 rw [Nat.min_eq_right hsz]
 unfold reAnswer
 exact wpAny_bind (wp_toEnd h (wpAny_pure hq))
end
structure HCls (K : Frag) : Prop where
 noT : K.lookup tabA = none
 ga : findIn K (.ref hdrC) "__getattribute__" = some (some (.builtin "object.__getattribute__"))
 gh : findIn K (.ref hdrC) "__getattr__" = some none
 mks : makesIn K hdrC = true
 ini : findIn K (.ref hdrC) "__init__" = some (some (.ref 133))
 conv : findIn K (.ref hdrC) "_convert_string_type" = some (some (.ref 140))
 set : findIn K (.ref hdrC) "__setitem__" = some (some (.ref 154))
 del : findIn K (.ref hdrC) "__delitem__" = some (some (.ref 159))
 get : findIn K (.ref hdrC) "get" = some (some (.ref 188))
 items : findIn K (.ref hdrC) "items" = some (some (.ref 205))
 add : findIn K (.ref hdrC) "add_header" = some (some (.ref 238))
 t133 : typeIn K (.ref 133) = some (.type "function")
 t140 : typeIn K (.ref 140) = some (.type "function")
 t154 : typeIn K (.ref 154) = some (.type "function")
 t159 : typeIn K (.ref 159) = some (.type "function")
 t188 : typeIn K (.ref 188) = some (.type "function")
 t205 : typeIn K (.ref 205) = some (.type "function")
 t238 : typeIn K (.ref 238) = some (.type "function")
 cls : ∃ cd,clsIn K hdrC = some cd∧cd.hasDict = true
 fh : findIn K (.ref hdrC) "_headers" = some none
 plain : plainOver K hdrC = true
 seq : noSeq K hdrC = true
 sat : findIn K (.ref hdrC) "__setattr__" = some (some (.builtin "object.__setattr__"))
 keep : keepIn K (.ref hdrC) = true
structure TopsH (prog : Program) (hT : Heap) (mg mb : Str→Option Value) : Prop extends Tops prog hT mg mb where
 k : ∃ K : Frag,K.In hT∧HCls K
 r133 : ∃ d,FnRec hT 133 (meth 0) d .none∧∃ a o n,d = .ref a∧a ≠ tabA∧hT.get? a = some o∧o.data = .seq #[.none] n
 r140 : ∃ k,FnRec hT 140 (meth 1) .none k
 r154 : FnRec hT 154 (meth 3) .none .none
 r159 : FnRec hT 159 (meth 4) .none .none
 r188 : ∃ d,FnRec hT 188 (meth 8) d .none∧∃ a o n,d = .ref a∧a ≠ tabA∧hT.get? a = some o∧o.data = .seq #[.none] n
 r205 : FnRec hT 205 (meth 11) .none .none
 r238 : FnRec hT 238 (meth 16) .none .none
 gN : mg "_name_disallowed_re" = some (.ref 105)
 gV : mg "_value_disallowed_re" = some (.ref 110)
 pN : PatAt hT 105 nameCode
 pV : PatAt hT 110 valCode
theorem kin_at {hT : Heap} {K : Frag} {h : Heap} (x : K.In hT) (n : K.lookup tabA = none) (k : Kp hT h) : K.In h:=fun a o e=>k.keep a o (fun q=>by rw [q,n] at e; cases e) (x a o e)
theorem PatAt.at {hT h : Heap} {a : Addr} {code : Array Nat} (x : PatAt hT a code) (ha : a ≠ tabA) (k : Kp hT h) : PatAt h a code:=by
 refine bc fun hG=>?_
 obtain ⟨o,fs,cd,oc,items,n,h1,h2,h3,h4,h5,h6,h7,h8,h9,r⟩:=x.ex
 refine hG ?_
 clear hG
 exact ⟨o,fs,cd,oc,items,n,k.keep _ _ ha h1,h2,h3,h4,h5,h6,h7,h8,k.keep _ _ h8 h9,r⟩
section
variable {M : Model} {A : Around} {E : Value→Shared→Prop} {s : Shared} {env : Env}
theorem wp_callAttr {o : PySem.Expr} {name : Str} {apos pos : Pos} {args : List PySem.Expr} {kws : List Keyword} {Q : Value→Shared→Prop} (hbase : attributeBase o name env (eval o env) = eval o env)
  (hform : methodCallForm (args.length + kws.length) (backTo pos (starEach args env)) (backToKw pos (keywordEach kws env)) = true) (hline : (apos.endLine == pos.line) = true)
  (h : wpAny M A (eval o env) (fun ov s₁=>∀ pl,wpAny M A (getMethod ov name pl) (fun p s₂=>wpAny M A (callWith pos p.1 p.2 (backTo pos (starEach args env)) (backToKw pos (keywordEach kws env))) Q E s₂) E s₁) E s) :
  wpAny M A (eval (.Call (.Attribute o name apos) args kws pos) env) Q E s:=by
 rw [arm_eval_Call,hbase]
 refine wpAny_bind (wpAny_mono h (fun ov s₁ h₁=>?_) fun J J e=>e)
 refine wpAny_bind (wpAny_standAt ?_)
 have hpos : methodCallPos true o env apos pos = pure pos:=by unfold methodCallPos; simp [hline]
 unfold methodCall
 rw [hform]
 refine wpAny_bind (wpAny_holding ?_)
 unfold calleeOf
 rw [if_pos rfl]
 refine wpAny_mono (h₁ _) (fun p s₂ h₂=>?_) fun J J e=>e
 exact wpAny_bind (wpAny_of_eq hpos h₂)
end
noncomputable def hdrOf : CV→Option (List (Str × Str))
 | .mhdr its=>some its
 | _=>none
noncomputable def isH (σ : List CV) : CV→Option (List (Str × Str))
 | .hdr its=>some its
 | .own i=>hdrOf (σ.getD i .unb)
 | _=>none
structure HAt (F : Addr→Prop) (h : Heap) (a d l : Addr) (its : List (Str × Str)) : Prop where
 a : h.get? a = some (instObj hdrC d)
 d : ∃ hs t n,h.get? d = some (dictOf [⟨hs,.str "_headers" t,.ref l⟩] n)
 l : ∃ items n,IsL h l items n∧items.size≤4096∧VRs F h (its.map hdrItem) items.toList
section
variable {prog : Program} {w : World} {hT : Heap} {c : FC} {own own' own'' : Nat→Option Addr} {σ σ' : List CV} {s s' s'' : Shared} {mg mb : Str→Option Value} {A : Around} {E : Value→Shared→Prop}
theorem hdr_inv {F : Addr→Prop} {h : Heap} {its : List (Str × Str)} {v : Value} (r : VR F h (.hdr its) v) : ∃ a d l items hs t n ne,v = .ref a∧¬ F a∧h.get? a = some (instObj hdrC d)∧h.get? d = some (dictOf [⟨hs,.str "_headers" t,.ref l⟩] n)∧IsL h l items ne∧items.size≤4096∧VRs F h (its.map hdrItem) items.toList:=by
 cases r; exact ⟨_,_,_,_,_,_,_,_,rfl,‹¬ F _›,‹_›,‹_›,‹_›,‹_›,‹_›⟩
theorem hdrOf_inv {z : CV} {its : List (Str × Str)} (h : hdrOf z = some its) : z = .mhdr its:=by cases z <;> first | exact none_ne h | exact congrArg CV.mhdr (Option.some.inj h)
theorem isH_inv {cv : CV} {its : List (Str × Str)} (h : isH σ cv = some its) : cv = .hdr its∨∃ i,cv = .own i∧σ.getD i .unb = .mhdr its:=by
 cases cv <;> first | exact none_ne h | exact .inl (congrArg CV.hdr (Option.some.inj h)) | exact .inr ⟨_,rfl,hdrOf_inv h⟩
theorem ER.inst {cv : CV} {v : Value} {its : List (Str × Str)} (e : ER c own σ s.heap cv v) (r : isH σ cv = some its) : ∃ a d l,v = .ref a∧HAt (FF c own) s.heap a d l its∧(¬ FF c own a):=by
 rcases isH_inv r with rfl | ⟨i,rfl,hz⟩
 ·refine bc fun hG=>?_
  obtain ⟨a,d,l,items,hs,t,n,ne,rfl,h1,g1,g2,g3,hz,hv⟩:=hdr_inv e
  refine hG ?_
  clear hG
  exact ⟨_,_,_,rfl,⟨g1,⟨_,_,_,g2⟩,_,_,g3,hz,hv⟩,h1⟩
 ·replace e:=e.2
  clear r
  rw [hz] at e
  refine bc fun hG=>?_
  obtain ⟨v',l,e1,⟨a,d,l',hs,t,n,rfl,e3,n1,n2,e8,e9⟩,e4,ne,items,e5,e6,e7⟩:=e
  refine hG ?_
  clear hG
  cases e1
  cases e3.symm.trans e4
  exact ⟨_,_,_,rfl,⟨e8,⟨_,_,_,e9⟩,_,_,e5,e6,e7⟩,n1⟩
theorem HAt.inst {F : Addr→Prop} {h : Heap} {a d l : Addr} {its : List (Str × Str)} (x : HAt F h a d l its) : ∃ hs t n,InstAt h a (instObj hdrC d) hdrC (some (dictOf [⟨hs,.str "_headers" t,.ref l⟩] n)):=by
 obtain ⟨hs,t,n,hd⟩:=x.d
 exact ⟨hs,t,n,x.a,rfl,rfl,hd⟩
theorem hdr_method {K : Frag} {h : Heap} {a d l f : Addr} {its : List (Str × Str)} {F : Addr→Prop} {name : Str} {pl : Sem Bool} {Q : Value × List Value→Shared→Prop} (X : K.In s.heap) (C : HCls K) (x : HAt F s.heap a d l its)
  (hf : findIn K (.ref hdrC) name = some (some (.ref f))) (ht : typeIn K (.ref f) = some (.type "function")) (hn : ((Str.ofString "_headers") == name) = false) (h : Q (.ref f,[.ref a]) s) : wpAny (model prog w) A (getMethod (.ref a) name pl) Q E s:=by
 refine bc fun hG=>?_
 obtain ⟨hs,t,n,I⟩:=x.inst
 refine hG ?_
 clear hG
 refine method_fn X I C.ga C.gh hf ht ?_ h
 show (lookIn name (dictOf [⟨hs,.str "_headers" t,.ref l⟩] n)).map (·.isSome) = some false
 have hk : (Value.str "_headers" t).isStr name = false:=hn
 have hf : List.find? (fun e : DictEntry=>e.key.isStr name) [⟨hs,Value.str "_headers" t,Value.ref l⟩] = none:=by
  rw [List.find?_cons]
  show (match (Value.str "_headers" t).isStr name with | true=>_ | false=>_) = _
  rw [hk]; rfl
 unfold lookIn
 dsimp only
 rw [hf]
 rfl
theorem hdr_read {K : Frag} {a d l : Addr} {its : List (Str × Str)} {F : Addr→Prop} {ex : Bool} {Q : Value→Shared→Prop} (X : K.In s.heap) (C : HCls K) (x : HAt F s.heap a d l its) (h : Q (.ref l) { s with toks:=s.toks + 1 }) : wpAny (model prog w) A (getAttr (.ref a) "_headers" ex) Q E s:=by
 refine bc fun hG=>?_
 obtain ⟨hs,t,n,I⟩:=x.inst
 obtain ⟨cd,c1,c2⟩:=C.cls
 refine hG ?_
 clear hG
 refine get_value X I C.ga ?_ rfl h
 unfold findObj
 rw [c1,Option.bind_some,C.fh,Option.bind_some]
 show (PySem.W.ownOf cd (some (dictOf [⟨hs,.str "_headers" t,.ref l⟩] n)) "_headers").bind _ = _
 unfold PySem.W.ownOf
 rw [c2]
 rfl
theorem SR.kin (x : SR hT c own σ s) {K : Frag} (k : K.In hT) (C : HCls K) : K.In s.heap:=kin_at k C.noT x.top
noncomputable def callMt (spec : List CV→List CV→Option CV) (mi : List CV→Option CV) (ms : List CV→Option (List CV)) (mk : List CV→Option (List CV)) (σ : List CV) : Option CV :=
 (mi σ).bind fun sv=>(isH σ sv).bind fun J=>(ms σ).bind fun cvs=>(mk σ).bind fun kc=>callS spec σ (sv::cvs) kc
theorem ERs.cons {cv : CV} {v : Value} {cvs : List CV} {vs : List Value} (r : ER c own σ s.heap cv v) (rs : ERs c own σ s.heap cvs vs) : ERs c own σ s.heap (cv::cvs) (v::vs):=by
 refine ⟨by simpa using rs.1,fun i y u h1 h2=>?_⟩
 cases i with
 | zero=>simp at h1 h2; subst h1 h2; exact r
 | succ i=>exact rs.2 i y u (by simpa using h1) (by simpa using h2)
theorem Rf.callMtK (T : TopsH prog hT mg mb) {y kw name : Str} {py apos pos kp : Pos} {e ke : PySem.Expr} {rest : List PySem.Expr} {f : Addr} {st : Stmt} {dV kV : Value} {k : Nat} {spec : List CV→List CV→Option CV} {mi : List CV→Option CV} {ms : List CV→Option (List CV)} {mk : List CV→Option CV}
  (hm : ∀ K,HCls K→findIn K (.ref hdrC) name = some (some (.ref f))∧typeIn K (.ref f) = some (.type "function")) (hy : Rf prog w hT c (.Name y py) mi) (R : FnRec hT f st dV kV) (ha : f ≠ tabA) (hF : Fn prog w hT k (.ref f) [kw] spec) (hA : AOk (9 + k) c.A) (hs : Rfs prog w hT c (e::rest) ms) (hk : Rf prog w hT c ke mk)
  (hn : ((Str.ofString "_headers") == name) = false:=by decide) (he : ∀ env,starEach (e::rest) env = (false,eval e env)::starEach rest env:=by intro _; rfl)
  (hform : ∀ env,methodCallForm ((e::rest).length + [(⟨some kw,ke,kp⟩ : Keyword)].length) (backTo pos (starEach (e::rest) env)) (backToKw pos (keywordEach [⟨some kw,ke,kp⟩] env)) = true:=by intro _; rfl) (hline : (apos.endLine == pos.line) = true:=by rfl) :
  Rf prog w hT c (.Call (.Attribute (.Name y py) name apos) (e::rest) [⟨some kw,ke,kp⟩] pos) (callMt spec mi ms fun σ=>(mk σ).map fun v=>[v]):=fun own σ s cv x e'=>by
 refine bc fun hG=>?_
 revert e'
 refine oR fun sv e0 e'=>?_
 revert e'
 refine oR fun its eH e'=>?_
 revert e'
 refine oR fun cvs e1 e'=>?_
 refine oE e' fun kc e3 e2=>?_
 obtain ⟨kc,e3k,rfl⟩:=oM e3
 obtain ⟨K,kin,C⟩:=T.k
 obtain ⟨hm1,hm2⟩:=hm K C
 obtain ⟨o,fd,hd,ho⟩:=R.fn ha
 refine hG ?_
 clear hG
 refine wp_callAttr rfl (hform _) hline (wp_w (hy own σ s _ x e0) fun ov s₁ h₁ pl=>?_)
 have x₁:=x.ex h₁.1
 refine bc fun hG=>?_
 obtain ⟨a,d,l,rfl,hat,hnf⟩:=h₁.2.inst eH
 refine hG ?_
 clear hG
 refine hdr_method (h:=s₁.heap) (x₁.kin kin C) C hat hm1 hm2 hn ?_
 have hs':=hs pos own σ s₁ cvs x₁ e1
 show wpAny _ _ (callWith pos (.ref f) [.ref a] (backTo pos (starEach (e::rest) c.env)) [(some kw,do let v ← eval ke c.env; standAt pos; pure v)]) _ _ _
 rw [he] at hs' ⊢
 refine callWith_function_kw (o:=o) (fd:=fd) (evalArgs_kw rfl (wp_w hs' fun vs s₂ h₂=>?_))
 have x₂:=x₁.ex h₂.1
 refine wpAny_evalAll_cons (wpAny_bind (wp_w (hk own σ s₂ kc x₂ e3k) fun kv s₃ h₃=>wpAny_bind (wpAny_standAt ?_)))
 refine wpAny_pure (wpAny_evalAll_nil ?_)
 have x₃:=x₂.ex h₃.1
 refine ⟨⟨ho s₃ x₃.at,hd⟩,?_⟩
 exact wp_w (hF.use hA x₃ (kvs:=[kv]) (kcvs:=[kc]) (ERs.cons ((h₁.2.ex x₁ h₂.1).ex x₂ h₃.1) (ERs.ex x₂ h₃.1 ⟨h₂.2.1,h₂.2.2⟩)) ⟨rfl,fun i z v h1 h2=>by
  cases i with
  | zero=>simp at h1 h2; subst h1 h2; exact h₃.2
  | succ i=>simp at h1⟩ rfl e2) fun v s₄ h₄=>⟨h₁.1.trans (h₂.1.trans (h₃.1.trans h₄.1)),h₄.2⟩
theorem Rf.callMt1 (T : TopsH prog hT mg mb) {y name : Str} {py apos pos : Pos} {e : PySem.Expr} {rest : List PySem.Expr} {f : Addr} {st : Stmt} {dV kV : Value} {k : Nat} {spec : List CV→List CV→Option CV} {mi : List CV→Option CV} {ms : List CV→Option (List CV)}
  (hm : ∀ K,HCls K→findIn K (.ref hdrC) name = some (some (.ref f))∧typeIn K (.ref f) = some (.type "function")) (hy : Rf prog w hT c (.Name y py) mi) (R : FnRec hT f st dV kV) (ha : f ≠ tabA) (hF : Fn prog w hT k (.ref f) [] spec) (hA : AOk (9 + k) c.A) (hs : Rfs prog w hT c (e::rest) ms)
  (hn : ((Str.ofString "_headers") == name) = false:=by decide) (he : ∀ env,starEach (e::rest) env = (false,eval e env)::starEach rest env:=by intro _; rfl)
  (hform : ∀ env,methodCallForm ((e::rest).length + ([] : List Keyword).length) (backTo pos (starEach (e::rest) env)) (backToKw pos (keywordEach [] env)) = true:=by intro _; rfl) (hline : (apos.endLine == pos.line) = true:=by rfl) :
  Rf prog w hT c (.Call (.Attribute (.Name y py) name apos) (e::rest) [] pos) (callMt spec mi ms fun J=>some []):=fun own σ s cv x e'=>by
 refine bc fun hG=>?_
 revert e'
 refine oR fun sv e0 e'=>?_
 revert e'
 refine oR fun its eH e'=>?_
 revert e'
 refine oR fun cvs e1 e'=>?_
 refine oE e' fun kc e3 e2=>?_
 refine hG ?_
 clear hG
 cases e3
 refine bc fun hG=>?_
 obtain ⟨K,kin,C⟩:=T.k
 obtain ⟨hm1,hm2⟩:=hm K C
 obtain ⟨o,fd,hd,ho⟩:=R.fn ha
 refine hG ?_
 clear hG
 refine wp_callAttr rfl (hform _) hline (wp_w (hy own σ s _ x e0) fun ov s₁ h₁ pl=>?_)
 have x₁:=x.ex h₁.1
 refine bc fun hG=>?_
 obtain ⟨a,d,l,rfl,hat,hnf⟩:=h₁.2.inst eH
 refine hG ?_
 clear hG
 refine hdr_method (h:=s₁.heap) (x₁.kin kin C) C hat hm1 hm2 hn ?_
 have hs':=hs pos own σ s₁ cvs x₁ e1
 show wpAny _ _ (callWith pos (.ref f) [.ref a] (backTo pos (starEach (e::rest) c.env)) []) _ _ _
 rw [he] at hs' ⊢
 refine callWith_function (o:=o) (fd:=fd) (evalArgs_plain (wp_w hs' fun vs s₂ h₂=>?_))
 have x₂:=x₁.ex h₂.1
 refine ⟨⟨ho s₂ x₂.at,hd⟩,?_⟩
 exact wp_w (hF.use hA x₂ (kvs:=[]) (kcvs:=[]) (ERs.cons (h₁.2.ex x₁ h₂.1) ⟨h₂.2.1,h₂.2.2⟩) ⟨rfl,fun i J J h=>by simp at h⟩ rfl e2) fun v s₄ h₄=>⟨h₁.1.trans (h₂.1.trans h₄.1),h₄.2⟩
theorem Rf.callMt0 (T : TopsH prog hT mg mb) {y name : Str} {py apos pos : Pos} {f : Addr} {st : Stmt} {dV kV : Value} {k : Nat} {spec : List CV→List CV→Option CV} {mi : List CV→Option CV}
  (hm : ∀ K,HCls K→findIn K (.ref hdrC) name = some (some (.ref f))∧typeIn K (.ref f) = some (.type "function")) (hy : Rf prog w hT c (.Name y py) mi) (R : FnRec hT f st dV kV) (ha : f ≠ tabA) (hF : Fn prog w hT k (.ref f) [] spec) (hA : AOk (9 + k) c.A)
  (hn : ((Str.ofString "_headers") == name) = false:=by decide) (hline : (apos.endLine == pos.line) = true:=by rfl) :
  Rf prog w hT c (.Call (.Attribute (.Name y py) name apos) [] [] pos) (callMt spec mi (fun J=>some []) fun J=>some []):=fun own σ s cv x e'=>by
 refine bc fun hG=>?_
 revert e'
 refine oR fun sv e0 e'=>?_
 revert e'
 refine oR fun its eH e'=>?_
 revert e'
 refine oR fun cvs e1 e'=>?_
 refine oE e' fun kc e3 e2=>?_
 refine hG ?_
 clear hG
 cases e3; cases e1
 refine bc fun hG=>?_
 obtain ⟨K,kin,C⟩:=T.k
 obtain ⟨hm1,hm2⟩:=hm K C
 obtain ⟨o,fd,hd,ho⟩:=R.fn ha
 refine hG ?_
 clear hG
 refine wp_callAttr rfl rfl hline (wp_w (hy own σ s _ x e0) fun ov s₁ h₁ pl=>?_)
 have x₁:=x.ex h₁.1
 refine bc fun hG=>?_
 obtain ⟨a,d,l,rfl,hat,hnf⟩:=h₁.2.inst eH
 refine hG ?_
 clear hG
 refine hdr_method (h:=s₁.heap) (x₁.kin kin C) C hat hm1 hm2 hn ?_
 show wpAny _ _ (callWith pos (.ref f) [.ref a] [] []) _ _ _
 refine callWith_function (o:=o) (fd:=fd) (PySem.evalArgs_none ⟨⟨ho s₁ x₁.at,hd⟩,?_⟩)
 exact wp_w (hF.use hA x₁ (kvs:=[]) (kcvs:=[]) (ERs.cons h₁.2 ⟨rfl,fun i J J h=>by simp at h⟩) ⟨rfl,fun i J J h=>by simp at h⟩ rfl e2) fun v s₄ h₄=>⟨h₁.1.trans h₄.1,h₄.2⟩
end
open PySem.Builtin PySem.Builtin.Re
section
variable {prog : Program} {w : World} {hT : Heap} {c : FC} {own own' own'' : Nat→Option Addr} {σ σ' : List CV} {s s' s'' : Shared} {mg mb : Str→Option Value} {A : Around} {E : Value→Shared→Prop}
noncomputable def boolOf : CV→Option Bool:=asB some
theorem Rt.nmB {y : Str} {py : Pos} {m : List CV→Option CV} (h : Rf prog w hT c (.Name y py) m) : Rt prog w hT c (.Name y py) (fun σ=>(m σ).bind boolOf):=fun own σ s b x e=>by
 refine bc fun hG=>?_
 revert e
 refine oR fun cv e1 e=>?_
 refine hG ?_
 clear hG
 refine wpAny_isTrue_value (wp_w (h own σ s cv x e1) fun v s₁ h₁=>?_)
 refine bc fun hG=>?_
 obtain ⟨i,rfl,q⟩:=asB_inv e
 cases q
 obtain rfl:=VR.bool_inv h₁.2
 refine hG ?_
 clear hG
 exact wpAny_truthy_bool ⟨h₁.1,rfl⟩
noncomputable def asR {α : Type} (f : Addr→Option α) : CV→Option α
 | .ref a=>f a
 | _=>none
theorem asR_inv {α : Type} {r : α} {f : Addr→Option α} {v : CV} (h : asR f v = some r) : ∃ i,v = .ref i∧f i = some r:=by cases v <;> first | exact none_ne h | exact ⟨_,rfl,h⟩
noncomputable def serS (a b : CV) : Option Bool:=asR (fun a=>asS (fun x=>if a = 105∧x∈lets∨a = 110∧x∈W6 then some false else none) b) a
theorem serS_inv {a b : CV} {r : Bool} (h : serS a b = some r) : ∃ p x,a = .ref p∧b = .str x∧(p = 105∧x∈lets∨p = 110∧x∈W6)∧r = false:=by
 refine bc fun hG=>?_
 obtain ⟨p,rfl,q⟩:=asR_inv h
 clear h
 obtain ⟨x,rfl,q⟩:=asS_inv q
 obtain ⟨hc,q⟩:=ite_some q
 refine hG ?_
 clear hG
 exact ⟨p,x,rfl,rfl,hc,q.symm⟩
theorem lets_len : (lets.all fun x=>decide (x.cps.size≤100)) = true:=by decide +kernel
theorem W6_len : (W6.all fun x=>decide (x.cps.size≤100)) = true:=by decide +kernel
theorem ser_fin (T : TopsH prog hT mg mb) (k : Kp hT s.heap) {a : Addr} {x : Str} (h : a = 105∧x∈lets∨a = 110∧x∈W6) : s.TypeIs (.ref a) "re.Pattern"∧(∃ ob,s.heap.get? a = some ob∧ob.dict = none) ∧
  ∃ code,PatAt s.heap a code∧failP (Sre.forSearch code x.cps 0 0 x.cps.size false) = true∧x.cps.size≤100:=by
 have go : ∀ code,PatAt s.heap a code→s.TypeIs (.ref a) "re.Pattern"∧(∃ ob,s.heap.get? a = some ob∧ob.dict = none):=fun code p=>by
  refine bc fun hG=>?_
  obtain ⟨o,fs,cd,oc,items,n,h1,h2,h3,_⟩:=p.ex
  refine hG ?_
  clear hG
  exact ⟨⟨o,h1,h2⟩,o,h1,h3⟩
 rcases h with ⟨rfl,h⟩ | ⟨rfl,h⟩
 ·have p:=T.pN.at (by decide) k
  exact ⟨(go _ p).1,(go _ p).2,_,p,List.all_eq_true.mp name_fail x h,of_decide_eq_true (List.all_eq_true.mp lets_len x h)⟩
 ·have p:=T.pV.at (by decide) k
  exact ⟨(go _ p).1,(go _ p).2,_,p,List.all_eq_true.mp val_fail x h,of_decide_eq_true (List.all_eq_true.mp W6_len x h)⟩
theorem Rt.search (T : TopsH prog hT mg mb) {y : Str} {py apos pos : Pos} {e : PySem.Expr} {my me : List CV→Option CV} (hy : Rf prog w hT c (.Name y py) my) (h : Rf prog w hT c e me)
  (he : ∀ env,starEach [e] env = [(false,eval e env)]:=by intro _; rfl) (hline : (apos.endLine == pos.line) = true:=by rfl) :
  Rt prog w hT c (.Call (.Attribute (.Name y py) "search" apos) [e] [] pos) (fun σ=>(my σ).bind fun r=>(me σ).bind fun v=>serS r v):=fun own σ s b x e'=>by
 refine bc fun hG=>?_
 revert e'
 refine oR fun r e1 e'=>?_
 revert e'
 refine oR fun v e2 e'=>?_
 refine hG ?_
 clear hG
 replace e':=serS_inv e'
 refine bc fun hG=>?_
 obtain ⟨a,u,rfl,rfl,hc,rfl⟩:=e'
 refine hG ?_
 clear hG
 refine wpAny_isTrue_value (wpAny_Call_method rfl (by rw [he]; rfl) hline plainAttrs_pat slot_pat_search type_pat_search (wp_w (hy own σ s _ x e1) fun ov s₁ h₁=>?_))
 have hv:=h₁.2
 obtain rfl:=VR.ref_inv hv
 have x₁:=x.ex h₁.1
 refine bc fun hG=>?_
 obtain ⟨q1,q2,_⟩:=ser_fin T x₁.top hc
 refine hG ?_
 clear hG
 refine ⟨q1,fun a' q=>by cases q; exact q2,?_⟩
 rw [he]
 refine callWith_builtin rfl (Calls.evalArgs_plain (Calls.spliced_cons (wp_w (h own σ s₁ _ x₁ e2) fun va s₂ h₂=>Calls.spliced_nil ?_)))
 have hv:=h₂.2
 obtain ⟨_,rfl⟩:=VR.str_inv hv
 have x₂:=x₁.ex h₂.1
 refine bc fun hG=>?_
 obtain ⟨q1,q2,code,p,q3,q4⟩:=ser_fin T x₂.top hc
 refine hG ?_
 clear hG
 exact wpAny_call (codeAny_call_builtin slot_pat_search.plain entry_pat_search (slot_pat_search.check _ _ _ _ _ _ _ _ q1 (args_pat_search _ _) (pat_search p q3 (Nat.le_trans q4 (by decide)) (wpAny_of_eq (show truthy .none = pure false from rfl) ⟨h₁.1.trans h₂.1,rfl⟩))))
noncomputable def hdrL : CV→Option CV
 | .hdr its=>some (.list (its.map hdrItem))
 | _=>none
set_option tactic.hygienic true in
theorem Rf.hdrA (T : TopsH prog hT mg mb) {y : Str} {py apos : Pos} {my : List CV→Option CV} (hy : Rf prog w hT c (.Name y py) my) : Rf prog w hT c (.Attribute (.Name y py) "_headers" apos) (fun σ=>(my σ).bind hdrL):=fun own σ s cv x e'=>by
 refine bc fun hG=>?_
 refine oE e' fun sv e1 e2=>?_
 refine hG ?_
 clear hG
 cases sv <;> first | (cases e2; done) | skip
 rename_i its
 cases e2
 refine bc fun hG=>?_
 obtain ⟨K,kin,C⟩:=T.k
 refine hG ?_
 clear hG
 rw [arm_eval_Attribute]
 refine wpAny_bind (wp_w (hy own σ s _ x e1) fun ov s₁ h₁=>wpAny_bind (wpAny_standAt (wpAny_bind (wpAny_holding ?_))))
 have x₁:=x.ex h₁.1
 have hv : VR (FF c own) s₁.heap (.hdr its) ov:=h₁.2
 cases hv with
 | hdr h1 h2 h3 g1 g2 g3 hz hv =>
  refine hdr_read (x₁.kin kin C) C (F:=FF c own) (its:=its) ⟨g1,⟨_,_,_,g2⟩,_,_,g3,hz,hv⟩ (wpAny_bind (wpAny_letTemporaryGo (wpAny_pure ⟨h₁.1.trans .tok,?_⟩)))
  exact VR.list h3 g3 hz hv
noncomputable def mh? : CV→Option (List (Str × Str))
 | .mhdr its=>some its
 | _=>none
theorem mh_eq {cv : CV} {its : List (Str × Str)} (h : mh? cv = some its) : cv = .mhdr its:=by cases cv <;> first | (cases h; rfl) | cases h
theorem wp_hdr (T : TopsH prog hT mg mb) {y : Str} {py apos : Pos} {i : Nat} {its : List (Str × Str)} {Q : Value→Shared→Prop} (x : SR hT c own σ s) (hy : Rf prog w hT c (.Name y py) (nm i)) (e : mh? (σ.getD i .unb) = some its)
  (h : ∀ s' l items n,Ex s s'→own i = some l→IsL s'.heap l items n→items.size≤4096→VRs (FF c own) s'.heap (its.map hdrItem) items.toList→Q (.ref l) s') : wpAny (model prog w) c.A (eval (.Attribute (.Name y py) "_headers" apos) c.env) Q noE s:=by
 refine bc fun hG=>?_
 obtain ⟨K,kin,C⟩:=T.k
 refine hG ?_
 clear hG
 have hnm : nm i σ = some (.own i):=by unfold nm; rw [mh_eq e]; rfl
 rw [arm_eval_Attribute]
 refine wpAny_bind (wp_w (hy own σ s _ x hnm) fun ov s₁ h₁=>wpAny_bind (wpAny_standAt (wpAny_bind (wpAny_holding ?_))))
 have x₁:=x.ex h₁.1
 obtain ⟨_,q⟩:=h₁.2
 rw [mh_eq e] at q
 refine bc fun hG=>?_
 obtain ⟨v',l,e1,⟨a,d,l',hs,t,n,e2,e3,n1,n2,e8,e9⟩,e4,ne,items,e5,e6,e7⟩:=q
 refine hG ?_
 clear hG
 cases e1; subst e2
 rw [e3] at e4; cases e4
 refine hdr_read (x₁.kin kin C) C (F:=FF c own) (its:=its) ⟨e8,⟨_,_,_,e9⟩,_,_,e5,e6,e7⟩ (wpAny_bind (wpAny_letTemporaryGo (wpAny_pure ?_)))
 exact h _ _ _ _ (h₁.1.trans .tok) e3 e5 e6 e7
noncomputable def appHM (i : Nat) (m : List CV→Option CV) : CM:=fun σ=>(m σ).bind fun cv=>(mh? (σ.getD i .unb)).bind fun its=>asU (on2 fun a b=>asS (fun a=>asS (fun b=>if its.length < 4096 then some (.next,σ.set i (.mhdr (its ++ [(a,b)]))) else none) b) a) cv
theorem Rs.appH (T : TopsH prog hT mg mb) {y : Str} {py p1 apos pos p2 : Pos} {e : PySem.Expr} {i : Nat} {m : List CV→Option CV} (W : Wf c) (hy : Rf prog w hT c (.Name y py) (nm i)) (h : Rf prog w hT c e m)
  (he : ∀ env,starEach [e] env = [(false,eval e env)]:=by intro _; rfl) (hline : (apos.endLine == pos.line) = true:=by rfl) :
  Rs prog w hT c (.Expr (.Call (.Attribute (.Attribute (.Name y py) "_headers" p1) "append" apos) [e] [] pos) p2)
   (appHM i m):=fun own σ s f σ' x e'=>by
 refine bc fun hG=>?_
 revert e'
 refine oR fun cv e1 g=>?_
 revert g
 refine oR fun its e2 g2=>?_
 obtain ⟨_,rfl,g3⟩:=asU_inv g2
 clear g2
 obtain ⟨_,_,rfl,g4⟩:=on2_inv g3
 clear g3
 obtain ⟨a,rfl,g5⟩:=asS_inv g4
 clear g4
 obtain ⟨b,rfl,g6⟩:=asS_inv g5
 clear g5
 obtain ⟨hc,g⟩:=ite_some g6
 clear g6
 refine hG ?_
 clear hG
 cases g
 refine wpAny_Expr_any (wpAny_Call_method rfl (by rw [he]; rfl) hline PySem.F.plainAttrs_list F.slot_list_append F.type_list_append (wp_hdr T x hy e2 fun s₁ l items k ex₁ ho hl hz hv=>?_)) W.inter
 have x₁:=x.ex ex₁
 refine ⟨⟨_,hl,rfl⟩,fun a q=>by cases q; exact ⟨_,hl,rfl⟩,?_⟩
 rw [he]
 refine P.append_list (wp_w (h own σ s₁ _ x₁ e1) fun va s₂ h₂=>?_)
 have x₂:=x₁.ex h₂.1
 have hl₂ : IsL s₂.heap l items k:=h₂.1.kp.keep l _ (x₁.one ho) hl
 refine ⟨items,k,by rw [sizeLine_eq]; exact Nat.le_trans hz (by decide),hl₂,?_⟩
 have va':=h₂.2.vr' rfl
 have hF : FF c own l:=.inr (.inr (.inr ⟨i,ho⟩))
 have hsb : Heap.SameBut l s₂.heap (s₂.heap.update l (Obj.mapSeq fun xs=>xs.push va)):=Heap.SameBut.update ..
 have mv : ∀ b o,¬ FF c own b→s₂.heap.get? b = some o→¬ FF c own b∧(s₂.heap.update l (Obj.mapSeq fun xs=>xs.push va)).get? b = some o:=fun b o hf e=>⟨hf,(hsb.2 b (fun q=>hf (q▸hF))).trans e⟩
 have hlen:=hv.length
 simp only [Array.length_toList,List.length_map] at hlen
 have hi : isM (σ.getD i .unb) = true:=by rw [mh_eq e2]; rfl
 have M:=x₂.mutL (i:=i) (cv':=.mhdr (its ++ [(a,b)])) (tk:=s₂.toks) ho (lt_of_isM hi) hi (by rw [mh_eq e2]; rfl) hsb
  ⟨_,items.push va,hl₂.update _,by rw [Array.size_push]; lia,by rw [Array.toList_push,List.map_append]; exact ((hv.kp x₁.ft h₂.1.kp).append (.cons va' .nil)).move mv⟩ ⟨_,_,hl₂.update _⟩
 exact SOut.trans x₂ (.of_ex (ex₁.trans h₂.1)) (.refl _) .refl ⟨own,M.1,M.2.1,.refl _,M.2.2,trivial⟩
noncomputable def lwrS : CV→Option CV
 | .str x=>if Builtin.Str.tooLong (Txt.lower x).length = false then some (.str (Txt.lower x)) else none
 | _=>none
theorem Rf.lower {o : PySem.Expr} {apos pos : Pos} {my : List CV→Option CV} (hy : Rf prog w hT c o my) (hline : (apos.endLine == pos.line) = true:=by rfl) (hb : ∀ env,attributeBase o "lower" env (eval o env) = eval o env:=by intro _; rfl) :
  Rf prog w hT c (.Call (.Attribute o "lower" apos) [] [] pos) (fun σ=>(my σ).bind lwrS):=fun own σ s cv x e'=>by
 refine bc fun hG=>?_
 refine oE e' fun sv e1 e2=>?_
 refine hG ?_
 clear hG
 unfold lwrS at e2
 split at e2 <;> first | (cases e2; done) | skip
 replace e2:=ite_opt e2
 obtain ⟨hf,e2⟩:=e2
 cases e2
 refine Call_method0 (hb _) hline (wp_w (hy own σ s _ x e1) fun ov s₁ h₁=>?_)
 have hv:=h₁.2
 obtain ⟨_,rfl⟩:=VR.str_inv hv
 exact SB.lower hf ⟨h₁.1.trans .tok,VR.str _ _⟩
noncomputable def joinS (σ : List CV) : CV→Option CV
 | cv=>(lst σ cv).bind (on1 (asS fun x=>if x∈W6 then some (.str x) else none))
theorem W6_join : (W6.all fun x=>decide (Txt.join "; " [x] = x) && JoinOk "; " [x]) = true:=by decide +kernel
set_option tactic.hygienic true in
theorem Rf.join {kd : Nat} {pc apos pos : Pos} {e : PySem.Expr} {me : List CV→Option CV} (h : Rf prog w hT c e me)
  (he : ∀ env,starEach [e] env = [(false,eval e env)]:=by intro _; rfl) (hline : (apos.endLine == pos.line) = true:=by rfl) :
  Rf prog w hT c (.Call (.Attribute (.Constant (.str "; ") kd pc) "join" apos) [e] [] pos) (fun σ=>(me σ).bind (joinS σ)):=fun own σ s cv x e'=>by
 refine bc fun hG=>?_
 revert e'
 refine oR fun v e1 g=>?_
 revert g
 refine oR fun vs e2 g2=>?_
 obtain ⟨_,rfl,g3⟩:=on1_inv g2
 clear g2
 obtain ⟨u,rfl,g4⟩:=asS_inv g3
 clear g3
 obtain ⟨hu,g⟩:=ite_some g4
 clear g4
 refine hG ?_
 clear hG
 cases g
 refine wpAny_Call_method rfl (by rw [he]; rfl) hline F.plainAttrs_str F.slot_str_join F.type_str_join (wpAny_Constant_str ?_)
 refine ⟨typeIs_str _ _ _,(fun J e=>nomatch e),?_⟩
 have x₁ : SR hT c own σ { s with toks:=s.toks + 1 }:=x.ex .tok
 rw [he]
 refine callWith_builtin rfl (Calls.evalArgs_plain (Calls.spliced_cons (wp_w (h own σ _ _ x₁ e1) fun va s₂ h₂=>Calls.spliced_nil ?_)))
 have x₂:=x₁.ex h₂.1
 refine bc fun hG=>?_
 obtain ⟨a,n,items,rfl,hl,hz,hv,_⟩:=h₂.2.lst x₂ e2
 have hq:=List.all_eq_true.mp W6_join u hu
 obtain ⟨q1,q2⟩:=bA hq
 refine hG ?_
 clear hG
 have q1:=of_decide_eq_true q1
 generalize hit : items.toList = it at hv
 cases hv with
 | cons hv hr =>
  cases hr
  obtain ⟨_,rfl⟩:=VR.str_inv hv
  rename_i t
  have hi : items = #[.str u t]:=by rw [← Array.toList_inj]; exact hit
  subst hi
  refine SC.join (l:=[(u,t)]) (texts:=[u]) hl.isList rfl q2 fun t' k=>⟨(Ex.tok.trans h₂.1).trans .tok,?_⟩
  rw [q1]; exact VR.str _ _
noncomputable def convS : List CV→List CV→Option CV
 | l,ks=>on2 (fun J a=>asS (fun x=>on1 (asB fun b=>if (b = true∧x∈lets)∨(b = false∧x∈W6) then some (.str x) else none) ks) a) l
theorem convS_inv {cvs kcvs : List CV} {r : CV} (h : convS cvs kcvs = some r) : ∃ a x b,cvs = [a,.str x]∧kcvs = [.bool b]∧((b = true∧x∈lets)∨(b = false∧x∈W6))∧r = .str x:=by
 replace h:=on2_inv h
 refine bc fun hG=>?_
 obtain ⟨a,_,rfl,h⟩:=h
 replace h:=asS_inv h
 obtain ⟨x,rfl,h⟩:=h
 replace h:=on1_inv h
 obtain ⟨_,rfl,h⟩:=h
 replace h:=asB_inv h
 obtain ⟨b,rfl,h⟩:=h
 refine hG ?_
 clear hG
 replace h:=ite_opt h
 obtain ⟨_,h⟩:=h
 ·cases h; exact ⟨a,x,b,rfl,rfl,‹_›,rfl⟩
theorem ev_seqR {m1 m2 : CM} {σ σ1 : List CV} {v : CV} (h1 : m1 σ = some (.ret v,σ1)) : seqM m1 m2 σ = some (.ret v,σ1):=by
 unfold seqM; rw [h1]; rfl
theorem conv_fn (T : TopsH prog hT mg mb) : Fn prog w hT 0 (.ref 140) ["name"] convS:=by
 obtain ⟨kV,R⟩:=T.r140
 refine Fn.of_body T.tf R (by decide) (n:=3) ⟨rfl,by decide,rfl,rfl⟩ (fun A e X s0 P px W hA =>
  Rss.cons (Rs.ifS (Rt.com W (Rf.callT (T.type_ W (i:=4) rfl) (Rfs.cons (Rf.loc W (i:=1) rfl) Rfs.nil) type_ok) (T.str_ W (i:=5) rfl))
   (Rss.cons (Rs.asg W (i:=3) (.inl rfl) (Rf.ite (Rt.nmB (Rf.loc W (i:=2) rfl)) (Rf.glb T.tf W (i:=6) rfl T.gN rfl) (Rf.glb T.tf W (i:=7) rfl T.gV rfl)))
    (Rss.cons (Rs.ifS (Rt.search T (Rf.loc W (i:=3) rfl) (Rf.loc W (i:=1) rfl)) Rss.any Rss.nil)
     (Rss.cons (Rs.ret (Rf.loc W (i:=1) rfl) px) Rss.nil))) Rss.nil) (Rss.cons Rs.any Rss.nil)) (fun cvs kcvs=>cvs ++ kcvs) ?_ (by decide) (by decide) ?_
 ·intro s F fd hs h1 h2 h3 cvs kcvs vals kvals r hv hkv hkl hr
  refine bc fun hG=>?_
  obtain ⟨a,x,b,rfl,rfl,_⟩:=convS_inv hr
  refine hG ?_
  clear hG
  refine ⟨vals ++ kvals,.of_eq ?_,?_,hv.append hkv⟩
  ·obtain ⟨v1,_,rfl,_,hv⟩:=hv.cons_inv
   obtain ⟨v2,_,rfl,_,hv⟩:=hv.cons_inv
   obtain rfl:=hv.nil_inv
   obtain ⟨v3,_,rfl,_,hkv⟩:=hkv.cons_inv
   obtain rfl:=hkv.nil_inv
   cases fd; simp only at h1 h2 h3; subst h1 h2 h3; rfl
  ·rw [List.length_append,← hv.length,← hkv.length]; rfl
 ·intro cvs kcvs r h
  obtain ⟨a,x,b,rfl,rfl,hc,rfl⟩:=convS_inv h
  ·have hr : ∃ g : Addr,((if b = true then some (CV.ref 105) else some (CV.ref 110)) = some (.ref g))∧serS (.ref g) (.str x) = some false:=by
    rcases hc with ⟨rfl,hc⟩ | ⟨rfl,hc⟩
    ·exact ⟨105,rfl,if_pos (.inl ⟨rfl,hc⟩)⟩
    ·exact ⟨110,rfl,if_pos (.inr ⟨rfl,hc⟩)⟩
   obtain ⟨g,q1,q2⟩:=hr
   refine ⟨.ret (.str x),(([a,.str x,.bool b] : List CV) ++ List.replicate ((sScope (meth 1)).names.length - 3) CV.unb).set 3 (CV.ref g),ev_seqR (ev_ifT (by kernel_rfl!) (ev_seq (ev_asg (cv:=.ref g) ?_ rfl) (ev_seq (ev_ifF ?_ rfl) (ev_seqR ?_)))),rfl⟩
   ·rcases hc with ⟨rfl,_⟩ | ⟨rfl,_⟩
    ·exact q1
    ·exact q1
   ·exact q2
   ·rfl
end
noncomputable def tupT (n : Nat) (mt : List CV→List CV→Option (List CV)) (cv : CV) (σ : List CV) : Option (List CV):=match cv with
 | .tup cvs=>if cvs.length = n then mt cvs σ else none
 | _=>none
section
variable {prog : Program} {w : World} {hT : Heap} {c : FC} {own own' own'' : Nat→Option Addr} {σ σ' : List CV} {s s' s'' : Shared} {mg mb : Str→Option Value}
set_option tactic.hygienic true in
theorem Tg.tup {ts : List PySem.Expr} {k : Nat} {tp : Pos} {mt : List CV→List CV→Option (List CV)} (W : Wf c) (ht : Tgs prog w hT c ts mt)
  (hl : ∀ env,(assignEach ts env).length = ts.length:=by intro _; rfl) (hst : ∀ env,(assignEach ts env).findIdx? (·.1) = none:=by intro _; rfl) : Tg prog w hT c (.Tuple ts k tp) (tupT ts.length mt):=fun own σ s cv va σ' x r e=>by
 unfold tupT at e
 split at e <;> first | (cases e; done) | skip
 rename_i cvs
 replace e:=ite_opt e
 obtain ⟨hlen,e⟩:=e
 cases r with
 | tup hf hl' hv =>
 rename_i a items n
 have hsz:=hv.length
 simp only [Array.length_toList] at hsz
 refine assign_Tuple_tuple W.aok.hd ⟨_,hl',rfl,n,rfl⟩ (by rw [hl]; lia) (hst _) fun h' he=>?_
 have ee : Ex s { s with heap:=h' }:=⟨.of_all fun b o q=>he b o (Nat.ne_of_lt (Heap.lt_size q)) q,rfl,.same rfl⟩
 refine wp_w (ht own σ _ cvs _ _ (x.ex ee) (hv.kp x.ft ee.kp) e) fun J s₂ q=>?_
 refine bc fun hG=>?_
 obtain ⟨own2,x2,k2,l2,p2⟩:=q
 refine hG ?_
 clear hG
 exact ⟨own2,x2,(Ss.of_ex ee).trans (.refl _) k2,l2,p2⟩
noncomputable def edictM (i : Nat) : CM:=fun σ=>match σ.getD i .unb with
 | .edict=>some (.next,σ)
 | _=>none
theorem dict0 {h : Heap} {a : Addr} (e : h.get? a = some { cls:=.type "dict",data:=.dict #[] }) : h.DictAt (strKind prog w) a [] 0 :=
 ⟨_,#[],e,⟨rfl,rfl,rfl⟩,rfl,fun e h=>by simp at h,.nil,List.nodup_nil⟩
set_option tactic.hygienic true in
theorem Rs.forE {t : PySem.Expr} {y : Str} {py apos cpos pos : Pos} {body : List Stmt} {i : Nat} (W : Wf c) (hn : c.names[i]? = some (y,.local)) (hd : (y == ("__debug__" : Str)) = false:=by decide) (hline : (apos.endLine == cpos.line) = true:=by rfl)
  (hs : ∀ x,foldedSetIterable (.Call (.Attribute (.Name y py) "items" apos) [] [] cpos) c.env x = pure x:=by intro _; rfl) :
  Rs prog w hT c (.For t (.Call (.Attribute (.Name y py) "items" apos) [] [] cpos) body [] pos) (edictM i):=fun own σ s f σ' x e'=>by
 unfold edictM at e'
 split at e' <;> first | (cases e'; done) | skip
 rename_i hq
 cases e'
 have hnm : nm i σ = some .edict:=by unfold nm; rw [hq]; rfl
 refine wpAny_For (wpAny_Call_method (T:="dict") (id:="dict.items") rfl rfl hline F.plainAttrs_dict F.slot_dict_items F.type_dict_items (wp_w (Rf.loc W hn hd own σ s _ x hnm) fun ov s₁ h₁=>?_)) hs
 have x₁:=x.ex h₁.1
 have hv : VR (FF c own) s₁.heap .edict ov:=h₁.2
 cases hv with
 | edict hf hsy hg =>
  rename_i d
  have hm:=dict0 (prog:=prog) (w:=w) hg
  refine ⟨hm.dictOf.typeIs,fun a q=>by cases q; exact ⟨_,hg,rfl⟩,?_⟩
  show wpAny _ _ (callWith cpos (.builtin "dict.items") [.ref d] [] []) _ _ _
  refine method_meetsIn F.slot_dict_items F.entry_dict_items rfl (PySem.evalArgs_none ⟨rfl,hm.dictOf.typeIs,F.args_dict_items_1 _,_,meets_dict_items (strKind prog w) d (by exact beq_false_of_ne hsy),⟨_,hm.dictOf⟩,?_⟩)
  refine wpAny_pyIter_items (knd:=strKind prog w) (d:=d) (kvs:=[]) (ep:=0) ⟨_,Heap.get?_push_size _ rfl,rfl,rfl⟩ (hm.push _) ?_
  refine codeAny_forLoop_any (fun n s'=>s' = _) ?_ 0 rfl
  rintro n s' rfl
  refine wpAny_pyNext_items_end (knd:=strKind prog w) (kvs:=[]) W.aok.hd (Heap.get?_push_size _ rfl) ((hm.push _).push _) rfl fun h' hx=>?_
  refine wpAny_execs_nil ?_
  have hE : Ex s₁ { s₁ with heap:=h' }:=⟨.of_all fun b o e=>hx b o (Nat.ne_of_lt (by rw [Heap.size_push]; exact Nat.lt_succ_of_lt (Heap.lt_size e))) (Heap.get?_push_of_some _ (Heap.get?_push_of_some _ e)),rfl,.same rfl⟩
  exact ⟨own,x₁.ex hE,.of_ex (h₁.1.trans hE),.refl _,.refl,trivial⟩
theorem Rf.slice0 {o : PySem.Expr} {p pos : Pos} {mo : List CV→Option CV} (ho : Rf prog w hT c o mo) :
  Rf prog w hT c (.Subscript o (.Slice none none none p) pos) (fun σ=>(mo σ).bind fun a=>(Mine.lst σ a).map CV.list):=fun own σ s cv x e=>by
 refine bc fun hG=>?_
 revert e
 refine oR fun a ea e=>?_
 refine mE e fun vs e1 e2=>?_
 refine hG ?_
 clear hG
 subst e2
 refine Subscript_ (wp_w (ho own σ s a x ea) fun va s₁ h₁=>?_)
 have x₁:=x.ex h₁.1
 refine wpAny_Slice (wpAny_evalPart_none (wpAny_evalPart_none (wpAny_evalPart_none ?_)))
 refine bc fun hG=>?_
 obtain ⟨l,n,items,rfl,hl,hz',hvs,_⟩:=h₁.2.lst x₁ e1
 refine hG ?_
 clear hG
 refine tail_any (hl.push _).isList.typeIs slot_list_getitem.lookup (wpAny_getItem_list_slice (lo:=none) (hi:=none) (st:=none) (hl.push _).isList (Heap.IsSliceOf.new ..) .none .none .none (by exact Ne.symm (Option.some_ne_none 0)) ?_ (by rw [sizeLine_eq]; exact Nat.le_trans hz' (by decide))) rfl
 have x₃ : SR hT c own σ { s₁ with heap:=s₁.heap.push { cls:=.type "slice",data:=.fields #[.none,.none,.none] } }:=x₁.ex (.push _)
 have hp : (slicePick items none none none).toList = items.toList:=by
  rw [slicePick_plain]
  simp only [Option.elim,List.drop_zero,Nat.sub_zero]
  rw [List.take_of_length_le (by exact Nat.le_refl items.toList.length)]
 exact ⟨h₁.1.trans ((Ex.push _).trans (.push _)),x₃.newL (by rw [slicePick_plain]; simp; exact hz') (by rw [hp]; exact hvs.kp x₁.ft (.push _ _))⟩
end
theorem lets_ok : (lets.all fun x=>PyData.strOk x) = true:=by decide +kernel
theorem W6_ok : (W6.all fun x=>PyData.strOk x) = true:=by decide +kernel
theorem shaped_str {a : Str} (ha : PyData.strOk a = true) : SeqAt.shaped (.str a) = true:=by
 unfold SeqAt.shaped
 rw [Bool.and_eq_true]
 refine ⟨?_,rfl⟩
 show (PyData.strOk a) = true
 exact ha
theorem eqS_str (a b : Str) (ha : PyData.strOk a = true) (hb : PyData.strOk b = true) : eqS (.str a) (.str b) = some (a == b):=by
 have h : (SeqAt.shaped (.str a) && SeqAt.shaped (.str b)) = true:=by rw [shaped_str ha,shaped_str hb]; rfl
 show (if (SeqAt.shaped (.str a) && SeqAt.shaped (.str b)) = true then some (PyData.eqv (.str a) (.str b)) else none) = _
 rw [if_pos h]
 rfl
theorem lets_low : (lets.all fun x=>decide (Builtin.Str.tooLong (Txt.lower x).length = false) && decide (Txt.lower x∈lets)) = true:=by decide +kernel
theorem low_ok {x : Str} (h : x∈lets) : lwrS (.str x) = some (.str (Txt.lower x))∧Txt.lower x∈lets:=by
 obtain ⟨q1,q2⟩:=bA (List.all_eq_true.mp lets_low x h)
 exact ⟨if_pos (of_decide_eq_true q1),of_decide_eq_true q2⟩
theorem conv_low (σ : List CV) {h : CV} {x : Str} {its : List (Str × Str)} (hh : rd σ h = some (.hdr its)) (hx : x∈lets) : callS convS σ [h,.str x] [.bool true] = some (.str x):=by
 have q : convS [.hdr its,.str x] [.bool true] = some (.str x):=if_pos (.inl ⟨rfl,hx⟩)
 have q2 : ∀ h,convS [h,.str x] [.bool true] = some (.str x):=fun h=>if_pos (.inl ⟨rfl,hx⟩)
 unfold callS
 split
 ·exact q2 _
 ·show (rdAll σ [h,.str x]).bind _ = _
  have : rdAll σ [h,.str x] = some [.hdr its,.str x]:=by
   show (rd σ h).bind _ = _
   rw [hh]; rfl
  rw [this]
  show (rdAll σ [.bool true]).bind (fun kws=>(convS [.hdr its,.str x] kws).bind fun r=>if scal r then some r else none) = _
  show ((convS [.hdr its,.str x] [.bool true]).bind fun r=>if scal r then some r else none) = _
  rw [q]; rfl
section
variable {prog : Program} {w : World} {hT : Heap} {mg mb : Str→Option Value}
noncomputable def getF (its : List (Str × Str)) (n : Str) : Option (Str × Str):=its.find? fun p=>Txt.lower p.1 == n
noncomputable def getI (its : List (Str × Str)) (n : Str) : CV:=match getF its n with
 | some p=>.str p.2
 | none=>.none
noncomputable def nmsOk (its : List (Str × Str)) : Bool:=its.all fun p=>decide (p.1∈lets) && decide (p.2∈W6)
noncomputable def getS : List CV→List CV→Option CV:=fun l J=>on2 (fun v0_ v1_=>asH (fun its=>asS (fun x=>if x∈lets∧nmsOk its = true then some (getI its (Txt.lower x)) else none) v1_) v0_) l
noncomputable abbrev nilM : CM:=fun σ=>some (.next,σ)
noncomputable abbrev gMt : CV→List CV→Option (List CV):=tupT 2 (tcons (stF 3) (tcons (stF 4) tnil))
noncomputable abbrev gMb : CM:=seqM (ifM (fun σ=>((nm 3 σ).bind lwrS).bind fun a=>(nm 1 σ).bind fun b=>cmpS .Eq σ a b) (seqM (retM (nm 4)) nilM) nilM) nilM
theorem get_loop (h : CV) (n : Str) (hno : PyData.strOk n = true) : ∀ (its : List (Str × Str)) (a b : CV),nmsOk its = true→isM a = false→isM b = false→∃ a' b',isM a' = false∧isM b' = false ∧
  forTM gMt gMb (its.map hdrItem) [h,.str n,.none,a,b] = some (match getF its n with | some p=>.ret (.str p.2) | none=>.next,[h,.str n,.none,a',b']):=by
 intro its
 induction its with
 | nil =>
  intro a b _ ha hb
  exact ⟨a,b,ha,hb,rfl⟩
 | cons p0 its get_loop =>
  obtain ⟨k,v⟩:=p0
  intro a b hn ha hb
  unfold nmsOk at hn
  rw [List.all_cons,Bool.and_eq_true] at hn
  refine bc fun hG=>?_
  obtain ⟨hk,hn⟩:=hn
  obtain ⟨hk,_⟩:=bA hk
  obtain ⟨l1,l2⟩:=low_ok (of_decide_eq_true hk)
  refine hG ?_
  clear hG
  have e1 : gMt (hdrItem (k,v)) [h,.str n,.none,a,b] = some [h,.str n,.none,.str k,.str v]:=by
   show ((stF 3 (.str k) [h,.str n,.none,a,b]).bind fun σ=>(stF 4 (.str v) σ).bind _) = _
   have : stF 3 (.str k) [h,.str n,.none,a,b] = some [h,.str n,.none,.str k,b]:=if_pos ⟨rfl,(by decide : 3 < 5),ha⟩
   rw [this]
   show (stF 4 (.str v) [h,.str n,.none,.str k,b]).bind _ = _
   have : stF 4 (.str v) [h,.str n,.none,.str k,b] = some [h,.str n,.none,.str k,.str v]:=if_pos ⟨rfl,(by decide : 4 < 5),hb⟩
   rw [this]; rfl
  have e2 : (fun σ=>((nm 3 σ).bind lwrS).bind fun a=>(nm 1 σ).bind fun b=>cmpS .Eq σ a b) [h,.str n,.none,.str k,.str v] = some (Txt.lower k == n):=by
   show (lwrS (.str k)).bind (fun a=>cmpS .Eq [h,.str n,.none,.str k,.str v] a (.str n)) = _
   rw [l1]
   exact eqS_str _ _ (List.all_eq_true.mp lets_ok _ l2) hno
  have er : getF ((k,v)::its) n = if (Txt.lower k == n) = true then some (k,v) else getF its n:=by
   unfold getF
   rw [List.find?_cons]
   cases hq : (Txt.lower k == n) <;> rfl
  rw [List.map_cons]
  cases hq : (Txt.lower k == n)
  ·refine bc fun hG=>?_
   obtain ⟨a',b',h1,h2,h3⟩:=get_loop (.str k) (.str v) hn rfl rfl
   refine hG ?_
   clear hG
   refine ⟨a',b',h1,h2,?_⟩
   rw [er,hq]
   show (gMt (hdrItem (k,v)) [h,.str n,.none,a,b]).bind (loopM gMb (forTM gMt gMb (its.map hdrItem))) = _
   rw [e1]
   show (gMb _).bind _ = _
   refine ev_bind (ev_seq (ev_ifF (e2.trans (by rw [hq])) rfl) rfl) ?_
   exact h3
  ·refine ⟨.str k,.str v,rfl,rfl,?_⟩
   rw [er,hq]
   show (gMt (hdrItem (k,v)) [h,.str n,.none,a,b]).bind (loopM gMb (forTM gMt gMb (its.map hdrItem))) = _
   rw [e1]
   show (gMb _).bind _ = _
   refine ev_bind (ev_seqR (ev_ifT (e2.trans (by rw [hq])) (ev_seqR (v:=.str v) rfl))) ?_
   rfl
theorem get_fn (T : TopsH prog hT mg mb) : Fn prog w hT 1 (.ref 188) [] getS:=by
 refine bc fun hG=>?_
 obtain ⟨dV,R,dA,dO,dn,d1,d2,d3,d4⟩:=T.r188
 obtain ⟨k140,R140⟩:=T.r140
 refine hG ?_
 clear hG
 refine Fn.of_body T.tf R (by decide) (n:=3) ⟨rfl,by decide,rfl,rfl⟩ (fun A e X s0 P px W hA =>
  Rss.cons (Rs.asg W (i:=1) (.inl rfl) (Rf.callMtK T (fun K C=>⟨C.conv,C.t140⟩) (Rf.loc W (i:=0) rfl) R140 (by decide) (conv_fn T) (hA.mono (by decide)) (Rfs.cons (Rf.lower (Rf.loc W (i:=1) rfl)) Rfs.nil) Rf.bool))
   (Rss.cons (Rs.forT W (fun X=>Tg.tup (W.x X) (Tgs.cons (Tg.nm (i:=3) (W.x X) (.inl rfl)) (Tgs.cons (Tg.nm (i:=4) (W.x X) (.inl rfl)) Tgs.nil))) (Rf.hdrA T (Rf.loc W (i:=0) rfl)) px fun Z pz =>
     Rss.cons (Rs.ifS (Rt.com (W.x Z) (Rf.lower (Rf.loc (W.x Z) (i:=3) rfl)) (Rf.loc (W.x Z) (i:=1) rfl)) (Rss.cons (Rs.ret (Rf.loc (W.x Z) (i:=4) rfl) pz) Rss.nil) Rss.nil) Rss.nil)
    (Rss.cons (Rs.ret (Rf.loc W (i:=2) rfl) px) Rss.nil))) (fun cvs J=>cvs ++ [.none]) ?_ (by decide) (by decide) ?_
 ·intro s F fd hs h1 h2 h3 cvs kcvs vals kvals r hv hkv hkl hr
  replace hr:=on2_inv hr
  obtain ⟨_,_,rfl,hr⟩:=hr
  replace hr:=asH_inv hr
  obtain ⟨its,rfl,hr⟩:=hr
  replace hr:=asS_inv hr
  obtain ⟨x,rfl,hr⟩:=hr
  obtain ⟨v1,_,rfl,r1,hv⟩:=hv.cons_inv
  obtain ⟨v2,_,rfl,r2,hv⟩:=hv.cons_inv
  obtain rfl:=hv.nil_inv
  refine ⟨[v1,v2,.none],?_,rfl,.cons r1 (.cons r2 (.cons .none .nil))⟩
  cases fd; simp only at h1 h2 h3; subst h1 h2
  obtain rfl:=List.eq_nil_of_length_eq_zero hkl
  exact BindsTo.of_defaults d1 (hs.top.keep dA dO d2 d3) d4 rfl rfl
 ·intro cvs kcvs r h
  replace h:=on2_inv h
  obtain ⟨_,_,rfl,h⟩:=h
  replace h:=asH_inv h
  replace h:=h
  obtain ⟨its,rfl,h⟩:=h
  replace h:=asS_inv h
  replace h:=h
  obtain ⟨x,rfl,h⟩:=h
  split at h <;> first | exact none_ne h | skip
  rename_i hc
  cases h
  refine bc fun hG=>?_
  obtain ⟨l1,l2⟩:=low_ok hc.1
  obtain ⟨a',b',h1,h2,h3⟩:=get_loop (.hdr its) (Txt.lower x) (List.all_eq_true.mp lets_ok _ l2) its .unb .unb hc.2 rfl rfl
  refine hG ?_
  clear hG
  have e1 : callMt convS (nm 0) (fun σ=>((nm 1 σ).bind lwrS).bind fun v=>(some []).map (v::·)) (fun σ=>(some (CV.bool true)).map fun v=>[v]) [.hdr its,.str x,.none,.unb,.unb] = some (.str (Txt.lower x)):=by
   show ((lwrS (.str x)).bind fun v=>some [v]).bind (fun cvs=>callS convS _ (.hdr its::cvs) [.bool true]) = _
   rw [l1]
   exact conv_low _ rfl l2
  have e3 : getI its (Txt.lower x) = match getF its (Txt.lower x) with | some p=>.str p.2 | none=>.none:=rfl
  rw [e3]
  cases hf : getF its (Txt.lower x) with
  | none =>
   rw [hf] at h3
   exact ⟨.ret .none,[.hdr its,.str (Txt.lower x),.none,a',b'],ev_seq (ev_asg e1 rfl) (ev_seq h3 (ev_seqR rfl)),rfl⟩
  | some p =>
   rw [hf] at h3
   exact ⟨.ret (.str p.2),[.hdr its,.str (Txt.lower x),.none,a',b'],ev_seq (ev_asg e1 rfl) (ev_seqR h3),rfl⟩
noncomputable def itmS : List CV→List CV→Option CV:=fun l J=>on1 (fun v0_=>asH (fun its=>some (.list (its.map hdrItem))) v0_) l
theorem items_fn (T : TopsH prog hT mg mb) : Fn prog w hT 0 (.ref 205) [] itmS:=by
 refine Fn.plain (n:=1) T.tf T.r205 (by decide) ⟨rfl,by decide,rfl,rfl⟩ (fun A e X s0 P px W hA=>Rss.cons (Rs.ret (Rf.slice0 (Rf.hdrA T (Rf.loc W (i:=0) rfl))) px) Rss.nil) ?_ (by decide) (by decide) ?_
 ·intro fd vals h1 h2 h3 hl
  cases fd; simp only at h1 h2 h3; subst h1 h2 h3
  exact bind1 hl fun J=>rfl
 ·intro cvs kcvs r h
  replace h:=on1_inv h
  obtain ⟨_,rfl,h⟩:=h
  replace h:=asH_inv h
  obtain ⟨its,rfl,h⟩:=h
  cases h
  exact ⟨rfl,_,_,rfl,rfl⟩
end
noncomputable def callH (i : Nat) (spec : CV→List CV→List CV→Option CV) (ms : List CV→Option (List CV)) : CM:=fun σ=>(ms σ).bind fun cvs=>(mh? (σ.getD i .unb)).bind fun J=>if cvs.all noM = true then (spec (σ.getD i .unb) cvs []).map fun cv1=>(.next,σ.set i cv1) else none
theorem ev_callH {i : Nat} {spec : CV→List CV→List CV→Option CV} {ms : List CV→Option (List CV)} {σ cvs : List CV} {its : List (Str × Str)} {cv1 : CV} (h1 : ms σ = some cvs) (h2 : mh? (σ.getD i .unb) = some its) (hn : cvs.all noM = true) (h3 : spec (σ.getD i .unb) cvs [] = some cv1) :
  callH i spec ms σ = some (.next,σ.set i cv1):=by
 unfold callH
 rw [h1]
 show (mh? (σ.getD i .unb)).bind _ = _
 rw [h2]
 show (if cvs.all noM = true then (spec (σ.getD i .unb) cvs []).map fun cv1=>(CF.next,σ.set i cv1) else none) = _
 rw [if_pos hn,h3]; rfl
section
variable {prog : Program} {w : World} {hT : Heap} {c : FC} {own own' own'' : Nat→Option Addr} {σ σ' : List CV} {s s' s'' : Shared} {mg mb : Str→Option Value} {E : Value→Shared→Prop} {A : Around}
noncomputable def KindS (spec : CV→List CV→List CV→Option CV) : Prop:=∀ cv0 cvs kcvs cv1,spec cv0 cvs kcvs = some cv1→kindM cv0 = kindM cv1
theorem mh_nm {i : Nat} {its : List (Str × Str)} (e : mh? (σ.getD i .unb) = some its) : nm i σ = some (.own i):=by unfold nm; rw [mh_eq e]; rfl
theorem mh_isM {i : Nat} {its : List (Str × Str)} (e : mh? (σ.getD i .unb) = some its) : isM (σ.getD i .unb) = true:=by rw [mh_eq e]; rfl
theorem mh_isH {i : Nat} {its : List (Str × Str)} (e : mh? (σ.getD i .unb) = some its) : isH σ (.own i) = some its:=by
 show hdrOf (σ.getD i .unb) = _
 rw [mh_eq e]; rfl
theorem ER.instO {i : Nat} {its : List (Str × Str)} {v : Value} (e : mh? (σ.getD i .unb) = some its) (r : ER c own σ s.heap (.own i) v) : ∃ a ox od,v = .ref a∧InstAt s.heap a ox hdrC od∧∃ d l,HAt (FF c own) s.heap a d l its:=by
 refine bc fun hG=>?_
 obtain ⟨a,d,l,rfl,hat,_⟩:=r.inst (mh_isH e)
 obtain ⟨hs,t,n,I⟩:=hat.inst
 refine hG ?_
 clear hG
 exact ⟨a,_,_,rfl,I,d,l,hat⟩
theorem h_setItem {K : Frag} {a f : Addr} {ox : Obj} {od : Option Obj} {i v : Value} {Q : Unit→Shared→Prop} {M : Model} (X : K.In s.heap) (I : InstAt s.heap a ox hdrC od) (hq : noSeq K hdrC = true) (hs : findIn K (.ref hdrC) "__setitem__" = some (some (.ref f))) (hf : typeIn K (.ref f) = some (.type "function"))
  (h : wpAny M A (call (.ref f) [.ref a,i,v]) (fun J s'=>Q () s') E s) : wpAny M A (setItem (.ref a) i v) Q E s:=by
 unfold setItem sequenceKey
 refine wpAny_holding (wpAny_bind (wpAny_bind (I.type.here ?_)))
 refine wpAny_bind ((anyM_none X hq).here ?_)
 rw [if_pos (show (!false) = true from rfl)]
 exact wpAny_pure (wpAny_bind (special_fn X I hs hf (wpAny_mono h (fun J J z=>wpAny_pure z) fun J J z=>z)))
theorem h_delItem {K : Frag} {a f : Addr} {ox : Obj} {od : Option Obj} {i : Value} {Q : Unit→Shared→Prop} {M : Model} (X : K.In s.heap) (I : InstAt s.heap a ox hdrC od) (hq : noSeq K hdrC = true) (hs : findIn K (.ref hdrC) "__delitem__" = some (some (.ref f))) (hf : typeIn K (.ref f) = some (.type "function"))
  (h : wpAny M A (call (.ref f) [.ref a,i]) (fun J s'=>Q () s') E s) : wpAny M A (delItem (.ref a) i) Q E s:=by
 unfold delItem sequenceKey
 refine wpAny_holding (wpAny_bind (wpAny_bind (I.type.here ?_)))
 refine wpAny_bind ((anyM_none X hq).here ?_)
 rw [if_pos (show (!false) = true from rfl)]
 exact wpAny_pure (wpAny_bind (special_fn X I hs hf (wpAny_mono h (fun J J z=>wpAny_pure z) fun J J z=>z)))
theorem Rs.delH (T : TopsH prog hT mg mb) {y : Str} {py sp pos : Pos} {ix : PySem.Expr} {i k : Nat} {spec : CV→List CV→List CV→Option CV} {mz : List CV→Option CV} (hy : Rf prog w hT c (.Name y py) (nm i)) (hz : Rf prog w hT c ix mz)
  (hF : FnM prog w hT k (.ref 159) [] spec) (hkd : KindS spec) (hA : AOk (9 + k) c.A) :
  Rs prog w hT c (.Delete [.Subscript (.Name y py) ix sp] pos) (callH i spec fun σ=>(mz σ).map fun v=>[v]):=fun own σ s f σ' x e'=>by
 refine bc fun hG=>?_
 revert e'
 refine oR fun cvs e1 e'=>?_
 refine mE e1 fun z ez e3=>?_
 subst e3
 revert e'
 refine oR fun its e2 e'=>?_
 refine hG ?_
 clear hG
 replace e':=ite_opt e'
 obtain ⟨hn,e'⟩:=e'
 refine bc fun hG=>?_
 refine mE e' fun cv1 e4 e5=>?_
 cases e5
 obtain ⟨K,kin,C⟩:=T.k
 refine hG ?_
 clear hG
 refine wpAny_Delete (wpAny_deleteEach_cons ?_)
 rw [arm_delete_Subscript]
 refine wpAny_bind (wp_w (hy own σ s _ x (mh_nm e2)) fun ov s₁ h₁=>wpAny_bind (wpAny_holding ?_))
 have x₁:=x.ex h₁.1
 refine wp_w (hz own σ s₁ z x₁ ez) fun iv s₂ h₂=>wpAny_bind (wpAny_standAt (wpAny_bind (wpAny_holding ?_)))
 have x₂:=x₁.ex h₂.1
 have r0:=h₁.2.ex x₁ h₂.1
 refine bc fun hG=>?_
 obtain ⟨a,ox,od,rfl,I,_⟩:=r0.instO e2
 refine hG ?_
 clear hG
 refine h_delItem (x₂.kin kin C) I C.seq C.del C.t159 ?_
 refine wp_w (hF.use hkd hA x₂ (kvs:=[]) (kcvs:=[]) (cvs:=[z]) (vs:=[iv]) (lt_of_isM (mh_isM e2)) r0 ⟨rfl,fun j y u h3 h4=>?_⟩ ⟨rfl,fun j J J h=>by simp at h⟩ rfl (by rw [hn]; rfl) e4) fun J s₃ h₃=>wpAny_release (wpAny_deleteEach_nil ?_)
 ·cases j with
  | zero=>simp at h3 h4; subst h3 h4; exact h₂.2
  | succ j=>simp at h3
 ·exact SOut.trans x₂ (.of_ex (h₁.1.trans h₂.1)) (.refl _) .refl h₃
theorem Rs.setItH (T : TopsH prog hT mg mb) {y : Str} {py sp pos : Pos} {ix e : PySem.Expr} {i k : Nat} {spec : CV→List CV→List CV→Option CV} {mz me : List CV→Option CV} (hy : Rf prog w hT c (.Name y py) (nm i)) (hz : Rf prog w hT c ix mz) (he : Rf prog w hT c e me)
  (hF : FnM prog w hT k (.ref 154) [] spec) (hkd : KindS spec) (hA : AOk (9 + k) c.A) (hs : swapsWith e (some (.Subscript (.Name y py) ix sp)) pos.line c.env = pure false:=by rfl) :
  Rs prog w hT c (.Assign [.Subscript (.Name y py) ix sp] e pos) (callH i spec fun σ=>(mz σ).bind fun z=>(me σ).map fun v=>[z,v]):=fun own σ s f σ' x e'=>by
 refine bc fun hG=>?_
 revert e'
 refine oR fun cvs e1 e'=>?_
 refine oE e1 fun z ez e3=>?_
 refine mE e3 fun v e6 e7=>?_
 subst e7
 revert e'
 refine oR fun its e2 e'=>?_
 refine hG ?_
 clear hG
 replace e':=ite_opt e'
 obtain ⟨hn,e'⟩:=e'
 refine bc fun hG=>?_
 refine mE e' fun cv1 e4 e5=>?_
 cases e5
 obtain ⟨K,kin,C⟩:=T.k
 refine hG ?_
 clear hG
 refine wpAny_Assign_Subscript (wp_w (he own σ s v x e6) fun vv s₁ h₁=>?_) hs
 have x₁:=x.ex h₁.1
 refine wp_w (hy own σ s₁ _ x₁ (mh_nm e2)) fun ov s₂ h₂=>?_
 have x₂:=x₁.ex h₂.1
 refine wp_w (hz own σ s₂ z x₂ ez) fun iv s₃ h₃=>?_
 have x₃:=x₂.ex h₃.1
 have r0:=h₂.2.ex x₂ h₃.1
 have rv:=(h₁.2.ex x₁ h₂.1).ex x₂ h₃.1
 refine bc fun hG=>?_
 obtain ⟨a,ox,od,rfl,I,_⟩:=r0.instO e2
 refine hG ?_
 clear hG
 refine h_setItem (x₃.kin kin C) I C.seq C.set C.t154 ?_
 refine wp_w (hF.use hkd hA x₃ (kvs:=[]) (kcvs:=[]) (cvs:=[z,v]) (vs:=[iv,vv]) (lt_of_isM (mh_isM e2)) r0 ⟨rfl,fun j y u h3 h4=>?_⟩ ⟨rfl,fun j J J h=>by simp at h⟩ rfl (by rw [hn]; rfl) e4) fun J s₄ h₄=>?_
 ·match j,h3,h4 with
  | 0,h3,h4=>simp at h3 h4; subst h3 h4; exact h₃.2
  | 1,h3,h4=>simp at h3 h4; subst h3 h4; exact rv
  | j + 2,h3,h4=>simp at h3
 ·exact SOut.trans x₃ (.of_ex (h₁.1.trans (h₂.1.trans h₃.1))) (.refl _) .refl h₄
theorem Rs.methH (T : TopsH prog hT mg mb) (W : Wf c) {y name : Str} {py apos pos p2 : Pos} {e : PySem.Expr} {rest : List PySem.Expr} {f : Addr} {st : Stmt} {dV kV : Value} {i k : Nat} {spec : CV→List CV→List CV→Option CV} {ms : List CV→Option (List CV)}
  (hm : ∀ K,HCls K→findIn K (.ref hdrC) name = some (some (.ref f))∧typeIn K (.ref f) = some (.type "function")) (hy : Rf prog w hT c (.Name y py) (nm i)) (R : FnRec hT f st dV kV) (ha : f ≠ tabA) (hF : FnM prog w hT k (.ref f) [] spec) (hkd : KindS spec) (hA : AOk (9 + k) c.A) (hs : Rfs prog w hT c (e::rest) ms)
  (hn : ((Str.ofString "_headers") == name) = false:=by decide) (he : ∀ env,starEach (e::rest) env = (false,eval e env)::starEach rest env:=by intro _; rfl)
  (hform : ∀ env,methodCallForm ((e::rest).length + ([] : List Keyword).length) (backTo pos (starEach (e::rest) env)) (backToKw pos (keywordEach [] env)) = true:=by intro _; rfl) (hline : (apos.endLine == pos.line) = true:=by rfl) :
  Rs prog w hT c (.Expr (.Call (.Attribute (.Name y py) name apos) (e::rest) [] pos) p2) (callH i spec ms):=fun own σ s f' σ' x e'=>by
 refine bc fun hG=>?_
 revert e'
 refine oR fun cvs e1 e'=>?_
 revert e'
 refine oR fun its e2 e'=>?_
 refine hG ?_
 clear hG
 replace e':=ite_opt e'
 obtain ⟨hn',e'⟩:=e'
 refine bc fun hG=>?_
 refine mE e' fun cv1 e4 e5=>?_
 cases e5
 obtain ⟨K,kin,C⟩:=T.k
 obtain ⟨hm1,hm2⟩:=hm K C
 obtain ⟨o,fd,hd,ho⟩:=R.fn ha
 refine hG ?_
 clear hG
 refine wpAny_Expr_any (wp_callAttr rfl (hform _) hline (wp_w (hy own σ s _ x (mh_nm e2)) fun ov s₁ h₁ pl=>?_)) W.inter
 have x₁:=x.ex h₁.1
 refine bc fun hG=>?_
 obtain ⟨a,ox,od,rfl,I,d,l,hat⟩:=h₁.2.instO e2
 refine hG ?_
 clear hG
 refine hdr_method (h:=s₁.heap) (x₁.kin kin C) C hat hm1 hm2 hn ?_
 have hs':=hs pos own σ s₁ cvs x₁ e1
 show wpAny _ _ (callWith pos (.ref f) [.ref a] (backTo pos (starEach (e::rest) c.env)) []) _ _ _
 rw [he] at hs' ⊢
 refine callWith_function (o:=o) (fd:=fd) (evalArgs_plain (wp_w hs' fun vs s₂ h₂=>?_))
 have x₂:=x₁.ex h₂.1
 refine ⟨⟨ho s₂ x₂.at,hd⟩,?_⟩
 refine wp_w (hF.use hkd hA x₂ (kvs:=[]) (kcvs:=[]) (lt_of_isM (mh_isM e2)) (h₁.2.ex x₁ h₂.1) ⟨h₂.2.1,h₂.2.2⟩ ⟨rfl,fun i J J h=>by simp at h⟩ rfl (by rw [hn']; rfl) e4) fun J s₃ h₃=>?_
 exact SOut.trans x₂ (.of_ex (h₁.1.trans h₂.1)) (.refl _) .refl h₃
end
section
variable {prog : Program} {w : World} {A : Around} {E : Value→Shared→Prop} {s : Shared}
theorem ite_bind {α β : Type} {M : Model} {b : Prop} [Decidable b] {x y : Sem α} {k : α→Sem β} {a : α} {Q : β→Shared→Prop} (hx : wpAny M A x (fun r s'=>r = a∧s' = s) E s) (hy : wpAny M A y (fun r s'=>r = a∧s' = s) E s) (h : wpAny M A (k a) Q E s) : wpAny M A (if b then x >>= k else y >>= k) Q E s:=by
 split
 ·exact wpAny_bind (wpAny_mono hx (fun r s' q=>by rw [q.1,q.2]; exact h) fun J J q=>q)
 ·exact wpAny_bind (wpAny_mono hy (fun r s' q=>by rw [q.1,q.2]; exact h) fun J J q=>q)
theorem set_all {l sl r : Addr} {items new : Array Value} {n n' : Nat} {Q : Unit→Shared→Prop} (hl : IsL s.heap l items n) (hs : s.heap.IsSliceOf sl .none .none .none) (hr : IsL s.heap r new n') (h1 : items.size≤4096) (h2 : new.size≤4096)
  (hQ : ∀ h' k,Heap.SameBut l s.heap h'→IsL h' l new k→Q () { s with heap:=h' }) : wpAny (model prog w) A (setItem (.ref l) (.ref sl) (.ref r)) Q E s:=by
 refine bc fun hG=>?_
 obtain ⟨os,hos,hcs,hds⟩:=id hs
 refine hG ?_
 clear hG
 have hTs : s.TypeIs (.ref sl) "slice":=⟨os,hos,hcs⟩
 have hT : s.TypeIs (.ref l) "list":=⟨_,hl,rfl⟩
 unfold setItem
 refine wpAny_holding ?_
 refine wpAny_bind (wpAny_sequenceKey hT (by decide) ?_)
 refine wpAny_bind (wpAny_callSpecial?_slot (name:=Str.ofString "__setitem__") hT F.slot_list_setitem
  (wpAny_call_entry F.slot_list_setitem hT F.entry_list_setitem ?_ (F.args_list_setitem_3 _ _ _)))
 show wpAny _ _ (Builtin.List.listSubscript? (.ref sl) >>= _) _ _ s
 refine wpAny_bind ?_
 unfold Builtin.List.listSubscript?
 refine wpAny_bind (wpAny_specialOf hTs slice_no_index ?_)
 simp only [Option.isNone_none,if_true]
 refine wpAny_pure ?_
 show wpAny _ _ (typeOf (.ref sl) >>= _) _ _ s
 refine wpAny_bind (wpAny_typeOf hTs ?_)
 rw [if_neg (by decide)]
 rw [listSliceParts_eq]
 refine wpAny_bind (wpAny_bind (wpAny_field hos hds (x:=.none) rfl (wpAny_bind (wpAny_listPart .none ?_))))
 rw [if_neg (show ¬ ((rawPart none == rawInt 0) = true) from Bool.false_ne_true)]
 refine wpAny_bind (wpAny_field hos hds (x:=.none) rfl (wpAny_bind (wpAny_listPart .none ?_)))
 refine wpAny_bind (wpAny_field hos hds (x:=.none) rfl (wpAny_bind (wpAny_listPart .none (wpAny_pure ?_))))
 have lit : ∀ {A' : Around} {E' : Value→Shared→Prop} {v : Addr} {its : Array Value} {k : Nat} {Q' : Array Value→Shared→Prop},IsL s.heap v its k→Q' its s→wpAny (model prog w) A' (Builtin.List.listItems (.ref v)) Q' E' s:=by
  intro A' E' v its k Q' hv hq
  unfold Builtin.List.listItems
  exact wpAny_bind (wpAny_seqItems hv rfl (wpAny_pure hq))
 have ll : ∀ {A' : Around} {E' : Value→Shared→Prop} {msg : String} {Q' : Array Value→Shared→Prop},Q' new s→wpAny (model prog w) A' (Builtin.List.listAllItems (.ref r) msg) Q' E' s:=by
  intro A' E' msg Q' hq
  unfold Builtin.List.listAllItems
  refine wpAny_bind (wpAny_typeOf (T:="list") ⟨_,hr,rfl⟩ ?_)
  rw [if_pos (by decide)]
  exact lit hr hq
 refine ite_bind (a:=new) (lit hr ⟨rfl,rfl⟩) (ll ⟨rfl,rfl⟩) (wpAny_bind (lit hl ?_))
 refine wpAny_bind (wpAny_of_eq (sliceIndices_raw none none none items.size (by exact Ne.symm (Option.some_ne_none 0))) ?_)
 have hb : sliceBounds none none none items.size = (0,(items.size : Int),1):=rfl
 rw [hb]
 rw [if_pos (show ((1 : Int) == 1) = true from rfl)]
 refine wpAny_bind (wpAny_rule ?_)
 rw [if_neg (by unfold Builtin.List.listTooLong; simp [sizeLine_eq]; lia)]
 refine wpAny_bind ?_
 have hm : (max (0 : Int) (items.size : Int)).toNat = items.size:=by exact Nat.add_zero items.toList.length
 show wpAny _ _ (updateSeq l fun xs=>xs.extract 0 (0 : Int).toNat ++ new ++ xs.extract (max (0 : Int) (items.size : Int)).toNat xs.size) _ _ _
 rw [hm]
 refine wpAny_updateSeq hl rfl ?_ (by rw [sizeLine_eq]; exact Nat.le_trans h1 (by decide)) (by simp [sizeLine_eq]; exact Nat.le_trans h2 (by decide))
 refine wpAny_bind (wpAny_letGo (wpAny_pure ⟨_,rfl,wpAny_pure ?_⟩))
 have hu:=hl.update fun xs=>xs.extract 0 (Int.toNat 0) ++ new ++ xs.extract items.size
 have he : items.extract 0 (Int.toNat 0) ++ new ++ items.extract items.size = new:=by simp
 rw [he] at hu
 exact hQ _ _ (Heap.SameBut.update ..) hu
end
noncomputable def frz : CV→CV
 | .mlist vs=>.list vs
 | .mhdr its=>.hdr its
 | cv=>cv
theorem frz_at (σ : List CV) (i : Nat) : (σ.map frz).getD i .unb = frz (σ.getD i .unb):=by
 rw [List.getD_eq_getElem?_getD,List.getD_eq_getElem?_getD,List.getElem?_map]
 cases σ[i]? <;> rfl
section
variable {prog : Program} {w : World} {hT : Heap} {c : FC} {own own' own'' : Nat→Option Addr} {σ σ' : List CV} {s s' s'' : Shared} {mg mb : Str→Option Value}
theorem frz_of {z : CV} (h : isM z = false) : frz z = z:=by cases z <;> first | rfl | exact ff h.symm
theorem SR.thaw (x : SR hT c own σ s) (px : ∀ a,c.P a→¬ c.X a) : SR hT c noO (σ.map frz) s:=by
 have sub : ∀ a,FF c noO a→FF c own a:=fun a q=>by
  rcases q with q | q | q | ⟨j,q⟩
  ·exact .inl q
  ·exact .inr (.inl q)
  ·exact .inr (.inr (.inl q))
  ·exact none_ne q
 have nl : ∀ i l,own i = some l→¬ FF c noO l:=fun i l e q=>by
  rcases q with q | q | ⟨j,y,q1,_,q3⟩ | ⟨j,q⟩
  ·rcases x.ofr i l e with r | r
   ·exact r.2 q
   ·exact px l r q
  ·exact x.onl e q
  ·obtain ⟨a,ov,e1,e2,_⟩:=x.cel j y q1
   rw [e1] at q3; cases q3
   exact x.cno e2 e rfl
  ·exact none_ne q
 have sv : ∀ (i : Nat) (ov : Option Value),SV c own s.heap i (σ.getD i .unb) ov→SV c noO s.heap i ((σ.map frz).getD i .unb) ov:=fun i ov q=>by
  rw [frz_at]
  generalize σ.getD i .unb = z at q
  cases hz : isM z with
  | false=>rw [frz_of hz]; exact q.moveN hz fun b o hf e=>⟨fun f=>hf (sub b f),e⟩
  | true =>
   rcases isM_eq hz with ⟨vs,rfl⟩ | ⟨its,rfl⟩
   ·refine bc fun hG=>?_
    obtain ⟨v,l,e1,⟨a,rfl,e3⟩,e4,n,items,e5,e6,e7⟩:=q
    refine hG ?_
    clear hG
    cases e3.symm.trans e4
    exact ⟨_,e1,.list (nl _ _ e3) e5 e6 (e7.weak sub)⟩
   ·refine bc fun hG=>?_
    obtain ⟨v,l,e1,⟨a,d,l',hs,t,n,rfl,e3,n1,n2,e8,e9⟩,e4,ne,items,e5,e6,e7⟩:=q
    refine hG ?_
    clear hG
    cases e3.symm.trans e4
    exact ⟨_,e1,.hdr (fun q=>n1 (sub _ q)) (fun q=>n2 (sub _ q)) (nl _ _ e3) e8 e9 e5 e6 (e7.weak sub)⟩
 refine ⟨x.top,x.top0,x.pt,x.pa,x.os,x.gens,x.kp,x.tab,x.tok,x.xt,x.xa,x.lf,?_,fun i y hy=>?_,x.cinj,fun i j a e=>(by cases e),fun i a e=>(by cases e),fun i a e=>(by cases e)⟩
 ·obtain ⟨m,h1,h2⟩:=x.ns; exact ⟨m,h1,fun i y hy=>sv i _ (h2 i y hy)⟩
 ·refine bc fun hG=>?_
  obtain ⟨a,ov,h1,h2,h3,h4⟩:=x.cel i y hy
  refine hG ?_
  clear hG
  exact ⟨a,ov,h1,h2,sv i _ h3,h4⟩
noncomputable def pairs? : List CV→Option (List (Str × Str))
 | []=>some []
 | c::r=>asU (fun l=>on2 (fun a b=>asS (fun a=>asS (fun b=>(pairs? r).map ((a,b)::·)) b) a) l) c
theorem pairs_eq {cs : List CV} : ∀ {its : List (Str × Str)},pairs? cs = some its→cs = its.map hdrItem:=by
 induction cs with
 | nil=>intro its e; cases e; rfl
 | cons c cs ih =>
  intro its e
  replace e:=asU_inv e
  obtain ⟨l,rfl,e⟩:=e
  replace e:=on2_inv e
  obtain ⟨a,b,rfl,e⟩:=e
  replace e:=asS_inv e
  obtain ⟨x,rfl,e⟩:=e
  replace e:=asS_inv e
  obtain ⟨y,rfl,e⟩:=e
  obtain ⟨r,e1,rfl⟩:=oM e
  rw [ih e1]; rfl
theorem pair_off {F F' : Addr→Prop} {h : Heap} (hF : ∀ a,F' a→F a∨∃ it k,IsL h a it k) {p : Str × Str} {v : Value} (r : VR F h (hdrItem p) v) : VR F' h (hdrItem p) v:=by
 refine bc fun hG=>?_
 obtain ⟨a,items,n,rfl,hf,ht,hv⟩:=VR.tup_inv r
 refine hG ?_
 clear hG
 refine .tup (fun q=>?_) ht ?_
 ·rcases hF _ q with q | ⟨it,k,hl⟩
  ·exact hf q
  ·have q2:=congrArg (Option.map Obj.cls) (show h.get? a = _ from hl)
   rw [show h.get? a = _ from ht] at q2
   exact absurd (Value.type.inj (Option.some.inj q2)) (by decide)
 ·refine bc fun hG=>?_
  obtain ⟨u,us,e,r1,hv⟩:=hv.cons_inv
  obtain ⟨u',us',rfl,r2,hv⟩:=hv.cons_inv
  obtain rfl:=hv.nil_inv
  obtain ⟨_,rfl⟩:=VR.str_inv r1
  obtain ⟨_,rfl⟩:=VR.str_inv r2
  refine hG ?_
  clear hG
  rw [e]
  exact .cons (.str _ _) (.cons (.str _ _) .nil)
theorem pairs_off {F F' : Addr→Prop} {h : Heap} (hF : ∀ a,F' a→F a∨∃ it k,IsL h a it k) {its : List (Str × Str)} : ∀ {vs : List Value},VRs F h (its.map hdrItem) vs→VRs F' h (its.map hdrItem) vs:=by
 induction its with
 | nil=>intro vs r; obtain rfl:=r.nil_inv; exact .nil
 | cons p its ih =>
  intro vs r
  obtain ⟨u,us,rfl,r1,r2⟩:=r.cons_inv
  exact .cons (pair_off hF r1) (ih r2)
noncomputable def setHM (i : Nat) (m : List CV→Option CV) : CM:=fun σ=>(mh? (σ.getD i .unb)).bind fun J=>(m (σ.map frz)).bind (asL fun vs=>(pairs? vs).map fun its=>(.next,σ.set i (.mhdr its)))
set_option tactic.hygienic true in
theorem Rs.setH (T : TopsH prog hT mg mb) {y : Str} {py ap sp tp pos : Pos} {e : PySem.Expr} {i : Nat} {m : List CV→Option CV} (hy : Rf prog w hT c (.Name y py) (nm i)) (h : Rf prog w hT c e m) (px : ∀ a,c.P a→¬ c.X a)
  (hs : swapsWith e (some (.Subscript (.Attribute (.Name y py) "_headers" ap) (.Slice none none none sp) tp)) pos.line c.env = pure false:=by rfl) :
  Rs prog w hT c (.Assign [.Subscript (.Attribute (.Name y py) "_headers" ap) (.Slice none none none sp) tp] e pos) (setHM i m):=fun own σ s f σ' x e'=>by
 refine bc fun hG=>?_
 revert e'
 refine oR fun its e2 e'=>?_
 revert e'
 refine oR fun v e1 e'=>?_
 refine hG ?_
 clear hG
 replace e':=asL_inv e'
 refine bc fun hG=>?_
 obtain ⟨vs,rfl,e'⟩:=e'
 revert e'
 refine mR fun its' e3 e4=>?_
 cases e4
 obtain rfl:=pairs_eq e3
 refine hG ?_
 clear hG
 have x':=x.thaw px
 refine wpAny_Assign_Subscript (wp_w (h noO _ s _ x' e1) fun vv s₁ h₁=>?_) hs
 have x₁:=x.ex h₁.1
 have rv : VR (FF c noO) s₁.heap (.list (its'.map hdrItem)) vv:=h₁.2
 refine wp_hdr T x₁ hy e2 fun s₂ l items n ex₂ ho hl hz hv=>?_
 have x₂:=x₁.ex ex₂
 refine wpAny_Slice (wpAny_evalPart_none (wpAny_evalPart_none (wpAny_evalPart_none ?_)))
 cases rv with
 | list hf hr hz' hvs =>
  rename_i r new n'
  have exA : Ex s₂ { s₂ with heap:=s₂.heap.push { cls:=.type "slice",data:=.fields #[.none,.none,.none] } }:=.push _
  have x₃:=x₂.ex exA
  have hrt : r ≠ tabA:=fun q=>hf (.inl (q▸x.xt))
  have hr3:=exA.kp.keep r _ hrt (ex₂.kp.keep r _ hrt hr)
  refine set_all (hl.push _) (Heap.IsSliceOf.new ..) hr3 hz hz' fun h' k hsb hl'=>?_
  have hF : FF c own l:=.inr (.inr (.inr ⟨i,ho⟩))
  have mv : ∀ b o,¬ FF c own b→(s₂.heap.push { cls:=.type "slice",data:=.fields #[.none,.none,.none] }).get? b = some o→¬ FF c own b∧h'.get? b = some o:=fun b o hf e=>⟨hf,(hsb.2 b (fun q=>hf (q▸hF))).trans e⟩
  have hi:=mh_isM e2
  have hvs3 : VRs (FF c noO) (s₂.heap.push { cls:=.type "slice",data:=.fields #[.none,.none,.none] }) (its'.map hdrItem) new.toList:=(hvs.kp (.inl x.xt) ex₂.kp).kp (.inl x.xt) exA.kp
  have hFs : ∀ a,FF c own a→FF c noO a∨∃ it k,IsL (s₂.heap.push { cls:=.type "slice",data:=.fields #[.none,.none,.none] }) a it k:=fun a q=>by
   rcases q with q | q | q | ⟨j,q⟩
   ·exact .inl (.inl q)
   ·exact .inl (.inr (.inl q))
   ·exact .inl (.inr (.inr (.inl q)))
   ·exact .inr (x₃.oal j a q)
  have M:=x₃.mutL (i:=i) (cv':=.mhdr its') (tk:=s₂.toks) ho (lt_of_isM hi) hi (by rw [mh_eq e2]; rfl) hsb
   ⟨_,new,hl',hz',(pairs_off hFs hvs3).move mv⟩ ⟨_,_,hl'⟩
  exact SOut.trans x₃ (.of_ex (h₁.1.trans (ex₂.trans exA))) (.refl _) .refl ⟨own,M.1,M.2.1,.refl _,M.2.2,trivial⟩
end
section
variable {prog : Program} {w : World} {hT : Heap} {c : FC} {own own' own'' : Nat→Option Addr} {σ σ' : List CV} {s s' s'' : Shared} {mg mb : Str→Option Value}
end
noncomputable def delI (its : List (Str × Str)) (n : Str) : List (Str × Str):=its.filter fun p=>!(Txt.lower p.1 == n)
noncomputable def delS : CV→List CV→List CV→Option CV:=fun c l J=>asN (fun its=>on1 (asS fun x=>if x∈lets∧nmsOk its = true∧its.length≤4000 then some (.mhdr (delI its (Txt.lower x))) else none) l) c
noncomputable def setS : CV→List CV→List CV→Option CV:=fun c l J=>asN (fun its=>on2 (fun a b=>asS (fun x=>asS (fun v=>if x∈lets∧v∈W6∧nmsOk its = true∧its.length≤4000 then some (.mhdr (delI its (Txt.lower x) ++ [(x,v)])) else none) b) a) l) c
noncomputable def addS' : CV→List CV→List CV→Option CV:=fun c l J=>asN (fun its=>on2 (fun a b=>asS (fun x=>asS (fun v=>if x∈lets∧v∈W6∧its.length≤4000 then some (.mhdr (its ++ [(x,v)])) else none) b) a) l) c
theorem delS_shape {cv0 : CV} {cvs kcvs : List CV} {cv1 : CV} (h : delS cv0 cvs kcvs = some cv1) : ∃ its x,x∈lets∧nmsOk its = true∧its.length≤4000∧cv0 = .mhdr its∧cvs = [.str x]∧cv1 = .mhdr (delI its (Txt.lower x)):=by
 replace h:=asN_inv h
 obtain ⟨its,rfl,h⟩:=h
 replace h:=on1_inv h
 obtain ⟨_,rfl,h⟩:=h
 replace h:=asS_inv h
 obtain ⟨x,rfl,h⟩:=h
 obtain ⟨hc,rfl⟩:=ite_some h
 exact ⟨its,x,hc.1,hc.2.1,hc.2.2,rfl,rfl,rfl⟩
theorem setS_shape {cv0 : CV} {cvs kcvs : List CV} {cv1 : CV} (h : setS cv0 cvs kcvs = some cv1) : ∃ its x v,x∈lets∧v∈W6∧nmsOk its = true∧its.length≤4000∧cv0 = .mhdr its∧cvs = [.str x,.str v]∧cv1 = .mhdr (delI its (Txt.lower x) ++ [(x,v)]):=by
 replace h:=asN_inv h
 refine bc fun hG=>?_
 obtain ⟨its,rfl,h⟩:=h
 replace h:=on2_inv h
 obtain ⟨_,_,rfl,h⟩:=h
 replace h:=asS_inv h
 obtain ⟨x,rfl,h⟩:=h
 replace h:=asS_inv h
 obtain ⟨v,rfl,h⟩:=h
 obtain ⟨hc,rfl⟩:=ite_some h
 refine hG ?_
 clear hG
 exact ⟨its,x,v,hc.1,hc.2.1,hc.2.2.1,hc.2.2.2,rfl,rfl,rfl⟩
theorem addS_shape {cv0 : CV} {cvs kcvs : List CV} {cv1 : CV} (h : addS' cv0 cvs kcvs = some cv1) : ∃ its x v,x∈lets∧v∈W6∧its.length≤4000∧cv0 = .mhdr its∧cvs = [.str x,.str v]∧cv1 = .mhdr (its ++ [(x,v)]):=by
 replace h:=asN_inv h
 refine bc fun hG=>?_
 obtain ⟨its,rfl,h⟩:=h
 replace h:=on2_inv h
 obtain ⟨_,_,rfl,h⟩:=h
 replace h:=asS_inv h
 obtain ⟨x,rfl,h⟩:=h
 replace h:=asS_inv h
 obtain ⟨v,rfl,h⟩:=h
 obtain ⟨hc,rfl⟩:=ite_some h
 refine hG ?_
 clear hG
 exact ⟨its,x,v,hc.1,hc.2.1,hc.2.2,rfl,rfl,rfl⟩
theorem kd_del : KindS delS:=fun cv0 cvs kcvs cv1 h=>by obtain ⟨_,_,_,_,_,rfl,_,rfl⟩:=delS_shape h; rfl
theorem kd_set : KindS setS:=fun cv0 cvs kcvs cv1 h=>by obtain ⟨_,_,_,_,_,_,_,rfl,_,rfl⟩:=setS_shape h; rfl
theorem kd_add : KindS addS':=fun cv0 cvs kcvs cv1 h=>by obtain ⟨_,_,_,_,_,_,rfl,_,rfl⟩:=addS_shape h; rfl
theorem delI_len (its : List (Str × Str)) (n : Str) : (delI its n).length≤its.length:=List.length_filter_le _ _
theorem conv_own (σ : List CV) {i : Nat} {x : Str} {b : Bool} {its : List (Str × Str)} (hh : mh? (σ.getD i .unb) = some its) (hx : (b = true∧x∈lets)∨(b = false∧x∈W6)) : callS convS σ [.own i,.str x] [.bool b] = some (.str x):=by
 have q : convS [.hdr its,.str x] [.bool b] = some (.str x):=if_pos hx
 unfold callS
 rw [if_neg (by exact ne_true_of_eq_false rfl)]
 have hr : rd σ (.own i) = some (.hdr its):=by show ownRd (σ.getD i .unb) = _; rw [mh_eq hh]; rfl
 have : rdAll σ [.own i,.str x] = some [.hdr its,.str x]:=by
  show (rd σ (.own i)).bind _ = _
  rw [hr]; rfl
 rw [this]
 show ((convS [.hdr its,.str x] [.bool b]).bind fun r=>if scal r then some r else none) = _
 rw [q]; rfl
theorem ev_conv {σ : List CV} {i : Nat} {x : Str} {b : Bool} {its : List (Str × Str)} {ms : List CV→Option (List CV)} (hi : mh? (σ.getD i .unb) = some its) (hm : ms σ = some [.str x]) (hx : (b = true∧x∈lets)∨(b = false∧x∈W6)) :
  callMt convS (nm i) ms (fun σ=>(some (CV.bool b)).map fun v=>[v]) σ = some (.str x):=by
 unfold callMt
 rw [mh_nm hi]
 show (isH σ (.own i)).bind _ = _
 rw [mh_isH hi]
 show (ms σ).bind _ = _
 rw [hm]
 exact conv_own σ hi hx
theorem ev_setH {i : Nat} {m : List CV→Option CV} {σ : List CV} {its its' : List (Str × Str)} (h1 : mh? (σ.getD i .unb) = some its) (h2 : m (σ.map frz) = some (.list (its'.map hdrItem))) : setHM i m σ = some (.next,σ.set i (.mhdr its')):=by
 have hp : ∀ l : List (Str × Str),pairs? (l.map hdrItem) = some l:=by
  intro l
  induction l with
  | nil=>rfl
  | cons p l ih=>show (pairs? (l.map hdrItem)).map _ = _; rw [ih]; rfl
 unfold setHM
 rw [h1]
 show (m (σ.map frz)).bind _ = _
 rw [h2]
 show (pairs? (its'.map hdrItem)).map _ = _
 rw [hp]; rfl
theorem ev_appH {i : Nat} {m : List CV→Option CV} {σ : List CV} {its : List (Str × Str)} {a b : Str} (h1 : m σ = some (.tup [.str a,.str b])) (h2 : mh? (σ.getD i .unb) = some its) (h3 : its.length < 4096) : appHM i m σ = some (.next,σ.set i (.mhdr (its ++ [(a,b)]))):=by
 unfold appHM
 rw [h1]
 show (mh? (σ.getD i .unb)).bind _ = _
 rw [h2]
 exact if_pos h3
section
variable {prog : Program} {w : World} {hT : Heap} {mg mb : Str→Option Value}
noncomputable abbrev dComp : List CV→Option CV:=compV (fun σ=>(nm 0 σ).bind hdrL) [none,none,some 1] (stF 1) (fun σ=>(((nm 1 σ).bind fun a=>(some (CV.int 0)).bind fun b=>itemS σ a b).bind lwrS).bind fun a=>(nm 2 σ).bind fun b=>cmpS .NotEq σ a b) (emitM (nm 1))
theorem low_at {its : List (Str × Str)} (hn : nmsOk its = true) {q : Str × Str} (hq : q∈its) : lwrS (.str q.1) = some (.str (Txt.lower q.1))∧PyData.strOk (Txt.lower q.1) = true:=by
 have:=List.all_eq_true.mp hn q hq
 obtain ⟨h1,_⟩:=bA this
 obtain ⟨l1,l2⟩:=low_ok (of_decide_eq_true h1)
 exact ⟨l1,List.all_eq_true.mp lets_ok _ l2⟩
noncomputable def dP (n : Str) : CV→Bool
 | .tup [.str a,.str _]=>!(Txt.lower a == n)
 | _=>false
theorem dP_filter (its : List (Str × Str)) (n : Str) : ((its.map hdrItem).filter (dP n)).map (fun c=>c) = (delI its n).map hdrItem:=by
 rw [List.map_id']
 unfold delI
 induction its with
 | nil=>rfl
 | cons q its ih =>
  rw [List.map_cons,List.filter_cons,List.filter_cons]
  have : dP n (hdrItem q) = !(Txt.lower q.1 == n):=rfl
  rw [this]
  split
  ·rw [List.map_cons,ih]
  ·exact ih
theorem dComp_ok {its : List (Str × Str)} {n : Str} (hn : nmsOk its = true) (hl : its.length≤4000) (hno : PyData.strOk n = true) : dComp [.hdr its,.str n] = some (.list ((delI its n).map hdrItem)):=by
 rw [← dP_filter]
 refine ev_compR (v:=.list (its.map hdrItem)) (xs:=its.map hdrItem) rfl rfl (fun σ=>∃ k,isM k = false∧σ = [.unb,k,.str n]) (dP n) (fun c=>c) ?_ ⟨.unb,rfl,rfl⟩ (by simp; exact Nat.le_trans hl (by decide))
 rintro σ c hc ⟨k,hk,rfl⟩
 obtain ⟨q,hq,rfl⟩:=List.mem_map.mp hc
 obtain ⟨l1,l2⟩:=low_at hn hq
 refine ⟨[.unb,hdrItem q,.str n],if_pos ⟨rfl,(by decide : 1 < 3),hk⟩,?_,⟨_,rfl,rfl⟩,fun J=>⟨rfl,rfl⟩⟩
 show ((lwrS (.str q.1)).bind fun a=>cmpS .NotEq [.unb,hdrItem q,.str n] a (.str n)) = _
 rw [l1]
 show (eqS (.str (Txt.lower q.1)) (.str n)).map _ = _
 rw [eqS_str _ _ l2 hno]
 rfl
theorem del_fn (T : TopsH prog hT mg mb) : FnM prog w hT 1 (.ref 159) [] delS:=by
 obtain ⟨k140,R140⟩:=T.r140
 refine FnM.of_body T.tf T.r159 (n:=2) (y0:="self") (by decide) ⟨rfl,by decide,rfl,rfl⟩ (fun A e X s0 P px W hA =>
  Rss.cons (Rs.asg W (i:=1) (.inr ⟨rfl,rfl⟩) (Rf.callMtK T (fun K C=>⟨C.conv,C.t140⟩) (Rf.loc W (i:=0) rfl) R140 (by decide) (conv_fn T) (hA.mono (by decide)) (Rfs.cons (Rf.lower (Rf.cel W (i:=1) rfl)) Rfs.nil) Rf.bool))
   (Rss.cons (Rs.setH T (Rf.loc W (i:=0) rfl) (Rf.comp W (srcC_ok (src:=[none,none,some 1]) rfl) (compTurn_1 _ _ _ _ _ _) (Rf.hdrA T (Rf.loc W (i:=0) rfl)) (fun e2 Y2 s2 P2 W2=>(Ct.nm W2 (i:=1) rfl))
    (fun e2 Y2 s2 P2 W2=>(Ci.one (Rt.com W2 (Rf.lower (Rf.sb (Rf.loc W2 (i:=1) rfl) Rf.int)) (Rf.cel W2 (i:=2) rfl)))) (fun e2 Y2 s2 P2 W2=>Ac.emit rfl fun X2=>(Rf.loc (W2.x X2) (i:=1) rfl))) px) Rss.nil)) (fun cvs J=>cvs) ?_ (by decide) (by decide) rfl ?_
 ·intro s F fd hs hF h1 h2 h3 cv0 cvs kcvs cv1 v0 vals kvals hv hkv hkl hr
  refine bc fun hG=>?_
  obtain ⟨its,x,_,_,_,rfl,rfl,rfl⟩:=delS_shape hr
  refine hG ?_
  clear hG
  obtain rfl:=List.eq_nil_of_length_eq_zero hkl
  cases hv with
  | cons r1 hv =>
   cases hv
   refine ⟨_,.of_eq ?_,rfl,.cons r1 .nil⟩
   cases fd; simp only at h1 h2 h3; subst h1 h2 h3; rfl
 ·intro cv0 cvs kcvs cv1 hr
  refine bc fun hG=>?_
  obtain ⟨its,x,hx,hn,hl,rfl,rfl,rfl⟩:=delS_shape hr
  obtain ⟨l1,l2⟩:=low_ok hx
  refine hG ?_
  clear hG
  have c1:=ev_conv (σ:=[.mhdr its,.str x]) (i:=0) (b:=true) (x:=Txt.lower x) (ms:=fun σ=>((nm 1 σ).bind lwrS).bind fun v=>(some []).map (v::·)) rfl (ev_bind l1 rfl) (.inl ⟨rfl,l2⟩)
  exact ⟨.next,[.mhdr (delI its (Txt.lower x)),.str (Txt.lower x)],ev_seq (σ1:=[.mhdr its,.str (Txt.lower x)]) (ev_asg c1 rfl) (ev_seq (ev_setH (its:=its) rfl (dComp_ok hn hl (List.all_eq_true.mp lets_ok _ l2))) rfl),rfl,rfl⟩
theorem set_fn (T : TopsH prog hT mg mb) : FnM prog w hT 2 (.ref 154) [] setS:=by
 obtain ⟨k140,R140⟩:=T.r140
 refine FnM.of_body T.tf T.r154 (n:=3) (y0:="self") (by decide) ⟨rfl,by decide,rfl,rfl⟩ (fun A e X s0 P px W hA =>
  Rss.cons (Rs.delH T (Rf.loc W (i:=0) rfl) (Rf.loc W (i:=1) rfl) (del_fn T) kd_del (hA.mono (by decide)))
   (Rss.cons (Rs.appH T W (Rf.loc W (i:=0) rfl) (Rf.tup (Rfs.cons (Rf.callMtK T (fun K C=>⟨C.conv,C.t140⟩) (Rf.loc W (i:=0) rfl) R140 (by decide) (conv_fn T) (hA.mono (by decide)) (Rfs.cons (Rf.loc W (i:=1) rfl) Rfs.nil) Rf.bool)
    (Rfs.cons (Rf.callMtK T (fun K C=>⟨C.conv,C.t140⟩) (Rf.loc W (i:=0) rfl) R140 (by decide) (conv_fn T) (hA.mono (by decide)) (Rfs.cons (Rf.loc W (i:=2) rfl) Rfs.nil) Rf.bool) Rfs.nil)))) Rss.nil)) (fun cvs J=>cvs) ?_ (by decide) (by decide) rfl ?_
 ·intro s F fd hs hF h1 h2 h3 cv0 cvs kcvs cv1 v0 vals kvals hv hkv hkl hr
  refine bc fun hG=>?_
  obtain ⟨its,x,v,_,_,_,_,rfl,rfl,rfl⟩:=setS_shape hr
  refine hG ?_
  clear hG
  obtain rfl:=List.eq_nil_of_length_eq_zero hkl
  cases hv with
  | cons r1 hv=>cases hv with
   | cons r2 hv =>
    cases hv
    refine ⟨_,.of_eq ?_,rfl,.cons r1 (.cons r2 .nil)⟩
    cases fd; simp only at h1 h2 h3; subst h1 h2 h3; rfl
 ·intro cv0 cvs kcvs cv1 hr
  refine bc fun hG=>?_
  obtain ⟨its,x,v,hx,hv,hn,hl,rfl,rfl,rfl⟩:=setS_shape hr
  refine hG ?_
  clear hG
  have hd:=delI_len its (Txt.lower x)
  have e1 : delS (.mhdr its) [.str x] [] = some (.mhdr (delI its (Txt.lower x))):=if_pos ⟨hx,hn,hl⟩
  have c1:=ev_conv (σ:=[.mhdr (delI its (Txt.lower x)),.str x,.str v]) (i:=0) (ms:=fun σ=>(nm 1 σ).bind fun v=>(some []).map (v::·)) rfl rfl (.inl ⟨rfl,hx⟩)
  have c2:=ev_conv (σ:=[.mhdr (delI its (Txt.lower x)),.str x,.str v]) (i:=0) (ms:=fun σ=>(nm 2 σ).bind fun v=>(some []).map (v::·)) rfl rfl (.inr ⟨rfl,hv⟩)
  refine ⟨.next,[.mhdr (delI its (Txt.lower x) ++ [(x,v)]),.str x,.str v],ev_seq (σ1:=[.mhdr (delI its (Txt.lower x)),.str x,.str v]) (ev_callH rfl rfl rfl e1) (ev_seq (ev_appH (its:=delI its (Txt.lower x)) ?_ rfl (by lia)) rfl),rfl,rfl⟩
  exact ev_bind (ev_bind c1 (ev_map (ev_bind c2 rfl) rfl)) rfl
theorem store_fn (T : TopsH prog hT mg mb) : FnM prog w hT 3 (.ref 273) [] setS:=by
 refine FnM.of_body T.tf T.r273 (n:=3) (y0:="table") (by decide) ⟨rfl,by decide,rfl,rfl⟩ (fun A e X s0 P px W hA =>
  Rss.cons (Rs.setItH T (Rf.loc W (i:=0) rfl) (Rf.loc W (i:=1) rfl) (Rf.loc W (i:=2) rfl) (set_fn T) kd_set (hA.mono (by decide))) Rss.nil) (fun cvs J=>cvs) ?_ (by decide) (by decide) rfl ?_
 ·intro s F fd hs hF h1 h2 h3 cv0 cvs kcvs cv1 v0 vals kvals hv hkv hkl hr
  refine bc fun hG=>?_
  obtain ⟨its,x,v,_,_,_,_,rfl,rfl,rfl⟩:=setS_shape hr
  refine hG ?_
  clear hG
  obtain rfl:=List.eq_nil_of_length_eq_zero hkl
  cases hv with
  | cons r1 hv=>cases hv with
   | cons r2 hv =>
    cases hv
    refine ⟨_,.of_eq ?_,rfl,.cons r1 (.cons r2 .nil)⟩
    cases fd; simp only at h1 h2 h3; subst h1 h2 h3; rfl
 ·intro cv0 cvs kcvs cv1 hr
  refine bc fun hG=>?_
  obtain ⟨its,x,v,hx,hv,hn,hl,rfl,rfl,rfl⟩:=setS_shape hr
  refine hG ?_
  clear hG
  have e1 : setS (.mhdr its) [.str x,.str v] [] = some (.mhdr (delI its (Txt.lower x) ++ [(x,v)])):=if_pos ⟨hx,hv,hn,hl⟩
  exact ⟨.next,[.mhdr (delI its (Txt.lower x) ++ [(x,v)]),.str x,.str v],ev_seq (ev_callH rfl rfl rfl e1) rfl,rfl,rfl⟩
end
theorem bind_add {fd : FuncData} {v0 a b : Value} (h1 : fd.params = sArgs (meth 16)) (h2 : fd.defaults = .none) (h3 : fd.kwdefaults = .none) :
  bindArgs fd ⟨[v0,a,b],[]⟩ = (do let d ← alloc { cls:=.type "dict",data:=.dict #[] }; pure [("self",v0),("_name",a),("_value",b),("_params",.ref d)]):=by
 cases fd; simp only at h1 h2 h3; subst h1 h2 h3
 rfl
theorem ev_join {σ : List CV} {i : Nat} {x : Str} (h : σ.getD i .unb = .mlist [.str x]) (hx : x∈W6) : (nm i σ).bind (joinS σ) = some (.str x):=by
 have h1 : nm i σ = some (.own i):=by unfold nm; rw [h]; rfl
 rw [h1]
 show (lst σ (.own i)).bind _ = _
 have h2 : lst σ (.own i) = some [.str x]:=by show ownLst (σ.getD i .unb) = _; rw [h]; rfl
 rw [h2]
 exact if_pos hx
section
variable {prog : Program} {w : World} {hT : Heap} {mg mb : Str→Option Value}
theorem mods_lt (T : TF prog hT mg mb) {s : Shared} (hs : At hT s) : s.heap.objs.size ≠ sysModules:=by
 refine bc fun hG=>?_
 obtain ⟨mm,⟨o,es,ep,ho,_⟩,_⟩:=T.seer.mods
 refine hG ?_
 clear hG
 have:=Heap.lt_size (hs.top.keep _ _ (by decide) ho)
 exact fun q=>by rw [q] at this; exact Nat.lt_irrefl _ this
set_option tactic.hygienic true in
set_option maxRecDepth 100000 in
theorem add_fn (T : TopsH prog hT mg mb) : FnM prog w hT 1 (.ref 238) [] addS':=by
 obtain ⟨k140,R140⟩:=T.r140
 refine FnM.of_bodyX T.tf T.r238 (n:=4) (y0:="self") (by decide) ⟨rfl,by decide,rfl,rfl⟩ (fun A e X s0 P px W hA =>
  Rss.cons (Rs.asgO 8 W rfl (i:=4) (.inl rfl) (Rfr.lst Rfs.nil))
   (Rss.cons (Rs.ifS (Rt.com W (Rf.loc W (i:=2) rfl) Rf.non) (Rss.cons (Rs.asg W (i:=2) (.inl rfl) (Rf.callMtK T (fun K C=>⟨C.conv,C.t140⟩) (Rf.loc W (i:=0) rfl) R140 (by decide) (conv_fn T) (hA.mono (by decide)) (Rfs.cons (Rf.loc W (i:=2) rfl) Rfs.nil) Rf.bool))
     (Rss.cons (Rs.app W (i:=4) (.inl rfl) (Rf.loc W (i:=4) rfl) (Rf.loc W (i:=2) rfl)) Rss.nil)) Rss.nil)
    (Rss.cons (Rs.forE W (i:=3) rfl)
     (Rss.cons (Rs.appH T W (Rf.loc W (i:=0) rfl) (Rf.tup (Rfs.cons (Rf.callMtK T (fun K C=>⟨C.conv,C.t140⟩) (Rf.loc W (i:=0) rfl) R140 (by decide) (conv_fn T) (hA.mono (by decide)) (Rfs.cons (Rf.loc W (i:=1) rfl) Rfs.nil) Rf.bool)
      (Rfs.cons (Rf.join (Rf.loc W (i:=4) rfl)) Rfs.nil)))) Rss.nil)))) (fun cvs J=>cvs ++ [.edict]) ?_ (by decide) (by decide) rfl ?_
 ·intro s F fd hs hF hFa h1 h2 h3 cv0 cvs kcvs cv1 v0 vals kvals hv hkv hkl hr M A E Q hQ
  refine bc fun hG=>?_
  obtain ⟨its,x,v,_,_,_,rfl,rfl,rfl⟩:=addS_shape hr
  refine hG ?_
  clear hG
  obtain rfl:=List.eq_nil_of_length_eq_zero hkl
  cases hv with
  | cons r1 hv=>cases hv with
   | cons r2 hv =>
    cases hv
    rename_i v1 v2
    show wpAny M A (bindArgs fd ⟨[v0,v1,v2],[]⟩) Q E s
    rw [bind_add h1 h2 h3]
    refine wpAny_bind (wpAny_alloc (wpAny_pure ?_))
    have hn : s.heap.get? s.heap.objs.size = none:=by
     cases e : s.heap.get? s.heap.objs.size with
     | none=>rfl
     | some o=>exact absurd (Heap.lt_size e) (Nat.lt_irrefl _)
    have hnF : ¬ F s.heap.objs.size:=fun q=>by
     by_cases ht : s.heap.objs.size = tabA
     ·obtain ⟨ps,t⟩:=hs.tok
      have:=t.t.2
      rw [ht] at hn; rw [hn] at this; cases this
     ·obtain ⟨o,e,_⟩:=hFa _ q ht
      rw [hn] at e; cases e
    exact hQ _ [v1,v2,.ref s.heap.objs.size] (.push _) rfl (.cons (r1.kp hF (.push _ _)) (.cons (r2.kp hF (.push _ _)) (.cons (.edict hnF (mods_lt T.tf hs) (Heap.get?_push_size _ rfl)) .nil)))
 ·intro cv0 cvs kcvs cv1 hr
  refine bc fun hG=>?_
  obtain ⟨its,x,v,hx,hv,hl,rfl,rfl,rfl⟩:=addS_shape hr
  refine hG ?_
  clear hG
  have c1:=ev_conv (σ:=[.mhdr its,.str x,.str v,.edict,.mlist [],.unb,.unb,.unb]) (i:=0) (ms:=fun σ=>(nm 2 σ).bind fun v=>(some []).map (v::·)) rfl rfl (.inr ⟨rfl,hv⟩)
  have c2:=ev_conv (σ:=[.mhdr its,.str x,.str v,.edict,.mlist [.str v],.unb,.unb,.unb]) (i:=0) (ms:=fun σ=>(nm 1 σ).bind fun v=>(some []).map (v::·)) rfl rfl (.inl ⟨rfl,hx⟩)
  refine ⟨.next,[.mhdr (its ++ [(x,v)]),.str x,.str v,.edict,.mlist [.str v],.unb,.unb,.unb],
   ev_seq (σ1:=[.mhdr its,.str x,.str v,.edict,.mlist [],.unb,.unb,.unb]) (ev_asgO (cv:=.mlist []) rfl (Nat.le_refl 8) rfl)
    (ev_seq (σ1:=[.mhdr its,.str x,.str v,.edict,.mlist [.str v],.unb,.unb,.unb]) (ev_ifT rfl (ev_seq (ev_asg c1 rfl) (ev_seq (ev_app (vs:=[]) rfl rfl rfl (by decide)) rfl)))
     (ev_seq rfl (ev_seq (ev_appH (its:=its) (a:=x) (b:=v) ?_ rfl (by exact Nat.lt_of_le_of_lt hl (by decide))) rfl))),rfl,rfl⟩
  exact ev_bind (ev_bind c2 (ev_map (ev_bind (ev_join rfl hv) rfl) rfl)) rfl
end
section
variable {prog : Program} {w : World} {A : Around} {s : Shared} {K : Frag} {R : Result→Shared→Prop}
theorem osa_first {x C dx : Addr} {ox : Obj} {name : Str} {tk : Tok} {v : Value} (X : K.In s.heap) (I : InstAt s.heap x ox C (some emptyDict)) (hd : ox.dict = some dx) (hp : plainOver K C = true) (ht : takerIn K C name = some none) (hh : (clsIn K C).any (·.hasDict) = true)
  (h : ∀ h' hs t n,(∀ b,b ≠ dx→h'.get? b = s.heap.get? b)→h'.get? dx = some (dictOf [⟨hs,.str name t,v⟩] n)→R (.ok (.ret .none)) { s with heap:=h',toks:=s.toks + 1 }) :
  codeAny (model prog w) A (.call (.builtin "object.__setattr__") ⟨[.ref x,.str name tk,v],[]⟩) R s:=by
 refine osa_open X I hp ht fun b=>?_
 refine bc fun hG=>?_
 obtain ⟨cd,hc,hd'⟩:=any_some hh
 have D : s.heap.get? dx = some emptyDict:=by
  obtain ⟨_,_,_,q⟩:=I
  rw [hd] at q; exact q
 obtain ⟨hx,hcl,hn,-⟩:=I
 obtain ⟨oc,odi,oda,osl⟩:=ox
 refine hG ?_
 clear hG
 dsimp only at hcl hd
 subst hcl hd
 refine wpAny_bind (wpAny_pure (wpAny_bind (wpAny_bind (wpAny_loadPart hx (wpAny_bind ((looks_clsIn X hc).here ?_))))))
 rw [hd']
 refine wpAny_pure (a:=some dx) (wpAny_bind (wpAny_pure (wpAny_bind ?_)))
 unfold nsSet
 refine wpAny_bind (wpAny_bind (wpAny_askSetting (wpAny_pure (wpAny_bind (wpAny_mkText (wpAny_bind (wpAny_loadPart D ?_)))))))
 dsimp only
 rw [aRefKeyMayBeTheName_at,show (!(#[] : Array DictEntry).any (·.key.isStr name) && (#[] : Array DictEntry).any (·.refKey)) = false by simp]
 have e : Obj.putName name (PyData.keyHash w.params name) (.str name s.toks) v emptyDict = dictOf [⟨PyData.keyHash w.params name,.str name s.toks,v⟩] 1:=by
  rfl
 have D' : (s.heap.update dx (Obj.putName name (PyData.keyHash w.params name) (.str name s.toks) v)).get? dx = some (dictOf [⟨PyData.keyHash w.params name,.str name s.toks,v⟩] 1):=by
  rw [← e]
  exact Heap.get?_update_self _ D (by rw [e]; rfl)
 refine wpAny_updatePart D ?_
 refine wpAny_bind (wpAny_lookBehind D' (pastItsLine_dict (by rw [List.size_toArray,sizeLine_eq]; simp)) ?_)
 exact wpAny_pure (h _ _ _ _ (fun b hb=>Heap.get?_update_other _ _ (Ne.symm hb)) D')
end
section
variable {prog : Program} {w : World} {hT : Heap} {c : FC} {own own' own'' : Nat→Option Addr} {σ σ' : List CV} {s s' s'' : Shared} {mg mb : Str→Option Value}
theorem SR.atP (x : SR hT c own σ s) {I : Addr} (hx : c.X I) (hp : c.P I) (nl : I ≠ c.env.locals) (nc : ∀ (i : Nat) y a,c.names[i]? = some (y,NameKind.cell)→c.env.cells.lookup y = some a→a ≠ I) (no : ∀ i l,own i = some l→l ≠ I) (nt : I ≠ tabA) (nd : I ≠ codA)
  {h' : Heap} {tk : Nat} (hk : ∀ b o,b ≠ I→s.heap.get? b = some o→h'.get? b = some o) (hA : NF h' I) : SR hT c own σ { s with heap:=h',toks:=tk }:=by
 have hpT:=x.pt I hp
 have tab' : ∀ ps,TabOk s.heap ps→TabOk h' ps:=fun ps t=>by
  exact ⟨t.c.extBut hk (Ne.symm nd) (Ne.symm nt),t.t.extBut hk (Ne.symm nd) (Ne.symm nt),t.l.but (x.xa I hx nt) hk⟩
 have mv : ∀ b o,¬ FF c own b→s.heap.get? b = some o→¬ FF c own b∧h'.get? b = some o:=fun b o hf e=>⟨hf,hk b o (fun q=>hf (q▸.inl hx)) e⟩
 have ho : ∀ i l,own i = some l→∀ o,s.heap.get? l = some o→h'.get? l = some o:=fun i l e o=>hk l o (no i l e)
 refine ⟨⟨fun b o hb e=>hk b o (fun q=>by rw [q,hpT] at e; cases e) (x.top.keep b o hb e),fun ps t=>?_⟩,x.top0,x.pt,fun a h=>⟨(x.pa a h).1,?_⟩,x.os,⟨x.gens.b,x.gens.k⟩,fun b o hp' hb e=>hk b o (fun q=>hp' (q▸hp)) (x.kp b o hp' hb e),fun ps t=>?_,?_,x.xt,fun a h hta=>?_,x.lf,?_,fun i y hy=>?_,x.cinj,x.oinj,x.ofr,fun i a e=>?_⟩
 ·obtain ⟨m,t'⟩:=x.top.tab ps t; exact ⟨m,tab' _ t'⟩
 ·by_cases hb : a = I
  ·rw [hb]; obtain ⟨o,e,_⟩:=hA; exact ⟨o,e⟩
  ·obtain ⟨o,e⟩:=(x.pa a h).2; exact ⟨o,hk a o hb e⟩
 ·obtain ⟨m,t'⟩:=x.tab ps t; exact ⟨m,tab' _ t'⟩
 ·obtain ⟨ps,t⟩:=x.tok; exact ⟨ps,tab' _ t⟩
 ·by_cases hb : a = I
  ·rw [hb]; exact hA
  ·exact (x.xa a h hta).keeps fun o=>hk a o hb
 ·obtain ⟨m,h1,h2⟩:=x.ns
  exact ⟨m,h1.at' fun o=>hk _ o (Ne.symm nl),fun i y hy=>(h2 i y hy).step mv fun l hl=>⟨hl,ho i l hl⟩⟩
 ·refine bc fun hG=>?_
  obtain ⟨b,ov,h1,h2,h3,h4⟩:=x.cel i y hy
  refine hG ?_
  clear hG
  refine ⟨b,ov,h1,?_,h3.step mv fun l hl=>⟨hl,ho i l hl⟩,h4⟩
  obtain ⟨o,ho',hd⟩:=h2
  exact ⟨o,hk b o (nc i y b hy h1) ho',hd⟩
 ·obtain ⟨items,n,hl⟩:=x.oal i a e
  exact ⟨items,n,hk a _ (no i a e) hl⟩
theorem Rt.tt {k : Nat} {pos : Pos} : Rt prog w hT c (.Constant (.bool true) k pos) (fun J=>some true):=fun own σ s b x e=>by
 cases e
 exact wpAny_isTrue_value (wpAny_Constant_bool (wpAny_truthy_bool ⟨.refl _,rfl⟩))
theorem Rfr.iteF {t a b : PySem.Expr} {pos : Pos} {mt : List CV→Option Bool} {m2 : List CV→Option CV} (ht : Rt prog w hT c t mt) (h2 : Rfr prog w hT c b m2) :
  Rfr prog w hT c (.IfExp t a b pos) (fun σ=>(mt σ).bind fun q=>if q then none else m2 σ):=fun own σ s cv x e=>by
 refine bc fun hG=>?_
 refine oE e fun q e1 e2=>?_
 refine hG ?_
 clear hG
 cases q <;> first | (cases e2; done) | skip
 refine wpAny_IfExp (wp_w (ht own σ s _ x e1) fun v s₁ h₁=>?_)
 obtain ⟨q,rfl⟩:=h₁
 refine wp_w (h2 own σ s₁ cv (x.ex q) e2) fun v s₂ h=>?_
 refine bc fun hG=>?_
 obtain ⟨h1,h2,l,items,n,h3,r⟩:=h
 refine hG ?_
 clear hG
 refine ⟨q.trans h1,h2,l,items,n,?_,r⟩
 cases e : s.heap.get? l with
 | none=>rfl
 | some o =>
  by_cases ht : l = tabA
  ·obtain ⟨ps,t⟩:=(x.ex q).tobj
   rw [ht,t] at h3; cases h3
  ·rw [q.kp.keep l o ht e] at h3; cases h3
noncomputable def nilO (i : Nat) : CM:=fun σ=>(ml? (σ.getD i .unb)).bind (on0 (some (.next,σ)))
theorem Rs.forO {t : PySem.Expr} {y : Str} {py pos : Pos} {body : List Stmt} {i : Nat} (W : Wf c) (hy : Rf prog w hT c (.Name y py) (nm i)) (hs : ∀ x,foldedSetIterable (.Name y py) c.env x = pure x:=by intro _; rfl) :
  Rs prog w hT c (.For t (.Name y py) body [] pos) (nilO i):=fun own σ s f σ' x e'=>by
 refine bc fun hG=>?_
 refine oE e' fun J hq e=>?_
 obtain ⟨rfl,e⟩:=on0_inv e
 refine hG ?_
 clear hG e'
 cases e
 have hnm : nm i σ = some (.own i):=by unfold nm; rw [ml_eq hq]; rfl
 refine wpAny_For (wp_w (hy own σ s _ x hnm) fun v s₁ h₁=>?_) hs
 have x₁:=x.ex h₁.1
 refine bc fun hG=>?_
 obtain ⟨l,items,k,rfl,ho,hl,hz,hv⟩:=x₁.ml hq hnm h₁.2
 refine hG ?_
 clear hG
 refine Src.list (prog:=prog) (w:=w) (F:=FF c own) (fz:=false) hl hv (x₁.one ho) (fun q=>by cases q) _ _ _ W.aok.hd fun o fp P St hW h0 hfr hal hfp hP=>?_
 refine codeAny_forLoop_any (fun n s'=>s' = _) ?_ 0 rfl
 rintro n s' rfl
 refine (hW c.A W.aok.hd).done _ _ _ h0 fun h3 tk3 hk3=>wpAny_execs_nil ?_
 have hE : Ex s₁ { s₁ with heap:=h3,toks:=tk3 }:=⟨.of_all fun b o e=>hk3 b o (by simp; exact Nat.ne_of_lt (Heap.lt_size e)) (Heap.get?_push_of_some _ e),rfl,.same rfl⟩
 exact ⟨own,x₁.ex hE,.of_ex (h₁.1.trans hE),.refl _,.refl,trivial⟩
end
noncomputable def iS (i : Nat) : Stmt:=(sBody (meth 0)).getD i (.Pass ⟨0,0,0,0⟩)
theorem init_body : sBody (meth 0) = [iS 0,iS 1,iS 2,iS 3]:=rfl
section
variable {prog : Program} {w : World} {hT : Heap} {c : FC} {own own' own'' : Nat→Option Addr} {σ σ' : List CV} {s s' s'' : Shared} {mg mb : Str→Option Value}
theorem exec_Assign_Attribute (o attr pos' value pos) (env : Env) (hs : swapsWith value (some (.Attribute o attr pos')) pos.line env = pure false) : exec (.Assign [.Attribute o attr pos'] value pos) env =
  (do standAt pos; let v ← eval value env; assign (.Attribute o attr pos') env v; pure .next):=by
 have e : exec (.Assign [.Attribute o attr pos'] value pos) env = (do
   standAt pos
   if ← swapsWith value (some (.Attribute o attr pos')) pos.line env then
    evalThenUse value env (assign (.Attribute o attr pos') env)
    return .next
   let v ← eval value env
   assign (.Attribute o attr pos') env v
   pure .next):=rfl
 rw [e,hs]; rfl
theorem wpAny_Assign_Attribute {M : Model} {A : Around} {E : Value→Shared→Prop} {env : Env} {o attr pos' value pos} {Q : Flow→Shared→Prop} (h : wpAny M A (eval value env) (fun v s₁=>wpAny M A (eval o env) (fun ov s₂=>wpAny M A (setAttr ov attr v) (fun J=>Q .next) E s₂) E s₁) E s)
  (hs : swapsWith value (some (.Attribute o attr pos')) pos.line env = pure false:=by rfl) : wpAny M A (exec (.Assign [.Attribute o attr pos'] value pos) env) Q E s:=by
 rw [exec_Assign_Attribute _ _ _ _ _ _ hs]
 refine wpAny_bind (wpAny_standAt (wpAny_bind (wpAny_mono h (fun v s₁ h₁=>?_) fun J J e=>e)))
 rw [arm_assign_Attribute]
 refine wpAny_bind (wpAny_bind (wpAny_holding (wpAny_mono h₁ (fun ov s₂ h₂=>?_) fun J J e=>e)))
 exact wpAny_bind (wpAny_standAt (wpAny_bind (wpAny_holding (wpAny_mono h₂ (fun J s₃ h₃=>wpAny_release (wpAny_pure h₃)) fun J J e=>e))))
theorem attr_set {K : Frag} {A : Around} {E : Value→Shared→Prop} {D I : Addr} {v : Value} {Q : Unit→Shared→Prop} (X : K.In s.heap) (C : HCls K) (hI : s.heap.get? I = some (instObj hdrC D)) (hD : s.heap.get? D = some emptyDict)
  (h : ∀ h' hs t n tk,(∀ b,b ≠ D→h'.get? b = s.heap.get? b)→h'.get? D = some (dictOf [⟨hs,.str "_headers" t,v⟩] n)→Q () { s with heap:=h',toks:=tk }) : wpAny (model prog w) A (setAttr (.ref I) "_headers" v) Q E s:=by
 have Ii : InstAt s.heap I (instObj hdrC D) hdrC (some emptyDict):=⟨hI,rfl,rfl,hD⟩
 refine set_plain X Ii C.sat (osa_first (s:={ s with toks:=s.toks + 1 }) (dx:=D) X Ii rfl C.plain ?_ ?_ fun h' hs t n hk hd=>?_)
 ·unfold takerIn; rw [C.fh]; rfl
 ·obtain ⟨cd,c1,c2⟩:=C.cls
  rw [c1]; exact c2
 ·exact h h' hs t n _ hk hd
noncomputable abbrev iM : List CV→Option Bool:=fun σ=>(nm 1 σ).bind fun a=>(some CV.none).bind fun b=>cmpS .IsNot σ a b
theorem init_run (T : TopsH prog hT mg mb) {A : Around} {s : Shared} {F : Addr→Prop} {D I : Addr} {R : Result→Shared→Prop} (hA : AOk 10 A) (hs : At hT s) (hF : F tabA) (hFa : ∀ a,F a→a ≠ tabA→NF s.heap a) (hD : s.heap.get? D = some emptyDict) (hI : s.heap.get? I = some (instObj hdrC D)) (hDT : hT.get? D = none) (hDF : F D) (hDt : D ≠ tabA)
  (hR : ∀ s' l hs t n items k,ExM D s s'→s.heap.get? l = none→s'.heap.get? D = some (hdrDict hs t l n)→IsL s'.heap l items k→items.toList = []→R (.ok (.ret .none)) s') : codeAny (model prog w) A (.call (.ref 133) ⟨[.ref I],[]⟩) R s:=by
 refine bc fun hG=>?_
 obtain ⟨dV,RR,dA,dO,dn,d1,d2,d3,d4⟩:=T.r133
 refine hG ?_
 clear hG
 refine fn_run T.tf RR (by decide) ⟨rfl,by decide,rfl,rfl⟩ (n:=2) (k:=1) (by decide) (by decide) (F:=F) (P:=fun b=>b = D) (own:=noO) (σ0:=[.ref I,.none,.unb,.unb,.unb,.unb,.unb,.unb]) (Good:=fun s' vs=>s' = s∧vs = [.ref I,.none]) hA hs (fun fd hpar hdef hkw M A E Q q=>?_) hF hFa (fun a q=>q▸⟨hDT,hDt,_,hD⟩) (fun i j a e=>nomatch e) (fun i a e=>nomatch e) (fun J J i a e=>nomatch e)
  (fun s' vs g J i v hv c' h' mv kp=>?_) (fun s' vs g hl i hi'=>?_) fun env s' s₁ ee hg J hloc keep W hAd sr=>?_
 ·have hbt : BindsTo s fd ⟨[.ref I],[]⟩ [("self",.ref I),("headers",.none)]:=by
   cases fd; simp only at hpar hdef hkw; subst hpar hdef
   exact BindsTo.of_defaults d1 (hs.top.keep dA dO d2 d3) d4 rfl rfl
  exact hbt _ _ _ _ (q s [.ref I,.none] (.refl s) rfl ⟨rfl,rfl⟩)
 ·exact (fill_at (xs:=[.ref I,.none]) (k:=6) (.cons (.ref I) (.cons .none .nil)) (g.2▸hv)).sv
 ·exact unb_off (xs:=[.ref I,.none]) (k:=6) rfl hi'
 ·refine bc fun hG=>?_
  obtain ⟨_,rfl,_⟩:=hg
  refine hG ?_
  clear hG
  generalize hcE : (⟨A.deeper env,{ env with scope:=sScope (meth 0) },F,s',(fun b=>b = D),fun J=>false⟩ : FC) = c at W sr
  have hcN : c.names = (sScope (meth 0)).names:=by rw [← hcE]
  have hce : c.env = { env with scope:=sScope (meth 0) }:=by rw [← hcE]
  have hcA : c.A = A.deeper env:=by rw [← hcE]
  have hcX : c.X = F:=by rw [← hcE]
  have hcs : c.s0 = s':=by rw [← hcE]
  have hcP : c.P = (fun b=>b = D):=by rw [← hcE]
  have hcl : c.env.locals = s'.heap.objs.size:=by rw [hce]; exact hloc
  clear hcE
  have n0 : c.names[0]? = some (("self" : Str),NameKind.local):=by rw [hcN]; rfl
  have n1 : c.names[1]? = some (("headers" : Str),NameKind.local):=by rw [hcN]; rfl
  have n4 : c.names[4]? = some (("type" : Str),NameKind.globalImplicit):=by rw [hcN]; rfl
  have n5 : c.names[5]? = some (("list" : Str),NameKind.globalImplicit):=by rw [hcN]; rfl
  have nN : c.names.length = 8:=by rw [hcN]; rfl
  have noCell : ∀ (i : Nat) y,c.names[i]? ≠ some (y,NameKind.cell):=fun i y q=>by
   rw [hcN] at q
   exact (by decide : ∀ z∈(sScope (meth 0)).names,z.2 ≠ NameKind.cell) _ (List.mem_of_getElem? q) rfl
  have Dl : D ≠ c.env.locals:=by rw [hcl]; exact Nat.ne_of_lt (Heap.lt_size hD)
  have R0 : Rs prog w hT c (iS 0) _:=Rs.asgO 8 W nN (i:=1) (.inl n1) (Rfr.iteF (Rt.com W (Rf.loc W n1) Rf.non) (Rfr.lst Rfs.nil))
  have R1 : Rs prog w hT c (iS 1) _:=Rs.ifS (Rt.com W (Rf.callT (T.type_ W n4) (Rfs.cons (Rf.loc W n1) Rfs.nil) type_ok) (T.list_ W n5)) Rss.any Rss.nil
  have R3 : Rs prog w hT c (iS 3) (ifM (fun J=>some true) (seqM (nilO 1) nilM) nilM):=Rs.ifS (prog:=prog) (w:=w) (hT:=hT) (mt:=fun J=>some true) (m1:=seqM (nilO 1) nilM) (m2:=nilM) Rt.tt (Rss.cons (Rs.forO W (Rf.loc W n1)) Rss.nil) Rss.nil
  rw [init_body,← hcA,← hce]
  have kL : ∀ {own : Nat→Option Addr} {σ : List CV} {s : Shared} {b : Addr} {o : Obj},SR hT c own σ s→s.heap.get? b = some o→o.cls ≠ .type "list"→∀ j a,own j = some a→a ≠ b:=fun x e hn j a q r=>by
   obtain ⟨it,k,hl⟩:=x.oal j a q
   have hl' : _ = _:=hl
   rw [r,e] at hl'
   exact hn (by cases hl'; rfl)
  have nM : ∀ {own : Nat→Option Addr} {b : Addr},b ≠ c.env.locals→(∀ j a,own j = some a→a ≠ b)→¬ Mut c own b:=fun hb ho q=>by
   rcases q with q | ⟨i,y,q,_⟩ | ⟨j,q⟩
   ·exact hb q
   ·exact noCell i y q
   ·exact ho j _ q rfl
  have Il : I ≠ c.env.locals:=by rw [hcl]; exact Nat.ne_of_lt (Heap.lt_size hI)
  have It : I ≠ tabA:=fun q=>by
   obtain ⟨ps,t⟩:=hs.tok
   have:=t.t.2
   rw [← q,hI] at this; cases this
  have cD : (emptyDict).cls ≠ .type "list":=by decide
  have cE : ∀ {es : List DictEntry} {n : Nat},(dictOf es n).cls ≠ .type "list":=fun {_ _}=>(by decide : Value.type "dict" ≠ .type "list")
  have cI : (instObj hdrC D).cls ≠ .type "list":=by intro q; cases q
  have D1 : s₁.heap.get? D = some emptyDict:=keep _ _ hD
  have I1 : s₁.heap.get? I = some (instObj hdrC D):=keep _ _ hI
  have e0 : asgOM 8 1 (fun σ=>(iM σ).bind fun q=>if q then none else (fun σ=>(some ([] : List CV)).bind fun vs=>if (vs.all noM && decide (vs.length≤4096)) = true then some (.mlist vs) else none) σ) [.ref I,.none,.unb,.unb,.unb,.unb,.unb,.unb] = some (.next,[.ref I,.mlist [],.unb,.unb,.unb,.unb,.unb,.unb]) :=
   ev_asgO (cv:=.mlist []) rfl (Nat.le_refl 8) rfl
  refine wpAny_execs_cons (wp_f (R0 noO _ s₁ .next [.ref I,.mlist [],.unb,.unb,.unb,.unb,.unb,.unb] sr e0) fun fl s₂ y=>?_)
  obtain ⟨own2,x2,k2,l2,p2,r2⟩:=y
  cases fl <;> first | exact r2.elim | skip
  have D2 : s₂.heap.get? D = some emptyDict:=k2.keep D _ (nM Dl fun j a q=>by cases q) hDt D1
  have I2 : s₂.heap.get? I = some (instObj hdrC D):=k2.keep I _ (nM Il fun j a q=>by cases q) It I1
  refine wpAny_execs_cons (wp_f (R1 own2 _ s₂ .next [.ref I,.mlist [],.unb,.unb,.unb,.unb,.unb,.unb] x2 (ev_ifF rfl rfl)) fun fl s₃ y=>?_)
  obtain ⟨own3,x3,k3,l3,p3,r3⟩:=y
  cases fl <;> first | exact r3.elim | skip
  have D3 : s₃.heap.get? D = some emptyDict:=k3.keep D _ (nM Dl (kL x2 D2 cD)) hDt D2
  have I3 : s₃.heap.get? I = some (instObj hdrC D):=k3.keep I _ (nM Il (kL x2 I2 cI)) It I2
  refine bc fun hG=>?_
  obtain ⟨K,kin,C⟩:=T.k
  refine hG ?_
  clear hG
  refine wpAny_execs_cons (wpAny_Assign_Attribute (wp_f (Rf.loc W n1 (by decide) own3 _ s₃ (.own 1) x3 rfl) fun v s₄ h₄=>wp_f (Rf.loc W n0 (by decide) own3 _ s₄ (.ref I) (x3.ex h₄.1) rfl) fun ov s₅ h₅=>?_))
  have x4:=x3.ex h₄.1
  have x5:=x4.ex h₅.1
  have hv:=h₅.2
  cases hv
  obtain ⟨l,items,k,rfl,ho,_⟩:=x4.ml (i:=1) (vs:=[]) rfl rfl h₄.2
  have D5 : s₅.heap.get? D = some emptyDict:=h₅.1.kp.keep D _ hDt (h₄.1.kp.keep D _ hDt D3)
  have I5 : s₅.heap.get? I = some (instObj hdrC D):=h₅.1.kp.keep I _ It (h₄.1.kp.keep I _ It I3)
  refine attr_set (x5.kin kin C) C I5 D5 fun h' hs' t n tk hk hd=>?_
  have x6:=x5.atP (I:=D) (h':=h') (tk:=tk) (by rw [hcX]; exact hDF) (by rw [hcP]) Dl (fun i y a q=>absurd q (noCell i y)) (kL x5 D5 cD) hDt (fun q=>by
   obtain ⟨ps,t⟩:=x5.tok
   obtain ⟨⟨oc,vc,e1,e2,e3,_⟩,_⟩:=t.t
   rw [← q,D5] at e1; cases e1; cases e3) (fun b o hb e=>(hk b hb).trans e) ⟨_,hd,.inr fun vs e=>by cases e⟩
  refine wpAny_execs_cons (wp_f (R3 own3 _ _ .next [.ref I,.mlist [],.unb,.unb,.unb,.unb,.unb,.unb] x6 (ev_ifT rfl (ev_seq rfl rfl))) fun fl s₇ y=>?_)
  obtain ⟨own7,x7,k7,l7,p7,r7⟩:=y
  cases fl <;> first | exact r7.elim | skip
  refine wpAny_execs_nil ?_
  have D7 : s₇.heap.get? D = some (dictOf [⟨hs',.str "_headers" t,.ref l⟩] n):=k7.keep D _ (nM Dl (kL x6 hd cE)) hDt hd
  have q1:=(p7 1 rfl).1
  refine bc fun hG=>?_
  obtain ⟨l',items',k',e1,e2,e3,e4⟩:=x7.ml' (i:=1) (vs:=[]) (.inl n1) rfl
  refine hG ?_
  clear hG
  rw [q1,ho] at e1; cases e1
  refine hR s₇ l hs' t n items' k' ⟨by rw [x7.os,hcs],by have:=x7.gens.gk; rw [hcs] at this; exact this,fun b o hb ht e=>x7.kp b o (by rw [hcP]; exact hb) ht (by rw [hcs]; exact e),fun ps t=>x7.tab ps (by rw [hcs]; exact t)⟩ ?_ D7 e2 ?_
  ·rcases x7.ofr 1 l (q1.trans ho) with q | q
   ·rw [← hcs]; exact q.1
   ·rw [hcP] at q
    exact absurd q (kL x7 D7 cE 1 l (q1.trans ho))
  ·generalize items'.toList = z at e4
   cases e4; rfl
end
section
variable {prog : Program} {w : World} {hT : Heap} {c : FC} {own own' own'' : Nat→Option Addr} {σ σ' : List CV} {s s' s'' : Shared} {mg mb : Str→Option Value}
theorem aok_make {A : Around} {k : Nat} (h : AOk (k + 1) A) (C : Addr) : AOk k (A.under (.builtin "type.__call__" ⟨.ref C::[],[]⟩)):=by
 refine ⟨h.hd,?_,?_,?_⟩
 ·have:=h.dp; show A.depth + 1 + k≤800; lia
 ·have:=h.un
  show A.units + 1 + 20 * k≤9000
  lia
 ·obtain ⟨l,e⟩:=h.fs
  exact ⟨(Code.builtin "type.__call__" ⟨.ref C::[],[]⟩).envs ++ l,by
   show pushEnvs (Code.builtin "type.__call__" ⟨.ref C::[],[]⟩).envs A.frames = _
   rw [pushEnvs_eq,e]; rfl⟩
theorem Rfr.mkH (T : TopsH prog hT mg mb) {y : Str} {py pos : Pos} (hf : Rf prog w hT c (.Name y py) (fun J=>some (.ref hdrC))) (hA : AOk 11 c.A) : Rfr prog w hT c (.Call (.Name y py) [] [] pos) (fun J=>some (.mhdr [])):=fun own σ s cv x e=>by
 cases e
 refine wpAny_Call_Name_kw (wp_w (hf own σ s _ x rfl) fun fv s₁ h₁=>?_)
 have hv:=h₁.2
 cases hv
 have x₁:=x.ex h₁.1
 have ex₁:=h₁.1
 obtain ⟨K,kin,C⟩:=T.k
 have X:=x₁.kin kin C
 clear h₁
 refine callWith_of (P:=K.In) rfl (keeps_K C.keep) (PySem.evalArgs_none ⟨X,?_⟩)
 show wpAny _ _ (call (.ref hdrC) [] []) _ _ _
 refine wpAny_call ?_
 obtain ⟨h,g,d,t,os⟩:=s₁
 have X : K.In h:=X
 refine make_core (rest:=[]) (kw:=[]) (init:=.ref 133) (makes_of X C.mks) (looks_findIn X C.ini) (fun self=>bind_fn X self C.t133) (.inl rfl) ?_
 have fr : h.get? h.objs.size = none:=freshAt ⟨h,g,d,t,os⟩
 have exA : Ex (⟨h,g,d,t,os⟩ : Shared) ⟨(h.push emptyDict).push (instObj hdrC h.objs.size),g,d,t,os⟩:=⟨.of_all fun b o e=>Heap.get?_push_of_some _ (Heap.get?_push_of_some _ e),rfl,.same rfl⟩
 have x₂:=x₁.ex exA
 have szI : (h.push emptyDict).objs.size = h.objs.size + 1:=Heap.size_push ..
 have hD : ((h.push emptyDict).push (instObj hdrC h.objs.size)).get? h.objs.size = some emptyDict:=Heap.get?_push_of_some _ (Heap.get?_push_size _ rfl)
 have hI : ((h.push emptyDict).push (instObj hdrC h.objs.size)).get? (h.objs.size + 1) = some (instObj hdrC h.objs.size):=by rw [← szI]; exact Heap.get?_push_size _ rfl
 have frI : h.get? (h.objs.size + 1) = none:=by
  cases e : h.get? (h.objs.size + 1) with
  | none=>rfl
  | some o=>exact absurd (Heap.lt_size e) (Nat.not_lt.mpr (Nat.le_succ _))
 have nt : ∀ {b},h.get? b = none→b ≠ tabA:=fun e q=>by
  obtain ⟨ps,t⟩:=x₁.tobj
  rw [q] at e
  rw [show h.get? tabA = _ from t] at e; cases e
 have nfD : ¬ FF c own h.objs.size:=x₁.fnew fr
 have nfI : ¬ FF c own (h.objs.size + 1):=x₁.fnew frI
 refine init_run T (F:=fun b=>FF c own b∨b = h.objs.size) (D:=h.objs.size) (I:=h.objs.size + 1) (aok_make (hA.mono (by decide)) hdrC) x₂.at (.inl x.ft) (fun a q ht=>?_) hD hI ?_ (.inr rfl) (nt fr) fun s' l hs t' n items k em hl hD' hL hnil=>?_
 ·rcases q with q | q
  ·exact x₂.fal q ht
  ·rw [q]; exact ⟨_,hD,.inr fun vs e=>by cases e⟩
 ·cases e : hT.get? h.objs.size with
  | none=>rfl
  | some o=>rw [x₁.top.keep _ _ (nt fr) e] at fr; cases fr
 ·have keep : ∀ b o,b ≠ tabA→h.get? b = some o→s'.heap.get? b = some o:=fun b o ht e=>em.keep b o (fun q=>by rw [q,fr] at e; cases e) ht (exA.kp.keep b o ht e)
  have ex' : Ex (⟨h,g,d,t,os⟩ : Shared) s':=⟨⟨keep,fun ps t=>by
   obtain ⟨m,t1⟩:=exA.kp.tab ps t
   obtain ⟨m',t2⟩:=em.tab _ t1
   exact ⟨m ++ m',by rw [← Array.append_assoc]; exact t2⟩⟩,em.os,exA.gens.trans em.gens⟩
  have neI : h.objs.size + 1 ≠ h.objs.size:=Nat.succ_ne_self _
  have hI' : s'.heap.get? (h.objs.size + 1) = some (instObj hdrC h.objs.size):=em.keep _ _ neI (nt frI) hI
  have hl' : h.get? l = none:=by
   cases e : h.get? l with
   | none=>rfl
   | some o =>
    have hl2:=Heap.get?_push_of_some (instObj hdrC h.objs.size) (Heap.get?_push_of_some emptyDict e)
    rw [show ((h.push emptyDict).push (instObj hdrC h.objs.size)).get? l = none from hl] at hl2; cases hl2
  have lD : h.objs.size ≠ l:=fun q=>by rw [← q] at hl; rw [show _ = none from hl] at hD; cases hD
  have lI : h.objs.size + 1 ≠ l:=fun q=>by rw [← q] at hl; rw [show _ = none from hl] at hI; cases hI
  refine ⟨rfl,ex₁.trans ex',rfl,l,items,k,ex₁.freshBack (nt hl') hl',hL,⟨_,_,l,hs,t',n,rfl,rfl,fun q=>q.elim nfI lI,fun q=>q.elim nfD lD,hI',hD'⟩,k,items,hL,?_,?_⟩
  ·have:=congrArg List.length hnil
   simp at this
   rw [this]; decide
  ·rw [hnil]; exact .nil
end
theorem letA_two (j : Nat) (n : Int) : letA j n = letA j 0∨letA j n = letA j 1:=by
 unfold letA
 by_cases h : n.fmod 2 = 0
 ·left; rw [if_pos h]; rfl
 ·right; rw [if_neg h]; rfl
theorem letA_6 : ∀ j : Fin 6,(Txt.lower (letA j 0) = letA j 0∧Txt.lower (letA j 1) = letA j 0)∧letA j 0∈lets∧letA j 1∈lets:=by decide +kernel
theorem letA_inj6 : ∀ i j : Fin 6,(letA i 0 == letA j 0) = decide (i.val = j.val):=by decide +kernel
theorem letA_low {j : Nat} (h : j < 6) (n : Int) : Txt.lower (letA j n) = letA j 0∧letA j n∈lets:=by
 obtain ⟨⟨h1,h2⟩,h3,h4⟩:=letA_6 ⟨j,h⟩
 rcases letA_two j n with e | e <;> rw [e]
 ·exact ⟨h1,h3⟩
 ·exact ⟨h2,h4⟩
theorem letA_inj {i j : Nat} (hi : i < 6) (hj : j < 6) : (letA i 0 == letA j 0) = decide (i = j):=letA_inj6 ⟨i,hi⟩ ⟨j,hj⟩
noncomputable def itsD (r : List Int) (ns : NS) : List (Str × Str):=ns.map fun p=>(p.2,wd (r.getD p.1 0))
structure NI (ns : NS) : Prop where
 nm : ∀ p∈ns,p.1 < 6∧∃ n,p.2 = letA p.1 n
 all : ∀ j,j < 6→∃ p∈ns,p.1 = j
theorem wd_mem {r : List Int} (hs : small r = true) {j : Nat} (hj : j < 6) : wd (r.getD j 0)∈W6:=by
 obtain ⟨hl,hr⟩:=small_iff.mp hs
 have:=isW_wd (hr _ (getD_mem (l:=r) (i:=j) (by exact hl▸hj)))
 unfold isW at this
 simpa using this
theorem its_ok {r : List Int} {ns : NS} (hs : small r = true) (hn : NI ns) : nmsOk (itsD r ns) = true:=by
 refine List.all_eq_true.mpr fun q hq=>?_
 refine bc fun hG=>?_
 obtain ⟨p,hp,rfl⟩:=List.mem_map.mp hq
 obtain ⟨h6,n,hp2⟩:=hn.nm p hp
 refine hG ?_
 clear hG
 rw [Bool.and_eq_true]
 exact ⟨decide_eq_true (by rw [show ((p.2,wd (r.getD p.1 0)) : Str × Str).1 = p.2 from rfl,hp2]; exact (letA_low h6 n).2),decide_eq_true (wd_mem hs h6)⟩
theorem its_get {r : List Int} : ∀ {ns : NS} {j : Nat},(∀ p∈ns,p.1 < 6∧∃ n,p.2 = letA p.1 n)→j < 6→(∃ p∈ns,p.1 = j)→getI (itsD r ns) (letA j 0) = .str (wd (r.getD j 0)):=by
 intro ns
 induction ns with
 | nil =>
  rintro j _ _ qq3
  refine bc fun hG=>?_
  obtain ⟨p,hp,_⟩:=qq3
  refine hG ?_
  clear hG
  cases hp
 | cons q ns its_get =>
  intro j hn hj hx
  refine bc fun hG=>?_
  obtain ⟨h6,n,hq⟩:=hn q (.head _)
  refine hG ?_
  clear hG
  have e : (Txt.lower q.2 == letA j 0) = decide (q.1 = j):=by
   rw [hq,(letA_low h6 n).1]; exact letA_inj h6 hj
  unfold getI getF itsD
  rw [List.map_cons,List.find?_cons]
  show (match (match Txt.lower q.2 == letA j 0 with | true=>some (q.2,wd (r.getD q.1 0)) | false=>_) with | some p=>CV.str p.2 | none=>CV.none) = _
  rw [e]
  by_cases h : q.1 = j
  ·rw [decide_eq_true h,h]
  ·rw [decide_eq_false h]
   refine its_get (fun p hp=>hn p (.tail _ hp)) hj ?_
   obtain ⟨p,hp,hpj⟩:=hx
   rcases List.mem_cons.mp hp with rfl | hp
   ·exact absurd hpj h
   ·exact ⟨p,hp,hpj⟩
theorem its_del {r : List Int} {ns : NS} {j : Nat} (hn : ∀ p∈ns,p.1 < 6∧∃ n,p.2 = letA p.1 n) (hj : j < 6) : delI (itsD r ns) (letA j 0) = itsD r (ns.filter fun p=>p.1 != j):=by
 unfold delI itsD
 rw [List.filter_map]
 refine congrArg _ (List.filter_congr fun p hp=>?_)
 obtain ⟨h6,n,hq⟩:=hn p hp
 show (!(Txt.lower p.2 == letA j 0)) = _
 rw [hq,(letA_low h6 n).1,letA_inj h6 hj]
 by_cases h : p.1 = j <;> simp [h]
theorem NI.due0 (cell : Int) : NI (due0 cell) where
 nm:=fun p hp=>by
  obtain ⟨k,hk,rfl⟩:=List.mem_map.mp hp
  exact ⟨List.mem_range.mp hk,_,rfl⟩
 all:=fun j hj=>⟨_,List.mem_map.mpr ⟨j,List.mem_range.mpr hj,rfl⟩,rfl⟩
theorem NI.step {cell : Int} {st : List Int × NS} {t k : Nat} (h : NI st.2) (hk : k < 5) : NI (dueStep cell st t k).2:=by
 unfold dueStep
 split
 ·refine ⟨fun p hp=>?_,fun j hj=>?_⟩
  ·rcases List.mem_append.mp hp with hp | hp
   ·exact h.nm p (List.mem_filter.mp hp).1
   ·simp only [List.mem_cons,List.not_mem_nil,or_false] at hp
    rcases hp with rfl | rfl
    ·exact ⟨by show k < 6; exact Nat.lt_succ_of_lt hk,_,rfl⟩
    ·exact ⟨by show k + 1 < 6; exact Nat.succ_lt_succ hk,_,rfl⟩
  ·by_cases h1 : j = k
   ·exact ⟨(k,letA k (t + cell)),List.mem_append_right _ (.head _),h1.symm⟩
   ·by_cases h2 : j = k + 1
    ·exact ⟨(k + 1,letA (k + 1) t),List.mem_append_right _ (.tail _ (.head _)),h2.symm⟩
    ·refine bc fun hG=>?_
     obtain ⟨p,hp,hpj⟩:=h.all j hj
     refine hG ?_
     clear hG
     refine ⟨p,List.mem_append_left _ (List.mem_filter.mpr ⟨hp,?_⟩),hpj⟩
     rw [hpj]; simp [h1,h2]
 ·exact h
theorem due_ni {low : List Int} {plan : List Nat} (cell : Int) (hp : ∀ x∈plan,x < 5) : ∀ t,t≤plan.length→NI (dueSt low plan cell t).2:=by
 intro t
 induction t with
 | zero =>
  intro _
  exact NI.due0 cell
 | succ t due_ni =>
  intro ht
  have e : dueSt low plan cell (t + 1) = dueStep cell (dueSt low plan cell t) t (plan.getD t 0):=by
   unfold dueSt; rw [List.range_succ,List.foldl_append]; rfl
  rw [e]
  refine (due_ni (by exact Nat.le_of_lt ht)).step (hp _ ?_)
  rw [List.getD_eq_getElem?_getD,List.getElem?_eq_getElem (by exact ht)]
  exact List.getElem_mem _
theorem its_step {cell : Int} {r : List Int} {ns : NS} {t k : Nat} (hr : r.length = 6) (hn : NI ns) (hk : k < 5) (hlt : r.getD (k + 1) 0 < r.getD k 0) :
  delI (delI (itsD r ns) (letA k 0) ++ [(letA k (t + cell),wd (r.getD (k + 1) 0))]) (letA (k + 1) 0) ++ [(letA (k + 1) t,wd (r.getD k 0))] = itsD (dueStep cell (r,ns) t k).1 (dueStep cell (r,ns) t k).2:=by
 have e : dueStep cell (r,ns) t k = (swapR r k (k + 1),(ns.filter fun p=>p.1 != k && p.1 != k + 1) ++ [(k,letA k (t + cell)),(k + 1,letA (k + 1) t)]):=if_pos hlt
 rw [e,its_del hn.nm (by exact Nat.lt_succ_of_lt hk)]
 have g : ∀ j,(swapR r k (k + 1)).getD j 0 = if j = k then r.getD (k + 1) 0 else if j = k + 1 then r.getD k 0 else r.getD j 0:=fun j=>by
  unfold swapR
  simp only [List.getD_eq_getElem?_getD,List.getElem?_set]
  by_cases h1 : j = k
  ·subst h1
   have : ¬ (j + 1 = j):=by lia
   simp [this,hr]; rw [if_pos (by exact Nat.lt_succ_of_lt hk)]; rfl
  ·by_cases h2 : j = k + 1
   ·subst h2; simp [hr]; rw [if_pos (by exact Nat.succ_lt_succ hk)]; rfl
   ·have h1' : ¬ k = j:=fun q=>h1 q.symm
    have h2' : ¬ k + 1 = j:=fun q=>h2 q.symm
    simp [h1,h2,h1',h2']
 have hd : delI (itsD r (ns.filter fun p=>p.1 != k) ++ [(letA k (t + cell),wd (r.getD (k + 1) 0))]) (letA (k + 1) 0) = itsD r (ns.filter fun p=>p.1 != k && p.1 != k + 1) ++ [(letA k (t + cell),wd (r.getD (k + 1) 0))]:=by
  have h1:=its_del (r:=r) (ns:=ns.filter fun p=>p.1 != k) (j:=k + 1) (fun p hp=>hn.nm p (List.mem_filter.mp hp).1) (by exact Nat.succ_lt_succ hk)
  unfold delI at h1 ⊢
  rw [List.filter_append,h1,List.filter_filter]
  have h2 : ([(letA k (t + cell),wd (r.getD (k + 1) 0))].filter fun p=>!(Txt.lower p.1 == letA (k + 1) 0)) = [(letA k (t + cell),wd (r.getD (k + 1) 0))]:=by
   rw [List.filter_cons]
   have : (!(Txt.lower (letA k (t + cell)) == letA (k + 1) 0)) = true:=by
    rw [(letA_low (by exact Nat.lt_succ_of_lt hk) _).1,letA_inj (by exact Nat.lt_succ_of_lt hk) (by exact Nat.succ_lt_succ hk)]; simp
   rw [if_pos this]; rfl
  rw [h2]
  refine congrArg (· ++ _) (congrArg _ (List.filter_congr fun p J=>?_))
  exact Bool.and_comm _ _
 rw [hd]
 unfold itsD
 rw [List.map_append,List.append_assoc]
 refine congr (congrArg _ (List.map_congr_left fun p hp=>?_)) ?_
 ·have:=(List.mem_filter.mp hp).2
  rw [Bool.and_eq_true,bne_iff_ne,bne_iff_ne] at this
  rw [g,if_neg this.1,if_neg this.2]
 ·rw [List.map_cons,List.map_cons,List.map_nil,g,g,if_pos rfl,if_neg (by lia),if_pos rfl]; rfl
noncomputable def movedS : List CV→List CV→Option CV:=fun l J=>on3 (fun v0_ v1_ v2_=>asL (fun vs=>asL (fun ps=>asI (fun cell=>(strs? vs).bind fun ws=>(ints? ps).bind fun p=>if (ws.length = 6∧ws.all isW = true)∧p.length≤100∧(p.all fun x=>decide (0≤x∧x < 5)) = true then some (.hdr (dueL (ws.map idx) (p.map Int.toNat) cell)) else none) v2_) v1_) v0_) l
theorem dueL_its (r : List Int) (plan : List Nat) (cell : Int) : dueL r plan cell = itsD (dueSt r plan cell plan.length).1 (dueSt r plan cell plan.length).2:=rfl
theorem ev_get {σ : List CV} {i : Nat} {its : List (Str × Str)} {n w : Str} {ms : List CV→Option (List CV)} (h : mh? (σ.getD i .unb) = some its) (hm : ms σ = some [.str n]) (hn : n∈lets) (ho : nmsOk its = true) (hg : getI its (Txt.lower n) = .str w) :
  callMt getS (nm i) ms (fun J=>some []) σ = some (.str w):=by
 unfold callMt
 rw [mh_nm h]
 show (isH σ (.own i)).bind _ = _
 rw [mh_isH h]
 show (ms σ).bind _ = _
 rw [hm]
 show callS getS σ [.own i,.str n] [] = _
 unfold callS
 rw [if_neg (by exact ne_true_of_eq_false rfl)]
 have hr : rd σ (.own i) = some (.hdr its):=by show ownRd (σ.getD i .unb) = _; rw [mh_eq h]; rfl
 have : rdAll σ [.own i,.str n] = some [.hdr its,.str n]:=by
  show (rd σ (.own i)).bind _ = _
  rw [hr]; rfl
 rw [this]
 show ((getS [.hdr its,.str n] []).bind fun r=>if scal r then some r else none) = _
 have q : getS [.hdr its,.str n] [] = some (.str w):=by rw [← hg]; exact if_pos ⟨hn,ho⟩
 rw [q]; rfl
theorem ev_place {σ : List CV} {o1 o2 : Option CV} {k : Nat} {n : Int} (h1 : o1 = some (.int k)) (h2 : o2 = some (.int n)) (h : k < 6) :
  (o1.bind fun v=>Option.map (fun x=>v::x) (o2.bind fun v=>Option.map (fun x=>v::x) (some []))).bind (fun cvs=>callS placeS σ cvs []) = some (.str (letA k n)):=by
 rw [h1]
 show ((o2.bind fun v=>Option.map (fun x=>v::x) (some [])).map fun x=>CV.int k::x).bind _ = _
 rw [h2]
 exact call_place σ n h
theorem its_len (r : List Int) (ns : NS) : (itsD r ns).length = ns.length:=by exact Eq.symm (len_of_map_eq rfl)
theorem nms_app {a b : List (Str × Str)} (ha : nmsOk a = true) (hb : nmsOk b = true) : nmsOk (a ++ b) = true:=by
 unfold nmsOk at *
 rw [List.all_append,ha,hb]; rfl
theorem nms_del {a : List (Str × Str)} (ha : nmsOk a = true) (n : Str) : nmsOk (delI a n) = true :=
 List.all_eq_true.mpr fun p hp=>List.all_eq_true.mp ha p (List.mem_filter.mp hp).1
theorem nms_one {n v : Str} (hn : n∈lets) (hv : v∈W6) : nmsOk [(n,v)] = true:=by
 unfold nmsOk
 simp [hn,hv]
theorem coll_wd {a b : Int} (ha : 0≤a∧a < 6) (hb : 0≤b∧b < 6) : decide (collI (wd a) (wd b) = 1) = decide (b < a):=by
 unfold collI
 rw [wd_lt hb ha,wd_lt ha hb]
 rcases Int.lt_trichotomy a b with h | h | h
 ·rw [decide_eq_false (show ¬ b < a by exact Int.not_lt.mpr (Int.le_of_lt h)),decide_eq_true h]; rfl
 ·subst h; rw [decide_eq_false (show ¬ a < a by lia)]; rfl
 ·rw [decide_eq_true h,decide_eq_false (show ¬ a < b by exact Int.not_lt.mpr (Int.le_of_lt h))]; rfl
theorem moved_all {P : List CV→CV→Prop} (H : ∀ (ws : List Str) (ps : List Int) (cell : Int),(ws.length = 6∧ws.all isW = true)∧ps.length≤100∧(ps.all fun x=>decide (0≤x∧x < 5)) = true→P [.list (sl ws),.list (il ps),.int cell] (.hdr (dueL (ws.map idx) (ps.map Int.toNat) cell))) {cvs kcvs : List CV} {r : CV} (h : movedS cvs kcvs = some r) : P cvs r:=by
 replace h:=on3_inv h
 obtain ⟨_,_,_,rfl,h⟩:=h
 replace h:=asL_inv h
 obtain ⟨vs,rfl,h⟩:=h
 replace h:=asL_inv h
 obtain ⟨us,rfl,h⟩:=h
 replace h:=asI_inv h
 obtain ⟨cell,rfl,h⟩:=h
 refine bc fun hG=>?_
 revert h
 refine oR fun ws h1 h=>?_
 revert h
 refine oR fun ps h2 h=>?_
 refine hG ?_
 clear hG
 replace h:=ite_some h
 obtain ⟨hsm,h⟩:=h
 cases h
 have:=strs_eq h1
 subst this
 have:=ints_eq h2
 subst this
 exact H _ _ _ hsm
section
variable {prog : Program} {w : World} {hT : Heap} {mg mb : Str→Option Value}
noncomputable abbrev kd_store_fn:=@kd_set
theorem moved_fn (T : TopsH prog hT mg mb) : Fn prog w hT 4 (.ref 302) [] movedS:=by
 refine bc fun hG=>?_
 obtain ⟨d188,R188,_⟩:=T.r188
 refine hG ?_
 clear hG
 refine Fn.plain (n:=3) T.tf T.r302 (by decide) ⟨rfl,by decide,rfl,rfl⟩ (fun A e X s0 P px W hA=>(Rss.cons (Rs.asgO 14 W rfl (i:=3) (.inl rfl) (Rfr.mkH T (Rf.glb T.tf W (i:=8) rfl T.gH rfl) (hA.mono (by decide)))) (Rss.cons (Rs.for_ W (i:=4) (.inl rfl) (Rf.callT (T.range_ W (i:=9) rfl) (Rfs.cons Rf.int Rfs.nil) range_ok) px fun Z1 p1=>(Rss.cons (Rs.methH T (W.x Z1) (i:=3) (fun K C=>⟨C.add,C.t238⟩) (Rf.loc (W.x Z1) (i:=3) rfl) T.r238 (by decide) (add_fn T) kd_add (hA.mono (by decide)) (Rfs.cons (Rf.call (Rf.glb T.tf (W.x Z1) (i:=10) rfl T.g266 rfl) T.r266 (by decide) (place_fn T.toTops) (hA.mono (by decide)) (Rfs.cons (Rf.loc (W.x Z1) (i:=4) rfl) (Rfs.cons (Rf.fdiv T.tf (W.x Z1) (Rf.loc (W.x Z1) (i:=2) rfl) (Rf.pow Rf.int (Rf.loc (W.x Z1) (i:=4) rfl))) Rfs.nil))) (Rfs.cons (Rf.sb (Rf.loc (W.x Z1) (i:=0) rfl) (Rf.loc (W.x Z1) (i:=4) rfl)) Rfs.nil))) Rss.nil)) (Rss.cons (Rs.for_ W (i:=5) (.inl rfl) (Rf.callT (T.range_ W (i:=9) rfl) (Rfs.cons (Rf.callB (T.len_ W (i:=11) rfl) (Rfs.cons (Rf.loc W (i:=1) rfl) Rfs.nil) len_ok) Rfs.nil) range_ok) px fun Z2 p2=>(Rss.cons (Rs.asg (W.x Z2) (i:=4) (.inl rfl) (Rf.sb (Rf.loc (W.x Z2) (i:=1) rfl) (Rf.loc (W.x Z2) (i:=5) rfl))) (Rss.cons (Rs.tupSw 14 (W.x Z2) rfl (is:=[6,7]) (ys:=["one","two"]) (Rg.fro (Rf.callMt1 T (fun K C=>⟨C.get,C.t188⟩) (Rf.loc (W.x Z2) (i:=3) rfl) R188 (by decide) (get_fn T) (hA.mono (by decide)) (Rfs.cons (Rf.call (Rf.glb T.tf (W.x Z2) (i:=10) rfl T.g266 rfl) T.r266 (by decide) (place_fn T.toTops) (hA.mono (by decide)) (Rfs.cons (Rf.loc (W.x Z2) (i:=4) rfl) (Rfs.cons (Rf.loc (W.x Z2) (i:=5) rfl) Rfs.nil))) Rfs.nil)) (Rg.fro (Rf.callMt1 T (fun K C=>⟨C.get,C.t188⟩) (Rf.loc (W.x Z2) (i:=3) rfl) R188 (by decide) (get_fn T) (hA.mono (by decide)) (Rfs.cons (Rf.call (Rf.glb T.tf (W.x Z2) (i:=10) rfl T.g266 rfl) T.r266 (by decide) (place_fn T.toTops) (hA.mono (by decide)) (Rfs.cons (Rf.add (Rf.loc (W.x Z2) (i:=4) rfl) Rf.int) (Rfs.cons (Rf.add (Rf.loc (W.x Z2) (i:=5) rfl) Rf.int) Rfs.nil))) Rfs.nil)) Rg.nil)) rfl (at2 (.inl rfl) (.inl rfl)) rfl) (Rss.cons (Rs.ifS (Rt.com (W.x Z2) (Rf.call (Rf.glb T.tf (W.x Z2) (i:=12) rfl T.g81 rfl) T.r81 (by decide) (coll_fn T.toTops) (hA.mono (by decide)) (Rfs.cons (Rf.loc (W.x Z2) (i:=6) rfl) (Rfs.cons (Rf.loc (W.x Z2) (i:=7) rfl) Rfs.nil))) Rf.int) (Rss.cons (Rs.callM0 (W.x Z2) (i:=3) (Rf.glb T.tf (W.x Z2) (i:=13) rfl T.g273 rfl) T.r273 (by decide) (store_fn T) (kd_store_fn) (hA.mono (by decide)) (Rfs.cons (Rf.loc (W.x Z2) (i:=3) rfl) (Rfs.cons (Rf.call (Rf.glb T.tf (W.x Z2) (i:=10) rfl T.g266 rfl) T.r266 (by decide) (place_fn T.toTops) (hA.mono (by decide)) (Rfs.cons (Rf.loc (W.x Z2) (i:=4) rfl) (Rfs.cons (Rf.add (Rf.loc (W.x Z2) (i:=5) rfl) (Rf.loc (W.x Z2) (i:=2) rfl)) Rfs.nil))) (Rfs.cons (Rf.loc (W.x Z2) (i:=7) rfl) Rfs.nil)))) (Rss.cons (Rs.callM0 (W.x Z2) (i:=3) (Rf.glb T.tf (W.x Z2) (i:=13) rfl T.g273 rfl) T.r273 (by decide) (store_fn T) (kd_store_fn) (hA.mono (by decide)) (Rfs.cons (Rf.loc (W.x Z2) (i:=3) rfl) (Rfs.cons (Rf.call (Rf.glb T.tf (W.x Z2) (i:=10) rfl T.g266 rfl) T.r266 (by decide) (place_fn T.toTops) (hA.mono (by decide)) (Rfs.cons (Rf.add (Rf.loc (W.x Z2) (i:=4) rfl) Rf.int) (Rfs.cons (Rf.loc (W.x Z2) (i:=5) rfl) Rfs.nil))) (Rfs.cons (Rf.loc (W.x Z2) (i:=6) rfl) Rfs.nil)))) Rss.nil)) Rss.nil) Rss.nil)))) (Rss.cons (Rs.ret (Rf.loc W (i:=3) rfl) px) Rss.nil))))) ?_ (by decide) (by decide) ?_
 ·intro fd vals h1 h2 h3 hl
  cases fd; simp only at h1 h2 h3; subst h1 h2 h3
  exact bind3 hl fun J J J=>rfl
 ·intro cvs kcvs r h
  apply moved_all _ h
  clear h
  intro ws ps cell hsm
  refine ⟨rfl,?_⟩
  refine bc fun hG=>?_
  obtain ⟨⟨hw6,hwW⟩,hs2,hs3⟩:=hsm
  refine hG ?_
  clear hG
  generalize hplan : ps.map Int.toNat = plan
  have hps : il ps = nl plan:=by
   rw [← hplan,nl,List.map_map,il]
   refine List.map_congr_left fun x hx=>?_
   have:=of_decide_eq_true (List.all_eq_true.mp hs3 x hx)
   exact congrArg CV.int (Int.toNat_of_nonneg this.1).symm
  have hpl : ∀ x∈plan,x < 5:=by
   intro x hx
   rw [← hplan] at hx
   obtain ⟨y,hy,rfl⟩:=List.mem_map.mp hx
   have:=of_decide_eq_true (List.all_eq_true.mp hs3 y hy)
   exact (Int.toNat_lt this.1).mpr this.2
  have hpn : plan.length≤100:=by rw [← hplan,List.length_map]; exact hs2
  rw [hps]
  refine bc fun hG=>?_
  obtain ⟨hrow,hrng⟩:=row_of hwW
  refine hG ?_
  clear hG
  have hr6 : (ws.map idx).length = 6:=by rw [List.length_map]; exact hw6
  have hs1 : small (ws.map idx) = true:=small_iff.mpr ⟨hr6,hrng⟩
  generalize ws.map idx = rs at *
  subst hrow
  rw [dueL_its]
  show Ends (seqM _ (seqM _ (seqM _ (seqM _ _))) [.list (sl (rs.map wd)),.list (nl plan),.int cell,.unb,.unb,.unb,.unb,.unb,.unb,.unb,.unb,.unb,.unb,.unb]) _
  refine .step (σ1:=[.list (sl (rs.map wd)),.list (nl plan),.int cell,.mhdr [],.unb,.unb,.unb,.unb,.unb,.unb,.unb,.unb,.unb,.unb]) (ev_asgO (cv:=.mhdr []) rfl (Nat.le_refl 14) rfl) ?_
  have hg : ∀ {j : Nat},j < 6→at? (sl (rs.map wd)) (j : Int) = some (.str (wd (rs.getD j 0))):=fun {j} hj=>by
   rw [at_nat,sl_get (by rw [List.length_map]; exact hr6▸hj),wd_row (by exact hr6▸hj)]
  refine .seq (R:=fun σ=>∃ kv,isM kv = false∧σ = [.list (sl (rs.map wd)),.list (nl plan),.int cell,.mhdr (itsD rs (due0 cell)),kv,.unb,.unb,.unb,.unb,.unb,.unb,.unb,.unb,.unb]) ?_ ?_
  ·refine Goes.for (v:=.rng 0 6 1) (xs:=rl 6) rfl (srcV_range 6 (by decide)) ?_
   refine (forM_at (fun t σ=>∃ kv,isM kv = false∧σ = [.list (sl (rs.map wd)),.list (nl plan),.int cell,.mhdr ((List.range t).map fun j=>(letA j (cell.fdiv (2 ^ j)),wd (rs.getD j 0))),kv,.unb,.unb,.unb,.unb,.unb,.unb,.unb,.unb,.unb]) _ _ ?_ ⟨.unb,rfl,rfl⟩).mono ?_
   ·rintro t x σ hx ⟨kv,hkv,rfl⟩
    obtain ⟨rfl,ht⟩:=rl_at hx
    have ht6 : t < 6:=ht
    refine ⟨_,stF_ok rfl (by exact place_lt rfl) hkv,?_⟩
    have ha : addS' (.mhdr ((List.range t).map fun j=>(letA j (cell.fdiv (2 ^ j)),wd (rs.getD j 0)))) [.str (letA t (cell.fdiv (2 ^ t))),.str (wd (rs.getD t 0))] [] = some (.mhdr ((List.range (t + 1)).map fun j=>(letA j (cell.fdiv (2 ^ j)),wd (rs.getD j 0)))):=by
     rw [List.range_succ,List.map_append]
     exact if_pos ⟨(letA_low ht6 _).2,wd_mem hs1 ht6,by simp; exact Nat.le_of_lt (Nat.lt_trans ht (by decide))⟩
    refine .step (ev_callH (its:=(List.range t).map fun j=>(letA j (cell.fdiv (2 ^ j)),wd (rs.getD j 0))) (cvs:=[.str (letA t (cell.fdiv (2 ^ t))),.str (wd (rs.getD t 0))]) ?_ rfl rfl ha) (.nil ⟨.int t,rfl,rfl⟩)
    refine ev_bind (a:=.str (letA t (cell.fdiv (2 ^ t)))) (ev_bind (a:=[.int t,.int (cell.fdiv (2 ^ t))]) (ev_bind (a:=.int t) rfl (ev_map (a:=[.int (cell.fdiv (2 ^ t))]) (ev_bind (a:=.int (cell.fdiv (2 ^ t))) (ev_bind (a:=.int cell) rfl (ev_bind (a:=.int (2 ^ t)) ?_ ?_)) rfl) rfl)) ?_) (ev_map (a:=[.str (wd (rs.getD t 0))]) (ev_bind (a:=.str (wd (rs.getD t 0))) ?_ rfl) rfl)
    ·exact pow2 ht6
    ·exact fdivS_int _ _ (Int.pow_ne_zero (by decide))
    ·exact call_place _ _ ht6
    ·exact hg ht6
   ·rintro σ ⟨kv,hkv,rfl⟩
    refine ⟨kv,hkv,?_⟩
    have : itsD rs (due0 cell) = (List.range 6).map fun j=>(letA j (cell.fdiv (2 ^ j)),wd (rs.getD j 0)):=by
     unfold itsD due0
     rw [List.map_map]; rfl
    rw [this]; rfl
  ·rintro σ ⟨kv0,hkv0,rfl⟩
   refine .seq (R:=fun σ=>∃ kv tv ov wv,σ = [.list (sl (rs.map wd)),.list (nl plan),.int cell,.mhdr (itsD (dueSt rs plan cell plan.length).1 (dueSt rs plan cell plan.length).2),kv,tv,ov,wv,.unb,.unb,.unb,.unb,.unb,.unb]) ?_ ?_
   ·refine Goes.for (v:=.rng 0 plan.length 1) (xs:=rl plan.length) ?_ (srcV_range _ (by exact Nat.le_trans hpn (by decide))) ?_
    ·show some (CV.rng 0 (nl plan).length 1) = _
     rw [List.length_map]
    refine (forM_at (fun t σ=>∃ kv tv ov wv,(isM kv = false∧isM tv = false∧isM ov = false∧isM wv = false)∧σ = [.list (sl (rs.map wd)),.list (nl plan),.int cell,.mhdr (itsD (dueSt rs plan cell t).1 (dueSt rs plan cell t).2),kv,tv,ov,wv,.unb,.unb,.unb,.unb,.unb,.unb]) _ _ ?_ ⟨kv0,.unb,.unb,.unb,⟨hkv0,rfl,rfl,rfl⟩,rfl⟩).mono ?_
    ·rintro t x σ hx qq4
     refine bc fun hG=>?_
     obtain ⟨kv,tv,ov,wv,⟨hkv,htv,hov,hwv⟩,rfl⟩:=qq4
     refine hG ?_
     clear hG
     obtain ⟨rfl,ht⟩:=rl_at hx
     have hs : dueSt rs plan cell (t + 1) = dueStep cell (dueSt rs plan cell t) t (plan.getD t 0):=by
      unfold dueSt; rw [List.range_succ,List.foldl_append]; rfl
     have hk : plan.getD t 0 < 5:=hpl _ (by rw [List.getD_eq_getElem?_getD,List.getElem?_eq_getElem (by exact ht)]; exact List.getElem_mem _)
     have hd:=due_ok cell hs1 hpl t (by exact Nat.le_of_lt ht)
     have hni:=due_ni (low:=rs) cell hpl t (by exact Nat.le_of_lt ht)
     rw [hs]
     generalize dueSt rs plan cell t = st at *
     have hpt:=nl_get (l:=plan) ht
     generalize plan.getD t 0 = k at *
     refine bc fun hG=>?_
     obtain ⟨r,ns⟩:=st
     obtain ⟨d1,d2,d3⟩:=hd
     have d1' : small r = true:=d1
     have d2' : ns.length≤6 + 2 * t:=d2
     have hni' : NI ns:=hni
     obtain ⟨hr,hrr⟩:=small_iff.mp d1'
     refine hG ?_
     clear hG
     have hk0:=hrr _ (getD_mem (l:=r) (i:=k) (by exact hr▸Nat.lt_succ_of_lt hk))
     have hk1:=hrr _ (getD_mem (l:=r) (i:=k + 1) (by exact hr▸Nat.succ_lt_succ hk))
     have hok:=its_ok d1' hni'
     have hl:=its_len r ns
     have g1 : getI (itsD r ns) (Txt.lower (letA k t)) = .str (wd (r.getD k 0)):=by rw [(letA_low (by exact Nat.lt_succ_of_lt hk) _).1]; exact its_get hni'.nm (by exact Nat.lt_succ_of_lt hk) (hni'.all k (by exact Nat.lt_succ_of_lt hk))
     have g2 : getI (itsD r ns) (Txt.lower (letA (k + 1) ((t + 1 : Nat) : Int))) = .str (wd (r.getD (k + 1) 0)):=by rw [(letA_low (by exact Nat.succ_lt_succ hk) _).1]; exact its_get hni'.nm (by exact Nat.succ_lt_succ hk) (hni'.all (k + 1) (by exact Nat.succ_lt_succ hk))
     refine ⟨_,stF_ok rfl (by exact place_lt rfl) htv,?_⟩
     refine .step (σ1:=[.list (sl (rs.map wd)),.list (nl plan),.int cell,.mhdr (itsD r ns),.int k,.int t,ov,wv,.unb,.unb,.unb,.unb,.unb,.unb]) (ev_asg (cv:=.int k) ?_ (stF_ok rfl (by exact place_lt rfl) hkv)) ?_
     ·show at? (nl plan) (t : Int) = _
      rw [at_nat,hpt]
     refine .step (σ1:=[.list (sl (rs.map wd)),.list (nl plan),.int cell,.mhdr (itsD r ns),.int k,.int t,.str (wd (r.getD k 0)),.str (wd (r.getD (k + 1) 0)),.unb,.unb,.unb,.unb,.unb,.unb]) (ev_tupR (is:=[]) (cvs:=[.str (wd (r.getD k 0)),.str (wd (r.getD (k + 1) 0))]) ?_ (Nat.le_refl 14) rfl (by decide) ?_) ?_
     ·refine ev_fro (a:=.str (wd (r.getD k 0))) (ev_get (its:=itsD r ns) (n:=letA k t) rfl ?_ (letA_low (by exact Nat.lt_succ_of_lt hk) _).2 hok g1) rfl (ev_map (a:=[.str (wd (r.getD (k + 1) 0))]) (ev_fro (a:=.str (wd (r.getD (k + 1) 0))) (ev_get (its:=itsD r ns) (n:=letA (k + 1) ((t + 1 : Nat) : Int)) rfl ?_ (letA_low (by lia) _).2 hok g2) rfl rfl) rfl)
      ·refine ev_bind (a:=.str (letA k t)) (ev_place (k:=k) (n:=t) ?_ ?_ (by lia)) rfl <;> rfl
      ·refine ev_bind (a:=.str (letA (k + 1) ((t + 1 : Nat) : Int))) (ev_place (k:=k + 1) (n:=((t + 1 : Nat) : Int)) ?_ ?_ (by lia)) rfl <;> rfl
     ·show (stA 7 (.str (wd (r.getD (k + 1) 0))) _).bind (storeAll [6] [.str (wd (r.getD k 0))]) = _
      refine ev_bind (stA_ok (i:=7) (cv:=.str (wd (r.getD (k + 1) 0))) (σ:=[.list (sl (rs.map wd)),.list (nl plan),.int cell,.mhdr (itsD r ns),.int k,.int t,ov,wv,.unb,.unb,.unb,.unb,.unb,.unb]) (.inl rfl) (by exact place_lt rfl) hwv) ?_
      exact ev_bind (stA_ok (i:=6) (cv:=.str (wd (r.getD k 0))) (σ:=[.list (sl (rs.map wd)),.list (nl plan),.int cell,.mhdr (itsD r ns),.int k,.int t,ov,.str (wd (r.getD (k + 1) 0)),.unb,.unb,.unb,.unb,.unb,.unb]) (.inl rfl) (by exact place_lt rfl) hov) rfl
     have hb : cmpS .Eq [] (.int (collI (wd (r.getD k 0)) (wd (r.getD (k + 1) 0)))) (.int 1) = some (decide (r.getD (k + 1) 0 < r.getD k 0)):=by
      rw [cmp_eq_int,coll_wd hk0 hk1]
     refine .seq (Goes.ite (decide (r.getD (k + 1) 0 < r.getD k 0)) ?_ (fun hb=>?_) (fun hb=>.nil ?_)) fun J q=>.nil q
     ·refine ev_bind (a:=.int (collI (wd (r.getD k 0)) (wd (r.getD (k + 1) 0)))) rfl ?_
      exact hb
     ·have hlt:=of_decide_eq_true hb
      have s1 : setS (.mhdr (itsD r ns)) [.str (letA k (t + cell)),.str (wd (r.getD (k + 1) 0))] [] = some (.mhdr (delI (itsD r ns) (letA k 0) ++ [(letA k (t + cell),wd (r.getD (k + 1) 0))])):=by
       rw [← (letA_low (show k < 6 by lia) (t + cell)).1]
       exact if_pos ⟨(letA_low (by lia) _).2,wd_mem d1' (by lia),hok,by lia⟩
      have hl1:=delI_len (itsD r ns) (letA k 0)
      have hok1 : nmsOk (delI (itsD r ns) (letA k 0) ++ [(letA k (t + cell),wd (r.getD (k + 1) 0))]) = true:=nms_app (nms_del hok _) (nms_one (letA_low (by lia) _).2 (wd_mem d1' (by lia)))
      have s2 : setS (.mhdr (delI (itsD r ns) (letA k 0) ++ [(letA k (t + cell),wd (r.getD (k + 1) 0))])) [.str (letA (k + 1) t),.str (wd (r.getD k 0))] [] = some (.mhdr (itsD (dueStep cell (r,ns) t k).1 (dueStep cell (r,ns) t k).2)):=by
       rw [← its_step hr hni' hk hlt]
       have e:=(letA_low (show k + 1 < 6 by lia) t).1
       have : setS (.mhdr (delI (itsD r ns) (letA k 0) ++ [(letA k (t + cell),wd (r.getD (k + 1) 0))])) [.str (letA (k + 1) t),.str (wd (r.getD k 0))] [] = some (.mhdr (delI (delI (itsD r ns) (letA k 0) ++ [(letA k (t + cell),wd (r.getD (k + 1) 0))]) (Txt.lower (letA (k + 1) t)) ++ [(letA (k + 1) t,wd (r.getD k 0))])) :=
        if_pos ⟨(letA_low (by lia) _).2,wd_mem d1' (by lia),hok1,by rw [List.length_append]; show _ + 1≤4000; lia⟩
       rw [this,e]
      generalize delI (itsD r ns) (letA k 0) ++ [(letA k (t + cell),wd (r.getD (k + 1) 0))] = its1 at *
      refine .step (σ1:=[.list (sl (rs.map wd)),.list (nl plan),.int cell,.mhdr its1,.int k,.int t,.str (wd (r.getD k 0)),.str (wd (r.getD (k + 1) 0)),.unb,.unb,.unb,.unb,.unb,.unb]) (ev_callMM (i:=3) (cvs:=[.str (letA k (t + cell)),.str (wd (r.getD (k + 1) 0))]) (kcvs:=[]) ?_ rfl rfl s1) (.step (ev_callMM (i:=3) (cvs:=[.str (letA (k + 1) t),.str (wd (r.getD k 0))]) (kcvs:=[]) ?_ rfl rfl s2) (.nil ?_))
      ·refine ev_bind (a:=.own 3) rfl (ev_map (a:=[.str (letA k (t + cell)),.str (wd (r.getD (k + 1) 0))]) (ev_bind (a:=.str (letA k (t + cell))) (ev_place (k:=k) (n:=t + cell) ?_ ?_ (by lia)) rfl) rfl) <;> rfl
      ·refine ev_bind (a:=.own 3) rfl (ev_map (a:=[.str (letA (k + 1) t),.str (wd (r.getD k 0))]) (ev_bind (a:=.str (letA (k + 1) t)) (ev_place (k:=k + 1) (n:=t) ?_ ?_ (by lia)) rfl) rfl) <;> rfl
      ·exact ⟨.int k,.int t,_,_,⟨rfl,rfl,rfl,rfl⟩,rfl⟩
     ·have hb:=of_decide_eq_false hb
      have e : dueStep cell (r,ns) t k = (r,ns):=if_neg hb
      rw [e]
      exact ⟨.int k,.int t,_,_,⟨rfl,rfl,rfl,rfl⟩,rfl⟩
    ·rintro σ qq1
     refine bc fun hG=>?_
     obtain ⟨kv,tv,ov,wv,_,rfl⟩:=qq1
     refine hG ?_
     clear hG
     exact ⟨kv,tv,ov,wv,by rw [List.length_map,List.length_range]⟩
   ·rintro σ ⟨kv,tv,ov,wv,rfl⟩
    exact .retM (a:=.own 3) rfl rfl
end
section
variable {prog : Program} {w : World} {hT : Heap} {c : FC} {own own' own'' : Nat→Option Addr} {σ σ' : List CV} {s s' s'' : Shared} {mg mb : Str→Option Value}
noncomputable def ninS (_ : List CV) (a b : CV) : Option Bool:=(toPy a).bind fun d=>(toPy b).bind fun l=>match l with
 | .list xs=>if (PyData.canLayAll0 xs && d.canLay0 && decide (d.depth≤60)) = true then some (!xs.any fun y=>PyData.eqv y d) else none
 | _=>none
set_option tactic.hygienic true in
theorem Rf.notIn {l r : PySem.Expr} {pos : Pos} {ml mr : List CV→Option CV} (W : Wf c) (hl : Rf prog w hT c l ml) (hr : Rf prog w hT c r mr) (hm : behindInMarks .NotIn r = false:=by with_unfolding_all rfl) :
  Rf prog w hT c (.Compare l [.NotIn] [r] pos) (fun σ=>(ml σ).bind fun a=>(mr σ).bind fun b=>(ninS σ a b).map .bool):=by
 refine hl.cmp ninS hr (fun own σ s a b va vb cv x ra rb e=>?_) hm
 refine bc fun hG=>?_
 revert e
 refine oR fun d e1 e=>?_
 revert e
 refine oR fun q e2 e=>?_
 refine hG ?_
 clear hG
 split at e <;> first | (cases e; done) | skip
 replace e:=ite_opt e
 obtain ⟨_,e⟩:=e
 rename_i xs hc
 cases e
 rw [Bool.and_eq_true,Bool.and_eq_true] at hc
 refine bc fun hG=>?_
 obtain ⟨⟨h1,h2⟩,h3⟩:=hc
 have h3:=of_decide_eq_true h3
 obtain ⟨as,r1⟩:=(ra.vr e1).reads e1
 obtain ⟨bs,r2⟩:=(rb.vr e2).reads e2
 refine hG ?_
 clear hG
 refine SeqAt.notIn_list_reads r2 r1 h1 h2 ?_ ⟨.refl _,rfl⟩
 have h4:=W.aok.cl64
 have h5:=Nat.min_le_right (PyData.depthAll xs) d.depth
 lia
noncomputable def andV (o : Option CV) : CV→Option CV
 | .bool b=>if b then o else some (.bool false)
 | _=>none
theorem ev_andT {o1 o2 r : Option CV} (h1 : o1 = some (.bool true)) (h2 : o2 = r) : o1.bind (andV o2) = r:=by subst h1; exact h2
theorem ev_orF {o1 o2 r : Option Bool} (h1 : o1 = some false) (h2 : o2 = r) : (o1.bind fun a=>if a = true then some true else o2) = r:=by subst h1; exact h2
theorem Rf.andE {x y : PySem.Expr} {pos : Pos} {m1 m2 : List CV→Option CV} (h1 : Rf prog w hT c x m1) (h2 : Rf prog w hT c y m2) :
  Rf prog w hT c (.BoolOp .And [x,y] pos) (fun σ=>(m1 σ).bind (andV (m2 σ))):=fun own σ s cv X e=>by
 refine bc fun hG=>?_
 obtain ⟨a,e1,e⟩:=oB e
 refine hG ?_
 clear hG
 cases a <;> first | (cases e; done) | skip
 rename_i b
 refine BoolOp_and (wp_w (h1 own σ s _ X e1) fun v s₁ q=>?_)
 have hv:=q.2
 cases hv
 have X₁:=X.ex q.1
 refine wpAny_truthy_bool ?_
 cases b
 ·cases e
  exact ⟨q.1,VR.bool _⟩
 ·exact BoolOp_one (wp_w (h2 own σ s₁ cv X₁ e) fun v s₂ r=>⟨q.1.trans r.1,r.2⟩)
end
structure LawF (hi lo : List Int) (pl : List Nat) (c4 c5 : Int) : Prop where
 sh : small hi = true
 sl : small lo = true
 pn : pl.length≤100
 p5 : ∀ x∈pl,x < 5
 fin : (dueSt lo pl c4 pl.length).1 = finL lo hi
 sf : small (finL lo hi) = true
 u8 : 0 < (runsL lo 1).length∧(runsL lo 1).length≤8
 d8 : 0 < (runsL hi (-1)).length∧(runsL hi (-1)).length≤8
 uok : giOk none (rulerL (runsL lo 1) c5) = true
 um : mkGo (giOut none (rulerL (runsL lo 1) c5)) 20 0 0 [] = some (sumsL (runsL lo 1) c5)
 dok : giOk none (rulerL (runsL hi (-1)) (c5.fdiv 3)) = true
 dm : mkGo (giOut none (rulerL (runsL hi (-1)) (c5.fdiv 3))) 20 0 0 [] = some (sumsL (runsL hi (-1)) (c5.fdiv 3))
 uf : okMs 0 ((sumsL (runsL lo 1) c5).filter fun m=>decide (m < 6)) = true
 ub : frontsB lo hi (((sumsL (runsL lo 1) c5).filter fun m=>decide (m < 6)).map Int.toNat) = afL lo hi
 df : okMs 0 ((sumsL (runsL hi (-1)) (c5.fdiv 3)).filter fun m=>decide (m < 6)) = true
 db : frontsB lo hi (((sumsL (runsL hi (-1)) (c5.fdiv 3)).filter fun m=>decide (m < 6)).map Int.toNat) = afL lo hi
 id : decide (finL lo hi = [0,1,2,3,4,5]) = afL lo hi
theorem cellsL_len (sc : List Int) : (cellsL sc).length = 6:=by unfold cellsL; rw [cellsFold_len]; rfl
noncomputable def toldL : List Int:=(List.range 6).flatMap fun i=>(List.range 6).map fun j=>if i = j then 0 else if j < i then 1 else -1
theorem W6_wd : W6 = ([0,1,2,3,4,5] : List Int).map wd:=by decide +kernel
theorem idx_map {r : List Int} (h : ∀ x∈r,0≤x∧x < 6) : (r.map wd).map idx = r:=by
 rw [List.map_map]
 conv=>rhs; rw [← List.map_id r]
 exact List.map_congr_left fun x hx=>idx_wd (h x hx)
theorem isW_map {r : List Int} (h : ∀ x∈r,0≤x∧x < 6) : (r.map wd).all isW = true:=by
 rw [List.all_map]
 exact List.all_eq_true.mpr fun x hx=>isW_wd (h x hx)
theorem ok_map {r : List Int} (h : ∀ x∈r,0≤x∧x < 6) : ∀ s∈r.map wd,PyData.strOk s = true:=fun s hs=>by
 obtain ⟨x,hx,rfl⟩:=List.mem_map.mp hs
 exact wd_ok (h x hx)
theorem W6_strOk : ∀ s∈W6,PyData.strOk s = true:=fun s hs=>List.all_eq_true.mp W6_ok s hs
theorem wd_words {r : List Int} (h : ∀ x∈r,0≤x∧x < 6) : decide (r.map wd = W6) = decide (r = [0,1,2,3,4,5]):=by
 refine decide_eq_decide.mpr ⟨fun e=>?_,fun e=>by rw [e]; exact W6_wd.symm⟩
 have:=congrArg (List.map idx) e
 rw [idx_map h,W6_wd,idx_map (by decide)] at this
 exact this
mutual
theorem its_pys : ∀ its : List (Str × Str),toPys (its.map hdrItem) = some (its.map fun p=>.tuple [.str p.1,.str p.2])
 | []=>rfl
 | p::its=>by
  show (toPy (hdrItem p)).bind (fun d=>(toPys (its.map hdrItem)).map (d::·)) = _
  rw [its_pys its]; rfl
end
theorem its_shaped {its : List (Str × Str)} (h : nmsOk its = true) : SeqAt.shaped (.list (its.map fun p=>.tuple [.str p.1,.str p.2])) = true:=by
 have lay : PyData.canLayAll0 (its.map fun p=>PyData.tuple [.str p.1,.str p.2]) = true∧PyData.depthAll (its.map fun p=>PyData.tuple [.str p.1,.str p.2])≤2:=by
  induction its with
  | nil=>exact ⟨rfl,Nat.zero_le _⟩
  | cons p its ih =>
   unfold nmsOk at h
   rw [List.all_cons,Bool.and_eq_true,Bool.and_eq_true] at h
   refine bc fun hG=>?_
   obtain ⟨⟨h1,h2⟩,h3⟩:=h
   obtain ⟨i1,i2⟩:=ih h3
   refine hG ?_
   clear hG
   have s1:=List.all_eq_true.mp lets_ok _ (of_decide_eq_true h1)
   have s2:=List.all_eq_true.mp W6_ok _ (of_decide_eq_true h2)
   refine ⟨?_,?_⟩
   ·show ((PyData.strOk p.1 && (PyData.strOk p.2 && true)) && PyData.canLayAll0 _) = true
    rw [s1,s2,i1]; rfl
   ·show max _ (PyData.depthAll _)≤2
    refine Nat.max_le.mpr ⟨?_,i2⟩
    show max 0 (max 0 0) + 1≤2
    decide
 unfold SeqAt.shaped
 rw [Bool.and_eq_true]
 refine ⟨lay.1,decide_eq_true ?_⟩
 show PyData.depthAll _ + 1≤64
 exact Nat.lt_of_le_of_lt lay.2 (by decide)
theorem ne_sl (σ : List CV) (a b : List Str) (ha : ∀ x∈a,PyData.strOk x = true) (hb : ∀ x∈b,PyData.strOk x = true) : cmpS .NotEq σ (.list (sl a)) (.list (sl b)) = some (!decide (a = b)):=by show (eqS _ _).map _ = _; rw [eqS_sl a b ha hb]; rfl
section
variable {σ : List CV}
theorem c_cells (σ) (sc : List Int) (h : sc.length≤1000) : callS cellsS σ [.list (il sc)] [] = some (.list (il (cellsL sc))):=by
 show (ints? (il sc)).bind _ = _; rw [ints_il]; exact if_pos h
theorem c_low (σ) (r : List Int) (a b : Int) (h : r.length = 6) : callS lowS σ [.list (il r),.int a,.int b] [] = some (.list (il (lowL r a b))):=by
 show (ints? (il r)).bind _ = _; rw [ints_il]; exact if_pos h
theorem c_plan (σ) (r : List Str) (a : Int) (h : r.length = 6) : callS planS σ [.list (sl r),.int a] [] = some (.list (nl (planL r a))):=by
 show (strs? (sl r)).bind _ = _; rw [strs_sl]; exact if_pos h
theorem c_runs (σ) (r : List Int) (a : Int) (h : small r = true) : callS runsS σ [.list (il r),.int a] [] = some (.list (il (runsL r a))):=by
 show (ints? (il r)).bind _ = _; rw [ints_il]; exact if_pos h
theorem c_ruler (σ) (r : List Int) (a : Int) (h : 0 < r.length∧r.length≤8) : callS rulerS σ [.list (il r),.int a] [] = some (.list (il (rulerL r a))):=by
 show (ints? (il r)).bind _ = _; rw [ints_il]; exact if_pos h
theorem c_sums (σ) (r : List Int) (a : Int) (h : 0 < r.length∧r.length≤8) : callS sumsS σ [.list (il r),.int a] [] = some (.list (il (sumsL r a))):=by
 show (ints? (il r)).bind _ = _; rw [ints_il]; exact if_pos h
theorem c_marks (σ) (r ms : List Int) (h : giOk none r = true) (h2 : mkGo (giOut none r) 20 0 0 [] = some ms) : callS marksS σ [.list (il r)] [] = some (.list (il ms)):=by
 show (ints? (il r)).bind _ = _; rw [ints_il]
 show (if giOk none r = true then _ else none) = _
 rw [if_pos h,h2]; rfl
theorem c_af (σ) (r o : List Int) (h : r.length = 6) (h2 : o.length = 6) : callS afS σ [.list (il r),.list (il o)] [] = some (.bool (afL r o)):=by
 show (ints? (il r)).bind _ = _; rw [ints_il]
 show (ints? (il o)).bind _ = _; rw [ints_il]; exact if_pos ⟨h,h2⟩
theorem c_fin (σ) (r o : List Int) (h : r.length = 6) (h2 : o.length = 6) : callS finS σ [.list (il r),.list (il o)] [] = some (.list (il (finL r o))):=by
 show (ints? (il r)).bind _ = _; rw [ints_il]
 show (ints? (il o)).bind _ = _; rw [ints_il]; exact if_pos ⟨h,h2⟩
theorem ints_nl (l : List Nat) : ints? (nl l) = some (l.map fun i : Nat=>(i : Int)):=by rw [nl_il,ints_il]
theorem nat_back (l : List Nat) : (l.map fun i : Nat=>(i : Int)).map Int.toNat = l:=by
 rw [List.map_map]
 conv=>rhs; rw [← List.map_id l]
 exact List.map_congr_left fun x J=>rfl
theorem nat_all {l : List Nat} (h : ∀ x∈l,x < 5) : ((l.map fun i : Nat=>(i : Int)).all fun x=>decide (0≤x∧x < 5)) = true:=by
 refine List.all_eq_true.mpr fun x hx=>?_
 obtain ⟨y,hy,rfl⟩:=List.mem_map.mp hx
 have:=h y hy
 exact decide_eq_true (by lia)
theorem c_due (σ) (r : List Int) (p : List Nat) (a : Int) (h : small r = true) (h1 : p.length≤100) (h2 : ∀ x∈p,x < 5) : callS dueS σ [.list (il r),.list (nl p),.int a] [] = some (.list ((dueL r p a).map itemC)):=by
 show (ints? (il r)).bind _ = _; rw [ints_il]
 show (ints? (nl p)).bind _ = _; rw [ints_nl]
 show (if _ then some (CV.list ((dueL r ((p.map fun i : Nat=>(i : Int)).map Int.toNat) a).map itemC)) else none) = _
 rw [if_pos ⟨h,by simpa using h1,nat_all h2⟩,nat_back]
theorem c_moved (σ) (r : List Int) (p : List Nat) (a : Int) (h : small r = true) (h1 : p.length≤100) (h2 : ∀ x∈p,x < 5) : callS movedS σ [.list (sl (r.map wd)),.list (nl p),.int a] [] = some (.hdr (dueL r p a)):=by
 refine bc fun hG=>?_
 obtain ⟨hl,hr⟩:=small_iff.mp h
 refine hG ?_
 clear hG
 show (strs? (sl (r.map wd))).bind _ = _; rw [strs_sl]
 show (ints? (nl p)).bind _ = _; rw [ints_nl]
 show (if _ then some (CV.hdr (dueL ((r.map wd).map idx) ((p.map fun i : Nat=>(i : Int)).map Int.toNat) a)) else none) = _
 rw [if_pos ⟨⟨by rw [List.length_map]; exact hl,isW_map hr⟩,by simpa using h1,nat_all h2⟩,nat_back,idx_map hr]
theorem c_fronts (σ) (r o ms : List Int) (b : Bool) (h : small r = true) (h2 : small o = true) (h3 : okMs 0 ms = true) (hb : frontsB r o (ms.map Int.toNat) = b) : callZ frontsS σ [.list (sl (r.map wd)),.list (sl (o.map wd)),.list (il ms)] = some (.bool b):=by
 refine bc fun hG=>?_
 obtain ⟨hl,hr⟩:=small_iff.mp h
 obtain ⟨hl2,hr2⟩:=small_iff.mp h2
 refine hG ?_
 clear hG
 have q : frontsS [.list (sl (r.map wd)),.list (sl (o.map wd)),.list (il ms)] [] = some (.bool b):=by
  show (strs? (sl (r.map wd))).bind _ = _; rw [strs_sl]
  show (strs? (sl (o.map wd))).bind _ = _; rw [strs_sl]
  show (ints? (il ms)).bind _ = _; rw [ints_il]
  show (if _ then some (CV.bool (frontsB ((r.map wd).map idx) ((o.map wd).map idx) (ms.map Int.toNat))) else none) = _
  rw [if_pos ⟨⟨by rw [List.length_map]; exact hl,isW_map hr⟩,⟨by rw [List.length_map]; exact hl2,isW_map hr2⟩,h3⟩,idx_map hr,idx_map hr2,hb]
 show ((frontsS [.list (sl (r.map wd)),.list (sl (o.map wd)),.list (il ms)] []).bind fun r=>if scal r then some r else none) = _
 rw [q]; rfl
end
theorem wd_at {k : Int} (h : 0≤k∧k < 6) : at? (sl W6) k = some (.str (wd k)):=by
 obtain ⟨i,rfl⟩:=Int.eq_ofNat_of_zero_le h.1
 have hi : i < W6.length:=by show i < 6; exact Int.ofNat_lt.mp h.2
 rw [at_nat,sl_get hi]; rfl
theorem ev_words {mit : List CV→Option CV} {σ : List CV} {r : List Int} (h1 : mit σ = some (.list (il r))) (h2 : σ.getD 2 .unb = .list (sl W6)) (hr : ∀ x∈r,0≤x∧x < 6) (hl : r.length≤100) :
  compV mit [none,none,some 2] (stF 1) (fun J=>some true) (emitM fun σ=>(nm 2 σ).bind fun a=>(nm 1 σ).bind fun b=>itemS σ a b) σ = some (.list (sl (r.map wd))):=by
 refine (ev_compR (v:=.list (il r)) (xs:=il r) h1 rfl (fun σ=>∃ k,isM k = false∧σ = [.unb,k,.list (sl W6)]) (fun J=>true) (fun c=>match c with | .int k=>.str (wd k) | _=>.none) ?_ ⟨.unb,rfl,?_⟩ (by simp; exact Nat.le_trans hl (by decide))).trans ?_
 ·rintro σ c hc ⟨k,hk,rfl⟩
  obtain ⟨q,hq,rfl⟩:=List.mem_map.mp hc
  exact ⟨_,stF_ok rfl (by exact Nat.one_lt_succ_succ [CV.list (sl W6)].length) hk,rfl,⟨_,rfl,rfl⟩,fun J=>⟨wd_at (hr q hq),rfl⟩⟩
 ·show [CV.unb,CV.unb,σ.getD 2 .unb] = _
  rw [h2]
 ·rw [List.filter_eq_self.mpr (by exact fun a a_1=>bi_tt.mpr trivial),il,List.map_map,sl,List.map_map]; rfl
theorem ev_lt6 {σ : List CV} {r : List Int} {src : List (Option Nat)} {mit : List CV→Option CV} (hs : capt src σ = [.unb,.unb]) (h1 : mit σ = some (.list (il r))) (hl : r.length≤100) :
  compV mit src (stF 1) (fun σ=>(nm 1 σ).bind fun a=>(some (CV.int 6)).bind fun b=>cmpS .Lt σ a b) (emitM (nm 1)) σ = some (.list (il (r.filter fun m=>decide (m < 6)))):=by
 refine (ev_compR (v:=.list (il r)) (xs:=il r) h1 rfl (fun σ=>∃ k,isM k = false∧σ = [.unb,k]) (fun c=>match c with | .int k=>decide (k < 6) | _=>false) (fun c=>c) ?_ ⟨.unb,rfl,hs⟩ (by simp; exact Nat.le_trans hl (by decide))).trans ?_
 ·rintro σ c hc ⟨k,hk,rfl⟩
  obtain ⟨q,hq,rfl⟩:=List.mem_map.mp hc
  exact ⟨_,stF_ok rfl (by exact Nat.one_lt_succ_succ [].length) hk,rfl,⟨_,rfl,rfl⟩,fun J=>⟨rfl,rfl⟩⟩
 ·rw [List.map_id',il,List.filter_map]; rfl
theorem ne_refl2 (σ : List CV) (f r : List Int) : cmpS .NotEq σ (.list [.list (il f),.list (il r)]) (.list [.list (il f),.list (il r)]) = some false:=by
 have e : toPy (.list [.list (il f),.list (il r)]) = some (.list [.list (f.map .int),.list (r.map .int)]):=by
  show (((toPys (il f)).map PyData.list).bind fun d=>(((toPys (il r)).map PyData.list).bind fun d=>(some []).map (d::·)).map (d::·)).map PyData.list = _
  rw [toPys_il,toPys_il]; rfl
 have h : SeqAt.shaped (.list [.list (f.map .int),.list (r.map .int)]) = true:=by
  show ((PyData.canLayAll0 (f.map .int) && (PyData.canLayAll0 (r.map .int) && true)) && decide (max (PyData.depthAll (f.map .int) + 1) (max (PyData.depthAll (r.map .int) + 1) 0) + 1≤64)) = true
  rw [(lay_il f).1,(lay_il r).1,(lay_il f).2,(lay_il r).2]; rfl
 show (eqS _ _).map _ = _
 rw [eqS_refl e h]; rfl
theorem ne_bools (σ : List CV) (b : Bool) : cmpS .NotEq σ (.list [.bool b,.bool b,.bool b]) (.list [.bool b,.bool b,.bool b]) = some false:=by cases b <;> rfl
theorem sums_len (rs : List Int) (way : Int) (h : rs.length≤8) : (sumsL rs way).length≤100:=by
 have : (presums rs).length = rs.length:=by simp [presums]
 unfold sumsL
 split
 ·rw [List.length_take]; omega
 ·lia
theorem eq_its (σ : List CV) {its : List (Str × Str)} (h : nmsOk its = true) : cmpS .Eq σ (.list (its.map hdrItem)) (.list (its.map itemC)) = some true:=by
 have e : toPy (.list (its.map hdrItem)) = some (.list (its.map fun p=>.tuple [.str p.1,.str p.2])):=by
  show (toPys (its.map hdrItem)).map PyData.list = _
  rw [its_pys]; rfl
 exact eqS_refl e (its_shaped h)
theorem getI_no (its : List (Str × Str)) (n : Str) : noM (getI its n) = true:=by unfold getI; split <;> rfl
noncomputable def nms6 : List Str:=[⟨#[97]⟩,⟨#[66]⟩,⟨#[99]⟩,⟨#[68]⟩,⟨#[101]⟩,⟨#[70]⟩]
theorem nms6_ok : ∀ x∈nms6,x∈lets:=by decide +kernel
theorem nms6_low : nms6.map Txt.lower = (List.range 6).map fun j=>letA j 0:=by decide +kernel
theorem fin_range {α : Type} {r : List Int} (f : Int→α) (h : r.length = 6) : r.map f = (List.range 6).map fun j=>f (r.getD j 0):=by
 refine bc fun hG=>?_
 obtain ⟨a,b,c,d,e,g,rfl⟩:=six h
 refine hG ?_
 clear hG
 rfl
noncomputable def lawS : List CV→List CV→Option CV:=fun l J=>on1 (fun v0_=>asL (fun vs=>(ints? vs).bind fun s=>if s.length≤63 then some (.bool true) else none) v0_) l
theorem law_all {P : List CV→CV→Prop} (H : ∀ (sc : List Int),sc.length≤63→P [.list (il sc)] (.bool true)) {cvs kcvs : List CV} {r : CV} (h : lawS cvs kcvs = some r) : P cvs r:=by
 replace h:=on1_inv h
 obtain ⟨_,rfl,h⟩:=h
 replace h:=asL_inv h
 obtain ⟨vs,rfl,h⟩:=h
 refine bc fun hG=>?_
 revert h
 refine oR fun sc h1 h=>?_
 refine hG ?_
 clear hG
 replace h:=ite_some h
 obtain ⟨hsc,h⟩:=h
 cases h
 have:=ints_eq h1
 subst this
 exact H _ hsc
section
variable {prog : Program} {w : World} {hT : Heap} {mg mb : Str→Option Value}
set_option maxRecDepth 100000 in
theorem law_fn (hLaw : ∀ cs : List Int,cs.length = 6→LawF (orderL (cs.getD 0 0)) (lowL (orderL (cs.getD 0 0)) (cs.getD 1 0) (cs.getD 2 0)) (planL ((orderL (cs.getD 0 0)).map wd) (cs.getD 3 0)) (cs.getD 4 0) (cs.getD 5 0)) (T : TopsH prog hT mg mb) : Fn prog w hT 14 (.ref 348) [] lawS:=by
 refine bc fun hG=>?_
 obtain ⟨d188,R188,_⟩:=T.r188
 refine hG ?_
 clear hG
 refine Fn.plain (n:=1) T.tf T.r348 (by decide) ⟨rfl,by decide,rfl,rfl⟩ (fun A e X s0 P px W hA=>(Rss.cons (Rs.tupIn 31 W rfl (is:=[1,2]) (ys:=["cells","words"]) (Rg.fro (Rf.call (Rf.glb T.tf W (i:=17) rfl T.g252 rfl) T.r252 (by decide) (cells_fn T.toTops) (hA.mono (by decide)) (Rfs.cons (Rf.loc W (i:=0) rfl) Rfs.nil)) (Rg.fro (Rf.call0 (Rf.glb T.tf W (i:=18) rfl T.g259 rfl) T.r259 (by decide) (words_fn T.toTops) (hA.mono (by decide))) Rg.nil)) rfl (at2 (.inl rfl) (.inr ⟨rfl,rfl⟩)) rfl rfl) (Rss.cons (Rs.asgC W (k:=3) (srcC_ok (src:=[none,none,none,none,some 2]) rfl) rfl (compTurn_20 _ _ _ _ _ _ _ _ _) (Rf.cel W (i:=2) rfl) (fun e1 Y1 s1 P1 W1=>(Ct.nm W1 (i:=1) rfl)) (fun e1 Y1 s1 P1 W1=>Ci.nil) (fun e1 Y1 s1 P1 W1=>Ac.nest W1 (fun J=>rfl) rfl (fun J J=>compTurn_21 _ _ _ _ _ _ _ _ _ _ _ _) (fun X1=>(Rf.cel (W1.x X1) (i:=4) rfl)) (fun X1=>(Ct.nm (W1.x X1) (i:=2) rfl)) (fun X1=>Ci.nil) (Ac.emit rfl fun X1=>(Rf.call (Rf.glb T.tf (W1.x X1) (i:=3) rfl T.g81 rfl) T.r81 (by decide) (coll_fn T.toTops) (hA.mono (by decide)) (Rfs.cons (Rf.loc (W1.x X1) (i:=1) rfl) (Rfs.cons (Rf.loc (W1.x X1) (i:=2) rfl) Rfs.nil))))) rfl) (Rss.cons (Rs.ifS (Rt.com W (Rf.loc W (i:=3) rfl) (Rf.comp W (srcC_ok (src:=[none,none,none,none]) rfl) (compTurn_20 _ _ _ _ _ _ _ _ _) (Rf.callT (T.range_ W (i:=19) rfl) (Rfs.cons Rf.int Rfs.nil) range_ok) (fun e2 Y2 s2 P2 W2=>(Ct.nm W2 (i:=1) rfl)) (fun e2 Y2 s2 P2 W2=>Ci.nil) (fun e2 Y2 s2 P2 W2=>Ac.nest W2 (fun J=>rfl) rfl (fun J J=>compTurn_21 _ _ _ _ _ _ _ _ _ _ _ _) (fun X2=>(Rf.callT (T.range_ (W2.x X2) (i:=3) rfl) (Rfs.cons Rf.int Rfs.nil) range_ok)) (fun X2=>(Ct.nm (W2.x X2) (i:=2) rfl)) (fun X2=>Ci.nil) (Ac.emit rfl fun X2=>(Rf.ite (Rt.com (W2.x X2) (Rf.loc (W2.x X2) (i:=1) rfl) (Rf.loc (W2.x X2) (i:=2) rfl)) Rf.int (Rf.ite (Rt.com (W2.x X2) (Rf.loc (W2.x X2) (i:=1) rfl) (Rf.loc (W2.x X2) (i:=2) rfl)) Rf.int (Rf.neg Rf.int))))))) (Rss.cons (Rs.ret Rf.bool px) Rss.nil) Rss.nil) (Rss.cons (Rs.ifS (Rt.com W (Rf.comp W (srcC_ok (src:=[none,none,none]) rfl) (compTurn_1 _ _ _ _ _ _) (Rf.cel W (i:=2) rfl) (fun e3 Y3 s3 P3 W3=>(Ct.nm W3 (i:=1) rfl)) (fun e3 Y3 s3 P3 W3=>Ci.nil) (fun e3 Y3 s3 P3 W3=>Ac.emit rfl fun X3=>(Rf.call (Rf.glb T.tf (W3.x X3) (i:=2) rfl T.g88 rfl) T.r88 (by decide) (xfrm_fn T.toTops) (hA.mono (by decide)) (Rfs.cons (Rf.loc (W3.x X3) (i:=1) rfl) Rfs.nil)))) (Rf.cel W (i:=2) rfl)) (Rss.cons (Rs.ret Rf.bool px) Rss.nil) Rss.nil) (Rss.cons (Rs.asg W (i:=4) (.inl rfl) (Rf.call (Rf.glb T.tf W (i:=20) rfl T.g280 rfl) T.r280 (by decide) (order_fn T.toTops) (hA.mono (by decide)) (Rfs.cons (Rf.sb (Rf.loc W (i:=1) rfl) Rf.int) Rfs.nil))) (Rss.cons (Rs.asg W (i:=5) (.inl rfl) (Rf.call (Rf.glb T.tf W (i:=21) rfl T.g285 rfl) T.r285 (by decide) (low_fn T.toTops) (hA.mono (by decide)) (Rfs.cons (Rf.loc W (i:=4) rfl) (Rfs.cons (Rf.sb (Rf.loc W (i:=1) rfl) Rf.int) (Rfs.cons (Rf.sb (Rf.loc W (i:=1) rfl) Rf.int) Rfs.nil))))) (Rss.cons (Rs.tupIn 31 W rfl (is:=[6,7]) (ys:=["lower","upper"]) (Rg.fro (Rf.comp W (srcC_ok (src:=[none,none,some 2]) rfl) (compTurn_1 _ _ _ _ _ _) (Rf.loc W (i:=5) rfl) (fun e4 Y4 s4 P4 W4=>(Ct.nm W4 (i:=1) rfl)) (fun e4 Y4 s4 P4 W4=>Ci.nil) (fun e4 Y4 s4 P4 W4=>Ac.emit rfl fun X4=>(Rf.sb (Rf.cel (W4.x X4) (i:=2) rfl) (Rf.loc (W4.x X4) (i:=1) rfl)))) (Rg.fro (Rf.comp W (srcC_ok (src:=[none,none,some 2]) rfl) (compTurn_1 _ _ _ _ _ _) (Rf.loc W (i:=4) rfl) (fun e5 Y5 s5 P5 W5=>(Ct.nm W5 (i:=1) rfl)) (fun e5 Y5 s5 P5 W5=>Ci.nil) (fun e5 Y5 s5 P5 W5=>Ac.emit rfl fun X5=>(Rf.sb (Rf.cel (W5.x X5) (i:=2) rfl) (Rf.loc (W5.x X5) (i:=1) rfl)))) Rg.nil)) rfl (at2 (.inr ⟨rfl,rfl⟩) (.inr ⟨rfl,rfl⟩)) rfl rfl) (Rss.cons (Rs.asg W (i:=8) (.inl rfl) (Rf.call (Rf.glb T.tf W (i:=22) rfl T.g295 rfl) T.r295 (by decide) (plan_fn T.toTops) (hA.mono (by decide)) (Rfs.cons (Rf.cel W (i:=7) rfl) (Rfs.cons (Rf.sb (Rf.loc W (i:=1) rfl) Rf.int) Rfs.nil)))) (Rss.cons (Rs.asg W (i:=9) (.inr ⟨rfl,rfl⟩) (Rf.call (Rf.glb T.tf W (i:=23) rfl T.g302 rfl) T.r302 (by decide) (moved_fn T) (hA.mono (by decide)) (Rfs.cons (Rf.cel W (i:=6) rfl) (Rfs.cons (Rf.loc W (i:=8) rfl) (Rfs.cons (Rf.sb (Rf.loc W (i:=1) rfl) Rf.int) Rfs.nil))))) (Rss.cons (Rs.asgC W (k:=10) (srcC_ok (src:=[none,none,some 9]) rfl) rfl (compTurn_1 _ _ _ _ _ _) Rf.str (fun e6 Y6 s6 P6 W6=>(Ct.nm W6 (i:=1) rfl)) (fun e6 Y6 s6 P6 W6=>Ci.nil) (fun e6 Y6 s6 P6 W6=>Ac.emit rfl fun X6=>(Rf.callMt1 T (fun K C=>⟨C.get,C.t188⟩) (Rf.cel (W6.x X6) (i:=2) rfl) R188 (by decide) (get_fn T) (hA.mono (by decide)) (Rfs.cons (Rf.loc (W6.x X6) (i:=1) rfl) Rfs.nil))) rfl) (Rss.cons (Rs.tupSw 31 W rfl (is:=[11,12]) (ys:=["ups","downs"]) (Rg.fro (Rf.call (Rf.glb T.tf W (i:=24) rfl T.g314 rfl) T.r314 (by decide) (runs_fn T.toTops) (hA.mono (by decide)) (Rfs.cons (Rf.loc W (i:=5) rfl) (Rfs.cons Rf.int Rfs.nil))) (Rg.fro (Rf.call (Rf.glb T.tf W (i:=24) rfl T.g314 rfl) T.r314 (by decide) (runs_fn T.toTops) (hA.mono (by decide)) (Rfs.cons (Rf.loc W (i:=4) rfl) (Rfs.cons (Rf.neg Rf.int) Rfs.nil))) Rg.nil)) rfl (at2 (.inl rfl) (.inl rfl)) rfl) (Rss.cons (Rs.tupSw 31 W rfl (is:=[13,14]) (ys:=["falls","rises"]) (Rg.fro (Rf.call (Rf.glb T.tf W (i:=25) rfl T.g328 rfl) T.r328 (by decide) (marks_fn T.toTops) (hA.mono (by decide)) (Rfs.cons (Rf.call (Rf.glb T.tf W (i:=26) rfl T.g321 rfl) T.r321 (by decide) (ruler_fn T.toTops) (hA.mono (by decide)) (Rfs.cons (Rf.loc W (i:=11) rfl) (Rfs.cons (Rf.sb (Rf.loc W (i:=1) rfl) Rf.int) Rfs.nil))) Rfs.nil)) (Rg.fro (Rf.call (Rf.glb T.tf W (i:=25) rfl T.g328 rfl) T.r328 (by decide) (marks_fn T.toTops) (hA.mono (by decide)) (Rfs.cons (Rf.call (Rf.glb T.tf W (i:=26) rfl T.g321 rfl) T.r321 (by decide) (ruler_fn T.toTops) (hA.mono (by decide)) (Rfs.cons (Rf.loc W (i:=12) rfl) (Rfs.cons (Rf.fdiv T.tf W (Rf.sb (Rf.loc W (i:=1) rfl) Rf.int) Rf.int) Rfs.nil))) Rfs.nil)) Rg.nil)) rfl (at2 (.inl rfl) (.inl rfl)) rfl) (Rss.cons (Rs.ifS (Rt.com W (Rf.lst (Rfs.cons (Rf.loc W (i:=13) rfl) (Rfs.cons (Rf.loc W (i:=14) rfl) Rfs.nil))) (Rf.lst (Rfs.cons (Rf.call (Rf.glb T.tf W (i:=27) rfl T.g333 rfl) T.r333 (by decide) (sums_fn T.toTops) (hA.mono (by decide)) (Rfs.cons (Rf.loc W (i:=11) rfl) (Rfs.cons (Rf.sb (Rf.loc W (i:=1) rfl) Rf.int) Rfs.nil))) (Rfs.cons (Rf.call (Rf.glb T.tf W (i:=27) rfl T.g333 rfl) T.r333 (by decide) (sums_fn T.toTops) (hA.mono (by decide)) (Rfs.cons (Rf.loc W (i:=12) rfl) (Rfs.cons (Rf.fdiv T.tf W (Rf.sb (Rf.loc W (i:=1) rfl) Rf.int) Rf.int) Rfs.nil))) Rfs.nil)))) (Rss.cons (Rs.ret Rf.bool px) Rss.nil) Rss.nil) (Rss.cons (Rs.asgC W (k:=15) (srcC_ok (src:=[none,none,none,some 6,some 7]) rfl) rfl (compTurn_1 _ _ _ _ _ _) (Rf.lst (Rfs.cons (Rf.loc W (i:=13) rfl) (Rfs.cons (Rf.loc W (i:=14) rfl) Rfs.nil))) (fun e7 Y7 s7 P7 W7=>(Ct.nm W7 (i:=1) rfl)) (fun e7 Y7 s7 P7 W7=>Ci.nil) (fun e7 Y7 s7 P7 W7=>Ac.emit rfl fun X7=>(Rf.callZ (Rf.glb T.tf (W7.x X7) (i:=2) rfl T.g338 rfl) T.r338 (by decide) (fronts_fn T.toTops) (hA.mono (by decide)) (Rfs.cons (Rf.cel (W7.x X7) (i:=3) rfl) (Rfs.cons (Rf.cel (W7.x X7) (i:=4) rfl) (Rfs.cons (Rf.comp (W7.x X7) (srcC_ok (src:=[none,none]) rfl) (compTurn_1 _ _ _ _ _ _) (Rf.loc (W7.x X7) (i:=1) rfl) (fun e8 Y8 s8 P8 W8=>(Ct.nm W8 (i:=1) rfl)) (fun e8 Y8 s8 P8 W8=>(Ci.one (Rt.com W8 (Rf.loc W8 (i:=1) rfl) Rf.int))) (fun e8 Y8 s8 P8 W8=>Ac.emit rfl fun X8=>(Rf.loc (W8.x X8) (i:=1) rfl))) Rfs.nil))))) rfl) (Rss.cons (Rs.asg W (i:=16) (.inl rfl) (Rf.add (Rf.lst (Rfs.cons (Rf.com W (Rf.loc W (i:=10) rfl) (Rf.cel W (i:=2) rfl)) Rfs.nil)) (Rf.loc W (i:=15) rfl))) (Rss.cons (Rs.ifS (Rt.or (Rt.com W (Rf.loc W (i:=16) rfl) (Rf.mul (Rf.lst (Rfs.cons (Rf.call (Rf.glb T.tf W (i:=28) rfl T.g343 rfl) T.r343 (by decide) (af_fn T.toTops) (hA.mono (by decide)) (Rfs.cons (Rf.loc W (i:=5) rfl) (Rfs.cons (Rf.loc W (i:=4) rfl) Rfs.nil))) Rfs.nil)) Rf.int)) (Rt.com W (Rf.loc W (i:=10) rfl) (Rf.comp W (srcC_ok (src:=[none,none,some 2]) rfl) (compTurn_1 _ _ _ _ _ _) (Rf.call (Rf.glb T.tf W (i:=29) rfl T.g290 rfl) T.r290 (by decide) (final_fn T.toTops) (hA.mono (by decide)) (Rfs.cons (Rf.loc W (i:=5) rfl) (Rfs.cons (Rf.loc W (i:=4) rfl) Rfs.nil))) (fun e9 Y9 s9 P9 W9=>(Ct.nm W9 (i:=1) rfl)) (fun e9 Y9 s9 P9 W9=>Ci.nil) (fun e9 Y9 s9 P9 W9=>Ac.emit rfl fun X9=>(Rf.sb (Rf.cel (W9.x X9) (i:=2) rfl) (Rf.loc (W9.x X9) (i:=1) rfl)))))) (Rss.cons (Rs.ret Rf.bool px) Rss.nil) Rss.nil) (Rss.cons (Rs.ret (Rf.andE (Rf.com W (Rf.callMt0 T (fun K C=>⟨C.items,C.t205⟩) (Rf.cel W (i:=9) rfl) T.r205 (by decide) (items_fn T) (hA.mono (by decide))) (Rf.call (Rf.glb T.tf W (i:=30) rfl T.g307 rfl) T.r307 (by decide) (due_fn T.toTops) (hA.mono (by decide)) (Rfs.cons (Rf.loc W (i:=5) rfl) (Rfs.cons (Rf.loc W (i:=8) rfl) (Rfs.cons (Rf.sb (Rf.loc W (i:=1) rfl) Rf.int) Rfs.nil))))) (Rf.notIn W Rf.bool (Rf.comp W (srcC_ok (src:=[none,none,none,none]) rfl) (compTurn_1 _ _ _ _ _ _) (Rf.loc W (i:=3) rfl) (fun e10 Y10 s10 P10 W10=>(Ct.nm W10 (i:=1) rfl)) (fun e10 Y10 s10 P10 W10=>Ci.nil) (fun e10 Y10 s10 P10 W10=>Ac.emit rfl fun X10=>(Rf.com (W10.x X10) (Rf.callT (T.type_ (W10.x X10) (i:=2) rfl) (Rfs.cons (Rf.loc (W10.x X10) (i:=1) rfl) Rfs.nil) type_ok) (T.int_ (W10.x X10) (i:=3) rfl)))))) px) Rss.nil)))))))))))))))))) ?_ (by decide) (by decide) ?_
 ·intro fd vals h1 h2 h3 hl
  cases fd; simp only at h1 h2 h3; subst h1 h2 h3
  exact bind1 hl fun J=>rfl
 ·intro cvs kcvs r h
  apply law_all _ h
  clear h
  intro sc hsc
  refine ⟨rfl,?_⟩
  have hcs:=cellsL_len sc
  have hc0:=fun σ=>c_cells σ sc (by exact Nat.le_trans hsc (by decide))
  have F:=hLaw _ hcs
  generalize cellsL sc = cs at *
  have hat : ∀ {j : Nat},j < 6→at? (il cs) (j : Int) = some (.int (cs.getD j 0)):=fun {j} hj=>by rw [at_nat,il_get (by exact hcs▸hj)]
  generalize hhi : orderL (cs.getD 0 0) = hi at *
  generalize hlo : lowL hi (cs.getD 1 0) (cs.getD 2 0) = lo at *
  generalize hpl : planL (hi.map wd) (cs.getD 3 0) = pl at *
  refine bc fun hG=>?_
  obtain ⟨sh,sl',pn,p5,hfin,sf,u8,d8,uok,um,dok,dm,uf,ub,df,db,hid⟩:=F
  obtain ⟨hh6,hhr⟩:=small_iff.mp sh
  obtain ⟨hl6,hlr⟩:=small_iff.mp sl'
  obtain ⟨hf6,hfr⟩:=small_iff.mp sf
  have hcF:=fun σ=>c_fin σ lo hi hl6 hh6
  have hcA:=fun σ=>c_af σ lo hi hl6 hh6
  refine hG ?_
  clear hG
  generalize hfi : finL lo hi = fin at *
  generalize haf : afL lo hi = af at *
  have hcU:=fun σ=>c_runs σ lo 1 sl'
  have hcD:=fun σ=>c_runs σ hi (-1) sh
  generalize hup : runsL lo 1 = ups at *
  generalize hdn : runsL hi (-1) = downs at *
  have hcRU:=fun σ=>c_ruler σ ups (cs.getD 5 0) u8
  have hcRD:=fun σ=>c_ruler σ downs ((cs.getD 5 0).fdiv 3) d8
  have hcSU:=fun σ=>c_sums σ ups (cs.getD 5 0) u8
  have hcSD:=fun σ=>c_sums σ downs ((cs.getD 5 0).fdiv 3) d8
  have hcMU:=fun σ=>c_marks σ _ _ uok um
  have hcMD:=fun σ=>c_marks σ _ _ dok dm
  have hfl:=sums_len ups (cs.getD 5 0) u8.2
  have hrl:=sums_len downs ((cs.getD 5 0).fdiv 3) d8.2
  generalize hfa : sumsL ups (cs.getD 5 0) = falls at *
  generalize hri : sumsL downs ((cs.getD 5 0).fdiv 3) = rises at *
  have hcM:=fun σ=>c_moved σ lo pl (cs.getD 4 0) sl' pn p5
  have hcDue:=fun σ=>c_due σ lo pl (cs.getD 4 0) sl' pn p5
  have hni:=due_ni (low:=lo) (cs.getD 4 0) p5 pl.length (Nat.le_refl _)
  have hok:=its_ok (r:=(dueSt lo pl (cs.getD 4 0) pl.length).1) (by rw [hfin]; exact sf) hni
  have hget : ∀ j,j < 6→getI (dueL lo pl (cs.getD 4 0)) (letA j 0) = .str (wd (fin.getD j 0)):=fun j hj=>by
   rw [dueL_its,its_get hni.nm hj (hni.all j hj),hfin]
  rw [← dueL_its] at hok
  generalize hits : dueL lo pl (cs.getD 4 0) = its at *
  show Ends (seqM _ (seqM _ (seqM _ (seqM _ (seqM _ (seqM _ (seqM _ (seqM _ (seqM _ (seqM _ (seqM _ (seqM _ (seqM _ (seqM _ (seqM _ (seqM _ _))))))))))))))) [.list (il sc),.unb,.unb,.unb,.unb,.unb,.unb,.unb,.unb,.unb,.unb,.unb,.unb,.unb,.unb,.unb,.unb,.unb,.unb,.unb,.unb,.unb,.unb,.unb,.unb,.unb,.unb,.unb,.unb,.unb,.unb]) _
  refine .step (σ1:=[.list (il sc),.list (il cs),.list (sl W6),.unb,.unb,.unb,.unb,.unb,.unb,.unb,.unb,.unb,.unb,.unb,.unb,.unb,.unb,.unb,.unb,.unb,.unb,.unb,.unb,.unb,.unb,.unb,.unb,.unb,.unb,.unb,.unb]) (ev_tup (is:=[]) (cvs:=[.list (il cs),.list (sl W6)]) ?_ (Nat.le_refl 31) rfl (by decide) rfl) ?_
  ·exact ev_fro (a:=.list (il cs)) (hc0 _) rfl (ev_map (a:=[.list (sl W6)]) (ev_fro (a:=.list (sl W6)) rfl rfl rfl) rfl)
  refine .step (σ1:=[.list (il sc),.list (il cs),.list (sl W6),.list (il toldL),.unb,.unb,.unb,.unb,.unb,.unb,.unb,.unb,.unb,.unb,.unb,.unb,.unb,.unb,.unb,.unb,.unb,.unb,.unb,.unb,.unb,.unb,.unb,.unb,.unb,.unb,.unb]) (ev_asg (cv:=.list (il toldL)) (by kernel_rfl!) rfl) ?_
  refine .step (σ1:=[.list (il sc),.list (il cs),.list (sl W6),.list (il toldL),.unb,.unb,.unb,.unb,.unb,.unb,.unb,.unb,.unb,.unb,.unb,.unb,.unb,.unb,.unb,.unb,.unb,.unb,.unb,.unb,.unb,.unb,.unb,.unb,.unb,.unb,.unb]) (ev_ifF (ev_bind (a:=.list (il toldL)) rfl (ev_bind (a:=.list (il toldL)) (by kernel_rfl!) (by rw [ne_il]; simp))) rfl) ?_
  refine .step (σ1:=[.list (il sc),.list (il cs),.list (sl W6),.list (il toldL),.unb,.unb,.unb,.unb,.unb,.unb,.unb,.unb,.unb,.unb,.unb,.unb,.unb,.unb,.unb,.unb,.unb,.unb,.unb,.unb,.unb,.unb,.unb,.unb,.unb,.unb,.unb]) (ev_ifF (ev_bind (a:=.list (sl W6)) (by kernel_rfl!) (ev_bind (a:=.list (sl W6)) rfl (by rw [ne_sl _ _ _ W6_strOk W6_strOk]; simp))) rfl) ?_
  refine .step (σ1:=[.list (il sc),.list (il cs),.list (sl W6),.list (il toldL),.list (il hi),.unb,.unb,.unb,.unb,.unb,.unb,.unb,.unb,.unb,.unb,.unb,.unb,.unb,.unb,.unb,.unb,.unb,.unb,.unb,.unb,.unb,.unb,.unb,.unb,.unb,.unb]) (ev_asg (cv:=.list (il hi)) ?_ rfl) ?_
  ·refine ev_bind (a:=[.int (cs.getD 0 0)]) (ev_bind (a:=.int (cs.getD 0 0)) ?_ rfl) (by rw [← hhi]; rfl)
   ·exact hat (j:=0) (by decide)
  refine .step (σ1:=[.list (il sc),.list (il cs),.list (sl W6),.list (il toldL),.list (il hi),.list (il lo),.unb,.unb,.unb,.unb,.unb,.unb,.unb,.unb,.unb,.unb,.unb,.unb,.unb,.unb,.unb,.unb,.unb,.unb,.unb,.unb,.unb,.unb,.unb,.unb,.unb]) (ev_asg (cv:=.list (il lo)) ?_ rfl) ?_
  ·refine ev_bind (a:=[.list (il hi),.int (cs.getD 1 0),.int (cs.getD 2 0)]) (ev_bind (a:=.list (il hi)) rfl (ev_map (a:=[.int (cs.getD 1 0),.int (cs.getD 2 0)]) (ev_bind (a:=.int (cs.getD 1 0)) ?_ (ev_map (a:=[.int (cs.getD 2 0)]) (ev_bind (a:=.int (cs.getD 2 0)) ?_ rfl) rfl)) rfl)) ((c_low _ hi _ _ hh6).trans (by rw [hlo]))
   ·exact hat (j:=1) (by decide)
   ·exact hat (j:=2) (by decide)
  refine .step (σ1:=[.list (il sc),.list (il cs),.list (sl W6),.list (il toldL),.list (il hi),.list (il lo),.list (sl (lo.map wd)),.list (sl (hi.map wd)),.unb,.unb,.unb,.unb,.unb,.unb,.unb,.unb,.unb,.unb,.unb,.unb,.unb,.unb,.unb,.unb,.unb,.unb,.unb,.unb,.unb,.unb,.unb]) (ev_tup (is:=[]) (cvs:=[.list (sl (lo.map wd)),.list (sl (hi.map wd))]) ?_ (Nat.le_refl 31) rfl (by decide) rfl) ?_
  ·exact ev_fro (a:=.list (sl (lo.map wd))) (ev_words rfl rfl hlr (by lia)) rfl (ev_map (a:=[.list (sl (hi.map wd))]) (ev_fro (a:=.list (sl (hi.map wd))) (ev_words rfl rfl hhr (by lia)) rfl rfl) rfl)
  refine .step (σ1:=[.list (il sc),.list (il cs),.list (sl W6),.list (il toldL),.list (il hi),.list (il lo),.list (sl (lo.map wd)),.list (sl (hi.map wd)),.list (nl pl),.unb,.unb,.unb,.unb,.unb,.unb,.unb,.unb,.unb,.unb,.unb,.unb,.unb,.unb,.unb,.unb,.unb,.unb,.unb,.unb,.unb,.unb]) (ev_asg (cv:=.list (nl pl)) ?_ rfl) ?_
  ·refine ev_bind (a:=[.list (sl (hi.map wd)),.int (cs.getD 3 0)]) (ev_bind (a:=.list (sl (hi.map wd))) rfl (ev_map (a:=[.int (cs.getD 3 0)]) (ev_bind (a:=.int (cs.getD 3 0)) ?_ rfl) rfl)) ((c_plan _ (hi.map wd) _ (by rw [List.length_map]; exact hh6)).trans (by rw [hpl]))
   ·exact hat (j:=3) (by decide)
  refine .step (σ1:=[.list (il sc),.list (il cs),.list (sl W6),.list (il toldL),.list (il hi),.list (il lo),.list (sl (lo.map wd)),.list (sl (hi.map wd)),.list (nl pl),.hdr its,.unb,.unb,.unb,.unb,.unb,.unb,.unb,.unb,.unb,.unb,.unb,.unb,.unb,.unb,.unb,.unb,.unb,.unb,.unb,.unb,.unb]) (ev_asg (cv:=.hdr its) ?_ rfl) ?_
  ·refine ev_bind (a:=[.list (sl (lo.map wd)),.list (nl pl),.int (cs.getD 4 0)]) (ev_bind (a:=.list (sl (lo.map wd))) rfl (ev_map (a:=[.list (nl pl),.int (cs.getD 4 0)]) (ev_bind (a:=.list (nl pl)) rfl (ev_map (a:=[.int (cs.getD 4 0)]) (ev_bind (a:=.int (cs.getD 4 0)) ?_ rfl) rfl)) rfl)) (hcM _)
   ·exact hat (j:=4) (by decide)
  refine .step (σ1:=[.list (il sc),.list (il cs),.list (sl W6),.list (il toldL),.list (il hi),.list (il lo),.list (sl (lo.map wd)),.list (sl (hi.map wd)),.list (nl pl),.hdr its,.list (sl (fin.map wd)),.unb,.unb,.unb,.unb,.unb,.unb,.unb,.unb,.unb,.unb,.unb,.unb,.unb,.unb,.unb,.unb,.unb,.unb,.unb,.unb]) (ev_asg (cv:=.list (sl (fin.map wd))) ?_ rfl) ?_
  ·refine (ev_compR (v:=.str ⟨#[97,66,99,68,101,70]⟩) (xs:=nms6.map .str) rfl rfl (fun σ=>∃ k,isM k = false∧σ = [.unb,k,.hdr its]) (fun J=>true) (fun c=>match c with | .str x=>getI its (Txt.lower x) | _=>.none) ?_ ⟨.unb,rfl,rfl⟩ (by decide)).trans ?_
   ·rintro σ c hc ⟨k,hk,rfl⟩
    refine bc fun hG=>?_
    obtain ⟨q,hq,rfl⟩:=List.mem_map.mp hc
    refine hG ?_
    clear hG
    refine ⟨_,stF_ok rfl (by simp) hk,rfl,⟨_,rfl,rfl⟩,fun J=>⟨?_,getI_no _ _⟩⟩
    show getS [.hdr its,.str q] [] = _
    exact if_pos ⟨nms6_ok q hq,hok⟩
   ·rw [List.filter_eq_self.mpr (by simp),List.map_map,sl,List.map_map,fin_range _ hf6]
    have e1 : (nms6.map ((fun c=>match c with | CV.str x=>getI its (Txt.lower x) | _=>CV.none) ∘ CV.str)) = (nms6.map Txt.lower).map (getI its):=by rw [List.map_map]; rfl
    have e2 : (List.range 6).map (fun j=>getI its (letA j 0)) = (List.range 6).map fun j=>(CV.str ∘ wd) (fin.getD j 0):=List.map_congr_left fun j hj=>hget j (List.mem_range.mp hj)
    rw [e1,nms6_low,List.map_map]
    exact congrArg (fun z=>some (CV.list z)) e2
  refine .step (σ1:=[.list (il sc),.list (il cs),.list (sl W6),.list (il toldL),.list (il hi),.list (il lo),.list (sl (lo.map wd)),.list (sl (hi.map wd)),.list (nl pl),.hdr its,.list (sl (fin.map wd)),.list (il ups),.list (il downs),.unb,.unb,.unb,.unb,.unb,.unb,.unb,.unb,.unb,.unb,.unb,.unb,.unb,.unb,.unb,.unb,.unb,.unb]) (ev_tupR (is:=[]) (cvs:=[.list (il ups),.list (il downs)]) ?_ (Nat.le_refl 31) rfl (by decide) rfl) ?_
  ·exact ev_fro (a:=.list (il ups)) (ev_bind (a:=[.list (il lo),.int 1]) rfl (hcU _)) rfl (ev_map (a:=[.list (il downs)]) (ev_fro (a:=.list (il downs)) (ev_bind (a:=[.list (il hi),.int (-1)]) rfl (hcD _)) rfl rfl) rfl)
  have hd3 : fdivS (.int (cs.getD 5 0)) (.int 3) = some (.int ((cs.getD 5 0).fdiv 3)):=fdivS_int _ _ (by decide)
  refine .step (σ1:=[.list (il sc),.list (il cs),.list (sl W6),.list (il toldL),.list (il hi),.list (il lo),.list (sl (lo.map wd)),.list (sl (hi.map wd)),.list (nl pl),.hdr its,.list (sl (fin.map wd)),.list (il ups),.list (il downs),.list (il falls),.list (il rises),.unb,.unb,.unb,.unb,.unb,.unb,.unb,.unb,.unb,.unb,.unb,.unb,.unb,.unb,.unb,.unb]) (ev_tupR (is:=[]) (cvs:=[.list (il falls),.list (il rises)]) ?_ (Nat.le_refl 31) rfl (by decide) rfl) ?_
  ·refine ev_fro (a:=.list (il falls)) (ev_bind (a:=[.list (il (rulerL ups (cs.getD 5 0)))]) (ev_bind (a:=.list (il (rulerL ups (cs.getD 5 0)))) (ev_bind (a:=[.list (il ups),.int (cs.getD 5 0)]) (ev_bind (a:=.list (il ups)) rfl (ev_map (a:=[.int (cs.getD 5 0)]) (ev_bind (a:=.int (cs.getD 5 0)) ?_ rfl) rfl)) (hcRU _)) rfl) (hcMU _)) rfl
    (ev_map (a:=[.list (il rises)]) (ev_fro (a:=.list (il rises)) (ev_bind (a:=[.list (il (rulerL downs ((cs.getD 5 0).fdiv 3)))]) (ev_bind (a:=.list (il (rulerL downs ((cs.getD 5 0).fdiv 3)))) (ev_bind (a:=[.list (il downs),.int ((cs.getD 5 0).fdiv 3)]) (ev_bind (a:=.list (il downs)) rfl (ev_map (a:=[.int ((cs.getD 5 0).fdiv 3)]) (ev_bind (a:=.int ((cs.getD 5 0).fdiv 3)) (ev_bind (a:=.int (cs.getD 5 0)) ?_ (ev_bind (a:=.int 3) rfl hd3)) rfl) rfl)) (hcRD _)) rfl) (hcMD _)) rfl rfl) rfl)
   ·exact hat (j:=5) (by decide)
   ·exact hat (j:=5) (by decide)
  refine .step (σ1:=[.list (il sc),.list (il cs),.list (sl W6),.list (il toldL),.list (il hi),.list (il lo),.list (sl (lo.map wd)),.list (sl (hi.map wd)),.list (nl pl),.hdr its,.list (sl (fin.map wd)),.list (il ups),.list (il downs),.list (il falls),.list (il rises),.unb,.unb,.unb,.unb,.unb,.unb,.unb,.unb,.unb,.unb,.unb,.unb,.unb,.unb,.unb,.unb]) (ev_ifF (ev_bind (a:=.list [.list (il falls),.list (il rises)]) rfl (ev_bind (a:=.list [.list (il falls),.list (il rises)]) ?_ (ne_refl2 _ falls rises))) rfl) ?_
  ·refine ev_bind (a:=[.list (il falls),.list (il rises)]) (ev_bind (a:=.list (il falls)) (ev_bind (a:=[.list (il ups),.int (cs.getD 5 0)]) (ev_bind (a:=.list (il ups)) rfl (ev_map (a:=[.int (cs.getD 5 0)]) (ev_bind (a:=.int (cs.getD 5 0)) ?_ rfl) rfl)) (hcSU _)) (ev_map (a:=[.list (il rises)]) (ev_bind (a:=.list (il rises)) (ev_bind (a:=[.list (il downs),.int ((cs.getD 5 0).fdiv 3)]) (ev_bind (a:=.list (il downs)) rfl (ev_map (a:=[.int ((cs.getD 5 0).fdiv 3)]) (ev_bind (a:=.int ((cs.getD 5 0).fdiv 3)) (ev_bind (a:=.int (cs.getD 5 0)) ?_ (ev_bind (a:=.int 3) rfl hd3)) rfl) rfl)) (hcSD _)) rfl) rfl)) rfl
   ·exact hat (j:=5) (by decide)
   ·exact hat (j:=5) (by decide)
  refine .step (σ1:=[.list (il sc),.list (il cs),.list (sl W6),.list (il toldL),.list (il hi),.list (il lo),.list (sl (lo.map wd)),.list (sl (hi.map wd)),.list (nl pl),.hdr its,.list (sl (fin.map wd)),.list (il ups),.list (il downs),.list (il falls),.list (il rises),.list [.bool af,.bool af],.unb,.unb,.unb,.unb,.unb,.unb,.unb,.unb,.unb,.unb,.unb,.unb,.unb,.unb,.unb]) (ev_asg (cv:=.list [.bool af,.bool af]) ?_ rfl) ?_
  ·refine (ev_compR (v:=.list [.list (il falls),.list (il rises)]) (xs:=[.list (il falls),.list (il rises)]) rfl rfl (fun σ=>∃ k,isM k = false∧σ = [.unb,k,.unb,.list (sl (lo.map wd)),.list (sl (hi.map wd))]) (fun J=>true) (fun J=>.bool af) ?_ ⟨.unb,rfl,rfl⟩ (show 2≤4096 by decide)).trans rfl
   rintro σ c hc ⟨k,hk,rfl⟩
   simp only [List.mem_cons,List.not_mem_nil,or_false] at hc
   rcases hc with rfl | rfl <;> refine ⟨_,stF_ok rfl (by simp) hk,rfl,⟨_,rfl,rfl⟩,fun J=>⟨?_,rfl⟩⟩
   ·exact ev_bind (a:=[.list (sl (lo.map wd)),.list (sl (hi.map wd)),.list (il (falls.filter fun m=>decide (m < 6)))]) (ev_bind (a:=.list (sl (lo.map wd))) rfl (ev_map (a:=[.list (sl (hi.map wd)),.list (il (falls.filter fun m=>decide (m < 6)))]) (ev_bind (a:=.list (sl (hi.map wd))) rfl (ev_map (a:=[.list (il (falls.filter fun m=>decide (m < 6)))]) (ev_bind (a:=.list (il (falls.filter fun m=>decide (m < 6)))) (ev_lt6 (src:=[none,none]) rfl rfl hfl) rfl) rfl)) rfl)) (c_fronts _ lo hi _ af sl' sh uf ub)
   ·exact ev_bind (a:=[.list (sl (lo.map wd)),.list (sl (hi.map wd)),.list (il (rises.filter fun m=>decide (m < 6)))]) (ev_bind (a:=.list (sl (lo.map wd))) rfl (ev_map (a:=[.list (sl (hi.map wd)),.list (il (rises.filter fun m=>decide (m < 6)))]) (ev_bind (a:=.list (sl (hi.map wd))) rfl (ev_map (a:=[.list (il (rises.filter fun m=>decide (m < 6)))]) (ev_bind (a:=.list (il (rises.filter fun m=>decide (m < 6)))) (ev_lt6 (src:=[none,none]) rfl rfl hrl) rfl) rfl)) rfl)) (c_fronts _ lo hi _ af sl' sh df db)
  refine .step (σ1:=[.list (il sc),.list (il cs),.list (sl W6),.list (il toldL),.list (il hi),.list (il lo),.list (sl (lo.map wd)),.list (sl (hi.map wd)),.list (nl pl),.hdr its,.list (sl (fin.map wd)),.list (il ups),.list (il downs),.list (il falls),.list (il rises),.list [.bool af,.bool af],.list [.bool af,.bool af,.bool af],.unb,.unb,.unb,.unb,.unb,.unb,.unb,.unb,.unb,.unb,.unb,.unb,.unb,.unb]) (ev_asg (cv:=.list [.bool af,.bool af,.bool af]) ?_ rfl) ?_
  ·refine ev_bind (a:=.list [.bool af]) (ev_bind (a:=[.bool af]) (ev_bind (a:=.bool af) (ev_bind (a:=.list (sl (fin.map wd))) rfl (ev_bind (a:=.list (sl W6)) rfl (ev_map (a:=af) ?_ rfl))) rfl) rfl) (ev_bind (a:=.list [.bool af,.bool af]) rfl rfl)
   show eqS (.list (sl (fin.map wd))) (.list (sl W6)) = _
   rw [eqS_sl _ _ (ok_map hfr) W6_strOk,wd_words hfr,hid]
  refine .step (σ1:=[.list (il sc),.list (il cs),.list (sl W6),.list (il toldL),.list (il hi),.list (il lo),.list (sl (lo.map wd)),.list (sl (hi.map wd)),.list (nl pl),.hdr its,.list (sl (fin.map wd)),.list (il ups),.list (il downs),.list (il falls),.list (il rises),.list [.bool af,.bool af],.list [.bool af,.bool af,.bool af],.unb,.unb,.unb,.unb,.unb,.unb,.unb,.unb,.unb,.unb,.unb,.unb,.unb,.unb]) (ev_ifF (ev_orF (ev_bind (a:=.list [.bool af,.bool af,.bool af]) rfl (ev_bind (a:=.list [.bool af,.bool af,.bool af]) ?_ (ne_bools _ af))) ?_) rfl) ?_
  ·exact ev_bind (a:=.list [.bool af]) (ev_bind (a:=[.bool af]) (ev_bind (a:=.bool af) (ev_bind (a:=[.list (il lo),.list (il hi)]) rfl (hcA _)) rfl) rfl) (ev_bind (a:=.int 3) rfl rfl)
  ·refine ev_bind (a:=.list (sl (fin.map wd))) rfl (ev_bind (a:=.list (sl (fin.map wd))) (ev_words ?_ rfl hfr (by lia)) (by rw [ne_sl _ _ _ (ok_map hfr) (ok_map hfr)]; simp))
   exact ev_bind (a:=[.list (il lo),.list (il hi)]) rfl (hcF _)
  refine .retM (a:=.bool true) ?_ rfl
  refine ev_andT (ev_bind (a:=.list (its.map hdrItem)) rfl (ev_bind (a:=.list (its.map itemC)) (ev_bind (a:=[.list (il lo),.list (nl pl),.int (cs.getD 4 0)]) (ev_bind (a:=.list (il lo)) rfl (ev_map (a:=[.list (nl pl),.int (cs.getD 4 0)]) (ev_bind (a:=.list (nl pl)) rfl (ev_map (a:=[.int (cs.getD 4 0)]) (ev_bind (a:=.int (cs.getD 4 0)) ?_ rfl) rfl)) rfl)) (hcDue _)) (ev_map (a:=true) (eq_its _ hok) rfl))) ?_
  ·exact hat (j:=4) (by decide)
  ·exact ev_bind (a:=.bool false) rfl (ev_bind (a:=.list (List.replicate 36 (.bool true))) (by kernel_rfl!) (ev_map (a:=true) (by kernel_rfl!) rfl))
end
end Mine
open PySem.Builtin PySem.Builtin.Re
namespace Mine
def Facts (h : Heap) : Prop:=∃ h₀,(∀ b o,h₀.get? b = some o→h.get? b = some o)∧obsH h₀ = valH
theorem Facts.keeps {h h' : Heap} (x : Facts h) (hk : ∀ b o,h.get? b = some o→h'.get? b = some o) : Facts h' :=
 let ⟨h₀,a,b⟩:=x; ⟨h₀,fun p o e=>hk p o (a p o e),b⟩
set_option tactic.hygienic true in
theorem of_dview {h : Heap} {v : Value} {n : Nat} (e : dview h v = n) : (n = 0→v = .none)∧(n = 1→∃ a o m tk,v = .ref a∧a ≠ tabA∧h.get? a = some o∧o.data = .seq #[.int 0 tk,.none] m) ∧
  (n = 2→∃ a o m,v = .ref a∧a ≠ tabA∧h.get? a = some o∧o.data = .seq #[.none] m):=by
 subst e
 unfold dview
 split
 ·exact ⟨fun J=>rfl,(fun e=>by cases e),fun e=>by cases e⟩
 ·rename_i x
  split
  ·exact ⟨(fun e=>by cases e),(fun e=>by cases e),fun e=>by cases e⟩
  ·rename_i hx
   split
   ·rename_i oc ho
    split
    ·rename_i xs n hd
     split
     ·rename_i tk hl
      refine ⟨(fun e=>by cases e),(fun J=>⟨x,oc,n,tk,rfl,hx,ho,?_⟩),fun e=>by cases e⟩
      rw [hd]; congr 1; exact Array.toList_inj.mp hl
     ·rename_i hl
      refine ⟨(fun e=>by cases e),(fun e=>by cases e),fun J=>⟨x,oc,n,rfl,hx,ho,?_⟩⟩
      rw [hd]; congr 1; exact Array.toList_inj.mp hl
     ·exact ⟨(fun e=>by cases e),(fun e=>by cases e),fun e=>by cases e⟩
    ·exact ⟨(fun e=>by cases e),(fun e=>by cases e),fun e=>by cases e⟩
   ·exact ⟨(fun e=>by cases e),(fun e=>by cases e),fun e=>by cases e⟩
 ·exact ⟨(fun e=>by cases e),(fun e=>by cases e),fun e=>by cases e⟩
theorem of_cview {h : Heap} {v : Value} {q : Str} (e : cview h v = some q) : ∃ cc oc vc tc,v = .ref cc∧h.get? cc = some oc∧oc.data = .fields vc∧vc[1]? = some (.str q tc):=by
 unfold cview at e
 split at e
 ·refine bc fun hG=>?_
  obtain ⟨oc,h1,e⟩:=Option.bind_eq_some_iff.mp e
  refine hG ?_
  clear hG
  split at e
  ·split at e
   ·cases e; exact ⟨_,_,_,_,rfl,h1,by assumption,by assumption⟩
   ·cases e
  ·cases e
 ·cases e
theorem of_fview {h : Heap} {x : Addr × Stmt × Str × Nat × Nat} (e : fview h x.1 = fexp x) (hx : x.1 - 1 ≠ tabA) : ∃ dV kV,FnRec h x.1 x.2.1 dV kV∧dview h dV = x.2.2.2.1∧dview h kV = x.2.2.2.2:=by
 obtain ⟨a,st,q,d,k⟩:=x
 obtain ⟨o,h1,e⟩:=Option.bind_eq_some_iff.mp e
 split at e
 ·rename_i fd hd
  simp only [Option.some.injEq,Prod.mk.injEq] at e
  refine bc fun hG=>?_
  obtain ⟨e1,e2,e3,e4,e5,e6,e7,e8,e9,e10,e11,e12⟩:=e
  obtain ⟨cc,oc,vc,tc,c1,c2,c3,c4⟩:=of_cview e10
  refine hG ?_
  clear hG
  refine ⟨fd.defaults,fd.kwdefaults,⟨o,fd,h1,e1,hd,e2,e3,e4,e5,e6,e7,rfl,rfl,⟨cc,oc,vc,tc,c1,?_,c2,c3,?_⟩,?_⟩,e11,e12⟩
  ·rw [e8] at c1; cases c1; exact hx
  ·rw [e9]; exact c4
  ·rw [e8]; intro q; cases q
 ·cases e
theorem FnRec.keeps {h h' : Heap} {a st dV kV} (x : FnRec h a st dV kV) (hk : ∀ b o,h.get? b = some o→h'.get? b = some o) : FnRec h' a st dV kV:=by
 refine bc fun hG=>?_
 obtain ⟨o,fd,h1,h2,h3,h4,h5,h6,h7,h8,h9,h10,h11,⟨cc,oc,vc,tc,c1,c2,c3,c4⟩,h12⟩:=x.ex
 refine hG ?_
 clear hG
 exact ⟨o,fd,hk _ _ h1,h2,h3,h4,h5,h6,h7,h8,h9,h10,h11,⟨cc,oc,vc,tc,c1,c2,hk _ _ c3,c4⟩,h12⟩
theorem ofIs_lookup {h : Heap} {a : Addr} {o : Obj} : ∀ {ks : List Addr},(ofIs h ks).lookup a = some o→h.get? a = some o:=by
 intro ks
 induction ks with
 | nil =>
  intro e
  cases e
 | cons k ks ofIs_lookup =>
  intro e
  unfold ofIs at e
  cases hk : h.get? k with
  | none=>rw [List.filterMap_cons_none (by rw [hk]; rfl)] at e; exact ofIs_lookup e
  | some ok =>
   rw [List.filterMap_cons_some (b:=(k,ok)) (by rw [hk]; rfl),List.lookup_cons] at e
   split at e
   ·rename_i q
    cases e; rw [beq_iff_eq.mp q]; exact hk
   ·exact ofIs_lookup e
theorem of_hview {K : Frag} {b : List (Option (Option Value))} {c : List (Option Value)} (e : hview K = (b,c,true)) (hb : b = valH.2.1.1) (hc : c = valH.2.1.2.1) : HCls K:=by
 obtain ⟨e1,e⟩:=Prod.mk.inj e
 obtain ⟨e2,e3⟩:=Prod.mk.inj e
 simp only [Bool.and_eq_true,Option.isNone_iff_eq_none,Option.any_eq_true] at e3
 obtain ⟨⟨⟨⟨⟨m1,m2⟩,cd,m3,m4⟩,m5⟩,m6⟩,m7⟩:=e3
 rw [hb] at e1
 rw [hc] at e2
 injection e1 with a1 e1
 injection e1 with a2 e1
 injection e1 with a3 e1
 injection e1 with a4 e1
 injection e1 with a5 e1
 injection e1 with a6 e1
 injection e1 with a7 e1
 injection e1 with a8 e1
 injection e1 with a9 e1
 injection e1 with a10 e1
 injection e1 with a11 e1
 injection e2 with b1 e2
 injection e2 with b2 e2
 injection e2 with b3 e2
 injection e2 with b4 e2
 injection e2 with b5 e2
 injection e2 with b6 e2
 injection e2 with b7 e2
 exact ⟨m1,a1,a2,m2,a3,a4,a5,a6,a7,a8,a9,b1,b2,b3,b4,b5,b6,b7,⟨cd,m3,m4⟩,a10,m5,m6,a11,m7⟩
end Mine
open PySem.Builtin PySem.Builtin.Re
namespace Mine
set_option tactic.hygienic true in
theorem of_pview {h : Heap} {a cd : Addr} {code : Array Nat} (e : pview h a = some (.type "re.Pattern",none,0,0,cd,some code)) (hc : cd ≠ tabA) : PatAt h a code:=by
 obtain ⟨o,h1,e⟩:=oB e
 split at e
 ·rename_i fs hd
  split at e
  ·rename_i c hq
   simp only [Option.some.injEq,Prod.mk.injEq] at e
   obtain ⟨e1,e2,e3,e4,e5,e6⟩:=e
   subst e5
   obtain ⟨oc,h2,e6⟩:=oB e6
   split at e6
   ·rename_i items n hs
    cases e6
    exact ⟨o,fs,c,oc,items,n,h1,e1,e2,hd,e3,e4,hq,hc,h2,hs,rfl⟩
   ·cases e6
  ·cases e
 ·cases e
set_option tactic.hygienic true in
theorem of_tview {h : Heap} (e : tview h = some (.type "code",some (.ref tabA),1,2,3,2)) (ht : h.get? tabA = some { cls:=.none,data:=.fields #[] }) : TabOk h #[]:=by
 obtain ⟨o,h1,e⟩:=oB e
 split at e
 ·rename_i vs hd
  simp only [Option.some.injEq,Prod.mk.injEq] at e
  obtain ⟨e1,e2,e3,e4,e5,e6⟩:=e
  have s1 : ∀ v,vtag v = 1→∃ x t,v = .str x t:=fun v q=>by cases v <;> first | exact ⟨_,_,rfl⟩ | cases q
  have s2 : ∀ v,vtag v = 2→∃ x t,v = .int x t:=fun v q=>by cases v <;> first | exact ⟨_,_,rfl⟩ | cases q
  have s3 : ∀ v,vtag v = 3→∃ x,v = .bool x:=fun v q=>by cases v <;> first | exact ⟨_,rfl⟩ | cases q
  refine bc fun hG=>?_
  obtain ⟨x1,t1,q1⟩:=s1 _ e3
  obtain ⟨x2,t2,q2⟩:=s2 _ e4
  obtain ⟨x3,q3⟩:=s3 _ e5
  obtain ⟨x4,t4,q4⟩:=s2 _ e6
  refine hG ?_
  clear hG
  exact ⟨⟨o,vs,x1,t1,x2,t2,x3,x4,t4,_,h1,hd,by rw [Array.getD_eq_getD_getElem?,e2]; rfl,q1,q2,q3,q4,ht,rfl,trivial,by decide⟩,⟨⟨o,vs,h1,e1,hd,e2⟩,ht⟩,fun pos cv e=>by cases e⟩
 ·cases e
theorem PatAt.keeps {h h' : Heap} {a : Addr} {code : Array Nat} (x : PatAt h a code) (hk : ∀ b o,h.get? b = some o→h'.get? b = some o) : PatAt h' a code:=by
 refine bc fun hG=>?_
 obtain ⟨o,fs,cd,oc,items,n,h1,h2,h3,h4,h5,h6,h7,h8,h9,r⟩:=x.ex
 refine hG ?_
 clear hG
 exact ⟨o,fs,cd,oc,items,n,hk _ _ h1,h2,h3,h4,h5,h6,h7,h8,hk _ _ h9,r⟩
set_option tactic.hygienic true in
theorem tops_of {loose : List Str} {mean : ExcName→Option Value} {mg mb : Str→Option Value} {h : Heap} (X : Facts h) (T : Top viewQ loose mean mg mb h) : TopsH PySem.Challenge.rw_uc0041_01.row.prog h mg mb∧TabOk h #[]∧h.get? tabA = some { cls:=.none,data:=.fields #[] }:=by
 refine bc fun hG=>?_
 obtain ⟨h₀,hk,e⟩:=X
 obtain ⟨e1,e⟩:=Prod.mk.inj e
 obtain ⟨e2,e⟩:=Prod.mk.inj e
 obtain ⟨e3,e⟩:=Prod.mk.inj e
 obtain ⟨e4,e⟩:=Prod.mk.inj e
 obtain ⟨e5,e⟩:=Prod.mk.inj e
 obtain ⟨e6,e⟩:=Prod.mk.inj e
 obtain ⟨e7,e⟩:=Prod.mk.inj e
 obtain ⟨e8,e⟩:=Prod.mk.inj e
 obtain ⟨e9,e10⟩:=Prod.mk.inj e
 obtain ⟨o₀,ho₀,hcls⟩:=oM e6
 refine hG ?_
 clear hG
 have tab:=of_tview e9 e10
 have M : ∀ x,mg x = glv h₀ x:=by
  refine bc fun hG=>?_
  obtain ⟨o,es,ep,ho,hd,_,hf⟩:=T.g
  refine hG ?_
  clear hG
  have q:=(hk _ _ ho₀).symm.trans ho
  cases q
  intro x
  unfold glv
  rw [ho₀]
  dsimp only
  rw [hd]
  exact (hf x).symm
 have G : ∀ n a,(n,a)∈gn1→mg n = some (.ref a):=fun n a m=>(M n).trans (List.map_inj_left.mp e3 (n,a) m)
 have N : ∀ n,n∈gn2→mg n = none:=fun n m=>(M n).trans (List.map_inj_left.mp e4 n m)
 have R : ∀ a st q d k,(a,st,q,d,k)∈fns→a - 1 ≠ tabA→∃ dV kV,FnRec h a st dV kV∧dview h₀ dV = d∧dview h₀ kV = k:=fun a st q d k m hx=>by
  refine bc fun hG=>?_
  obtain ⟨dV,kV,r,s⟩:=of_fview (List.map_inj_left.mp e1 _ m) hx
  refine hG ?_
  clear hG
  exact ⟨dV,kV,r.keeps hk,s⟩
 have R0 : ∀ a st q,(a,st,q,0,0)∈fns→a - 1 ≠ tabA→FnRec h a st .none .none:=fun a st q m hx=>by
  refine bc fun hG=>?_
  obtain ⟨dV,kV,r,s1,s2⟩:=R a st q 0 0 m hx
  refine hG ?_
  clear hG
  rw [(of_dview s1).1 rfl,(of_dview s2).1 rfl] at r
  exact r
 have R1 : ∀ a st q k,(a,st,q,1,k)∈fns→a - 1 ≠ tabA→∃ dV kV,FnRec h a st dV kV∧Dfl h dV kV:=fun a st q k m hx=>by
  refine bc fun hG=>?_
  obtain ⟨dV,kV,r,s1,s2⟩:=R a st q 1 k m hx
  obtain ⟨x,o,n,tk,h1,h2,h3,h4⟩:=(of_dview s1).2.1 rfl
  refine hG ?_
  clear hG
  exact ⟨dV,kV,r,⟨x,o,n,tk,h1,h2,hk _ _ h3,h4⟩⟩
 have R2 : ∀ a st q,(a,st,q,2,0)∈fns→a - 1 ≠ tabA→∃ d,FnRec h a st d .none∧∃ a o n,d = .ref a∧a ≠ tabA∧h.get? a = some o∧o.data = .seq #[.none] n:=fun a st q m hx=>by
  refine bc fun hG=>?_
  obtain ⟨dV,kV,r,s1,s2⟩:=R a st q 2 0 m hx
  refine hG ?_
  clear hG
  rw [(of_dview s2).1 rfl] at r
  refine bc fun hG=>?_
  obtain ⟨x,o,n,h1,h2,h3,h4⟩:=(of_dview s1).2.2 rfl
  refine hG ?_
  clear hG
  exact ⟨dV,r,x,o,n,h1,h2,hk _ _ h3,h4⟩
 refine ⟨?_,⟨tab.c.keeps hk,tab.t.keeps hk,tab.l.keeps hk⟩,hk _ _ e10⟩
 exact {
  tf:=⟨T.nolimit,⟨_,tab.keeps hk⟩,T.g,T.b,T.builtins,T.seer (by kernel_rfl),rfl⟩
  r47:=R1 47 _ _ _ (List.mem_of_getElem? (i:=0) rfl) (by decide)
  r56:=R1 56 _ _ _ (List.mem_of_getElem? (i:=1) rfl) (by decide)
  r65:=R1 65 _ _ _ (List.mem_of_getElem? (i:=2) rfl) (by decide)
  r74:=R1 74 _ _ _ (List.mem_of_getElem? (i:=3) rfl) (by decide)
  r81:=R0 81 _ _ (List.mem_of_getElem? (i:=4) rfl) (by decide)
  r88:=R0 88 _ _ (List.mem_of_getElem? (i:=5) rfl) (by decide)
  r95:=R0 95 _ _ (List.mem_of_getElem? (i:=6) rfl) (by decide)
  r252:=R0 252 _ _ (List.mem_of_getElem? (i:=7) rfl) (by decide)
  r259:=R0 259 _ _ (List.mem_of_getElem? (i:=8) rfl) (by decide)
  r266:=R0 266 _ _ (List.mem_of_getElem? (i:=9) rfl) (by decide)
  r273:=R0 273 _ _ (List.mem_of_getElem? (i:=10) rfl) (by decide)
  r280:=R0 280 _ _ (List.mem_of_getElem? (i:=11) rfl) (by decide)
  r285:=R0 285 _ _ (List.mem_of_getElem? (i:=12) rfl) (by decide)
  r290:=R0 290 _ _ (List.mem_of_getElem? (i:=13) rfl) (by decide)
  r295:=R0 295 _ _ (List.mem_of_getElem? (i:=14) rfl) (by decide)
  r302:=R0 302 _ _ (List.mem_of_getElem? (i:=15) rfl) (by decide)
  r307:=R0 307 _ _ (List.mem_of_getElem? (i:=16) rfl) (by decide)
  r314:=R0 314 _ _ (List.mem_of_getElem? (i:=17) rfl) (by decide)
  r321:=R0 321 _ _ (List.mem_of_getElem? (i:=18) rfl) (by decide)
  r328:=R0 328 _ _ (List.mem_of_getElem? (i:=19) rfl) (by decide)
  r333:=R0 333 _ _ (List.mem_of_getElem? (i:=20) rfl) (by decide)
  r338:=R0 338 _ _ (List.mem_of_getElem? (i:=21) rfl) (by decide)
  r343:=R0 343 _ _ (List.mem_of_getElem? (i:=22) rfl) (by decide)
  r348:=R0 348 _ _ (List.mem_of_getElem? (i:=23) rfl) (by decide)
  r133:=R2 133 _ _ (List.mem_of_getElem? (i:=24) rfl) (by decide)
  r140:=⟨_,R0 140 _ _ (List.mem_of_getElem? (i:=25) rfl) (by decide)⟩
  r154:=R0 154 _ _ (List.mem_of_getElem? (i:=26) rfl) (by decide)
  r159:=R0 159 _ _ (List.mem_of_getElem? (i:=27) rfl) (by decide)
  r188:=R2 188 _ _ (List.mem_of_getElem? (i:=28) rfl) (by decide)
  r205:=R0 205 _ _ (List.mem_of_getElem? (i:=29) rfl) (by decide)
  r238:=R0 238 _ _ (List.mem_of_getElem? (i:=30) rfl) (by decide)
  g47:=G _ _ (List.mem_of_getElem? (i:=0) rfl)
  g56:=G _ _ (List.mem_of_getElem? (i:=1) rfl)
  g65:=G _ _ (List.mem_of_getElem? (i:=2) rfl)
  g74:=G _ _ (List.mem_of_getElem? (i:=3) rfl)
  g81:=G _ _ (List.mem_of_getElem? (i:=4) rfl)
  g88:=G _ _ (List.mem_of_getElem? (i:=5) rfl)
  g95:=G _ _ (List.mem_of_getElem? (i:=6) rfl)
  g252:=G _ _ (List.mem_of_getElem? (i:=7) rfl)
  g259:=G _ _ (List.mem_of_getElem? (i:=8) rfl)
  g266:=G _ _ (List.mem_of_getElem? (i:=9) rfl)
  g273:=G _ _ (List.mem_of_getElem? (i:=10) rfl)
  g280:=G _ _ (List.mem_of_getElem? (i:=11) rfl)
  g285:=G _ _ (List.mem_of_getElem? (i:=12) rfl)
  g290:=G _ _ (List.mem_of_getElem? (i:=13) rfl)
  g295:=G _ _ (List.mem_of_getElem? (i:=14) rfl)
  g302:=G _ _ (List.mem_of_getElem? (i:=15) rfl)
  g307:=G _ _ (List.mem_of_getElem? (i:=16) rfl)
  g314:=G _ _ (List.mem_of_getElem? (i:=17) rfl)
  g321:=G _ _ (List.mem_of_getElem? (i:=18) rfl)
  g328:=G _ _ (List.mem_of_getElem? (i:=19) rfl)
  g333:=G _ _ (List.mem_of_getElem? (i:=20) rfl)
  g338:=G _ _ (List.mem_of_getElem? (i:=21) rfl)
  g343:=G _ _ (List.mem_of_getElem? (i:=22) rfl)
  g348:=G _ _ (List.mem_of_getElem? (i:=23) rfl)
  gH:=G _ _ (List.mem_of_getElem? (i:=24) rfl)
  gN:=G _ _ (List.mem_of_getElem? (i:=25) rfl)
  gV:=G _ _ (List.mem_of_getElem? (i:=26) rfl)
  n_range:=N _ (List.mem_of_getElem? (i:=0) rfl)
  n_len:=N _ (List.mem_of_getElem? (i:=1) rfl)
  n_list:=N _ (List.mem_of_getElem? (i:=2) rfl)
  n_sorted:=N _ (List.mem_of_getElem? (i:=3) rfl)
  n_sum:=N _ (List.mem_of_getElem? (i:=4) rfl)
  n_type:=N _ (List.mem_of_getElem? (i:=5) rfl)
  n_int:=N _ (List.mem_of_getElem? (i:=6) rfl)
  n_ValueError:=N _ (List.mem_of_getElem? (i:=7) rfl)
  n_str:=N _ (List.mem_of_getElem? (i:=8) rfl)
  gC:=by
   split at e5
   ·rename_i i t q
    cases e5
    exact ⟨t,(M _).trans q⟩
   ·cases e5
  bat:=by
   refine bc fun hG=>?_
   obtain ⟨bm,ob,h1,h2,h3,h4,h5,h6⟩:=T.bmain
   refine hG ?_
   clear hG
   refine ⟨bm,ob,h1,h2,fun q=>?_,fun q=>?_,h3,h4,h5,h6⟩
   ·have e:=(hk _ _ ho₀).symm.trans (q▸h3)
    cases e
    rw [hcls] at h4
    exact absurd h4 (by decide)
   ·rw [q,hk _ _ e10] at h3
    cases h3
    exact absurd (show Value.none = .type "module" from h4) (by decide)
  fronts:=fun o fd ho hd=>by
   have e:=List.map_inj_left.mp e1 _ (List.mem_of_getElem? (i:=21) rfl)
   obtain ⟨o',h1,e⟩:=oB e
   cases (hk _ _ h1).symm.trans ho
   rw [hd] at e
   simp only [Option.some.injEq,Prod.mk.injEq] at e
   exact ⟨e.2.2.2.2.2.2.2.1,e.2.2.2.2.2.2.2.2.1⟩
  k:=⟨_,fun a o q=>hk _ _ (ofIs_lookup q),of_hview e2 rfl rfl⟩
  pN:=(of_pview e7 (by decide)).keeps hk
  pV:=(of_pview e8 (by decide)).keeps hk }
theorem well_ints {P : Params} {h : Heap} {F : Addr→Prop} {l : List Int} : ∀ {vs : List Value},WellAll P h vs (ofPys (l.map .int))→VRs F h (il l) vs:=by
 induction l with
 | nil=>intro vs w; cases w; exact .nil
 | cons i l ih =>
  intro vs w
  cases w with
  | cons w ws =>
   have w : Well P h _ (.int i):=w
   cases w
   exact .cons (.int _ _) (ih ws)
set_option maxRecDepth 100000 in
set_option maxHeartbeats 0 in
theorem saidL : PySem.Challenge.rw_uc0041_01.wellSaid = true:=by
 unfold OpenLaw.wellSaid
 with_reducible repeat' refine look_both ?_ ?_
 ·unfold OpenRow.wellSaid OpenRow.partSaid looksOpen
  with_reducible repeat' refine look_both ?_ ?_
  all_goals decide +kernel
 all_goals decide +kernel
set_option tactic.hygienic true in
set_option maxHeartbeats 0 in
theorem holds_of (hLaw : ∀ cs : List Int,cs.length = 6→LawF (orderL (cs.getD 0 0)) (lowL (orderL (cs.getD 0 0)) (cs.getD 1 0) (cs.getD 2 0)) (planL ((orderL (cs.getD 0 0)).map wd) (cs.getD 3 0)) (cs.getD 4 0) (cs.getD 5 0)) : PySem.Challenge.rw_uc0041_01.Holds:=by
 refine holds_law saidL fun said=>?_
 refine holds_open (q:=viewQ) (loose:=looseN) (Xt:=fun s=>xlAt viewQ [] s && recOk (RowW.records PySem.Challenge.rw_uc0041_01.row.toRowW) s) (XP:=XL viewQ []) (Yf:=fun s=>obsH s.heap) (Ya:=fun J=>valH) (YP:=fun J h=>Facts h) (N:=3732) leftAB (fun J s e=>⟨s.heap,fun J J q=>q,e⟩) (fun J J J x hk=>x.keeps hk)
  (fun s e=>xl_of s (bA e).1) XL.keeps (by rfl) (by rfl) (by rfl) (fun s e=>recFacts_of (bA e).2) (by rfl) said (by decide +kernel) ⟨rfl,rfl,rfl,rfl,rfl,by decide +kernel⟩ ⟨[.list []],by decide +kernel,by decide +kernel⟩ ?_
 intro w s₀ s₁ mg mb G Y fa o pm cd doc dV kV ho hd' hcd hD hmg hg args vals as hpre hlay hrd hwl hlo
 obtain ⟨T,tab,ht⟩:=tops_of Y G.T
 have hfa : fa = 348:=by
  have e : mg "law" = some (.ref fa):=hmg
  rw [T.g348] at e
  cases e; rfl
 subst hfa
 clear Y hd' hcd hD hmg ho
 wrow_args hpre hlay hrd hwl hlo
 rename_i w5 _ _ _ _ _ _ _ a _ _ hL _ w1 r0 hI _ hlen _
 have hlen : w5.length≤63:=by omega
 have w2 : Well w.params s₁.heap (.ref a) (.list (ofPys (w5.map .int))):=w1
 cases w2 with
 | list hl hws =>
  rename_i vs
  have hv:=well_ints (F:=F₀) hws
  have hn : vs.length = w5.length:=by have:=hv.length; simpa using this.symm
  have at1 : At s₁.heap s₁:=⟨.refl _,by rw [hg]; intro x e; simp at e,T.tf.tab⟩
  have ne : a ≠ tabA:=fun q=>by
   rw [q,ht] at hl; cases hl
  have L:=law_fn (prog:=PySem.Challenge.rw_uc0041_01.row.prog) (w:=w) hLaw T callerA s₁ F₀ [.list (il w5)] [.ref a] [] [] (.bool true) ⟨rfl,by decide,by decide,[],rfl⟩ at1 rfl (fun b q hb=>absurd q hb)
   (.cons (.list ne hl (by simp; omega) (by exact well_ints hws)) .nil) .nil rfl (by
    show (ints? (il w5)).bind _ = _
    rw [ints_il]
    exact if_pos hlen)
  refine wpAny_mono L (fun v s' q=>?_) fun J J q=>q.elim
  obtain ⟨ex,hr⟩:=q
  cases hr
  refine ⟨.inl ⟨_,.bool true,[],rfl,fun J=>rfl,.bool _,by kernel_rfl,fun J=>⟨List.nodup_nil,fun J q=>by cases q⟩⟩,?_,ex.os,?_⟩
  ·refine ⟨fun b ob e=>?_,fun b ob e=>?_⟩
   ·by_cases hb : b = tabA
    ·subst hb
     obtain ⟨more,t⟩:=ex.kp.tab _ (tab)
     rw [ht] at e; cases e
     exact .inr (.inl ⟨(tab).t.isCodeTable,rfl,_,more,rfl,t.t.2⟩)
    ·exact .inl (ex.kp.keep b ob hb e)
   ·by_cases hb : b = tabA
    ·subst hb
     obtain ⟨more,t⟩:=ex.kp.tab _ (tab)
     exact ⟨_,t.t.2⟩
    ·exact ⟨ob,ex.kp.keep b ob hb e⟩
  ·exact ex.gens.b (by rw [hg]; intro x e; simp at e)
theorem lt4 {j : Nat} (h : j + 1 < 5) : j = 0∨j = 1∨j = 2∨j = 3:=(by decide : ∀ k : Fin 4,k.val = 0∨k.val = 1∨k.val = 2∨k.val = 3) ⟨j,Nat.lt_of_succ_lt_succ h⟩
theorem lt5 {k : Nat} (h : k < 5) : k = 0∨k = 1∨k = 2∨k = 3∨k = 4:=(by decide : ∀ k : Fin 5,k.val = 0∨k.val = 1∨k.val = 2∨k.val = 3∨k.val = 4) ⟨k,h⟩
theorem minmax {a b : Int} : (if b < a then b else a) = min a b∧(if b < a then a else b) = max a b:=by
 constructor <;> split <;> lia
section
variable {a b c d e f : Int}
theorem gt0 : gtK [a,b,c,d,e,f] 0 = [min a b,max a b,c,d,e,f]:=by
 show (if b < a then [b,a,c,d,e,f] else [a,b,c,d,e,f]) = _
 rw [← (minmax (a:=a) (b:=b)).1,← (minmax (a:=a) (b:=b)).2]; split <;> rfl
theorem gt1 : gtK [a,b,c,d,e,f] 1 = [a,min b c,max b c,d,e,f]:=by
 show (if c < b then [a,c,b,d,e,f] else [a,b,c,d,e,f]) = _
 rw [← (minmax (a:=b) (b:=c)).1,← (minmax (a:=b) (b:=c)).2]; split <;> rfl
theorem gt2 : gtK [a,b,c,d,e,f] 2 = [a,b,min c d,max c d,e,f]:=by
 show (if d < c then [a,b,d,c,e,f] else [a,b,c,d,e,f]) = _
 rw [← (minmax (a:=c) (b:=d)).1,← (minmax (a:=c) (b:=d)).2]; split <;> rfl
theorem gt3 : gtK [a,b,c,d,e,f] 3 = [a,b,c,min d e,max d e,f]:=by
 show (if e < d then [a,b,c,e,d,f] else [a,b,c,d,e,f]) = _
 rw [← (minmax (a:=d) (b:=e)).1,← (minmax (a:=d) (b:=e)).2]; split <;> rfl
theorem gt4 : gtK [a,b,c,d,e,f] 4 = [a,b,c,d,min e f,max e f]:=by
 show (if f < e then [a,b,c,d,f,e] else [a,b,c,d,e,f]) = _
 rw [← (minmax (a:=e) (b:=f)).1,← (minmax (a:=e) (b:=f)).2]; split <;> rfl
end
noncomputable abbrev sw (q : List Int) (k : Nat) : List Int:=swapR q k (k + 1)
noncomputable abbrev desc (q : List Int) (k : Nat) : Prop:=q.getD (k + 1) 0 < q.getD k 0
theorem gt_len {p : List Int} (k : Nat) (h : p.length = 6) : (gtK p k).length = 6:=(gtK_len p k).trans h
theorem sw_len {p : List Int} (k : Nat) (h : p.length = 6) : (sw p k).length = 6:=(swapR_len p k (k + 1)).trans h
theorem far {j k : Nat} (hk : k < 5) (hjk : j + 1 < k) : (j = 0∧k = 2)∨(j = 0∧k = 3)∨(j = 0∧k = 4)∨(j = 1∧k = 3)∨(j = 1∧k = 4)∨(j = 2∧k = 4) :=
 (by decide : ∀ k : Fin 5,∀ j : Fin 5,j.val + 1 < k.val→(j.val = 0∧k.val = 2)∨(j.val = 0∧k.val = 3)∨(j.val = 0∧k.val = 4)∨(j.val = 1∧k.val = 3)∨(j.val = 1∧k.val = 4)∨(j.val = 2∧k.val = 4)) ⟨k,hk⟩ ⟨j,Nat.lt_trans (Nat.lt_of_succ_lt hjk) hk⟩ hjk
theorem comm_gt {p : List Int} (h : p.length = 6) {j k : Nat} (hk : k < 5) (hjk : j + 1 < k) : gtK (gtK p j) k = gtK (gtK p k) j:=by
 refine bc fun hG=>?_
 obtain ⟨a,b,c,d,e,f,rfl⟩:=six h
 refine hG ?_
 clear hG
 rcases far hk hjk with ⟨rfl,rfl⟩ | ⟨rfl,rfl⟩ | ⟨rfl,rfl⟩ | ⟨rfl,rfl⟩ | ⟨rfl,rfl⟩ | ⟨rfl,rfl⟩ <;> simp only [gt0,gt1,gt2,gt3,gt4]
theorem comm_sw {p : List Int} (h : p.length = 6) {j k : Nat} (hk : k < 5) (hjk : j + 1 < k) : sw (sw p j) k = sw (sw p k) j:=by
 refine bc fun hG=>?_
 obtain ⟨a,b,c,d,e,f,rfl⟩:=six h
 refine hG ?_
 clear hG
 rcases far hk hjk with ⟨rfl,rfl⟩ | ⟨rfl,rfl⟩ | ⟨rfl,rfl⟩ | ⟨rfl,rfl⟩ | ⟨rfl,rfl⟩ | ⟨rfl,rfl⟩ <;> rfl
theorem desc_far {q : List Int} (h : q.length = 6) {j k : Nat} (hk : k < 5) (hjk : j + 1 < k) (d1 : desc q j) (d2 : desc q k) : desc (sw q j) k∧desc (sw q k) j:=by
 refine bc fun hG=>?_
 obtain ⟨a,b,c,d,e,f,rfl⟩:=six h
 refine hG ?_
 clear hG
 rcases far hk hjk with ⟨rfl,rfl⟩ | ⟨rfl,rfl⟩ | ⟨rfl,rfl⟩ | ⟨rfl,rfl⟩ | ⟨rfl,rfl⟩ | ⟨rfl,rfl⟩ <;> exact ⟨d2,d1⟩
theorem mm2 (a b c : Int) : max (min a b) (min (max a b) c) = min (max a (min b c)) (max b c):=by
 rcases Int.le_total a b with h | h
 ·rw [Int.min_eq_left h,Int.max_eq_right h]
  exact (Int.min_eq_left (Int.max_le.mpr ⟨Int.le_trans h (Int.le_max_left b c),Int.le_trans (Int.min_le_left b c) (Int.le_max_left b c)⟩)).symm
 ·rw [Int.min_eq_right h,Int.max_eq_left h]
  rcases Int.le_total b c with h2 | h2
  ·rw [Int.min_eq_left h2,Int.max_eq_right h2,Int.max_eq_left h,Int.max_eq_right (Int.le_min.mpr ⟨h,h2⟩)]
  ·rw [Int.min_eq_right h2,Int.max_eq_left h2,Int.min_eq_right (Int.le_trans h2 h),Int.max_eq_left h2,Int.max_eq_left (Int.le_trans h2 h),Int.min_eq_right h]
theorem mm (a b c : Int) : min (min a b) (min (max a b) c) = min a (min b c)∧max (min a b) (min (max a b) c) = min (max a (min b c)) (max b c)∧max (max a b) c = max (max a (min b c)) (max b c):=by
 refine ⟨?_,mm2 a b c,?_⟩
 ·rw [← Int.min_assoc,Int.min_eq_left (Int.le_trans (Int.min_le_left a b) (Int.le_max_left a b)),Int.min_assoc]
 ·rw [Int.max_assoc,Int.max_assoc,Int.max_eq_right (Int.le_trans (Int.min_le_left b c) (Int.le_max_left b c))]
theorem braid_gt {p : List Int} (h : p.length = 6) {j : Nat} (hj : j + 1 < 5) : gtK (gtK (gtK p j) (j + 1)) j = gtK (gtK (gtK p (j + 1)) j) (j + 1):=by
 refine bc fun hG=>?_
 obtain ⟨a,b,c,d,e,f,rfl⟩:=six h
 refine hG ?_
 clear hG
 rcases lt4 hj with rfl | rfl | rfl | rfl
 ·show gtK (gtK (gtK _ 0) 1) 0 = gtK (gtK (gtK _ 1) 0) 1
  simp only [gt0,gt1]; obtain ⟨h1,h2,h3⟩:=mm a b c; rw [h1,h2,h3]
 ·show gtK (gtK (gtK _ 1) 2) 1 = gtK (gtK (gtK _ 2) 1) 2
  simp only [gt1,gt2]; obtain ⟨h1,h2,h3⟩:=mm b c d; rw [h1,h2,h3]
 ·show gtK (gtK (gtK _ 2) 3) 2 = gtK (gtK (gtK _ 3) 2) 3
  simp only [gt2,gt3]; obtain ⟨h1,h2,h3⟩:=mm c d e; rw [h1,h2,h3]
 ·show gtK (gtK (gtK _ 3) 4) 3 = gtK (gtK (gtK _ 4) 3) 4
  simp only [gt3,gt4]; obtain ⟨h1,h2,h3⟩:=mm d e f; rw [h1,h2,h3]
theorem braid_sw {p : List Int} (h : p.length = 6) {j : Nat} (hj : j + 1 < 5) : sw (sw (sw p j) (j + 1)) j = sw (sw (sw p (j + 1)) j) (j + 1):=by
 refine bc fun hG=>?_
 obtain ⟨a,b,c,d,e,f,rfl⟩:=six h
 refine hG ?_
 clear hG
 rcases lt4 hj with rfl | rfl | rfl | rfl <;> rfl
theorem desc_near {q : List Int} (h : q.length = 6) {j : Nat} (hj : j + 1 < 5) (d1 : desc q j) (d2 : desc q (j + 1)) : desc (sw q j) (j + 1)∧desc (sw (sw q j) (j + 1)) j∧desc (sw q (j + 1)) j∧desc (sw (sw q (j + 1)) j) (j + 1):=by
 refine bc fun hG=>?_
 obtain ⟨a,b,c,d,e,f,rfl⟩:=six h
 refine hG ?_
 clear hG
 rcases lt4 hj with rfl | rfl | rfl | rfl <;> exact ⟨Int.lt_trans d2 d1,d2,Int.lt_trans d2 d1,d1⟩
noncomputable def i1 (a b : Int) : Nat:=if b < a then 1 else 0
theorem i1_le (a b : Int) : i1 a b≤1:=by unfold i1; split <;> exact Nat.le_of_ble_eq_true rfl
noncomputable def inv6 (a b c d e f : Int) : Nat:=i1 a b + (i1 a c + (i1 a d + (i1 a e + (i1 a f + (i1 b c + (i1 b d + (i1 b e + (i1 b f + (i1 c d + (i1 c e + (i1 c f + (i1 d e + (i1 d f + i1 e f)))))))))))))
noncomputable def inv (q : List Int) : Nat:=inv6 (q.getD 0 0) (q.getD 1 0) (q.getD 2 0) (q.getD 3 0) (q.getD 4 0) (q.getD 5 0)
theorem inv_le (q : List Int) : inv q≤15 :=
 Nat.add_le_add (i1_le _ _) (Nat.add_le_add (i1_le _ _) (Nat.add_le_add (i1_le _ _) (Nat.add_le_add (i1_le _ _) (Nat.add_le_add (i1_le _ _) (Nat.add_le_add (i1_le _ _) (Nat.add_le_add (i1_le _ _) (Nat.add_le_add (i1_le _ _) (Nat.add_le_add (i1_le _ _) (Nat.add_le_add (i1_le _ _) (Nat.add_le_add (i1_le _ _) (Nat.add_le_add (i1_le _ _) (Nat.add_le_add (i1_le _ _) (Nat.add_le_add (i1_le _ _) (i1_le _ _))))))))))))))
theorem inv_sw {q : List Int} (h : q.length = 6) {k : Nat} (hk : k < 5) (dk : desc q k) : inv (sw q k) + 1 = inv q:=by
 refine bc fun hG=>?_
 obtain ⟨a,b,c,d,e,f,rfl⟩:=six h
 refine hG ?_
 clear hG
 have key : ∀ {x y : Int},y < x→i1 x y = 1∧i1 y x = 0:=fun hh=>⟨if_pos hh,if_neg (by exact Int.lt_asymm hh)⟩
 rcases lt5 hk with rfl | rfl | rfl | rfl | rfl
 ·obtain ⟨h1,h2⟩:=key (x:=a) (y:=b) dk
  show inv6 b a c d e f + 1 = inv6 a b c d e f
  simp only [inv6]; lia
 ·refine bc fun hG=>?_
  obtain ⟨h1,h2⟩:=key (x:=b) (y:=c) dk
  refine hG ?_
  clear hG
  show inv6 a c b d e f + 1 = inv6 a b c d e f
  simp only [inv6]; lia
 ·obtain ⟨h1,h2⟩:=key (x:=c) (y:=d) dk
  show inv6 a b d c e f + 1 = inv6 a b c d e f
  simp only [inv6]; lia
 ·obtain ⟨h1,h2⟩:=key (x:=d) (y:=e) dk
  show inv6 a b c e d f + 1 = inv6 a b c d e f
  simp only [inv6]; lia
 ·obtain ⟨h1,h2⟩:=key (x:=e) (y:=f) dk
  show inv6 a b c d f e + 1 = inv6 a b c d e f
  simp only [inv6]; lia
inductive PV : List Int→List Nat→Prop
 | done {q} : (∀ k,k < 5→¬ desc q k)→PV q []
 | step {q k ks} : k < 5→desc q k→PV (sw q k) ks→PV q (k::ks)
theorem pv_ex : ∀ (n : Nat) (q : List Int),q.length = 6→inv q≤n→∃ ks,PV q ks
 | n,q,h,hn=>by
  by_cases hd : ∃ k,k < 5∧desc q k
  ·obtain ⟨k,hk,dk⟩:=hd
   have:=inv_sw h hk dk
   match n,hn with
   | 0,hn=>lia
   | n + 1,hn =>
    obtain ⟨ks,hp⟩:=pv_ex n (sw q k) (sw_len k h) (by lia)
    exact ⟨_,.step hk dk hp⟩
  ·exact ⟨[],.done fun k hk dk=>hd ⟨k,hk,dk⟩⟩
set_option tactic.hygienic true in
theorem pv_uniq : ∀ (n : Nat) (q : List Int),q.length = 6→inv q≤n→∀ (ks us : List Nat) (p : List Int),p.length = 6→PV q ks→PV q us→ks.foldl gtK p = us.foldl gtK p:=by
 intro n
 induction n with
 | zero =>
  intro q h hn ks us p hp h1 h2
  cases h1 with
  | step hk dk _=>have:=inv_sw h hk dk; lia
  | done hd =>
   cases h2 with
   | step hk dk _=>exact absurd dk (hd _ hk)
   | done _=>rfl
 | succ n pv_uniq =>
  intro q h hn ks us p hp h1 h2
  cases h1 with
  | done hd =>
   cases h2 with
   | step hk dk _=>exact absurd dk (hd _ hk)
   | done _=>rfl
  | step hj dj r1 =>
   rename_i j ks
   cases h2 with
   | done hd=>exact absurd dj (hd _ hj)
   | step hk dk r2 =>
    rename_i k us
    have nj:=inv_sw h hj dj
    have nk:=inv_sw h hk dk
    rw [List.foldl_cons,List.foldl_cons]
    have ih : ∀ (i : Nat),i < 5→desc q i→∀ ks us,PV (sw q i) ks→PV (sw q i) us→ks.foldl gtK (gtK p i) = us.foldl gtK (gtK p i):=fun i hi di ks us a b=>by
     have:=inv_sw h hi di
     exact pv_uniq (sw q i) (sw_len i h) (by lia) ks us _ (gt_len i hp) a b
    have key : ∀ (j k : Nat),k < 5→j < k→desc q j→desc q k→∀ ks us,PV (sw q j) ks→PV (sw q k) us→ks.foldl gtK (gtK p j) = us.foldl gtK (gtK p k):=by
     intro j k hk hjk dj dk ks us r1 r2
     rcases Nat.lt_or_ge (j + 1) k with hlt | hge
     ·refine bc fun hG=>?_
      obtain ⟨e1,e2⟩:=desc_far h hk hlt dj dk
      obtain ⟨vs,hv⟩:=pv_ex 15 (sw (sw q j) k) (sw_len k (sw_len j h)) (inv_le _)
      refine hG ?_
      clear hG
      rw [ih j (by lia) dj ks (k::vs) r1 (.step hk e1 hv),ih k hk dk us (j::vs) r2 (.step (by lia) e2 (comm_sw h hk hlt▸hv)),List.foldl_cons,List.foldl_cons,comm_gt hp hk hlt]
     ·have : k = j + 1:=by lia
      subst this
      refine bc fun hG=>?_
      obtain ⟨e1,e2,e3,e4⟩:=desc_near h hk dj dk
      obtain ⟨vs,hv⟩:=pv_ex 15 (sw (sw (sw q j) (j + 1)) j) (sw_len _ (sw_len _ (sw_len _ h))) (inv_le _)
      refine hG ?_
      clear hG
      rw [ih j (by lia) dj ks ((j + 1)::j::vs) r1 (.step hk e1 (.step (by lia) e2 hv)),ih (j + 1) hk dk us (j::(j + 1)::vs) r2 (.step (by lia) e3 (.step hk e4 (braid_sw h hk▸hv))),
       List.foldl_cons,List.foldl_cons,List.foldl_cons,List.foldl_cons,braid_gt hp hk]
    rcases Nat.lt_trichotomy j k with q1 | q1 | q1
    ·exact key j k hk q1 dj dk ks us r1 r2
    ·subst q1; exact ih j hj dj ks us r1 r2
    ·exact (key k j hj q1 dk dj us ks r2 r1).symm
theorem dueStep1 (cell : Int) (st : List Int × NS) (t k : Nat) : (dueStep cell st t k).1 = gtK st.1 k:=by unfold dueStep gtK; split <;> rfl
theorem due_fold (lo : List Int) (pl : List Nat) (cell : Int) : ∀ t,t≤pl.length→(dueSt lo pl cell t).1 = (pl.take t).foldl gtK lo:=by
 intro t
 induction t with
 | zero =>
  intro _
  exact rfl
 | succ t due_fold =>
  intro h
  have e : dueSt lo pl cell (t + 1) = dueStep cell (dueSt lo pl cell t) t (pl.getD t 0):=by
   unfold dueSt; rw [List.range_succ,List.foldl_append]; rfl
  have e2 : pl.take (t + 1) = pl.take t ++ [pl.getD t 0]:=by
   rw [List.take_succ,List.getD_eq_getElem?_getD,List.getElem?_eq_getElem (by exact Nat.lt_of_succ_le h)]; rfl
  rw [e,dueStep1,due_fold (by exact Nat.le_of_succ_le h),e2,List.foldl_append]; rfl
theorem falls_wd {q : List Int} (h : small q = true) : fallsT (q.map wd) = (List.range 5).filter fun k=>decide (desc q k):=by
 refine bc fun hG=>?_
 obtain ⟨h6,hr⟩:=small_iff.mp h
 refine hG ?_
 clear hG
 unfold fallsT
 refine List.filter_congr fun k hk=>?_
 have hk5:=List.mem_range.mp hk
 rw [wd_row (by exact h6▸Nat.lt_succ_of_lt hk5),wd_row (by exact h6▸Nat.succ_lt_succ hk5)]
 have:=coll_wd (hr _ (getD_mem (l:=q) (i:=k) (by exact h6▸Nat.lt_succ_of_lt hk5))) (hr _ (getD_mem (l:=q) (i:=k + 1) (by exact h6▸Nat.succ_lt_succ hk5)))
 rw [← this]
 rw [Bool.eq_iff_iff,beq_iff_eq,decide_eq_true_iff]
theorem swap_wd {q : List Int} (h : q.length = 6) {k : Nat} (hk : k < 5) : swapS (q.map wd) k (k + 1) = (sw q k).map wd:=by
 refine bc fun hG=>?_
 obtain ⟨a,b,c,d,e,f,rfl⟩:=six h
 refine hG ?_
 clear hG
 rcases lt5 hk with rfl | rfl | rfl | rfl | rfl <;> rfl
theorem plan_inv {hi : List Int} (hs : small hi = true) (n : Int) : ∀ t,∃ q,(planSt (hi.map wd) n t).row = q.map wd∧small q = true∧(∀ ks,PV q ks→PV hi ((planSt (hi.map wd) n t).plan ++ ks))∧(inv q≤15 - t∨∀ k,k < 5→¬ desc q k) ∧
  (planSt (hi.map wd) n t).plan.length≤t∧∀ x∈(planSt (hi.map wd) n t).plan,x < 5:=by
 intro t
 induction t with
 | zero =>
  exact ⟨hi,rfl,hs,fun ks h=>h,.inl (inv_le _),Nat.le_refl _,fun x hx=>by cases hx⟩
 | succ t plan_inv =>
  refine bc fun hG=>?_
  obtain ⟨q,h1,h2,h3,h4,h5,h6⟩:=plan_inv
  refine hG ?_
  clear hG
  have e : planSt (hi.map wd) n (t + 1) = planStep (planSt (hi.map wd) n t):=by
   unfold planSt; rw [List.range_succ,List.foldl_append]; rfl
  rw [e]
  generalize planSt (hi.map wd) n t = p at *
  refine bc fun hG=>?_
  obtain ⟨q6,qr⟩:=small_iff.mp h2
  refine hG ?_
  clear hG
  unfold planStep
  rw [h1,falls_wd h2]
  split
  ·rename_i hf
   have hd : ∀ k,k < 5→¬ desc q k:=fun k hk dk=>by
    have : k∈(List.range 5).filter fun k=>decide (desc q k):=List.mem_filter.mpr ⟨List.mem_range.mpr hk,decide_eq_true dk⟩
    rw [hf] at this; cases this
   exact ⟨q,h1,h2,h3,.inr hd,by exact Nat.le_add_right_of_le h5,h6⟩
  ·rename_i hf
   refine bc fun hG=>?_
   obtain ⟨m1,_,_⟩:=pickK_mem hf p.n
   refine hG ?_
   clear hG
   generalize pickK _ p.n = k at *
   obtain ⟨m2,m3⟩:=List.mem_filter.mp m1
   have hk:=List.mem_range.mp m2
   have dk:=of_decide_eq_true m3
   have hi':=inv_sw q6 hk dk
   refine ⟨sw q k,swap_wd q6 hk,swapR_small h2 (by exact Nat.lt_succ_of_lt hk) (by exact Nat.add_lt_of_lt_sub hk),fun ks hp=>?_,?_,by simp; exact h5,fun x hx=>?_⟩
   ·show PV hi ((p.plan ++ [k]) ++ ks)
    rw [List.append_assoc]
    exact h3 _ (.step hk dk hp)
   ·rcases h4 with h4 | h4
    ·left; exact Nat.le_sub_one_of_lt (Nat.lt_of_lt_of_le (Nat.lt_of_lt_of_eq (Nat.lt_succ_self _) hi') h4)
    ·exact absurd dk (h4 k hk)
   ·rcases List.mem_append.mp hx with hx | hx
    ·exact h6 x hx
    ·exact List.mem_singleton.mp hx▸hk
theorem plan_pv {hi : List Int} (hs : small hi = true) (n : Int) : PV hi (planL (hi.map wd) n)∧(planL (hi.map wd) n).length≤100∧∀ x∈planL (hi.map wd) n,x < 5:=by
 refine bc fun hG=>?_
 obtain ⟨q,h1,h2,h3,h4,h5,h6⟩:=plan_inv hs n 15
 refine hG ?_
 clear hG
 have hd : ∀ k,k < 5→¬ desc q k:=by
  rcases h4 with h4 | h4
  ·intro k hk dk
   have:=inv_sw (small_iff.mp h2).1 hk dk
   exact absurd (Nat.lt_of_lt_of_eq (Nat.lt_succ_self _) this) (Nat.not_lt.mpr (Nat.le_trans h4 (Nat.zero_le _)))
  ·exact h4
 have:=h3 [] (.done hd)
 rw [List.append_nil] at this
 exact ⟨this,Nat.le_trans h5 (by decide),h6⟩
theorem fin_inv (lo hi : List Int) (h : hi.length = 6) : ∀ t,∃ ks : List Nat,((List.range t).foldl (fun p J=>finStep p) (lo,hi)).1 = ks.foldl gtK lo∧((List.range t).foldl (fun p J=>finStep p) (lo,hi)).2.length = 6 ∧
  (∀ us,PV ((List.range t).foldl (fun p J=>finStep p) (lo,hi)).2 us→PV hi (ks ++ us))∧(inv ((List.range t).foldl (fun p J=>finStep p) (lo,hi)).2≤15 - t∨∀ k,k < 5→¬ desc ((List.range t).foldl (fun p J=>finStep p) (lo,hi)).2 k):=by
 intro t
 induction t with
 | zero =>
  exact ⟨[],rfl,h,fun us hp=>hp,.inl (inv_le _)⟩
 | succ t fin_inv =>
  refine bc fun hG=>?_
  obtain ⟨ks,h1,h2,h3,h4⟩:=fin_inv
  refine hG ?_
  clear hG
  rw [List.range_succ,List.foldl_append]
  show ∃ ks : List Nat,(finStep _).1 = _∧_
  generalize (List.range t).foldl (fun p J=>finStep p) (lo,hi) = p at *
  show ∃ ks : List Nat,(finStep p).1 = _∧(finStep p).2.length = 6∧(∀ us,PV (finStep p).2 us→PV hi (ks ++ us))∧(inv (finStep p).2≤15 - (t + 1)∨∀ k,k < 5→¬ desc (finStep p).2 k)
  unfold finStep
  cases hf : fallsL p.2 with
  | nil =>
   have hd : ∀ k,k < 5→¬ desc p.2 k:=fun k hk dk=>by
    have : k∈fallsL p.2:=List.mem_filter.mpr ⟨List.mem_range.mpr hk,decide_eq_true dk⟩
    rw [hf] at this; cases this
   exact ⟨ks,h1,h2,h3,.inr hd⟩
  | cons k r =>
   have m1 : k∈fallsL p.2:=by rw [hf]; exact .head _
   obtain ⟨m2,m3⟩:=List.mem_filter.mp m1
   have hk:=List.mem_range.mp m2
   have dk : desc p.2 k:=of_decide_eq_true m3
   have hi':=inv_sw h2 hk dk
   refine ⟨ks ++ [k],?_,sw_len k h2,fun us hp=>?_,?_⟩
   ·show gtK p.1 k = _
    rw [h1,List.foldl_append]; rfl
   ·rw [List.append_assoc]
    exact h3 _ (.step hk dk hp)
   ·left
    show inv (sw p.2 k)≤_
    rcases h4 with h4 | h4
    ·exact Nat.le_sub_one_of_lt (Nat.lt_of_lt_of_le (Nat.lt_of_lt_of_eq (Nat.lt_succ_self _) hi') h4)
    ·exact absurd dk (h4 k hk)
theorem fin_pv (lo hi : List Int) (h : hi.length = 6) : ∃ ks,PV hi ks∧finL lo hi = ks.foldl gtK lo:=by
 refine bc fun hG=>?_
 obtain ⟨ks,h1,h2,h3,h4⟩:=fin_inv lo hi h 15
 refine hG ?_
 clear hG
 have hd : ∀ k,k < 5→¬ desc ((List.range 15).foldl (fun p J=>finStep p) (lo,hi)).2 k:=by
  rcases h4 with h4 | h4
  ·intro k hk dk
   have:=inv_sw h2 hk dk
   exact absurd (Nat.lt_of_lt_of_eq (Nat.lt_succ_self _) this) (Nat.not_lt.mpr (Nat.le_trans h4 (Nat.zero_le _)))
  ·exact h4
 have:=h3 [] (.done hd)
 rw [List.append_nil] at this
 exact ⟨ks,this,h1⟩
theorem moved_fin {lo hi : List Int} (hl : lo.length = 6) (hs : small hi = true) (n c : Int) : (dueSt lo (planL (hi.map wd) n) c (planL (hi.map wd) n).length).1 = finL lo hi:=by
 refine bc fun hG=>?_
 obtain ⟨ks,h1,h2⟩:=fin_pv lo hi (small_iff.mp hs).1
 refine hG ?_
 clear hG
 rw [due_fold _ _ _ _ (Nat.le_refl _),List.take_length,h2]
 exact pv_uniq 15 hi (small_iff.mp hs).1 (inv_le _) _ _ _ hl (plan_pv hs n).1 h1
noncomputable def ind (x v : Int) : Nat:=if x≤v then 1 else 0
theorem ind_le (x v : Int) : ind x v≤1:=by unfold ind; split <;> decide
theorem ind_anti {a b : Int} (h : b≤a) (v : Int) : ind a v≤ind b v:=by
 unfold ind; split
 ·rename_i q; rw [if_pos (Int.le_trans h q)]; exact Nat.le_refl _
 ·exact Nat.zero_le _
theorem ind_min (a b v : Int) : ind (min a b) v = max (ind a v) (ind b v):=by
 rcases Int.le_total a b with h | h
 ·rw [Int.min_eq_left h,Nat.max_eq_left (ind_anti h v)]
 ·rw [Int.min_eq_right h,Nat.max_eq_right (ind_anti h v)]
theorem ind_max (a b v : Int) : ind (max a b) v = min (ind a v) (ind b v):=by
 rcases Int.le_total a b with h | h
 ·rw [Int.max_eq_right h,Nat.min_eq_right (ind_anti h v)]
 ·rw [Int.max_eq_left h,Nat.min_eq_left (ind_anti h v)]
theorem cnt_cons (a : Int) (l : List Int) (v : Int) : cnt (a::l) v = cnt l v + ind a v:=by
 unfold cnt ind
 rw [List.countP_cons]
 by_cases h : a≤v <;> simp [h]
noncomputable def bits (p : List Int) (v : Int) : List Nat:=p.map (ind · v)
noncomputable def sm (l : List Nat) : Nat:=l.foldr (fun a s=>s + a) 0
theorem cnt_bits (v : Int) : ∀ p : List Int,cnt p v = sm (bits p v)
 | []=>rfl
 | a::l=>by rw [cnt_cons,cnt_bits v l]; rfl
noncomputable def allB : Nat→List (List Nat)
 | 0=>[[]]
 | n + 1=>(allB n).flatMap fun l=>[0::l,1::l]
theorem bits_mem (v : Int) : ∀ p : List Int,bits p v∈allB p.length
 | []=>.head _
 | a::l=>by
  refine List.mem_flatMap.mpr ⟨_,bits_mem v l,?_⟩
  show ind a v::bits l v∈_
  rcases Nat.le_one_iff_eq_zero_or_eq_one.mp (ind_le a v) with h | h <;> rw [h]
  ·exact .head _
  ·exact .tail _ (.head _)
noncomputable def pre (P Q : List Nat) (m : Nat) : Bool:=Nat.ble (sm (Q.take m)) (sm (P.take m))
noncomputable def domB (P Q : List Nat) : Bool:=pre P Q 1 && (pre P Q 2 && (pre P Q 3 && (pre P Q 4 && (pre P Q 5 && pre P Q 6))))
noncomputable def Dom (v : Int) (p q : List Int) : Prop:=∀ m,m≤6→cnt (q.take m) v≤cnt (p.take m) v
theorem pre_iff {p q : List Int} {v : Int} {m : Nat} : pre (bits p v) (bits q v) m = true ↔ cnt (q.take m) v≤cnt (p.take m) v:=by
 unfold pre bits
 rw [cnt_bits,cnt_bits,bits,bits,List.map_take,List.map_take]
 exact Nat.ble_eq▸Iff.rfl
theorem dom_bits {p q : List Int} {v : Int} : Dom v p q ↔ domB (bits p v) (bits q v) = true:=by
 unfold domB
 simp only [Bool.and_eq_true,pre_iff]
 constructor
 ·intro h
  exact ⟨h 1 (by decide),h 2 (by decide),h 3 (by decide),h 4 (by decide),h 5 (by decide),h 6 (by decide)⟩
 ·rintro ⟨h1,h2,h3,h4,h5,h6⟩ m hm
  match m,hm with
  | 0,_=>exact Nat.le_refl _
  | 1,_=>exact h1
  | 2,_=>exact h2
  | 3,_=>exact h3
  | 4,_=>exact h4
  | 5,_=>exact h5
  | 6,_=>exact h6
  | m + 7,hm=>exact absurd hm (by exact Std.LawfulOrderOrd.isLE_compare_eq_false.mp rfl)
noncomputable def swB (P : List Nat) (k : Nat) : List Nat:=(P.set k (P.getD (k + 1) 0)).set (k + 1) (P.getD k 0)
noncomputable def gtB (P : List Nat) (k : Nat) : List Nat:=(P.set k (max (P.getD k 0) (P.getD (k + 1) 0))).set (k + 1) (min (P.getD k 0) (P.getD (k + 1) 0))
noncomputable def impB (a b : Bool) : Bool:=bif a then b else true
theorem lift_all : ((allB 6).all fun Q=>(List.range 5).all fun k=>impB (Nat.ble (Q.getD k 0) (Q.getD (k + 1) 0)) ((allB 6).all fun P=>domB P Q == domB (gtB P k) (swB Q k))) = true:=by decide +kernel
theorem impB_mp {a b : Bool} (h : impB a b = true) (ha : a = true) : b = true:=by subst ha; exact h
theorem two_eq (a b v : Int) (g : Nat→Nat→List Nat) : g (ind (min a b) v) (ind (max a b) v) = g (max (ind a v) (ind b v)) (min (ind a v) (ind b v)):=by rw [ind_min,ind_max]
theorem bits_gt {p : List Int} (hp : p.length = 6) {k : Nat} (hk : k < 5) (v : Int) : bits (gtK p k) v = gtB (bits p v) k:=by
 refine bc fun hG=>?_
 obtain ⟨a,b,c,d,e,f,rfl⟩:=six hp
 refine hG ?_
 clear hG
 rcases lt5 hk with rfl | rfl | rfl | rfl | rfl
 ·rw [gt0]; exact two_eq a b v fun x y=>[x,y,ind c v,ind d v,ind e v,ind f v]
 ·rw [gt1]; exact two_eq b c v fun x y=>[ind a v,x,y,ind d v,ind e v,ind f v]
 ·rw [gt2]; exact two_eq c d v fun x y=>[ind a v,ind b v,x,y,ind e v,ind f v]
 ·rw [gt3]; exact two_eq d e v fun x y=>[ind a v,ind b v,ind c v,x,y,ind f v]
 ·rw [gt4]; exact two_eq e f v fun x y=>[ind a v,ind b v,ind c v,ind d v,x,y]
theorem bits_sw {q : List Int} (hq : q.length = 6) {k : Nat} (hk : k < 5) (v : Int) : bits (sw q k) v = swB (bits q v) k:=by
 refine bc fun hG=>?_
 obtain ⟨a,b,c,d,e,f,rfl⟩:=six hq
 refine hG ?_
 clear hG
 rcases lt5 hk with rfl | rfl | rfl | rfl | rfl <;> rfl
theorem bits_at {q : List Int} (hq : q.length = 6) {k : Nat} (hk : k < 6) (v : Int) : (bits q v).getD k 0 = ind (q.getD k 0) v:=by
 unfold bits
 rw [List.getD_eq_getElem?_getD,List.getElem?_map,List.getElem?_eq_getElem (hq▸hk),List.getD_eq_getElem?_getD,List.getElem?_eq_getElem (hq▸hk)]; rfl
theorem bits6 {q : List Int} (hq : q.length = 6) (v : Int) : bits q v∈allB 6:=hq▸bits_mem v q
theorem dom_lift {p q : List Int} (hp : p.length = 6) (hq : q.length = 6) {k : Nat} (hk : k < 5) (dk : desc q k) (v : Int) : Dom v p q ↔ Dom v (gtK p k) (sw q k):=by
 have h:=impB_mp (List.all_eq_true.mp (List.all_eq_true.mp lift_all _ (bits6 hq v)) k (List.mem_range.mpr hk)) (by
  rw [bits_at hq (by exact Nat.lt_succ_of_lt hk),bits_at hq (by exact Nat.add_lt_of_lt_sub hk)]
  exact Nat.ble_eq▸ind_anti (Int.le_of_lt dk) v)
 have h:=beq_iff_eq.mp (List.all_eq_true.mp h _ (bits6 hp v))
 rw [dom_bits,dom_bits,bits_gt hp hk,bits_sw hq hk,h]
noncomputable def lowHyp (P Q : List Nat) : Bool:=(List.range 5).all fun k=>(Nat.ble (P.getD (k + 1) 0) (P.getD k 0)) || pre P Q (k + 1)
noncomputable def highHyp (P Q : List Nat) : Bool:=(List.range 5).all fun k=>(Nat.ble (Q.getD k 0) (Q.getD (k + 1) 0)) || pre P Q (k + 1)
theorem low_all : ((allB 6).all fun P=>(allB 6).all fun Q=>impB (Nat.beq (sm P) (sm Q)) (impB (lowHyp P Q) (domB P Q))) = true:=by decide +kernel
theorem high_all : ((allB 6).all fun P=>(allB 6).all fun Q=>impB (Nat.beq (sm P) (sm Q)) (impB (highHyp P Q) (domB P Q))) = true:=by decide +kernel
theorem dom_pv {q : List Int} {ks : List Nat} (h : PV q ks) : ∀ {p : List Int},p.length = 6→q.length = 6→∀ v,Dom v p q ↔ Dom v (ks.foldl gtK p) (ks.foldl sw q):=by
 induction h with
 | done _=>intro p _ _ v; exact Iff.rfl
 | step hk dk _ ih=>intro p hp hq v; exact (dom_lift hp hq hk dk v).trans (ih (gt_len _ hp) (sw_len _ hq) v)
noncomputable abbrev P6 (r : List Int) : Prop:=r.Perm [0,1,2,3,4,5]
theorem P6.len {r : List Int} (h : P6 r) : r.length = 6:=h.length_eq
theorem P6.small {r : List Int} (h : P6 r) : small r = true:=small_iff.mpr ⟨h.len,fun x hx=>by
 have:=h.mem_iff.mp hx
 simp at this; lia⟩
theorem P6.nodup {r : List Int} (h : P6 r) : r.Nodup:=h.nodup_iff.mpr (by decide)
theorem P6.cnt {r q : List Int} (h : P6 r) (h2 : P6 q) (v : Int) : cnt r v = cnt q v:=(h.trans h2.symm).countP_eq _
theorem P6.sw {r : List Int} (h : P6 r) {i j : Nat} (hi : i < 6) (hj : j < 6) (hij : i < j) : P6 (swapR r i j):=by
 refine List.Perm.trans ?_ h
 obtain ⟨a,b,c,d,e,f,rfl⟩:=six h.len
 have key : ∀ {x y : Int} {l m : List Int},(y::(l ++ x::m)).Perm (x::(l ++ y::m)):=fun {x y l m}=>by
  refine List.Perm.trans (List.Perm.cons _ List.perm_middle) (List.Perm.trans (List.Perm.swap x y (l ++ m)) ?_)
  exact List.Perm.cons _ List.perm_middle.symm
 have hj' : j = 1∨j = 2∨j = 3∨j = 4∨j = 5:=by lia
 clear h
 rcases hj' with rfl | rfl | rfl | rfl | rfl
 ·have hi' : i = 0:=by exact Nat.lt_one_iff.mp hij
  rcases hi' with rfl
  ·show List.Perm [b,a,c,d,e,f] [a,b,c,d,e,f]
   exact (key (l:=[]) (m:=[c,d,e,f]))
 ·have hi' : i = 0∨i = 1:=by lia
  rcases hi' with rfl | rfl
  ·show List.Perm [c,b,a,d,e,f] [a,b,c,d,e,f]
   exact (key (l:=[b]) (m:=[d,e,f]))
  ·show List.Perm [a,c,b,d,e,f] [a,b,c,d,e,f]
   exact (.cons _ (key (l:=[]) (m:=[d,e,f])))
 ·have hi' : i = 0∨i = 1∨i = 2:=by lia
  rcases hi' with rfl | rfl | rfl
  ·show List.Perm [d,b,c,a,e,f] [a,b,c,d,e,f]
   exact (key (l:=[b,c]) (m:=[e,f]))
  ·show List.Perm [a,d,c,b,e,f] [a,b,c,d,e,f]
   exact (.cons _ (key (l:=[c]) (m:=[e,f])))
  ·show List.Perm [a,b,d,c,e,f] [a,b,c,d,e,f]
   exact (.cons _ (.cons _ (key (l:=[]) (m:=[e,f]))))
 ·have hi' : i = 0∨i = 1∨i = 2∨i = 3:=by lia
  rcases hi' with rfl | rfl | rfl | rfl
  ·show List.Perm [e,b,c,d,a,f] [a,b,c,d,e,f]
   exact (key (l:=[b,c,d]) (m:=[f]))
  ·show List.Perm [a,e,c,d,b,f] [a,b,c,d,e,f]
   exact (.cons _ (key (l:=[c,d]) (m:=[f])))
  ·show List.Perm [a,b,e,d,c,f] [a,b,c,d,e,f]
   exact (.cons _ (.cons _ (key (l:=[d]) (m:=[f]))))
  ·show List.Perm [a,b,c,e,d,f] [a,b,c,d,e,f]
   exact (.cons _ (.cons _ (.cons _ (key (l:=[]) (m:=[f])))))
 ·have hi' : i = 0∨i = 1∨i = 2∨i = 3∨i = 4:=by exact lt5 hij
  rcases hi' with rfl | rfl | rfl | rfl | rfl
  ·show List.Perm [f,b,c,d,e,a] [a,b,c,d,e,f]
   exact (key (l:=[b,c,d,e]) (m:=[]))
  ·show List.Perm [a,f,c,d,e,b] [a,b,c,d,e,f]
   exact (.cons _ (key (l:=[c,d,e]) (m:=[])))
  ·show List.Perm [a,b,f,d,e,c] [a,b,c,d,e,f]
   exact (.cons _ (.cons _ (key (l:=[d,e]) (m:=[]))))
  ·show List.Perm [a,b,c,f,e,d] [a,b,c,d,e,f]
   exact (.cons _ (.cons _ (.cons _ (key (l:=[e]) (m:=[])))))
  ·show List.Perm [a,b,c,d,f,e] [a,b,c,d,e,f]
   exact (.cons _ (.cons _ (.cons _ (.cons _ (key (l:=[]) (m:=[]))))))
theorem P6.gt {r : List Int} (h : P6 r) {k : Nat} (hk : k < 5) : P6 (gtK r k):=by
 unfold gtK; split
 ·exact h.sw (by exact Nat.lt_succ_of_lt hk) (by exact Nat.add_lt_of_lt_sub hk) (by exact Nat.lt_add_one k)
 ·exact h
theorem PV.lt {q : List Int} {ks : List Nat} (h : PV q ks) : ∀ k∈ks,k < 5:=by
 induction h with
 | done _=>intro k hk; cases hk
 | step hk _ _ ih=>intro k h'; rcases List.mem_cons.mp h' with rfl | h'; exact hk; exact ih k h'
theorem P6.gts {ks : List Nat} : ∀ {r : List Int},P6 r→(∀ k∈ks,k < 5)→P6 (ks.foldl gtK r):=by
 induction ks with
 | nil=>intro r h _; exact h
 | cons k ks ih=>intro r h hk; exact ih (h.gt (hk k (.head _))) fun x hx=>hk x (.tail _ hx)
theorem lt_of' {a b : Int} (h : ¬ b < a) (n : a ≠ b) : a < b:=by lia
set_option tactic.hygienic true in
theorem PV.fin {q : List Int} {ks : List Nat} (h : PV q ks) (hq : P6 q) : ks.foldl Mine.sw q = [0,1,2,3,4,5]:=by
 induction h with
 | done hd =>
  rename_i q
  show q = _
  obtain ⟨a,b,c,d,e,f,rfl⟩:=six hq.len
  have h0:=hd 0 (by decide); have h1:=hd 1 (by decide); have h2:=hd 2 (by decide); have h3:=hd 3 (by decide); have h4:=hd 4 (by decide)
  have h0 : ¬ b < a:=h0
  have h1 : ¬ c < b:=h1
  have h2 : ¬ d < c:=h2
  have h3 : ¬ e < d:=h3
  have h4 : ¬ f < e:=h4
  have hr:=(small_iff.mp hq.small).2
  have ha:=(hr a (List.mem_cons_self)).1; have hf:=(hr f (by exact List.mem_of_getLast? rfl)).2
  have hn:=hq.nodup
  clear hr hq
  have g0:=lt_of' h0 fun e=>(List.nodup_cons.mp hn).1 (e▸.head _)
  replace hn:=(List.nodup_cons.mp hn).2
  have g1:=lt_of' h1 fun e=>(List.nodup_cons.mp hn).1 (e▸.head _)
  replace hn:=(List.nodup_cons.mp hn).2
  have g2:=lt_of' h2 fun e=>(List.nodup_cons.mp hn).1 (e▸.head _)
  replace hn:=(List.nodup_cons.mp hn).2
  have g3:=lt_of' h3 fun e=>(List.nodup_cons.mp hn).1 (e▸.head _)
  replace hn:=(List.nodup_cons.mp hn).2
  have g4:=lt_of' h4 fun e=>(List.nodup_cons.mp hn).1 (e▸.head _)
  clear hn h0 h1 h2 h3 h4 hd
  have l1 : (1 : Int)≤b:=Int.le_trans (Int.add_le_add_right ha 1) g0
  have l2 : (2 : Int)≤c:=Int.le_trans (Int.add_le_add_right l1 1) g1
  have l3 : (3 : Int)≤d:=Int.le_trans (Int.add_le_add_right l2 1) g2
  have l4 : (4 : Int)≤e:=Int.le_trans (Int.add_le_add_right l3 1) g3
  have l5 : (5 : Int)≤f:=Int.le_trans (Int.add_le_add_right l4 1) g4
  have u5 : f≤5:=Int.le_of_lt_add_one hf
  have u4 : e≤4:=Int.le_of_lt_add_one (Int.lt_of_lt_of_le g4 u5)
  have u3 : d≤3:=Int.le_of_lt_add_one (Int.lt_of_lt_of_le g3 u4)
  have u2 : c≤2:=Int.le_of_lt_add_one (Int.lt_of_lt_of_le g2 u3)
  have u1 : b≤1:=Int.le_of_lt_add_one (Int.lt_of_lt_of_le g1 u2)
  have u0 : a≤0:=Int.le_of_lt_add_one (Int.lt_of_lt_of_le g0 u1)
  rw [Int.le_antisymm u0 ha,Int.le_antisymm u1 l1,Int.le_antisymm u2 l2,Int.le_antisymm u3 l3,Int.le_antisymm u4 l4,Int.le_antisymm u5 l5]
 | step hk dk _ ih=>exact ih (hq.sw (by exact Nat.lt_succ_of_lt hk) (by exact Nat.add_lt_of_lt_sub hk) (by exact Nat.le_refl _))
theorem is1 {x : Int} (h : x≤1) (g : 0≤x) (n0 : x ≠ 0) : x = 1:=by lia
theorem is2 {x : Int} (h : x≤2) (g : 0≤x) (n0 : x ≠ 0) (n1 : x ≠ 1) : x = 2:=by lia
theorem is3 {x : Int} (h : x≤3) (g : 0≤x) (n0 : x ≠ 0) (n1 : x ≠ 1) (n2 : x ≠ 2) : x = 3:=by lia
theorem is4 {x : Int} (h : x≤4) (g : 0≤x) (n0 : x ≠ 0) (n1 : x ≠ 1) (n2 : x ≠ 2) (n3 : x ≠ 3) : x = 4:=by lia
theorem is5 {x : Int} (h : x≤5) (g : 0≤x) (n0 : x ≠ 0) (n1 : x ≠ 1) (n2 : x ≠ 2) (n3 : x ≠ 3) (n4 : x ≠ 4) : x = 5:=by lia
theorem cnt_full {l : List Int} {v : Int} (h : l.length≤cnt l v) : ∀ x∈l,x≤v:=fun x hx=>of_decide_eq_true (List.countP_eq_length.mp (Nat.le_antisymm List.countP_le_length h) x hx)
theorem dom_id {p : List Int} (h : P6 p) : (∀ v,Dom v p [0,1,2,3,4,5]) ↔ p = [0,1,2,3,4,5]:=by
 constructor
 ·intro hd
  have hr:=(small_iff.mp h.small).2
  have hn:=h.nodup
  obtain ⟨a,b,c,d,e,f,rfl⟩:=six h.len
  have e0:=cnt_full (l:=[a]) (hd 0 1 (by decide)) a (by exact List.mem_singleton.mpr rfl)
  have e1:=cnt_full (l:=[a,b]) (hd 1 2 (by decide)) b (by exact List.mem_of_getLast? rfl)
  have e2:=cnt_full (l:=[a,b,c]) (hd 2 3 (by decide)) c (by exact List.mem_of_getLast? rfl)
  have e3:=cnt_full (l:=[a,b,c,d]) (hd 3 4 (by decide)) d (by exact List.mem_of_getLast? rfl)
  have e4:=cnt_full (l:=[a,b,c,d,e]) (hd 4 5 (by decide)) e (by exact List.mem_of_getLast? rfl)
  clear hd h
  simp only [List.forall_mem_cons] at hr
  refine bc fun hG=>?_
  obtain ⟨ha,hb,hc,hdd,he,hf,_⟩:=hr
  refine hG ?_
  clear hG
  simp only [List.nodup_cons,List.mem_cons,List.not_mem_nil,or_false,not_or] at hn
  refine bc fun hG=>?_
  obtain ⟨⟨na1,na2,na3,na4,na5⟩,⟨nb2,nb3,nb4,nb5⟩,⟨nc3,nc4,nc5⟩,⟨nd4,nd5⟩,ne5,_⟩:=hn
  obtain rfl:=Int.le_antisymm e0 ha.1
  obtain rfl:=is1 e1 hb.1 (Ne.symm na1)
  obtain rfl:=is2 e2 hc.1 (Ne.symm na2) (Ne.symm nb2)
  obtain rfl:=is3 e3 hdd.1 (Ne.symm na3) (Ne.symm nb3) (Ne.symm nc3)
  obtain rfl:=is4 e4 he.1 (Ne.symm na4) (Ne.symm nb4) (Ne.symm nc4) (Ne.symm nd4)
  obtain rfl:=is5 (Int.le_of_lt_add_one hf.2) hf.1 (Ne.symm na5) (Ne.symm nb5) (Ne.symm nc5) (Ne.symm nd5) (Ne.symm ne5)
  refine hG ?_
  clear hG
  rfl
 ·rintro rfl v m _; exact Nat.le_refl _
theorem fin_dom {lo hi : List Int} (hl : P6 lo) (hh : P6 hi) : finL lo hi = [0,1,2,3,4,5] ↔ ∀ v,Dom v lo hi:=by
 obtain ⟨ks,h1,h2⟩:=fin_pv lo hi hh.len
 rw [h2,← dom_id (hl.gts h1.lt),← h1.fin hh]
 exact forall_congr' fun v=>(dom_pv h1 hl.len hh.len v).symm
theorem pw_cnt (v : Int) : ∀ (L H : List Int),L.length = H.length→(∀ k,k < L.length→L.getD k 0≤H.getD k 0)→cnt H v≤cnt L v
 | [],[],_,_=>Nat.le_refl _
 | a::L,b::H,hl,h=>by
  have h0 : a≤b:=h 0 (by exact Nat.zero_lt_succ L.length)
  have ih:=pw_cnt v L H (by exact Nat.add_right_cancel hl) fun k hk=>by simpa using h (k + 1) (by exact Nat.add_lt_of_lt_sub hk)
  have:=ind_anti h0 v
  rw [cnt_cons,cnt_cons]; exact Nat.add_le_add ih this
theorem cnt_app (l m : List Int) (v : Int) : cnt (l ++ m) v = cnt l v + cnt m v:=List.countP_append
theorem srt_dom {L H : List Int} (hL : Srt L) (hH : Srt H) (hlen : L.length = H.length) : (∀ k,k < L.length→L.getD k 0≤H.getD k 0) ↔ ∀ v,cnt H v≤cnt L v:=by
 refine ⟨fun h v=>pw_cnt v L H hlen h,fun h k hk=>?_⟩
 by_cases hc : L.getD k 0≤H.getD k 0
 ·exact hc
 exfalso
 have hv:=h (H.getD k 0)
 generalize hvv : H.getD k 0 = v at *
 have e1 : cnt (H.take (k + 1)) v = k + 1:=by
  have : cnt (H.take (k + 1)) v = (H.take (k + 1)).length:=by
   refine List.countP_eq_length.mpr fun x hx=>decide_eq_true ?_
   obtain ⟨i,hi,rfl⟩:=List.mem_iff_getElem.mp hx
   rw [List.length_take] at hi
   rw [List.getElem_take]
   have hik : i≤k:=Nat.le_of_lt_succ (Nat.lt_of_lt_of_le hi (Nat.min_le_left _ _))
   rcases Nat.eq_or_lt_of_le hik with q | q
   ·subst q
    rw [List.getD_eq_getElem?_getD,List.getElem?_eq_getElem (by exact Nat.lt_of_lt_of_eq hk hlen)] at hvv
    simp at hvv; exact Int.le_of_eq hvv
   ·have:=hH.get q (by exact Nat.lt_of_lt_of_eq hk hlen)
    rw [hvv,List.getD_eq_getElem?_getD,List.getElem?_eq_getElem (Nat.lt_of_lt_of_le hi (Nat.min_le_right _ _))] at this
    simpa using this
  rw [this,List.length_take]; exact Nat.min_eq_left (hlen▸hk)
 have e2 : cnt (L.drop k) v = 0:=by
  refine List.countP_eq_zero.mpr fun x hx=>?_
  obtain ⟨i,hi,rfl⟩:=List.mem_iff_getElem.mp hx
  rw [List.length_drop] at hi
  rw [List.getElem_drop]
  have : L.getD k 0≤L.getD (k + i) 0:=by
   rcases Nat.eq_zero_or_pos i with q | q
   ·subst q; exact Int.le_refl _
   ·exact hL.get (by exact Nat.lt_add_of_pos_right q) (by exact Nat.add_lt_of_lt_sub' hi)
  rw [List.getD_eq_getElem?_getD (i:=k + i),List.getElem?_eq_getElem (by exact Nat.add_lt_of_lt_sub' hi)] at this
  have this : L.getD k 0≤L[k + i]:=this
  rw [decide_eq_true_iff]
  exact fun q=>hc (Int.le_trans this q)
 have e3 : cnt (L.take k) v≤k:=by
  have:=List.countP_le_length (p:=fun x : Int=>decide (x≤v)) (l:=L.take k)
  rw [List.length_take] at this
  exact Nat.le_trans this (Nat.min_le_left _ _)
 have e4 : cnt H v = cnt (H.take (k + 1)) v + cnt (H.drop (k + 1)) v:=by rw [← cnt_app,List.take_append_drop]
 have e5 : cnt L v = cnt (L.take k) v + cnt (L.drop k) v:=by rw [← cnt_app,List.take_append_drop]
 rw [e4,e5,e1,e2] at hv
 exact absurd (Nat.le_trans (Nat.le_add_right _ _) (Nat.le_trans hv e3)) (Nat.not_succ_le_self k)
theorem cnt_sort (l : List Int) (v : Int) : cnt (sortI l) v = cnt l v:=(sortI_perm l).countP_eq _
theorem front_dom {lo hi : List Int} (hl : lo.length = 6) (hh : hi.length = 6) {c : Nat} (hc : c≤6) : frontOk lo hi c = true ↔ ∀ v,cnt (hi.take c) v≤cnt (lo.take c) v:=by
 have h1 : (sortI (lo.take c)).length = c:=by rw [sortI_len,List.length_take]; lia
 have h2 : (sortI (hi.take c)).length = c:=by rw [sortI_len,List.length_take]; lia
 have h3:=srt_dom (sortI_srt (lo.take c)) (sortI_srt (hi.take c)) (h1.trans h2.symm)
 have h4 : (∀ v,cnt (hi.take c) v≤cnt (lo.take c) v) ↔ ∀ v,cnt (sortI (hi.take c)) v≤cnt (sortI (lo.take c)) v:=forall_congr' fun v=>by rw [cnt_sort,cnt_sort]
 rw [h4,← h3,h1]
 unfold frontOk
 rw [List.all_eq_true]
 constructor
 ·intro h k hk
  have:=h k (List.mem_range.mpr hk)
  simp at this; exact this
 ·intro h k hk
  have:=h k (List.mem_range.mp hk)
  simp; exact this
theorem af_dom {lo hi : List Int} (hl : P6 lo) (hh : P6 hi) : afL lo hi = true ↔ ∀ v,Dom v lo hi:=by
 unfold afL
 rw [List.all_eq_true]
 constructor
 ·intro h v m hm
  rcases Nat.eq_zero_or_pos m with q | q
  ·subst q; exact Nat.le_refl _
  ·rcases Nat.lt_or_ge m 6 with q2 | q2
   ·have:=(front_dom hl.len hh.len (by lia)).mp (h (m - 1) (List.mem_range.mpr (by exact Nat.sub_lt_left_of_lt_add q q2))) v
    rw [show m - 1 + 1 = m by exact Nat.sub_add_cancel q] at this
    exact this
   ·have : m = 6:=by exact Eq.symm (Nat.le_antisymm q2 hm)
    subst this
    rw [List.take_of_length_le (Nat.le_of_eq hh.len),List.take_of_length_le (Nat.le_of_eq hl.len),hl.cnt hh v]
    exact Nat.le_refl _
 ·intro h c hc
  have:=List.mem_range.mp hc
  exact (front_dom hl.len hh.len (by exact Nat.le_succ_of_le this)).mpr fun v=>h v _ (by exact Nat.le_succ_of_le this)
theorem enough {lo hi : List Int} (hl : P6 lo) (hh : P6 hi) {v : Int} {H : List Nat→List Nat→Bool} (all : ((allB 6).all fun P=>(allB 6).all fun Q=>impB (Nat.beq (sm P) (sm Q)) (impB (H P Q) (domB P Q))) = true) (h : H (bits lo v) (bits hi v) = true) : Dom v lo hi:=by
 have a:=List.all_eq_true.mp (List.all_eq_true.mp all _ (bits6 hl.len v)) _ (bits6 hh.len v)
 refine dom_bits.mpr (impB_mp (impB_mp a ?_) h)
 rw [← cnt_bits,← cnt_bits,hl.cnt hh v]
 exact Nat.beq_refl _
theorem low_enough {lo hi : List Int} (hl : P6 lo) (hh : P6 hi) (v : Int) (h : ∀ m,1≤m→m≤5→desc lo (m - 1)→cnt (hi.take m) v≤cnt (lo.take m) v) : Dom v lo hi:=by
 refine enough hl hh low_all (List.all_eq_true.mpr fun k hk=>Bool.or_eq_true_iff.mpr ?_)
 have hk:=List.mem_range.mp hk
 by_cases q : desc lo k
 ·exact .inr (pre_iff.mpr (h (k + 1) (Nat.succ_pos k) hk q))
 ·rw [bits_at hl.len (Nat.lt_succ_of_lt hk),bits_at hl.len (Nat.succ_lt_succ hk)]
  exact .inl (Nat.ble_eq▸ind_anti (Int.not_lt.mp q) v)
theorem high_enough {lo hi : List Int} (hl : P6 lo) (hh : P6 hi) (v : Int) (h : ∀ m,1≤m→m≤5→¬ desc hi (m - 1)→cnt (hi.take m) v≤cnt (lo.take m) v) : Dom v lo hi:=by
 refine enough hl hh high_all (List.all_eq_true.mpr fun k hk=>Bool.or_eq_true_iff.mpr ?_)
 have hk:=List.mem_range.mp hk
 by_cases q : desc hi k
 ·rw [bits_at hh.len (Nat.lt_succ_of_lt hk),bits_at hh.len (Nat.succ_lt_succ hk)]
  exact .inl (Nat.ble_eq▸ind_anti (Int.le_of_lt q) v)
 ·exact .inr (pre_iff.mpr (h (k + 1) (Nat.succ_pos k) hk q))
theorem fronts_dom {lo hi : List Int} (hl : P6 lo) (hh : P6 hi) {ms : List Nat} (h6 : ∀ m∈ms,m≤6) (hs : ∀ v,(∀ m∈ms,cnt (hi.take m) v≤cnt (lo.take m) v)→Dom v lo hi) : frontsB lo hi ms = true ↔ ∀ v,Dom v lo hi:=by
 unfold frontsB
 rw [List.all_eq_true]
 constructor
 ·intro h v
  refine hs v fun m hm=>?_
  have hm':=List.all_eq_true.mp (h m hm)
  have hlr:=(small_iff.mp hl.small).2
  have hhr:=(small_iff.mp hh.small).2
  rcases Int.lt_or_le v 0 with q | q
  ·have : cnt (hi.take m) v = 0:=List.countP_eq_zero.mpr fun x hx=>by
    have:=hhr x (List.mem_of_mem_take hx)
    simp; exact Int.lt_of_lt_of_le q this.1
   lia
  ·rcases Int.lt_or_le v 5 with q2 | q2
   ·have:=hm' v.toNat (List.mem_range.mpr (by exact (Int.toNat_lt q).mpr q2))
    rw [show ((v.toNat : Nat) : Int) = v by exact Int.toNat_of_nonneg q] at this
    simp at this; exact this
   ·have e1 : cnt (hi.take m) v = (hi.take m).length:=List.countP_eq_length.mpr fun x hx=>by
     have:=hhr x (List.mem_of_mem_take hx)
     simp; lia
    have e2 : cnt (lo.take m) v = (lo.take m).length:=List.countP_eq_length.mpr fun x hx=>by
     have:=hlr x (List.mem_of_mem_take hx)
     simp; lia
    rw [e1,e2,List.length_take,List.length_take,hl.len,hh.len]
    exact Nat.le_refl _
 ·intro h m hm
  refine List.all_eq_true.mpr fun k J=>?_
  have:=h (k : Nat) m (h6 m hm)
  simp; exact this
noncomputable def rStep (rs : List Int) (b : Bool) : List Int:=if b then rs.set (rs.length - 1) (rs.getD (rs.length - 1) 0 + 1) else rs ++ [1]
noncomputable def runsB (bs : List Bool) : List Int:=bs.foldl rStep [1]
noncomputable def bitsOf (row : List Int) (sg : Int) : List Bool:=(List.range 5).map fun i=>decide (0 < (row.getD (i + 1) 0 - row.getD i 0) * sg)
theorem runs_bits (row : List Int) (sg : Int) : runsL row sg = runsB (bitsOf row sg):=by
 unfold runsL runsB bitsOf
 rw [List.foldl_map]
 congr 1
 funext rs i
 unfold runStep rStep
 rw [Nat.add_sub_cancel]
 by_cases h : 0 < (row.getD (i + 1) 0 - row.getD i 0) * sg <;> simp [h]
noncomputable def marksF (rs : List Int) (w : Int) : List Int:=(sumsL rs w).filter fun m=>decide (m < 6)
noncomputable def chk (bs : List Bool) (w : Int) : Bool :=
 decide (0 < (runsB bs).length∧(runsB bs).length≤8) && giOk none (rulerL (runsB bs) w) && (mkGo (giOut none (rulerL (runsB bs) w)) 20 0 0 [] == some (sumsL (runsB bs) w)) && okMs 0 (marksF (runsB bs) w) &&
 ((List.range 5).all fun i=>bs.getD i false || ((marksF (runsB bs) w).map Int.toNat).contains (i + 1)) && (((marksF (runsB bs) w).map Int.toNat).all fun m=>decide (m≤6))
theorem chk_all : ∀ b0 b1 b2 b3 b4 : Bool,(chk [b0,b1,b2,b3,b4] 0 && chk [b0,b1,b2,b3,b4] 1 && chk [b0,b1,b2,b3,b4] 2) = true:=by decide +kernel
theorem ruler_mod (rs : List Int) {way r : Int} (h : way.fmod 3 = r) (hr : r = 0∨r = 1∨r = 2) : rulerL rs way = rulerL rs r∧sumsL rs way = sumsL rs r:=by
 unfold rulerL sumsL
 rw [h]
 rcases hr with rfl | rfl | rfl <;> exact ⟨rfl,rfl⟩
theorem chk_way (row : List Int) (sg way : Int) : ∃ r : Int,way.fmod 3 = r∧(r = 0∨r = 1∨r = 2)∧chk (bitsOf row sg) r = true:=by
 have h1:=Int.fmod_nonneg_of_pos way (show (0 : Int) < 3 by decide)
 have h2:=Int.fmod_lt_of_pos way (show (0 : Int) < 3 by decide)
 have hb:=chk_all (decide (0 < (row.getD 1 0 - row.getD 0 0) * sg)) (decide (0 < (row.getD 2 0 - row.getD 1 0) * sg)) (decide (0 < (row.getD 3 0 - row.getD 2 0) * sg)) (decide (0 < (row.getD 4 0 - row.getD 3 0) * sg)) (decide (0 < (row.getD 5 0 - row.getD 4 0) * sg))
 rw [Bool.and_eq_true,Bool.and_eq_true] at hb
 have hr : way.fmod 3 = 0∨way.fmod 3 = 1∨way.fmod 3 = 2:=by lia
 refine ⟨_,rfl,hr,?_⟩
 rcases hr with e | e | e <;> rw [e]
 ·exact hb.1.1
 ·exact hb.1.2
 ·exact hb.2
structure MarksOk (row : List Int) (sg way : Int) : Prop where
 n : 0 < (runsL row sg).length∧(runsL row sg).length≤8
 ok : giOk none (rulerL (runsL row sg) way) = true
 go : mkGo (giOut none (rulerL (runsL row sg) way)) 20 0 0 [] = some (sumsL (runsL row sg) way)
 fs : okMs 0 ((sumsL (runsL row sg) way).filter fun m=>decide (m < 6)) = true
 sup : ∀ i,i < 5→¬ 0 < (row.getD (i + 1) 0 - row.getD i 0) * sg→i + 1∈((sumsL (runsL row sg) way).filter fun m=>decide (m < 6)).map Int.toNat
 le : ∀ m∈((sumsL (runsL row sg) way).filter fun m=>decide (m < 6)).map Int.toNat,m≤6
theorem marks_ok (row : List Int) (sg way : Int) : MarksOk row sg way:=by
 obtain ⟨r,h1,h2,h3⟩:=chk_way row sg way
 rw [chk,Bool.and_eq_true,Bool.and_eq_true,Bool.and_eq_true,Bool.and_eq_true,Bool.and_eq_true,beq_iff_eq,List.all_eq_true,List.all_eq_true] at h3
 refine bc fun hG=>?_
 obtain ⟨⟨⟨⟨⟨q1,q2⟩,q3⟩,q4⟩,q5⟩,q6⟩:=h3
 obtain ⟨e1,e2⟩:=ruler_mod (runsB (bitsOf row sg)) h1 h2
 refine hG ?_
 clear hG
 refine ⟨?_,?_,?_,?_,?_,?_⟩ <;> rw [runs_bits]
 ·exact of_decide_eq_true q1
 ·rw [e1]; exact q2
 ·rw [e1,e2]; exact q3
 ·rw [e2]; exact q4
 ·intro i hi hb
  have:=q5 i (List.mem_range.mpr hi)
  rw [Bool.or_eq_true] at this
  rw [e2]
  rcases this with q | q
  ·have e : (bitsOf row sg).getD i false = decide (0 < (row.getD (i + 1) 0 - row.getD i 0) * sg):=by
    unfold bitsOf
    rw [List.getD_eq_getElem?_getD,List.getElem?_map,List.getElem?_range hi]; rfl
   rw [e] at q
   exact absurd (of_decide_eq_true q) hb
  ·exact List.contains_iff_mem.mp q
 ·intro m hm
  rw [e2] at hm
  exact of_decide_eq_true (q6 m hm)
theorem P6.gtS {r : List Int} (h : P6 r) {p : Nat × Nat} (h1 : p.1 < 6) (h2 : p.2 < 6) (h3 : p.1 < p.2) : P6 (gtS r p):=by
 unfold Mine.gtS; split
 ·exact P6.sw h h1 h2 h3
 ·exact h
theorem P6.ltS {r : List Int} (h : P6 r) {p : Nat × Nat} (h1 : p.1 < 6) (h2 : p.2 < 6) (h3 : p.1 < p.2) : P6 (ltS r p):=by
 unfold Mine.ltS; split
 ·exact P6.sw h h1 h2 h3
 ·exact h
theorem low_p6 {row : List Int} (h : P6 row) (cell up : Int) : P6 (lowL row cell up):=by
 have hf : ∀ (ts : List Nat) (r : List Int),P6 r→P6 (ts.foldl (fun r t=>gtS r (PR.getD (cellAt cell t) (0,1))) r):=by
  intro ts
  induction ts with
  | nil=>intro r hr; exact hr
  | cons t ts ih =>
   intro r hr
   obtain ⟨q1,q2,q3,_⟩:=PR_lt (cellAt_lt cell t)
   exact ih _ (hr.gtS q1 q2 q3)
 unfold lowL
 have h0:=hf (List.range 3) row h
 show P6 (if up.fmod 30 < 15 then ltS _ (PR.getD (up.fmod 30).toNat (0,1)) else _)
 split
 ·rename_i hu
  have h1:=Int.fmod_nonneg_of_pos up (show (0 : Int) < 30 by decide)
  refine bc fun hG=>?_
  obtain ⟨q1,q2,q3,_⟩:=PR_lt (k:=(up.fmod 30).toNat) (by exact (Int.toNat_lt h1).mpr hu)
  refine hG ?_
  clear hG
  exact h0.ltS q1 q2 q3
 ·exact h0
theorem law_pure (c0 c1 c2 c3 c4 c5 : Int) : LawF (orderL c0) (lowL (orderL c0) c1 c2) (planL ((orderL c0).map wd) c3) c4 c5:=by
 have hh : P6 (orderL c0):=order_perm c0
 have hl : P6 (lowL (orderL c0) c1 c2):=low_p6 hh c1 c2
 generalize orderL c0 = hi at *
 generalize lowL hi c1 c2 = lo at *
 refine bc fun hG=>?_
 obtain ⟨p1,p2,p3⟩:=plan_pv hh.small c3
 obtain ⟨ks,k1,k2⟩:=fin_pv lo hi hh.len
 refine hG ?_
 clear hG
 have hf : P6 (finL lo hi):=by rw [k2]; exact hl.gts k1.lt
 have U:=marks_ok lo 1 c5
 have D:=marks_ok hi (-1) (c5.fdiv 3)
 have bool_eq : ∀ {a b : Bool} {p : Prop},(a = true ↔ p)→(b = true ↔ p)→a = b:=fun h1 h2=>Bool.eq_iff_iff.mpr (h1.trans h2.symm)
 have ha:=af_dom hl hh
 refine ⟨hh.small,hl.small,p2,p3,moved_fin hl.len hh.small c3 c4,hf.small,U.n,D.n,U.ok,U.go,D.ok,D.go,U.fs,?_,D.fs,?_,?_⟩
 ·refine bool_eq (fronts_dom hl hh U.le fun v hv=>low_enough hl hh v fun m h1 h5 hd=>hv m ?_) ha
  have:=U.sup (m - 1) (by lia) (by have hd : lo.getD (m - 1 + 1) 0 < lo.getD (m - 1) 0:=hd; lia)
  rwa [show m - 1 + 1 = m by lia] at this
 ·refine bool_eq (fronts_dom hl hh D.le fun v hv=>high_enough hl hh v fun m h1 h5 hd=>hv m ?_) ha
  have:=D.sup (m - 1) (by lia) (by have hd : ¬ hi.getD (m - 1 + 1) 0 < hi.getD (m - 1) 0:=hd; lia)
  rwa [show m - 1 + 1 = m by lia] at this
 ·exact bool_eq (decide_eq_true_iff.trans (fin_dom hl hh)) ha
end Mine
theorem PySem.Challenge.cw_uc0041_01_holds : PySem.Challenge.rw_uc0041_01.Holds :=
 Mine.holds_of fun J J=>Mine.law_pure _ _ _ _ _ _
